import JvmDerived
import JvmDerived.Pilot.@@N@@Statement
import JvmDerived.Pilot.@@N@@Code
set_option linter.unusedVariables false
set_option linter.unusedSimpArgs false
namespace Jvm.Pilot.@@N@@
open Jvm Jvm.ClassFile Sem Op Lib Jvm.Free Jvm.Stand Jvm.LawKit Jvm.RoadKit Bundle Jvm.Pilot.@@N@@.Jvm.D
section Own
variable {p : Program} {l : Launch} {e : Env} {R : Room} {s : State} {m : MethodId} {args : Array Value} {below : List Frame} {meth : Method} {c : Code} {T : State} {locs : List Loc} {cells slots : Nat}
def Goes (p : Program) (e : Env) (below : List Frame) (P : State → Outcome → Prop) (A : State) : Prop :=
  ∃ s₂ o, Steps p.tables e below A s₂ ∧ s₂.status = .running ∧ Ended s₂ below o ∧ P s₂ o
theorem Goes.via {P : State → Outcome → Prop} {A B : State} (h : ∀ t, Steps p.tables e below B t → Steps p.tables e below A t) (k : Goes p e below P B) : Goes p e below P A := by
  obtain ⟨s₂, o, h1, h2⟩ := k
  exact ⟨s₂, o, h _ h1, h2⟩
theorem own_join {P : State → Outcome → Prop} {A B : State} (h : Goes p e below P B → Goes p e below P A) (k : Goes p e below P B) : Goes p e below P A := h k
theorem Goes.cast {P : State → Outcome → Prop} {g g' : JFrame} (q : g = g') (k : Goes p e below P (T.setTop g')) : Goes p e below P (T.setTop g) := q ▸ k
theorem own_out (X : Stand p l e R s m args below meth c T locs cells slots) {v : Option Value} (hv : meth.sig.returnType = none → v = none) (hlocks : meth.locks = false) {A : State} {Q : Option Value → Heap → List Loc → Prop} {kc ks : Nat}
    (st : ∀ fs, (∀ (f : JFrame) (acts : List Action), f.method = m → f.locked = none → f.entered = [] → (doReturn e (T.setTop f) acts v).1 = T.setFrames fs) → Steps p.tables e below A (T.setFrames fs))
    (hQ : Q v T.heap locs) (hc : cells ≤ kc) (hs : slots ≤ ks) : Goes p e below (fun s₂ o => ∃ v L, o = .returned v ∧ Q v s₂.heap L ∧ FrameEnd s o s₂ L kc ks) A := by
  obtain ⟨fs, hr, hrun, hended, hW, hsame⟩ := X.leave (v := v) hv hlocks
  exact ⟨_, _, st fs hr, hrun, hended, v, locs, rfl, hQ, ⟨_, rfl⟩, hW, hsame.mono hc hs⟩
end Own
def own_lo (x y : Int32) : Int32 := if y < x then y else x
def own_hi (x y : Int32) : Int32 := if y < x then x else y
theorem own_two (x y : Int32) : (own_lo x y).toInt ≤ (own_hi x y).toInt ∧ ((own_lo x y = x ∧ own_hi x y = y) ∨ (own_lo x y = y ∧ own_hi x y = x)) := by
  by_cases h : y < x
  · rw [own_lo, own_hi, if_pos h, if_pos h]
    rw [Int32.lt_iff_toInt_lt] at h
    exact ⟨by omega, Or.inr ⟨rfl, rfl⟩⟩
  · rw [own_lo, own_hi, if_neg h, if_neg h]
    rw [Int32.lt_iff_toInt_lt] at h
    exact ⟨by omega, Or.inl ⟨rfl, rfl⟩⟩
theorem d1_0 : decode method_2_code 0 = .ok (.aload_n 0, 1) := by decide +kernel
theorem d1_1 : decode method_2_code 1 = .ok (.iload_n 1, 1) := by decide +kernel
theorem d1_2 : decode method_2_code 2 = .ok (.iaload, 1) := by decide +kernel
theorem d1_3 : decode method_2_code 3 = .ok (.aload_n 0, 1) := by decide +kernel
theorem d1_4 : decode method_2_code 4 = .ok (.iload_n 2, 1) := by decide +kernel
theorem d1_5 : decode method_2_code 5 = .ok (.iaload, 1) := by decide +kernel
theorem d1_6 : decode method_2_code 6 = .ok (.if_icmp .le 17, 3) := by decide +kernel
theorem d1_9 : decode method_2_code 9 = .ok (.aload_n 0, 1) := by decide +kernel
theorem d1_10 : decode method_2_code 10 = .ok (.iload_n 1, 1) := by decide +kernel
theorem d1_11 : decode method_2_code 11 = .ok (.iaload, 1) := by decide +kernel
theorem d1_12 : decode method_2_code 12 = .ok (.istore_n 3, 1) := by decide +kernel
theorem d1_13 : decode method_2_code 13 = .ok (.aload_n 0, 1) := by decide +kernel
theorem d1_14 : decode method_2_code 14 = .ok (.iload_n 1, 1) := by decide +kernel
theorem d1_15 : decode method_2_code 15 = .ok (.aload_n 0, 1) := by decide +kernel
theorem d1_16 : decode method_2_code 16 = .ok (.iload_n 2, 1) := by decide +kernel
theorem d1_17 : decode method_2_code 17 = .ok (.iaload, 1) := by decide +kernel
theorem d1_18 : decode method_2_code 18 = .ok (.iastore, 1) := by decide +kernel
theorem d1_19 : decode method_2_code 19 = .ok (.aload_n 0, 1) := by decide +kernel
theorem d1_20 : decode method_2_code 20 = .ok (.iload_n 2, 1) := by decide +kernel
theorem d1_21 : decode method_2_code 21 = .ok (.iload_n 3, 1) := by decide +kernel
theorem d1_22 : decode method_2_code 22 = .ok (.iastore, 1) := by decide +kernel
theorem d1_23 : decode method_2_code 23 = .ok (.return_, 1) := by decide +kernel
theorem pn_com_example_noise_to_nodes_noisetonodes_AscendingIntsCountBelowPinLaw : plainName "com/example/noise_to_nodes/noisetonodes/AscendingIntsCountBelowPinLaw" = true := by first | (simp [plainName, overriddenIn]; done) | decide +kernel
theorem ef_1_01 (m : MethodId) (x0 : Addr) (x1 : Int32) (x2 : Int32) : entryFrame m #[(.ref x0), (.int x1), (.int x2)] 4 = mkF m 0 #[.val (.ref x0), .val (.int x1), .val (.int x2), .unset] [] := by first | (simp [entryFrame, mkF, argsToLocals, Value.category]; done) | rfl
def Q1_01 (Z : State) (a1 : Addr) (k1 : ClassId) (y0 : Int32) (y1 : Int32) (y2 : Int32) (y3 : Int32) (h0 : Heap) (n0 : Nat) (v : Option Value) (h : Heap) (L : List Loc) : Prop := v = none ∧ Fr n0 L ∧ Keep h0 h [a1] ∧ Arv Z h a1 k1 .int (4 : Int32) [(.int (own_lo y0 y1)), (.int (own_hi y0 y1)), (.int y2), (.int y3)] (.int (0 : Int32))
set_option maxRecDepth 65536 in
set_option maxHeartbeats 40000000 in
theorem rm1_01 (l : Launch) (Z : State) (a0 : Array Value) (hw : ∀ d ∈ tables_1, d.before a0 Z = true) (ws : List Jvm.Cond) (a1 : Addr) (k1 : ClassId) (y0 : Int32) (y1 : Int32) (y2 : Int32) (y3 : Int32) (h0 : Heap) (n0 : Nat) (Z0 : n0 ≤ h0.size) (V0 : Arv Z h0 a1 k1 .int (4 : Int32) [(.int y0), (.int y1), (.int y2), (.int y3)] (.int (0 : Int32))) (g_a1 : n0 ≤ a1) :
    MetFree l (⟨"com/example/noise_to_nodes/noisetonodes/AscendingIntsCountBelowPinLaw", "cx", "([III)V"⟩ : MethodName) (head1 (Jvm.Cond.code (⟨"com/example/noise_to_nodes/noisetonodes/AscendingIntsCountBelowPinLaw", "cx", "([III)V"⟩ : MethodName) method_2_code 4 none :: ws) ({ frames := 0, cells := 0, slots := 0, locals := 0 } : Room)) (fun a U => a = #[(.ref a1), (.int (0 : Int32)), (.int (1 : Int32))] ∧ Z.Warmed39 U.vm ∧ U.heap = h0) (fun _ _ _ _ _ => True) (fun _ U o U' => ∃ v L, o = .returned v ∧ Q1_01 Z a1 k1 y0 y1 y2 y3 h0 n0 v U'.heap L ∧ FrameEnd U o U' L ({ frames := 0, cells := 0, slots := 0, locals := 0 } : Room).cells ({ frames := 0, cells := 0, slots := 0, locals := 0 } : Room).slots) := by
  refine MetFree.of_bodySF (plainFor_of_name pn_com_example_noise_to_nodes_noisetonodes_AscendingIntsCountBelowPinLaw) hisR ?_
  intro p e s m args below meth c s₁ Bd hml0 hP hK
  obtain ⟨rfl, hZ, hh⟩ := hP
  have hx := Bd.exec
  have hby := Bd.bytes
  have hml : c.maxLocals = 4 := hml0
  have hown : s.vm.findClass "com/example/noise_to_nodes/noisetonodes/AscendingIntsCountBelowPinLaw" = some m.cls := findClass_of_methodNamed Bd.named
  have hnm := (name_of_methodNamed Bd.named Bd.method).1
  have X0 : Stand p l e ({ frames := 0, cells := 0, slots := 0, locals := 0 } : Room) s m #[(.ref a1), (.int (0 : Int32)), (.int (1 : Int32))] below meth c s₁ [] 0 0 := Stand.of_body Bd
  have e0 : s₁.heap = h0 := by rw [← hh, Bd.state]; rfl
  have N0 := Fr.nil n0
  show Goes p e below (fun s₂ o => ∃ v L, o = .returned v ∧ Q1_01 Z a1 k1 y0 y1 y2 y3 h0 n0 v s₂.heap L ∧ FrameEnd s o s₂ L ({ frames := 0, cells := 0, slots := 0, locals := 0 } : Room).cells ({ frames := 0, cells := 0, slots := 0, locals := 0 } : Room).slots) (s₁.setTop (entryFrame m #[(.ref a1), (.int (0 : Int32)), (.int (1 : Int32))] 4))
  refine Goes.cast (ef_1_01 m a1 (0 : Int32) (1 : Int32)) ?_
  have K0 := Keep.refl h0 [a1]
  refine Goes.via (B := s₁.setTop (mkF m 1 #[.val (.ref a1), .val (.int (0 : Int32)), .val (.int (1 : Int32)), .unset] [(.ref a1)])) (fun t k => XS.aloadN X0.here hx rfl (hb hby d1_0) rfl rfl k) ?_
  refine Goes.via (B := s₁.setTop (mkF m 2 #[.val (.ref a1), .val (.int (0 : Int32)), .val (.int (1 : Int32)), .unset] [(.int (0 : Int32)), (.ref a1)])) (fun t k => XS.iloadN X0.here hx rfl (hb hby d1_1) rfl k) ?_
  obtain ⟨cl1, Ar1, q1, S1, M1, H1, G1⟩ := V0
  have hin1 : ¬ ((0 : Int32) < 0 ∨ cl1.slots.size ≤ ((0 : Int32)).toNatClampNeg) := inb_of S1 ⟨by decide, by decide⟩
  have hat1 : cl1.slots[((0 : Int32)).toNatClampNeg]? = some (.int y0) := H1.at hin1 rfl
  refine Goes.via (B := s₁.setTop (mkF m 3 #[.val (.ref a1), .val (.int (0 : Int32)), .val (.int (1 : Int32)), .unset] [(.int y0)])) (fun t k => X0.iaload hx (j := (0 : Int32)) (v := (.int y0)) (by rw [e0]; exact Ar1.1) (State.isArrayOf_alike hZ.alike Ar1.2.1) Ar1.2.2 hin1 hat1 (g := (mkF m 2 #[.val (.ref a1), .val (.int (0 : Int32)), .val (.int (1 : Int32)), .unset] [(.int (0 : Int32)), (.ref a1)])) rfl rfl (hb hby d1_2) _ k) ?_
  refine Goes.via (B := s₁.setTop (mkF m 4 #[.val (.ref a1), .val (.int (0 : Int32)), .val (.int (1 : Int32)), .unset] [(.ref a1), (.int y0)])) (fun t k => XS.aloadN X0.here hx rfl (hb hby d1_3) rfl rfl k) ?_
  refine Goes.via (B := s₁.setTop (mkF m 5 #[.val (.ref a1), .val (.int (0 : Int32)), .val (.int (1 : Int32)), .unset] [(.int (1 : Int32)), (.ref a1), (.int y0)])) (fun t k => XS.iloadN X0.here hx rfl (hb hby d1_4) rfl k) ?_
  obtain ⟨cl2, Ar2, q2, S2, M2, H2, G2⟩ := (⟨cl1, Ar1, q1, S1, M1, H1, G1⟩ : Arv Z h0 a1 k1 .int (4 : Int32) [(.int y0), (.int y1), (.int y2), (.int y3)] (.int (0 : Int32)))
  have hin2 : ¬ ((1 : Int32) < 0 ∨ cl2.slots.size ≤ ((1 : Int32)).toNatClampNeg) := inb_of S2 ⟨by decide, by decide⟩
  have hat2 : cl2.slots[((1 : Int32)).toNatClampNeg]? = some (.int y1) := H2.at hin2 rfl
  refine Goes.via (B := s₁.setTop (mkF m 6 #[.val (.ref a1), .val (.int (0 : Int32)), .val (.int (1 : Int32)), .unset] [(.int y1), (.int y0)])) (fun t k => X0.iaload hx (j := (1 : Int32)) (v := (.int y1)) (by rw [e0]; exact Ar2.1) (State.isArrayOf_alike hZ.alike Ar2.2.1) Ar2.2.2 hin2 hat2 (g := (mkF m 5 #[.val (.ref a1), .val (.int (0 : Int32)), .val (.int (1 : Int32)), .unset] [(.int (1 : Int32)), (.ref a1), (.int y0)])) rfl rfl (hb hby d1_5) _ k) ?_
  by_cases c6_3 : y1 < y0
  · refine Goes.via (B := s₁.setTop (mkF m 9 #[.val (.ref a1), .val (.int (0 : Int32)), .val (.int (1 : Int32)), .unset] [])) (fun t k => XS.icmpNo X0.here hx rfl (hb hby d1_6) rfl (tlt c6_3).2.2.2 k) ?_
    refine Goes.via (B := s₁.setTop (mkF m 10 #[.val (.ref a1), .val (.int (0 : Int32)), .val (.int (1 : Int32)), .unset] [(.ref a1)])) (fun t k => XS.aloadN X0.here hx rfl (hb hby d1_9) rfl rfl k) ?_
    refine Goes.via (B := s₁.setTop (mkF m 11 #[.val (.ref a1), .val (.int (0 : Int32)), .val (.int (1 : Int32)), .unset] [(.int (0 : Int32)), (.ref a1)])) (fun t k => XS.iloadN X0.here hx rfl (hb hby d1_10) rfl k) ?_
    obtain ⟨cl4, Ar4, q4, S4, M4, H4, G4⟩ := (⟨cl2, Ar2, q2, S2, M2, H2, G2⟩ : Arv Z h0 a1 k1 .int (4 : Int32) [(.int y0), (.int y1), (.int y2), (.int y3)] (.int (0 : Int32)))
    have hin4 : ¬ ((0 : Int32) < 0 ∨ cl4.slots.size ≤ ((0 : Int32)).toNatClampNeg) := inb_of S4 ⟨by decide, by decide⟩
    have hat4 : cl4.slots[((0 : Int32)).toNatClampNeg]? = some (.int y0) := H4.at hin4 rfl
    refine Goes.via (B := s₁.setTop (mkF m 12 #[.val (.ref a1), .val (.int (0 : Int32)), .val (.int (1 : Int32)), .unset] [(.int y0)])) (fun t k => X0.iaload hx (j := (0 : Int32)) (v := (.int y0)) (by rw [e0]; exact Ar4.1) (State.isArrayOf_alike hZ.alike Ar4.2.1) Ar4.2.2 hin4 hat4 (g := (mkF m 11 #[.val (.ref a1), .val (.int (0 : Int32)), .val (.int (1 : Int32)), .unset] [(.int (0 : Int32)), (.ref a1)])) rfl rfl (hb hby d1_11) _ k) ?_
    refine Goes.via (B := s₁.setTop (mkF m 13 #[.val (.ref a1), .val (.int (0 : Int32)), .val (.int (1 : Int32)), .val (.int y0)] [])) (fun t k => XS.istoreN X0.here hx rfl (hb hby d1_12) rfl (l' := #[.val (.ref a1), .val (.int (0 : Int32)), .val (.int (1 : Int32)), .val (.int y0)]) rfl k) ?_
    refine Goes.via (B := s₁.setTop (mkF m 14 #[.val (.ref a1), .val (.int (0 : Int32)), .val (.int (1 : Int32)), .val (.int y0)] [(.ref a1)])) (fun t k => XS.aloadN X0.here hx rfl (hb hby d1_13) rfl rfl k) ?_
    refine Goes.via (B := s₁.setTop (mkF m 15 #[.val (.ref a1), .val (.int (0 : Int32)), .val (.int (1 : Int32)), .val (.int y0)] [(.int (0 : Int32)), (.ref a1)])) (fun t k => XS.iloadN X0.here hx rfl (hb hby d1_14) rfl k) ?_
    refine Goes.via (B := s₁.setTop (mkF m 16 #[.val (.ref a1), .val (.int (0 : Int32)), .val (.int (1 : Int32)), .val (.int y0)] [(.ref a1), (.int (0 : Int32)), (.ref a1)])) (fun t k => XS.aloadN X0.here hx rfl (hb hby d1_15) rfl rfl k) ?_
    refine Goes.via (B := s₁.setTop (mkF m 17 #[.val (.ref a1), .val (.int (0 : Int32)), .val (.int (1 : Int32)), .val (.int y0)] [(.int (1 : Int32)), (.ref a1), (.int (0 : Int32)), (.ref a1)])) (fun t k => XS.iloadN X0.here hx rfl (hb hby d1_16) rfl k) ?_
    obtain ⟨cl5, Ar5, q5, S5, M5, H5, G5⟩ := (⟨cl4, Ar4, q4, S4, M4, H4, G4⟩ : Arv Z h0 a1 k1 .int (4 : Int32) [(.int y0), (.int y1), (.int y2), (.int y3)] (.int (0 : Int32)))
    have hin5 : ¬ ((1 : Int32) < 0 ∨ cl5.slots.size ≤ ((1 : Int32)).toNatClampNeg) := inb_of S5 ⟨by decide, by decide⟩
    have hat5 : cl5.slots[((1 : Int32)).toNatClampNeg]? = some (.int y1) := H5.at hin5 rfl
    refine Goes.via (B := s₁.setTop (mkF m 18 #[.val (.ref a1), .val (.int (0 : Int32)), .val (.int (1 : Int32)), .val (.int y0)] [(.int y1), (.int (0 : Int32)), (.ref a1)])) (fun t k => X0.iaload hx (j := (1 : Int32)) (v := (.int y1)) (by rw [e0]; exact Ar5.1) (State.isArrayOf_alike hZ.alike Ar5.2.1) Ar5.2.2 hin5 hat5 (g := (mkF m 17 #[.val (.ref a1), .val (.int (0 : Int32)), .val (.int (1 : Int32)), .val (.int y0)] [(.int (1 : Int32)), (.ref a1), (.int (0 : Int32)), (.ref a1)])) rfl rfl (hb hby d1_17) _ k) ?_
    obtain ⟨cl6, Ar6, q6, S6, M6, H6, G6⟩ := (⟨cl5, Ar5, q5, S5, M5, H5, G5⟩ : Arv Z h0 a1 k1 .int (4 : Int32) [(.int y0), (.int y1), (.int y2), (.int y3)] (.int (0 : Int32)))
    have hin6 : ¬ ((0 : Int32) < 0 ∨ cl6.slots.size ≤ ((0 : Int32)).toNatClampNeg) := inb_of S6 ⟨by decide, by decide⟩
    obtain ⟨T6, h6, X6, e6, W6, st6⟩ := stI X0 hx hZ e0 Ar6 (j := (0 : Int32)) hin6 (g := (mkF m 18 #[.val (.ref a1), .val (.int (0 : Int32)), .val (.int (1 : Int32)), .val (.int y0)] [(.int y1), (.int (0 : Int32)), (.ref a1)])) rfl rfl (hb hby d1_18)
    have Va1_6 := Arv.set Ar6 q6 S6 M6 H6 G6 rfl W6 0 rfl (Nat.le_of_ble_eq_true rfl)
    replace Va1_6 : Arv Z h6 a1 k1 .int (4 : Int32) [(.int y1), (.int y1), (.int y2), (.int y3)] (.int (0 : Int32)) := Va1_6
    have N6 := Fr.snoc X6 N0 g_a1
    have Z6 : n0 ≤ h6.size := Nat.le_trans Z0 (Nat.le_of_eq W6.size.symm)
    have K6 := K0.wr W6 (Or.inl (List.mem_singleton.mpr rfl))
    refine Goes.via (B := T6.setTop (mkF m 19 #[.val (.ref a1), .val (.int (0 : Int32)), .val (.int (1 : Int32)), .val (.int y0)] [])) st6 ?_
    refine Goes.via (B := T6.setTop (mkF m 20 #[.val (.ref a1), .val (.int (0 : Int32)), .val (.int (1 : Int32)), .val (.int y0)] [(.ref a1)])) (fun t k => XS.aloadN X6.here hx rfl (hb hby d1_19) rfl rfl k) ?_
    refine Goes.via (B := T6.setTop (mkF m 21 #[.val (.ref a1), .val (.int (0 : Int32)), .val (.int (1 : Int32)), .val (.int y0)] [(.int (1 : Int32)), (.ref a1)])) (fun t k => XS.iloadN X6.here hx rfl (hb hby d1_20) rfl k) ?_
    refine Goes.via (B := T6.setTop (mkF m 22 #[.val (.ref a1), .val (.int (0 : Int32)), .val (.int (1 : Int32)), .val (.int y0)] [(.int y0), (.int (1 : Int32)), (.ref a1)])) (fun t k => XS.iloadN X6.here hx rfl (hb hby d1_21) rfl k) ?_
    obtain ⟨cl7, Ar7, q7, S7, M7, H7, G7⟩ := Va1_6
    have hin7 : ¬ ((1 : Int32) < 0 ∨ cl7.slots.size ≤ ((1 : Int32)).toNatClampNeg) := inb_of S7 ⟨by decide, by decide⟩
    obtain ⟨T7, h7, X7, e7, W7, st7⟩ := stI X6 hx hZ e6 Ar7 (j := (1 : Int32)) hin7 (g := (mkF m 22 #[.val (.ref a1), .val (.int (0 : Int32)), .val (.int (1 : Int32)), .val (.int y0)] [(.int y0), (.int (1 : Int32)), (.ref a1)])) rfl rfl (hb hby d1_22)
    have Va1_7 := Arv.set Ar7 q7 S7 M7 H7 G7 rfl W7 1 rfl (Nat.le_of_ble_eq_true rfl)
    replace Va1_7 : Arv Z h7 a1 k1 .int (4 : Int32) [(.int y1), (.int y0), (.int y2), (.int y3)] (.int (0 : Int32)) := Va1_7
    have N7 := Fr.snoc X7 N6 g_a1
    have Z7 : n0 ≤ h7.size := Nat.le_trans Z6 (Nat.le_of_eq W7.size.symm)
    have K7 := K6.wr W7 (Or.inl (List.mem_singleton.mpr rfl))
    refine Goes.via (B := T7.setTop (mkF m 23 #[.val (.ref a1), .val (.int (0 : Int32)), .val (.int (1 : Int32)), .val (.int y0)] [])) st7 ?_
    have hlo : own_lo y0 y1 = y1 := by rw [own_lo, if_pos c6_3]
    have hhi : own_hi y0 y1 = y0 := by rw [own_hi, if_pos c6_3]
    have hV : Arv Z T7.heap a1 k1 .int (4 : Int32) [(.int (own_lo y0 y1)), (.int (own_hi y0 y1)), (.int y2), (.int y3)] (.int (0 : Int32)) := by rw [hlo, hhi, e7]; exact Va1_7
    exact own_out X7 (v := none) (fun _ => rfl) Bd.notSynchronized (fun fs hr => X7.returnOut hx Bd.returns (hb hby d1_23) hr) ⟨rfl, N7, (by rw [e7]; exact K7), hV⟩ (by decide) (by decide)
  · refine Goes.via (B := s₁.setTop (mkF m 23 #[.val (.ref a1), .val (.int (0 : Int32)), .val (.int (1 : Int32)), .unset] [])) (fun t k => XS.icmpYes X0.here hx rfl (pc0 := 6) (pc' := 23) rfl (hb hby d1_6) rfl (flt c6_3).2.2.2 (by decide) (by decide) k) ?_
    have hlo : own_lo y0 y1 = y0 := by rw [own_lo, if_neg c6_3]
    have hhi : own_hi y0 y1 = y1 := by rw [own_hi, if_neg c6_3]
    have hV : Arv Z s₁.heap a1 k1 .int (4 : Int32) [(.int (own_lo y0 y1)), (.int (own_hi y0 y1)), (.int y2), (.int y3)] (.int (0 : Int32)) := by rw [hlo, hhi, e0]; exact (⟨cl2, Ar2, q2, S2, M2, H2, G2⟩ : Arv Z h0 a1 k1 .int (4 : Int32) [(.int y0), (.int y1), (.int y2), (.int y3)] (.int (0 : Int32)))
    exact own_out X0 (v := none) (fun _ => rfl) Bd.notSynchronized (fun fs hr => X0.returnOut hx Bd.returns (hb hby d1_23) hr) ⟨rfl, N0, (by rw [e0]; exact K0), hV⟩ (by decide) (by decide)
theorem ef_1_23 (m : MethodId) (x0 : Addr) (x1 : Int32) (x2 : Int32) : entryFrame m #[(.ref x0), (.int x1), (.int x2)] 4 = mkF m 0 #[.val (.ref x0), .val (.int x1), .val (.int x2), .unset] [] := by first | (simp [entryFrame, mkF, argsToLocals, Value.category]; done) | rfl
def Q1_23 (Z : State) (a1 : Addr) (k1 : ClassId) (y0 : Int32) (y1 : Int32) (y2 : Int32) (y3 : Int32) (h0 : Heap) (n0 : Nat) (v : Option Value) (h : Heap) (L : List Loc) : Prop := v = none ∧ Fr n0 L ∧ Keep h0 h [a1] ∧ Arv Z h a1 k1 .int (4 : Int32) [(.int y0), (.int y1), (.int (own_lo y2 y3)), (.int (own_hi y2 y3))] (.int (0 : Int32))
set_option maxRecDepth 65536 in
set_option maxHeartbeats 40000000 in
theorem rm1_23 (l : Launch) (Z : State) (a0 : Array Value) (hw : ∀ d ∈ tables_1, d.before a0 Z = true) (ws : List Jvm.Cond) (a1 : Addr) (k1 : ClassId) (y0 : Int32) (y1 : Int32) (y2 : Int32) (y3 : Int32) (h0 : Heap) (n0 : Nat) (Z0 : n0 ≤ h0.size) (V0 : Arv Z h0 a1 k1 .int (4 : Int32) [(.int y0), (.int y1), (.int y2), (.int y3)] (.int (0 : Int32))) (g_a1 : n0 ≤ a1) :
    MetFree l (⟨"com/example/noise_to_nodes/noisetonodes/AscendingIntsCountBelowPinLaw", "cx", "([III)V"⟩ : MethodName) (head1 (Jvm.Cond.code (⟨"com/example/noise_to_nodes/noisetonodes/AscendingIntsCountBelowPinLaw", "cx", "([III)V"⟩ : MethodName) method_2_code 4 none :: ws) ({ frames := 0, cells := 0, slots := 0, locals := 0 } : Room)) (fun a U => a = #[(.ref a1), (.int (2 : Int32)), (.int (3 : Int32))] ∧ Z.Warmed39 U.vm ∧ U.heap = h0) (fun _ _ _ _ _ => True) (fun _ U o U' => ∃ v L, o = .returned v ∧ Q1_23 Z a1 k1 y0 y1 y2 y3 h0 n0 v U'.heap L ∧ FrameEnd U o U' L ({ frames := 0, cells := 0, slots := 0, locals := 0 } : Room).cells ({ frames := 0, cells := 0, slots := 0, locals := 0 } : Room).slots) := by
  refine MetFree.of_bodySF (plainFor_of_name pn_com_example_noise_to_nodes_noisetonodes_AscendingIntsCountBelowPinLaw) hisR ?_
  intro p e s m args below meth c s₁ Bd hml0 hP hK
  obtain ⟨rfl, hZ, hh⟩ := hP
  have hx := Bd.exec
  have hby := Bd.bytes
  have hml : c.maxLocals = 4 := hml0
  have hown : s.vm.findClass "com/example/noise_to_nodes/noisetonodes/AscendingIntsCountBelowPinLaw" = some m.cls := findClass_of_methodNamed Bd.named
  have hnm := (name_of_methodNamed Bd.named Bd.method).1
  have X0 : Stand p l e ({ frames := 0, cells := 0, slots := 0, locals := 0 } : Room) s m #[(.ref a1), (.int (2 : Int32)), (.int (3 : Int32))] below meth c s₁ [] 0 0 := Stand.of_body Bd
  have e0 : s₁.heap = h0 := by rw [← hh, Bd.state]; rfl
  have N0 := Fr.nil n0
  show Goes p e below (fun s₂ o => ∃ v L, o = .returned v ∧ Q1_23 Z a1 k1 y0 y1 y2 y3 h0 n0 v s₂.heap L ∧ FrameEnd s o s₂ L ({ frames := 0, cells := 0, slots := 0, locals := 0 } : Room).cells ({ frames := 0, cells := 0, slots := 0, locals := 0 } : Room).slots) (s₁.setTop (entryFrame m #[(.ref a1), (.int (2 : Int32)), (.int (3 : Int32))] 4))
  refine Goes.cast (ef_1_23 m a1 (2 : Int32) (3 : Int32)) ?_
  have K0 := Keep.refl h0 [a1]
  refine Goes.via (B := s₁.setTop (mkF m 1 #[.val (.ref a1), .val (.int (2 : Int32)), .val (.int (3 : Int32)), .unset] [(.ref a1)])) (fun t k => XS.aloadN X0.here hx rfl (hb hby d1_0) rfl rfl k) ?_
  refine Goes.via (B := s₁.setTop (mkF m 2 #[.val (.ref a1), .val (.int (2 : Int32)), .val (.int (3 : Int32)), .unset] [(.int (2 : Int32)), (.ref a1)])) (fun t k => XS.iloadN X0.here hx rfl (hb hby d1_1) rfl k) ?_
  obtain ⟨cl1, Ar1, q1, S1, M1, H1, G1⟩ := V0
  have hin1 : ¬ ((2 : Int32) < 0 ∨ cl1.slots.size ≤ ((2 : Int32)).toNatClampNeg) := inb_of S1 ⟨by decide, by decide⟩
  have hat1 : cl1.slots[((2 : Int32)).toNatClampNeg]? = some (.int y2) := H1.at hin1 rfl
  refine Goes.via (B := s₁.setTop (mkF m 3 #[.val (.ref a1), .val (.int (2 : Int32)), .val (.int (3 : Int32)), .unset] [(.int y2)])) (fun t k => X0.iaload hx (j := (2 : Int32)) (v := (.int y2)) (by rw [e0]; exact Ar1.1) (State.isArrayOf_alike hZ.alike Ar1.2.1) Ar1.2.2 hin1 hat1 (g := (mkF m 2 #[.val (.ref a1), .val (.int (2 : Int32)), .val (.int (3 : Int32)), .unset] [(.int (2 : Int32)), (.ref a1)])) rfl rfl (hb hby d1_2) _ k) ?_
  refine Goes.via (B := s₁.setTop (mkF m 4 #[.val (.ref a1), .val (.int (2 : Int32)), .val (.int (3 : Int32)), .unset] [(.ref a1), (.int y2)])) (fun t k => XS.aloadN X0.here hx rfl (hb hby d1_3) rfl rfl k) ?_
  refine Goes.via (B := s₁.setTop (mkF m 5 #[.val (.ref a1), .val (.int (2 : Int32)), .val (.int (3 : Int32)), .unset] [(.int (3 : Int32)), (.ref a1), (.int y2)])) (fun t k => XS.iloadN X0.here hx rfl (hb hby d1_4) rfl k) ?_
  obtain ⟨cl2, Ar2, q2, S2, M2, H2, G2⟩ := (⟨cl1, Ar1, q1, S1, M1, H1, G1⟩ : Arv Z h0 a1 k1 .int (4 : Int32) [(.int y0), (.int y1), (.int y2), (.int y3)] (.int (0 : Int32)))
  have hin2 : ¬ ((3 : Int32) < 0 ∨ cl2.slots.size ≤ ((3 : Int32)).toNatClampNeg) := inb_of S2 ⟨by decide, by decide⟩
  have hat2 : cl2.slots[((3 : Int32)).toNatClampNeg]? = some (.int y3) := H2.at hin2 rfl
  refine Goes.via (B := s₁.setTop (mkF m 6 #[.val (.ref a1), .val (.int (2 : Int32)), .val (.int (3 : Int32)), .unset] [(.int y3), (.int y2)])) (fun t k => X0.iaload hx (j := (3 : Int32)) (v := (.int y3)) (by rw [e0]; exact Ar2.1) (State.isArrayOf_alike hZ.alike Ar2.2.1) Ar2.2.2 hin2 hat2 (g := (mkF m 5 #[.val (.ref a1), .val (.int (2 : Int32)), .val (.int (3 : Int32)), .unset] [(.int (3 : Int32)), (.ref a1), (.int y2)])) rfl rfl (hb hby d1_5) _ k) ?_
  by_cases c6_3 : y3 < y2
  · refine Goes.via (B := s₁.setTop (mkF m 9 #[.val (.ref a1), .val (.int (2 : Int32)), .val (.int (3 : Int32)), .unset] [])) (fun t k => XS.icmpNo X0.here hx rfl (hb hby d1_6) rfl (tlt c6_3).2.2.2 k) ?_
    refine Goes.via (B := s₁.setTop (mkF m 10 #[.val (.ref a1), .val (.int (2 : Int32)), .val (.int (3 : Int32)), .unset] [(.ref a1)])) (fun t k => XS.aloadN X0.here hx rfl (hb hby d1_9) rfl rfl k) ?_
    refine Goes.via (B := s₁.setTop (mkF m 11 #[.val (.ref a1), .val (.int (2 : Int32)), .val (.int (3 : Int32)), .unset] [(.int (2 : Int32)), (.ref a1)])) (fun t k => XS.iloadN X0.here hx rfl (hb hby d1_10) rfl k) ?_
    obtain ⟨cl4, Ar4, q4, S4, M4, H4, G4⟩ := (⟨cl2, Ar2, q2, S2, M2, H2, G2⟩ : Arv Z h0 a1 k1 .int (4 : Int32) [(.int y0), (.int y1), (.int y2), (.int y3)] (.int (0 : Int32)))
    have hin4 : ¬ ((2 : Int32) < 0 ∨ cl4.slots.size ≤ ((2 : Int32)).toNatClampNeg) := inb_of S4 ⟨by decide, by decide⟩
    have hat4 : cl4.slots[((2 : Int32)).toNatClampNeg]? = some (.int y2) := H4.at hin4 rfl
    refine Goes.via (B := s₁.setTop (mkF m 12 #[.val (.ref a1), .val (.int (2 : Int32)), .val (.int (3 : Int32)), .unset] [(.int y2)])) (fun t k => X0.iaload hx (j := (2 : Int32)) (v := (.int y2)) (by rw [e0]; exact Ar4.1) (State.isArrayOf_alike hZ.alike Ar4.2.1) Ar4.2.2 hin4 hat4 (g := (mkF m 11 #[.val (.ref a1), .val (.int (2 : Int32)), .val (.int (3 : Int32)), .unset] [(.int (2 : Int32)), (.ref a1)])) rfl rfl (hb hby d1_11) _ k) ?_
    refine Goes.via (B := s₁.setTop (mkF m 13 #[.val (.ref a1), .val (.int (2 : Int32)), .val (.int (3 : Int32)), .val (.int y2)] [])) (fun t k => XS.istoreN X0.here hx rfl (hb hby d1_12) rfl (l' := #[.val (.ref a1), .val (.int (2 : Int32)), .val (.int (3 : Int32)), .val (.int y2)]) rfl k) ?_
    refine Goes.via (B := s₁.setTop (mkF m 14 #[.val (.ref a1), .val (.int (2 : Int32)), .val (.int (3 : Int32)), .val (.int y2)] [(.ref a1)])) (fun t k => XS.aloadN X0.here hx rfl (hb hby d1_13) rfl rfl k) ?_
    refine Goes.via (B := s₁.setTop (mkF m 15 #[.val (.ref a1), .val (.int (2 : Int32)), .val (.int (3 : Int32)), .val (.int y2)] [(.int (2 : Int32)), (.ref a1)])) (fun t k => XS.iloadN X0.here hx rfl (hb hby d1_14) rfl k) ?_
    refine Goes.via (B := s₁.setTop (mkF m 16 #[.val (.ref a1), .val (.int (2 : Int32)), .val (.int (3 : Int32)), .val (.int y2)] [(.ref a1), (.int (2 : Int32)), (.ref a1)])) (fun t k => XS.aloadN X0.here hx rfl (hb hby d1_15) rfl rfl k) ?_
    refine Goes.via (B := s₁.setTop (mkF m 17 #[.val (.ref a1), .val (.int (2 : Int32)), .val (.int (3 : Int32)), .val (.int y2)] [(.int (3 : Int32)), (.ref a1), (.int (2 : Int32)), (.ref a1)])) (fun t k => XS.iloadN X0.here hx rfl (hb hby d1_16) rfl k) ?_
    obtain ⟨cl5, Ar5, q5, S5, M5, H5, G5⟩ := (⟨cl4, Ar4, q4, S4, M4, H4, G4⟩ : Arv Z h0 a1 k1 .int (4 : Int32) [(.int y0), (.int y1), (.int y2), (.int y3)] (.int (0 : Int32)))
    have hin5 : ¬ ((3 : Int32) < 0 ∨ cl5.slots.size ≤ ((3 : Int32)).toNatClampNeg) := inb_of S5 ⟨by decide, by decide⟩
    have hat5 : cl5.slots[((3 : Int32)).toNatClampNeg]? = some (.int y3) := H5.at hin5 rfl
    refine Goes.via (B := s₁.setTop (mkF m 18 #[.val (.ref a1), .val (.int (2 : Int32)), .val (.int (3 : Int32)), .val (.int y2)] [(.int y3), (.int (2 : Int32)), (.ref a1)])) (fun t k => X0.iaload hx (j := (3 : Int32)) (v := (.int y3)) (by rw [e0]; exact Ar5.1) (State.isArrayOf_alike hZ.alike Ar5.2.1) Ar5.2.2 hin5 hat5 (g := (mkF m 17 #[.val (.ref a1), .val (.int (2 : Int32)), .val (.int (3 : Int32)), .val (.int y2)] [(.int (3 : Int32)), (.ref a1), (.int (2 : Int32)), (.ref a1)])) rfl rfl (hb hby d1_17) _ k) ?_
    obtain ⟨cl6, Ar6, q6, S6, M6, H6, G6⟩ := (⟨cl5, Ar5, q5, S5, M5, H5, G5⟩ : Arv Z h0 a1 k1 .int (4 : Int32) [(.int y0), (.int y1), (.int y2), (.int y3)] (.int (0 : Int32)))
    have hin6 : ¬ ((2 : Int32) < 0 ∨ cl6.slots.size ≤ ((2 : Int32)).toNatClampNeg) := inb_of S6 ⟨by decide, by decide⟩
    obtain ⟨T6, h6, X6, e6, W6, st6⟩ := stI X0 hx hZ e0 Ar6 (j := (2 : Int32)) hin6 (g := (mkF m 18 #[.val (.ref a1), .val (.int (2 : Int32)), .val (.int (3 : Int32)), .val (.int y2)] [(.int y3), (.int (2 : Int32)), (.ref a1)])) rfl rfl (hb hby d1_18)
    have Va1_6 := Arv.set Ar6 q6 S6 M6 H6 G6 rfl W6 2 rfl (Nat.le_of_ble_eq_true rfl)
    replace Va1_6 : Arv Z h6 a1 k1 .int (4 : Int32) [(.int y0), (.int y1), (.int y3), (.int y3)] (.int (0 : Int32)) := Va1_6
    have N6 := Fr.snoc X6 N0 g_a1
    have Z6 : n0 ≤ h6.size := Nat.le_trans Z0 (Nat.le_of_eq W6.size.symm)
    have K6 := K0.wr W6 (Or.inl (List.mem_singleton.mpr rfl))
    refine Goes.via (B := T6.setTop (mkF m 19 #[.val (.ref a1), .val (.int (2 : Int32)), .val (.int (3 : Int32)), .val (.int y2)] [])) st6 ?_
    refine Goes.via (B := T6.setTop (mkF m 20 #[.val (.ref a1), .val (.int (2 : Int32)), .val (.int (3 : Int32)), .val (.int y2)] [(.ref a1)])) (fun t k => XS.aloadN X6.here hx rfl (hb hby d1_19) rfl rfl k) ?_
    refine Goes.via (B := T6.setTop (mkF m 21 #[.val (.ref a1), .val (.int (2 : Int32)), .val (.int (3 : Int32)), .val (.int y2)] [(.int (3 : Int32)), (.ref a1)])) (fun t k => XS.iloadN X6.here hx rfl (hb hby d1_20) rfl k) ?_
    refine Goes.via (B := T6.setTop (mkF m 22 #[.val (.ref a1), .val (.int (2 : Int32)), .val (.int (3 : Int32)), .val (.int y2)] [(.int y2), (.int (3 : Int32)), (.ref a1)])) (fun t k => XS.iloadN X6.here hx rfl (hb hby d1_21) rfl k) ?_
    obtain ⟨cl7, Ar7, q7, S7, M7, H7, G7⟩ := Va1_6
    have hin7 : ¬ ((3 : Int32) < 0 ∨ cl7.slots.size ≤ ((3 : Int32)).toNatClampNeg) := inb_of S7 ⟨by decide, by decide⟩
    obtain ⟨T7, h7, X7, e7, W7, st7⟩ := stI X6 hx hZ e6 Ar7 (j := (3 : Int32)) hin7 (g := (mkF m 22 #[.val (.ref a1), .val (.int (2 : Int32)), .val (.int (3 : Int32)), .val (.int y2)] [(.int y2), (.int (3 : Int32)), (.ref a1)])) rfl rfl (hb hby d1_22)
    have Va1_7 := Arv.set Ar7 q7 S7 M7 H7 G7 rfl W7 3 rfl (Nat.le_of_ble_eq_true rfl)
    replace Va1_7 : Arv Z h7 a1 k1 .int (4 : Int32) [(.int y0), (.int y1), (.int y3), (.int y2)] (.int (0 : Int32)) := Va1_7
    have N7 := Fr.snoc X7 N6 g_a1
    have Z7 : n0 ≤ h7.size := Nat.le_trans Z6 (Nat.le_of_eq W7.size.symm)
    have K7 := K6.wr W7 (Or.inl (List.mem_singleton.mpr rfl))
    refine Goes.via (B := T7.setTop (mkF m 23 #[.val (.ref a1), .val (.int (2 : Int32)), .val (.int (3 : Int32)), .val (.int y2)] [])) st7 ?_
    have hlo : own_lo y2 y3 = y3 := by rw [own_lo, if_pos c6_3]
    have hhi : own_hi y2 y3 = y2 := by rw [own_hi, if_pos c6_3]
    have hV : Arv Z T7.heap a1 k1 .int (4 : Int32) [(.int y0), (.int y1), (.int (own_lo y2 y3)), (.int (own_hi y2 y3))] (.int (0 : Int32)) := by rw [hlo, hhi, e7]; exact Va1_7
    exact own_out X7 (v := none) (fun _ => rfl) Bd.notSynchronized (fun fs hr => X7.returnOut hx Bd.returns (hb hby d1_23) hr) ⟨rfl, N7, (by rw [e7]; exact K7), hV⟩ (by decide) (by decide)
  · refine Goes.via (B := s₁.setTop (mkF m 23 #[.val (.ref a1), .val (.int (2 : Int32)), .val (.int (3 : Int32)), .unset] [])) (fun t k => XS.icmpYes X0.here hx rfl (pc0 := 6) (pc' := 23) rfl (hb hby d1_6) rfl (flt c6_3).2.2.2 (by decide) (by decide) k) ?_
    have hlo : own_lo y2 y3 = y2 := by rw [own_lo, if_neg c6_3]
    have hhi : own_hi y2 y3 = y3 := by rw [own_hi, if_neg c6_3]
    have hV : Arv Z s₁.heap a1 k1 .int (4 : Int32) [(.int y0), (.int y1), (.int (own_lo y2 y3)), (.int (own_hi y2 y3))] (.int (0 : Int32)) := by rw [hlo, hhi, e0]; exact (⟨cl2, Ar2, q2, S2, M2, H2, G2⟩ : Arv Z h0 a1 k1 .int (4 : Int32) [(.int y0), (.int y1), (.int y2), (.int y3)] (.int (0 : Int32)))
    exact own_out X0 (v := none) (fun _ => rfl) Bd.notSynchronized (fun fs hr => X0.returnOut hx Bd.returns (hb hby d1_23) hr) ⟨rfl, N0, (by rw [e0]; exact K0), hV⟩ (by decide) (by decide)
theorem ef_1_02 (m : MethodId) (x0 : Addr) (x1 : Int32) (x2 : Int32) : entryFrame m #[(.ref x0), (.int x1), (.int x2)] 4 = mkF m 0 #[.val (.ref x0), .val (.int x1), .val (.int x2), .unset] [] := by first | (simp [entryFrame, mkF, argsToLocals, Value.category]; done) | rfl
def Q1_02 (Z : State) (a1 : Addr) (k1 : ClassId) (y0 : Int32) (y1 : Int32) (y2 : Int32) (y3 : Int32) (h0 : Heap) (n0 : Nat) (v : Option Value) (h : Heap) (L : List Loc) : Prop := v = none ∧ Fr n0 L ∧ Keep h0 h [a1] ∧ Arv Z h a1 k1 .int (4 : Int32) [(.int (own_lo y0 y2)), (.int y1), (.int (own_hi y0 y2)), (.int y3)] (.int (0 : Int32))
set_option maxRecDepth 65536 in
set_option maxHeartbeats 40000000 in
theorem rm1_02 (l : Launch) (Z : State) (a0 : Array Value) (hw : ∀ d ∈ tables_1, d.before a0 Z = true) (ws : List Jvm.Cond) (a1 : Addr) (k1 : ClassId) (y0 : Int32) (y1 : Int32) (y2 : Int32) (y3 : Int32) (h0 : Heap) (n0 : Nat) (Z0 : n0 ≤ h0.size) (V0 : Arv Z h0 a1 k1 .int (4 : Int32) [(.int y0), (.int y1), (.int y2), (.int y3)] (.int (0 : Int32))) (g_a1 : n0 ≤ a1) :
    MetFree l (⟨"com/example/noise_to_nodes/noisetonodes/AscendingIntsCountBelowPinLaw", "cx", "([III)V"⟩ : MethodName) (head1 (Jvm.Cond.code (⟨"com/example/noise_to_nodes/noisetonodes/AscendingIntsCountBelowPinLaw", "cx", "([III)V"⟩ : MethodName) method_2_code 4 none :: ws) ({ frames := 0, cells := 0, slots := 0, locals := 0 } : Room)) (fun a U => a = #[(.ref a1), (.int (0 : Int32)), (.int (2 : Int32))] ∧ Z.Warmed39 U.vm ∧ U.heap = h0) (fun _ _ _ _ _ => True) (fun _ U o U' => ∃ v L, o = .returned v ∧ Q1_02 Z a1 k1 y0 y1 y2 y3 h0 n0 v U'.heap L ∧ FrameEnd U o U' L ({ frames := 0, cells := 0, slots := 0, locals := 0 } : Room).cells ({ frames := 0, cells := 0, slots := 0, locals := 0 } : Room).slots) := by
  refine MetFree.of_bodySF (plainFor_of_name pn_com_example_noise_to_nodes_noisetonodes_AscendingIntsCountBelowPinLaw) hisR ?_
  intro p e s m args below meth c s₁ Bd hml0 hP hK
  obtain ⟨rfl, hZ, hh⟩ := hP
  have hx := Bd.exec
  have hby := Bd.bytes
  have hml : c.maxLocals = 4 := hml0
  have hown : s.vm.findClass "com/example/noise_to_nodes/noisetonodes/AscendingIntsCountBelowPinLaw" = some m.cls := findClass_of_methodNamed Bd.named
  have hnm := (name_of_methodNamed Bd.named Bd.method).1
  have X0 : Stand p l e ({ frames := 0, cells := 0, slots := 0, locals := 0 } : Room) s m #[(.ref a1), (.int (0 : Int32)), (.int (2 : Int32))] below meth c s₁ [] 0 0 := Stand.of_body Bd
  have e0 : s₁.heap = h0 := by rw [← hh, Bd.state]; rfl
  have N0 := Fr.nil n0
  show Goes p e below (fun s₂ o => ∃ v L, o = .returned v ∧ Q1_02 Z a1 k1 y0 y1 y2 y3 h0 n0 v s₂.heap L ∧ FrameEnd s o s₂ L ({ frames := 0, cells := 0, slots := 0, locals := 0 } : Room).cells ({ frames := 0, cells := 0, slots := 0, locals := 0 } : Room).slots) (s₁.setTop (entryFrame m #[(.ref a1), (.int (0 : Int32)), (.int (2 : Int32))] 4))
  refine Goes.cast (ef_1_02 m a1 (0 : Int32) (2 : Int32)) ?_
  have K0 := Keep.refl h0 [a1]
  refine Goes.via (B := s₁.setTop (mkF m 1 #[.val (.ref a1), .val (.int (0 : Int32)), .val (.int (2 : Int32)), .unset] [(.ref a1)])) (fun t k => XS.aloadN X0.here hx rfl (hb hby d1_0) rfl rfl k) ?_
  refine Goes.via (B := s₁.setTop (mkF m 2 #[.val (.ref a1), .val (.int (0 : Int32)), .val (.int (2 : Int32)), .unset] [(.int (0 : Int32)), (.ref a1)])) (fun t k => XS.iloadN X0.here hx rfl (hb hby d1_1) rfl k) ?_
  obtain ⟨cl1, Ar1, q1, S1, M1, H1, G1⟩ := V0
  have hin1 : ¬ ((0 : Int32) < 0 ∨ cl1.slots.size ≤ ((0 : Int32)).toNatClampNeg) := inb_of S1 ⟨by decide, by decide⟩
  have hat1 : cl1.slots[((0 : Int32)).toNatClampNeg]? = some (.int y0) := H1.at hin1 rfl
  refine Goes.via (B := s₁.setTop (mkF m 3 #[.val (.ref a1), .val (.int (0 : Int32)), .val (.int (2 : Int32)), .unset] [(.int y0)])) (fun t k => X0.iaload hx (j := (0 : Int32)) (v := (.int y0)) (by rw [e0]; exact Ar1.1) (State.isArrayOf_alike hZ.alike Ar1.2.1) Ar1.2.2 hin1 hat1 (g := (mkF m 2 #[.val (.ref a1), .val (.int (0 : Int32)), .val (.int (2 : Int32)), .unset] [(.int (0 : Int32)), (.ref a1)])) rfl rfl (hb hby d1_2) _ k) ?_
  refine Goes.via (B := s₁.setTop (mkF m 4 #[.val (.ref a1), .val (.int (0 : Int32)), .val (.int (2 : Int32)), .unset] [(.ref a1), (.int y0)])) (fun t k => XS.aloadN X0.here hx rfl (hb hby d1_3) rfl rfl k) ?_
  refine Goes.via (B := s₁.setTop (mkF m 5 #[.val (.ref a1), .val (.int (0 : Int32)), .val (.int (2 : Int32)), .unset] [(.int (2 : Int32)), (.ref a1), (.int y0)])) (fun t k => XS.iloadN X0.here hx rfl (hb hby d1_4) rfl k) ?_
  obtain ⟨cl2, Ar2, q2, S2, M2, H2, G2⟩ := (⟨cl1, Ar1, q1, S1, M1, H1, G1⟩ : Arv Z h0 a1 k1 .int (4 : Int32) [(.int y0), (.int y1), (.int y2), (.int y3)] (.int (0 : Int32)))
  have hin2 : ¬ ((2 : Int32) < 0 ∨ cl2.slots.size ≤ ((2 : Int32)).toNatClampNeg) := inb_of S2 ⟨by decide, by decide⟩
  have hat2 : cl2.slots[((2 : Int32)).toNatClampNeg]? = some (.int y2) := H2.at hin2 rfl
  refine Goes.via (B := s₁.setTop (mkF m 6 #[.val (.ref a1), .val (.int (0 : Int32)), .val (.int (2 : Int32)), .unset] [(.int y2), (.int y0)])) (fun t k => X0.iaload hx (j := (2 : Int32)) (v := (.int y2)) (by rw [e0]; exact Ar2.1) (State.isArrayOf_alike hZ.alike Ar2.2.1) Ar2.2.2 hin2 hat2 (g := (mkF m 5 #[.val (.ref a1), .val (.int (0 : Int32)), .val (.int (2 : Int32)), .unset] [(.int (2 : Int32)), (.ref a1), (.int y0)])) rfl rfl (hb hby d1_5) _ k) ?_
  by_cases c6_3 : y2 < y0
  · refine Goes.via (B := s₁.setTop (mkF m 9 #[.val (.ref a1), .val (.int (0 : Int32)), .val (.int (2 : Int32)), .unset] [])) (fun t k => XS.icmpNo X0.here hx rfl (hb hby d1_6) rfl (tlt c6_3).2.2.2 k) ?_
    refine Goes.via (B := s₁.setTop (mkF m 10 #[.val (.ref a1), .val (.int (0 : Int32)), .val (.int (2 : Int32)), .unset] [(.ref a1)])) (fun t k => XS.aloadN X0.here hx rfl (hb hby d1_9) rfl rfl k) ?_
    refine Goes.via (B := s₁.setTop (mkF m 11 #[.val (.ref a1), .val (.int (0 : Int32)), .val (.int (2 : Int32)), .unset] [(.int (0 : Int32)), (.ref a1)])) (fun t k => XS.iloadN X0.here hx rfl (hb hby d1_10) rfl k) ?_
    obtain ⟨cl4, Ar4, q4, S4, M4, H4, G4⟩ := (⟨cl2, Ar2, q2, S2, M2, H2, G2⟩ : Arv Z h0 a1 k1 .int (4 : Int32) [(.int y0), (.int y1), (.int y2), (.int y3)] (.int (0 : Int32)))
    have hin4 : ¬ ((0 : Int32) < 0 ∨ cl4.slots.size ≤ ((0 : Int32)).toNatClampNeg) := inb_of S4 ⟨by decide, by decide⟩
    have hat4 : cl4.slots[((0 : Int32)).toNatClampNeg]? = some (.int y0) := H4.at hin4 rfl
    refine Goes.via (B := s₁.setTop (mkF m 12 #[.val (.ref a1), .val (.int (0 : Int32)), .val (.int (2 : Int32)), .unset] [(.int y0)])) (fun t k => X0.iaload hx (j := (0 : Int32)) (v := (.int y0)) (by rw [e0]; exact Ar4.1) (State.isArrayOf_alike hZ.alike Ar4.2.1) Ar4.2.2 hin4 hat4 (g := (mkF m 11 #[.val (.ref a1), .val (.int (0 : Int32)), .val (.int (2 : Int32)), .unset] [(.int (0 : Int32)), (.ref a1)])) rfl rfl (hb hby d1_11) _ k) ?_
    refine Goes.via (B := s₁.setTop (mkF m 13 #[.val (.ref a1), .val (.int (0 : Int32)), .val (.int (2 : Int32)), .val (.int y0)] [])) (fun t k => XS.istoreN X0.here hx rfl (hb hby d1_12) rfl (l' := #[.val (.ref a1), .val (.int (0 : Int32)), .val (.int (2 : Int32)), .val (.int y0)]) rfl k) ?_
    refine Goes.via (B := s₁.setTop (mkF m 14 #[.val (.ref a1), .val (.int (0 : Int32)), .val (.int (2 : Int32)), .val (.int y0)] [(.ref a1)])) (fun t k => XS.aloadN X0.here hx rfl (hb hby d1_13) rfl rfl k) ?_
    refine Goes.via (B := s₁.setTop (mkF m 15 #[.val (.ref a1), .val (.int (0 : Int32)), .val (.int (2 : Int32)), .val (.int y0)] [(.int (0 : Int32)), (.ref a1)])) (fun t k => XS.iloadN X0.here hx rfl (hb hby d1_14) rfl k) ?_
    refine Goes.via (B := s₁.setTop (mkF m 16 #[.val (.ref a1), .val (.int (0 : Int32)), .val (.int (2 : Int32)), .val (.int y0)] [(.ref a1), (.int (0 : Int32)), (.ref a1)])) (fun t k => XS.aloadN X0.here hx rfl (hb hby d1_15) rfl rfl k) ?_
    refine Goes.via (B := s₁.setTop (mkF m 17 #[.val (.ref a1), .val (.int (0 : Int32)), .val (.int (2 : Int32)), .val (.int y0)] [(.int (2 : Int32)), (.ref a1), (.int (0 : Int32)), (.ref a1)])) (fun t k => XS.iloadN X0.here hx rfl (hb hby d1_16) rfl k) ?_
    obtain ⟨cl5, Ar5, q5, S5, M5, H5, G5⟩ := (⟨cl4, Ar4, q4, S4, M4, H4, G4⟩ : Arv Z h0 a1 k1 .int (4 : Int32) [(.int y0), (.int y1), (.int y2), (.int y3)] (.int (0 : Int32)))
    have hin5 : ¬ ((2 : Int32) < 0 ∨ cl5.slots.size ≤ ((2 : Int32)).toNatClampNeg) := inb_of S5 ⟨by decide, by decide⟩
    have hat5 : cl5.slots[((2 : Int32)).toNatClampNeg]? = some (.int y2) := H5.at hin5 rfl
    refine Goes.via (B := s₁.setTop (mkF m 18 #[.val (.ref a1), .val (.int (0 : Int32)), .val (.int (2 : Int32)), .val (.int y0)] [(.int y2), (.int (0 : Int32)), (.ref a1)])) (fun t k => X0.iaload hx (j := (2 : Int32)) (v := (.int y2)) (by rw [e0]; exact Ar5.1) (State.isArrayOf_alike hZ.alike Ar5.2.1) Ar5.2.2 hin5 hat5 (g := (mkF m 17 #[.val (.ref a1), .val (.int (0 : Int32)), .val (.int (2 : Int32)), .val (.int y0)] [(.int (2 : Int32)), (.ref a1), (.int (0 : Int32)), (.ref a1)])) rfl rfl (hb hby d1_17) _ k) ?_
    obtain ⟨cl6, Ar6, q6, S6, M6, H6, G6⟩ := (⟨cl5, Ar5, q5, S5, M5, H5, G5⟩ : Arv Z h0 a1 k1 .int (4 : Int32) [(.int y0), (.int y1), (.int y2), (.int y3)] (.int (0 : Int32)))
    have hin6 : ¬ ((0 : Int32) < 0 ∨ cl6.slots.size ≤ ((0 : Int32)).toNatClampNeg) := inb_of S6 ⟨by decide, by decide⟩
    obtain ⟨T6, h6, X6, e6, W6, st6⟩ := stI X0 hx hZ e0 Ar6 (j := (0 : Int32)) hin6 (g := (mkF m 18 #[.val (.ref a1), .val (.int (0 : Int32)), .val (.int (2 : Int32)), .val (.int y0)] [(.int y2), (.int (0 : Int32)), (.ref a1)])) rfl rfl (hb hby d1_18)
    have Va1_6 := Arv.set Ar6 q6 S6 M6 H6 G6 rfl W6 0 rfl (Nat.le_of_ble_eq_true rfl)
    replace Va1_6 : Arv Z h6 a1 k1 .int (4 : Int32) [(.int y2), (.int y1), (.int y2), (.int y3)] (.int (0 : Int32)) := Va1_6
    have N6 := Fr.snoc X6 N0 g_a1
    have Z6 : n0 ≤ h6.size := Nat.le_trans Z0 (Nat.le_of_eq W6.size.symm)
    have K6 := K0.wr W6 (Or.inl (List.mem_singleton.mpr rfl))
    refine Goes.via (B := T6.setTop (mkF m 19 #[.val (.ref a1), .val (.int (0 : Int32)), .val (.int (2 : Int32)), .val (.int y0)] [])) st6 ?_
    refine Goes.via (B := T6.setTop (mkF m 20 #[.val (.ref a1), .val (.int (0 : Int32)), .val (.int (2 : Int32)), .val (.int y0)] [(.ref a1)])) (fun t k => XS.aloadN X6.here hx rfl (hb hby d1_19) rfl rfl k) ?_
    refine Goes.via (B := T6.setTop (mkF m 21 #[.val (.ref a1), .val (.int (0 : Int32)), .val (.int (2 : Int32)), .val (.int y0)] [(.int (2 : Int32)), (.ref a1)])) (fun t k => XS.iloadN X6.here hx rfl (hb hby d1_20) rfl k) ?_
    refine Goes.via (B := T6.setTop (mkF m 22 #[.val (.ref a1), .val (.int (0 : Int32)), .val (.int (2 : Int32)), .val (.int y0)] [(.int y0), (.int (2 : Int32)), (.ref a1)])) (fun t k => XS.iloadN X6.here hx rfl (hb hby d1_21) rfl k) ?_
    obtain ⟨cl7, Ar7, q7, S7, M7, H7, G7⟩ := Va1_6
    have hin7 : ¬ ((2 : Int32) < 0 ∨ cl7.slots.size ≤ ((2 : Int32)).toNatClampNeg) := inb_of S7 ⟨by decide, by decide⟩
    obtain ⟨T7, h7, X7, e7, W7, st7⟩ := stI X6 hx hZ e6 Ar7 (j := (2 : Int32)) hin7 (g := (mkF m 22 #[.val (.ref a1), .val (.int (0 : Int32)), .val (.int (2 : Int32)), .val (.int y0)] [(.int y0), (.int (2 : Int32)), (.ref a1)])) rfl rfl (hb hby d1_22)
    have Va1_7 := Arv.set Ar7 q7 S7 M7 H7 G7 rfl W7 2 rfl (Nat.le_of_ble_eq_true rfl)
    replace Va1_7 : Arv Z h7 a1 k1 .int (4 : Int32) [(.int y2), (.int y1), (.int y0), (.int y3)] (.int (0 : Int32)) := Va1_7
    have N7 := Fr.snoc X7 N6 g_a1
    have Z7 : n0 ≤ h7.size := Nat.le_trans Z6 (Nat.le_of_eq W7.size.symm)
    have K7 := K6.wr W7 (Or.inl (List.mem_singleton.mpr rfl))
    refine Goes.via (B := T7.setTop (mkF m 23 #[.val (.ref a1), .val (.int (0 : Int32)), .val (.int (2 : Int32)), .val (.int y0)] [])) st7 ?_
    have hlo : own_lo y0 y2 = y2 := by rw [own_lo, if_pos c6_3]
    have hhi : own_hi y0 y2 = y0 := by rw [own_hi, if_pos c6_3]
    have hV : Arv Z T7.heap a1 k1 .int (4 : Int32) [(.int (own_lo y0 y2)), (.int y1), (.int (own_hi y0 y2)), (.int y3)] (.int (0 : Int32)) := by rw [hlo, hhi, e7]; exact Va1_7
    exact own_out X7 (v := none) (fun _ => rfl) Bd.notSynchronized (fun fs hr => X7.returnOut hx Bd.returns (hb hby d1_23) hr) ⟨rfl, N7, (by rw [e7]; exact K7), hV⟩ (by decide) (by decide)
  · refine Goes.via (B := s₁.setTop (mkF m 23 #[.val (.ref a1), .val (.int (0 : Int32)), .val (.int (2 : Int32)), .unset] [])) (fun t k => XS.icmpYes X0.here hx rfl (pc0 := 6) (pc' := 23) rfl (hb hby d1_6) rfl (flt c6_3).2.2.2 (by decide) (by decide) k) ?_
    have hlo : own_lo y0 y2 = y0 := by rw [own_lo, if_neg c6_3]
    have hhi : own_hi y0 y2 = y2 := by rw [own_hi, if_neg c6_3]
    have hV : Arv Z s₁.heap a1 k1 .int (4 : Int32) [(.int (own_lo y0 y2)), (.int y1), (.int (own_hi y0 y2)), (.int y3)] (.int (0 : Int32)) := by rw [hlo, hhi, e0]; exact (⟨cl2, Ar2, q2, S2, M2, H2, G2⟩ : Arv Z h0 a1 k1 .int (4 : Int32) [(.int y0), (.int y1), (.int y2), (.int y3)] (.int (0 : Int32)))
    exact own_out X0 (v := none) (fun _ => rfl) Bd.notSynchronized (fun fs hr => X0.returnOut hx Bd.returns (hb hby d1_23) hr) ⟨rfl, N0, (by rw [e0]; exact K0), hV⟩ (by decide) (by decide)
theorem ef_1_13 (m : MethodId) (x0 : Addr) (x1 : Int32) (x2 : Int32) : entryFrame m #[(.ref x0), (.int x1), (.int x2)] 4 = mkF m 0 #[.val (.ref x0), .val (.int x1), .val (.int x2), .unset] [] := by first | (simp [entryFrame, mkF, argsToLocals, Value.category]; done) | rfl
def Q1_13 (Z : State) (a1 : Addr) (k1 : ClassId) (y0 : Int32) (y1 : Int32) (y2 : Int32) (y3 : Int32) (h0 : Heap) (n0 : Nat) (v : Option Value) (h : Heap) (L : List Loc) : Prop := v = none ∧ Fr n0 L ∧ Keep h0 h [a1] ∧ Arv Z h a1 k1 .int (4 : Int32) [(.int y0), (.int (own_lo y1 y3)), (.int y2), (.int (own_hi y1 y3))] (.int (0 : Int32))
set_option maxRecDepth 65536 in
set_option maxHeartbeats 40000000 in
theorem rm1_13 (l : Launch) (Z : State) (a0 : Array Value) (hw : ∀ d ∈ tables_1, d.before a0 Z = true) (ws : List Jvm.Cond) (a1 : Addr) (k1 : ClassId) (y0 : Int32) (y1 : Int32) (y2 : Int32) (y3 : Int32) (h0 : Heap) (n0 : Nat) (Z0 : n0 ≤ h0.size) (V0 : Arv Z h0 a1 k1 .int (4 : Int32) [(.int y0), (.int y1), (.int y2), (.int y3)] (.int (0 : Int32))) (g_a1 : n0 ≤ a1) :
    MetFree l (⟨"com/example/noise_to_nodes/noisetonodes/AscendingIntsCountBelowPinLaw", "cx", "([III)V"⟩ : MethodName) (head1 (Jvm.Cond.code (⟨"com/example/noise_to_nodes/noisetonodes/AscendingIntsCountBelowPinLaw", "cx", "([III)V"⟩ : MethodName) method_2_code 4 none :: ws) ({ frames := 0, cells := 0, slots := 0, locals := 0 } : Room)) (fun a U => a = #[(.ref a1), (.int (1 : Int32)), (.int (3 : Int32))] ∧ Z.Warmed39 U.vm ∧ U.heap = h0) (fun _ _ _ _ _ => True) (fun _ U o U' => ∃ v L, o = .returned v ∧ Q1_13 Z a1 k1 y0 y1 y2 y3 h0 n0 v U'.heap L ∧ FrameEnd U o U' L ({ frames := 0, cells := 0, slots := 0, locals := 0 } : Room).cells ({ frames := 0, cells := 0, slots := 0, locals := 0 } : Room).slots) := by
  refine MetFree.of_bodySF (plainFor_of_name pn_com_example_noise_to_nodes_noisetonodes_AscendingIntsCountBelowPinLaw) hisR ?_
  intro p e s m args below meth c s₁ Bd hml0 hP hK
  obtain ⟨rfl, hZ, hh⟩ := hP
  have hx := Bd.exec
  have hby := Bd.bytes
  have hml : c.maxLocals = 4 := hml0
  have hown : s.vm.findClass "com/example/noise_to_nodes/noisetonodes/AscendingIntsCountBelowPinLaw" = some m.cls := findClass_of_methodNamed Bd.named
  have hnm := (name_of_methodNamed Bd.named Bd.method).1
  have X0 : Stand p l e ({ frames := 0, cells := 0, slots := 0, locals := 0 } : Room) s m #[(.ref a1), (.int (1 : Int32)), (.int (3 : Int32))] below meth c s₁ [] 0 0 := Stand.of_body Bd
  have e0 : s₁.heap = h0 := by rw [← hh, Bd.state]; rfl
  have N0 := Fr.nil n0
  show Goes p e below (fun s₂ o => ∃ v L, o = .returned v ∧ Q1_13 Z a1 k1 y0 y1 y2 y3 h0 n0 v s₂.heap L ∧ FrameEnd s o s₂ L ({ frames := 0, cells := 0, slots := 0, locals := 0 } : Room).cells ({ frames := 0, cells := 0, slots := 0, locals := 0 } : Room).slots) (s₁.setTop (entryFrame m #[(.ref a1), (.int (1 : Int32)), (.int (3 : Int32))] 4))
  refine Goes.cast (ef_1_13 m a1 (1 : Int32) (3 : Int32)) ?_
  have K0 := Keep.refl h0 [a1]
  refine Goes.via (B := s₁.setTop (mkF m 1 #[.val (.ref a1), .val (.int (1 : Int32)), .val (.int (3 : Int32)), .unset] [(.ref a1)])) (fun t k => XS.aloadN X0.here hx rfl (hb hby d1_0) rfl rfl k) ?_
  refine Goes.via (B := s₁.setTop (mkF m 2 #[.val (.ref a1), .val (.int (1 : Int32)), .val (.int (3 : Int32)), .unset] [(.int (1 : Int32)), (.ref a1)])) (fun t k => XS.iloadN X0.here hx rfl (hb hby d1_1) rfl k) ?_
  obtain ⟨cl1, Ar1, q1, S1, M1, H1, G1⟩ := V0
  have hin1 : ¬ ((1 : Int32) < 0 ∨ cl1.slots.size ≤ ((1 : Int32)).toNatClampNeg) := inb_of S1 ⟨by decide, by decide⟩
  have hat1 : cl1.slots[((1 : Int32)).toNatClampNeg]? = some (.int y1) := H1.at hin1 rfl
  refine Goes.via (B := s₁.setTop (mkF m 3 #[.val (.ref a1), .val (.int (1 : Int32)), .val (.int (3 : Int32)), .unset] [(.int y1)])) (fun t k => X0.iaload hx (j := (1 : Int32)) (v := (.int y1)) (by rw [e0]; exact Ar1.1) (State.isArrayOf_alike hZ.alike Ar1.2.1) Ar1.2.2 hin1 hat1 (g := (mkF m 2 #[.val (.ref a1), .val (.int (1 : Int32)), .val (.int (3 : Int32)), .unset] [(.int (1 : Int32)), (.ref a1)])) rfl rfl (hb hby d1_2) _ k) ?_
  refine Goes.via (B := s₁.setTop (mkF m 4 #[.val (.ref a1), .val (.int (1 : Int32)), .val (.int (3 : Int32)), .unset] [(.ref a1), (.int y1)])) (fun t k => XS.aloadN X0.here hx rfl (hb hby d1_3) rfl rfl k) ?_
  refine Goes.via (B := s₁.setTop (mkF m 5 #[.val (.ref a1), .val (.int (1 : Int32)), .val (.int (3 : Int32)), .unset] [(.int (3 : Int32)), (.ref a1), (.int y1)])) (fun t k => XS.iloadN X0.here hx rfl (hb hby d1_4) rfl k) ?_
  obtain ⟨cl2, Ar2, q2, S2, M2, H2, G2⟩ := (⟨cl1, Ar1, q1, S1, M1, H1, G1⟩ : Arv Z h0 a1 k1 .int (4 : Int32) [(.int y0), (.int y1), (.int y2), (.int y3)] (.int (0 : Int32)))
  have hin2 : ¬ ((3 : Int32) < 0 ∨ cl2.slots.size ≤ ((3 : Int32)).toNatClampNeg) := inb_of S2 ⟨by decide, by decide⟩
  have hat2 : cl2.slots[((3 : Int32)).toNatClampNeg]? = some (.int y3) := H2.at hin2 rfl
  refine Goes.via (B := s₁.setTop (mkF m 6 #[.val (.ref a1), .val (.int (1 : Int32)), .val (.int (3 : Int32)), .unset] [(.int y3), (.int y1)])) (fun t k => X0.iaload hx (j := (3 : Int32)) (v := (.int y3)) (by rw [e0]; exact Ar2.1) (State.isArrayOf_alike hZ.alike Ar2.2.1) Ar2.2.2 hin2 hat2 (g := (mkF m 5 #[.val (.ref a1), .val (.int (1 : Int32)), .val (.int (3 : Int32)), .unset] [(.int (3 : Int32)), (.ref a1), (.int y1)])) rfl rfl (hb hby d1_5) _ k) ?_
  by_cases c6_3 : y3 < y1
  · refine Goes.via (B := s₁.setTop (mkF m 9 #[.val (.ref a1), .val (.int (1 : Int32)), .val (.int (3 : Int32)), .unset] [])) (fun t k => XS.icmpNo X0.here hx rfl (hb hby d1_6) rfl (tlt c6_3).2.2.2 k) ?_
    refine Goes.via (B := s₁.setTop (mkF m 10 #[.val (.ref a1), .val (.int (1 : Int32)), .val (.int (3 : Int32)), .unset] [(.ref a1)])) (fun t k => XS.aloadN X0.here hx rfl (hb hby d1_9) rfl rfl k) ?_
    refine Goes.via (B := s₁.setTop (mkF m 11 #[.val (.ref a1), .val (.int (1 : Int32)), .val (.int (3 : Int32)), .unset] [(.int (1 : Int32)), (.ref a1)])) (fun t k => XS.iloadN X0.here hx rfl (hb hby d1_10) rfl k) ?_
    obtain ⟨cl4, Ar4, q4, S4, M4, H4, G4⟩ := (⟨cl2, Ar2, q2, S2, M2, H2, G2⟩ : Arv Z h0 a1 k1 .int (4 : Int32) [(.int y0), (.int y1), (.int y2), (.int y3)] (.int (0 : Int32)))
    have hin4 : ¬ ((1 : Int32) < 0 ∨ cl4.slots.size ≤ ((1 : Int32)).toNatClampNeg) := inb_of S4 ⟨by decide, by decide⟩
    have hat4 : cl4.slots[((1 : Int32)).toNatClampNeg]? = some (.int y1) := H4.at hin4 rfl
    refine Goes.via (B := s₁.setTop (mkF m 12 #[.val (.ref a1), .val (.int (1 : Int32)), .val (.int (3 : Int32)), .unset] [(.int y1)])) (fun t k => X0.iaload hx (j := (1 : Int32)) (v := (.int y1)) (by rw [e0]; exact Ar4.1) (State.isArrayOf_alike hZ.alike Ar4.2.1) Ar4.2.2 hin4 hat4 (g := (mkF m 11 #[.val (.ref a1), .val (.int (1 : Int32)), .val (.int (3 : Int32)), .unset] [(.int (1 : Int32)), (.ref a1)])) rfl rfl (hb hby d1_11) _ k) ?_
    refine Goes.via (B := s₁.setTop (mkF m 13 #[.val (.ref a1), .val (.int (1 : Int32)), .val (.int (3 : Int32)), .val (.int y1)] [])) (fun t k => XS.istoreN X0.here hx rfl (hb hby d1_12) rfl (l' := #[.val (.ref a1), .val (.int (1 : Int32)), .val (.int (3 : Int32)), .val (.int y1)]) rfl k) ?_
    refine Goes.via (B := s₁.setTop (mkF m 14 #[.val (.ref a1), .val (.int (1 : Int32)), .val (.int (3 : Int32)), .val (.int y1)] [(.ref a1)])) (fun t k => XS.aloadN X0.here hx rfl (hb hby d1_13) rfl rfl k) ?_
    refine Goes.via (B := s₁.setTop (mkF m 15 #[.val (.ref a1), .val (.int (1 : Int32)), .val (.int (3 : Int32)), .val (.int y1)] [(.int (1 : Int32)), (.ref a1)])) (fun t k => XS.iloadN X0.here hx rfl (hb hby d1_14) rfl k) ?_
    refine Goes.via (B := s₁.setTop (mkF m 16 #[.val (.ref a1), .val (.int (1 : Int32)), .val (.int (3 : Int32)), .val (.int y1)] [(.ref a1), (.int (1 : Int32)), (.ref a1)])) (fun t k => XS.aloadN X0.here hx rfl (hb hby d1_15) rfl rfl k) ?_
    refine Goes.via (B := s₁.setTop (mkF m 17 #[.val (.ref a1), .val (.int (1 : Int32)), .val (.int (3 : Int32)), .val (.int y1)] [(.int (3 : Int32)), (.ref a1), (.int (1 : Int32)), (.ref a1)])) (fun t k => XS.iloadN X0.here hx rfl (hb hby d1_16) rfl k) ?_
    obtain ⟨cl5, Ar5, q5, S5, M5, H5, G5⟩ := (⟨cl4, Ar4, q4, S4, M4, H4, G4⟩ : Arv Z h0 a1 k1 .int (4 : Int32) [(.int y0), (.int y1), (.int y2), (.int y3)] (.int (0 : Int32)))
    have hin5 : ¬ ((3 : Int32) < 0 ∨ cl5.slots.size ≤ ((3 : Int32)).toNatClampNeg) := inb_of S5 ⟨by decide, by decide⟩
    have hat5 : cl5.slots[((3 : Int32)).toNatClampNeg]? = some (.int y3) := H5.at hin5 rfl
    refine Goes.via (B := s₁.setTop (mkF m 18 #[.val (.ref a1), .val (.int (1 : Int32)), .val (.int (3 : Int32)), .val (.int y1)] [(.int y3), (.int (1 : Int32)), (.ref a1)])) (fun t k => X0.iaload hx (j := (3 : Int32)) (v := (.int y3)) (by rw [e0]; exact Ar5.1) (State.isArrayOf_alike hZ.alike Ar5.2.1) Ar5.2.2 hin5 hat5 (g := (mkF m 17 #[.val (.ref a1), .val (.int (1 : Int32)), .val (.int (3 : Int32)), .val (.int y1)] [(.int (3 : Int32)), (.ref a1), (.int (1 : Int32)), (.ref a1)])) rfl rfl (hb hby d1_17) _ k) ?_
    obtain ⟨cl6, Ar6, q6, S6, M6, H6, G6⟩ := (⟨cl5, Ar5, q5, S5, M5, H5, G5⟩ : Arv Z h0 a1 k1 .int (4 : Int32) [(.int y0), (.int y1), (.int y2), (.int y3)] (.int (0 : Int32)))
    have hin6 : ¬ ((1 : Int32) < 0 ∨ cl6.slots.size ≤ ((1 : Int32)).toNatClampNeg) := inb_of S6 ⟨by decide, by decide⟩
    obtain ⟨T6, h6, X6, e6, W6, st6⟩ := stI X0 hx hZ e0 Ar6 (j := (1 : Int32)) hin6 (g := (mkF m 18 #[.val (.ref a1), .val (.int (1 : Int32)), .val (.int (3 : Int32)), .val (.int y1)] [(.int y3), (.int (1 : Int32)), (.ref a1)])) rfl rfl (hb hby d1_18)
    have Va1_6 := Arv.set Ar6 q6 S6 M6 H6 G6 rfl W6 1 rfl (Nat.le_of_ble_eq_true rfl)
    replace Va1_6 : Arv Z h6 a1 k1 .int (4 : Int32) [(.int y0), (.int y3), (.int y2), (.int y3)] (.int (0 : Int32)) := Va1_6
    have N6 := Fr.snoc X6 N0 g_a1
    have Z6 : n0 ≤ h6.size := Nat.le_trans Z0 (Nat.le_of_eq W6.size.symm)
    have K6 := K0.wr W6 (Or.inl (List.mem_singleton.mpr rfl))
    refine Goes.via (B := T6.setTop (mkF m 19 #[.val (.ref a1), .val (.int (1 : Int32)), .val (.int (3 : Int32)), .val (.int y1)] [])) st6 ?_
    refine Goes.via (B := T6.setTop (mkF m 20 #[.val (.ref a1), .val (.int (1 : Int32)), .val (.int (3 : Int32)), .val (.int y1)] [(.ref a1)])) (fun t k => XS.aloadN X6.here hx rfl (hb hby d1_19) rfl rfl k) ?_
    refine Goes.via (B := T6.setTop (mkF m 21 #[.val (.ref a1), .val (.int (1 : Int32)), .val (.int (3 : Int32)), .val (.int y1)] [(.int (3 : Int32)), (.ref a1)])) (fun t k => XS.iloadN X6.here hx rfl (hb hby d1_20) rfl k) ?_
    refine Goes.via (B := T6.setTop (mkF m 22 #[.val (.ref a1), .val (.int (1 : Int32)), .val (.int (3 : Int32)), .val (.int y1)] [(.int y1), (.int (3 : Int32)), (.ref a1)])) (fun t k => XS.iloadN X6.here hx rfl (hb hby d1_21) rfl k) ?_
    obtain ⟨cl7, Ar7, q7, S7, M7, H7, G7⟩ := Va1_6
    have hin7 : ¬ ((3 : Int32) < 0 ∨ cl7.slots.size ≤ ((3 : Int32)).toNatClampNeg) := inb_of S7 ⟨by decide, by decide⟩
    obtain ⟨T7, h7, X7, e7, W7, st7⟩ := stI X6 hx hZ e6 Ar7 (j := (3 : Int32)) hin7 (g := (mkF m 22 #[.val (.ref a1), .val (.int (1 : Int32)), .val (.int (3 : Int32)), .val (.int y1)] [(.int y1), (.int (3 : Int32)), (.ref a1)])) rfl rfl (hb hby d1_22)
    have Va1_7 := Arv.set Ar7 q7 S7 M7 H7 G7 rfl W7 3 rfl (Nat.le_of_ble_eq_true rfl)
    replace Va1_7 : Arv Z h7 a1 k1 .int (4 : Int32) [(.int y0), (.int y3), (.int y2), (.int y1)] (.int (0 : Int32)) := Va1_7
    have N7 := Fr.snoc X7 N6 g_a1
    have Z7 : n0 ≤ h7.size := Nat.le_trans Z6 (Nat.le_of_eq W7.size.symm)
    have K7 := K6.wr W7 (Or.inl (List.mem_singleton.mpr rfl))
    refine Goes.via (B := T7.setTop (mkF m 23 #[.val (.ref a1), .val (.int (1 : Int32)), .val (.int (3 : Int32)), .val (.int y1)] [])) st7 ?_
    have hlo : own_lo y1 y3 = y3 := by rw [own_lo, if_pos c6_3]
    have hhi : own_hi y1 y3 = y1 := by rw [own_hi, if_pos c6_3]
    have hV : Arv Z T7.heap a1 k1 .int (4 : Int32) [(.int y0), (.int (own_lo y1 y3)), (.int y2), (.int (own_hi y1 y3))] (.int (0 : Int32)) := by rw [hlo, hhi, e7]; exact Va1_7
    exact own_out X7 (v := none) (fun _ => rfl) Bd.notSynchronized (fun fs hr => X7.returnOut hx Bd.returns (hb hby d1_23) hr) ⟨rfl, N7, (by rw [e7]; exact K7), hV⟩ (by decide) (by decide)
  · refine Goes.via (B := s₁.setTop (mkF m 23 #[.val (.ref a1), .val (.int (1 : Int32)), .val (.int (3 : Int32)), .unset] [])) (fun t k => XS.icmpYes X0.here hx rfl (pc0 := 6) (pc' := 23) rfl (hb hby d1_6) rfl (flt c6_3).2.2.2 (by decide) (by decide) k) ?_
    have hlo : own_lo y1 y3 = y1 := by rw [own_lo, if_neg c6_3]
    have hhi : own_hi y1 y3 = y3 := by rw [own_hi, if_neg c6_3]
    have hV : Arv Z s₁.heap a1 k1 .int (4 : Int32) [(.int y0), (.int (own_lo y1 y3)), (.int y2), (.int (own_hi y1 y3))] (.int (0 : Int32)) := by rw [hlo, hhi, e0]; exact (⟨cl2, Ar2, q2, S2, M2, H2, G2⟩ : Arv Z h0 a1 k1 .int (4 : Int32) [(.int y0), (.int y1), (.int y2), (.int y3)] (.int (0 : Int32)))
    exact own_out X0 (v := none) (fun _ => rfl) Bd.notSynchronized (fun fs hr => X0.returnOut hx Bd.returns (hb hby d1_23) hr) ⟨rfl, N0, (by rw [e0]; exact K0), hV⟩ (by decide) (by decide)
theorem ef_1_12 (m : MethodId) (x0 : Addr) (x1 : Int32) (x2 : Int32) : entryFrame m #[(.ref x0), (.int x1), (.int x2)] 4 = mkF m 0 #[.val (.ref x0), .val (.int x1), .val (.int x2), .unset] [] := by first | (simp [entryFrame, mkF, argsToLocals, Value.category]; done) | rfl
def Q1_12 (Z : State) (a1 : Addr) (k1 : ClassId) (y0 : Int32) (y1 : Int32) (y2 : Int32) (y3 : Int32) (h0 : Heap) (n0 : Nat) (v : Option Value) (h : Heap) (L : List Loc) : Prop := v = none ∧ Fr n0 L ∧ Keep h0 h [a1] ∧ Arv Z h a1 k1 .int (4 : Int32) [(.int y0), (.int (own_lo y1 y2)), (.int (own_hi y1 y2)), (.int y3)] (.int (0 : Int32))
set_option maxRecDepth 65536 in
set_option maxHeartbeats 40000000 in
theorem rm1_12 (l : Launch) (Z : State) (a0 : Array Value) (hw : ∀ d ∈ tables_1, d.before a0 Z = true) (ws : List Jvm.Cond) (a1 : Addr) (k1 : ClassId) (y0 : Int32) (y1 : Int32) (y2 : Int32) (y3 : Int32) (h0 : Heap) (n0 : Nat) (Z0 : n0 ≤ h0.size) (V0 : Arv Z h0 a1 k1 .int (4 : Int32) [(.int y0), (.int y1), (.int y2), (.int y3)] (.int (0 : Int32))) (g_a1 : n0 ≤ a1) :
    MetFree l (⟨"com/example/noise_to_nodes/noisetonodes/AscendingIntsCountBelowPinLaw", "cx", "([III)V"⟩ : MethodName) (head1 (Jvm.Cond.code (⟨"com/example/noise_to_nodes/noisetonodes/AscendingIntsCountBelowPinLaw", "cx", "([III)V"⟩ : MethodName) method_2_code 4 none :: ws) ({ frames := 0, cells := 0, slots := 0, locals := 0 } : Room)) (fun a U => a = #[(.ref a1), (.int (1 : Int32)), (.int (2 : Int32))] ∧ Z.Warmed39 U.vm ∧ U.heap = h0) (fun _ _ _ _ _ => True) (fun _ U o U' => ∃ v L, o = .returned v ∧ Q1_12 Z a1 k1 y0 y1 y2 y3 h0 n0 v U'.heap L ∧ FrameEnd U o U' L ({ frames := 0, cells := 0, slots := 0, locals := 0 } : Room).cells ({ frames := 0, cells := 0, slots := 0, locals := 0 } : Room).slots) := by
  refine MetFree.of_bodySF (plainFor_of_name pn_com_example_noise_to_nodes_noisetonodes_AscendingIntsCountBelowPinLaw) hisR ?_
  intro p e s m args below meth c s₁ Bd hml0 hP hK
  obtain ⟨rfl, hZ, hh⟩ := hP
  have hx := Bd.exec
  have hby := Bd.bytes
  have hml : c.maxLocals = 4 := hml0
  have hown : s.vm.findClass "com/example/noise_to_nodes/noisetonodes/AscendingIntsCountBelowPinLaw" = some m.cls := findClass_of_methodNamed Bd.named
  have hnm := (name_of_methodNamed Bd.named Bd.method).1
  have X0 : Stand p l e ({ frames := 0, cells := 0, slots := 0, locals := 0 } : Room) s m #[(.ref a1), (.int (1 : Int32)), (.int (2 : Int32))] below meth c s₁ [] 0 0 := Stand.of_body Bd
  have e0 : s₁.heap = h0 := by rw [← hh, Bd.state]; rfl
  have N0 := Fr.nil n0
  show Goes p e below (fun s₂ o => ∃ v L, o = .returned v ∧ Q1_12 Z a1 k1 y0 y1 y2 y3 h0 n0 v s₂.heap L ∧ FrameEnd s o s₂ L ({ frames := 0, cells := 0, slots := 0, locals := 0 } : Room).cells ({ frames := 0, cells := 0, slots := 0, locals := 0 } : Room).slots) (s₁.setTop (entryFrame m #[(.ref a1), (.int (1 : Int32)), (.int (2 : Int32))] 4))
  refine Goes.cast (ef_1_12 m a1 (1 : Int32) (2 : Int32)) ?_
  have K0 := Keep.refl h0 [a1]
  refine Goes.via (B := s₁.setTop (mkF m 1 #[.val (.ref a1), .val (.int (1 : Int32)), .val (.int (2 : Int32)), .unset] [(.ref a1)])) (fun t k => XS.aloadN X0.here hx rfl (hb hby d1_0) rfl rfl k) ?_
  refine Goes.via (B := s₁.setTop (mkF m 2 #[.val (.ref a1), .val (.int (1 : Int32)), .val (.int (2 : Int32)), .unset] [(.int (1 : Int32)), (.ref a1)])) (fun t k => XS.iloadN X0.here hx rfl (hb hby d1_1) rfl k) ?_
  obtain ⟨cl1, Ar1, q1, S1, M1, H1, G1⟩ := V0
  have hin1 : ¬ ((1 : Int32) < 0 ∨ cl1.slots.size ≤ ((1 : Int32)).toNatClampNeg) := inb_of S1 ⟨by decide, by decide⟩
  have hat1 : cl1.slots[((1 : Int32)).toNatClampNeg]? = some (.int y1) := H1.at hin1 rfl
  refine Goes.via (B := s₁.setTop (mkF m 3 #[.val (.ref a1), .val (.int (1 : Int32)), .val (.int (2 : Int32)), .unset] [(.int y1)])) (fun t k => X0.iaload hx (j := (1 : Int32)) (v := (.int y1)) (by rw [e0]; exact Ar1.1) (State.isArrayOf_alike hZ.alike Ar1.2.1) Ar1.2.2 hin1 hat1 (g := (mkF m 2 #[.val (.ref a1), .val (.int (1 : Int32)), .val (.int (2 : Int32)), .unset] [(.int (1 : Int32)), (.ref a1)])) rfl rfl (hb hby d1_2) _ k) ?_
  refine Goes.via (B := s₁.setTop (mkF m 4 #[.val (.ref a1), .val (.int (1 : Int32)), .val (.int (2 : Int32)), .unset] [(.ref a1), (.int y1)])) (fun t k => XS.aloadN X0.here hx rfl (hb hby d1_3) rfl rfl k) ?_
  refine Goes.via (B := s₁.setTop (mkF m 5 #[.val (.ref a1), .val (.int (1 : Int32)), .val (.int (2 : Int32)), .unset] [(.int (2 : Int32)), (.ref a1), (.int y1)])) (fun t k => XS.iloadN X0.here hx rfl (hb hby d1_4) rfl k) ?_
  obtain ⟨cl2, Ar2, q2, S2, M2, H2, G2⟩ := (⟨cl1, Ar1, q1, S1, M1, H1, G1⟩ : Arv Z h0 a1 k1 .int (4 : Int32) [(.int y0), (.int y1), (.int y2), (.int y3)] (.int (0 : Int32)))
  have hin2 : ¬ ((2 : Int32) < 0 ∨ cl2.slots.size ≤ ((2 : Int32)).toNatClampNeg) := inb_of S2 ⟨by decide, by decide⟩
  have hat2 : cl2.slots[((2 : Int32)).toNatClampNeg]? = some (.int y2) := H2.at hin2 rfl
  refine Goes.via (B := s₁.setTop (mkF m 6 #[.val (.ref a1), .val (.int (1 : Int32)), .val (.int (2 : Int32)), .unset] [(.int y2), (.int y1)])) (fun t k => X0.iaload hx (j := (2 : Int32)) (v := (.int y2)) (by rw [e0]; exact Ar2.1) (State.isArrayOf_alike hZ.alike Ar2.2.1) Ar2.2.2 hin2 hat2 (g := (mkF m 5 #[.val (.ref a1), .val (.int (1 : Int32)), .val (.int (2 : Int32)), .unset] [(.int (2 : Int32)), (.ref a1), (.int y1)])) rfl rfl (hb hby d1_5) _ k) ?_
  by_cases c6_3 : y2 < y1
  · refine Goes.via (B := s₁.setTop (mkF m 9 #[.val (.ref a1), .val (.int (1 : Int32)), .val (.int (2 : Int32)), .unset] [])) (fun t k => XS.icmpNo X0.here hx rfl (hb hby d1_6) rfl (tlt c6_3).2.2.2 k) ?_
    refine Goes.via (B := s₁.setTop (mkF m 10 #[.val (.ref a1), .val (.int (1 : Int32)), .val (.int (2 : Int32)), .unset] [(.ref a1)])) (fun t k => XS.aloadN X0.here hx rfl (hb hby d1_9) rfl rfl k) ?_
    refine Goes.via (B := s₁.setTop (mkF m 11 #[.val (.ref a1), .val (.int (1 : Int32)), .val (.int (2 : Int32)), .unset] [(.int (1 : Int32)), (.ref a1)])) (fun t k => XS.iloadN X0.here hx rfl (hb hby d1_10) rfl k) ?_
    obtain ⟨cl4, Ar4, q4, S4, M4, H4, G4⟩ := (⟨cl2, Ar2, q2, S2, M2, H2, G2⟩ : Arv Z h0 a1 k1 .int (4 : Int32) [(.int y0), (.int y1), (.int y2), (.int y3)] (.int (0 : Int32)))
    have hin4 : ¬ ((1 : Int32) < 0 ∨ cl4.slots.size ≤ ((1 : Int32)).toNatClampNeg) := inb_of S4 ⟨by decide, by decide⟩
    have hat4 : cl4.slots[((1 : Int32)).toNatClampNeg]? = some (.int y1) := H4.at hin4 rfl
    refine Goes.via (B := s₁.setTop (mkF m 12 #[.val (.ref a1), .val (.int (1 : Int32)), .val (.int (2 : Int32)), .unset] [(.int y1)])) (fun t k => X0.iaload hx (j := (1 : Int32)) (v := (.int y1)) (by rw [e0]; exact Ar4.1) (State.isArrayOf_alike hZ.alike Ar4.2.1) Ar4.2.2 hin4 hat4 (g := (mkF m 11 #[.val (.ref a1), .val (.int (1 : Int32)), .val (.int (2 : Int32)), .unset] [(.int (1 : Int32)), (.ref a1)])) rfl rfl (hb hby d1_11) _ k) ?_
    refine Goes.via (B := s₁.setTop (mkF m 13 #[.val (.ref a1), .val (.int (1 : Int32)), .val (.int (2 : Int32)), .val (.int y1)] [])) (fun t k => XS.istoreN X0.here hx rfl (hb hby d1_12) rfl (l' := #[.val (.ref a1), .val (.int (1 : Int32)), .val (.int (2 : Int32)), .val (.int y1)]) rfl k) ?_
    refine Goes.via (B := s₁.setTop (mkF m 14 #[.val (.ref a1), .val (.int (1 : Int32)), .val (.int (2 : Int32)), .val (.int y1)] [(.ref a1)])) (fun t k => XS.aloadN X0.here hx rfl (hb hby d1_13) rfl rfl k) ?_
    refine Goes.via (B := s₁.setTop (mkF m 15 #[.val (.ref a1), .val (.int (1 : Int32)), .val (.int (2 : Int32)), .val (.int y1)] [(.int (1 : Int32)), (.ref a1)])) (fun t k => XS.iloadN X0.here hx rfl (hb hby d1_14) rfl k) ?_
    refine Goes.via (B := s₁.setTop (mkF m 16 #[.val (.ref a1), .val (.int (1 : Int32)), .val (.int (2 : Int32)), .val (.int y1)] [(.ref a1), (.int (1 : Int32)), (.ref a1)])) (fun t k => XS.aloadN X0.here hx rfl (hb hby d1_15) rfl rfl k) ?_
    refine Goes.via (B := s₁.setTop (mkF m 17 #[.val (.ref a1), .val (.int (1 : Int32)), .val (.int (2 : Int32)), .val (.int y1)] [(.int (2 : Int32)), (.ref a1), (.int (1 : Int32)), (.ref a1)])) (fun t k => XS.iloadN X0.here hx rfl (hb hby d1_16) rfl k) ?_
    obtain ⟨cl5, Ar5, q5, S5, M5, H5, G5⟩ := (⟨cl4, Ar4, q4, S4, M4, H4, G4⟩ : Arv Z h0 a1 k1 .int (4 : Int32) [(.int y0), (.int y1), (.int y2), (.int y3)] (.int (0 : Int32)))
    have hin5 : ¬ ((2 : Int32) < 0 ∨ cl5.slots.size ≤ ((2 : Int32)).toNatClampNeg) := inb_of S5 ⟨by decide, by decide⟩
    have hat5 : cl5.slots[((2 : Int32)).toNatClampNeg]? = some (.int y2) := H5.at hin5 rfl
    refine Goes.via (B := s₁.setTop (mkF m 18 #[.val (.ref a1), .val (.int (1 : Int32)), .val (.int (2 : Int32)), .val (.int y1)] [(.int y2), (.int (1 : Int32)), (.ref a1)])) (fun t k => X0.iaload hx (j := (2 : Int32)) (v := (.int y2)) (by rw [e0]; exact Ar5.1) (State.isArrayOf_alike hZ.alike Ar5.2.1) Ar5.2.2 hin5 hat5 (g := (mkF m 17 #[.val (.ref a1), .val (.int (1 : Int32)), .val (.int (2 : Int32)), .val (.int y1)] [(.int (2 : Int32)), (.ref a1), (.int (1 : Int32)), (.ref a1)])) rfl rfl (hb hby d1_17) _ k) ?_
    obtain ⟨cl6, Ar6, q6, S6, M6, H6, G6⟩ := (⟨cl5, Ar5, q5, S5, M5, H5, G5⟩ : Arv Z h0 a1 k1 .int (4 : Int32) [(.int y0), (.int y1), (.int y2), (.int y3)] (.int (0 : Int32)))
    have hin6 : ¬ ((1 : Int32) < 0 ∨ cl6.slots.size ≤ ((1 : Int32)).toNatClampNeg) := inb_of S6 ⟨by decide, by decide⟩
    obtain ⟨T6, h6, X6, e6, W6, st6⟩ := stI X0 hx hZ e0 Ar6 (j := (1 : Int32)) hin6 (g := (mkF m 18 #[.val (.ref a1), .val (.int (1 : Int32)), .val (.int (2 : Int32)), .val (.int y1)] [(.int y2), (.int (1 : Int32)), (.ref a1)])) rfl rfl (hb hby d1_18)
    have Va1_6 := Arv.set Ar6 q6 S6 M6 H6 G6 rfl W6 1 rfl (Nat.le_of_ble_eq_true rfl)
    replace Va1_6 : Arv Z h6 a1 k1 .int (4 : Int32) [(.int y0), (.int y2), (.int y2), (.int y3)] (.int (0 : Int32)) := Va1_6
    have N6 := Fr.snoc X6 N0 g_a1
    have Z6 : n0 ≤ h6.size := Nat.le_trans Z0 (Nat.le_of_eq W6.size.symm)
    have K6 := K0.wr W6 (Or.inl (List.mem_singleton.mpr rfl))
    refine Goes.via (B := T6.setTop (mkF m 19 #[.val (.ref a1), .val (.int (1 : Int32)), .val (.int (2 : Int32)), .val (.int y1)] [])) st6 ?_
    refine Goes.via (B := T6.setTop (mkF m 20 #[.val (.ref a1), .val (.int (1 : Int32)), .val (.int (2 : Int32)), .val (.int y1)] [(.ref a1)])) (fun t k => XS.aloadN X6.here hx rfl (hb hby d1_19) rfl rfl k) ?_
    refine Goes.via (B := T6.setTop (mkF m 21 #[.val (.ref a1), .val (.int (1 : Int32)), .val (.int (2 : Int32)), .val (.int y1)] [(.int (2 : Int32)), (.ref a1)])) (fun t k => XS.iloadN X6.here hx rfl (hb hby d1_20) rfl k) ?_
    refine Goes.via (B := T6.setTop (mkF m 22 #[.val (.ref a1), .val (.int (1 : Int32)), .val (.int (2 : Int32)), .val (.int y1)] [(.int y1), (.int (2 : Int32)), (.ref a1)])) (fun t k => XS.iloadN X6.here hx rfl (hb hby d1_21) rfl k) ?_
    obtain ⟨cl7, Ar7, q7, S7, M7, H7, G7⟩ := Va1_6
    have hin7 : ¬ ((2 : Int32) < 0 ∨ cl7.slots.size ≤ ((2 : Int32)).toNatClampNeg) := inb_of S7 ⟨by decide, by decide⟩
    obtain ⟨T7, h7, X7, e7, W7, st7⟩ := stI X6 hx hZ e6 Ar7 (j := (2 : Int32)) hin7 (g := (mkF m 22 #[.val (.ref a1), .val (.int (1 : Int32)), .val (.int (2 : Int32)), .val (.int y1)] [(.int y1), (.int (2 : Int32)), (.ref a1)])) rfl rfl (hb hby d1_22)
    have Va1_7 := Arv.set Ar7 q7 S7 M7 H7 G7 rfl W7 2 rfl (Nat.le_of_ble_eq_true rfl)
    replace Va1_7 : Arv Z h7 a1 k1 .int (4 : Int32) [(.int y0), (.int y2), (.int y1), (.int y3)] (.int (0 : Int32)) := Va1_7
    have N7 := Fr.snoc X7 N6 g_a1
    have Z7 : n0 ≤ h7.size := Nat.le_trans Z6 (Nat.le_of_eq W7.size.symm)
    have K7 := K6.wr W7 (Or.inl (List.mem_singleton.mpr rfl))
    refine Goes.via (B := T7.setTop (mkF m 23 #[.val (.ref a1), .val (.int (1 : Int32)), .val (.int (2 : Int32)), .val (.int y1)] [])) st7 ?_
    have hlo : own_lo y1 y2 = y2 := by rw [own_lo, if_pos c6_3]
    have hhi : own_hi y1 y2 = y1 := by rw [own_hi, if_pos c6_3]
    have hV : Arv Z T7.heap a1 k1 .int (4 : Int32) [(.int y0), (.int (own_lo y1 y2)), (.int (own_hi y1 y2)), (.int y3)] (.int (0 : Int32)) := by rw [hlo, hhi, e7]; exact Va1_7
    exact own_out X7 (v := none) (fun _ => rfl) Bd.notSynchronized (fun fs hr => X7.returnOut hx Bd.returns (hb hby d1_23) hr) ⟨rfl, N7, (by rw [e7]; exact K7), hV⟩ (by decide) (by decide)
  · refine Goes.via (B := s₁.setTop (mkF m 23 #[.val (.ref a1), .val (.int (1 : Int32)), .val (.int (2 : Int32)), .unset] [])) (fun t k => XS.icmpYes X0.here hx rfl (pc0 := 6) (pc' := 23) rfl (hb hby d1_6) rfl (flt c6_3).2.2.2 (by decide) (by decide) k) ?_
    have hlo : own_lo y1 y2 = y1 := by rw [own_lo, if_neg c6_3]
    have hhi : own_hi y1 y2 = y2 := by rw [own_hi, if_neg c6_3]
    have hV : Arv Z s₁.heap a1 k1 .int (4 : Int32) [(.int y0), (.int (own_lo y1 y2)), (.int (own_hi y1 y2)), (.int y3)] (.int (0 : Int32)) := by rw [hlo, hhi, e0]; exact (⟨cl2, Ar2, q2, S2, M2, H2, G2⟩ : Arv Z h0 a1 k1 .int (4 : Int32) [(.int y0), (.int y1), (.int y2), (.int y3)] (.int (0 : Int32)))
    exact own_out X0 (v := none) (fun _ => rfl) Bd.notSynchronized (fun fs hr => X0.returnOut hx Bd.returns (hb hby d1_23) hr) ⟨rfl, N0, (by rw [e0]; exact K0), hV⟩ (by decide) (by decide)
def own_b0 (y0 y1 y2 y3 p3 : Int32) : Int32 := (0 : Int32)
theorem d2_0 : decode prog_4_method_2_code 0 = .ok (.iconst 0, 1) := by decide +kernel
theorem d2_1 : decode prog_4_method_2_code 1 = .ok (.istore_n 3, 1) := by decide +kernel
theorem d2_2 : decode prog_4_method_2_code 2 = .ok (.iload_n 1, 1) := by decide +kernel
theorem d2_3 : decode prog_4_method_2_code 3 = .ok (.istore 4, 2) := by decide +kernel
theorem d2_5 : decode prog_4_method_2_code 5 = .ok (.iload_n 3, 1) := by decide +kernel
theorem d2_6 : decode prog_4_method_2_code 6 = .ok (.iload 4, 2) := by decide +kernel
theorem d2_8 : decode prog_4_method_2_code 8 = .ok (.if_icmp .ge 34, 3) := by decide +kernel
theorem d2_42 : decode prog_4_method_2_code 42 = .ok (.iload_n 3, 1) := by decide +kernel
theorem d2_43 : decode prog_4_method_2_code 43 = .ok (.ireturn, 1) := by decide +kernel
theorem pn_com_example_noise_to_nodes_noisetonodes_AscendingInts : plainName "com/example/noise_to_nodes/noisetonodes/AscendingInts" = true := by first | (simp [plainName, overriddenIn]; done) | decide +kernel
theorem ef_2_0 (m : MethodId) (x0 : Addr) (x1 : Int32) (x2 : Int32) : entryFrame m #[(.ref x0), (.int x1), (.int x2)] 6 = mkF m 0 #[.val (.ref x0), .val (.int x1), .val (.int x2), .unset, .unset, .unset] [] := by first | (simp [entryFrame, mkF, argsToLocals, Value.category]; done) | rfl
def Q2_0 (Z : State) (a1 : Addr) (k1 : ClassId) (y0 : Int32) (y1 : Int32) (y2 : Int32) (y3 : Int32) (p3 : Int32) (h0 : Heap) (n0 : Nat) (v : Option Value) (h : Heap) (L : List Loc) : Prop := v = some (.int (own_b0 y0 y1 y2 y3 p3)) ∧ Fr n0 L ∧ h = h0
set_option maxRecDepth 65536 in
set_option maxHeartbeats 40000000 in
theorem rm2_0 (l : Launch) (Z : State) (a0 : Array Value) (hw : ∀ d ∈ tables_1, d.before a0 Z = true) (ws : List Jvm.Cond) (a1 : Addr) (k1 : ClassId) (y0 : Int32) (y1 : Int32) (y2 : Int32) (y3 : Int32) (p3 : Int32) (h0 : Heap) (n0 : Nat) (Z0 : n0 ≤ h0.size) (V0 : Arv Z h0 a1 k1 .int (4 : Int32) [(.int y0), (.int y1), (.int y2), (.int y3)] (.int (0 : Int32))) :
    MetFree l (⟨"com/example/noise_to_nodes/noisetonodes/AscendingInts", "countBelow", "([III)I"⟩ : MethodName) (head1 (Jvm.Cond.code (⟨"com/example/noise_to_nodes/noisetonodes/AscendingInts", "countBelow", "([III)I"⟩ : MethodName) prog_4_method_2_code 6 (some .int) :: ws) ({ frames := 0, cells := 0, slots := 0, locals := 0 } : Room)) (fun a U => a = #[(.ref a1), (.int (0 : Int32)), (.int p3)] ∧ Z.Warmed39 U.vm ∧ U.heap = h0) (fun _ _ _ _ _ => True) (fun _ U o U' => ∃ v L, o = .returned v ∧ Q2_0 Z a1 k1 y0 y1 y2 y3 p3 h0 n0 v U'.heap L ∧ FrameEnd U o U' L ({ frames := 0, cells := 0, slots := 0, locals := 0 } : Room).cells ({ frames := 0, cells := 0, slots := 0, locals := 0 } : Room).slots) := by
  refine MetFree.of_bodySF (plainFor_of_name pn_com_example_noise_to_nodes_noisetonodes_AscendingInts) hisR ?_
  intro p e s m args below meth c s₁ Bd hml0 hP hK
  obtain ⟨rfl, hZ, hh⟩ := hP
  have hx := Bd.exec
  have hby := Bd.bytes
  have hml : c.maxLocals = 6 := hml0
  have hown : s.vm.findClass "com/example/noise_to_nodes/noisetonodes/AscendingInts" = some m.cls := findClass_of_methodNamed Bd.named
  have hnm := (name_of_methodNamed Bd.named Bd.method).1
  have X0 : Stand p l e ({ frames := 0, cells := 0, slots := 0, locals := 0 } : Room) s m #[(.ref a1), (.int (0 : Int32)), (.int p3)] below meth c s₁ [] 0 0 := Stand.of_body Bd
  have e0 : s₁.heap = h0 := by rw [← hh, Bd.state]; rfl
  have N0 := Fr.nil n0
  show Goes p e below (fun s₂ o => ∃ v L, o = .returned v ∧ Q2_0 Z a1 k1 y0 y1 y2 y3 p3 h0 n0 v s₂.heap L ∧ FrameEnd s o s₂ L ({ frames := 0, cells := 0, slots := 0, locals := 0 } : Room).cells ({ frames := 0, cells := 0, slots := 0, locals := 0 } : Room).slots) (s₁.setTop (entryFrame m #[(.ref a1), (.int (0 : Int32)), (.int p3)] 6))
  refine Goes.cast (ef_2_0 m a1 (0 : Int32) p3) ?_
  refine Goes.via (B := s₁.setTop (mkF m 1 #[.val (.ref a1), .val (.int (0 : Int32)), .val (.int p3), .unset, .unset, .unset] [(.int (0 : Int32))])) (fun t k => XS.iconst X0.here hx rfl (hb hby d2_0) k) ?_
  refine Goes.via (B := s₁.setTop (mkF m 2 #[.val (.ref a1), .val (.int (0 : Int32)), .val (.int p3), .val (.int (0 : Int32)), .unset, .unset] [])) (fun t k => XS.istoreN X0.here hx rfl (hb hby d2_1) rfl (l' := #[.val (.ref a1), .val (.int (0 : Int32)), .val (.int p3), .val (.int (0 : Int32)), .unset, .unset]) rfl k) ?_
  refine Goes.via (B := s₁.setTop (mkF m 3 #[.val (.ref a1), .val (.int (0 : Int32)), .val (.int p3), .val (.int (0 : Int32)), .unset, .unset] [(.int (0 : Int32))])) (fun t k => XS.iloadN X0.here hx rfl (hb hby d2_2) rfl k) ?_
  refine Goes.via (B := s₁.setTop (mkF m 5 #[.val (.ref a1), .val (.int (0 : Int32)), .val (.int p3), .val (.int (0 : Int32)), .val (.int (0 : Int32)), .unset] [])) (fun t k => XS.istore X0.here hx rfl (hb hby d2_3) rfl (l' := #[.val (.ref a1), .val (.int (0 : Int32)), .val (.int p3), .val (.int (0 : Int32)), .val (.int (0 : Int32)), .unset]) rfl k) ?_
  refine Goes.via (B := s₁.setTop (mkF m 6 #[.val (.ref a1), .val (.int (0 : Int32)), .val (.int p3), .val (.int (0 : Int32)), .val (.int (0 : Int32)), .unset] [(.int (0 : Int32))])) (fun t k => XS.iloadN X0.here hx rfl (hb hby d2_5) rfl k) ?_
  refine Goes.via (B := s₁.setTop (mkF m 8 #[.val (.ref a1), .val (.int (0 : Int32)), .val (.int p3), .val (.int (0 : Int32)), .val (.int (0 : Int32)), .unset] [(.int (0 : Int32)), (.int (0 : Int32))])) (fun t k => XS.iload X0.here hx rfl (hb hby d2_6) rfl k) ?_
  refine Goes.via (B := s₁.setTop (mkF m 42 #[.val (.ref a1), .val (.int (0 : Int32)), .val (.int p3), .val (.int (0 : Int32)), .val (.int (0 : Int32)), .unset] [])) (fun t k => XS.icmpYes X0.here hx rfl (pc0 := 8) (pc' := 42) rfl (hb hby d2_8) rfl (flt (by decide : ¬ (0 : Int32) < (0 : Int32))).2.1 (by decide) (by decide) k) ?_
  refine Goes.via (B := s₁.setTop (mkF m 43 #[.val (.ref a1), .val (.int (0 : Int32)), .val (.int p3), .val (.int (0 : Int32)), .val (.int (0 : Int32)), .unset] [(.int (0 : Int32))])) (fun t k => XS.iloadN X0.here hx rfl (hb hby d2_42) rfl k) ?_
  have hv : own_b0 y0 y1 y2 y3 p3 = (0 : Int32) := by rw [own_b0]
  exact own_out X0 (v := some (.int (0 : Int32))) (fun h => by rw [Bd.returns] at h; cases h) Bd.notSynchronized (fun fs hr => retOut X0 hx Bd.returns rfl (Or.inl ⟨rfl, Or.inl rfl, _, rfl⟩) (hb hby d2_43) hr) ⟨by rw [hv], N0, e0⟩ (by decide) (by decide)
def own_b1 (y0 y1 y2 y3 p3 : Int32) : Int32 := if y0 < p3 then (1 : Int32) else (0 : Int32)
theorem d2_11 : decode prog_4_method_2_code 11 = .ok (.iload_n 3, 1) := by decide +kernel
theorem d2_12 : decode prog_4_method_2_code 12 = .ok (.iload 4, 2) := by decide +kernel
theorem d2_14 : decode prog_4_method_2_code 14 = .ok (.iadd, 1) := by decide +kernel
theorem d2_15 : decode prog_4_method_2_code 15 = .ok (.iconst 1, 1) := by decide +kernel
theorem d2_16 : decode prog_4_method_2_code 16 = .ok (.iushr, 1) := by decide +kernel
theorem d2_17 : decode prog_4_method_2_code 17 = .ok (.istore 5, 2) := by decide +kernel
theorem d2_19 : decode prog_4_method_2_code 19 = .ok (.aload_n 0, 1) := by decide +kernel
theorem d2_20 : decode prog_4_method_2_code 20 = .ok (.iload 5, 2) := by decide +kernel
theorem d2_22 : decode prog_4_method_2_code 22 = .ok (.iaload, 1) := by decide +kernel
theorem d2_23 : decode prog_4_method_2_code 23 = .ok (.iload_n 2, 1) := by decide +kernel
theorem d2_24 : decode prog_4_method_2_code 24 = .ok (.if_icmp .ge 11, 3) := by decide +kernel
theorem d2_27 : decode prog_4_method_2_code 27 = .ok (.iload 5, 2) := by decide +kernel
theorem d2_29 : decode prog_4_method_2_code 29 = .ok (.iconst 1, 1) := by decide +kernel
theorem d2_30 : decode prog_4_method_2_code 30 = .ok (.iadd, 1) := by decide +kernel
theorem d2_31 : decode prog_4_method_2_code 31 = .ok (.istore_n 3, 1) := by decide +kernel
theorem d2_32 : decode prog_4_method_2_code 32 = .ok (.goto 7, 3) := by decide +kernel
theorem d2_35 : decode prog_4_method_2_code 35 = .ok (.iload 5, 2) := by decide +kernel
theorem d2_37 : decode prog_4_method_2_code 37 = .ok (.istore 4, 2) := by decide +kernel
theorem d2_39 : decode prog_4_method_2_code 39 = .ok (.goto (-34), 3) := by decide +kernel
theorem ef_2_1 (m : MethodId) (x0 : Addr) (x1 : Int32) (x2 : Int32) : entryFrame m #[(.ref x0), (.int x1), (.int x2)] 6 = mkF m 0 #[.val (.ref x0), .val (.int x1), .val (.int x2), .unset, .unset, .unset] [] := by first | (simp [entryFrame, mkF, argsToLocals, Value.category]; done) | rfl
def Q2_1 (Z : State) (a1 : Addr) (k1 : ClassId) (y0 : Int32) (y1 : Int32) (y2 : Int32) (y3 : Int32) (p3 : Int32) (h0 : Heap) (n0 : Nat) (v : Option Value) (h : Heap) (L : List Loc) : Prop := v = some (.int (own_b1 y0 y1 y2 y3 p3)) ∧ Fr n0 L ∧ h = h0
set_option maxRecDepth 65536 in
set_option maxHeartbeats 40000000 in
theorem rm2_1 (l : Launch) (Z : State) (a0 : Array Value) (hw : ∀ d ∈ tables_1, d.before a0 Z = true) (ws : List Jvm.Cond) (a1 : Addr) (k1 : ClassId) (y0 : Int32) (y1 : Int32) (y2 : Int32) (y3 : Int32) (p3 : Int32) (h0 : Heap) (n0 : Nat) (Z0 : n0 ≤ h0.size) (V0 : Arv Z h0 a1 k1 .int (4 : Int32) [(.int y0), (.int y1), (.int y2), (.int y3)] (.int (0 : Int32))) :
    MetFree l (⟨"com/example/noise_to_nodes/noisetonodes/AscendingInts", "countBelow", "([III)I"⟩ : MethodName) (head1 (Jvm.Cond.code (⟨"com/example/noise_to_nodes/noisetonodes/AscendingInts", "countBelow", "([III)I"⟩ : MethodName) prog_4_method_2_code 6 (some .int) :: ws) ({ frames := 0, cells := 0, slots := 0, locals := 0 } : Room)) (fun a U => a = #[(.ref a1), (.int (1 : Int32)), (.int p3)] ∧ Z.Warmed39 U.vm ∧ U.heap = h0) (fun _ _ _ _ _ => True) (fun _ U o U' => ∃ v L, o = .returned v ∧ Q2_1 Z a1 k1 y0 y1 y2 y3 p3 h0 n0 v U'.heap L ∧ FrameEnd U o U' L ({ frames := 0, cells := 0, slots := 0, locals := 0 } : Room).cells ({ frames := 0, cells := 0, slots := 0, locals := 0 } : Room).slots) := by
  refine MetFree.of_bodySF (plainFor_of_name pn_com_example_noise_to_nodes_noisetonodes_AscendingInts) hisR ?_
  intro p e s m args below meth c s₁ Bd hml0 hP hK
  obtain ⟨rfl, hZ, hh⟩ := hP
  have hx := Bd.exec
  have hby := Bd.bytes
  have hml : c.maxLocals = 6 := hml0
  have hown : s.vm.findClass "com/example/noise_to_nodes/noisetonodes/AscendingInts" = some m.cls := findClass_of_methodNamed Bd.named
  have hnm := (name_of_methodNamed Bd.named Bd.method).1
  have X0 : Stand p l e ({ frames := 0, cells := 0, slots := 0, locals := 0 } : Room) s m #[(.ref a1), (.int (1 : Int32)), (.int p3)] below meth c s₁ [] 0 0 := Stand.of_body Bd
  have e0 : s₁.heap = h0 := by rw [← hh, Bd.state]; rfl
  have N0 := Fr.nil n0
  show Goes p e below (fun s₂ o => ∃ v L, o = .returned v ∧ Q2_1 Z a1 k1 y0 y1 y2 y3 p3 h0 n0 v s₂.heap L ∧ FrameEnd s o s₂ L ({ frames := 0, cells := 0, slots := 0, locals := 0 } : Room).cells ({ frames := 0, cells := 0, slots := 0, locals := 0 } : Room).slots) (s₁.setTop (entryFrame m #[(.ref a1), (.int (1 : Int32)), (.int p3)] 6))
  refine Goes.cast (ef_2_1 m a1 (1 : Int32) p3) ?_
  refine Goes.via (B := s₁.setTop (mkF m 1 #[.val (.ref a1), .val (.int (1 : Int32)), .val (.int p3), .unset, .unset, .unset] [(.int (0 : Int32))])) (fun t k => XS.iconst X0.here hx rfl (hb hby d2_0) k) ?_
  refine Goes.via (B := s₁.setTop (mkF m 2 #[.val (.ref a1), .val (.int (1 : Int32)), .val (.int p3), .val (.int (0 : Int32)), .unset, .unset] [])) (fun t k => XS.istoreN X0.here hx rfl (hb hby d2_1) rfl (l' := #[.val (.ref a1), .val (.int (1 : Int32)), .val (.int p3), .val (.int (0 : Int32)), .unset, .unset]) rfl k) ?_
  refine Goes.via (B := s₁.setTop (mkF m 3 #[.val (.ref a1), .val (.int (1 : Int32)), .val (.int p3), .val (.int (0 : Int32)), .unset, .unset] [(.int (1 : Int32))])) (fun t k => XS.iloadN X0.here hx rfl (hb hby d2_2) rfl k) ?_
  refine Goes.via (B := s₁.setTop (mkF m 5 #[.val (.ref a1), .val (.int (1 : Int32)), .val (.int p3), .val (.int (0 : Int32)), .val (.int (1 : Int32)), .unset] [])) (fun t k => XS.istore X0.here hx rfl (hb hby d2_3) rfl (l' := #[.val (.ref a1), .val (.int (1 : Int32)), .val (.int p3), .val (.int (0 : Int32)), .val (.int (1 : Int32)), .unset]) rfl k) ?_
  refine Goes.via (B := s₁.setTop (mkF m 6 #[.val (.ref a1), .val (.int (1 : Int32)), .val (.int p3), .val (.int (0 : Int32)), .val (.int (1 : Int32)), .unset] [(.int (0 : Int32))])) (fun t k => XS.iloadN X0.here hx rfl (hb hby d2_5) rfl k) ?_
  refine Goes.via (B := s₁.setTop (mkF m 8 #[.val (.ref a1), .val (.int (1 : Int32)), .val (.int p3), .val (.int (0 : Int32)), .val (.int (1 : Int32)), .unset] [(.int (1 : Int32)), (.int (0 : Int32))])) (fun t k => XS.iload X0.here hx rfl (hb hby d2_6) rfl k) ?_
  refine Goes.via (B := s₁.setTop (mkF m 11 #[.val (.ref a1), .val (.int (1 : Int32)), .val (.int p3), .val (.int (0 : Int32)), .val (.int (1 : Int32)), .unset] [])) (fun t k => XS.icmpNo X0.here hx rfl (hb hby d2_8) rfl (tlt (by decide : (0 : Int32) < (1 : Int32))).2.1 k) ?_
  refine Goes.via (B := s₁.setTop (mkF m 12 #[.val (.ref a1), .val (.int (1 : Int32)), .val (.int p3), .val (.int (0 : Int32)), .val (.int (1 : Int32)), .unset] [(.int (0 : Int32))])) (fun t k => XS.iloadN X0.here hx rfl (hb hby d2_11) rfl k) ?_
  refine Goes.via (B := s₁.setTop (mkF m 14 #[.val (.ref a1), .val (.int (1 : Int32)), .val (.int p3), .val (.int (0 : Int32)), .val (.int (1 : Int32)), .unset] [(.int (1 : Int32)), (.int (0 : Int32))])) (fun t k => XS.iload X0.here hx rfl (hb hby d2_12) rfl k) ?_
  refine Goes.via (B := s₁.setTop (mkF m 15 #[.val (.ref a1), .val (.int (1 : Int32)), .val (.int p3), .val (.int (0 : Int32)), .val (.int (1 : Int32)), .unset] [(.int (1 : Int32))])) (fun t k => XS.iadd X0.here hx rfl (hb hby d2_14) rfl k) ?_
  refine Goes.via (B := s₁.setTop (mkF m 16 #[.val (.ref a1), .val (.int (1 : Int32)), .val (.int p3), .val (.int (0 : Int32)), .val (.int (1 : Int32)), .unset] [(.int (1 : Int32)), (.int (1 : Int32))])) (fun t k => XS.iconst X0.here hx rfl (hb hby d2_15) k) ?_
  refine Goes.via (B := s₁.setTop (mkF m 17 #[.val (.ref a1), .val (.int (1 : Int32)), .val (.int p3), .val (.int (0 : Int32)), .val (.int (1 : Int32)), .unset] [(.int (0 : Int32))])) (fun t k => XS.iushr X0.here hx rfl (hb hby d2_16) rfl k) ?_
  refine Goes.via (B := s₁.setTop (mkF m 19 #[.val (.ref a1), .val (.int (1 : Int32)), .val (.int p3), .val (.int (0 : Int32)), .val (.int (1 : Int32)), .val (.int (0 : Int32))] [])) (fun t k => XS.istore X0.here hx rfl (hb hby d2_17) rfl (l' := #[.val (.ref a1), .val (.int (1 : Int32)), .val (.int p3), .val (.int (0 : Int32)), .val (.int (1 : Int32)), .val (.int (0 : Int32))]) rfl k) ?_
  refine Goes.via (B := s₁.setTop (mkF m 20 #[.val (.ref a1), .val (.int (1 : Int32)), .val (.int p3), .val (.int (0 : Int32)), .val (.int (1 : Int32)), .val (.int (0 : Int32))] [(.ref a1)])) (fun t k => XS.aloadN X0.here hx rfl (hb hby d2_19) rfl rfl k) ?_
  refine Goes.via (B := s₁.setTop (mkF m 22 #[.val (.ref a1), .val (.int (1 : Int32)), .val (.int p3), .val (.int (0 : Int32)), .val (.int (1 : Int32)), .val (.int (0 : Int32))] [(.int (0 : Int32)), (.ref a1)])) (fun t k => XS.iload X0.here hx rfl (hb hby d2_20) rfl k) ?_
  obtain ⟨cl1, Ar1, q1, S1, M1, H1, G1⟩ := V0
  have hin1 : ¬ ((0 : Int32) < 0 ∨ cl1.slots.size ≤ ((0 : Int32)).toNatClampNeg) := inb_of S1 ⟨by decide, by decide⟩
  have hat1 : cl1.slots[((0 : Int32)).toNatClampNeg]? = some (.int y0) := H1.at hin1 rfl
  refine Goes.via (B := s₁.setTop (mkF m 23 #[.val (.ref a1), .val (.int (1 : Int32)), .val (.int p3), .val (.int (0 : Int32)), .val (.int (1 : Int32)), .val (.int (0 : Int32))] [(.int y0)])) (fun t k => X0.iaload hx (j := (0 : Int32)) (v := (.int y0)) (by rw [e0]; exact Ar1.1) (State.isArrayOf_alike hZ.alike Ar1.2.1) Ar1.2.2 hin1 hat1 (g := (mkF m 22 #[.val (.ref a1), .val (.int (1 : Int32)), .val (.int p3), .val (.int (0 : Int32)), .val (.int (1 : Int32)), .val (.int (0 : Int32))] [(.int (0 : Int32)), (.ref a1)])) rfl rfl (hb hby d2_22) _ k) ?_
  refine Goes.via (B := s₁.setTop (mkF m 24 #[.val (.ref a1), .val (.int (1 : Int32)), .val (.int p3), .val (.int (0 : Int32)), .val (.int (1 : Int32)), .val (.int (0 : Int32))] [(.int p3), (.int y0)])) (fun t k => XS.iloadN X0.here hx rfl (hb hby d2_23) rfl k) ?_
  by_cases c24_2 : y0 < p3
  · refine Goes.via (B := s₁.setTop (mkF m 27 #[.val (.ref a1), .val (.int (1 : Int32)), .val (.int p3), .val (.int (0 : Int32)), .val (.int (1 : Int32)), .val (.int (0 : Int32))] [])) (fun t k => XS.icmpNo X0.here hx rfl (hb hby d2_24) rfl (tlt c24_2).2.1 k) ?_
    refine Goes.via (B := s₁.setTop (mkF m 29 #[.val (.ref a1), .val (.int (1 : Int32)), .val (.int p3), .val (.int (0 : Int32)), .val (.int (1 : Int32)), .val (.int (0 : Int32))] [(.int (0 : Int32))])) (fun t k => XS.iload X0.here hx rfl (hb hby d2_27) rfl k) ?_
    refine Goes.via (B := s₁.setTop (mkF m 30 #[.val (.ref a1), .val (.int (1 : Int32)), .val (.int p3), .val (.int (0 : Int32)), .val (.int (1 : Int32)), .val (.int (0 : Int32))] [(.int (1 : Int32)), (.int (0 : Int32))])) (fun t k => XS.iconst X0.here hx rfl (hb hby d2_29) k) ?_
    refine Goes.via (B := s₁.setTop (mkF m 31 #[.val (.ref a1), .val (.int (1 : Int32)), .val (.int p3), .val (.int (0 : Int32)), .val (.int (1 : Int32)), .val (.int (0 : Int32))] [(.int (1 : Int32))])) (fun t k => XS.iadd X0.here hx rfl (hb hby d2_30) rfl k) ?_
    refine Goes.via (B := s₁.setTop (mkF m 32 #[.val (.ref a1), .val (.int (1 : Int32)), .val (.int p3), .val (.int (1 : Int32)), .val (.int (1 : Int32)), .val (.int (0 : Int32))] [])) (fun t k => XS.istoreN X0.here hx rfl (hb hby d2_31) rfl (l' := #[.val (.ref a1), .val (.int (1 : Int32)), .val (.int p3), .val (.int (1 : Int32)), .val (.int (1 : Int32)), .val (.int (0 : Int32))]) rfl k) ?_
    refine Goes.via (B := s₁.setTop (mkF m 39 #[.val (.ref a1), .val (.int (1 : Int32)), .val (.int p3), .val (.int (1 : Int32)), .val (.int (1 : Int32)), .val (.int (0 : Int32))] [])) (fun t k => XS.goto X0.here hx rfl (pc0 := 32) (pc' := 39) rfl (hb hby d2_32) (by decide) (by decide) k) ?_
    refine Goes.via (B := s₁.setTop (mkF m 5 #[.val (.ref a1), .val (.int (1 : Int32)), .val (.int p3), .val (.int (1 : Int32)), .val (.int (1 : Int32)), .val (.int (0 : Int32))] [])) (fun t k => XS.goto X0.here hx rfl (pc0 := 39) (pc' := 5) rfl (hb hby d2_39) (by decide) (by decide) k) ?_
    refine Goes.via (B := s₁.setTop (mkF m 6 #[.val (.ref a1), .val (.int (1 : Int32)), .val (.int p3), .val (.int (1 : Int32)), .val (.int (1 : Int32)), .val (.int (0 : Int32))] [(.int (1 : Int32))])) (fun t k => XS.iloadN X0.here hx rfl (hb hby d2_5) rfl k) ?_
    refine Goes.via (B := s₁.setTop (mkF m 8 #[.val (.ref a1), .val (.int (1 : Int32)), .val (.int p3), .val (.int (1 : Int32)), .val (.int (1 : Int32)), .val (.int (0 : Int32))] [(.int (1 : Int32)), (.int (1 : Int32))])) (fun t k => XS.iload X0.here hx rfl (hb hby d2_6) rfl k) ?_
    refine Goes.via (B := s₁.setTop (mkF m 42 #[.val (.ref a1), .val (.int (1 : Int32)), .val (.int p3), .val (.int (1 : Int32)), .val (.int (1 : Int32)), .val (.int (0 : Int32))] [])) (fun t k => XS.icmpYes X0.here hx rfl (pc0 := 8) (pc' := 42) rfl (hb hby d2_8) rfl (flt (by decide : ¬ (1 : Int32) < (1 : Int32))).2.1 (by decide) (by decide) k) ?_
    refine Goes.via (B := s₁.setTop (mkF m 43 #[.val (.ref a1), .val (.int (1 : Int32)), .val (.int p3), .val (.int (1 : Int32)), .val (.int (1 : Int32)), .val (.int (0 : Int32))] [(.int (1 : Int32))])) (fun t k => XS.iloadN X0.here hx rfl (hb hby d2_42) rfl k) ?_
    have hv : own_b1 y0 y1 y2 y3 p3 = (1 : Int32) := by rw [own_b1, if_pos c24_2]
    exact own_out X0 (v := some (.int (1 : Int32))) (fun h => by rw [Bd.returns] at h; cases h) Bd.notSynchronized (fun fs hr => retOut X0 hx Bd.returns rfl (Or.inl ⟨rfl, Or.inl rfl, _, rfl⟩) (hb hby d2_43) hr) ⟨by rw [hv], N0, e0⟩ (by decide) (by decide)
  · refine Goes.via (B := s₁.setTop (mkF m 35 #[.val (.ref a1), .val (.int (1 : Int32)), .val (.int p3), .val (.int (0 : Int32)), .val (.int (1 : Int32)), .val (.int (0 : Int32))] [])) (fun t k => XS.icmpYes X0.here hx rfl (pc0 := 24) (pc' := 35) rfl (hb hby d2_24) rfl (flt c24_2).2.1 (by decide) (by decide) k) ?_
    refine Goes.via (B := s₁.setTop (mkF m 37 #[.val (.ref a1), .val (.int (1 : Int32)), .val (.int p3), .val (.int (0 : Int32)), .val (.int (1 : Int32)), .val (.int (0 : Int32))] [(.int (0 : Int32))])) (fun t k => XS.iload X0.here hx rfl (hb hby d2_35) rfl k) ?_
    refine Goes.via (B := s₁.setTop (mkF m 39 #[.val (.ref a1), .val (.int (1 : Int32)), .val (.int p3), .val (.int (0 : Int32)), .val (.int (0 : Int32)), .val (.int (0 : Int32))] [])) (fun t k => XS.istore X0.here hx rfl (hb hby d2_37) rfl (l' := #[.val (.ref a1), .val (.int (1 : Int32)), .val (.int p3), .val (.int (0 : Int32)), .val (.int (0 : Int32)), .val (.int (0 : Int32))]) rfl k) ?_
    refine Goes.via (B := s₁.setTop (mkF m 5 #[.val (.ref a1), .val (.int (1 : Int32)), .val (.int p3), .val (.int (0 : Int32)), .val (.int (0 : Int32)), .val (.int (0 : Int32))] [])) (fun t k => XS.goto X0.here hx rfl (pc0 := 39) (pc' := 5) rfl (hb hby d2_39) (by decide) (by decide) k) ?_
    refine Goes.via (B := s₁.setTop (mkF m 6 #[.val (.ref a1), .val (.int (1 : Int32)), .val (.int p3), .val (.int (0 : Int32)), .val (.int (0 : Int32)), .val (.int (0 : Int32))] [(.int (0 : Int32))])) (fun t k => XS.iloadN X0.here hx rfl (hb hby d2_5) rfl k) ?_
    refine Goes.via (B := s₁.setTop (mkF m 8 #[.val (.ref a1), .val (.int (1 : Int32)), .val (.int p3), .val (.int (0 : Int32)), .val (.int (0 : Int32)), .val (.int (0 : Int32))] [(.int (0 : Int32)), (.int (0 : Int32))])) (fun t k => XS.iload X0.here hx rfl (hb hby d2_6) rfl k) ?_
    refine Goes.via (B := s₁.setTop (mkF m 42 #[.val (.ref a1), .val (.int (1 : Int32)), .val (.int p3), .val (.int (0 : Int32)), .val (.int (0 : Int32)), .val (.int (0 : Int32))] [])) (fun t k => XS.icmpYes X0.here hx rfl (pc0 := 8) (pc' := 42) rfl (hb hby d2_8) rfl (flt (by decide : ¬ (0 : Int32) < (0 : Int32))).2.1 (by decide) (by decide) k) ?_
    refine Goes.via (B := s₁.setTop (mkF m 43 #[.val (.ref a1), .val (.int (1 : Int32)), .val (.int p3), .val (.int (0 : Int32)), .val (.int (0 : Int32)), .val (.int (0 : Int32))] [(.int (0 : Int32))])) (fun t k => XS.iloadN X0.here hx rfl (hb hby d2_42) rfl k) ?_
    have hv : own_b1 y0 y1 y2 y3 p3 = (0 : Int32) := by rw [own_b1, if_neg c24_2]
    exact own_out X0 (v := some (.int (0 : Int32))) (fun h => by rw [Bd.returns] at h; cases h) Bd.notSynchronized (fun fs hr => retOut X0 hx Bd.returns rfl (Or.inl ⟨rfl, Or.inl rfl, _, rfl⟩) (hb hby d2_43) hr) ⟨by rw [hv], N0, e0⟩ (by decide) (by decide)
def own_b2 (y0 y1 y2 y3 p3 : Int32) : Int32 := if y1 < p3 then (2 : Int32) else if y0 < p3 then (1 : Int32) else (0 : Int32)
theorem ef_2_2 (m : MethodId) (x0 : Addr) (x1 : Int32) (x2 : Int32) : entryFrame m #[(.ref x0), (.int x1), (.int x2)] 6 = mkF m 0 #[.val (.ref x0), .val (.int x1), .val (.int x2), .unset, .unset, .unset] [] := by first | (simp [entryFrame, mkF, argsToLocals, Value.category]; done) | rfl
def Q2_2 (Z : State) (a1 : Addr) (k1 : ClassId) (y0 : Int32) (y1 : Int32) (y2 : Int32) (y3 : Int32) (p3 : Int32) (h0 : Heap) (n0 : Nat) (v : Option Value) (h : Heap) (L : List Loc) : Prop := v = some (.int (own_b2 y0 y1 y2 y3 p3)) ∧ Fr n0 L ∧ h = h0
set_option maxRecDepth 65536 in
set_option maxHeartbeats 40000000 in
theorem rm2_2 (l : Launch) (Z : State) (a0 : Array Value) (hw : ∀ d ∈ tables_1, d.before a0 Z = true) (ws : List Jvm.Cond) (a1 : Addr) (k1 : ClassId) (y0 : Int32) (y1 : Int32) (y2 : Int32) (y3 : Int32) (p3 : Int32) (h0 : Heap) (n0 : Nat) (Z0 : n0 ≤ h0.size) (V0 : Arv Z h0 a1 k1 .int (4 : Int32) [(.int y0), (.int y1), (.int y2), (.int y3)] (.int (0 : Int32))) :
    MetFree l (⟨"com/example/noise_to_nodes/noisetonodes/AscendingInts", "countBelow", "([III)I"⟩ : MethodName) (head1 (Jvm.Cond.code (⟨"com/example/noise_to_nodes/noisetonodes/AscendingInts", "countBelow", "([III)I"⟩ : MethodName) prog_4_method_2_code 6 (some .int) :: ws) ({ frames := 0, cells := 0, slots := 0, locals := 0 } : Room)) (fun a U => a = #[(.ref a1), (.int (2 : Int32)), (.int p3)] ∧ Z.Warmed39 U.vm ∧ U.heap = h0) (fun _ _ _ _ _ => True) (fun _ U o U' => ∃ v L, o = .returned v ∧ Q2_2 Z a1 k1 y0 y1 y2 y3 p3 h0 n0 v U'.heap L ∧ FrameEnd U o U' L ({ frames := 0, cells := 0, slots := 0, locals := 0 } : Room).cells ({ frames := 0, cells := 0, slots := 0, locals := 0 } : Room).slots) := by
  refine MetFree.of_bodySF (plainFor_of_name pn_com_example_noise_to_nodes_noisetonodes_AscendingInts) hisR ?_
  intro p e s m args below meth c s₁ Bd hml0 hP hK
  obtain ⟨rfl, hZ, hh⟩ := hP
  have hx := Bd.exec
  have hby := Bd.bytes
  have hml : c.maxLocals = 6 := hml0
  have hown : s.vm.findClass "com/example/noise_to_nodes/noisetonodes/AscendingInts" = some m.cls := findClass_of_methodNamed Bd.named
  have hnm := (name_of_methodNamed Bd.named Bd.method).1
  have X0 : Stand p l e ({ frames := 0, cells := 0, slots := 0, locals := 0 } : Room) s m #[(.ref a1), (.int (2 : Int32)), (.int p3)] below meth c s₁ [] 0 0 := Stand.of_body Bd
  have e0 : s₁.heap = h0 := by rw [← hh, Bd.state]; rfl
  have N0 := Fr.nil n0
  show Goes p e below (fun s₂ o => ∃ v L, o = .returned v ∧ Q2_2 Z a1 k1 y0 y1 y2 y3 p3 h0 n0 v s₂.heap L ∧ FrameEnd s o s₂ L ({ frames := 0, cells := 0, slots := 0, locals := 0 } : Room).cells ({ frames := 0, cells := 0, slots := 0, locals := 0 } : Room).slots) (s₁.setTop (entryFrame m #[(.ref a1), (.int (2 : Int32)), (.int p3)] 6))
  refine Goes.cast (ef_2_2 m a1 (2 : Int32) p3) ?_
  refine Goes.via (B := s₁.setTop (mkF m 1 #[.val (.ref a1), .val (.int (2 : Int32)), .val (.int p3), .unset, .unset, .unset] [(.int (0 : Int32))])) (fun t k => XS.iconst X0.here hx rfl (hb hby d2_0) k) ?_
  refine Goes.via (B := s₁.setTop (mkF m 2 #[.val (.ref a1), .val (.int (2 : Int32)), .val (.int p3), .val (.int (0 : Int32)), .unset, .unset] [])) (fun t k => XS.istoreN X0.here hx rfl (hb hby d2_1) rfl (l' := #[.val (.ref a1), .val (.int (2 : Int32)), .val (.int p3), .val (.int (0 : Int32)), .unset, .unset]) rfl k) ?_
  refine Goes.via (B := s₁.setTop (mkF m 3 #[.val (.ref a1), .val (.int (2 : Int32)), .val (.int p3), .val (.int (0 : Int32)), .unset, .unset] [(.int (2 : Int32))])) (fun t k => XS.iloadN X0.here hx rfl (hb hby d2_2) rfl k) ?_
  refine Goes.via (B := s₁.setTop (mkF m 5 #[.val (.ref a1), .val (.int (2 : Int32)), .val (.int p3), .val (.int (0 : Int32)), .val (.int (2 : Int32)), .unset] [])) (fun t k => XS.istore X0.here hx rfl (hb hby d2_3) rfl (l' := #[.val (.ref a1), .val (.int (2 : Int32)), .val (.int p3), .val (.int (0 : Int32)), .val (.int (2 : Int32)), .unset]) rfl k) ?_
  refine Goes.via (B := s₁.setTop (mkF m 6 #[.val (.ref a1), .val (.int (2 : Int32)), .val (.int p3), .val (.int (0 : Int32)), .val (.int (2 : Int32)), .unset] [(.int (0 : Int32))])) (fun t k => XS.iloadN X0.here hx rfl (hb hby d2_5) rfl k) ?_
  refine Goes.via (B := s₁.setTop (mkF m 8 #[.val (.ref a1), .val (.int (2 : Int32)), .val (.int p3), .val (.int (0 : Int32)), .val (.int (2 : Int32)), .unset] [(.int (2 : Int32)), (.int (0 : Int32))])) (fun t k => XS.iload X0.here hx rfl (hb hby d2_6) rfl k) ?_
  refine Goes.via (B := s₁.setTop (mkF m 11 #[.val (.ref a1), .val (.int (2 : Int32)), .val (.int p3), .val (.int (0 : Int32)), .val (.int (2 : Int32)), .unset] [])) (fun t k => XS.icmpNo X0.here hx rfl (hb hby d2_8) rfl (tlt (by decide : (0 : Int32) < (2 : Int32))).2.1 k) ?_
  refine Goes.via (B := s₁.setTop (mkF m 12 #[.val (.ref a1), .val (.int (2 : Int32)), .val (.int p3), .val (.int (0 : Int32)), .val (.int (2 : Int32)), .unset] [(.int (0 : Int32))])) (fun t k => XS.iloadN X0.here hx rfl (hb hby d2_11) rfl k) ?_
  refine Goes.via (B := s₁.setTop (mkF m 14 #[.val (.ref a1), .val (.int (2 : Int32)), .val (.int p3), .val (.int (0 : Int32)), .val (.int (2 : Int32)), .unset] [(.int (2 : Int32)), (.int (0 : Int32))])) (fun t k => XS.iload X0.here hx rfl (hb hby d2_12) rfl k) ?_
  refine Goes.via (B := s₁.setTop (mkF m 15 #[.val (.ref a1), .val (.int (2 : Int32)), .val (.int p3), .val (.int (0 : Int32)), .val (.int (2 : Int32)), .unset] [(.int (2 : Int32))])) (fun t k => XS.iadd X0.here hx rfl (hb hby d2_14) rfl k) ?_
  refine Goes.via (B := s₁.setTop (mkF m 16 #[.val (.ref a1), .val (.int (2 : Int32)), .val (.int p3), .val (.int (0 : Int32)), .val (.int (2 : Int32)), .unset] [(.int (1 : Int32)), (.int (2 : Int32))])) (fun t k => XS.iconst X0.here hx rfl (hb hby d2_15) k) ?_
  refine Goes.via (B := s₁.setTop (mkF m 17 #[.val (.ref a1), .val (.int (2 : Int32)), .val (.int p3), .val (.int (0 : Int32)), .val (.int (2 : Int32)), .unset] [(.int (1 : Int32))])) (fun t k => XS.iushr X0.here hx rfl (hb hby d2_16) rfl k) ?_
  refine Goes.via (B := s₁.setTop (mkF m 19 #[.val (.ref a1), .val (.int (2 : Int32)), .val (.int p3), .val (.int (0 : Int32)), .val (.int (2 : Int32)), .val (.int (1 : Int32))] [])) (fun t k => XS.istore X0.here hx rfl (hb hby d2_17) rfl (l' := #[.val (.ref a1), .val (.int (2 : Int32)), .val (.int p3), .val (.int (0 : Int32)), .val (.int (2 : Int32)), .val (.int (1 : Int32))]) rfl k) ?_
  refine Goes.via (B := s₁.setTop (mkF m 20 #[.val (.ref a1), .val (.int (2 : Int32)), .val (.int p3), .val (.int (0 : Int32)), .val (.int (2 : Int32)), .val (.int (1 : Int32))] [(.ref a1)])) (fun t k => XS.aloadN X0.here hx rfl (hb hby d2_19) rfl rfl k) ?_
  refine Goes.via (B := s₁.setTop (mkF m 22 #[.val (.ref a1), .val (.int (2 : Int32)), .val (.int p3), .val (.int (0 : Int32)), .val (.int (2 : Int32)), .val (.int (1 : Int32))] [(.int (1 : Int32)), (.ref a1)])) (fun t k => XS.iload X0.here hx rfl (hb hby d2_20) rfl k) ?_
  obtain ⟨cl1, Ar1, q1, S1, M1, H1, G1⟩ := V0
  have hin1 : ¬ ((1 : Int32) < 0 ∨ cl1.slots.size ≤ ((1 : Int32)).toNatClampNeg) := inb_of S1 ⟨by decide, by decide⟩
  have hat1 : cl1.slots[((1 : Int32)).toNatClampNeg]? = some (.int y1) := H1.at hin1 rfl
  refine Goes.via (B := s₁.setTop (mkF m 23 #[.val (.ref a1), .val (.int (2 : Int32)), .val (.int p3), .val (.int (0 : Int32)), .val (.int (2 : Int32)), .val (.int (1 : Int32))] [(.int y1)])) (fun t k => X0.iaload hx (j := (1 : Int32)) (v := (.int y1)) (by rw [e0]; exact Ar1.1) (State.isArrayOf_alike hZ.alike Ar1.2.1) Ar1.2.2 hin1 hat1 (g := (mkF m 22 #[.val (.ref a1), .val (.int (2 : Int32)), .val (.int p3), .val (.int (0 : Int32)), .val (.int (2 : Int32)), .val (.int (1 : Int32))] [(.int (1 : Int32)), (.ref a1)])) rfl rfl (hb hby d2_22) _ k) ?_
  refine Goes.via (B := s₁.setTop (mkF m 24 #[.val (.ref a1), .val (.int (2 : Int32)), .val (.int p3), .val (.int (0 : Int32)), .val (.int (2 : Int32)), .val (.int (1 : Int32))] [(.int p3), (.int y1)])) (fun t k => XS.iloadN X0.here hx rfl (hb hby d2_23) rfl k) ?_
  by_cases c24_2 : y1 < p3
  · refine Goes.via (B := s₁.setTop (mkF m 27 #[.val (.ref a1), .val (.int (2 : Int32)), .val (.int p3), .val (.int (0 : Int32)), .val (.int (2 : Int32)), .val (.int (1 : Int32))] [])) (fun t k => XS.icmpNo X0.here hx rfl (hb hby d2_24) rfl (tlt c24_2).2.1 k) ?_
    refine Goes.via (B := s₁.setTop (mkF m 29 #[.val (.ref a1), .val (.int (2 : Int32)), .val (.int p3), .val (.int (0 : Int32)), .val (.int (2 : Int32)), .val (.int (1 : Int32))] [(.int (1 : Int32))])) (fun t k => XS.iload X0.here hx rfl (hb hby d2_27) rfl k) ?_
    refine Goes.via (B := s₁.setTop (mkF m 30 #[.val (.ref a1), .val (.int (2 : Int32)), .val (.int p3), .val (.int (0 : Int32)), .val (.int (2 : Int32)), .val (.int (1 : Int32))] [(.int (1 : Int32)), (.int (1 : Int32))])) (fun t k => XS.iconst X0.here hx rfl (hb hby d2_29) k) ?_
    refine Goes.via (B := s₁.setTop (mkF m 31 #[.val (.ref a1), .val (.int (2 : Int32)), .val (.int p3), .val (.int (0 : Int32)), .val (.int (2 : Int32)), .val (.int (1 : Int32))] [(.int (2 : Int32))])) (fun t k => XS.iadd X0.here hx rfl (hb hby d2_30) rfl k) ?_
    refine Goes.via (B := s₁.setTop (mkF m 32 #[.val (.ref a1), .val (.int (2 : Int32)), .val (.int p3), .val (.int (2 : Int32)), .val (.int (2 : Int32)), .val (.int (1 : Int32))] [])) (fun t k => XS.istoreN X0.here hx rfl (hb hby d2_31) rfl (l' := #[.val (.ref a1), .val (.int (2 : Int32)), .val (.int p3), .val (.int (2 : Int32)), .val (.int (2 : Int32)), .val (.int (1 : Int32))]) rfl k) ?_
    refine Goes.via (B := s₁.setTop (mkF m 39 #[.val (.ref a1), .val (.int (2 : Int32)), .val (.int p3), .val (.int (2 : Int32)), .val (.int (2 : Int32)), .val (.int (1 : Int32))] [])) (fun t k => XS.goto X0.here hx rfl (pc0 := 32) (pc' := 39) rfl (hb hby d2_32) (by decide) (by decide) k) ?_
    refine Goes.via (B := s₁.setTop (mkF m 5 #[.val (.ref a1), .val (.int (2 : Int32)), .val (.int p3), .val (.int (2 : Int32)), .val (.int (2 : Int32)), .val (.int (1 : Int32))] [])) (fun t k => XS.goto X0.here hx rfl (pc0 := 39) (pc' := 5) rfl (hb hby d2_39) (by decide) (by decide) k) ?_
    refine Goes.via (B := s₁.setTop (mkF m 6 #[.val (.ref a1), .val (.int (2 : Int32)), .val (.int p3), .val (.int (2 : Int32)), .val (.int (2 : Int32)), .val (.int (1 : Int32))] [(.int (2 : Int32))])) (fun t k => XS.iloadN X0.here hx rfl (hb hby d2_5) rfl k) ?_
    refine Goes.via (B := s₁.setTop (mkF m 8 #[.val (.ref a1), .val (.int (2 : Int32)), .val (.int p3), .val (.int (2 : Int32)), .val (.int (2 : Int32)), .val (.int (1 : Int32))] [(.int (2 : Int32)), (.int (2 : Int32))])) (fun t k => XS.iload X0.here hx rfl (hb hby d2_6) rfl k) ?_
    refine Goes.via (B := s₁.setTop (mkF m 42 #[.val (.ref a1), .val (.int (2 : Int32)), .val (.int p3), .val (.int (2 : Int32)), .val (.int (2 : Int32)), .val (.int (1 : Int32))] [])) (fun t k => XS.icmpYes X0.here hx rfl (pc0 := 8) (pc' := 42) rfl (hb hby d2_8) rfl (flt (by decide : ¬ (2 : Int32) < (2 : Int32))).2.1 (by decide) (by decide) k) ?_
    refine Goes.via (B := s₁.setTop (mkF m 43 #[.val (.ref a1), .val (.int (2 : Int32)), .val (.int p3), .val (.int (2 : Int32)), .val (.int (2 : Int32)), .val (.int (1 : Int32))] [(.int (2 : Int32))])) (fun t k => XS.iloadN X0.here hx rfl (hb hby d2_42) rfl k) ?_
    have hv : own_b2 y0 y1 y2 y3 p3 = (2 : Int32) := by rw [own_b2, if_pos c24_2]
    exact own_out X0 (v := some (.int (2 : Int32))) (fun h => by rw [Bd.returns] at h; cases h) Bd.notSynchronized (fun fs hr => retOut X0 hx Bd.returns rfl (Or.inl ⟨rfl, Or.inl rfl, _, rfl⟩) (hb hby d2_43) hr) ⟨by rw [hv], N0, e0⟩ (by decide) (by decide)
  · refine Goes.via (B := s₁.setTop (mkF m 35 #[.val (.ref a1), .val (.int (2 : Int32)), .val (.int p3), .val (.int (0 : Int32)), .val (.int (2 : Int32)), .val (.int (1 : Int32))] [])) (fun t k => XS.icmpYes X0.here hx rfl (pc0 := 24) (pc' := 35) rfl (hb hby d2_24) rfl (flt c24_2).2.1 (by decide) (by decide) k) ?_
    refine Goes.via (B := s₁.setTop (mkF m 37 #[.val (.ref a1), .val (.int (2 : Int32)), .val (.int p3), .val (.int (0 : Int32)), .val (.int (2 : Int32)), .val (.int (1 : Int32))] [(.int (1 : Int32))])) (fun t k => XS.iload X0.here hx rfl (hb hby d2_35) rfl k) ?_
    refine Goes.via (B := s₁.setTop (mkF m 39 #[.val (.ref a1), .val (.int (2 : Int32)), .val (.int p3), .val (.int (0 : Int32)), .val (.int (1 : Int32)), .val (.int (1 : Int32))] [])) (fun t k => XS.istore X0.here hx rfl (hb hby d2_37) rfl (l' := #[.val (.ref a1), .val (.int (2 : Int32)), .val (.int p3), .val (.int (0 : Int32)), .val (.int (1 : Int32)), .val (.int (1 : Int32))]) rfl k) ?_
    refine Goes.via (B := s₁.setTop (mkF m 5 #[.val (.ref a1), .val (.int (2 : Int32)), .val (.int p3), .val (.int (0 : Int32)), .val (.int (1 : Int32)), .val (.int (1 : Int32))] [])) (fun t k => XS.goto X0.here hx rfl (pc0 := 39) (pc' := 5) rfl (hb hby d2_39) (by decide) (by decide) k) ?_
    refine Goes.via (B := s₁.setTop (mkF m 6 #[.val (.ref a1), .val (.int (2 : Int32)), .val (.int p3), .val (.int (0 : Int32)), .val (.int (1 : Int32)), .val (.int (1 : Int32))] [(.int (0 : Int32))])) (fun t k => XS.iloadN X0.here hx rfl (hb hby d2_5) rfl k) ?_
    refine Goes.via (B := s₁.setTop (mkF m 8 #[.val (.ref a1), .val (.int (2 : Int32)), .val (.int p3), .val (.int (0 : Int32)), .val (.int (1 : Int32)), .val (.int (1 : Int32))] [(.int (1 : Int32)), (.int (0 : Int32))])) (fun t k => XS.iload X0.here hx rfl (hb hby d2_6) rfl k) ?_
    refine Goes.via (B := s₁.setTop (mkF m 11 #[.val (.ref a1), .val (.int (2 : Int32)), .val (.int p3), .val (.int (0 : Int32)), .val (.int (1 : Int32)), .val (.int (1 : Int32))] [])) (fun t k => XS.icmpNo X0.here hx rfl (hb hby d2_8) rfl (tlt (by decide : (0 : Int32) < (1 : Int32))).2.1 k) ?_
    refine Goes.via (B := s₁.setTop (mkF m 12 #[.val (.ref a1), .val (.int (2 : Int32)), .val (.int p3), .val (.int (0 : Int32)), .val (.int (1 : Int32)), .val (.int (1 : Int32))] [(.int (0 : Int32))])) (fun t k => XS.iloadN X0.here hx rfl (hb hby d2_11) rfl k) ?_
    refine Goes.via (B := s₁.setTop (mkF m 14 #[.val (.ref a1), .val (.int (2 : Int32)), .val (.int p3), .val (.int (0 : Int32)), .val (.int (1 : Int32)), .val (.int (1 : Int32))] [(.int (1 : Int32)), (.int (0 : Int32))])) (fun t k => XS.iload X0.here hx rfl (hb hby d2_12) rfl k) ?_
    refine Goes.via (B := s₁.setTop (mkF m 15 #[.val (.ref a1), .val (.int (2 : Int32)), .val (.int p3), .val (.int (0 : Int32)), .val (.int (1 : Int32)), .val (.int (1 : Int32))] [(.int (1 : Int32))])) (fun t k => XS.iadd X0.here hx rfl (hb hby d2_14) rfl k) ?_
    refine Goes.via (B := s₁.setTop (mkF m 16 #[.val (.ref a1), .val (.int (2 : Int32)), .val (.int p3), .val (.int (0 : Int32)), .val (.int (1 : Int32)), .val (.int (1 : Int32))] [(.int (1 : Int32)), (.int (1 : Int32))])) (fun t k => XS.iconst X0.here hx rfl (hb hby d2_15) k) ?_
    refine Goes.via (B := s₁.setTop (mkF m 17 #[.val (.ref a1), .val (.int (2 : Int32)), .val (.int p3), .val (.int (0 : Int32)), .val (.int (1 : Int32)), .val (.int (1 : Int32))] [(.int (0 : Int32))])) (fun t k => XS.iushr X0.here hx rfl (hb hby d2_16) rfl k) ?_
    refine Goes.via (B := s₁.setTop (mkF m 19 #[.val (.ref a1), .val (.int (2 : Int32)), .val (.int p3), .val (.int (0 : Int32)), .val (.int (1 : Int32)), .val (.int (0 : Int32))] [])) (fun t k => XS.istore X0.here hx rfl (hb hby d2_17) rfl (l' := #[.val (.ref a1), .val (.int (2 : Int32)), .val (.int p3), .val (.int (0 : Int32)), .val (.int (1 : Int32)), .val (.int (0 : Int32))]) rfl k) ?_
    refine Goes.via (B := s₁.setTop (mkF m 20 #[.val (.ref a1), .val (.int (2 : Int32)), .val (.int p3), .val (.int (0 : Int32)), .val (.int (1 : Int32)), .val (.int (0 : Int32))] [(.ref a1)])) (fun t k => XS.aloadN X0.here hx rfl (hb hby d2_19) rfl rfl k) ?_
    refine Goes.via (B := s₁.setTop (mkF m 22 #[.val (.ref a1), .val (.int (2 : Int32)), .val (.int p3), .val (.int (0 : Int32)), .val (.int (1 : Int32)), .val (.int (0 : Int32))] [(.int (0 : Int32)), (.ref a1)])) (fun t k => XS.iload X0.here hx rfl (hb hby d2_20) rfl k) ?_
    obtain ⟨cl3, Ar3, q3, S3, M3, H3, G3⟩ := (⟨cl1, Ar1, q1, S1, M1, H1, G1⟩ : Arv Z h0 a1 k1 .int (4 : Int32) [(.int y0), (.int y1), (.int y2), (.int y3)] (.int (0 : Int32)))
    have hin3 : ¬ ((0 : Int32) < 0 ∨ cl3.slots.size ≤ ((0 : Int32)).toNatClampNeg) := inb_of S3 ⟨by decide, by decide⟩
    have hat3 : cl3.slots[((0 : Int32)).toNatClampNeg]? = some (.int y0) := H3.at hin3 rfl
    refine Goes.via (B := s₁.setTop (mkF m 23 #[.val (.ref a1), .val (.int (2 : Int32)), .val (.int p3), .val (.int (0 : Int32)), .val (.int (1 : Int32)), .val (.int (0 : Int32))] [(.int y0)])) (fun t k => X0.iaload hx (j := (0 : Int32)) (v := (.int y0)) (by rw [e0]; exact Ar3.1) (State.isArrayOf_alike hZ.alike Ar3.2.1) Ar3.2.2 hin3 hat3 (g := (mkF m 22 #[.val (.ref a1), .val (.int (2 : Int32)), .val (.int p3), .val (.int (0 : Int32)), .val (.int (1 : Int32)), .val (.int (0 : Int32))] [(.int (0 : Int32)), (.ref a1)])) rfl rfl (hb hby d2_22) _ k) ?_
    refine Goes.via (B := s₁.setTop (mkF m 24 #[.val (.ref a1), .val (.int (2 : Int32)), .val (.int p3), .val (.int (0 : Int32)), .val (.int (1 : Int32)), .val (.int (0 : Int32))] [(.int p3), (.int y0)])) (fun t k => XS.iloadN X0.here hx rfl (hb hby d2_23) rfl k) ?_
    by_cases c24_4 : y0 < p3
    · refine Goes.via (B := s₁.setTop (mkF m 27 #[.val (.ref a1), .val (.int (2 : Int32)), .val (.int p3), .val (.int (0 : Int32)), .val (.int (1 : Int32)), .val (.int (0 : Int32))] [])) (fun t k => XS.icmpNo X0.here hx rfl (hb hby d2_24) rfl (tlt c24_4).2.1 k) ?_
      refine Goes.via (B := s₁.setTop (mkF m 29 #[.val (.ref a1), .val (.int (2 : Int32)), .val (.int p3), .val (.int (0 : Int32)), .val (.int (1 : Int32)), .val (.int (0 : Int32))] [(.int (0 : Int32))])) (fun t k => XS.iload X0.here hx rfl (hb hby d2_27) rfl k) ?_
      refine Goes.via (B := s₁.setTop (mkF m 30 #[.val (.ref a1), .val (.int (2 : Int32)), .val (.int p3), .val (.int (0 : Int32)), .val (.int (1 : Int32)), .val (.int (0 : Int32))] [(.int (1 : Int32)), (.int (0 : Int32))])) (fun t k => XS.iconst X0.here hx rfl (hb hby d2_29) k) ?_
      refine Goes.via (B := s₁.setTop (mkF m 31 #[.val (.ref a1), .val (.int (2 : Int32)), .val (.int p3), .val (.int (0 : Int32)), .val (.int (1 : Int32)), .val (.int (0 : Int32))] [(.int (1 : Int32))])) (fun t k => XS.iadd X0.here hx rfl (hb hby d2_30) rfl k) ?_
      refine Goes.via (B := s₁.setTop (mkF m 32 #[.val (.ref a1), .val (.int (2 : Int32)), .val (.int p3), .val (.int (1 : Int32)), .val (.int (1 : Int32)), .val (.int (0 : Int32))] [])) (fun t k => XS.istoreN X0.here hx rfl (hb hby d2_31) rfl (l' := #[.val (.ref a1), .val (.int (2 : Int32)), .val (.int p3), .val (.int (1 : Int32)), .val (.int (1 : Int32)), .val (.int (0 : Int32))]) rfl k) ?_
      refine Goes.via (B := s₁.setTop (mkF m 39 #[.val (.ref a1), .val (.int (2 : Int32)), .val (.int p3), .val (.int (1 : Int32)), .val (.int (1 : Int32)), .val (.int (0 : Int32))] [])) (fun t k => XS.goto X0.here hx rfl (pc0 := 32) (pc' := 39) rfl (hb hby d2_32) (by decide) (by decide) k) ?_
      refine Goes.via (B := s₁.setTop (mkF m 5 #[.val (.ref a1), .val (.int (2 : Int32)), .val (.int p3), .val (.int (1 : Int32)), .val (.int (1 : Int32)), .val (.int (0 : Int32))] [])) (fun t k => XS.goto X0.here hx rfl (pc0 := 39) (pc' := 5) rfl (hb hby d2_39) (by decide) (by decide) k) ?_
      refine Goes.via (B := s₁.setTop (mkF m 6 #[.val (.ref a1), .val (.int (2 : Int32)), .val (.int p3), .val (.int (1 : Int32)), .val (.int (1 : Int32)), .val (.int (0 : Int32))] [(.int (1 : Int32))])) (fun t k => XS.iloadN X0.here hx rfl (hb hby d2_5) rfl k) ?_
      refine Goes.via (B := s₁.setTop (mkF m 8 #[.val (.ref a1), .val (.int (2 : Int32)), .val (.int p3), .val (.int (1 : Int32)), .val (.int (1 : Int32)), .val (.int (0 : Int32))] [(.int (1 : Int32)), (.int (1 : Int32))])) (fun t k => XS.iload X0.here hx rfl (hb hby d2_6) rfl k) ?_
      refine Goes.via (B := s₁.setTop (mkF m 42 #[.val (.ref a1), .val (.int (2 : Int32)), .val (.int p3), .val (.int (1 : Int32)), .val (.int (1 : Int32)), .val (.int (0 : Int32))] [])) (fun t k => XS.icmpYes X0.here hx rfl (pc0 := 8) (pc' := 42) rfl (hb hby d2_8) rfl (flt (by decide : ¬ (1 : Int32) < (1 : Int32))).2.1 (by decide) (by decide) k) ?_
      refine Goes.via (B := s₁.setTop (mkF m 43 #[.val (.ref a1), .val (.int (2 : Int32)), .val (.int p3), .val (.int (1 : Int32)), .val (.int (1 : Int32)), .val (.int (0 : Int32))] [(.int (1 : Int32))])) (fun t k => XS.iloadN X0.here hx rfl (hb hby d2_42) rfl k) ?_
      have hv : own_b2 y0 y1 y2 y3 p3 = (1 : Int32) := by rw [own_b2, if_neg c24_2, if_pos c24_4]
      exact own_out X0 (v := some (.int (1 : Int32))) (fun h => by rw [Bd.returns] at h; cases h) Bd.notSynchronized (fun fs hr => retOut X0 hx Bd.returns rfl (Or.inl ⟨rfl, Or.inl rfl, _, rfl⟩) (hb hby d2_43) hr) ⟨by rw [hv], N0, e0⟩ (by decide) (by decide)
    · refine Goes.via (B := s₁.setTop (mkF m 35 #[.val (.ref a1), .val (.int (2 : Int32)), .val (.int p3), .val (.int (0 : Int32)), .val (.int (1 : Int32)), .val (.int (0 : Int32))] [])) (fun t k => XS.icmpYes X0.here hx rfl (pc0 := 24) (pc' := 35) rfl (hb hby d2_24) rfl (flt c24_4).2.1 (by decide) (by decide) k) ?_
      refine Goes.via (B := s₁.setTop (mkF m 37 #[.val (.ref a1), .val (.int (2 : Int32)), .val (.int p3), .val (.int (0 : Int32)), .val (.int (1 : Int32)), .val (.int (0 : Int32))] [(.int (0 : Int32))])) (fun t k => XS.iload X0.here hx rfl (hb hby d2_35) rfl k) ?_
      refine Goes.via (B := s₁.setTop (mkF m 39 #[.val (.ref a1), .val (.int (2 : Int32)), .val (.int p3), .val (.int (0 : Int32)), .val (.int (0 : Int32)), .val (.int (0 : Int32))] [])) (fun t k => XS.istore X0.here hx rfl (hb hby d2_37) rfl (l' := #[.val (.ref a1), .val (.int (2 : Int32)), .val (.int p3), .val (.int (0 : Int32)), .val (.int (0 : Int32)), .val (.int (0 : Int32))]) rfl k) ?_
      refine Goes.via (B := s₁.setTop (mkF m 5 #[.val (.ref a1), .val (.int (2 : Int32)), .val (.int p3), .val (.int (0 : Int32)), .val (.int (0 : Int32)), .val (.int (0 : Int32))] [])) (fun t k => XS.goto X0.here hx rfl (pc0 := 39) (pc' := 5) rfl (hb hby d2_39) (by decide) (by decide) k) ?_
      refine Goes.via (B := s₁.setTop (mkF m 6 #[.val (.ref a1), .val (.int (2 : Int32)), .val (.int p3), .val (.int (0 : Int32)), .val (.int (0 : Int32)), .val (.int (0 : Int32))] [(.int (0 : Int32))])) (fun t k => XS.iloadN X0.here hx rfl (hb hby d2_5) rfl k) ?_
      refine Goes.via (B := s₁.setTop (mkF m 8 #[.val (.ref a1), .val (.int (2 : Int32)), .val (.int p3), .val (.int (0 : Int32)), .val (.int (0 : Int32)), .val (.int (0 : Int32))] [(.int (0 : Int32)), (.int (0 : Int32))])) (fun t k => XS.iload X0.here hx rfl (hb hby d2_6) rfl k) ?_
      refine Goes.via (B := s₁.setTop (mkF m 42 #[.val (.ref a1), .val (.int (2 : Int32)), .val (.int p3), .val (.int (0 : Int32)), .val (.int (0 : Int32)), .val (.int (0 : Int32))] [])) (fun t k => XS.icmpYes X0.here hx rfl (pc0 := 8) (pc' := 42) rfl (hb hby d2_8) rfl (flt (by decide : ¬ (0 : Int32) < (0 : Int32))).2.1 (by decide) (by decide) k) ?_
      refine Goes.via (B := s₁.setTop (mkF m 43 #[.val (.ref a1), .val (.int (2 : Int32)), .val (.int p3), .val (.int (0 : Int32)), .val (.int (0 : Int32)), .val (.int (0 : Int32))] [(.int (0 : Int32))])) (fun t k => XS.iloadN X0.here hx rfl (hb hby d2_42) rfl k) ?_
      have hv : own_b2 y0 y1 y2 y3 p3 = (0 : Int32) := by rw [own_b2, if_neg c24_2, if_neg c24_4]
      exact own_out X0 (v := some (.int (0 : Int32))) (fun h => by rw [Bd.returns] at h; cases h) Bd.notSynchronized (fun fs hr => retOut X0 hx Bd.returns rfl (Or.inl ⟨rfl, Or.inl rfl, _, rfl⟩) (hb hby d2_43) hr) ⟨by rw [hv], N0, e0⟩ (by decide) (by decide)
def own_b3 (y0 y1 y2 y3 p3 : Int32) : Int32 := if y1 < p3 then if y2 < p3 then (3 : Int32) else (2 : Int32) else if y0 < p3 then (1 : Int32) else (0 : Int32)
theorem ef_2_3 (m : MethodId) (x0 : Addr) (x1 : Int32) (x2 : Int32) : entryFrame m #[(.ref x0), (.int x1), (.int x2)] 6 = mkF m 0 #[.val (.ref x0), .val (.int x1), .val (.int x2), .unset, .unset, .unset] [] := by first | (simp [entryFrame, mkF, argsToLocals, Value.category]; done) | rfl
def Q2_3 (Z : State) (a1 : Addr) (k1 : ClassId) (y0 : Int32) (y1 : Int32) (y2 : Int32) (y3 : Int32) (p3 : Int32) (h0 : Heap) (n0 : Nat) (v : Option Value) (h : Heap) (L : List Loc) : Prop := v = some (.int (own_b3 y0 y1 y2 y3 p3)) ∧ Fr n0 L ∧ h = h0
set_option maxRecDepth 65536 in
set_option maxHeartbeats 40000000 in
theorem rm2_3 (l : Launch) (Z : State) (a0 : Array Value) (hw : ∀ d ∈ tables_1, d.before a0 Z = true) (ws : List Jvm.Cond) (a1 : Addr) (k1 : ClassId) (y0 : Int32) (y1 : Int32) (y2 : Int32) (y3 : Int32) (p3 : Int32) (h0 : Heap) (n0 : Nat) (Z0 : n0 ≤ h0.size) (V0 : Arv Z h0 a1 k1 .int (4 : Int32) [(.int y0), (.int y1), (.int y2), (.int y3)] (.int (0 : Int32))) :
    MetFree l (⟨"com/example/noise_to_nodes/noisetonodes/AscendingInts", "countBelow", "([III)I"⟩ : MethodName) (head1 (Jvm.Cond.code (⟨"com/example/noise_to_nodes/noisetonodes/AscendingInts", "countBelow", "([III)I"⟩ : MethodName) prog_4_method_2_code 6 (some .int) :: ws) ({ frames := 0, cells := 0, slots := 0, locals := 0 } : Room)) (fun a U => a = #[(.ref a1), (.int (3 : Int32)), (.int p3)] ∧ Z.Warmed39 U.vm ∧ U.heap = h0) (fun _ _ _ _ _ => True) (fun _ U o U' => ∃ v L, o = .returned v ∧ Q2_3 Z a1 k1 y0 y1 y2 y3 p3 h0 n0 v U'.heap L ∧ FrameEnd U o U' L ({ frames := 0, cells := 0, slots := 0, locals := 0 } : Room).cells ({ frames := 0, cells := 0, slots := 0, locals := 0 } : Room).slots) := by
  refine MetFree.of_bodySF (plainFor_of_name pn_com_example_noise_to_nodes_noisetonodes_AscendingInts) hisR ?_
  intro p e s m args below meth c s₁ Bd hml0 hP hK
  obtain ⟨rfl, hZ, hh⟩ := hP
  have hx := Bd.exec
  have hby := Bd.bytes
  have hml : c.maxLocals = 6 := hml0
  have hown : s.vm.findClass "com/example/noise_to_nodes/noisetonodes/AscendingInts" = some m.cls := findClass_of_methodNamed Bd.named
  have hnm := (name_of_methodNamed Bd.named Bd.method).1
  have X0 : Stand p l e ({ frames := 0, cells := 0, slots := 0, locals := 0 } : Room) s m #[(.ref a1), (.int (3 : Int32)), (.int p3)] below meth c s₁ [] 0 0 := Stand.of_body Bd
  have e0 : s₁.heap = h0 := by rw [← hh, Bd.state]; rfl
  have N0 := Fr.nil n0
  show Goes p e below (fun s₂ o => ∃ v L, o = .returned v ∧ Q2_3 Z a1 k1 y0 y1 y2 y3 p3 h0 n0 v s₂.heap L ∧ FrameEnd s o s₂ L ({ frames := 0, cells := 0, slots := 0, locals := 0 } : Room).cells ({ frames := 0, cells := 0, slots := 0, locals := 0 } : Room).slots) (s₁.setTop (entryFrame m #[(.ref a1), (.int (3 : Int32)), (.int p3)] 6))
  refine Goes.cast (ef_2_3 m a1 (3 : Int32) p3) ?_
  refine Goes.via (B := s₁.setTop (mkF m 1 #[.val (.ref a1), .val (.int (3 : Int32)), .val (.int p3), .unset, .unset, .unset] [(.int (0 : Int32))])) (fun t k => XS.iconst X0.here hx rfl (hb hby d2_0) k) ?_
  refine Goes.via (B := s₁.setTop (mkF m 2 #[.val (.ref a1), .val (.int (3 : Int32)), .val (.int p3), .val (.int (0 : Int32)), .unset, .unset] [])) (fun t k => XS.istoreN X0.here hx rfl (hb hby d2_1) rfl (l' := #[.val (.ref a1), .val (.int (3 : Int32)), .val (.int p3), .val (.int (0 : Int32)), .unset, .unset]) rfl k) ?_
  refine Goes.via (B := s₁.setTop (mkF m 3 #[.val (.ref a1), .val (.int (3 : Int32)), .val (.int p3), .val (.int (0 : Int32)), .unset, .unset] [(.int (3 : Int32))])) (fun t k => XS.iloadN X0.here hx rfl (hb hby d2_2) rfl k) ?_
  refine Goes.via (B := s₁.setTop (mkF m 5 #[.val (.ref a1), .val (.int (3 : Int32)), .val (.int p3), .val (.int (0 : Int32)), .val (.int (3 : Int32)), .unset] [])) (fun t k => XS.istore X0.here hx rfl (hb hby d2_3) rfl (l' := #[.val (.ref a1), .val (.int (3 : Int32)), .val (.int p3), .val (.int (0 : Int32)), .val (.int (3 : Int32)), .unset]) rfl k) ?_
  refine Goes.via (B := s₁.setTop (mkF m 6 #[.val (.ref a1), .val (.int (3 : Int32)), .val (.int p3), .val (.int (0 : Int32)), .val (.int (3 : Int32)), .unset] [(.int (0 : Int32))])) (fun t k => XS.iloadN X0.here hx rfl (hb hby d2_5) rfl k) ?_
  refine Goes.via (B := s₁.setTop (mkF m 8 #[.val (.ref a1), .val (.int (3 : Int32)), .val (.int p3), .val (.int (0 : Int32)), .val (.int (3 : Int32)), .unset] [(.int (3 : Int32)), (.int (0 : Int32))])) (fun t k => XS.iload X0.here hx rfl (hb hby d2_6) rfl k) ?_
  refine Goes.via (B := s₁.setTop (mkF m 11 #[.val (.ref a1), .val (.int (3 : Int32)), .val (.int p3), .val (.int (0 : Int32)), .val (.int (3 : Int32)), .unset] [])) (fun t k => XS.icmpNo X0.here hx rfl (hb hby d2_8) rfl (tlt (by decide : (0 : Int32) < (3 : Int32))).2.1 k) ?_
  refine Goes.via (B := s₁.setTop (mkF m 12 #[.val (.ref a1), .val (.int (3 : Int32)), .val (.int p3), .val (.int (0 : Int32)), .val (.int (3 : Int32)), .unset] [(.int (0 : Int32))])) (fun t k => XS.iloadN X0.here hx rfl (hb hby d2_11) rfl k) ?_
  refine Goes.via (B := s₁.setTop (mkF m 14 #[.val (.ref a1), .val (.int (3 : Int32)), .val (.int p3), .val (.int (0 : Int32)), .val (.int (3 : Int32)), .unset] [(.int (3 : Int32)), (.int (0 : Int32))])) (fun t k => XS.iload X0.here hx rfl (hb hby d2_12) rfl k) ?_
  refine Goes.via (B := s₁.setTop (mkF m 15 #[.val (.ref a1), .val (.int (3 : Int32)), .val (.int p3), .val (.int (0 : Int32)), .val (.int (3 : Int32)), .unset] [(.int (3 : Int32))])) (fun t k => XS.iadd X0.here hx rfl (hb hby d2_14) rfl k) ?_
  refine Goes.via (B := s₁.setTop (mkF m 16 #[.val (.ref a1), .val (.int (3 : Int32)), .val (.int p3), .val (.int (0 : Int32)), .val (.int (3 : Int32)), .unset] [(.int (1 : Int32)), (.int (3 : Int32))])) (fun t k => XS.iconst X0.here hx rfl (hb hby d2_15) k) ?_
  refine Goes.via (B := s₁.setTop (mkF m 17 #[.val (.ref a1), .val (.int (3 : Int32)), .val (.int p3), .val (.int (0 : Int32)), .val (.int (3 : Int32)), .unset] [(.int (1 : Int32))])) (fun t k => XS.iushr X0.here hx rfl (hb hby d2_16) rfl k) ?_
  refine Goes.via (B := s₁.setTop (mkF m 19 #[.val (.ref a1), .val (.int (3 : Int32)), .val (.int p3), .val (.int (0 : Int32)), .val (.int (3 : Int32)), .val (.int (1 : Int32))] [])) (fun t k => XS.istore X0.here hx rfl (hb hby d2_17) rfl (l' := #[.val (.ref a1), .val (.int (3 : Int32)), .val (.int p3), .val (.int (0 : Int32)), .val (.int (3 : Int32)), .val (.int (1 : Int32))]) rfl k) ?_
  refine Goes.via (B := s₁.setTop (mkF m 20 #[.val (.ref a1), .val (.int (3 : Int32)), .val (.int p3), .val (.int (0 : Int32)), .val (.int (3 : Int32)), .val (.int (1 : Int32))] [(.ref a1)])) (fun t k => XS.aloadN X0.here hx rfl (hb hby d2_19) rfl rfl k) ?_
  refine Goes.via (B := s₁.setTop (mkF m 22 #[.val (.ref a1), .val (.int (3 : Int32)), .val (.int p3), .val (.int (0 : Int32)), .val (.int (3 : Int32)), .val (.int (1 : Int32))] [(.int (1 : Int32)), (.ref a1)])) (fun t k => XS.iload X0.here hx rfl (hb hby d2_20) rfl k) ?_
  obtain ⟨cl1, Ar1, q1, S1, M1, H1, G1⟩ := V0
  have hin1 : ¬ ((1 : Int32) < 0 ∨ cl1.slots.size ≤ ((1 : Int32)).toNatClampNeg) := inb_of S1 ⟨by decide, by decide⟩
  have hat1 : cl1.slots[((1 : Int32)).toNatClampNeg]? = some (.int y1) := H1.at hin1 rfl
  refine Goes.via (B := s₁.setTop (mkF m 23 #[.val (.ref a1), .val (.int (3 : Int32)), .val (.int p3), .val (.int (0 : Int32)), .val (.int (3 : Int32)), .val (.int (1 : Int32))] [(.int y1)])) (fun t k => X0.iaload hx (j := (1 : Int32)) (v := (.int y1)) (by rw [e0]; exact Ar1.1) (State.isArrayOf_alike hZ.alike Ar1.2.1) Ar1.2.2 hin1 hat1 (g := (mkF m 22 #[.val (.ref a1), .val (.int (3 : Int32)), .val (.int p3), .val (.int (0 : Int32)), .val (.int (3 : Int32)), .val (.int (1 : Int32))] [(.int (1 : Int32)), (.ref a1)])) rfl rfl (hb hby d2_22) _ k) ?_
  refine Goes.via (B := s₁.setTop (mkF m 24 #[.val (.ref a1), .val (.int (3 : Int32)), .val (.int p3), .val (.int (0 : Int32)), .val (.int (3 : Int32)), .val (.int (1 : Int32))] [(.int p3), (.int y1)])) (fun t k => XS.iloadN X0.here hx rfl (hb hby d2_23) rfl k) ?_
  by_cases c24_2 : y1 < p3
  · refine Goes.via (B := s₁.setTop (mkF m 27 #[.val (.ref a1), .val (.int (3 : Int32)), .val (.int p3), .val (.int (0 : Int32)), .val (.int (3 : Int32)), .val (.int (1 : Int32))] [])) (fun t k => XS.icmpNo X0.here hx rfl (hb hby d2_24) rfl (tlt c24_2).2.1 k) ?_
    refine Goes.via (B := s₁.setTop (mkF m 29 #[.val (.ref a1), .val (.int (3 : Int32)), .val (.int p3), .val (.int (0 : Int32)), .val (.int (3 : Int32)), .val (.int (1 : Int32))] [(.int (1 : Int32))])) (fun t k => XS.iload X0.here hx rfl (hb hby d2_27) rfl k) ?_
    refine Goes.via (B := s₁.setTop (mkF m 30 #[.val (.ref a1), .val (.int (3 : Int32)), .val (.int p3), .val (.int (0 : Int32)), .val (.int (3 : Int32)), .val (.int (1 : Int32))] [(.int (1 : Int32)), (.int (1 : Int32))])) (fun t k => XS.iconst X0.here hx rfl (hb hby d2_29) k) ?_
    refine Goes.via (B := s₁.setTop (mkF m 31 #[.val (.ref a1), .val (.int (3 : Int32)), .val (.int p3), .val (.int (0 : Int32)), .val (.int (3 : Int32)), .val (.int (1 : Int32))] [(.int (2 : Int32))])) (fun t k => XS.iadd X0.here hx rfl (hb hby d2_30) rfl k) ?_
    refine Goes.via (B := s₁.setTop (mkF m 32 #[.val (.ref a1), .val (.int (3 : Int32)), .val (.int p3), .val (.int (2 : Int32)), .val (.int (3 : Int32)), .val (.int (1 : Int32))] [])) (fun t k => XS.istoreN X0.here hx rfl (hb hby d2_31) rfl (l' := #[.val (.ref a1), .val (.int (3 : Int32)), .val (.int p3), .val (.int (2 : Int32)), .val (.int (3 : Int32)), .val (.int (1 : Int32))]) rfl k) ?_
    refine Goes.via (B := s₁.setTop (mkF m 39 #[.val (.ref a1), .val (.int (3 : Int32)), .val (.int p3), .val (.int (2 : Int32)), .val (.int (3 : Int32)), .val (.int (1 : Int32))] [])) (fun t k => XS.goto X0.here hx rfl (pc0 := 32) (pc' := 39) rfl (hb hby d2_32) (by decide) (by decide) k) ?_
    refine Goes.via (B := s₁.setTop (mkF m 5 #[.val (.ref a1), .val (.int (3 : Int32)), .val (.int p3), .val (.int (2 : Int32)), .val (.int (3 : Int32)), .val (.int (1 : Int32))] [])) (fun t k => XS.goto X0.here hx rfl (pc0 := 39) (pc' := 5) rfl (hb hby d2_39) (by decide) (by decide) k) ?_
    refine Goes.via (B := s₁.setTop (mkF m 6 #[.val (.ref a1), .val (.int (3 : Int32)), .val (.int p3), .val (.int (2 : Int32)), .val (.int (3 : Int32)), .val (.int (1 : Int32))] [(.int (2 : Int32))])) (fun t k => XS.iloadN X0.here hx rfl (hb hby d2_5) rfl k) ?_
    refine Goes.via (B := s₁.setTop (mkF m 8 #[.val (.ref a1), .val (.int (3 : Int32)), .val (.int p3), .val (.int (2 : Int32)), .val (.int (3 : Int32)), .val (.int (1 : Int32))] [(.int (3 : Int32)), (.int (2 : Int32))])) (fun t k => XS.iload X0.here hx rfl (hb hby d2_6) rfl k) ?_
    refine Goes.via (B := s₁.setTop (mkF m 11 #[.val (.ref a1), .val (.int (3 : Int32)), .val (.int p3), .val (.int (2 : Int32)), .val (.int (3 : Int32)), .val (.int (1 : Int32))] [])) (fun t k => XS.icmpNo X0.here hx rfl (hb hby d2_8) rfl (tlt (by decide : (2 : Int32) < (3 : Int32))).2.1 k) ?_
    refine Goes.via (B := s₁.setTop (mkF m 12 #[.val (.ref a1), .val (.int (3 : Int32)), .val (.int p3), .val (.int (2 : Int32)), .val (.int (3 : Int32)), .val (.int (1 : Int32))] [(.int (2 : Int32))])) (fun t k => XS.iloadN X0.here hx rfl (hb hby d2_11) rfl k) ?_
    refine Goes.via (B := s₁.setTop (mkF m 14 #[.val (.ref a1), .val (.int (3 : Int32)), .val (.int p3), .val (.int (2 : Int32)), .val (.int (3 : Int32)), .val (.int (1 : Int32))] [(.int (3 : Int32)), (.int (2 : Int32))])) (fun t k => XS.iload X0.here hx rfl (hb hby d2_12) rfl k) ?_
    refine Goes.via (B := s₁.setTop (mkF m 15 #[.val (.ref a1), .val (.int (3 : Int32)), .val (.int p3), .val (.int (2 : Int32)), .val (.int (3 : Int32)), .val (.int (1 : Int32))] [(.int (5 : Int32))])) (fun t k => XS.iadd X0.here hx rfl (hb hby d2_14) rfl k) ?_
    refine Goes.via (B := s₁.setTop (mkF m 16 #[.val (.ref a1), .val (.int (3 : Int32)), .val (.int p3), .val (.int (2 : Int32)), .val (.int (3 : Int32)), .val (.int (1 : Int32))] [(.int (1 : Int32)), (.int (5 : Int32))])) (fun t k => XS.iconst X0.here hx rfl (hb hby d2_15) k) ?_
    refine Goes.via (B := s₁.setTop (mkF m 17 #[.val (.ref a1), .val (.int (3 : Int32)), .val (.int p3), .val (.int (2 : Int32)), .val (.int (3 : Int32)), .val (.int (1 : Int32))] [(.int (2 : Int32))])) (fun t k => XS.iushr X0.here hx rfl (hb hby d2_16) rfl k) ?_
    refine Goes.via (B := s₁.setTop (mkF m 19 #[.val (.ref a1), .val (.int (3 : Int32)), .val (.int p3), .val (.int (2 : Int32)), .val (.int (3 : Int32)), .val (.int (2 : Int32))] [])) (fun t k => XS.istore X0.here hx rfl (hb hby d2_17) rfl (l' := #[.val (.ref a1), .val (.int (3 : Int32)), .val (.int p3), .val (.int (2 : Int32)), .val (.int (3 : Int32)), .val (.int (2 : Int32))]) rfl k) ?_
    refine Goes.via (B := s₁.setTop (mkF m 20 #[.val (.ref a1), .val (.int (3 : Int32)), .val (.int p3), .val (.int (2 : Int32)), .val (.int (3 : Int32)), .val (.int (2 : Int32))] [(.ref a1)])) (fun t k => XS.aloadN X0.here hx rfl (hb hby d2_19) rfl rfl k) ?_
    refine Goes.via (B := s₁.setTop (mkF m 22 #[.val (.ref a1), .val (.int (3 : Int32)), .val (.int p3), .val (.int (2 : Int32)), .val (.int (3 : Int32)), .val (.int (2 : Int32))] [(.int (2 : Int32)), (.ref a1)])) (fun t k => XS.iload X0.here hx rfl (hb hby d2_20) rfl k) ?_
    obtain ⟨cl3, Ar3, q3, S3, M3, H3, G3⟩ := (⟨cl1, Ar1, q1, S1, M1, H1, G1⟩ : Arv Z h0 a1 k1 .int (4 : Int32) [(.int y0), (.int y1), (.int y2), (.int y3)] (.int (0 : Int32)))
    have hin3 : ¬ ((2 : Int32) < 0 ∨ cl3.slots.size ≤ ((2 : Int32)).toNatClampNeg) := inb_of S3 ⟨by decide, by decide⟩
    have hat3 : cl3.slots[((2 : Int32)).toNatClampNeg]? = some (.int y2) := H3.at hin3 rfl
    refine Goes.via (B := s₁.setTop (mkF m 23 #[.val (.ref a1), .val (.int (3 : Int32)), .val (.int p3), .val (.int (2 : Int32)), .val (.int (3 : Int32)), .val (.int (2 : Int32))] [(.int y2)])) (fun t k => X0.iaload hx (j := (2 : Int32)) (v := (.int y2)) (by rw [e0]; exact Ar3.1) (State.isArrayOf_alike hZ.alike Ar3.2.1) Ar3.2.2 hin3 hat3 (g := (mkF m 22 #[.val (.ref a1), .val (.int (3 : Int32)), .val (.int p3), .val (.int (2 : Int32)), .val (.int (3 : Int32)), .val (.int (2 : Int32))] [(.int (2 : Int32)), (.ref a1)])) rfl rfl (hb hby d2_22) _ k) ?_
    refine Goes.via (B := s₁.setTop (mkF m 24 #[.val (.ref a1), .val (.int (3 : Int32)), .val (.int p3), .val (.int (2 : Int32)), .val (.int (3 : Int32)), .val (.int (2 : Int32))] [(.int p3), (.int y2)])) (fun t k => XS.iloadN X0.here hx rfl (hb hby d2_23) rfl k) ?_
    by_cases c24_4 : y2 < p3
    · refine Goes.via (B := s₁.setTop (mkF m 27 #[.val (.ref a1), .val (.int (3 : Int32)), .val (.int p3), .val (.int (2 : Int32)), .val (.int (3 : Int32)), .val (.int (2 : Int32))] [])) (fun t k => XS.icmpNo X0.here hx rfl (hb hby d2_24) rfl (tlt c24_4).2.1 k) ?_
      refine Goes.via (B := s₁.setTop (mkF m 29 #[.val (.ref a1), .val (.int (3 : Int32)), .val (.int p3), .val (.int (2 : Int32)), .val (.int (3 : Int32)), .val (.int (2 : Int32))] [(.int (2 : Int32))])) (fun t k => XS.iload X0.here hx rfl (hb hby d2_27) rfl k) ?_
      refine Goes.via (B := s₁.setTop (mkF m 30 #[.val (.ref a1), .val (.int (3 : Int32)), .val (.int p3), .val (.int (2 : Int32)), .val (.int (3 : Int32)), .val (.int (2 : Int32))] [(.int (1 : Int32)), (.int (2 : Int32))])) (fun t k => XS.iconst X0.here hx rfl (hb hby d2_29) k) ?_
      refine Goes.via (B := s₁.setTop (mkF m 31 #[.val (.ref a1), .val (.int (3 : Int32)), .val (.int p3), .val (.int (2 : Int32)), .val (.int (3 : Int32)), .val (.int (2 : Int32))] [(.int (3 : Int32))])) (fun t k => XS.iadd X0.here hx rfl (hb hby d2_30) rfl k) ?_
      refine Goes.via (B := s₁.setTop (mkF m 32 #[.val (.ref a1), .val (.int (3 : Int32)), .val (.int p3), .val (.int (3 : Int32)), .val (.int (3 : Int32)), .val (.int (2 : Int32))] [])) (fun t k => XS.istoreN X0.here hx rfl (hb hby d2_31) rfl (l' := #[.val (.ref a1), .val (.int (3 : Int32)), .val (.int p3), .val (.int (3 : Int32)), .val (.int (3 : Int32)), .val (.int (2 : Int32))]) rfl k) ?_
      refine Goes.via (B := s₁.setTop (mkF m 39 #[.val (.ref a1), .val (.int (3 : Int32)), .val (.int p3), .val (.int (3 : Int32)), .val (.int (3 : Int32)), .val (.int (2 : Int32))] [])) (fun t k => XS.goto X0.here hx rfl (pc0 := 32) (pc' := 39) rfl (hb hby d2_32) (by decide) (by decide) k) ?_
      refine Goes.via (B := s₁.setTop (mkF m 5 #[.val (.ref a1), .val (.int (3 : Int32)), .val (.int p3), .val (.int (3 : Int32)), .val (.int (3 : Int32)), .val (.int (2 : Int32))] [])) (fun t k => XS.goto X0.here hx rfl (pc0 := 39) (pc' := 5) rfl (hb hby d2_39) (by decide) (by decide) k) ?_
      refine Goes.via (B := s₁.setTop (mkF m 6 #[.val (.ref a1), .val (.int (3 : Int32)), .val (.int p3), .val (.int (3 : Int32)), .val (.int (3 : Int32)), .val (.int (2 : Int32))] [(.int (3 : Int32))])) (fun t k => XS.iloadN X0.here hx rfl (hb hby d2_5) rfl k) ?_
      refine Goes.via (B := s₁.setTop (mkF m 8 #[.val (.ref a1), .val (.int (3 : Int32)), .val (.int p3), .val (.int (3 : Int32)), .val (.int (3 : Int32)), .val (.int (2 : Int32))] [(.int (3 : Int32)), (.int (3 : Int32))])) (fun t k => XS.iload X0.here hx rfl (hb hby d2_6) rfl k) ?_
      refine Goes.via (B := s₁.setTop (mkF m 42 #[.val (.ref a1), .val (.int (3 : Int32)), .val (.int p3), .val (.int (3 : Int32)), .val (.int (3 : Int32)), .val (.int (2 : Int32))] [])) (fun t k => XS.icmpYes X0.here hx rfl (pc0 := 8) (pc' := 42) rfl (hb hby d2_8) rfl (flt (by decide : ¬ (3 : Int32) < (3 : Int32))).2.1 (by decide) (by decide) k) ?_
      refine Goes.via (B := s₁.setTop (mkF m 43 #[.val (.ref a1), .val (.int (3 : Int32)), .val (.int p3), .val (.int (3 : Int32)), .val (.int (3 : Int32)), .val (.int (2 : Int32))] [(.int (3 : Int32))])) (fun t k => XS.iloadN X0.here hx rfl (hb hby d2_42) rfl k) ?_
      have hv : own_b3 y0 y1 y2 y3 p3 = (3 : Int32) := by rw [own_b3, if_pos c24_2, if_pos c24_4]
      exact own_out X0 (v := some (.int (3 : Int32))) (fun h => by rw [Bd.returns] at h; cases h) Bd.notSynchronized (fun fs hr => retOut X0 hx Bd.returns rfl (Or.inl ⟨rfl, Or.inl rfl, _, rfl⟩) (hb hby d2_43) hr) ⟨by rw [hv], N0, e0⟩ (by decide) (by decide)
    · refine Goes.via (B := s₁.setTop (mkF m 35 #[.val (.ref a1), .val (.int (3 : Int32)), .val (.int p3), .val (.int (2 : Int32)), .val (.int (3 : Int32)), .val (.int (2 : Int32))] [])) (fun t k => XS.icmpYes X0.here hx rfl (pc0 := 24) (pc' := 35) rfl (hb hby d2_24) rfl (flt c24_4).2.1 (by decide) (by decide) k) ?_
      refine Goes.via (B := s₁.setTop (mkF m 37 #[.val (.ref a1), .val (.int (3 : Int32)), .val (.int p3), .val (.int (2 : Int32)), .val (.int (3 : Int32)), .val (.int (2 : Int32))] [(.int (2 : Int32))])) (fun t k => XS.iload X0.here hx rfl (hb hby d2_35) rfl k) ?_
      refine Goes.via (B := s₁.setTop (mkF m 39 #[.val (.ref a1), .val (.int (3 : Int32)), .val (.int p3), .val (.int (2 : Int32)), .val (.int (2 : Int32)), .val (.int (2 : Int32))] [])) (fun t k => XS.istore X0.here hx rfl (hb hby d2_37) rfl (l' := #[.val (.ref a1), .val (.int (3 : Int32)), .val (.int p3), .val (.int (2 : Int32)), .val (.int (2 : Int32)), .val (.int (2 : Int32))]) rfl k) ?_
      refine Goes.via (B := s₁.setTop (mkF m 5 #[.val (.ref a1), .val (.int (3 : Int32)), .val (.int p3), .val (.int (2 : Int32)), .val (.int (2 : Int32)), .val (.int (2 : Int32))] [])) (fun t k => XS.goto X0.here hx rfl (pc0 := 39) (pc' := 5) rfl (hb hby d2_39) (by decide) (by decide) k) ?_
      refine Goes.via (B := s₁.setTop (mkF m 6 #[.val (.ref a1), .val (.int (3 : Int32)), .val (.int p3), .val (.int (2 : Int32)), .val (.int (2 : Int32)), .val (.int (2 : Int32))] [(.int (2 : Int32))])) (fun t k => XS.iloadN X0.here hx rfl (hb hby d2_5) rfl k) ?_
      refine Goes.via (B := s₁.setTop (mkF m 8 #[.val (.ref a1), .val (.int (3 : Int32)), .val (.int p3), .val (.int (2 : Int32)), .val (.int (2 : Int32)), .val (.int (2 : Int32))] [(.int (2 : Int32)), (.int (2 : Int32))])) (fun t k => XS.iload X0.here hx rfl (hb hby d2_6) rfl k) ?_
      refine Goes.via (B := s₁.setTop (mkF m 42 #[.val (.ref a1), .val (.int (3 : Int32)), .val (.int p3), .val (.int (2 : Int32)), .val (.int (2 : Int32)), .val (.int (2 : Int32))] [])) (fun t k => XS.icmpYes X0.here hx rfl (pc0 := 8) (pc' := 42) rfl (hb hby d2_8) rfl (flt (by decide : ¬ (2 : Int32) < (2 : Int32))).2.1 (by decide) (by decide) k) ?_
      refine Goes.via (B := s₁.setTop (mkF m 43 #[.val (.ref a1), .val (.int (3 : Int32)), .val (.int p3), .val (.int (2 : Int32)), .val (.int (2 : Int32)), .val (.int (2 : Int32))] [(.int (2 : Int32))])) (fun t k => XS.iloadN X0.here hx rfl (hb hby d2_42) rfl k) ?_
      have hv : own_b3 y0 y1 y2 y3 p3 = (2 : Int32) := by rw [own_b3, if_pos c24_2, if_neg c24_4]
      exact own_out X0 (v := some (.int (2 : Int32))) (fun h => by rw [Bd.returns] at h; cases h) Bd.notSynchronized (fun fs hr => retOut X0 hx Bd.returns rfl (Or.inl ⟨rfl, Or.inl rfl, _, rfl⟩) (hb hby d2_43) hr) ⟨by rw [hv], N0, e0⟩ (by decide) (by decide)
  · refine Goes.via (B := s₁.setTop (mkF m 35 #[.val (.ref a1), .val (.int (3 : Int32)), .val (.int p3), .val (.int (0 : Int32)), .val (.int (3 : Int32)), .val (.int (1 : Int32))] [])) (fun t k => XS.icmpYes X0.here hx rfl (pc0 := 24) (pc' := 35) rfl (hb hby d2_24) rfl (flt c24_2).2.1 (by decide) (by decide) k) ?_
    refine Goes.via (B := s₁.setTop (mkF m 37 #[.val (.ref a1), .val (.int (3 : Int32)), .val (.int p3), .val (.int (0 : Int32)), .val (.int (3 : Int32)), .val (.int (1 : Int32))] [(.int (1 : Int32))])) (fun t k => XS.iload X0.here hx rfl (hb hby d2_35) rfl k) ?_
    refine Goes.via (B := s₁.setTop (mkF m 39 #[.val (.ref a1), .val (.int (3 : Int32)), .val (.int p3), .val (.int (0 : Int32)), .val (.int (1 : Int32)), .val (.int (1 : Int32))] [])) (fun t k => XS.istore X0.here hx rfl (hb hby d2_37) rfl (l' := #[.val (.ref a1), .val (.int (3 : Int32)), .val (.int p3), .val (.int (0 : Int32)), .val (.int (1 : Int32)), .val (.int (1 : Int32))]) rfl k) ?_
    refine Goes.via (B := s₁.setTop (mkF m 5 #[.val (.ref a1), .val (.int (3 : Int32)), .val (.int p3), .val (.int (0 : Int32)), .val (.int (1 : Int32)), .val (.int (1 : Int32))] [])) (fun t k => XS.goto X0.here hx rfl (pc0 := 39) (pc' := 5) rfl (hb hby d2_39) (by decide) (by decide) k) ?_
    refine Goes.via (B := s₁.setTop (mkF m 6 #[.val (.ref a1), .val (.int (3 : Int32)), .val (.int p3), .val (.int (0 : Int32)), .val (.int (1 : Int32)), .val (.int (1 : Int32))] [(.int (0 : Int32))])) (fun t k => XS.iloadN X0.here hx rfl (hb hby d2_5) rfl k) ?_
    refine Goes.via (B := s₁.setTop (mkF m 8 #[.val (.ref a1), .val (.int (3 : Int32)), .val (.int p3), .val (.int (0 : Int32)), .val (.int (1 : Int32)), .val (.int (1 : Int32))] [(.int (1 : Int32)), (.int (0 : Int32))])) (fun t k => XS.iload X0.here hx rfl (hb hby d2_6) rfl k) ?_
    refine Goes.via (B := s₁.setTop (mkF m 11 #[.val (.ref a1), .val (.int (3 : Int32)), .val (.int p3), .val (.int (0 : Int32)), .val (.int (1 : Int32)), .val (.int (1 : Int32))] [])) (fun t k => XS.icmpNo X0.here hx rfl (hb hby d2_8) rfl (tlt (by decide : (0 : Int32) < (1 : Int32))).2.1 k) ?_
    refine Goes.via (B := s₁.setTop (mkF m 12 #[.val (.ref a1), .val (.int (3 : Int32)), .val (.int p3), .val (.int (0 : Int32)), .val (.int (1 : Int32)), .val (.int (1 : Int32))] [(.int (0 : Int32))])) (fun t k => XS.iloadN X0.here hx rfl (hb hby d2_11) rfl k) ?_
    refine Goes.via (B := s₁.setTop (mkF m 14 #[.val (.ref a1), .val (.int (3 : Int32)), .val (.int p3), .val (.int (0 : Int32)), .val (.int (1 : Int32)), .val (.int (1 : Int32))] [(.int (1 : Int32)), (.int (0 : Int32))])) (fun t k => XS.iload X0.here hx rfl (hb hby d2_12) rfl k) ?_
    refine Goes.via (B := s₁.setTop (mkF m 15 #[.val (.ref a1), .val (.int (3 : Int32)), .val (.int p3), .val (.int (0 : Int32)), .val (.int (1 : Int32)), .val (.int (1 : Int32))] [(.int (1 : Int32))])) (fun t k => XS.iadd X0.here hx rfl (hb hby d2_14) rfl k) ?_
    refine Goes.via (B := s₁.setTop (mkF m 16 #[.val (.ref a1), .val (.int (3 : Int32)), .val (.int p3), .val (.int (0 : Int32)), .val (.int (1 : Int32)), .val (.int (1 : Int32))] [(.int (1 : Int32)), (.int (1 : Int32))])) (fun t k => XS.iconst X0.here hx rfl (hb hby d2_15) k) ?_
    refine Goes.via (B := s₁.setTop (mkF m 17 #[.val (.ref a1), .val (.int (3 : Int32)), .val (.int p3), .val (.int (0 : Int32)), .val (.int (1 : Int32)), .val (.int (1 : Int32))] [(.int (0 : Int32))])) (fun t k => XS.iushr X0.here hx rfl (hb hby d2_16) rfl k) ?_
    refine Goes.via (B := s₁.setTop (mkF m 19 #[.val (.ref a1), .val (.int (3 : Int32)), .val (.int p3), .val (.int (0 : Int32)), .val (.int (1 : Int32)), .val (.int (0 : Int32))] [])) (fun t k => XS.istore X0.here hx rfl (hb hby d2_17) rfl (l' := #[.val (.ref a1), .val (.int (3 : Int32)), .val (.int p3), .val (.int (0 : Int32)), .val (.int (1 : Int32)), .val (.int (0 : Int32))]) rfl k) ?_
    refine Goes.via (B := s₁.setTop (mkF m 20 #[.val (.ref a1), .val (.int (3 : Int32)), .val (.int p3), .val (.int (0 : Int32)), .val (.int (1 : Int32)), .val (.int (0 : Int32))] [(.ref a1)])) (fun t k => XS.aloadN X0.here hx rfl (hb hby d2_19) rfl rfl k) ?_
    refine Goes.via (B := s₁.setTop (mkF m 22 #[.val (.ref a1), .val (.int (3 : Int32)), .val (.int p3), .val (.int (0 : Int32)), .val (.int (1 : Int32)), .val (.int (0 : Int32))] [(.int (0 : Int32)), (.ref a1)])) (fun t k => XS.iload X0.here hx rfl (hb hby d2_20) rfl k) ?_
    obtain ⟨cl5, Ar5, q5, S5, M5, H5, G5⟩ := (⟨cl1, Ar1, q1, S1, M1, H1, G1⟩ : Arv Z h0 a1 k1 .int (4 : Int32) [(.int y0), (.int y1), (.int y2), (.int y3)] (.int (0 : Int32)))
    have hin5 : ¬ ((0 : Int32) < 0 ∨ cl5.slots.size ≤ ((0 : Int32)).toNatClampNeg) := inb_of S5 ⟨by decide, by decide⟩
    have hat5 : cl5.slots[((0 : Int32)).toNatClampNeg]? = some (.int y0) := H5.at hin5 rfl
    refine Goes.via (B := s₁.setTop (mkF m 23 #[.val (.ref a1), .val (.int (3 : Int32)), .val (.int p3), .val (.int (0 : Int32)), .val (.int (1 : Int32)), .val (.int (0 : Int32))] [(.int y0)])) (fun t k => X0.iaload hx (j := (0 : Int32)) (v := (.int y0)) (by rw [e0]; exact Ar5.1) (State.isArrayOf_alike hZ.alike Ar5.2.1) Ar5.2.2 hin5 hat5 (g := (mkF m 22 #[.val (.ref a1), .val (.int (3 : Int32)), .val (.int p3), .val (.int (0 : Int32)), .val (.int (1 : Int32)), .val (.int (0 : Int32))] [(.int (0 : Int32)), (.ref a1)])) rfl rfl (hb hby d2_22) _ k) ?_
    refine Goes.via (B := s₁.setTop (mkF m 24 #[.val (.ref a1), .val (.int (3 : Int32)), .val (.int p3), .val (.int (0 : Int32)), .val (.int (1 : Int32)), .val (.int (0 : Int32))] [(.int p3), (.int y0)])) (fun t k => XS.iloadN X0.here hx rfl (hb hby d2_23) rfl k) ?_
    by_cases c24_6 : y0 < p3
    · refine Goes.via (B := s₁.setTop (mkF m 27 #[.val (.ref a1), .val (.int (3 : Int32)), .val (.int p3), .val (.int (0 : Int32)), .val (.int (1 : Int32)), .val (.int (0 : Int32))] [])) (fun t k => XS.icmpNo X0.here hx rfl (hb hby d2_24) rfl (tlt c24_6).2.1 k) ?_
      refine Goes.via (B := s₁.setTop (mkF m 29 #[.val (.ref a1), .val (.int (3 : Int32)), .val (.int p3), .val (.int (0 : Int32)), .val (.int (1 : Int32)), .val (.int (0 : Int32))] [(.int (0 : Int32))])) (fun t k => XS.iload X0.here hx rfl (hb hby d2_27) rfl k) ?_
      refine Goes.via (B := s₁.setTop (mkF m 30 #[.val (.ref a1), .val (.int (3 : Int32)), .val (.int p3), .val (.int (0 : Int32)), .val (.int (1 : Int32)), .val (.int (0 : Int32))] [(.int (1 : Int32)), (.int (0 : Int32))])) (fun t k => XS.iconst X0.here hx rfl (hb hby d2_29) k) ?_
      refine Goes.via (B := s₁.setTop (mkF m 31 #[.val (.ref a1), .val (.int (3 : Int32)), .val (.int p3), .val (.int (0 : Int32)), .val (.int (1 : Int32)), .val (.int (0 : Int32))] [(.int (1 : Int32))])) (fun t k => XS.iadd X0.here hx rfl (hb hby d2_30) rfl k) ?_
      refine Goes.via (B := s₁.setTop (mkF m 32 #[.val (.ref a1), .val (.int (3 : Int32)), .val (.int p3), .val (.int (1 : Int32)), .val (.int (1 : Int32)), .val (.int (0 : Int32))] [])) (fun t k => XS.istoreN X0.here hx rfl (hb hby d2_31) rfl (l' := #[.val (.ref a1), .val (.int (3 : Int32)), .val (.int p3), .val (.int (1 : Int32)), .val (.int (1 : Int32)), .val (.int (0 : Int32))]) rfl k) ?_
      refine Goes.via (B := s₁.setTop (mkF m 39 #[.val (.ref a1), .val (.int (3 : Int32)), .val (.int p3), .val (.int (1 : Int32)), .val (.int (1 : Int32)), .val (.int (0 : Int32))] [])) (fun t k => XS.goto X0.here hx rfl (pc0 := 32) (pc' := 39) rfl (hb hby d2_32) (by decide) (by decide) k) ?_
      refine Goes.via (B := s₁.setTop (mkF m 5 #[.val (.ref a1), .val (.int (3 : Int32)), .val (.int p3), .val (.int (1 : Int32)), .val (.int (1 : Int32)), .val (.int (0 : Int32))] [])) (fun t k => XS.goto X0.here hx rfl (pc0 := 39) (pc' := 5) rfl (hb hby d2_39) (by decide) (by decide) k) ?_
      refine Goes.via (B := s₁.setTop (mkF m 6 #[.val (.ref a1), .val (.int (3 : Int32)), .val (.int p3), .val (.int (1 : Int32)), .val (.int (1 : Int32)), .val (.int (0 : Int32))] [(.int (1 : Int32))])) (fun t k => XS.iloadN X0.here hx rfl (hb hby d2_5) rfl k) ?_
      refine Goes.via (B := s₁.setTop (mkF m 8 #[.val (.ref a1), .val (.int (3 : Int32)), .val (.int p3), .val (.int (1 : Int32)), .val (.int (1 : Int32)), .val (.int (0 : Int32))] [(.int (1 : Int32)), (.int (1 : Int32))])) (fun t k => XS.iload X0.here hx rfl (hb hby d2_6) rfl k) ?_
      refine Goes.via (B := s₁.setTop (mkF m 42 #[.val (.ref a1), .val (.int (3 : Int32)), .val (.int p3), .val (.int (1 : Int32)), .val (.int (1 : Int32)), .val (.int (0 : Int32))] [])) (fun t k => XS.icmpYes X0.here hx rfl (pc0 := 8) (pc' := 42) rfl (hb hby d2_8) rfl (flt (by decide : ¬ (1 : Int32) < (1 : Int32))).2.1 (by decide) (by decide) k) ?_
      refine Goes.via (B := s₁.setTop (mkF m 43 #[.val (.ref a1), .val (.int (3 : Int32)), .val (.int p3), .val (.int (1 : Int32)), .val (.int (1 : Int32)), .val (.int (0 : Int32))] [(.int (1 : Int32))])) (fun t k => XS.iloadN X0.here hx rfl (hb hby d2_42) rfl k) ?_
      have hv : own_b3 y0 y1 y2 y3 p3 = (1 : Int32) := by rw [own_b3, if_neg c24_2, if_pos c24_6]
      exact own_out X0 (v := some (.int (1 : Int32))) (fun h => by rw [Bd.returns] at h; cases h) Bd.notSynchronized (fun fs hr => retOut X0 hx Bd.returns rfl (Or.inl ⟨rfl, Or.inl rfl, _, rfl⟩) (hb hby d2_43) hr) ⟨by rw [hv], N0, e0⟩ (by decide) (by decide)
    · refine Goes.via (B := s₁.setTop (mkF m 35 #[.val (.ref a1), .val (.int (3 : Int32)), .val (.int p3), .val (.int (0 : Int32)), .val (.int (1 : Int32)), .val (.int (0 : Int32))] [])) (fun t k => XS.icmpYes X0.here hx rfl (pc0 := 24) (pc' := 35) rfl (hb hby d2_24) rfl (flt c24_6).2.1 (by decide) (by decide) k) ?_
      refine Goes.via (B := s₁.setTop (mkF m 37 #[.val (.ref a1), .val (.int (3 : Int32)), .val (.int p3), .val (.int (0 : Int32)), .val (.int (1 : Int32)), .val (.int (0 : Int32))] [(.int (0 : Int32))])) (fun t k => XS.iload X0.here hx rfl (hb hby d2_35) rfl k) ?_
      refine Goes.via (B := s₁.setTop (mkF m 39 #[.val (.ref a1), .val (.int (3 : Int32)), .val (.int p3), .val (.int (0 : Int32)), .val (.int (0 : Int32)), .val (.int (0 : Int32))] [])) (fun t k => XS.istore X0.here hx rfl (hb hby d2_37) rfl (l' := #[.val (.ref a1), .val (.int (3 : Int32)), .val (.int p3), .val (.int (0 : Int32)), .val (.int (0 : Int32)), .val (.int (0 : Int32))]) rfl k) ?_
      refine Goes.via (B := s₁.setTop (mkF m 5 #[.val (.ref a1), .val (.int (3 : Int32)), .val (.int p3), .val (.int (0 : Int32)), .val (.int (0 : Int32)), .val (.int (0 : Int32))] [])) (fun t k => XS.goto X0.here hx rfl (pc0 := 39) (pc' := 5) rfl (hb hby d2_39) (by decide) (by decide) k) ?_
      refine Goes.via (B := s₁.setTop (mkF m 6 #[.val (.ref a1), .val (.int (3 : Int32)), .val (.int p3), .val (.int (0 : Int32)), .val (.int (0 : Int32)), .val (.int (0 : Int32))] [(.int (0 : Int32))])) (fun t k => XS.iloadN X0.here hx rfl (hb hby d2_5) rfl k) ?_
      refine Goes.via (B := s₁.setTop (mkF m 8 #[.val (.ref a1), .val (.int (3 : Int32)), .val (.int p3), .val (.int (0 : Int32)), .val (.int (0 : Int32)), .val (.int (0 : Int32))] [(.int (0 : Int32)), (.int (0 : Int32))])) (fun t k => XS.iload X0.here hx rfl (hb hby d2_6) rfl k) ?_
      refine Goes.via (B := s₁.setTop (mkF m 42 #[.val (.ref a1), .val (.int (3 : Int32)), .val (.int p3), .val (.int (0 : Int32)), .val (.int (0 : Int32)), .val (.int (0 : Int32))] [])) (fun t k => XS.icmpYes X0.here hx rfl (pc0 := 8) (pc' := 42) rfl (hb hby d2_8) rfl (flt (by decide : ¬ (0 : Int32) < (0 : Int32))).2.1 (by decide) (by decide) k) ?_
      refine Goes.via (B := s₁.setTop (mkF m 43 #[.val (.ref a1), .val (.int (3 : Int32)), .val (.int p3), .val (.int (0 : Int32)), .val (.int (0 : Int32)), .val (.int (0 : Int32))] [(.int (0 : Int32))])) (fun t k => XS.iloadN X0.here hx rfl (hb hby d2_42) rfl k) ?_
      have hv : own_b3 y0 y1 y2 y3 p3 = (0 : Int32) := by rw [own_b3, if_neg c24_2, if_neg c24_6]
      exact own_out X0 (v := some (.int (0 : Int32))) (fun h => by rw [Bd.returns] at h; cases h) Bd.notSynchronized (fun fs hr => retOut X0 hx Bd.returns rfl (Or.inl ⟨rfl, Or.inl rfl, _, rfl⟩) (hb hby d2_43) hr) ⟨by rw [hv], N0, e0⟩ (by decide) (by decide)
def own_b4 (y0 y1 y2 y3 p3 : Int32) : Int32 := if y2 < p3 then if y3 < p3 then (4 : Int32) else (3 : Int32) else if y1 < p3 then (2 : Int32) else if y0 < p3 then (1 : Int32) else (0 : Int32)
theorem ef_2_4 (m : MethodId) (x0 : Addr) (x1 : Int32) (x2 : Int32) : entryFrame m #[(.ref x0), (.int x1), (.int x2)] 6 = mkF m 0 #[.val (.ref x0), .val (.int x1), .val (.int x2), .unset, .unset, .unset] [] := by first | (simp [entryFrame, mkF, argsToLocals, Value.category]; done) | rfl
def Q2_4 (Z : State) (a1 : Addr) (k1 : ClassId) (y0 : Int32) (y1 : Int32) (y2 : Int32) (y3 : Int32) (p3 : Int32) (h0 : Heap) (n0 : Nat) (v : Option Value) (h : Heap) (L : List Loc) : Prop := v = some (.int (own_b4 y0 y1 y2 y3 p3)) ∧ Fr n0 L ∧ h = h0
set_option maxRecDepth 65536 in
set_option maxHeartbeats 40000000 in
theorem rm2_4 (l : Launch) (Z : State) (a0 : Array Value) (hw : ∀ d ∈ tables_1, d.before a0 Z = true) (ws : List Jvm.Cond) (a1 : Addr) (k1 : ClassId) (y0 : Int32) (y1 : Int32) (y2 : Int32) (y3 : Int32) (p3 : Int32) (h0 : Heap) (n0 : Nat) (Z0 : n0 ≤ h0.size) (V0 : Arv Z h0 a1 k1 .int (4 : Int32) [(.int y0), (.int y1), (.int y2), (.int y3)] (.int (0 : Int32))) :
    MetFree l (⟨"com/example/noise_to_nodes/noisetonodes/AscendingInts", "countBelow", "([III)I"⟩ : MethodName) (head1 (Jvm.Cond.code (⟨"com/example/noise_to_nodes/noisetonodes/AscendingInts", "countBelow", "([III)I"⟩ : MethodName) prog_4_method_2_code 6 (some .int) :: ws) ({ frames := 0, cells := 0, slots := 0, locals := 0 } : Room)) (fun a U => a = #[(.ref a1), (.int (4 : Int32)), (.int p3)] ∧ Z.Warmed39 U.vm ∧ U.heap = h0) (fun _ _ _ _ _ => True) (fun _ U o U' => ∃ v L, o = .returned v ∧ Q2_4 Z a1 k1 y0 y1 y2 y3 p3 h0 n0 v U'.heap L ∧ FrameEnd U o U' L ({ frames := 0, cells := 0, slots := 0, locals := 0 } : Room).cells ({ frames := 0, cells := 0, slots := 0, locals := 0 } : Room).slots) := by
  refine MetFree.of_bodySF (plainFor_of_name pn_com_example_noise_to_nodes_noisetonodes_AscendingInts) hisR ?_
  intro p e s m args below meth c s₁ Bd hml0 hP hK
  obtain ⟨rfl, hZ, hh⟩ := hP
  have hx := Bd.exec
  have hby := Bd.bytes
  have hml : c.maxLocals = 6 := hml0
  have hown : s.vm.findClass "com/example/noise_to_nodes/noisetonodes/AscendingInts" = some m.cls := findClass_of_methodNamed Bd.named
  have hnm := (name_of_methodNamed Bd.named Bd.method).1
  have X0 : Stand p l e ({ frames := 0, cells := 0, slots := 0, locals := 0 } : Room) s m #[(.ref a1), (.int (4 : Int32)), (.int p3)] below meth c s₁ [] 0 0 := Stand.of_body Bd
  have e0 : s₁.heap = h0 := by rw [← hh, Bd.state]; rfl
  have N0 := Fr.nil n0
  show Goes p e below (fun s₂ o => ∃ v L, o = .returned v ∧ Q2_4 Z a1 k1 y0 y1 y2 y3 p3 h0 n0 v s₂.heap L ∧ FrameEnd s o s₂ L ({ frames := 0, cells := 0, slots := 0, locals := 0 } : Room).cells ({ frames := 0, cells := 0, slots := 0, locals := 0 } : Room).slots) (s₁.setTop (entryFrame m #[(.ref a1), (.int (4 : Int32)), (.int p3)] 6))
  refine Goes.cast (ef_2_4 m a1 (4 : Int32) p3) ?_
  refine Goes.via (B := s₁.setTop (mkF m 1 #[.val (.ref a1), .val (.int (4 : Int32)), .val (.int p3), .unset, .unset, .unset] [(.int (0 : Int32))])) (fun t k => XS.iconst X0.here hx rfl (hb hby d2_0) k) ?_
  refine Goes.via (B := s₁.setTop (mkF m 2 #[.val (.ref a1), .val (.int (4 : Int32)), .val (.int p3), .val (.int (0 : Int32)), .unset, .unset] [])) (fun t k => XS.istoreN X0.here hx rfl (hb hby d2_1) rfl (l' := #[.val (.ref a1), .val (.int (4 : Int32)), .val (.int p3), .val (.int (0 : Int32)), .unset, .unset]) rfl k) ?_
  refine Goes.via (B := s₁.setTop (mkF m 3 #[.val (.ref a1), .val (.int (4 : Int32)), .val (.int p3), .val (.int (0 : Int32)), .unset, .unset] [(.int (4 : Int32))])) (fun t k => XS.iloadN X0.here hx rfl (hb hby d2_2) rfl k) ?_
  refine Goes.via (B := s₁.setTop (mkF m 5 #[.val (.ref a1), .val (.int (4 : Int32)), .val (.int p3), .val (.int (0 : Int32)), .val (.int (4 : Int32)), .unset] [])) (fun t k => XS.istore X0.here hx rfl (hb hby d2_3) rfl (l' := #[.val (.ref a1), .val (.int (4 : Int32)), .val (.int p3), .val (.int (0 : Int32)), .val (.int (4 : Int32)), .unset]) rfl k) ?_
  refine Goes.via (B := s₁.setTop (mkF m 6 #[.val (.ref a1), .val (.int (4 : Int32)), .val (.int p3), .val (.int (0 : Int32)), .val (.int (4 : Int32)), .unset] [(.int (0 : Int32))])) (fun t k => XS.iloadN X0.here hx rfl (hb hby d2_5) rfl k) ?_
  refine Goes.via (B := s₁.setTop (mkF m 8 #[.val (.ref a1), .val (.int (4 : Int32)), .val (.int p3), .val (.int (0 : Int32)), .val (.int (4 : Int32)), .unset] [(.int (4 : Int32)), (.int (0 : Int32))])) (fun t k => XS.iload X0.here hx rfl (hb hby d2_6) rfl k) ?_
  refine Goes.via (B := s₁.setTop (mkF m 11 #[.val (.ref a1), .val (.int (4 : Int32)), .val (.int p3), .val (.int (0 : Int32)), .val (.int (4 : Int32)), .unset] [])) (fun t k => XS.icmpNo X0.here hx rfl (hb hby d2_8) rfl (tlt (by decide : (0 : Int32) < (4 : Int32))).2.1 k) ?_
  refine Goes.via (B := s₁.setTop (mkF m 12 #[.val (.ref a1), .val (.int (4 : Int32)), .val (.int p3), .val (.int (0 : Int32)), .val (.int (4 : Int32)), .unset] [(.int (0 : Int32))])) (fun t k => XS.iloadN X0.here hx rfl (hb hby d2_11) rfl k) ?_
  refine Goes.via (B := s₁.setTop (mkF m 14 #[.val (.ref a1), .val (.int (4 : Int32)), .val (.int p3), .val (.int (0 : Int32)), .val (.int (4 : Int32)), .unset] [(.int (4 : Int32)), (.int (0 : Int32))])) (fun t k => XS.iload X0.here hx rfl (hb hby d2_12) rfl k) ?_
  refine Goes.via (B := s₁.setTop (mkF m 15 #[.val (.ref a1), .val (.int (4 : Int32)), .val (.int p3), .val (.int (0 : Int32)), .val (.int (4 : Int32)), .unset] [(.int (4 : Int32))])) (fun t k => XS.iadd X0.here hx rfl (hb hby d2_14) rfl k) ?_
  refine Goes.via (B := s₁.setTop (mkF m 16 #[.val (.ref a1), .val (.int (4 : Int32)), .val (.int p3), .val (.int (0 : Int32)), .val (.int (4 : Int32)), .unset] [(.int (1 : Int32)), (.int (4 : Int32))])) (fun t k => XS.iconst X0.here hx rfl (hb hby d2_15) k) ?_
  refine Goes.via (B := s₁.setTop (mkF m 17 #[.val (.ref a1), .val (.int (4 : Int32)), .val (.int p3), .val (.int (0 : Int32)), .val (.int (4 : Int32)), .unset] [(.int (2 : Int32))])) (fun t k => XS.iushr X0.here hx rfl (hb hby d2_16) rfl k) ?_
  refine Goes.via (B := s₁.setTop (mkF m 19 #[.val (.ref a1), .val (.int (4 : Int32)), .val (.int p3), .val (.int (0 : Int32)), .val (.int (4 : Int32)), .val (.int (2 : Int32))] [])) (fun t k => XS.istore X0.here hx rfl (hb hby d2_17) rfl (l' := #[.val (.ref a1), .val (.int (4 : Int32)), .val (.int p3), .val (.int (0 : Int32)), .val (.int (4 : Int32)), .val (.int (2 : Int32))]) rfl k) ?_
  refine Goes.via (B := s₁.setTop (mkF m 20 #[.val (.ref a1), .val (.int (4 : Int32)), .val (.int p3), .val (.int (0 : Int32)), .val (.int (4 : Int32)), .val (.int (2 : Int32))] [(.ref a1)])) (fun t k => XS.aloadN X0.here hx rfl (hb hby d2_19) rfl rfl k) ?_
  refine Goes.via (B := s₁.setTop (mkF m 22 #[.val (.ref a1), .val (.int (4 : Int32)), .val (.int p3), .val (.int (0 : Int32)), .val (.int (4 : Int32)), .val (.int (2 : Int32))] [(.int (2 : Int32)), (.ref a1)])) (fun t k => XS.iload X0.here hx rfl (hb hby d2_20) rfl k) ?_
  obtain ⟨cl1, Ar1, q1, S1, M1, H1, G1⟩ := V0
  have hin1 : ¬ ((2 : Int32) < 0 ∨ cl1.slots.size ≤ ((2 : Int32)).toNatClampNeg) := inb_of S1 ⟨by decide, by decide⟩
  have hat1 : cl1.slots[((2 : Int32)).toNatClampNeg]? = some (.int y2) := H1.at hin1 rfl
  refine Goes.via (B := s₁.setTop (mkF m 23 #[.val (.ref a1), .val (.int (4 : Int32)), .val (.int p3), .val (.int (0 : Int32)), .val (.int (4 : Int32)), .val (.int (2 : Int32))] [(.int y2)])) (fun t k => X0.iaload hx (j := (2 : Int32)) (v := (.int y2)) (by rw [e0]; exact Ar1.1) (State.isArrayOf_alike hZ.alike Ar1.2.1) Ar1.2.2 hin1 hat1 (g := (mkF m 22 #[.val (.ref a1), .val (.int (4 : Int32)), .val (.int p3), .val (.int (0 : Int32)), .val (.int (4 : Int32)), .val (.int (2 : Int32))] [(.int (2 : Int32)), (.ref a1)])) rfl rfl (hb hby d2_22) _ k) ?_
  refine Goes.via (B := s₁.setTop (mkF m 24 #[.val (.ref a1), .val (.int (4 : Int32)), .val (.int p3), .val (.int (0 : Int32)), .val (.int (4 : Int32)), .val (.int (2 : Int32))] [(.int p3), (.int y2)])) (fun t k => XS.iloadN X0.here hx rfl (hb hby d2_23) rfl k) ?_
  by_cases c24_2 : y2 < p3
  · refine Goes.via (B := s₁.setTop (mkF m 27 #[.val (.ref a1), .val (.int (4 : Int32)), .val (.int p3), .val (.int (0 : Int32)), .val (.int (4 : Int32)), .val (.int (2 : Int32))] [])) (fun t k => XS.icmpNo X0.here hx rfl (hb hby d2_24) rfl (tlt c24_2).2.1 k) ?_
    refine Goes.via (B := s₁.setTop (mkF m 29 #[.val (.ref a1), .val (.int (4 : Int32)), .val (.int p3), .val (.int (0 : Int32)), .val (.int (4 : Int32)), .val (.int (2 : Int32))] [(.int (2 : Int32))])) (fun t k => XS.iload X0.here hx rfl (hb hby d2_27) rfl k) ?_
    refine Goes.via (B := s₁.setTop (mkF m 30 #[.val (.ref a1), .val (.int (4 : Int32)), .val (.int p3), .val (.int (0 : Int32)), .val (.int (4 : Int32)), .val (.int (2 : Int32))] [(.int (1 : Int32)), (.int (2 : Int32))])) (fun t k => XS.iconst X0.here hx rfl (hb hby d2_29) k) ?_
    refine Goes.via (B := s₁.setTop (mkF m 31 #[.val (.ref a1), .val (.int (4 : Int32)), .val (.int p3), .val (.int (0 : Int32)), .val (.int (4 : Int32)), .val (.int (2 : Int32))] [(.int (3 : Int32))])) (fun t k => XS.iadd X0.here hx rfl (hb hby d2_30) rfl k) ?_
    refine Goes.via (B := s₁.setTop (mkF m 32 #[.val (.ref a1), .val (.int (4 : Int32)), .val (.int p3), .val (.int (3 : Int32)), .val (.int (4 : Int32)), .val (.int (2 : Int32))] [])) (fun t k => XS.istoreN X0.here hx rfl (hb hby d2_31) rfl (l' := #[.val (.ref a1), .val (.int (4 : Int32)), .val (.int p3), .val (.int (3 : Int32)), .val (.int (4 : Int32)), .val (.int (2 : Int32))]) rfl k) ?_
    refine Goes.via (B := s₁.setTop (mkF m 39 #[.val (.ref a1), .val (.int (4 : Int32)), .val (.int p3), .val (.int (3 : Int32)), .val (.int (4 : Int32)), .val (.int (2 : Int32))] [])) (fun t k => XS.goto X0.here hx rfl (pc0 := 32) (pc' := 39) rfl (hb hby d2_32) (by decide) (by decide) k) ?_
    refine Goes.via (B := s₁.setTop (mkF m 5 #[.val (.ref a1), .val (.int (4 : Int32)), .val (.int p3), .val (.int (3 : Int32)), .val (.int (4 : Int32)), .val (.int (2 : Int32))] [])) (fun t k => XS.goto X0.here hx rfl (pc0 := 39) (pc' := 5) rfl (hb hby d2_39) (by decide) (by decide) k) ?_
    refine Goes.via (B := s₁.setTop (mkF m 6 #[.val (.ref a1), .val (.int (4 : Int32)), .val (.int p3), .val (.int (3 : Int32)), .val (.int (4 : Int32)), .val (.int (2 : Int32))] [(.int (3 : Int32))])) (fun t k => XS.iloadN X0.here hx rfl (hb hby d2_5) rfl k) ?_
    refine Goes.via (B := s₁.setTop (mkF m 8 #[.val (.ref a1), .val (.int (4 : Int32)), .val (.int p3), .val (.int (3 : Int32)), .val (.int (4 : Int32)), .val (.int (2 : Int32))] [(.int (4 : Int32)), (.int (3 : Int32))])) (fun t k => XS.iload X0.here hx rfl (hb hby d2_6) rfl k) ?_
    refine Goes.via (B := s₁.setTop (mkF m 11 #[.val (.ref a1), .val (.int (4 : Int32)), .val (.int p3), .val (.int (3 : Int32)), .val (.int (4 : Int32)), .val (.int (2 : Int32))] [])) (fun t k => XS.icmpNo X0.here hx rfl (hb hby d2_8) rfl (tlt (by decide : (3 : Int32) < (4 : Int32))).2.1 k) ?_
    refine Goes.via (B := s₁.setTop (mkF m 12 #[.val (.ref a1), .val (.int (4 : Int32)), .val (.int p3), .val (.int (3 : Int32)), .val (.int (4 : Int32)), .val (.int (2 : Int32))] [(.int (3 : Int32))])) (fun t k => XS.iloadN X0.here hx rfl (hb hby d2_11) rfl k) ?_
    refine Goes.via (B := s₁.setTop (mkF m 14 #[.val (.ref a1), .val (.int (4 : Int32)), .val (.int p3), .val (.int (3 : Int32)), .val (.int (4 : Int32)), .val (.int (2 : Int32))] [(.int (4 : Int32)), (.int (3 : Int32))])) (fun t k => XS.iload X0.here hx rfl (hb hby d2_12) rfl k) ?_
    refine Goes.via (B := s₁.setTop (mkF m 15 #[.val (.ref a1), .val (.int (4 : Int32)), .val (.int p3), .val (.int (3 : Int32)), .val (.int (4 : Int32)), .val (.int (2 : Int32))] [(.int (7 : Int32))])) (fun t k => XS.iadd X0.here hx rfl (hb hby d2_14) rfl k) ?_
    refine Goes.via (B := s₁.setTop (mkF m 16 #[.val (.ref a1), .val (.int (4 : Int32)), .val (.int p3), .val (.int (3 : Int32)), .val (.int (4 : Int32)), .val (.int (2 : Int32))] [(.int (1 : Int32)), (.int (7 : Int32))])) (fun t k => XS.iconst X0.here hx rfl (hb hby d2_15) k) ?_
    refine Goes.via (B := s₁.setTop (mkF m 17 #[.val (.ref a1), .val (.int (4 : Int32)), .val (.int p3), .val (.int (3 : Int32)), .val (.int (4 : Int32)), .val (.int (2 : Int32))] [(.int (3 : Int32))])) (fun t k => XS.iushr X0.here hx rfl (hb hby d2_16) rfl k) ?_
    refine Goes.via (B := s₁.setTop (mkF m 19 #[.val (.ref a1), .val (.int (4 : Int32)), .val (.int p3), .val (.int (3 : Int32)), .val (.int (4 : Int32)), .val (.int (3 : Int32))] [])) (fun t k => XS.istore X0.here hx rfl (hb hby d2_17) rfl (l' := #[.val (.ref a1), .val (.int (4 : Int32)), .val (.int p3), .val (.int (3 : Int32)), .val (.int (4 : Int32)), .val (.int (3 : Int32))]) rfl k) ?_
    refine Goes.via (B := s₁.setTop (mkF m 20 #[.val (.ref a1), .val (.int (4 : Int32)), .val (.int p3), .val (.int (3 : Int32)), .val (.int (4 : Int32)), .val (.int (3 : Int32))] [(.ref a1)])) (fun t k => XS.aloadN X0.here hx rfl (hb hby d2_19) rfl rfl k) ?_
    refine Goes.via (B := s₁.setTop (mkF m 22 #[.val (.ref a1), .val (.int (4 : Int32)), .val (.int p3), .val (.int (3 : Int32)), .val (.int (4 : Int32)), .val (.int (3 : Int32))] [(.int (3 : Int32)), (.ref a1)])) (fun t k => XS.iload X0.here hx rfl (hb hby d2_20) rfl k) ?_
    obtain ⟨cl3, Ar3, q3, S3, M3, H3, G3⟩ := (⟨cl1, Ar1, q1, S1, M1, H1, G1⟩ : Arv Z h0 a1 k1 .int (4 : Int32) [(.int y0), (.int y1), (.int y2), (.int y3)] (.int (0 : Int32)))
    have hin3 : ¬ ((3 : Int32) < 0 ∨ cl3.slots.size ≤ ((3 : Int32)).toNatClampNeg) := inb_of S3 ⟨by decide, by decide⟩
    have hat3 : cl3.slots[((3 : Int32)).toNatClampNeg]? = some (.int y3) := H3.at hin3 rfl
    refine Goes.via (B := s₁.setTop (mkF m 23 #[.val (.ref a1), .val (.int (4 : Int32)), .val (.int p3), .val (.int (3 : Int32)), .val (.int (4 : Int32)), .val (.int (3 : Int32))] [(.int y3)])) (fun t k => X0.iaload hx (j := (3 : Int32)) (v := (.int y3)) (by rw [e0]; exact Ar3.1) (State.isArrayOf_alike hZ.alike Ar3.2.1) Ar3.2.2 hin3 hat3 (g := (mkF m 22 #[.val (.ref a1), .val (.int (4 : Int32)), .val (.int p3), .val (.int (3 : Int32)), .val (.int (4 : Int32)), .val (.int (3 : Int32))] [(.int (3 : Int32)), (.ref a1)])) rfl rfl (hb hby d2_22) _ k) ?_
    refine Goes.via (B := s₁.setTop (mkF m 24 #[.val (.ref a1), .val (.int (4 : Int32)), .val (.int p3), .val (.int (3 : Int32)), .val (.int (4 : Int32)), .val (.int (3 : Int32))] [(.int p3), (.int y3)])) (fun t k => XS.iloadN X0.here hx rfl (hb hby d2_23) rfl k) ?_
    by_cases c24_4 : y3 < p3
    · refine Goes.via (B := s₁.setTop (mkF m 27 #[.val (.ref a1), .val (.int (4 : Int32)), .val (.int p3), .val (.int (3 : Int32)), .val (.int (4 : Int32)), .val (.int (3 : Int32))] [])) (fun t k => XS.icmpNo X0.here hx rfl (hb hby d2_24) rfl (tlt c24_4).2.1 k) ?_
      refine Goes.via (B := s₁.setTop (mkF m 29 #[.val (.ref a1), .val (.int (4 : Int32)), .val (.int p3), .val (.int (3 : Int32)), .val (.int (4 : Int32)), .val (.int (3 : Int32))] [(.int (3 : Int32))])) (fun t k => XS.iload X0.here hx rfl (hb hby d2_27) rfl k) ?_
      refine Goes.via (B := s₁.setTop (mkF m 30 #[.val (.ref a1), .val (.int (4 : Int32)), .val (.int p3), .val (.int (3 : Int32)), .val (.int (4 : Int32)), .val (.int (3 : Int32))] [(.int (1 : Int32)), (.int (3 : Int32))])) (fun t k => XS.iconst X0.here hx rfl (hb hby d2_29) k) ?_
      refine Goes.via (B := s₁.setTop (mkF m 31 #[.val (.ref a1), .val (.int (4 : Int32)), .val (.int p3), .val (.int (3 : Int32)), .val (.int (4 : Int32)), .val (.int (3 : Int32))] [(.int (4 : Int32))])) (fun t k => XS.iadd X0.here hx rfl (hb hby d2_30) rfl k) ?_
      refine Goes.via (B := s₁.setTop (mkF m 32 #[.val (.ref a1), .val (.int (4 : Int32)), .val (.int p3), .val (.int (4 : Int32)), .val (.int (4 : Int32)), .val (.int (3 : Int32))] [])) (fun t k => XS.istoreN X0.here hx rfl (hb hby d2_31) rfl (l' := #[.val (.ref a1), .val (.int (4 : Int32)), .val (.int p3), .val (.int (4 : Int32)), .val (.int (4 : Int32)), .val (.int (3 : Int32))]) rfl k) ?_
      refine Goes.via (B := s₁.setTop (mkF m 39 #[.val (.ref a1), .val (.int (4 : Int32)), .val (.int p3), .val (.int (4 : Int32)), .val (.int (4 : Int32)), .val (.int (3 : Int32))] [])) (fun t k => XS.goto X0.here hx rfl (pc0 := 32) (pc' := 39) rfl (hb hby d2_32) (by decide) (by decide) k) ?_
      refine Goes.via (B := s₁.setTop (mkF m 5 #[.val (.ref a1), .val (.int (4 : Int32)), .val (.int p3), .val (.int (4 : Int32)), .val (.int (4 : Int32)), .val (.int (3 : Int32))] [])) (fun t k => XS.goto X0.here hx rfl (pc0 := 39) (pc' := 5) rfl (hb hby d2_39) (by decide) (by decide) k) ?_
      refine Goes.via (B := s₁.setTop (mkF m 6 #[.val (.ref a1), .val (.int (4 : Int32)), .val (.int p3), .val (.int (4 : Int32)), .val (.int (4 : Int32)), .val (.int (3 : Int32))] [(.int (4 : Int32))])) (fun t k => XS.iloadN X0.here hx rfl (hb hby d2_5) rfl k) ?_
      refine Goes.via (B := s₁.setTop (mkF m 8 #[.val (.ref a1), .val (.int (4 : Int32)), .val (.int p3), .val (.int (4 : Int32)), .val (.int (4 : Int32)), .val (.int (3 : Int32))] [(.int (4 : Int32)), (.int (4 : Int32))])) (fun t k => XS.iload X0.here hx rfl (hb hby d2_6) rfl k) ?_
      refine Goes.via (B := s₁.setTop (mkF m 42 #[.val (.ref a1), .val (.int (4 : Int32)), .val (.int p3), .val (.int (4 : Int32)), .val (.int (4 : Int32)), .val (.int (3 : Int32))] [])) (fun t k => XS.icmpYes X0.here hx rfl (pc0 := 8) (pc' := 42) rfl (hb hby d2_8) rfl (flt (by decide : ¬ (4 : Int32) < (4 : Int32))).2.1 (by decide) (by decide) k) ?_
      refine Goes.via (B := s₁.setTop (mkF m 43 #[.val (.ref a1), .val (.int (4 : Int32)), .val (.int p3), .val (.int (4 : Int32)), .val (.int (4 : Int32)), .val (.int (3 : Int32))] [(.int (4 : Int32))])) (fun t k => XS.iloadN X0.here hx rfl (hb hby d2_42) rfl k) ?_
      have hv : own_b4 y0 y1 y2 y3 p3 = (4 : Int32) := by rw [own_b4, if_pos c24_2, if_pos c24_4]
      exact own_out X0 (v := some (.int (4 : Int32))) (fun h => by rw [Bd.returns] at h; cases h) Bd.notSynchronized (fun fs hr => retOut X0 hx Bd.returns rfl (Or.inl ⟨rfl, Or.inl rfl, _, rfl⟩) (hb hby d2_43) hr) ⟨by rw [hv], N0, e0⟩ (by decide) (by decide)
    · refine Goes.via (B := s₁.setTop (mkF m 35 #[.val (.ref a1), .val (.int (4 : Int32)), .val (.int p3), .val (.int (3 : Int32)), .val (.int (4 : Int32)), .val (.int (3 : Int32))] [])) (fun t k => XS.icmpYes X0.here hx rfl (pc0 := 24) (pc' := 35) rfl (hb hby d2_24) rfl (flt c24_4).2.1 (by decide) (by decide) k) ?_
      refine Goes.via (B := s₁.setTop (mkF m 37 #[.val (.ref a1), .val (.int (4 : Int32)), .val (.int p3), .val (.int (3 : Int32)), .val (.int (4 : Int32)), .val (.int (3 : Int32))] [(.int (3 : Int32))])) (fun t k => XS.iload X0.here hx rfl (hb hby d2_35) rfl k) ?_
      refine Goes.via (B := s₁.setTop (mkF m 39 #[.val (.ref a1), .val (.int (4 : Int32)), .val (.int p3), .val (.int (3 : Int32)), .val (.int (3 : Int32)), .val (.int (3 : Int32))] [])) (fun t k => XS.istore X0.here hx rfl (hb hby d2_37) rfl (l' := #[.val (.ref a1), .val (.int (4 : Int32)), .val (.int p3), .val (.int (3 : Int32)), .val (.int (3 : Int32)), .val (.int (3 : Int32))]) rfl k) ?_
      refine Goes.via (B := s₁.setTop (mkF m 5 #[.val (.ref a1), .val (.int (4 : Int32)), .val (.int p3), .val (.int (3 : Int32)), .val (.int (3 : Int32)), .val (.int (3 : Int32))] [])) (fun t k => XS.goto X0.here hx rfl (pc0 := 39) (pc' := 5) rfl (hb hby d2_39) (by decide) (by decide) k) ?_
      refine Goes.via (B := s₁.setTop (mkF m 6 #[.val (.ref a1), .val (.int (4 : Int32)), .val (.int p3), .val (.int (3 : Int32)), .val (.int (3 : Int32)), .val (.int (3 : Int32))] [(.int (3 : Int32))])) (fun t k => XS.iloadN X0.here hx rfl (hb hby d2_5) rfl k) ?_
      refine Goes.via (B := s₁.setTop (mkF m 8 #[.val (.ref a1), .val (.int (4 : Int32)), .val (.int p3), .val (.int (3 : Int32)), .val (.int (3 : Int32)), .val (.int (3 : Int32))] [(.int (3 : Int32)), (.int (3 : Int32))])) (fun t k => XS.iload X0.here hx rfl (hb hby d2_6) rfl k) ?_
      refine Goes.via (B := s₁.setTop (mkF m 42 #[.val (.ref a1), .val (.int (4 : Int32)), .val (.int p3), .val (.int (3 : Int32)), .val (.int (3 : Int32)), .val (.int (3 : Int32))] [])) (fun t k => XS.icmpYes X0.here hx rfl (pc0 := 8) (pc' := 42) rfl (hb hby d2_8) rfl (flt (by decide : ¬ (3 : Int32) < (3 : Int32))).2.1 (by decide) (by decide) k) ?_
      refine Goes.via (B := s₁.setTop (mkF m 43 #[.val (.ref a1), .val (.int (4 : Int32)), .val (.int p3), .val (.int (3 : Int32)), .val (.int (3 : Int32)), .val (.int (3 : Int32))] [(.int (3 : Int32))])) (fun t k => XS.iloadN X0.here hx rfl (hb hby d2_42) rfl k) ?_
      have hv : own_b4 y0 y1 y2 y3 p3 = (3 : Int32) := by rw [own_b4, if_pos c24_2, if_neg c24_4]
      exact own_out X0 (v := some (.int (3 : Int32))) (fun h => by rw [Bd.returns] at h; cases h) Bd.notSynchronized (fun fs hr => retOut X0 hx Bd.returns rfl (Or.inl ⟨rfl, Or.inl rfl, _, rfl⟩) (hb hby d2_43) hr) ⟨by rw [hv], N0, e0⟩ (by decide) (by decide)
  · refine Goes.via (B := s₁.setTop (mkF m 35 #[.val (.ref a1), .val (.int (4 : Int32)), .val (.int p3), .val (.int (0 : Int32)), .val (.int (4 : Int32)), .val (.int (2 : Int32))] [])) (fun t k => XS.icmpYes X0.here hx rfl (pc0 := 24) (pc' := 35) rfl (hb hby d2_24) rfl (flt c24_2).2.1 (by decide) (by decide) k) ?_
    refine Goes.via (B := s₁.setTop (mkF m 37 #[.val (.ref a1), .val (.int (4 : Int32)), .val (.int p3), .val (.int (0 : Int32)), .val (.int (4 : Int32)), .val (.int (2 : Int32))] [(.int (2 : Int32))])) (fun t k => XS.iload X0.here hx rfl (hb hby d2_35) rfl k) ?_
    refine Goes.via (B := s₁.setTop (mkF m 39 #[.val (.ref a1), .val (.int (4 : Int32)), .val (.int p3), .val (.int (0 : Int32)), .val (.int (2 : Int32)), .val (.int (2 : Int32))] [])) (fun t k => XS.istore X0.here hx rfl (hb hby d2_37) rfl (l' := #[.val (.ref a1), .val (.int (4 : Int32)), .val (.int p3), .val (.int (0 : Int32)), .val (.int (2 : Int32)), .val (.int (2 : Int32))]) rfl k) ?_
    refine Goes.via (B := s₁.setTop (mkF m 5 #[.val (.ref a1), .val (.int (4 : Int32)), .val (.int p3), .val (.int (0 : Int32)), .val (.int (2 : Int32)), .val (.int (2 : Int32))] [])) (fun t k => XS.goto X0.here hx rfl (pc0 := 39) (pc' := 5) rfl (hb hby d2_39) (by decide) (by decide) k) ?_
    refine Goes.via (B := s₁.setTop (mkF m 6 #[.val (.ref a1), .val (.int (4 : Int32)), .val (.int p3), .val (.int (0 : Int32)), .val (.int (2 : Int32)), .val (.int (2 : Int32))] [(.int (0 : Int32))])) (fun t k => XS.iloadN X0.here hx rfl (hb hby d2_5) rfl k) ?_
    refine Goes.via (B := s₁.setTop (mkF m 8 #[.val (.ref a1), .val (.int (4 : Int32)), .val (.int p3), .val (.int (0 : Int32)), .val (.int (2 : Int32)), .val (.int (2 : Int32))] [(.int (2 : Int32)), (.int (0 : Int32))])) (fun t k => XS.iload X0.here hx rfl (hb hby d2_6) rfl k) ?_
    refine Goes.via (B := s₁.setTop (mkF m 11 #[.val (.ref a1), .val (.int (4 : Int32)), .val (.int p3), .val (.int (0 : Int32)), .val (.int (2 : Int32)), .val (.int (2 : Int32))] [])) (fun t k => XS.icmpNo X0.here hx rfl (hb hby d2_8) rfl (tlt (by decide : (0 : Int32) < (2 : Int32))).2.1 k) ?_
    refine Goes.via (B := s₁.setTop (mkF m 12 #[.val (.ref a1), .val (.int (4 : Int32)), .val (.int p3), .val (.int (0 : Int32)), .val (.int (2 : Int32)), .val (.int (2 : Int32))] [(.int (0 : Int32))])) (fun t k => XS.iloadN X0.here hx rfl (hb hby d2_11) rfl k) ?_
    refine Goes.via (B := s₁.setTop (mkF m 14 #[.val (.ref a1), .val (.int (4 : Int32)), .val (.int p3), .val (.int (0 : Int32)), .val (.int (2 : Int32)), .val (.int (2 : Int32))] [(.int (2 : Int32)), (.int (0 : Int32))])) (fun t k => XS.iload X0.here hx rfl (hb hby d2_12) rfl k) ?_
    refine Goes.via (B := s₁.setTop (mkF m 15 #[.val (.ref a1), .val (.int (4 : Int32)), .val (.int p3), .val (.int (0 : Int32)), .val (.int (2 : Int32)), .val (.int (2 : Int32))] [(.int (2 : Int32))])) (fun t k => XS.iadd X0.here hx rfl (hb hby d2_14) rfl k) ?_
    refine Goes.via (B := s₁.setTop (mkF m 16 #[.val (.ref a1), .val (.int (4 : Int32)), .val (.int p3), .val (.int (0 : Int32)), .val (.int (2 : Int32)), .val (.int (2 : Int32))] [(.int (1 : Int32)), (.int (2 : Int32))])) (fun t k => XS.iconst X0.here hx rfl (hb hby d2_15) k) ?_
    refine Goes.via (B := s₁.setTop (mkF m 17 #[.val (.ref a1), .val (.int (4 : Int32)), .val (.int p3), .val (.int (0 : Int32)), .val (.int (2 : Int32)), .val (.int (2 : Int32))] [(.int (1 : Int32))])) (fun t k => XS.iushr X0.here hx rfl (hb hby d2_16) rfl k) ?_
    refine Goes.via (B := s₁.setTop (mkF m 19 #[.val (.ref a1), .val (.int (4 : Int32)), .val (.int p3), .val (.int (0 : Int32)), .val (.int (2 : Int32)), .val (.int (1 : Int32))] [])) (fun t k => XS.istore X0.here hx rfl (hb hby d2_17) rfl (l' := #[.val (.ref a1), .val (.int (4 : Int32)), .val (.int p3), .val (.int (0 : Int32)), .val (.int (2 : Int32)), .val (.int (1 : Int32))]) rfl k) ?_
    refine Goes.via (B := s₁.setTop (mkF m 20 #[.val (.ref a1), .val (.int (4 : Int32)), .val (.int p3), .val (.int (0 : Int32)), .val (.int (2 : Int32)), .val (.int (1 : Int32))] [(.ref a1)])) (fun t k => XS.aloadN X0.here hx rfl (hb hby d2_19) rfl rfl k) ?_
    refine Goes.via (B := s₁.setTop (mkF m 22 #[.val (.ref a1), .val (.int (4 : Int32)), .val (.int p3), .val (.int (0 : Int32)), .val (.int (2 : Int32)), .val (.int (1 : Int32))] [(.int (1 : Int32)), (.ref a1)])) (fun t k => XS.iload X0.here hx rfl (hb hby d2_20) rfl k) ?_
    obtain ⟨cl5, Ar5, q5, S5, M5, H5, G5⟩ := (⟨cl1, Ar1, q1, S1, M1, H1, G1⟩ : Arv Z h0 a1 k1 .int (4 : Int32) [(.int y0), (.int y1), (.int y2), (.int y3)] (.int (0 : Int32)))
    have hin5 : ¬ ((1 : Int32) < 0 ∨ cl5.slots.size ≤ ((1 : Int32)).toNatClampNeg) := inb_of S5 ⟨by decide, by decide⟩
    have hat5 : cl5.slots[((1 : Int32)).toNatClampNeg]? = some (.int y1) := H5.at hin5 rfl
    refine Goes.via (B := s₁.setTop (mkF m 23 #[.val (.ref a1), .val (.int (4 : Int32)), .val (.int p3), .val (.int (0 : Int32)), .val (.int (2 : Int32)), .val (.int (1 : Int32))] [(.int y1)])) (fun t k => X0.iaload hx (j := (1 : Int32)) (v := (.int y1)) (by rw [e0]; exact Ar5.1) (State.isArrayOf_alike hZ.alike Ar5.2.1) Ar5.2.2 hin5 hat5 (g := (mkF m 22 #[.val (.ref a1), .val (.int (4 : Int32)), .val (.int p3), .val (.int (0 : Int32)), .val (.int (2 : Int32)), .val (.int (1 : Int32))] [(.int (1 : Int32)), (.ref a1)])) rfl rfl (hb hby d2_22) _ k) ?_
    refine Goes.via (B := s₁.setTop (mkF m 24 #[.val (.ref a1), .val (.int (4 : Int32)), .val (.int p3), .val (.int (0 : Int32)), .val (.int (2 : Int32)), .val (.int (1 : Int32))] [(.int p3), (.int y1)])) (fun t k => XS.iloadN X0.here hx rfl (hb hby d2_23) rfl k) ?_
    by_cases c24_6 : y1 < p3
    · refine Goes.via (B := s₁.setTop (mkF m 27 #[.val (.ref a1), .val (.int (4 : Int32)), .val (.int p3), .val (.int (0 : Int32)), .val (.int (2 : Int32)), .val (.int (1 : Int32))] [])) (fun t k => XS.icmpNo X0.here hx rfl (hb hby d2_24) rfl (tlt c24_6).2.1 k) ?_
      refine Goes.via (B := s₁.setTop (mkF m 29 #[.val (.ref a1), .val (.int (4 : Int32)), .val (.int p3), .val (.int (0 : Int32)), .val (.int (2 : Int32)), .val (.int (1 : Int32))] [(.int (1 : Int32))])) (fun t k => XS.iload X0.here hx rfl (hb hby d2_27) rfl k) ?_
      refine Goes.via (B := s₁.setTop (mkF m 30 #[.val (.ref a1), .val (.int (4 : Int32)), .val (.int p3), .val (.int (0 : Int32)), .val (.int (2 : Int32)), .val (.int (1 : Int32))] [(.int (1 : Int32)), (.int (1 : Int32))])) (fun t k => XS.iconst X0.here hx rfl (hb hby d2_29) k) ?_
      refine Goes.via (B := s₁.setTop (mkF m 31 #[.val (.ref a1), .val (.int (4 : Int32)), .val (.int p3), .val (.int (0 : Int32)), .val (.int (2 : Int32)), .val (.int (1 : Int32))] [(.int (2 : Int32))])) (fun t k => XS.iadd X0.here hx rfl (hb hby d2_30) rfl k) ?_
      refine Goes.via (B := s₁.setTop (mkF m 32 #[.val (.ref a1), .val (.int (4 : Int32)), .val (.int p3), .val (.int (2 : Int32)), .val (.int (2 : Int32)), .val (.int (1 : Int32))] [])) (fun t k => XS.istoreN X0.here hx rfl (hb hby d2_31) rfl (l' := #[.val (.ref a1), .val (.int (4 : Int32)), .val (.int p3), .val (.int (2 : Int32)), .val (.int (2 : Int32)), .val (.int (1 : Int32))]) rfl k) ?_
      refine Goes.via (B := s₁.setTop (mkF m 39 #[.val (.ref a1), .val (.int (4 : Int32)), .val (.int p3), .val (.int (2 : Int32)), .val (.int (2 : Int32)), .val (.int (1 : Int32))] [])) (fun t k => XS.goto X0.here hx rfl (pc0 := 32) (pc' := 39) rfl (hb hby d2_32) (by decide) (by decide) k) ?_
      refine Goes.via (B := s₁.setTop (mkF m 5 #[.val (.ref a1), .val (.int (4 : Int32)), .val (.int p3), .val (.int (2 : Int32)), .val (.int (2 : Int32)), .val (.int (1 : Int32))] [])) (fun t k => XS.goto X0.here hx rfl (pc0 := 39) (pc' := 5) rfl (hb hby d2_39) (by decide) (by decide) k) ?_
      refine Goes.via (B := s₁.setTop (mkF m 6 #[.val (.ref a1), .val (.int (4 : Int32)), .val (.int p3), .val (.int (2 : Int32)), .val (.int (2 : Int32)), .val (.int (1 : Int32))] [(.int (2 : Int32))])) (fun t k => XS.iloadN X0.here hx rfl (hb hby d2_5) rfl k) ?_
      refine Goes.via (B := s₁.setTop (mkF m 8 #[.val (.ref a1), .val (.int (4 : Int32)), .val (.int p3), .val (.int (2 : Int32)), .val (.int (2 : Int32)), .val (.int (1 : Int32))] [(.int (2 : Int32)), (.int (2 : Int32))])) (fun t k => XS.iload X0.here hx rfl (hb hby d2_6) rfl k) ?_
      refine Goes.via (B := s₁.setTop (mkF m 42 #[.val (.ref a1), .val (.int (4 : Int32)), .val (.int p3), .val (.int (2 : Int32)), .val (.int (2 : Int32)), .val (.int (1 : Int32))] [])) (fun t k => XS.icmpYes X0.here hx rfl (pc0 := 8) (pc' := 42) rfl (hb hby d2_8) rfl (flt (by decide : ¬ (2 : Int32) < (2 : Int32))).2.1 (by decide) (by decide) k) ?_
      refine Goes.via (B := s₁.setTop (mkF m 43 #[.val (.ref a1), .val (.int (4 : Int32)), .val (.int p3), .val (.int (2 : Int32)), .val (.int (2 : Int32)), .val (.int (1 : Int32))] [(.int (2 : Int32))])) (fun t k => XS.iloadN X0.here hx rfl (hb hby d2_42) rfl k) ?_
      have hv : own_b4 y0 y1 y2 y3 p3 = (2 : Int32) := by rw [own_b4, if_neg c24_2, if_pos c24_6]
      exact own_out X0 (v := some (.int (2 : Int32))) (fun h => by rw [Bd.returns] at h; cases h) Bd.notSynchronized (fun fs hr => retOut X0 hx Bd.returns rfl (Or.inl ⟨rfl, Or.inl rfl, _, rfl⟩) (hb hby d2_43) hr) ⟨by rw [hv], N0, e0⟩ (by decide) (by decide)
    · refine Goes.via (B := s₁.setTop (mkF m 35 #[.val (.ref a1), .val (.int (4 : Int32)), .val (.int p3), .val (.int (0 : Int32)), .val (.int (2 : Int32)), .val (.int (1 : Int32))] [])) (fun t k => XS.icmpYes X0.here hx rfl (pc0 := 24) (pc' := 35) rfl (hb hby d2_24) rfl (flt c24_6).2.1 (by decide) (by decide) k) ?_
      refine Goes.via (B := s₁.setTop (mkF m 37 #[.val (.ref a1), .val (.int (4 : Int32)), .val (.int p3), .val (.int (0 : Int32)), .val (.int (2 : Int32)), .val (.int (1 : Int32))] [(.int (1 : Int32))])) (fun t k => XS.iload X0.here hx rfl (hb hby d2_35) rfl k) ?_
      refine Goes.via (B := s₁.setTop (mkF m 39 #[.val (.ref a1), .val (.int (4 : Int32)), .val (.int p3), .val (.int (0 : Int32)), .val (.int (1 : Int32)), .val (.int (1 : Int32))] [])) (fun t k => XS.istore X0.here hx rfl (hb hby d2_37) rfl (l' := #[.val (.ref a1), .val (.int (4 : Int32)), .val (.int p3), .val (.int (0 : Int32)), .val (.int (1 : Int32)), .val (.int (1 : Int32))]) rfl k) ?_
      refine Goes.via (B := s₁.setTop (mkF m 5 #[.val (.ref a1), .val (.int (4 : Int32)), .val (.int p3), .val (.int (0 : Int32)), .val (.int (1 : Int32)), .val (.int (1 : Int32))] [])) (fun t k => XS.goto X0.here hx rfl (pc0 := 39) (pc' := 5) rfl (hb hby d2_39) (by decide) (by decide) k) ?_
      refine Goes.via (B := s₁.setTop (mkF m 6 #[.val (.ref a1), .val (.int (4 : Int32)), .val (.int p3), .val (.int (0 : Int32)), .val (.int (1 : Int32)), .val (.int (1 : Int32))] [(.int (0 : Int32))])) (fun t k => XS.iloadN X0.here hx rfl (hb hby d2_5) rfl k) ?_
      refine Goes.via (B := s₁.setTop (mkF m 8 #[.val (.ref a1), .val (.int (4 : Int32)), .val (.int p3), .val (.int (0 : Int32)), .val (.int (1 : Int32)), .val (.int (1 : Int32))] [(.int (1 : Int32)), (.int (0 : Int32))])) (fun t k => XS.iload X0.here hx rfl (hb hby d2_6) rfl k) ?_
      refine Goes.via (B := s₁.setTop (mkF m 11 #[.val (.ref a1), .val (.int (4 : Int32)), .val (.int p3), .val (.int (0 : Int32)), .val (.int (1 : Int32)), .val (.int (1 : Int32))] [])) (fun t k => XS.icmpNo X0.here hx rfl (hb hby d2_8) rfl (tlt (by decide : (0 : Int32) < (1 : Int32))).2.1 k) ?_
      refine Goes.via (B := s₁.setTop (mkF m 12 #[.val (.ref a1), .val (.int (4 : Int32)), .val (.int p3), .val (.int (0 : Int32)), .val (.int (1 : Int32)), .val (.int (1 : Int32))] [(.int (0 : Int32))])) (fun t k => XS.iloadN X0.here hx rfl (hb hby d2_11) rfl k) ?_
      refine Goes.via (B := s₁.setTop (mkF m 14 #[.val (.ref a1), .val (.int (4 : Int32)), .val (.int p3), .val (.int (0 : Int32)), .val (.int (1 : Int32)), .val (.int (1 : Int32))] [(.int (1 : Int32)), (.int (0 : Int32))])) (fun t k => XS.iload X0.here hx rfl (hb hby d2_12) rfl k) ?_
      refine Goes.via (B := s₁.setTop (mkF m 15 #[.val (.ref a1), .val (.int (4 : Int32)), .val (.int p3), .val (.int (0 : Int32)), .val (.int (1 : Int32)), .val (.int (1 : Int32))] [(.int (1 : Int32))])) (fun t k => XS.iadd X0.here hx rfl (hb hby d2_14) rfl k) ?_
      refine Goes.via (B := s₁.setTop (mkF m 16 #[.val (.ref a1), .val (.int (4 : Int32)), .val (.int p3), .val (.int (0 : Int32)), .val (.int (1 : Int32)), .val (.int (1 : Int32))] [(.int (1 : Int32)), (.int (1 : Int32))])) (fun t k => XS.iconst X0.here hx rfl (hb hby d2_15) k) ?_
      refine Goes.via (B := s₁.setTop (mkF m 17 #[.val (.ref a1), .val (.int (4 : Int32)), .val (.int p3), .val (.int (0 : Int32)), .val (.int (1 : Int32)), .val (.int (1 : Int32))] [(.int (0 : Int32))])) (fun t k => XS.iushr X0.here hx rfl (hb hby d2_16) rfl k) ?_
      refine Goes.via (B := s₁.setTop (mkF m 19 #[.val (.ref a1), .val (.int (4 : Int32)), .val (.int p3), .val (.int (0 : Int32)), .val (.int (1 : Int32)), .val (.int (0 : Int32))] [])) (fun t k => XS.istore X0.here hx rfl (hb hby d2_17) rfl (l' := #[.val (.ref a1), .val (.int (4 : Int32)), .val (.int p3), .val (.int (0 : Int32)), .val (.int (1 : Int32)), .val (.int (0 : Int32))]) rfl k) ?_
      refine Goes.via (B := s₁.setTop (mkF m 20 #[.val (.ref a1), .val (.int (4 : Int32)), .val (.int p3), .val (.int (0 : Int32)), .val (.int (1 : Int32)), .val (.int (0 : Int32))] [(.ref a1)])) (fun t k => XS.aloadN X0.here hx rfl (hb hby d2_19) rfl rfl k) ?_
      refine Goes.via (B := s₁.setTop (mkF m 22 #[.val (.ref a1), .val (.int (4 : Int32)), .val (.int p3), .val (.int (0 : Int32)), .val (.int (1 : Int32)), .val (.int (0 : Int32))] [(.int (0 : Int32)), (.ref a1)])) (fun t k => XS.iload X0.here hx rfl (hb hby d2_20) rfl k) ?_
      obtain ⟨cl7, Ar7, q7, S7, M7, H7, G7⟩ := (⟨cl5, Ar5, q5, S5, M5, H5, G5⟩ : Arv Z h0 a1 k1 .int (4 : Int32) [(.int y0), (.int y1), (.int y2), (.int y3)] (.int (0 : Int32)))
      have hin7 : ¬ ((0 : Int32) < 0 ∨ cl7.slots.size ≤ ((0 : Int32)).toNatClampNeg) := inb_of S7 ⟨by decide, by decide⟩
      have hat7 : cl7.slots[((0 : Int32)).toNatClampNeg]? = some (.int y0) := H7.at hin7 rfl
      refine Goes.via (B := s₁.setTop (mkF m 23 #[.val (.ref a1), .val (.int (4 : Int32)), .val (.int p3), .val (.int (0 : Int32)), .val (.int (1 : Int32)), .val (.int (0 : Int32))] [(.int y0)])) (fun t k => X0.iaload hx (j := (0 : Int32)) (v := (.int y0)) (by rw [e0]; exact Ar7.1) (State.isArrayOf_alike hZ.alike Ar7.2.1) Ar7.2.2 hin7 hat7 (g := (mkF m 22 #[.val (.ref a1), .val (.int (4 : Int32)), .val (.int p3), .val (.int (0 : Int32)), .val (.int (1 : Int32)), .val (.int (0 : Int32))] [(.int (0 : Int32)), (.ref a1)])) rfl rfl (hb hby d2_22) _ k) ?_
      refine Goes.via (B := s₁.setTop (mkF m 24 #[.val (.ref a1), .val (.int (4 : Int32)), .val (.int p3), .val (.int (0 : Int32)), .val (.int (1 : Int32)), .val (.int (0 : Int32))] [(.int p3), (.int y0)])) (fun t k => XS.iloadN X0.here hx rfl (hb hby d2_23) rfl k) ?_
      by_cases c24_8 : y0 < p3
      · refine Goes.via (B := s₁.setTop (mkF m 27 #[.val (.ref a1), .val (.int (4 : Int32)), .val (.int p3), .val (.int (0 : Int32)), .val (.int (1 : Int32)), .val (.int (0 : Int32))] [])) (fun t k => XS.icmpNo X0.here hx rfl (hb hby d2_24) rfl (tlt c24_8).2.1 k) ?_
        refine Goes.via (B := s₁.setTop (mkF m 29 #[.val (.ref a1), .val (.int (4 : Int32)), .val (.int p3), .val (.int (0 : Int32)), .val (.int (1 : Int32)), .val (.int (0 : Int32))] [(.int (0 : Int32))])) (fun t k => XS.iload X0.here hx rfl (hb hby d2_27) rfl k) ?_
        refine Goes.via (B := s₁.setTop (mkF m 30 #[.val (.ref a1), .val (.int (4 : Int32)), .val (.int p3), .val (.int (0 : Int32)), .val (.int (1 : Int32)), .val (.int (0 : Int32))] [(.int (1 : Int32)), (.int (0 : Int32))])) (fun t k => XS.iconst X0.here hx rfl (hb hby d2_29) k) ?_
        refine Goes.via (B := s₁.setTop (mkF m 31 #[.val (.ref a1), .val (.int (4 : Int32)), .val (.int p3), .val (.int (0 : Int32)), .val (.int (1 : Int32)), .val (.int (0 : Int32))] [(.int (1 : Int32))])) (fun t k => XS.iadd X0.here hx rfl (hb hby d2_30) rfl k) ?_
        refine Goes.via (B := s₁.setTop (mkF m 32 #[.val (.ref a1), .val (.int (4 : Int32)), .val (.int p3), .val (.int (1 : Int32)), .val (.int (1 : Int32)), .val (.int (0 : Int32))] [])) (fun t k => XS.istoreN X0.here hx rfl (hb hby d2_31) rfl (l' := #[.val (.ref a1), .val (.int (4 : Int32)), .val (.int p3), .val (.int (1 : Int32)), .val (.int (1 : Int32)), .val (.int (0 : Int32))]) rfl k) ?_
        refine Goes.via (B := s₁.setTop (mkF m 39 #[.val (.ref a1), .val (.int (4 : Int32)), .val (.int p3), .val (.int (1 : Int32)), .val (.int (1 : Int32)), .val (.int (0 : Int32))] [])) (fun t k => XS.goto X0.here hx rfl (pc0 := 32) (pc' := 39) rfl (hb hby d2_32) (by decide) (by decide) k) ?_
        refine Goes.via (B := s₁.setTop (mkF m 5 #[.val (.ref a1), .val (.int (4 : Int32)), .val (.int p3), .val (.int (1 : Int32)), .val (.int (1 : Int32)), .val (.int (0 : Int32))] [])) (fun t k => XS.goto X0.here hx rfl (pc0 := 39) (pc' := 5) rfl (hb hby d2_39) (by decide) (by decide) k) ?_
        refine Goes.via (B := s₁.setTop (mkF m 6 #[.val (.ref a1), .val (.int (4 : Int32)), .val (.int p3), .val (.int (1 : Int32)), .val (.int (1 : Int32)), .val (.int (0 : Int32))] [(.int (1 : Int32))])) (fun t k => XS.iloadN X0.here hx rfl (hb hby d2_5) rfl k) ?_
        refine Goes.via (B := s₁.setTop (mkF m 8 #[.val (.ref a1), .val (.int (4 : Int32)), .val (.int p3), .val (.int (1 : Int32)), .val (.int (1 : Int32)), .val (.int (0 : Int32))] [(.int (1 : Int32)), (.int (1 : Int32))])) (fun t k => XS.iload X0.here hx rfl (hb hby d2_6) rfl k) ?_
        refine Goes.via (B := s₁.setTop (mkF m 42 #[.val (.ref a1), .val (.int (4 : Int32)), .val (.int p3), .val (.int (1 : Int32)), .val (.int (1 : Int32)), .val (.int (0 : Int32))] [])) (fun t k => XS.icmpYes X0.here hx rfl (pc0 := 8) (pc' := 42) rfl (hb hby d2_8) rfl (flt (by decide : ¬ (1 : Int32) < (1 : Int32))).2.1 (by decide) (by decide) k) ?_
        refine Goes.via (B := s₁.setTop (mkF m 43 #[.val (.ref a1), .val (.int (4 : Int32)), .val (.int p3), .val (.int (1 : Int32)), .val (.int (1 : Int32)), .val (.int (0 : Int32))] [(.int (1 : Int32))])) (fun t k => XS.iloadN X0.here hx rfl (hb hby d2_42) rfl k) ?_
        have hv : own_b4 y0 y1 y2 y3 p3 = (1 : Int32) := by rw [own_b4, if_neg c24_2, if_neg c24_6, if_pos c24_8]
        exact own_out X0 (v := some (.int (1 : Int32))) (fun h => by rw [Bd.returns] at h; cases h) Bd.notSynchronized (fun fs hr => retOut X0 hx Bd.returns rfl (Or.inl ⟨rfl, Or.inl rfl, _, rfl⟩) (hb hby d2_43) hr) ⟨by rw [hv], N0, e0⟩ (by decide) (by decide)
      · refine Goes.via (B := s₁.setTop (mkF m 35 #[.val (.ref a1), .val (.int (4 : Int32)), .val (.int p3), .val (.int (0 : Int32)), .val (.int (1 : Int32)), .val (.int (0 : Int32))] [])) (fun t k => XS.icmpYes X0.here hx rfl (pc0 := 24) (pc' := 35) rfl (hb hby d2_24) rfl (flt c24_8).2.1 (by decide) (by decide) k) ?_
        refine Goes.via (B := s₁.setTop (mkF m 37 #[.val (.ref a1), .val (.int (4 : Int32)), .val (.int p3), .val (.int (0 : Int32)), .val (.int (1 : Int32)), .val (.int (0 : Int32))] [(.int (0 : Int32))])) (fun t k => XS.iload X0.here hx rfl (hb hby d2_35) rfl k) ?_
        refine Goes.via (B := s₁.setTop (mkF m 39 #[.val (.ref a1), .val (.int (4 : Int32)), .val (.int p3), .val (.int (0 : Int32)), .val (.int (0 : Int32)), .val (.int (0 : Int32))] [])) (fun t k => XS.istore X0.here hx rfl (hb hby d2_37) rfl (l' := #[.val (.ref a1), .val (.int (4 : Int32)), .val (.int p3), .val (.int (0 : Int32)), .val (.int (0 : Int32)), .val (.int (0 : Int32))]) rfl k) ?_
        refine Goes.via (B := s₁.setTop (mkF m 5 #[.val (.ref a1), .val (.int (4 : Int32)), .val (.int p3), .val (.int (0 : Int32)), .val (.int (0 : Int32)), .val (.int (0 : Int32))] [])) (fun t k => XS.goto X0.here hx rfl (pc0 := 39) (pc' := 5) rfl (hb hby d2_39) (by decide) (by decide) k) ?_
        refine Goes.via (B := s₁.setTop (mkF m 6 #[.val (.ref a1), .val (.int (4 : Int32)), .val (.int p3), .val (.int (0 : Int32)), .val (.int (0 : Int32)), .val (.int (0 : Int32))] [(.int (0 : Int32))])) (fun t k => XS.iloadN X0.here hx rfl (hb hby d2_5) rfl k) ?_
        refine Goes.via (B := s₁.setTop (mkF m 8 #[.val (.ref a1), .val (.int (4 : Int32)), .val (.int p3), .val (.int (0 : Int32)), .val (.int (0 : Int32)), .val (.int (0 : Int32))] [(.int (0 : Int32)), (.int (0 : Int32))])) (fun t k => XS.iload X0.here hx rfl (hb hby d2_6) rfl k) ?_
        refine Goes.via (B := s₁.setTop (mkF m 42 #[.val (.ref a1), .val (.int (4 : Int32)), .val (.int p3), .val (.int (0 : Int32)), .val (.int (0 : Int32)), .val (.int (0 : Int32))] [])) (fun t k => XS.icmpYes X0.here hx rfl (pc0 := 8) (pc' := 42) rfl (hb hby d2_8) rfl (flt (by decide : ¬ (0 : Int32) < (0 : Int32))).2.1 (by decide) (by decide) k) ?_
        refine Goes.via (B := s₁.setTop (mkF m 43 #[.val (.ref a1), .val (.int (4 : Int32)), .val (.int p3), .val (.int (0 : Int32)), .val (.int (0 : Int32)), .val (.int (0 : Int32))] [(.int (0 : Int32))])) (fun t k => XS.iloadN X0.here hx rfl (hb hby d2_42) rfl k) ?_
        have hv : own_b4 y0 y1 y2 y3 p3 = (0 : Int32) := by rw [own_b4, if_neg c24_2, if_neg c24_6, if_neg c24_8]
        exact own_out X0 (v := some (.int (0 : Int32))) (fun h => by rw [Bd.returns] at h; cases h) Bd.notSynchronized (fun fs hr => retOut X0 hx Bd.returns rfl (Or.inl ⟨rfl, Or.inl rfl, _, rfl⟩) (hb hby d2_43) hr) ⟨by rw [hv], N0, e0⟩ (by decide) (by decide)
theorem pd___III_V : parseMethodDescriptor "([III)V" = some ⟨[(.array .int), .int, .int], none⟩ := by decide +kernel
theorem pd___III_I : parseMethodDescriptor "([III)I" = some ⟨[(.array .int), .int, .int], some .int⟩ := by decide +kernel
theorem ef_0 (m : MethodId) (x0 : Int32) (x1 : Int32) (x2 : Int32) (x3 : Int32) (x4 : Int32) (x5 : Int32) : entryFrame m #[(.int x0), (.int x1), (.int x2), (.int x3), (.int x4), (.int x5)] maxLocals = mkF m 0 #[.val (.int x0), .val (.int x1), .val (.int x2), .val (.int x3), .val (.int x4), .val (.int x5), .unset, .unset, .unset, .unset] [] := by first | (simp [entryFrame, mkF, argsToLocals, Value.category, maxLocals]; done) | rfl
def own_c0 (z8_0 p6 cc0 : Int32) : Int32 := if z8_0 < p6 then (cc0 + (1 : Int32)) else cc0
def own_c1 (z10_1 p6 cc1 : Int32) : Int32 := if z10_1 < p6 then (cc1 + (1 : Int32)) else cc1
def own_c2 (z10_2 p6 cc2 : Int32) : Int32 := if z10_2 < p6 then (cc2 + (1 : Int32)) else cc2
def own_c3 (z9_3 p6 cc3 : Int32) : Int32 := if z9_3 < p6 then (cc3 + (1 : Int32)) else cc3
theorem own_n {p5 v7 : Int32} (h : ((p5 &&& (2147483647 : Int32)) % (5 : Int32)) = v7) : v7 = (0 : Int32) ∨ v7 = (1 : Int32) ∨ v7 = (2 : Int32) ∨ v7 = (3 : Int32) ∨ v7 = (4 : Int32) := by
  have a := c_and p5 2147483647 (by decide)
  have b := (c_irem (p5 &&& (2147483647 : Int32)) 5 5 (by decide)).1 a.1
  rw [h] at b
  simp only [← Int32.toInt_inj, Int32.reduceToInt]
  omega
def own_le4 (s0 s1 s2 s3 : Int32) : Prop := s0.toInt ≤ s1.toInt ∧ s1.toInt ≤ s2.toInt ∧ s2.toInt ≤ s3.toInt
theorem own_sorted {x0 x1 x2 x3 a0 a1 a2 a3 b0 b2 b1 b3 c1 c2 : Int32}
    (h1 : a0.toInt ≤ a1.toInt ∧ ((a0 = x0 ∧ a1 = x1) ∨ (a0 = x1 ∧ a1 = x0))) (h2 : a2.toInt ≤ a3.toInt ∧ ((a2 = x2 ∧ a3 = x3) ∨ (a2 = x3 ∧ a3 = x2)))
    (h3 : b0.toInt ≤ b2.toInt ∧ ((b0 = a0 ∧ b2 = a2) ∨ (b0 = a2 ∧ b2 = a0))) (h4 : b1.toInt ≤ b3.toInt ∧ ((b1 = a1 ∧ b3 = a3) ∨ (b1 = a3 ∧ b3 = a1)))
    (h5 : c1.toInt ≤ c2.toInt ∧ ((c1 = b1 ∧ c2 = b2) ∨ (c1 = b2 ∧ c2 = b1))) : own_le4 b0 c1 c2 b3 := by
  unfold own_le4
  obtain ⟨h1, -⟩ := h1
  obtain ⟨h2, -⟩ := h2
  obtain ⟨h3, ⟨rfl, rfl⟩ | ⟨rfl, rfl⟩⟩ := h3 <;> obtain ⟨h4, ⟨rfl, rfl⟩ | ⟨rfl, rfl⟩⟩ := h4 <;> obtain ⟨h5, ⟨rfl, rfl⟩ | ⟨rfl, rfl⟩⟩ := h5 <;> omega
theorem own_fin0 {s0 s1 s2 s3 v cc0 : Int32} (hs : own_le4 s0 s1 s2 s3) (hcc0 : (0 : Int32) = cc0)  : own_b0 s0 s1 s2 s3 v = cc0 := by
  obtain ⟨q1, q2, q3⟩ := hs
  subst hcc0
  unfold own_b0 
  repeat' split
  all_goals first | rfl | (exfalso; simp only [Int32.lt_iff_toInt_lt, Int32.reduceToInt] at *; omega)
theorem own_fin1 {s0 s1 s2 s3 v cc0 cc1 : Int32} (hs : own_le4 s0 s1 s2 s3) (hcc0 : (0 : Int32) = cc0) (hcc1 : own_c0 s0 v cc0 = cc1) : own_b1 s0 s1 s2 s3 v = cc1 := by
  obtain ⟨q1, q2, q3⟩ := hs
  subst hcc0 hcc1
  unfold own_b1 own_c0
  repeat' split
  all_goals first | rfl | (exfalso; simp only [Int32.lt_iff_toInt_lt, Int32.reduceToInt] at *; omega)
theorem own_fin2 {s0 s1 s2 s3 v cc0 cc1 cc2 : Int32} (hs : own_le4 s0 s1 s2 s3) (hcc0 : (0 : Int32) = cc0) (hcc1 : own_c0 s0 v cc0 = cc1) (hcc2 : own_c1 s1 v cc1 = cc2) : own_b2 s0 s1 s2 s3 v = cc2 := by
  obtain ⟨q1, q2, q3⟩ := hs
  subst hcc0 hcc1 hcc2
  unfold own_b2 own_c0 own_c1
  repeat' split
  all_goals first | rfl | (exfalso; simp only [Int32.lt_iff_toInt_lt, Int32.reduceToInt] at *; omega)
theorem own_fin3 {s0 s1 s2 s3 v cc0 cc1 cc2 cc3 : Int32} (hs : own_le4 s0 s1 s2 s3) (hcc0 : (0 : Int32) = cc0) (hcc1 : own_c0 s0 v cc0 = cc1) (hcc2 : own_c1 s1 v cc1 = cc2) (hcc3 : own_c2 s2 v cc2 = cc3) : own_b3 s0 s1 s2 s3 v = cc3 := by
  obtain ⟨q1, q2, q3⟩ := hs
  subst hcc0 hcc1 hcc2 hcc3
  unfold own_b3 own_c0 own_c1 own_c2
  repeat' split
  all_goals first | rfl | (exfalso; simp only [Int32.lt_iff_toInt_lt, Int32.reduceToInt] at *; omega)
theorem own_fin4 {s0 s1 s2 s3 v cc0 cc1 cc2 cc3 cc4 : Int32} (hs : own_le4 s0 s1 s2 s3) (hcc0 : (0 : Int32) = cc0) (hcc1 : own_c0 s0 v cc0 = cc1) (hcc2 : own_c1 s1 v cc1 = cc2) (hcc3 : own_c2 s2 v cc2 = cc3) (hcc4 : own_c3 s3 v cc3 = cc4) : own_b4 s0 s1 s2 s3 v = cc4 := by
  obtain ⟨q1, q2, q3⟩ := hs
  subst hcc0 hcc1 hcc2 hcc3 hcc4
  unfold own_b4 own_c0 own_c1 own_c2 own_c3
  repeat' split
  all_goals first | rfl | (exfalso; simp only [Int32.lt_iff_toInt_lt, Int32.reduceToInt] at *; omega)
def Q0 (Z : State) (p1 : Int32) (p2 : Int32) (p3 : Int32) (p4 : Int32) (p5 : Int32) (p6 : Int32) (h0 : Heap) (n0 : Nat) (v : Option Value) (h : Heap) (L : List Loc) : Prop := v = some (.int (1 : Int32)) ∧ Fr n0 L
set_option maxRecDepth 65536 in
set_option maxHeartbeats 40000000 in
theorem rm0 (l : Launch) (Z : State) (a0 : Array Value) (hw : ∀ d ∈ tables_1, d.before a0 Z = true) (ws : List Jvm.Cond) (p1 : Int32) (p2 : Int32) (p3 : Int32) (p4 : Int32) (p5 : Int32) (p6 : Int32) (h0 : Heap) (n0 : Nat) (Z0 : n0 ≤ h0.size)  :
    MetFree l x (head1 (Jvm.Cond.code x code maxLocals ret :: ws) room_1) (fun a U => a = #[(.int p1), (.int p2), (.int p3), (.int p4), (.int p5), (.int p6)] ∧ Z.Warmed39 U.vm ∧ U.heap = h0) (fun _ _ _ _ _ => True) (fun _ U o U' => ∃ v L, o = .returned v ∧ Q0 Z p1 p2 p3 p4 p5 p6 h0 n0 v U'.heap L ∧ FrameEnd U o U' L room_1.cells room_1.slots) := by
  refine MetFree.of_bodySF (plainFor_of_name pn_com_example_noise_to_nodes_noisetonodes_AscendingIntsCountBelowPinLaw) hisR ?_
  intro p e s m args below meth c s₁ Bd hml0 hP hK
  obtain ⟨rfl, hZ, hh⟩ := hP
  have hx := Bd.exec
  have hby := Bd.bytes
  have hml : c.maxLocals = 10 := hml0
  have hown : s.vm.findClass "com/example/noise_to_nodes/noisetonodes/AscendingIntsCountBelowPinLaw" = some m.cls := findClass_of_methodNamed Bd.named
  have hnm := (name_of_methodNamed Bd.named Bd.method).1
  have X0 : Stand p l e room_1 s m #[(.int p1), (.int p2), (.int p3), (.int p4), (.int p5), (.int p6)] below meth c s₁ [] 0 0 := Stand.of_body Bd
  have e0 : s₁.heap = h0 := by rw [← hh, Bd.state]; rfl
  have N0 := Fr.nil n0
  show Goes p e below (fun s₂ o => ∃ v L, o = .returned v ∧ Q0 Z p1 p2 p3 p4 p5 p6 h0 n0 v s₂.heap L ∧ FrameEnd s o s₂ L room_1.cells room_1.slots) (s₁.setTop (entryFrame m #[(.int p1), (.int p2), (.int p3), (.int p4), (.int p5), (.int p6)] maxLocals))
  refine Goes.cast (ef_0 m p1 p2 p3 p4 p5 p6) ?_
  refine Goes.via (B := s₁.setTop (mkF m 1 #[.val (.int p1), .val (.int p2), .val (.int p3), .val (.int p4), .val (.int p5), .val (.int p6), .unset, .unset, .unset, .unset] [(.int (4 : Int32))])) (fun t k => XS.iconst X0.here hx rfl (hb hby at_0) k) ?_
  obtain ⟨T1, h1, k1, X1, e1, E1, A1, st1⟩ := newP X0 hx hZ (hw _ (List.mem_of_getElem? (i := 0) rfl)) e0 (g := (mkF m 1 #[.val (.int p1), .val (.int p2), .val (.int p3), .val (.int p4), .val (.int p5), .val (.int p6), .unset, .unset, .unset, .unset] [(.int (4 : Int32))])) rfl (hb hby at_1) rfl (by decide) (cap := 4) (by decide) (by decide) (by decide) (by decide)
  obtain ⟨b1, g1⟩ : ∃ z, z = h0.size := ⟨_, rfl⟩
  rw [← g1] at A1 st1
  have Vb1 : Arv Z h1 b1 k1 .int (4 : Int32) [(.int (0 : Int32)), (.int (0 : Int32)), (.int (0 : Int32)), (.int (0 : Int32))] (.int (0 : Int32)) := (Arv.new A1 (by decide)).pad (pad_rep [] (.int (0 : Int32)) 4)
  have g_b1 : n0 ≤ b1 := Nat.le_trans Z0 (Nat.le_of_eq g1.symm)
  have Z1 : n0 ≤ h1.size := Nat.le_trans Z0 E1.1
  refine Goes.via (B := T1.setTop (mkF m 3 #[.val (.int p1), .val (.int p2), .val (.int p3), .val (.int p4), .val (.int p5), .val (.int p6), .unset, .unset, .unset, .unset] [(.ref b1)])) st1 ?_
  refine Goes.via (B := T1.setTop (mkF m 5 #[.val (.int p1), .val (.int p2), .val (.int p3), .val (.int p4), .val (.int p5), .val (.int p6), .val (.ref b1), .unset, .unset, .unset] [])) (fun t k => XS.astore X1.here hx rfl (hb hby at_3) rfl rfl (l' := #[.val (.int p1), .val (.int p2), .val (.int p3), .val (.int p4), .val (.int p5), .val (.int p6), .val (.ref b1), .unset, .unset, .unset]) rfl k) ?_
  refine Goes.via (B := T1.setTop (mkF m 7 #[.val (.int p1), .val (.int p2), .val (.int p3), .val (.int p4), .val (.int p5), .val (.int p6), .val (.ref b1), .unset, .unset, .unset] [(.ref b1)])) (fun t k => XS.aload X1.here hx rfl (hb hby at_5) rfl rfl k) ?_
  refine Goes.via (B := T1.setTop (mkF m 8 #[.val (.int p1), .val (.int p2), .val (.int p3), .val (.int p4), .val (.int p5), .val (.int p6), .val (.ref b1), .unset, .unset, .unset] [(.int (0 : Int32)), (.ref b1)])) (fun t k => XS.iconst X1.here hx rfl (hb hby at_7) k) ?_
  refine Goes.via (B := T1.setTop (mkF m 9 #[.val (.int p1), .val (.int p2), .val (.int p3), .val (.int p4), .val (.int p5), .val (.int p6), .val (.ref b1), .unset, .unset, .unset] [(.int p1), (.int (0 : Int32)), (.ref b1)])) (fun t k => XS.iloadN X1.here hx rfl (hb hby at_8) rfl k) ?_
  obtain ⟨cl2, Ar2, q2, S2, M2, H2, G2⟩ := Vb1
  have hin2 : ¬ ((0 : Int32) < 0 ∨ cl2.slots.size ≤ ((0 : Int32)).toNatClampNeg) := inb_of S2 ⟨by decide, by decide⟩
  obtain ⟨T2, h2, X2, e2, W2, st2⟩ := stI X1 hx hZ e1 Ar2 (j := (0 : Int32)) hin2 (g := (mkF m 9 #[.val (.int p1), .val (.int p2), .val (.int p3), .val (.int p4), .val (.int p5), .val (.int p6), .val (.ref b1), .unset, .unset, .unset] [(.int p1), (.int (0 : Int32)), (.ref b1)])) rfl rfl (hb hby at_9)
  have Vb1_2 := Arv.set Ar2 q2 S2 M2 H2 G2 rfl W2 0 rfl (Nat.le_of_ble_eq_true rfl)
  replace Vb1_2 : Arv Z h2 b1 k1 .int (4 : Int32) [(.int p1), (.int (0 : Int32)), (.int (0 : Int32)), (.int (0 : Int32))] (.int (0 : Int32)) := Vb1_2
  have N2 := Fr.snoc X2 N0 g_b1
  have Z2 : n0 ≤ h2.size := Nat.le_trans Z1 (Nat.le_of_eq W2.size.symm)
  refine Goes.via (B := T2.setTop (mkF m 10 #[.val (.int p1), .val (.int p2), .val (.int p3), .val (.int p4), .val (.int p5), .val (.int p6), .val (.ref b1), .unset, .unset, .unset] [])) st2 ?_
  refine Goes.via (B := T2.setTop (mkF m 12 #[.val (.int p1), .val (.int p2), .val (.int p3), .val (.int p4), .val (.int p5), .val (.int p6), .val (.ref b1), .unset, .unset, .unset] [(.ref b1)])) (fun t k => XS.aload X2.here hx rfl (hb hby at_10) rfl rfl k) ?_
  refine Goes.via (B := T2.setTop (mkF m 13 #[.val (.int p1), .val (.int p2), .val (.int p3), .val (.int p4), .val (.int p5), .val (.int p6), .val (.ref b1), .unset, .unset, .unset] [(.int (1 : Int32)), (.ref b1)])) (fun t k => XS.iconst X2.here hx rfl (hb hby at_12) k) ?_
  refine Goes.via (B := T2.setTop (mkF m 14 #[.val (.int p1), .val (.int p2), .val (.int p3), .val (.int p4), .val (.int p5), .val (.int p6), .val (.ref b1), .unset, .unset, .unset] [(.int p2), (.int (1 : Int32)), (.ref b1)])) (fun t k => XS.iloadN X2.here hx rfl (hb hby at_13) rfl k) ?_
  obtain ⟨cl3, Ar3, q3, S3, M3, H3, G3⟩ := Vb1_2
  have hin3 : ¬ ((1 : Int32) < 0 ∨ cl3.slots.size ≤ ((1 : Int32)).toNatClampNeg) := inb_of S3 ⟨by decide, by decide⟩
  obtain ⟨T3, h3, X3, e3, W3, st3⟩ := stI X2 hx hZ e2 Ar3 (j := (1 : Int32)) hin3 (g := (mkF m 14 #[.val (.int p1), .val (.int p2), .val (.int p3), .val (.int p4), .val (.int p5), .val (.int p6), .val (.ref b1), .unset, .unset, .unset] [(.int p2), (.int (1 : Int32)), (.ref b1)])) rfl rfl (hb hby at_14)
  have Vb1_3 := Arv.set Ar3 q3 S3 M3 H3 G3 rfl W3 1 rfl (Nat.le_of_ble_eq_true rfl)
  replace Vb1_3 : Arv Z h3 b1 k1 .int (4 : Int32) [(.int p1), (.int p2), (.int (0 : Int32)), (.int (0 : Int32))] (.int (0 : Int32)) := Vb1_3
  have N3 := Fr.snoc X3 N2 g_b1
  have Z3 : n0 ≤ h3.size := Nat.le_trans Z2 (Nat.le_of_eq W3.size.symm)
  refine Goes.via (B := T3.setTop (mkF m 15 #[.val (.int p1), .val (.int p2), .val (.int p3), .val (.int p4), .val (.int p5), .val (.int p6), .val (.ref b1), .unset, .unset, .unset] [])) st3 ?_
  refine Goes.via (B := T3.setTop (mkF m 17 #[.val (.int p1), .val (.int p2), .val (.int p3), .val (.int p4), .val (.int p5), .val (.int p6), .val (.ref b1), .unset, .unset, .unset] [(.ref b1)])) (fun t k => XS.aload X3.here hx rfl (hb hby at_15) rfl rfl k) ?_
  refine Goes.via (B := T3.setTop (mkF m 18 #[.val (.int p1), .val (.int p2), .val (.int p3), .val (.int p4), .val (.int p5), .val (.int p6), .val (.ref b1), .unset, .unset, .unset] [(.int (2 : Int32)), (.ref b1)])) (fun t k => XS.iconst X3.here hx rfl (hb hby at_17) k) ?_
  refine Goes.via (B := T3.setTop (mkF m 19 #[.val (.int p1), .val (.int p2), .val (.int p3), .val (.int p4), .val (.int p5), .val (.int p6), .val (.ref b1), .unset, .unset, .unset] [(.int p3), (.int (2 : Int32)), (.ref b1)])) (fun t k => XS.iloadN X3.here hx rfl (hb hby at_18) rfl k) ?_
  obtain ⟨cl4, Ar4, q4, S4, M4, H4, G4⟩ := Vb1_3
  have hin4 : ¬ ((2 : Int32) < 0 ∨ cl4.slots.size ≤ ((2 : Int32)).toNatClampNeg) := inb_of S4 ⟨by decide, by decide⟩
  obtain ⟨T4, h4, X4, e4, W4, st4⟩ := stI X3 hx hZ e3 Ar4 (j := (2 : Int32)) hin4 (g := (mkF m 19 #[.val (.int p1), .val (.int p2), .val (.int p3), .val (.int p4), .val (.int p5), .val (.int p6), .val (.ref b1), .unset, .unset, .unset] [(.int p3), (.int (2 : Int32)), (.ref b1)])) rfl rfl (hb hby at_19)
  have Vb1_4 := Arv.set Ar4 q4 S4 M4 H4 G4 rfl W4 2 rfl (Nat.le_of_ble_eq_true rfl)
  replace Vb1_4 : Arv Z h4 b1 k1 .int (4 : Int32) [(.int p1), (.int p2), (.int p3), (.int (0 : Int32))] (.int (0 : Int32)) := Vb1_4
  have N4 := Fr.snoc X4 N3 g_b1
  have Z4 : n0 ≤ h4.size := Nat.le_trans Z3 (Nat.le_of_eq W4.size.symm)
  refine Goes.via (B := T4.setTop (mkF m 20 #[.val (.int p1), .val (.int p2), .val (.int p3), .val (.int p4), .val (.int p5), .val (.int p6), .val (.ref b1), .unset, .unset, .unset] [])) st4 ?_
  refine Goes.via (B := T4.setTop (mkF m 22 #[.val (.int p1), .val (.int p2), .val (.int p3), .val (.int p4), .val (.int p5), .val (.int p6), .val (.ref b1), .unset, .unset, .unset] [(.ref b1)])) (fun t k => XS.aload X4.here hx rfl (hb hby at_20) rfl rfl k) ?_
  refine Goes.via (B := T4.setTop (mkF m 23 #[.val (.int p1), .val (.int p2), .val (.int p3), .val (.int p4), .val (.int p5), .val (.int p6), .val (.ref b1), .unset, .unset, .unset] [(.int (3 : Int32)), (.ref b1)])) (fun t k => XS.iconst X4.here hx rfl (hb hby at_22) k) ?_
  refine Goes.via (B := T4.setTop (mkF m 24 #[.val (.int p1), .val (.int p2), .val (.int p3), .val (.int p4), .val (.int p5), .val (.int p6), .val (.ref b1), .unset, .unset, .unset] [(.int p4), (.int (3 : Int32)), (.ref b1)])) (fun t k => XS.iloadN X4.here hx rfl (hb hby at_23) rfl k) ?_
  obtain ⟨cl5, Ar5, q5, S5, M5, H5, G5⟩ := Vb1_4
  have hin5 : ¬ ((3 : Int32) < 0 ∨ cl5.slots.size ≤ ((3 : Int32)).toNatClampNeg) := inb_of S5 ⟨by decide, by decide⟩
  obtain ⟨T5, h5, X5, e5, W5, st5⟩ := stI X4 hx hZ e4 Ar5 (j := (3 : Int32)) hin5 (g := (mkF m 24 #[.val (.int p1), .val (.int p2), .val (.int p3), .val (.int p4), .val (.int p5), .val (.int p6), .val (.ref b1), .unset, .unset, .unset] [(.int p4), (.int (3 : Int32)), (.ref b1)])) rfl rfl (hb hby at_24)
  have Vb1_5 := Arv.set Ar5 q5 S5 M5 H5 G5 rfl W5 3 rfl (Nat.le_of_ble_eq_true rfl)
  replace Vb1_5 : Arv Z h5 b1 k1 .int (4 : Int32) [(.int p1), (.int p2), (.int p3), (.int p4)] (.int (0 : Int32)) := Vb1_5
  have N5 := Fr.snoc X5 N4 g_b1
  have Z5 : n0 ≤ h5.size := Nat.le_trans Z4 (Nat.le_of_eq W5.size.symm)
  refine Goes.via (B := T5.setTop (mkF m 25 #[.val (.int p1), .val (.int p2), .val (.int p3), .val (.int p4), .val (.int p5), .val (.int p6), .val (.ref b1), .unset, .unset, .unset] [])) st5 ?_
  refine Goes.via (B := T5.setTop (mkF m 27 #[.val (.int p1), .val (.int p2), .val (.int p3), .val (.int p4), .val (.int p5), .val (.int p6), .val (.ref b1), .unset, .unset, .unset] [(.ref b1)])) (fun t k => XS.aload X5.here hx rfl (hb hby at_25) rfl rfl k) ?_
  refine Goes.via (B := T5.setTop (mkF m 28 #[.val (.int p1), .val (.int p2), .val (.int p3), .val (.int p4), .val (.int p5), .val (.int p6), .val (.ref b1), .unset, .unset, .unset] [(.int (0 : Int32)), (.ref b1)])) (fun t k => XS.iconst X5.here hx rfl (hb hby at_27) k) ?_
  refine Goes.via (B := T5.setTop (mkF m 29 #[.val (.int p1), .val (.int p2), .val (.int p3), .val (.int p4), .val (.int p5), .val (.int p6), .val (.ref b1), .unset, .unset, .unset] [(.int (1 : Int32)), (.int (0 : Int32)), (.ref b1)])) (fun t k => XS.iconst X5.here hx rfl (hb hby at_28) k) ?_
  obtain ⟨_, _, ⟨T6, L6, kk6, nn6⟩, -, X6, ⟨Lc6, hQ6, l6, y6, z6⟩, st6⟩ := Jvm.LawKit.callS X5 hx (y := (⟨"com/example/noise_to_nodes/noisetonodes/AscendingIntsCountBelowPinLaw", "cx", "([III)V"⟩ : MethodName)) hown (mvT hZ (hw _ (List.mem_of_getElem? (i := 1) rfl))) (mvT hZ (hw _ (List.mem_of_getElem? (i := 2) rfl))) (mvT hZ (hw _ (List.mem_of_getElem? (i := 3) rfl))) (mvT hZ (hw _ (List.mem_of_getElem? (i := 4) rfl))) (by decide) (backOf (W := 0) (rm1_01 l Z a0 hw [] b1 k1 p1 p2 p3 p4 h5 n0 Z5 Vb1_5 g_b1) hZ (hw _ (List.mem_of_getElem? (i := 4) rfl)) (hw _ (List.mem_of_getElem? (i := 3) rfl)) (by decide) (by decide)) (g := (mkF m 29 #[.val (.int p1), .val (.int p2), .val (.int p3), .val (.int p4), .val (.int p5), .val (.int p6), .val (.ref b1), .unset, .unset, .unset] [(.int (1 : Int32)), (.int (0 : Int32)), (.ref b1)])) rfl (by rw [hml]; rfl) (argsL := [(.ref b1), (.int (0 : Int32)), (.int (1 : Int32))]) (rest := []) (lenOf pd___III_V rfl) rfl (by show 2 * 0 + _ ≤ _; exact Nat.le_of_eq rfl) (hb hby at_29) (fun _ _ => ⟨rfl, e5, (by decide : 1 + 0 ≤ _), (by decide : 4 + 0 ≤ _)⟩)
  dsimp only [Pt.U, Pt.locs, Pt.cells, Pt.slots] at X6 l6 y6 z6 st6 hQ6
  subst l6 y6 z6
  obtain ⟨rfl, Nq6, Kq6, Vq6⟩ := hQ6
  have N6 := Fr.app N5 Nq6
  obtain ⟨z6_0, hz6_0⟩ : ∃ z, z = own_lo p1 p2 := ⟨_, rfl⟩
  obtain ⟨z6_1, hz6_1⟩ : ∃ z, z = own_hi p1 p2 := ⟨_, rfl⟩
  have hd6 := own_two p1 p2
  rw [← hz6_0, ← hz6_1] at Vq6 hd6
  have Z6 : n0 ≤ T6.heap.size := Nat.le_trans Z5 Kq6.1
  have eq6 : T6.heap = T6.heap := rfl
  refine Goes.via (B := T6.setTop (mkF m 32 #[.val (.int p1), .val (.int p2), .val (.int p3), .val (.int p4), .val (.int p5), .val (.int p6), .val (.ref b1), .unset, .unset, .unset] [])) st6 ?_
  refine Goes.via (B := T6.setTop (mkF m 34 #[.val (.int p1), .val (.int p2), .val (.int p3), .val (.int p4), .val (.int p5), .val (.int p6), .val (.ref b1), .unset, .unset, .unset] [(.ref b1)])) (fun t k => XS.aload X6.here hx rfl (hb hby at_32) rfl rfl k) ?_
  refine Goes.via (B := T6.setTop (mkF m 35 #[.val (.int p1), .val (.int p2), .val (.int p3), .val (.int p4), .val (.int p5), .val (.int p6), .val (.ref b1), .unset, .unset, .unset] [(.int (2 : Int32)), (.ref b1)])) (fun t k => XS.iconst X6.here hx rfl (hb hby at_34) k) ?_
  refine Goes.via (B := T6.setTop (mkF m 36 #[.val (.int p1), .val (.int p2), .val (.int p3), .val (.int p4), .val (.int p5), .val (.int p6), .val (.ref b1), .unset, .unset, .unset] [(.int (3 : Int32)), (.int (2 : Int32)), (.ref b1)])) (fun t k => XS.iconst X6.here hx rfl (hb hby at_35) k) ?_
  obtain ⟨_, _, ⟨T7, L7, kk7, nn7⟩, -, X7, ⟨Lc7, hQ7, l7, y7, z7⟩, st7⟩ := Jvm.LawKit.callS X6 hx (y := (⟨"com/example/noise_to_nodes/noisetonodes/AscendingIntsCountBelowPinLaw", "cx", "([III)V"⟩ : MethodName)) hown (mvT hZ (hw _ (List.mem_of_getElem? (i := 1) rfl))) (mvT hZ (hw _ (List.mem_of_getElem? (i := 2) rfl))) (mvT hZ (hw _ (List.mem_of_getElem? (i := 3) rfl))) (mvT hZ (hw _ (List.mem_of_getElem? (i := 4) rfl))) (by decide) (backOf (W := 0) (rm1_23 l Z a0 hw [] b1 k1 z6_0 z6_1 p3 p4 T6.heap n0 Z6 Vq6 g_b1) hZ (hw _ (List.mem_of_getElem? (i := 4) rfl)) (hw _ (List.mem_of_getElem? (i := 3) rfl)) (by decide) (by decide)) (g := (mkF m 36 #[.val (.int p1), .val (.int p2), .val (.int p3), .val (.int p4), .val (.int p5), .val (.int p6), .val (.ref b1), .unset, .unset, .unset] [(.int (3 : Int32)), (.int (2 : Int32)), (.ref b1)])) rfl (by rw [hml]; rfl) (argsL := [(.ref b1), (.int (2 : Int32)), (.int (3 : Int32))]) (rest := []) (lenOf pd___III_V rfl) rfl (by show 2 * 0 + _ ≤ _; exact Nat.le_of_eq rfl) (hb hby at_36) (fun _ _ => ⟨rfl, eq6, (by decide : 1 + 0 ≤ _), (by decide : 4 + 0 ≤ _)⟩)
  dsimp only [Pt.U, Pt.locs, Pt.cells, Pt.slots] at X7 l7 y7 z7 st7 hQ7
  subst l7 y7 z7
  obtain ⟨rfl, Nq7, Kq7, Vq7⟩ := hQ7
  have N7 := Fr.app N6 Nq7
  obtain ⟨z7_2, hz7_2⟩ : ∃ z, z = own_lo p3 p4 := ⟨_, rfl⟩
  obtain ⟨z7_3, hz7_3⟩ : ∃ z, z = own_hi p3 p4 := ⟨_, rfl⟩
  have hd7 := own_two p3 p4
  rw [← hz7_2, ← hz7_3] at Vq7 hd7
  have Z7 : n0 ≤ T7.heap.size := Nat.le_trans Z6 Kq7.1
  have eq7 : T7.heap = T7.heap := rfl
  refine Goes.via (B := T7.setTop (mkF m 39 #[.val (.int p1), .val (.int p2), .val (.int p3), .val (.int p4), .val (.int p5), .val (.int p6), .val (.ref b1), .unset, .unset, .unset] [])) st7 ?_
  refine Goes.via (B := T7.setTop (mkF m 41 #[.val (.int p1), .val (.int p2), .val (.int p3), .val (.int p4), .val (.int p5), .val (.int p6), .val (.ref b1), .unset, .unset, .unset] [(.ref b1)])) (fun t k => XS.aload X7.here hx rfl (hb hby at_39) rfl rfl k) ?_
  refine Goes.via (B := T7.setTop (mkF m 42 #[.val (.int p1), .val (.int p2), .val (.int p3), .val (.int p4), .val (.int p5), .val (.int p6), .val (.ref b1), .unset, .unset, .unset] [(.int (0 : Int32)), (.ref b1)])) (fun t k => XS.iconst X7.here hx rfl (hb hby at_41) k) ?_
  refine Goes.via (B := T7.setTop (mkF m 43 #[.val (.int p1), .val (.int p2), .val (.int p3), .val (.int p4), .val (.int p5), .val (.int p6), .val (.ref b1), .unset, .unset, .unset] [(.int (2 : Int32)), (.int (0 : Int32)), (.ref b1)])) (fun t k => XS.iconst X7.here hx rfl (hb hby at_42) k) ?_
  obtain ⟨_, _, ⟨T8, L8, kk8, nn8⟩, -, X8, ⟨Lc8, hQ8, l8, y8, z8⟩, st8⟩ := Jvm.LawKit.callS X7 hx (y := (⟨"com/example/noise_to_nodes/noisetonodes/AscendingIntsCountBelowPinLaw", "cx", "([III)V"⟩ : MethodName)) hown (mvT hZ (hw _ (List.mem_of_getElem? (i := 1) rfl))) (mvT hZ (hw _ (List.mem_of_getElem? (i := 2) rfl))) (mvT hZ (hw _ (List.mem_of_getElem? (i := 3) rfl))) (mvT hZ (hw _ (List.mem_of_getElem? (i := 4) rfl))) (by decide) (backOf (W := 0) (rm1_02 l Z a0 hw [] b1 k1 z6_0 z6_1 z7_2 z7_3 T7.heap n0 Z7 Vq7 g_b1) hZ (hw _ (List.mem_of_getElem? (i := 4) rfl)) (hw _ (List.mem_of_getElem? (i := 3) rfl)) (by decide) (by decide)) (g := (mkF m 43 #[.val (.int p1), .val (.int p2), .val (.int p3), .val (.int p4), .val (.int p5), .val (.int p6), .val (.ref b1), .unset, .unset, .unset] [(.int (2 : Int32)), (.int (0 : Int32)), (.ref b1)])) rfl (by rw [hml]; rfl) (argsL := [(.ref b1), (.int (0 : Int32)), (.int (2 : Int32))]) (rest := []) (lenOf pd___III_V rfl) rfl (by show 2 * 0 + _ ≤ _; exact Nat.le_of_eq rfl) (hb hby at_43) (fun _ _ => ⟨rfl, eq7, (by decide : 1 + 0 ≤ _), (by decide : 4 + 0 ≤ _)⟩)
  dsimp only [Pt.U, Pt.locs, Pt.cells, Pt.slots] at X8 l8 y8 z8 st8 hQ8
  subst l8 y8 z8
  obtain ⟨rfl, Nq8, Kq8, Vq8⟩ := hQ8
  have N8 := Fr.app N7 Nq8
  obtain ⟨z8_0, hz8_0⟩ : ∃ z, z = own_lo z6_0 z7_2 := ⟨_, rfl⟩
  obtain ⟨z8_2, hz8_2⟩ : ∃ z, z = own_hi z6_0 z7_2 := ⟨_, rfl⟩
  have hd8 := own_two z6_0 z7_2
  rw [← hz8_0, ← hz8_2] at Vq8 hd8
  have Z8 : n0 ≤ T8.heap.size := Nat.le_trans Z7 Kq8.1
  have eq8 : T8.heap = T8.heap := rfl
  refine Goes.via (B := T8.setTop (mkF m 46 #[.val (.int p1), .val (.int p2), .val (.int p3), .val (.int p4), .val (.int p5), .val (.int p6), .val (.ref b1), .unset, .unset, .unset] [])) st8 ?_
  refine Goes.via (B := T8.setTop (mkF m 48 #[.val (.int p1), .val (.int p2), .val (.int p3), .val (.int p4), .val (.int p5), .val (.int p6), .val (.ref b1), .unset, .unset, .unset] [(.ref b1)])) (fun t k => XS.aload X8.here hx rfl (hb hby at_46) rfl rfl k) ?_
  refine Goes.via (B := T8.setTop (mkF m 49 #[.val (.int p1), .val (.int p2), .val (.int p3), .val (.int p4), .val (.int p5), .val (.int p6), .val (.ref b1), .unset, .unset, .unset] [(.int (1 : Int32)), (.ref b1)])) (fun t k => XS.iconst X8.here hx rfl (hb hby at_48) k) ?_
  refine Goes.via (B := T8.setTop (mkF m 50 #[.val (.int p1), .val (.int p2), .val (.int p3), .val (.int p4), .val (.int p5), .val (.int p6), .val (.ref b1), .unset, .unset, .unset] [(.int (3 : Int32)), (.int (1 : Int32)), (.ref b1)])) (fun t k => XS.iconst X8.here hx rfl (hb hby at_49) k) ?_
  obtain ⟨_, _, ⟨T9, L9, kk9, nn9⟩, -, X9, ⟨Lc9, hQ9, l9, y9, z9⟩, st9⟩ := Jvm.LawKit.callS X8 hx (y := (⟨"com/example/noise_to_nodes/noisetonodes/AscendingIntsCountBelowPinLaw", "cx", "([III)V"⟩ : MethodName)) hown (mvT hZ (hw _ (List.mem_of_getElem? (i := 1) rfl))) (mvT hZ (hw _ (List.mem_of_getElem? (i := 2) rfl))) (mvT hZ (hw _ (List.mem_of_getElem? (i := 3) rfl))) (mvT hZ (hw _ (List.mem_of_getElem? (i := 4) rfl))) (by decide) (backOf (W := 0) (rm1_13 l Z a0 hw [] b1 k1 z8_0 z6_1 z8_2 z7_3 T8.heap n0 Z8 Vq8 g_b1) hZ (hw _ (List.mem_of_getElem? (i := 4) rfl)) (hw _ (List.mem_of_getElem? (i := 3) rfl)) (by decide) (by decide)) (g := (mkF m 50 #[.val (.int p1), .val (.int p2), .val (.int p3), .val (.int p4), .val (.int p5), .val (.int p6), .val (.ref b1), .unset, .unset, .unset] [(.int (3 : Int32)), (.int (1 : Int32)), (.ref b1)])) rfl (by rw [hml]; rfl) (argsL := [(.ref b1), (.int (1 : Int32)), (.int (3 : Int32))]) (rest := []) (lenOf pd___III_V rfl) rfl (by show 2 * 0 + _ ≤ _; exact Nat.le_of_eq rfl) (hb hby at_50) (fun _ _ => ⟨rfl, eq8, (by decide : 1 + 0 ≤ _), (by decide : 4 + 0 ≤ _)⟩)
  dsimp only [Pt.U, Pt.locs, Pt.cells, Pt.slots] at X9 l9 y9 z9 st9 hQ9
  subst l9 y9 z9
  obtain ⟨rfl, Nq9, Kq9, Vq9⟩ := hQ9
  have N9 := Fr.app N8 Nq9
  obtain ⟨z9_1, hz9_1⟩ : ∃ z, z = own_lo z6_1 z7_3 := ⟨_, rfl⟩
  obtain ⟨z9_3, hz9_3⟩ : ∃ z, z = own_hi z6_1 z7_3 := ⟨_, rfl⟩
  have hd9 := own_two z6_1 z7_3
  rw [← hz9_1, ← hz9_3] at Vq9 hd9
  have Z9 : n0 ≤ T9.heap.size := Nat.le_trans Z8 Kq9.1
  have eq9 : T9.heap = T9.heap := rfl
  refine Goes.via (B := T9.setTop (mkF m 53 #[.val (.int p1), .val (.int p2), .val (.int p3), .val (.int p4), .val (.int p5), .val (.int p6), .val (.ref b1), .unset, .unset, .unset] [])) st9 ?_
  refine Goes.via (B := T9.setTop (mkF m 55 #[.val (.int p1), .val (.int p2), .val (.int p3), .val (.int p4), .val (.int p5), .val (.int p6), .val (.ref b1), .unset, .unset, .unset] [(.ref b1)])) (fun t k => XS.aload X9.here hx rfl (hb hby at_53) rfl rfl k) ?_
  refine Goes.via (B := T9.setTop (mkF m 56 #[.val (.int p1), .val (.int p2), .val (.int p3), .val (.int p4), .val (.int p5), .val (.int p6), .val (.ref b1), .unset, .unset, .unset] [(.int (1 : Int32)), (.ref b1)])) (fun t k => XS.iconst X9.here hx rfl (hb hby at_55) k) ?_
  refine Goes.via (B := T9.setTop (mkF m 57 #[.val (.int p1), .val (.int p2), .val (.int p3), .val (.int p4), .val (.int p5), .val (.int p6), .val (.ref b1), .unset, .unset, .unset] [(.int (2 : Int32)), (.int (1 : Int32)), (.ref b1)])) (fun t k => XS.iconst X9.here hx rfl (hb hby at_56) k) ?_
  obtain ⟨_, _, ⟨T10, L10, kk10, nn10⟩, -, X10, ⟨Lc10, hQ10, l10, y10, z10⟩, st10⟩ := Jvm.LawKit.callS X9 hx (y := (⟨"com/example/noise_to_nodes/noisetonodes/AscendingIntsCountBelowPinLaw", "cx", "([III)V"⟩ : MethodName)) hown (mvT hZ (hw _ (List.mem_of_getElem? (i := 1) rfl))) (mvT hZ (hw _ (List.mem_of_getElem? (i := 2) rfl))) (mvT hZ (hw _ (List.mem_of_getElem? (i := 3) rfl))) (mvT hZ (hw _ (List.mem_of_getElem? (i := 4) rfl))) (by decide) (backOf (W := 0) (rm1_12 l Z a0 hw [] b1 k1 z8_0 z9_1 z8_2 z9_3 T9.heap n0 Z9 Vq9 g_b1) hZ (hw _ (List.mem_of_getElem? (i := 4) rfl)) (hw _ (List.mem_of_getElem? (i := 3) rfl)) (by decide) (by decide)) (g := (mkF m 57 #[.val (.int p1), .val (.int p2), .val (.int p3), .val (.int p4), .val (.int p5), .val (.int p6), .val (.ref b1), .unset, .unset, .unset] [(.int (2 : Int32)), (.int (1 : Int32)), (.ref b1)])) rfl (by rw [hml]; rfl) (argsL := [(.ref b1), (.int (1 : Int32)), (.int (2 : Int32))]) (rest := []) (lenOf pd___III_V rfl) rfl (by show 2 * 0 + _ ≤ _; exact Nat.le_of_eq rfl) (hb hby at_57) (fun _ _ => ⟨rfl, eq9, (by decide : 1 + 0 ≤ _), (by decide : 4 + 0 ≤ _)⟩)
  dsimp only [Pt.U, Pt.locs, Pt.cells, Pt.slots] at X10 l10 y10 z10 st10 hQ10
  subst l10 y10 z10
  obtain ⟨rfl, Nq10, Kq10, Vq10⟩ := hQ10
  have N10 := Fr.app N9 Nq10
  obtain ⟨z10_1, hz10_1⟩ : ∃ z, z = own_lo z9_1 z8_2 := ⟨_, rfl⟩
  obtain ⟨z10_2, hz10_2⟩ : ∃ z, z = own_hi z9_1 z8_2 := ⟨_, rfl⟩
  have hd10 := own_two z9_1 z8_2
  rw [← hz10_1, ← hz10_2] at Vq10 hd10
  have Z10 : n0 ≤ T10.heap.size := Nat.le_trans Z9 Kq10.1
  have eq10 : T10.heap = T10.heap := rfl
  refine Goes.via (B := T10.setTop (mkF m 60 #[.val (.int p1), .val (.int p2), .val (.int p3), .val (.int p4), .val (.int p5), .val (.int p6), .val (.ref b1), .unset, .unset, .unset] [])) st10 ?_
  refine Goes.via (B := T10.setTop (mkF m 62 #[.val (.int p1), .val (.int p2), .val (.int p3), .val (.int p4), .val (.int p5), .val (.int p6), .val (.ref b1), .unset, .unset, .unset] [(.int p5)])) (fun t k => XS.iload X10.here hx rfl (hb hby at_60) rfl k) ?_
  refine Goes.via (B := T10.setTop (mkF m 64 #[.val (.int p1), .val (.int p2), .val (.int p3), .val (.int p4), .val (.int p5), .val (.int p6), .val (.ref b1), .unset, .unset, .unset] [(.int (2147483647 : Int32)), (.int p5)])) (fun t k => X10.ldcInt hx hown (mvT hZ (hw _ (List.mem_of_getElem? (i := 5) rfl))) (g := (mkF m 62 #[.val (.int p1), .val (.int p2), .val (.int p3), .val (.int p4), .val (.int p5), .val (.int p6), .val (.ref b1), .unset, .unset, .unset] [(.int p5)])) rfl (hb hby at_62) _ k) ?_
  refine Goes.via (B := T10.setTop (mkF m 65 #[.val (.int p1), .val (.int p2), .val (.int p3), .val (.int p4), .val (.int p5), .val (.int p6), .val (.ref b1), .unset, .unset, .unset] [(.int (p5 &&& (2147483647 : Int32)))])) (fun t k => XS.iand X10.here hx rfl (hb hby at_64) rfl k) ?_
  refine Goes.via (B := T10.setTop (mkF m 66 #[.val (.int p1), .val (.int p2), .val (.int p3), .val (.int p4), .val (.int p5), .val (.int p6), .val (.ref b1), .unset, .unset, .unset] [(.int (5 : Int32)), (.int (p5 &&& (2147483647 : Int32)))])) (fun t k => XS.iconst X10.here hx rfl (hb hby at_65) k) ?_
  refine Goes.via (B := T10.setTop (mkF m 67 #[.val (.int p1), .val (.int p2), .val (.int p3), .val (.int p4), .val (.int p5), .val (.int p6), .val (.ref b1), .unset, .unset, .unset] [(.int ((p5 &&& (2147483647 : Int32)) % (5 : Int32)))])) (fun t k => iremM X10 hx rfl (hb hby at_66) rfl (by decide) k) ?_
  refine Goes.via (B := T10.setTop (mkF m 69 #[.val (.int p1), .val (.int p2), .val (.int p3), .val (.int p4), .val (.int p5), .val (.int p6), .val (.ref b1), .val (.int ((p5 &&& (2147483647 : Int32)) % (5 : Int32))), .unset, .unset] [])) (fun t k => XS.istore X10.here hx rfl (hb hby at_67) rfl (l' := #[.val (.int p1), .val (.int p2), .val (.int p3), .val (.int p4), .val (.int p5), .val (.int p6), .val (.ref b1), .val (.int ((p5 &&& (2147483647 : Int32)) % (5 : Int32))), .unset, .unset]) rfl k) ?_
  generalize hv7 : ((p5 &&& (2147483647 : Int32)) % (5 : Int32)) = v7
  refine Goes.via (B := T10.setTop (mkF m 70 #[.val (.int p1), .val (.int p2), .val (.int p3), .val (.int p4), .val (.int p5), .val (.int p6), .val (.ref b1), .val (.int v7), .unset, .unset] [(.int (0 : Int32))])) (fun t k => XS.iconst X10.here hx rfl (hb hby at_69) k) ?_
  refine Goes.via (B := T10.setTop (mkF m 72 #[.val (.int p1), .val (.int p2), .val (.int p3), .val (.int p4), .val (.int p5), .val (.int p6), .val (.ref b1), .val (.int v7), .val (.int (0 : Int32)), .unset] [])) (fun t k => XS.istore X10.here hx rfl (hb hby at_70) rfl (l' := #[.val (.int p1), .val (.int p2), .val (.int p3), .val (.int p4), .val (.int p5), .val (.int p6), .val (.ref b1), .val (.int v7), .val (.int (0 : Int32)), .unset]) rfl k) ?_
  generalize hcc0 : (0 : Int32) = cc0
  have hs := own_sorted hd6 hd7 hd8 hd9 hd10
  rcases own_n hv7 with rfl | rfl | rfl | rfl | rfl
  · refine Goes.via (B := T10.setTop (mkF m 73 #[.val (.int p1), .val (.int p2), .val (.int p3), .val (.int p4), .val (.int p5), .val (.int p6), .val (.ref b1), .val (.int (0 : Int32)), .val (.int cc0), .unset] [(.int (0 : Int32))])) (fun t k => XS.iconst X10.here hx rfl (hb hby at_72) k) ?_
    refine Goes.via (B := T10.setTop (mkF m 75 #[.val (.int p1), .val (.int p2), .val (.int p3), .val (.int p4), .val (.int p5), .val (.int p6), .val (.ref b1), .val (.int (0 : Int32)), .val (.int cc0), .unset] [(.int (0 : Int32)), (.int (0 : Int32))])) (fun t k => XS.iload X10.here hx rfl (hb hby at_73) rfl k) ?_
    refine Goes.via (B := T10.setTop (mkF m 93 #[.val (.int p1), .val (.int p2), .val (.int p3), .val (.int p4), .val (.int p5), .val (.int p6), .val (.ref b1), .val (.int (0 : Int32)), .val (.int cc0), .unset] [])) (fun t k => XS.icmpYes X10.here hx rfl (pc0 := 75) (pc' := 93) rfl (hb hby at_75) rfl (flt (by decide : ¬ (0 : Int32) < (0 : Int32))).2.1 (by decide) (by decide) k) ?_
    refine Goes.via (B := T10.setTop (mkF m 94 #[.val (.int p1), .val (.int p2), .val (.int p3), .val (.int p4), .val (.int p5), .val (.int p6), .val (.ref b1), .val (.int (0 : Int32)), .val (.int cc0), .unset] [(.int (1 : Int32))])) (fun t k => XS.iconst X10.here hx rfl (hb hby at_93) k) ?_
    refine Goes.via (B := T10.setTop (mkF m 96 #[.val (.int p1), .val (.int p2), .val (.int p3), .val (.int p4), .val (.int p5), .val (.int p6), .val (.ref b1), .val (.int (0 : Int32)), .val (.int cc0), .unset] [(.int (0 : Int32)), (.int (1 : Int32))])) (fun t k => XS.iload X10.here hx rfl (hb hby at_94) rfl k) ?_
    refine Goes.via (B := T10.setTop (mkF m 114 #[.val (.int p1), .val (.int p2), .val (.int p3), .val (.int p4), .val (.int p5), .val (.int p6), .val (.ref b1), .val (.int (0 : Int32)), .val (.int cc0), .unset] [])) (fun t k => XS.icmpYes X10.here hx rfl (pc0 := 96) (pc' := 114) rfl (hb hby at_96) rfl (flt (by decide : ¬ (1 : Int32) < (0 : Int32))).2.1 (by decide) (by decide) k) ?_
    refine Goes.via (B := T10.setTop (mkF m 115 #[.val (.int p1), .val (.int p2), .val (.int p3), .val (.int p4), .val (.int p5), .val (.int p6), .val (.ref b1), .val (.int (0 : Int32)), .val (.int cc0), .unset] [(.int (2 : Int32))])) (fun t k => XS.iconst X10.here hx rfl (hb hby at_114) k) ?_
    refine Goes.via (B := T10.setTop (mkF m 117 #[.val (.int p1), .val (.int p2), .val (.int p3), .val (.int p4), .val (.int p5), .val (.int p6), .val (.ref b1), .val (.int (0 : Int32)), .val (.int cc0), .unset] [(.int (0 : Int32)), (.int (2 : Int32))])) (fun t k => XS.iload X10.here hx rfl (hb hby at_115) rfl k) ?_
    refine Goes.via (B := T10.setTop (mkF m 135 #[.val (.int p1), .val (.int p2), .val (.int p3), .val (.int p4), .val (.int p5), .val (.int p6), .val (.ref b1), .val (.int (0 : Int32)), .val (.int cc0), .unset] [])) (fun t k => XS.icmpYes X10.here hx rfl (pc0 := 117) (pc' := 135) rfl (hb hby at_117) rfl (flt (by decide : ¬ (2 : Int32) < (0 : Int32))).2.1 (by decide) (by decide) k) ?_
    refine Goes.via (B := T10.setTop (mkF m 136 #[.val (.int p1), .val (.int p2), .val (.int p3), .val (.int p4), .val (.int p5), .val (.int p6), .val (.ref b1), .val (.int (0 : Int32)), .val (.int cc0), .unset] [(.int (3 : Int32))])) (fun t k => XS.iconst X10.here hx rfl (hb hby at_135) k) ?_
    refine Goes.via (B := T10.setTop (mkF m 138 #[.val (.int p1), .val (.int p2), .val (.int p3), .val (.int p4), .val (.int p5), .val (.int p6), .val (.ref b1), .val (.int (0 : Int32)), .val (.int cc0), .unset] [(.int (0 : Int32)), (.int (3 : Int32))])) (fun t k => XS.iload X10.here hx rfl (hb hby at_136) rfl k) ?_
    refine Goes.via (B := T10.setTop (mkF m 156 #[.val (.int p1), .val (.int p2), .val (.int p3), .val (.int p4), .val (.int p5), .val (.int p6), .val (.ref b1), .val (.int (0 : Int32)), .val (.int cc0), .unset] [])) (fun t k => XS.icmpYes X10.here hx rfl (pc0 := 138) (pc' := 156) rfl (hb hby at_138) rfl (flt (by decide : ¬ (3 : Int32) < (0 : Int32))).2.1 (by decide) (by decide) k) ?_
    refine Goes.via (B := T10.setTop (mkF m 158 #[.val (.int p1), .val (.int p2), .val (.int p3), .val (.int p4), .val (.int p5), .val (.int p6), .val (.ref b1), .val (.int (0 : Int32)), .val (.int cc0), .unset] [(.ref b1)])) (fun t k => XS.aload X10.here hx rfl (hb hby at_156) rfl rfl k) ?_
    refine Goes.via (B := T10.setTop (mkF m 160 #[.val (.int p1), .val (.int p2), .val (.int p3), .val (.int p4), .val (.int p5), .val (.int p6), .val (.ref b1), .val (.int (0 : Int32)), .val (.int cc0), .unset] [(.int (0 : Int32)), (.ref b1)])) (fun t k => XS.iload X10.here hx rfl (hb hby at_158) rfl k) ?_
    refine Goes.via (B := T10.setTop (mkF m 162 #[.val (.int p1), .val (.int p2), .val (.int p3), .val (.int p4), .val (.int p5), .val (.int p6), .val (.ref b1), .val (.int (0 : Int32)), .val (.int cc0), .unset] [(.int p6), (.int (0 : Int32)), (.ref b1)])) (fun t k => XS.iload X10.here hx rfl (hb hby at_160) rfl k) ?_
    obtain ⟨_, _, ⟨T11, L11, kk11, nn11⟩, -, X11, ⟨Lc11, hQ11, l11, y11, z11⟩, st11⟩ := Jvm.LawKit.callS X10 hx (y := (⟨"com/example/noise_to_nodes/noisetonodes/AscendingInts", "countBelow", "([III)I"⟩ : MethodName)) hown (mvT hZ (hw _ (List.mem_of_getElem? (i := 6) rfl))) (mvT hZ (hw _ (List.mem_of_getElem? (i := 7) rfl))) (mvT hZ (hw _ (List.mem_of_getElem? (i := 8) rfl))) (mvT hZ (hw _ (List.mem_of_getElem? (i := 9) rfl))) (by decide) (backOf (W := 0) (rm2_0 l Z a0 hw [] b1 k1 z8_0 z10_1 z10_2 z9_3 p6 T10.heap n0 Z10 Vq10) hZ (hw _ (List.mem_of_getElem? (i := 9) rfl)) (hw _ (List.mem_of_getElem? (i := 8) rfl)) (by decide) (by decide)) (g := (mkF m 162 #[.val (.int p1), .val (.int p2), .val (.int p3), .val (.int p4), .val (.int p5), .val (.int p6), .val (.ref b1), .val (.int (0 : Int32)), .val (.int cc0), .unset] [(.int p6), (.int (0 : Int32)), (.ref b1)])) rfl (by rw [hml]; rfl) (argsL := [(.ref b1), (.int (0 : Int32)), (.int p6)]) (rest := []) (lenOf pd___III_I rfl) rfl (by show 2 * 0 + _ ≤ _; exact Nat.le_of_eq rfl) (hb hby at_162) (fun _ _ => ⟨rfl, eq10, (by decide : 1 + 0 ≤ _), (by decide : 4 + 0 ≤ _)⟩)
    dsimp only [Pt.U, Pt.locs, Pt.cells, Pt.slots] at X11 l11 y11 z11 st11 hQ11
    subst l11 y11 z11
    obtain ⟨rfl, Nq11, hq11⟩ := hQ11
    have N11 := Fr.app N10 Nq11
    refine Goes.via (B := T11.setTop (mkF m 165 #[.val (.int p1), .val (.int p2), .val (.int p3), .val (.int p4), .val (.int p5), .val (.int p6), .val (.ref b1), .val (.int (0 : Int32)), .val (.int cc0), .unset] [(.int (own_b0 z8_0 z10_1 z10_2 z9_3 p6))])) st11 ?_
    refine Goes.via (B := T11.setTop (mkF m 167 #[.val (.int p1), .val (.int p2), .val (.int p3), .val (.int p4), .val (.int p5), .val (.int p6), .val (.ref b1), .val (.int (0 : Int32)), .val (.int cc0), .val (.int (own_b0 z8_0 z10_1 z10_2 z9_3 p6))] [])) (fun t k => XS.istore X11.here hx rfl (hb hby at_165) rfl (l' := #[.val (.int p1), .val (.int p2), .val (.int p3), .val (.int p4), .val (.int p5), .val (.int p6), .val (.ref b1), .val (.int (0 : Int32)), .val (.int cc0), .val (.int (own_b0 z8_0 z10_1 z10_2 z9_3 p6))]) rfl k) ?_
    refine Goes.via (B := T11.setTop (mkF m 169 #[.val (.int p1), .val (.int p2), .val (.int p3), .val (.int p4), .val (.int p5), .val (.int p6), .val (.ref b1), .val (.int (0 : Int32)), .val (.int cc0), .val (.int (own_b0 z8_0 z10_1 z10_2 z9_3 p6))] [(.int (own_b0 z8_0 z10_1 z10_2 z9_3 p6))])) (fun t k => XS.iload X11.here hx rfl (hb hby at_167) rfl k) ?_
    refine Goes.via (B := T11.setTop (mkF m 171 #[.val (.int p1), .val (.int p2), .val (.int p3), .val (.int p4), .val (.int p5), .val (.int p6), .val (.ref b1), .val (.int (0 : Int32)), .val (.int cc0), .val (.int (own_b0 z8_0 z10_1 z10_2 z9_3 p6))] [(.int cc0), (.int (own_b0 z8_0 z10_1 z10_2 z9_3 p6))])) (fun t k => XS.iload X11.here hx rfl (hb hby at_169) rfl k) ?_
    refine Goes.via (B := T11.setTop (mkF m 174 #[.val (.int p1), .val (.int p2), .val (.int p3), .val (.int p4), .val (.int p5), .val (.int p6), .val (.ref b1), .val (.int (0 : Int32)), .val (.int cc0), .val (.int (own_b0 z8_0 z10_1 z10_2 z9_3 p6))] [])) (fun t k => XS.icmpNo X11.here hx rfl (hb hby at_171) rfl (teq (own_fin0 hs hcc0)).2 k) ?_
    refine Goes.via (B := T11.setTop (mkF m 175 #[.val (.int p1), .val (.int p2), .val (.int p3), .val (.int p4), .val (.int p5), .val (.int p6), .val (.ref b1), .val (.int (0 : Int32)), .val (.int cc0), .val (.int (own_b0 z8_0 z10_1 z10_2 z9_3 p6))] [(.int (1 : Int32))])) (fun t k => XS.iconst X11.here hx rfl (hb hby at_174) k) ?_
    refine Goes.via (B := T11.setTop (mkF m 179 #[.val (.int p1), .val (.int p2), .val (.int p3), .val (.int p4), .val (.int p5), .val (.int p6), .val (.ref b1), .val (.int (0 : Int32)), .val (.int cc0), .val (.int (own_b0 z8_0 z10_1 z10_2 z9_3 p6))] [(.int (1 : Int32))])) (fun t k => XS.goto X11.here hx rfl (pc0 := 175) (pc' := 179) rfl (hb hby at_175) (by decide) (by decide) k) ?_
    exact own_out X11 (v := some (.int (1 : Int32))) (fun h => by rw [Bd.returns] at h; cases h) Bd.notSynchronized (fun fs hr => retOut X11 hx Bd.returns rfl (Or.inl ⟨rfl, Or.inr (Or.inl rfl), _, rfl⟩) (hb hby at_179) hr) ⟨rfl, N11⟩ (by decide) (by decide)
  · refine Goes.via (B := T10.setTop (mkF m 73 #[.val (.int p1), .val (.int p2), .val (.int p3), .val (.int p4), .val (.int p5), .val (.int p6), .val (.ref b1), .val (.int (1 : Int32)), .val (.int cc0), .unset] [(.int (0 : Int32))])) (fun t k => XS.iconst X10.here hx rfl (hb hby at_72) k) ?_
    refine Goes.via (B := T10.setTop (mkF m 75 #[.val (.int p1), .val (.int p2), .val (.int p3), .val (.int p4), .val (.int p5), .val (.int p6), .val (.ref b1), .val (.int (1 : Int32)), .val (.int cc0), .unset] [(.int (1 : Int32)), (.int (0 : Int32))])) (fun t k => XS.iload X10.here hx rfl (hb hby at_73) rfl k) ?_
    refine Goes.via (B := T10.setTop (mkF m 78 #[.val (.int p1), .val (.int p2), .val (.int p3), .val (.int p4), .val (.int p5), .val (.int p6), .val (.ref b1), .val (.int (1 : Int32)), .val (.int cc0), .unset] [])) (fun t k => XS.icmpNo X10.here hx rfl (hb hby at_75) rfl (tlt (by decide : (0 : Int32) < (1 : Int32))).2.1 k) ?_
    refine Goes.via (B := T10.setTop (mkF m 80 #[.val (.int p1), .val (.int p2), .val (.int p3), .val (.int p4), .val (.int p5), .val (.int p6), .val (.ref b1), .val (.int (1 : Int32)), .val (.int cc0), .unset] [(.ref b1)])) (fun t k => XS.aload X10.here hx rfl (hb hby at_78) rfl rfl k) ?_
    refine Goes.via (B := T10.setTop (mkF m 81 #[.val (.int p1), .val (.int p2), .val (.int p3), .val (.int p4), .val (.int p5), .val (.int p6), .val (.ref b1), .val (.int (1 : Int32)), .val (.int cc0), .unset] [(.int (0 : Int32)), (.ref b1)])) (fun t k => XS.iconst X10.here hx rfl (hb hby at_80) k) ?_
    obtain ⟨cl12, Ar12, q12, S12, M12, H12, G12⟩ := Vq10
    have hin12 : ¬ ((0 : Int32) < 0 ∨ cl12.slots.size ≤ ((0 : Int32)).toNatClampNeg) := inb_of S12 ⟨by decide, by decide⟩
    have hat12 : cl12.slots[((0 : Int32)).toNatClampNeg]? = some (.int z8_0) := H12.at hin12 rfl
    refine Goes.via (B := T10.setTop (mkF m 82 #[.val (.int p1), .val (.int p2), .val (.int p3), .val (.int p4), .val (.int p5), .val (.int p6), .val (.ref b1), .val (.int (1 : Int32)), .val (.int cc0), .unset] [(.int z8_0)])) (fun t k => X10.iaload hx (j := (0 : Int32)) (v := (.int z8_0)) (by rw [eq10]; exact Ar12.1) (State.isArrayOf_alike hZ.alike Ar12.2.1) Ar12.2.2 hin12 hat12 (g := (mkF m 81 #[.val (.int p1), .val (.int p2), .val (.int p3), .val (.int p4), .val (.int p5), .val (.int p6), .val (.ref b1), .val (.int (1 : Int32)), .val (.int cc0), .unset] [(.int (0 : Int32)), (.ref b1)])) rfl rfl (hb hby at_81) _ k) ?_
    refine Goes.via (B := T10.setTop (mkF m 84 #[.val (.int p1), .val (.int p2), .val (.int p3), .val (.int p4), .val (.int p5), .val (.int p6), .val (.ref b1), .val (.int (1 : Int32)), .val (.int cc0), .unset] [(.int p6), (.int z8_0)])) (fun t k => XS.iload X10.here hx rfl (hb hby at_82) rfl k) ?_
    refine own_join (B := T10.setTop (mkF m 93 #[.val (.int p1), .val (.int p2), .val (.int p3), .val (.int p4), .val (.int p5), .val (.int p6), .val (.ref b1), .val (.int (1 : Int32)), .val (.int (own_c0 z8_0 p6 cc0)), .unset] [])) (fun kj => ?_) ?_
    · by_cases c84_13 : z8_0 < p6
      · refine Goes.via (B := T10.setTop (mkF m 87 #[.val (.int p1), .val (.int p2), .val (.int p3), .val (.int p4), .val (.int p5), .val (.int p6), .val (.ref b1), .val (.int (1 : Int32)), .val (.int cc0), .unset] [])) (fun t k => XS.icmpNo X10.here hx rfl (hb hby at_84) rfl (tlt c84_13).2.1 k) ?_
        refine Goes.via (B := T10.setTop (mkF m 89 #[.val (.int p1), .val (.int p2), .val (.int p3), .val (.int p4), .val (.int p5), .val (.int p6), .val (.ref b1), .val (.int (1 : Int32)), .val (.int cc0), .unset] [(.int cc0)])) (fun t k => XS.iload X10.here hx rfl (hb hby at_87) rfl k) ?_
        refine Goes.via (B := T10.setTop (mkF m 90 #[.val (.int p1), .val (.int p2), .val (.int p3), .val (.int p4), .val (.int p5), .val (.int p6), .val (.ref b1), .val (.int (1 : Int32)), .val (.int cc0), .unset] [(.int (1 : Int32)), (.int cc0)])) (fun t k => XS.iconst X10.here hx rfl (hb hby at_89) k) ?_
        refine Goes.via (B := T10.setTop (mkF m 91 #[.val (.int p1), .val (.int p2), .val (.int p3), .val (.int p4), .val (.int p5), .val (.int p6), .val (.ref b1), .val (.int (1 : Int32)), .val (.int cc0), .unset] [(.int (cc0 + (1 : Int32)))])) (fun t k => XS.iadd X10.here hx rfl (hb hby at_90) rfl k) ?_
        refine Goes.via (B := T10.setTop (mkF m 93 #[.val (.int p1), .val (.int p2), .val (.int p3), .val (.int p4), .val (.int p5), .val (.int p6), .val (.ref b1), .val (.int (1 : Int32)), .val (.int (cc0 + (1 : Int32))), .unset] [])) (fun t k => XS.istore X10.here hx rfl (hb hby at_91) rfl (l' := #[.val (.int p1), .val (.int p2), .val (.int p3), .val (.int p4), .val (.int p5), .val (.int p6), .val (.ref b1), .val (.int (1 : Int32)), .val (.int (cc0 + (1 : Int32))), .unset]) rfl k) ?_
        have hj : (own_c0 z8_0 p6 cc0) = (cc0 + (1 : Int32)) := by rw [own_c0, if_pos c84_13]
        rw [hj] at kj
        exact kj
      · refine Goes.via (B := T10.setTop (mkF m 93 #[.val (.int p1), .val (.int p2), .val (.int p3), .val (.int p4), .val (.int p5), .val (.int p6), .val (.ref b1), .val (.int (1 : Int32)), .val (.int cc0), .unset] [])) (fun t k => XS.icmpYes X10.here hx rfl (pc0 := 84) (pc' := 93) rfl (hb hby at_84) rfl (flt c84_13).2.1 (by decide) (by decide) k) ?_
        have hj : (own_c0 z8_0 p6 cc0) = cc0 := by rw [own_c0, if_neg c84_13]
        rw [hj] at kj
        exact kj
    generalize hcc1 : (own_c0 z8_0 p6 cc0) = cc1
    refine Goes.via (B := T10.setTop (mkF m 94 #[.val (.int p1), .val (.int p2), .val (.int p3), .val (.int p4), .val (.int p5), .val (.int p6), .val (.ref b1), .val (.int (1 : Int32)), .val (.int cc1), .unset] [(.int (1 : Int32))])) (fun t k => XS.iconst X10.here hx rfl (hb hby at_93) k) ?_
    refine Goes.via (B := T10.setTop (mkF m 96 #[.val (.int p1), .val (.int p2), .val (.int p3), .val (.int p4), .val (.int p5), .val (.int p6), .val (.ref b1), .val (.int (1 : Int32)), .val (.int cc1), .unset] [(.int (1 : Int32)), (.int (1 : Int32))])) (fun t k => XS.iload X10.here hx rfl (hb hby at_94) rfl k) ?_
    refine Goes.via (B := T10.setTop (mkF m 114 #[.val (.int p1), .val (.int p2), .val (.int p3), .val (.int p4), .val (.int p5), .val (.int p6), .val (.ref b1), .val (.int (1 : Int32)), .val (.int cc1), .unset] [])) (fun t k => XS.icmpYes X10.here hx rfl (pc0 := 96) (pc' := 114) rfl (hb hby at_96) rfl (flt (by decide : ¬ (1 : Int32) < (1 : Int32))).2.1 (by decide) (by decide) k) ?_
    refine Goes.via (B := T10.setTop (mkF m 115 #[.val (.int p1), .val (.int p2), .val (.int p3), .val (.int p4), .val (.int p5), .val (.int p6), .val (.ref b1), .val (.int (1 : Int32)), .val (.int cc1), .unset] [(.int (2 : Int32))])) (fun t k => XS.iconst X10.here hx rfl (hb hby at_114) k) ?_
    refine Goes.via (B := T10.setTop (mkF m 117 #[.val (.int p1), .val (.int p2), .val (.int p3), .val (.int p4), .val (.int p5), .val (.int p6), .val (.ref b1), .val (.int (1 : Int32)), .val (.int cc1), .unset] [(.int (1 : Int32)), (.int (2 : Int32))])) (fun t k => XS.iload X10.here hx rfl (hb hby at_115) rfl k) ?_
    refine Goes.via (B := T10.setTop (mkF m 135 #[.val (.int p1), .val (.int p2), .val (.int p3), .val (.int p4), .val (.int p5), .val (.int p6), .val (.ref b1), .val (.int (1 : Int32)), .val (.int cc1), .unset] [])) (fun t k => XS.icmpYes X10.here hx rfl (pc0 := 117) (pc' := 135) rfl (hb hby at_117) rfl (flt (by decide : ¬ (2 : Int32) < (1 : Int32))).2.1 (by decide) (by decide) k) ?_
    refine Goes.via (B := T10.setTop (mkF m 136 #[.val (.int p1), .val (.int p2), .val (.int p3), .val (.int p4), .val (.int p5), .val (.int p6), .val (.ref b1), .val (.int (1 : Int32)), .val (.int cc1), .unset] [(.int (3 : Int32))])) (fun t k => XS.iconst X10.here hx rfl (hb hby at_135) k) ?_
    refine Goes.via (B := T10.setTop (mkF m 138 #[.val (.int p1), .val (.int p2), .val (.int p3), .val (.int p4), .val (.int p5), .val (.int p6), .val (.ref b1), .val (.int (1 : Int32)), .val (.int cc1), .unset] [(.int (1 : Int32)), (.int (3 : Int32))])) (fun t k => XS.iload X10.here hx rfl (hb hby at_136) rfl k) ?_
    refine Goes.via (B := T10.setTop (mkF m 156 #[.val (.int p1), .val (.int p2), .val (.int p3), .val (.int p4), .val (.int p5), .val (.int p6), .val (.ref b1), .val (.int (1 : Int32)), .val (.int cc1), .unset] [])) (fun t k => XS.icmpYes X10.here hx rfl (pc0 := 138) (pc' := 156) rfl (hb hby at_138) rfl (flt (by decide : ¬ (3 : Int32) < (1 : Int32))).2.1 (by decide) (by decide) k) ?_
    refine Goes.via (B := T10.setTop (mkF m 158 #[.val (.int p1), .val (.int p2), .val (.int p3), .val (.int p4), .val (.int p5), .val (.int p6), .val (.ref b1), .val (.int (1 : Int32)), .val (.int cc1), .unset] [(.ref b1)])) (fun t k => XS.aload X10.here hx rfl (hb hby at_156) rfl rfl k) ?_
    refine Goes.via (B := T10.setTop (mkF m 160 #[.val (.int p1), .val (.int p2), .val (.int p3), .val (.int p4), .val (.int p5), .val (.int p6), .val (.ref b1), .val (.int (1 : Int32)), .val (.int cc1), .unset] [(.int (1 : Int32)), (.ref b1)])) (fun t k => XS.iload X10.here hx rfl (hb hby at_158) rfl k) ?_
    refine Goes.via (B := T10.setTop (mkF m 162 #[.val (.int p1), .val (.int p2), .val (.int p3), .val (.int p4), .val (.int p5), .val (.int p6), .val (.ref b1), .val (.int (1 : Int32)), .val (.int cc1), .unset] [(.int p6), (.int (1 : Int32)), (.ref b1)])) (fun t k => XS.iload X10.here hx rfl (hb hby at_160) rfl k) ?_
    obtain ⟨_, _, ⟨T14, L14, kk14, nn14⟩, -, X14, ⟨Lc14, hQ14, l14, y14, z14⟩, st14⟩ := Jvm.LawKit.callS X10 hx (y := (⟨"com/example/noise_to_nodes/noisetonodes/AscendingInts", "countBelow", "([III)I"⟩ : MethodName)) hown (mvT hZ (hw _ (List.mem_of_getElem? (i := 6) rfl))) (mvT hZ (hw _ (List.mem_of_getElem? (i := 7) rfl))) (mvT hZ (hw _ (List.mem_of_getElem? (i := 8) rfl))) (mvT hZ (hw _ (List.mem_of_getElem? (i := 9) rfl))) (by decide) (backOf (W := 0) (rm2_1 l Z a0 hw [] b1 k1 z8_0 z10_1 z10_2 z9_3 p6 T10.heap n0 Z10 (⟨cl12, Ar12, q12, S12, M12, H12, G12⟩ : Arv Z T10.heap b1 k1 .int (4 : Int32) [(.int z8_0), (.int z10_1), (.int z10_2), (.int z9_3)] (.int (0 : Int32)))) hZ (hw _ (List.mem_of_getElem? (i := 9) rfl)) (hw _ (List.mem_of_getElem? (i := 8) rfl)) (by decide) (by decide)) (g := (mkF m 162 #[.val (.int p1), .val (.int p2), .val (.int p3), .val (.int p4), .val (.int p5), .val (.int p6), .val (.ref b1), .val (.int (1 : Int32)), .val (.int cc1), .unset] [(.int p6), (.int (1 : Int32)), (.ref b1)])) rfl (by rw [hml]; rfl) (argsL := [(.ref b1), (.int (1 : Int32)), (.int p6)]) (rest := []) (lenOf pd___III_I rfl) rfl (by show 2 * 0 + _ ≤ _; exact Nat.le_of_eq rfl) (hb hby at_162) (fun _ _ => ⟨rfl, eq10, (by decide : 1 + 0 ≤ _), (by decide : 4 + 0 ≤ _)⟩)
    dsimp only [Pt.U, Pt.locs, Pt.cells, Pt.slots] at X14 l14 y14 z14 st14 hQ14
    subst l14 y14 z14
    obtain ⟨rfl, Nq14, hq14⟩ := hQ14
    have N14 := Fr.app N10 Nq14
    refine Goes.via (B := T14.setTop (mkF m 165 #[.val (.int p1), .val (.int p2), .val (.int p3), .val (.int p4), .val (.int p5), .val (.int p6), .val (.ref b1), .val (.int (1 : Int32)), .val (.int cc1), .unset] [(.int (own_b1 z8_0 z10_1 z10_2 z9_3 p6))])) st14 ?_
    refine Goes.via (B := T14.setTop (mkF m 167 #[.val (.int p1), .val (.int p2), .val (.int p3), .val (.int p4), .val (.int p5), .val (.int p6), .val (.ref b1), .val (.int (1 : Int32)), .val (.int cc1), .val (.int (own_b1 z8_0 z10_1 z10_2 z9_3 p6))] [])) (fun t k => XS.istore X14.here hx rfl (hb hby at_165) rfl (l' := #[.val (.int p1), .val (.int p2), .val (.int p3), .val (.int p4), .val (.int p5), .val (.int p6), .val (.ref b1), .val (.int (1 : Int32)), .val (.int cc1), .val (.int (own_b1 z8_0 z10_1 z10_2 z9_3 p6))]) rfl k) ?_
    refine Goes.via (B := T14.setTop (mkF m 169 #[.val (.int p1), .val (.int p2), .val (.int p3), .val (.int p4), .val (.int p5), .val (.int p6), .val (.ref b1), .val (.int (1 : Int32)), .val (.int cc1), .val (.int (own_b1 z8_0 z10_1 z10_2 z9_3 p6))] [(.int (own_b1 z8_0 z10_1 z10_2 z9_3 p6))])) (fun t k => XS.iload X14.here hx rfl (hb hby at_167) rfl k) ?_
    refine Goes.via (B := T14.setTop (mkF m 171 #[.val (.int p1), .val (.int p2), .val (.int p3), .val (.int p4), .val (.int p5), .val (.int p6), .val (.ref b1), .val (.int (1 : Int32)), .val (.int cc1), .val (.int (own_b1 z8_0 z10_1 z10_2 z9_3 p6))] [(.int cc1), (.int (own_b1 z8_0 z10_1 z10_2 z9_3 p6))])) (fun t k => XS.iload X14.here hx rfl (hb hby at_169) rfl k) ?_
    refine Goes.via (B := T14.setTop (mkF m 174 #[.val (.int p1), .val (.int p2), .val (.int p3), .val (.int p4), .val (.int p5), .val (.int p6), .val (.ref b1), .val (.int (1 : Int32)), .val (.int cc1), .val (.int (own_b1 z8_0 z10_1 z10_2 z9_3 p6))] [])) (fun t k => XS.icmpNo X14.here hx rfl (hb hby at_171) rfl (teq (own_fin1 hs hcc0 hcc1)).2 k) ?_
    refine Goes.via (B := T14.setTop (mkF m 175 #[.val (.int p1), .val (.int p2), .val (.int p3), .val (.int p4), .val (.int p5), .val (.int p6), .val (.ref b1), .val (.int (1 : Int32)), .val (.int cc1), .val (.int (own_b1 z8_0 z10_1 z10_2 z9_3 p6))] [(.int (1 : Int32))])) (fun t k => XS.iconst X14.here hx rfl (hb hby at_174) k) ?_
    refine Goes.via (B := T14.setTop (mkF m 179 #[.val (.int p1), .val (.int p2), .val (.int p3), .val (.int p4), .val (.int p5), .val (.int p6), .val (.ref b1), .val (.int (1 : Int32)), .val (.int cc1), .val (.int (own_b1 z8_0 z10_1 z10_2 z9_3 p6))] [(.int (1 : Int32))])) (fun t k => XS.goto X14.here hx rfl (pc0 := 175) (pc' := 179) rfl (hb hby at_175) (by decide) (by decide) k) ?_
    exact own_out X14 (v := some (.int (1 : Int32))) (fun h => by rw [Bd.returns] at h; cases h) Bd.notSynchronized (fun fs hr => retOut X14 hx Bd.returns rfl (Or.inl ⟨rfl, Or.inr (Or.inl rfl), _, rfl⟩) (hb hby at_179) hr) ⟨rfl, N14⟩ (by decide) (by decide)
  · refine Goes.via (B := T10.setTop (mkF m 73 #[.val (.int p1), .val (.int p2), .val (.int p3), .val (.int p4), .val (.int p5), .val (.int p6), .val (.ref b1), .val (.int (2 : Int32)), .val (.int cc0), .unset] [(.int (0 : Int32))])) (fun t k => XS.iconst X10.here hx rfl (hb hby at_72) k) ?_
    refine Goes.via (B := T10.setTop (mkF m 75 #[.val (.int p1), .val (.int p2), .val (.int p3), .val (.int p4), .val (.int p5), .val (.int p6), .val (.ref b1), .val (.int (2 : Int32)), .val (.int cc0), .unset] [(.int (2 : Int32)), (.int (0 : Int32))])) (fun t k => XS.iload X10.here hx rfl (hb hby at_73) rfl k) ?_
    refine Goes.via (B := T10.setTop (mkF m 78 #[.val (.int p1), .val (.int p2), .val (.int p3), .val (.int p4), .val (.int p5), .val (.int p6), .val (.ref b1), .val (.int (2 : Int32)), .val (.int cc0), .unset] [])) (fun t k => XS.icmpNo X10.here hx rfl (hb hby at_75) rfl (tlt (by decide : (0 : Int32) < (2 : Int32))).2.1 k) ?_
    refine Goes.via (B := T10.setTop (mkF m 80 #[.val (.int p1), .val (.int p2), .val (.int p3), .val (.int p4), .val (.int p5), .val (.int p6), .val (.ref b1), .val (.int (2 : Int32)), .val (.int cc0), .unset] [(.ref b1)])) (fun t k => XS.aload X10.here hx rfl (hb hby at_78) rfl rfl k) ?_
    refine Goes.via (B := T10.setTop (mkF m 81 #[.val (.int p1), .val (.int p2), .val (.int p3), .val (.int p4), .val (.int p5), .val (.int p6), .val (.ref b1), .val (.int (2 : Int32)), .val (.int cc0), .unset] [(.int (0 : Int32)), (.ref b1)])) (fun t k => XS.iconst X10.here hx rfl (hb hby at_80) k) ?_
    obtain ⟨cl15, Ar15, q15, S15, M15, H15, G15⟩ := Vq10
    have hin15 : ¬ ((0 : Int32) < 0 ∨ cl15.slots.size ≤ ((0 : Int32)).toNatClampNeg) := inb_of S15 ⟨by decide, by decide⟩
    have hat15 : cl15.slots[((0 : Int32)).toNatClampNeg]? = some (.int z8_0) := H15.at hin15 rfl
    refine Goes.via (B := T10.setTop (mkF m 82 #[.val (.int p1), .val (.int p2), .val (.int p3), .val (.int p4), .val (.int p5), .val (.int p6), .val (.ref b1), .val (.int (2 : Int32)), .val (.int cc0), .unset] [(.int z8_0)])) (fun t k => X10.iaload hx (j := (0 : Int32)) (v := (.int z8_0)) (by rw [eq10]; exact Ar15.1) (State.isArrayOf_alike hZ.alike Ar15.2.1) Ar15.2.2 hin15 hat15 (g := (mkF m 81 #[.val (.int p1), .val (.int p2), .val (.int p3), .val (.int p4), .val (.int p5), .val (.int p6), .val (.ref b1), .val (.int (2 : Int32)), .val (.int cc0), .unset] [(.int (0 : Int32)), (.ref b1)])) rfl rfl (hb hby at_81) _ k) ?_
    refine Goes.via (B := T10.setTop (mkF m 84 #[.val (.int p1), .val (.int p2), .val (.int p3), .val (.int p4), .val (.int p5), .val (.int p6), .val (.ref b1), .val (.int (2 : Int32)), .val (.int cc0), .unset] [(.int p6), (.int z8_0)])) (fun t k => XS.iload X10.here hx rfl (hb hby at_82) rfl k) ?_
    refine own_join (B := T10.setTop (mkF m 93 #[.val (.int p1), .val (.int p2), .val (.int p3), .val (.int p4), .val (.int p5), .val (.int p6), .val (.ref b1), .val (.int (2 : Int32)), .val (.int (own_c0 z8_0 p6 cc0)), .unset] [])) (fun kj => ?_) ?_
    · by_cases c84_16 : z8_0 < p6
      · refine Goes.via (B := T10.setTop (mkF m 87 #[.val (.int p1), .val (.int p2), .val (.int p3), .val (.int p4), .val (.int p5), .val (.int p6), .val (.ref b1), .val (.int (2 : Int32)), .val (.int cc0), .unset] [])) (fun t k => XS.icmpNo X10.here hx rfl (hb hby at_84) rfl (tlt c84_16).2.1 k) ?_
        refine Goes.via (B := T10.setTop (mkF m 89 #[.val (.int p1), .val (.int p2), .val (.int p3), .val (.int p4), .val (.int p5), .val (.int p6), .val (.ref b1), .val (.int (2 : Int32)), .val (.int cc0), .unset] [(.int cc0)])) (fun t k => XS.iload X10.here hx rfl (hb hby at_87) rfl k) ?_
        refine Goes.via (B := T10.setTop (mkF m 90 #[.val (.int p1), .val (.int p2), .val (.int p3), .val (.int p4), .val (.int p5), .val (.int p6), .val (.ref b1), .val (.int (2 : Int32)), .val (.int cc0), .unset] [(.int (1 : Int32)), (.int cc0)])) (fun t k => XS.iconst X10.here hx rfl (hb hby at_89) k) ?_
        refine Goes.via (B := T10.setTop (mkF m 91 #[.val (.int p1), .val (.int p2), .val (.int p3), .val (.int p4), .val (.int p5), .val (.int p6), .val (.ref b1), .val (.int (2 : Int32)), .val (.int cc0), .unset] [(.int (cc0 + (1 : Int32)))])) (fun t k => XS.iadd X10.here hx rfl (hb hby at_90) rfl k) ?_
        refine Goes.via (B := T10.setTop (mkF m 93 #[.val (.int p1), .val (.int p2), .val (.int p3), .val (.int p4), .val (.int p5), .val (.int p6), .val (.ref b1), .val (.int (2 : Int32)), .val (.int (cc0 + (1 : Int32))), .unset] [])) (fun t k => XS.istore X10.here hx rfl (hb hby at_91) rfl (l' := #[.val (.int p1), .val (.int p2), .val (.int p3), .val (.int p4), .val (.int p5), .val (.int p6), .val (.ref b1), .val (.int (2 : Int32)), .val (.int (cc0 + (1 : Int32))), .unset]) rfl k) ?_
        have hj : (own_c0 z8_0 p6 cc0) = (cc0 + (1 : Int32)) := by rw [own_c0, if_pos c84_16]
        rw [hj] at kj
        exact kj
      · refine Goes.via (B := T10.setTop (mkF m 93 #[.val (.int p1), .val (.int p2), .val (.int p3), .val (.int p4), .val (.int p5), .val (.int p6), .val (.ref b1), .val (.int (2 : Int32)), .val (.int cc0), .unset] [])) (fun t k => XS.icmpYes X10.here hx rfl (pc0 := 84) (pc' := 93) rfl (hb hby at_84) rfl (flt c84_16).2.1 (by decide) (by decide) k) ?_
        have hj : (own_c0 z8_0 p6 cc0) = cc0 := by rw [own_c0, if_neg c84_16]
        rw [hj] at kj
        exact kj
    generalize hcc1 : (own_c0 z8_0 p6 cc0) = cc1
    refine Goes.via (B := T10.setTop (mkF m 94 #[.val (.int p1), .val (.int p2), .val (.int p3), .val (.int p4), .val (.int p5), .val (.int p6), .val (.ref b1), .val (.int (2 : Int32)), .val (.int cc1), .unset] [(.int (1 : Int32))])) (fun t k => XS.iconst X10.here hx rfl (hb hby at_93) k) ?_
    refine Goes.via (B := T10.setTop (mkF m 96 #[.val (.int p1), .val (.int p2), .val (.int p3), .val (.int p4), .val (.int p5), .val (.int p6), .val (.ref b1), .val (.int (2 : Int32)), .val (.int cc1), .unset] [(.int (2 : Int32)), (.int (1 : Int32))])) (fun t k => XS.iload X10.here hx rfl (hb hby at_94) rfl k) ?_
    refine Goes.via (B := T10.setTop (mkF m 99 #[.val (.int p1), .val (.int p2), .val (.int p3), .val (.int p4), .val (.int p5), .val (.int p6), .val (.ref b1), .val (.int (2 : Int32)), .val (.int cc1), .unset] [])) (fun t k => XS.icmpNo X10.here hx rfl (hb hby at_96) rfl (tlt (by decide : (1 : Int32) < (2 : Int32))).2.1 k) ?_
    refine Goes.via (B := T10.setTop (mkF m 101 #[.val (.int p1), .val (.int p2), .val (.int p3), .val (.int p4), .val (.int p5), .val (.int p6), .val (.ref b1), .val (.int (2 : Int32)), .val (.int cc1), .unset] [(.ref b1)])) (fun t k => XS.aload X10.here hx rfl (hb hby at_99) rfl rfl k) ?_
    refine Goes.via (B := T10.setTop (mkF m 102 #[.val (.int p1), .val (.int p2), .val (.int p3), .val (.int p4), .val (.int p5), .val (.int p6), .val (.ref b1), .val (.int (2 : Int32)), .val (.int cc1), .unset] [(.int (1 : Int32)), (.ref b1)])) (fun t k => XS.iconst X10.here hx rfl (hb hby at_101) k) ?_
    obtain ⟨cl17, Ar17, q17, S17, M17, H17, G17⟩ := (⟨cl15, Ar15, q15, S15, M15, H15, G15⟩ : Arv Z T10.heap b1 k1 .int (4 : Int32) [(.int z8_0), (.int z10_1), (.int z10_2), (.int z9_3)] (.int (0 : Int32)))
    have hin17 : ¬ ((1 : Int32) < 0 ∨ cl17.slots.size ≤ ((1 : Int32)).toNatClampNeg) := inb_of S17 ⟨by decide, by decide⟩
    have hat17 : cl17.slots[((1 : Int32)).toNatClampNeg]? = some (.int z10_1) := H17.at hin17 rfl
    refine Goes.via (B := T10.setTop (mkF m 103 #[.val (.int p1), .val (.int p2), .val (.int p3), .val (.int p4), .val (.int p5), .val (.int p6), .val (.ref b1), .val (.int (2 : Int32)), .val (.int cc1), .unset] [(.int z10_1)])) (fun t k => X10.iaload hx (j := (1 : Int32)) (v := (.int z10_1)) (by rw [eq10]; exact Ar17.1) (State.isArrayOf_alike hZ.alike Ar17.2.1) Ar17.2.2 hin17 hat17 (g := (mkF m 102 #[.val (.int p1), .val (.int p2), .val (.int p3), .val (.int p4), .val (.int p5), .val (.int p6), .val (.ref b1), .val (.int (2 : Int32)), .val (.int cc1), .unset] [(.int (1 : Int32)), (.ref b1)])) rfl rfl (hb hby at_102) _ k) ?_
    refine Goes.via (B := T10.setTop (mkF m 105 #[.val (.int p1), .val (.int p2), .val (.int p3), .val (.int p4), .val (.int p5), .val (.int p6), .val (.ref b1), .val (.int (2 : Int32)), .val (.int cc1), .unset] [(.int p6), (.int z10_1)])) (fun t k => XS.iload X10.here hx rfl (hb hby at_103) rfl k) ?_
    refine own_join (B := T10.setTop (mkF m 114 #[.val (.int p1), .val (.int p2), .val (.int p3), .val (.int p4), .val (.int p5), .val (.int p6), .val (.ref b1), .val (.int (2 : Int32)), .val (.int (own_c1 z10_1 p6 cc1)), .unset] [])) (fun kj => ?_) ?_
    · by_cases c105_18 : z10_1 < p6
      · refine Goes.via (B := T10.setTop (mkF m 108 #[.val (.int p1), .val (.int p2), .val (.int p3), .val (.int p4), .val (.int p5), .val (.int p6), .val (.ref b1), .val (.int (2 : Int32)), .val (.int cc1), .unset] [])) (fun t k => XS.icmpNo X10.here hx rfl (hb hby at_105) rfl (tlt c105_18).2.1 k) ?_
        refine Goes.via (B := T10.setTop (mkF m 110 #[.val (.int p1), .val (.int p2), .val (.int p3), .val (.int p4), .val (.int p5), .val (.int p6), .val (.ref b1), .val (.int (2 : Int32)), .val (.int cc1), .unset] [(.int cc1)])) (fun t k => XS.iload X10.here hx rfl (hb hby at_108) rfl k) ?_
        refine Goes.via (B := T10.setTop (mkF m 111 #[.val (.int p1), .val (.int p2), .val (.int p3), .val (.int p4), .val (.int p5), .val (.int p6), .val (.ref b1), .val (.int (2 : Int32)), .val (.int cc1), .unset] [(.int (1 : Int32)), (.int cc1)])) (fun t k => XS.iconst X10.here hx rfl (hb hby at_110) k) ?_
        refine Goes.via (B := T10.setTop (mkF m 112 #[.val (.int p1), .val (.int p2), .val (.int p3), .val (.int p4), .val (.int p5), .val (.int p6), .val (.ref b1), .val (.int (2 : Int32)), .val (.int cc1), .unset] [(.int (cc1 + (1 : Int32)))])) (fun t k => XS.iadd X10.here hx rfl (hb hby at_111) rfl k) ?_
        refine Goes.via (B := T10.setTop (mkF m 114 #[.val (.int p1), .val (.int p2), .val (.int p3), .val (.int p4), .val (.int p5), .val (.int p6), .val (.ref b1), .val (.int (2 : Int32)), .val (.int (cc1 + (1 : Int32))), .unset] [])) (fun t k => XS.istore X10.here hx rfl (hb hby at_112) rfl (l' := #[.val (.int p1), .val (.int p2), .val (.int p3), .val (.int p4), .val (.int p5), .val (.int p6), .val (.ref b1), .val (.int (2 : Int32)), .val (.int (cc1 + (1 : Int32))), .unset]) rfl k) ?_
        have hj : (own_c1 z10_1 p6 cc1) = (cc1 + (1 : Int32)) := by rw [own_c1, if_pos c105_18]
        rw [hj] at kj
        exact kj
      · refine Goes.via (B := T10.setTop (mkF m 114 #[.val (.int p1), .val (.int p2), .val (.int p3), .val (.int p4), .val (.int p5), .val (.int p6), .val (.ref b1), .val (.int (2 : Int32)), .val (.int cc1), .unset] [])) (fun t k => XS.icmpYes X10.here hx rfl (pc0 := 105) (pc' := 114) rfl (hb hby at_105) rfl (flt c105_18).2.1 (by decide) (by decide) k) ?_
        have hj : (own_c1 z10_1 p6 cc1) = cc1 := by rw [own_c1, if_neg c105_18]
        rw [hj] at kj
        exact kj
    generalize hcc2 : (own_c1 z10_1 p6 cc1) = cc2
    refine Goes.via (B := T10.setTop (mkF m 115 #[.val (.int p1), .val (.int p2), .val (.int p3), .val (.int p4), .val (.int p5), .val (.int p6), .val (.ref b1), .val (.int (2 : Int32)), .val (.int cc2), .unset] [(.int (2 : Int32))])) (fun t k => XS.iconst X10.here hx rfl (hb hby at_114) k) ?_
    refine Goes.via (B := T10.setTop (mkF m 117 #[.val (.int p1), .val (.int p2), .val (.int p3), .val (.int p4), .val (.int p5), .val (.int p6), .val (.ref b1), .val (.int (2 : Int32)), .val (.int cc2), .unset] [(.int (2 : Int32)), (.int (2 : Int32))])) (fun t k => XS.iload X10.here hx rfl (hb hby at_115) rfl k) ?_
    refine Goes.via (B := T10.setTop (mkF m 135 #[.val (.int p1), .val (.int p2), .val (.int p3), .val (.int p4), .val (.int p5), .val (.int p6), .val (.ref b1), .val (.int (2 : Int32)), .val (.int cc2), .unset] [])) (fun t k => XS.icmpYes X10.here hx rfl (pc0 := 117) (pc' := 135) rfl (hb hby at_117) rfl (flt (by decide : ¬ (2 : Int32) < (2 : Int32))).2.1 (by decide) (by decide) k) ?_
    refine Goes.via (B := T10.setTop (mkF m 136 #[.val (.int p1), .val (.int p2), .val (.int p3), .val (.int p4), .val (.int p5), .val (.int p6), .val (.ref b1), .val (.int (2 : Int32)), .val (.int cc2), .unset] [(.int (3 : Int32))])) (fun t k => XS.iconst X10.here hx rfl (hb hby at_135) k) ?_
    refine Goes.via (B := T10.setTop (mkF m 138 #[.val (.int p1), .val (.int p2), .val (.int p3), .val (.int p4), .val (.int p5), .val (.int p6), .val (.ref b1), .val (.int (2 : Int32)), .val (.int cc2), .unset] [(.int (2 : Int32)), (.int (3 : Int32))])) (fun t k => XS.iload X10.here hx rfl (hb hby at_136) rfl k) ?_
    refine Goes.via (B := T10.setTop (mkF m 156 #[.val (.int p1), .val (.int p2), .val (.int p3), .val (.int p4), .val (.int p5), .val (.int p6), .val (.ref b1), .val (.int (2 : Int32)), .val (.int cc2), .unset] [])) (fun t k => XS.icmpYes X10.here hx rfl (pc0 := 138) (pc' := 156) rfl (hb hby at_138) rfl (flt (by decide : ¬ (3 : Int32) < (2 : Int32))).2.1 (by decide) (by decide) k) ?_
    refine Goes.via (B := T10.setTop (mkF m 158 #[.val (.int p1), .val (.int p2), .val (.int p3), .val (.int p4), .val (.int p5), .val (.int p6), .val (.ref b1), .val (.int (2 : Int32)), .val (.int cc2), .unset] [(.ref b1)])) (fun t k => XS.aload X10.here hx rfl (hb hby at_156) rfl rfl k) ?_
    refine Goes.via (B := T10.setTop (mkF m 160 #[.val (.int p1), .val (.int p2), .val (.int p3), .val (.int p4), .val (.int p5), .val (.int p6), .val (.ref b1), .val (.int (2 : Int32)), .val (.int cc2), .unset] [(.int (2 : Int32)), (.ref b1)])) (fun t k => XS.iload X10.here hx rfl (hb hby at_158) rfl k) ?_
    refine Goes.via (B := T10.setTop (mkF m 162 #[.val (.int p1), .val (.int p2), .val (.int p3), .val (.int p4), .val (.int p5), .val (.int p6), .val (.ref b1), .val (.int (2 : Int32)), .val (.int cc2), .unset] [(.int p6), (.int (2 : Int32)), (.ref b1)])) (fun t k => XS.iload X10.here hx rfl (hb hby at_160) rfl k) ?_
    obtain ⟨_, _, ⟨T19, L19, kk19, nn19⟩, -, X19, ⟨Lc19, hQ19, l19, y19, z19⟩, st19⟩ := Jvm.LawKit.callS X10 hx (y := (⟨"com/example/noise_to_nodes/noisetonodes/AscendingInts", "countBelow", "([III)I"⟩ : MethodName)) hown (mvT hZ (hw _ (List.mem_of_getElem? (i := 6) rfl))) (mvT hZ (hw _ (List.mem_of_getElem? (i := 7) rfl))) (mvT hZ (hw _ (List.mem_of_getElem? (i := 8) rfl))) (mvT hZ (hw _ (List.mem_of_getElem? (i := 9) rfl))) (by decide) (backOf (W := 0) (rm2_2 l Z a0 hw [] b1 k1 z8_0 z10_1 z10_2 z9_3 p6 T10.heap n0 Z10 (⟨cl17, Ar17, q17, S17, M17, H17, G17⟩ : Arv Z T10.heap b1 k1 .int (4 : Int32) [(.int z8_0), (.int z10_1), (.int z10_2), (.int z9_3)] (.int (0 : Int32)))) hZ (hw _ (List.mem_of_getElem? (i := 9) rfl)) (hw _ (List.mem_of_getElem? (i := 8) rfl)) (by decide) (by decide)) (g := (mkF m 162 #[.val (.int p1), .val (.int p2), .val (.int p3), .val (.int p4), .val (.int p5), .val (.int p6), .val (.ref b1), .val (.int (2 : Int32)), .val (.int cc2), .unset] [(.int p6), (.int (2 : Int32)), (.ref b1)])) rfl (by rw [hml]; rfl) (argsL := [(.ref b1), (.int (2 : Int32)), (.int p6)]) (rest := []) (lenOf pd___III_I rfl) rfl (by show 2 * 0 + _ ≤ _; exact Nat.le_of_eq rfl) (hb hby at_162) (fun _ _ => ⟨rfl, eq10, (by decide : 1 + 0 ≤ _), (by decide : 4 + 0 ≤ _)⟩)
    dsimp only [Pt.U, Pt.locs, Pt.cells, Pt.slots] at X19 l19 y19 z19 st19 hQ19
    subst l19 y19 z19
    obtain ⟨rfl, Nq19, hq19⟩ := hQ19
    have N19 := Fr.app N10 Nq19
    refine Goes.via (B := T19.setTop (mkF m 165 #[.val (.int p1), .val (.int p2), .val (.int p3), .val (.int p4), .val (.int p5), .val (.int p6), .val (.ref b1), .val (.int (2 : Int32)), .val (.int cc2), .unset] [(.int (own_b2 z8_0 z10_1 z10_2 z9_3 p6))])) st19 ?_
    refine Goes.via (B := T19.setTop (mkF m 167 #[.val (.int p1), .val (.int p2), .val (.int p3), .val (.int p4), .val (.int p5), .val (.int p6), .val (.ref b1), .val (.int (2 : Int32)), .val (.int cc2), .val (.int (own_b2 z8_0 z10_1 z10_2 z9_3 p6))] [])) (fun t k => XS.istore X19.here hx rfl (hb hby at_165) rfl (l' := #[.val (.int p1), .val (.int p2), .val (.int p3), .val (.int p4), .val (.int p5), .val (.int p6), .val (.ref b1), .val (.int (2 : Int32)), .val (.int cc2), .val (.int (own_b2 z8_0 z10_1 z10_2 z9_3 p6))]) rfl k) ?_
    refine Goes.via (B := T19.setTop (mkF m 169 #[.val (.int p1), .val (.int p2), .val (.int p3), .val (.int p4), .val (.int p5), .val (.int p6), .val (.ref b1), .val (.int (2 : Int32)), .val (.int cc2), .val (.int (own_b2 z8_0 z10_1 z10_2 z9_3 p6))] [(.int (own_b2 z8_0 z10_1 z10_2 z9_3 p6))])) (fun t k => XS.iload X19.here hx rfl (hb hby at_167) rfl k) ?_
    refine Goes.via (B := T19.setTop (mkF m 171 #[.val (.int p1), .val (.int p2), .val (.int p3), .val (.int p4), .val (.int p5), .val (.int p6), .val (.ref b1), .val (.int (2 : Int32)), .val (.int cc2), .val (.int (own_b2 z8_0 z10_1 z10_2 z9_3 p6))] [(.int cc2), (.int (own_b2 z8_0 z10_1 z10_2 z9_3 p6))])) (fun t k => XS.iload X19.here hx rfl (hb hby at_169) rfl k) ?_
    refine Goes.via (B := T19.setTop (mkF m 174 #[.val (.int p1), .val (.int p2), .val (.int p3), .val (.int p4), .val (.int p5), .val (.int p6), .val (.ref b1), .val (.int (2 : Int32)), .val (.int cc2), .val (.int (own_b2 z8_0 z10_1 z10_2 z9_3 p6))] [])) (fun t k => XS.icmpNo X19.here hx rfl (hb hby at_171) rfl (teq (own_fin2 hs hcc0 hcc1 hcc2)).2 k) ?_
    refine Goes.via (B := T19.setTop (mkF m 175 #[.val (.int p1), .val (.int p2), .val (.int p3), .val (.int p4), .val (.int p5), .val (.int p6), .val (.ref b1), .val (.int (2 : Int32)), .val (.int cc2), .val (.int (own_b2 z8_0 z10_1 z10_2 z9_3 p6))] [(.int (1 : Int32))])) (fun t k => XS.iconst X19.here hx rfl (hb hby at_174) k) ?_
    refine Goes.via (B := T19.setTop (mkF m 179 #[.val (.int p1), .val (.int p2), .val (.int p3), .val (.int p4), .val (.int p5), .val (.int p6), .val (.ref b1), .val (.int (2 : Int32)), .val (.int cc2), .val (.int (own_b2 z8_0 z10_1 z10_2 z9_3 p6))] [(.int (1 : Int32))])) (fun t k => XS.goto X19.here hx rfl (pc0 := 175) (pc' := 179) rfl (hb hby at_175) (by decide) (by decide) k) ?_
    exact own_out X19 (v := some (.int (1 : Int32))) (fun h => by rw [Bd.returns] at h; cases h) Bd.notSynchronized (fun fs hr => retOut X19 hx Bd.returns rfl (Or.inl ⟨rfl, Or.inr (Or.inl rfl), _, rfl⟩) (hb hby at_179) hr) ⟨rfl, N19⟩ (by decide) (by decide)
  · refine Goes.via (B := T10.setTop (mkF m 73 #[.val (.int p1), .val (.int p2), .val (.int p3), .val (.int p4), .val (.int p5), .val (.int p6), .val (.ref b1), .val (.int (3 : Int32)), .val (.int cc0), .unset] [(.int (0 : Int32))])) (fun t k => XS.iconst X10.here hx rfl (hb hby at_72) k) ?_
    refine Goes.via (B := T10.setTop (mkF m 75 #[.val (.int p1), .val (.int p2), .val (.int p3), .val (.int p4), .val (.int p5), .val (.int p6), .val (.ref b1), .val (.int (3 : Int32)), .val (.int cc0), .unset] [(.int (3 : Int32)), (.int (0 : Int32))])) (fun t k => XS.iload X10.here hx rfl (hb hby at_73) rfl k) ?_
    refine Goes.via (B := T10.setTop (mkF m 78 #[.val (.int p1), .val (.int p2), .val (.int p3), .val (.int p4), .val (.int p5), .val (.int p6), .val (.ref b1), .val (.int (3 : Int32)), .val (.int cc0), .unset] [])) (fun t k => XS.icmpNo X10.here hx rfl (hb hby at_75) rfl (tlt (by decide : (0 : Int32) < (3 : Int32))).2.1 k) ?_
    refine Goes.via (B := T10.setTop (mkF m 80 #[.val (.int p1), .val (.int p2), .val (.int p3), .val (.int p4), .val (.int p5), .val (.int p6), .val (.ref b1), .val (.int (3 : Int32)), .val (.int cc0), .unset] [(.ref b1)])) (fun t k => XS.aload X10.here hx rfl (hb hby at_78) rfl rfl k) ?_
    refine Goes.via (B := T10.setTop (mkF m 81 #[.val (.int p1), .val (.int p2), .val (.int p3), .val (.int p4), .val (.int p5), .val (.int p6), .val (.ref b1), .val (.int (3 : Int32)), .val (.int cc0), .unset] [(.int (0 : Int32)), (.ref b1)])) (fun t k => XS.iconst X10.here hx rfl (hb hby at_80) k) ?_
    obtain ⟨cl20, Ar20, q20, S20, M20, H20, G20⟩ := Vq10
    have hin20 : ¬ ((0 : Int32) < 0 ∨ cl20.slots.size ≤ ((0 : Int32)).toNatClampNeg) := inb_of S20 ⟨by decide, by decide⟩
    have hat20 : cl20.slots[((0 : Int32)).toNatClampNeg]? = some (.int z8_0) := H20.at hin20 rfl
    refine Goes.via (B := T10.setTop (mkF m 82 #[.val (.int p1), .val (.int p2), .val (.int p3), .val (.int p4), .val (.int p5), .val (.int p6), .val (.ref b1), .val (.int (3 : Int32)), .val (.int cc0), .unset] [(.int z8_0)])) (fun t k => X10.iaload hx (j := (0 : Int32)) (v := (.int z8_0)) (by rw [eq10]; exact Ar20.1) (State.isArrayOf_alike hZ.alike Ar20.2.1) Ar20.2.2 hin20 hat20 (g := (mkF m 81 #[.val (.int p1), .val (.int p2), .val (.int p3), .val (.int p4), .val (.int p5), .val (.int p6), .val (.ref b1), .val (.int (3 : Int32)), .val (.int cc0), .unset] [(.int (0 : Int32)), (.ref b1)])) rfl rfl (hb hby at_81) _ k) ?_
    refine Goes.via (B := T10.setTop (mkF m 84 #[.val (.int p1), .val (.int p2), .val (.int p3), .val (.int p4), .val (.int p5), .val (.int p6), .val (.ref b1), .val (.int (3 : Int32)), .val (.int cc0), .unset] [(.int p6), (.int z8_0)])) (fun t k => XS.iload X10.here hx rfl (hb hby at_82) rfl k) ?_
    refine own_join (B := T10.setTop (mkF m 93 #[.val (.int p1), .val (.int p2), .val (.int p3), .val (.int p4), .val (.int p5), .val (.int p6), .val (.ref b1), .val (.int (3 : Int32)), .val (.int (own_c0 z8_0 p6 cc0)), .unset] [])) (fun kj => ?_) ?_
    · by_cases c84_21 : z8_0 < p6
      · refine Goes.via (B := T10.setTop (mkF m 87 #[.val (.int p1), .val (.int p2), .val (.int p3), .val (.int p4), .val (.int p5), .val (.int p6), .val (.ref b1), .val (.int (3 : Int32)), .val (.int cc0), .unset] [])) (fun t k => XS.icmpNo X10.here hx rfl (hb hby at_84) rfl (tlt c84_21).2.1 k) ?_
        refine Goes.via (B := T10.setTop (mkF m 89 #[.val (.int p1), .val (.int p2), .val (.int p3), .val (.int p4), .val (.int p5), .val (.int p6), .val (.ref b1), .val (.int (3 : Int32)), .val (.int cc0), .unset] [(.int cc0)])) (fun t k => XS.iload X10.here hx rfl (hb hby at_87) rfl k) ?_
        refine Goes.via (B := T10.setTop (mkF m 90 #[.val (.int p1), .val (.int p2), .val (.int p3), .val (.int p4), .val (.int p5), .val (.int p6), .val (.ref b1), .val (.int (3 : Int32)), .val (.int cc0), .unset] [(.int (1 : Int32)), (.int cc0)])) (fun t k => XS.iconst X10.here hx rfl (hb hby at_89) k) ?_
        refine Goes.via (B := T10.setTop (mkF m 91 #[.val (.int p1), .val (.int p2), .val (.int p3), .val (.int p4), .val (.int p5), .val (.int p6), .val (.ref b1), .val (.int (3 : Int32)), .val (.int cc0), .unset] [(.int (cc0 + (1 : Int32)))])) (fun t k => XS.iadd X10.here hx rfl (hb hby at_90) rfl k) ?_
        refine Goes.via (B := T10.setTop (mkF m 93 #[.val (.int p1), .val (.int p2), .val (.int p3), .val (.int p4), .val (.int p5), .val (.int p6), .val (.ref b1), .val (.int (3 : Int32)), .val (.int (cc0 + (1 : Int32))), .unset] [])) (fun t k => XS.istore X10.here hx rfl (hb hby at_91) rfl (l' := #[.val (.int p1), .val (.int p2), .val (.int p3), .val (.int p4), .val (.int p5), .val (.int p6), .val (.ref b1), .val (.int (3 : Int32)), .val (.int (cc0 + (1 : Int32))), .unset]) rfl k) ?_
        have hj : (own_c0 z8_0 p6 cc0) = (cc0 + (1 : Int32)) := by rw [own_c0, if_pos c84_21]
        rw [hj] at kj
        exact kj
      · refine Goes.via (B := T10.setTop (mkF m 93 #[.val (.int p1), .val (.int p2), .val (.int p3), .val (.int p4), .val (.int p5), .val (.int p6), .val (.ref b1), .val (.int (3 : Int32)), .val (.int cc0), .unset] [])) (fun t k => XS.icmpYes X10.here hx rfl (pc0 := 84) (pc' := 93) rfl (hb hby at_84) rfl (flt c84_21).2.1 (by decide) (by decide) k) ?_
        have hj : (own_c0 z8_0 p6 cc0) = cc0 := by rw [own_c0, if_neg c84_21]
        rw [hj] at kj
        exact kj
    generalize hcc1 : (own_c0 z8_0 p6 cc0) = cc1
    refine Goes.via (B := T10.setTop (mkF m 94 #[.val (.int p1), .val (.int p2), .val (.int p3), .val (.int p4), .val (.int p5), .val (.int p6), .val (.ref b1), .val (.int (3 : Int32)), .val (.int cc1), .unset] [(.int (1 : Int32))])) (fun t k => XS.iconst X10.here hx rfl (hb hby at_93) k) ?_
    refine Goes.via (B := T10.setTop (mkF m 96 #[.val (.int p1), .val (.int p2), .val (.int p3), .val (.int p4), .val (.int p5), .val (.int p6), .val (.ref b1), .val (.int (3 : Int32)), .val (.int cc1), .unset] [(.int (3 : Int32)), (.int (1 : Int32))])) (fun t k => XS.iload X10.here hx rfl (hb hby at_94) rfl k) ?_
    refine Goes.via (B := T10.setTop (mkF m 99 #[.val (.int p1), .val (.int p2), .val (.int p3), .val (.int p4), .val (.int p5), .val (.int p6), .val (.ref b1), .val (.int (3 : Int32)), .val (.int cc1), .unset] [])) (fun t k => XS.icmpNo X10.here hx rfl (hb hby at_96) rfl (tlt (by decide : (1 : Int32) < (3 : Int32))).2.1 k) ?_
    refine Goes.via (B := T10.setTop (mkF m 101 #[.val (.int p1), .val (.int p2), .val (.int p3), .val (.int p4), .val (.int p5), .val (.int p6), .val (.ref b1), .val (.int (3 : Int32)), .val (.int cc1), .unset] [(.ref b1)])) (fun t k => XS.aload X10.here hx rfl (hb hby at_99) rfl rfl k) ?_
    refine Goes.via (B := T10.setTop (mkF m 102 #[.val (.int p1), .val (.int p2), .val (.int p3), .val (.int p4), .val (.int p5), .val (.int p6), .val (.ref b1), .val (.int (3 : Int32)), .val (.int cc1), .unset] [(.int (1 : Int32)), (.ref b1)])) (fun t k => XS.iconst X10.here hx rfl (hb hby at_101) k) ?_
    obtain ⟨cl22, Ar22, q22, S22, M22, H22, G22⟩ := (⟨cl20, Ar20, q20, S20, M20, H20, G20⟩ : Arv Z T10.heap b1 k1 .int (4 : Int32) [(.int z8_0), (.int z10_1), (.int z10_2), (.int z9_3)] (.int (0 : Int32)))
    have hin22 : ¬ ((1 : Int32) < 0 ∨ cl22.slots.size ≤ ((1 : Int32)).toNatClampNeg) := inb_of S22 ⟨by decide, by decide⟩
    have hat22 : cl22.slots[((1 : Int32)).toNatClampNeg]? = some (.int z10_1) := H22.at hin22 rfl
    refine Goes.via (B := T10.setTop (mkF m 103 #[.val (.int p1), .val (.int p2), .val (.int p3), .val (.int p4), .val (.int p5), .val (.int p6), .val (.ref b1), .val (.int (3 : Int32)), .val (.int cc1), .unset] [(.int z10_1)])) (fun t k => X10.iaload hx (j := (1 : Int32)) (v := (.int z10_1)) (by rw [eq10]; exact Ar22.1) (State.isArrayOf_alike hZ.alike Ar22.2.1) Ar22.2.2 hin22 hat22 (g := (mkF m 102 #[.val (.int p1), .val (.int p2), .val (.int p3), .val (.int p4), .val (.int p5), .val (.int p6), .val (.ref b1), .val (.int (3 : Int32)), .val (.int cc1), .unset] [(.int (1 : Int32)), (.ref b1)])) rfl rfl (hb hby at_102) _ k) ?_
    refine Goes.via (B := T10.setTop (mkF m 105 #[.val (.int p1), .val (.int p2), .val (.int p3), .val (.int p4), .val (.int p5), .val (.int p6), .val (.ref b1), .val (.int (3 : Int32)), .val (.int cc1), .unset] [(.int p6), (.int z10_1)])) (fun t k => XS.iload X10.here hx rfl (hb hby at_103) rfl k) ?_
    refine own_join (B := T10.setTop (mkF m 114 #[.val (.int p1), .val (.int p2), .val (.int p3), .val (.int p4), .val (.int p5), .val (.int p6), .val (.ref b1), .val (.int (3 : Int32)), .val (.int (own_c1 z10_1 p6 cc1)), .unset] [])) (fun kj => ?_) ?_
    · by_cases c105_23 : z10_1 < p6
      · refine Goes.via (B := T10.setTop (mkF m 108 #[.val (.int p1), .val (.int p2), .val (.int p3), .val (.int p4), .val (.int p5), .val (.int p6), .val (.ref b1), .val (.int (3 : Int32)), .val (.int cc1), .unset] [])) (fun t k => XS.icmpNo X10.here hx rfl (hb hby at_105) rfl (tlt c105_23).2.1 k) ?_
        refine Goes.via (B := T10.setTop (mkF m 110 #[.val (.int p1), .val (.int p2), .val (.int p3), .val (.int p4), .val (.int p5), .val (.int p6), .val (.ref b1), .val (.int (3 : Int32)), .val (.int cc1), .unset] [(.int cc1)])) (fun t k => XS.iload X10.here hx rfl (hb hby at_108) rfl k) ?_
        refine Goes.via (B := T10.setTop (mkF m 111 #[.val (.int p1), .val (.int p2), .val (.int p3), .val (.int p4), .val (.int p5), .val (.int p6), .val (.ref b1), .val (.int (3 : Int32)), .val (.int cc1), .unset] [(.int (1 : Int32)), (.int cc1)])) (fun t k => XS.iconst X10.here hx rfl (hb hby at_110) k) ?_
        refine Goes.via (B := T10.setTop (mkF m 112 #[.val (.int p1), .val (.int p2), .val (.int p3), .val (.int p4), .val (.int p5), .val (.int p6), .val (.ref b1), .val (.int (3 : Int32)), .val (.int cc1), .unset] [(.int (cc1 + (1 : Int32)))])) (fun t k => XS.iadd X10.here hx rfl (hb hby at_111) rfl k) ?_
        refine Goes.via (B := T10.setTop (mkF m 114 #[.val (.int p1), .val (.int p2), .val (.int p3), .val (.int p4), .val (.int p5), .val (.int p6), .val (.ref b1), .val (.int (3 : Int32)), .val (.int (cc1 + (1 : Int32))), .unset] [])) (fun t k => XS.istore X10.here hx rfl (hb hby at_112) rfl (l' := #[.val (.int p1), .val (.int p2), .val (.int p3), .val (.int p4), .val (.int p5), .val (.int p6), .val (.ref b1), .val (.int (3 : Int32)), .val (.int (cc1 + (1 : Int32))), .unset]) rfl k) ?_
        have hj : (own_c1 z10_1 p6 cc1) = (cc1 + (1 : Int32)) := by rw [own_c1, if_pos c105_23]
        rw [hj] at kj
        exact kj
      · refine Goes.via (B := T10.setTop (mkF m 114 #[.val (.int p1), .val (.int p2), .val (.int p3), .val (.int p4), .val (.int p5), .val (.int p6), .val (.ref b1), .val (.int (3 : Int32)), .val (.int cc1), .unset] [])) (fun t k => XS.icmpYes X10.here hx rfl (pc0 := 105) (pc' := 114) rfl (hb hby at_105) rfl (flt c105_23).2.1 (by decide) (by decide) k) ?_
        have hj : (own_c1 z10_1 p6 cc1) = cc1 := by rw [own_c1, if_neg c105_23]
        rw [hj] at kj
        exact kj
    generalize hcc2 : (own_c1 z10_1 p6 cc1) = cc2
    refine Goes.via (B := T10.setTop (mkF m 115 #[.val (.int p1), .val (.int p2), .val (.int p3), .val (.int p4), .val (.int p5), .val (.int p6), .val (.ref b1), .val (.int (3 : Int32)), .val (.int cc2), .unset] [(.int (2 : Int32))])) (fun t k => XS.iconst X10.here hx rfl (hb hby at_114) k) ?_
    refine Goes.via (B := T10.setTop (mkF m 117 #[.val (.int p1), .val (.int p2), .val (.int p3), .val (.int p4), .val (.int p5), .val (.int p6), .val (.ref b1), .val (.int (3 : Int32)), .val (.int cc2), .unset] [(.int (3 : Int32)), (.int (2 : Int32))])) (fun t k => XS.iload X10.here hx rfl (hb hby at_115) rfl k) ?_
    refine Goes.via (B := T10.setTop (mkF m 120 #[.val (.int p1), .val (.int p2), .val (.int p3), .val (.int p4), .val (.int p5), .val (.int p6), .val (.ref b1), .val (.int (3 : Int32)), .val (.int cc2), .unset] [])) (fun t k => XS.icmpNo X10.here hx rfl (hb hby at_117) rfl (tlt (by decide : (2 : Int32) < (3 : Int32))).2.1 k) ?_
    refine Goes.via (B := T10.setTop (mkF m 122 #[.val (.int p1), .val (.int p2), .val (.int p3), .val (.int p4), .val (.int p5), .val (.int p6), .val (.ref b1), .val (.int (3 : Int32)), .val (.int cc2), .unset] [(.ref b1)])) (fun t k => XS.aload X10.here hx rfl (hb hby at_120) rfl rfl k) ?_
    refine Goes.via (B := T10.setTop (mkF m 123 #[.val (.int p1), .val (.int p2), .val (.int p3), .val (.int p4), .val (.int p5), .val (.int p6), .val (.ref b1), .val (.int (3 : Int32)), .val (.int cc2), .unset] [(.int (2 : Int32)), (.ref b1)])) (fun t k => XS.iconst X10.here hx rfl (hb hby at_122) k) ?_
    obtain ⟨cl24, Ar24, q24, S24, M24, H24, G24⟩ := (⟨cl22, Ar22, q22, S22, M22, H22, G22⟩ : Arv Z T10.heap b1 k1 .int (4 : Int32) [(.int z8_0), (.int z10_1), (.int z10_2), (.int z9_3)] (.int (0 : Int32)))
    have hin24 : ¬ ((2 : Int32) < 0 ∨ cl24.slots.size ≤ ((2 : Int32)).toNatClampNeg) := inb_of S24 ⟨by decide, by decide⟩
    have hat24 : cl24.slots[((2 : Int32)).toNatClampNeg]? = some (.int z10_2) := H24.at hin24 rfl
    refine Goes.via (B := T10.setTop (mkF m 124 #[.val (.int p1), .val (.int p2), .val (.int p3), .val (.int p4), .val (.int p5), .val (.int p6), .val (.ref b1), .val (.int (3 : Int32)), .val (.int cc2), .unset] [(.int z10_2)])) (fun t k => X10.iaload hx (j := (2 : Int32)) (v := (.int z10_2)) (by rw [eq10]; exact Ar24.1) (State.isArrayOf_alike hZ.alike Ar24.2.1) Ar24.2.2 hin24 hat24 (g := (mkF m 123 #[.val (.int p1), .val (.int p2), .val (.int p3), .val (.int p4), .val (.int p5), .val (.int p6), .val (.ref b1), .val (.int (3 : Int32)), .val (.int cc2), .unset] [(.int (2 : Int32)), (.ref b1)])) rfl rfl (hb hby at_123) _ k) ?_
    refine Goes.via (B := T10.setTop (mkF m 126 #[.val (.int p1), .val (.int p2), .val (.int p3), .val (.int p4), .val (.int p5), .val (.int p6), .val (.ref b1), .val (.int (3 : Int32)), .val (.int cc2), .unset] [(.int p6), (.int z10_2)])) (fun t k => XS.iload X10.here hx rfl (hb hby at_124) rfl k) ?_
    refine own_join (B := T10.setTop (mkF m 135 #[.val (.int p1), .val (.int p2), .val (.int p3), .val (.int p4), .val (.int p5), .val (.int p6), .val (.ref b1), .val (.int (3 : Int32)), .val (.int (own_c2 z10_2 p6 cc2)), .unset] [])) (fun kj => ?_) ?_
    · by_cases c126_25 : z10_2 < p6
      · refine Goes.via (B := T10.setTop (mkF m 129 #[.val (.int p1), .val (.int p2), .val (.int p3), .val (.int p4), .val (.int p5), .val (.int p6), .val (.ref b1), .val (.int (3 : Int32)), .val (.int cc2), .unset] [])) (fun t k => XS.icmpNo X10.here hx rfl (hb hby at_126) rfl (tlt c126_25).2.1 k) ?_
        refine Goes.via (B := T10.setTop (mkF m 131 #[.val (.int p1), .val (.int p2), .val (.int p3), .val (.int p4), .val (.int p5), .val (.int p6), .val (.ref b1), .val (.int (3 : Int32)), .val (.int cc2), .unset] [(.int cc2)])) (fun t k => XS.iload X10.here hx rfl (hb hby at_129) rfl k) ?_
        refine Goes.via (B := T10.setTop (mkF m 132 #[.val (.int p1), .val (.int p2), .val (.int p3), .val (.int p4), .val (.int p5), .val (.int p6), .val (.ref b1), .val (.int (3 : Int32)), .val (.int cc2), .unset] [(.int (1 : Int32)), (.int cc2)])) (fun t k => XS.iconst X10.here hx rfl (hb hby at_131) k) ?_
        refine Goes.via (B := T10.setTop (mkF m 133 #[.val (.int p1), .val (.int p2), .val (.int p3), .val (.int p4), .val (.int p5), .val (.int p6), .val (.ref b1), .val (.int (3 : Int32)), .val (.int cc2), .unset] [(.int (cc2 + (1 : Int32)))])) (fun t k => XS.iadd X10.here hx rfl (hb hby at_132) rfl k) ?_
        refine Goes.via (B := T10.setTop (mkF m 135 #[.val (.int p1), .val (.int p2), .val (.int p3), .val (.int p4), .val (.int p5), .val (.int p6), .val (.ref b1), .val (.int (3 : Int32)), .val (.int (cc2 + (1 : Int32))), .unset] [])) (fun t k => XS.istore X10.here hx rfl (hb hby at_133) rfl (l' := #[.val (.int p1), .val (.int p2), .val (.int p3), .val (.int p4), .val (.int p5), .val (.int p6), .val (.ref b1), .val (.int (3 : Int32)), .val (.int (cc2 + (1 : Int32))), .unset]) rfl k) ?_
        have hj : (own_c2 z10_2 p6 cc2) = (cc2 + (1 : Int32)) := by rw [own_c2, if_pos c126_25]
        rw [hj] at kj
        exact kj
      · refine Goes.via (B := T10.setTop (mkF m 135 #[.val (.int p1), .val (.int p2), .val (.int p3), .val (.int p4), .val (.int p5), .val (.int p6), .val (.ref b1), .val (.int (3 : Int32)), .val (.int cc2), .unset] [])) (fun t k => XS.icmpYes X10.here hx rfl (pc0 := 126) (pc' := 135) rfl (hb hby at_126) rfl (flt c126_25).2.1 (by decide) (by decide) k) ?_
        have hj : (own_c2 z10_2 p6 cc2) = cc2 := by rw [own_c2, if_neg c126_25]
        rw [hj] at kj
        exact kj
    generalize hcc3 : (own_c2 z10_2 p6 cc2) = cc3
    refine Goes.via (B := T10.setTop (mkF m 136 #[.val (.int p1), .val (.int p2), .val (.int p3), .val (.int p4), .val (.int p5), .val (.int p6), .val (.ref b1), .val (.int (3 : Int32)), .val (.int cc3), .unset] [(.int (3 : Int32))])) (fun t k => XS.iconst X10.here hx rfl (hb hby at_135) k) ?_
    refine Goes.via (B := T10.setTop (mkF m 138 #[.val (.int p1), .val (.int p2), .val (.int p3), .val (.int p4), .val (.int p5), .val (.int p6), .val (.ref b1), .val (.int (3 : Int32)), .val (.int cc3), .unset] [(.int (3 : Int32)), (.int (3 : Int32))])) (fun t k => XS.iload X10.here hx rfl (hb hby at_136) rfl k) ?_
    refine Goes.via (B := T10.setTop (mkF m 156 #[.val (.int p1), .val (.int p2), .val (.int p3), .val (.int p4), .val (.int p5), .val (.int p6), .val (.ref b1), .val (.int (3 : Int32)), .val (.int cc3), .unset] [])) (fun t k => XS.icmpYes X10.here hx rfl (pc0 := 138) (pc' := 156) rfl (hb hby at_138) rfl (flt (by decide : ¬ (3 : Int32) < (3 : Int32))).2.1 (by decide) (by decide) k) ?_
    refine Goes.via (B := T10.setTop (mkF m 158 #[.val (.int p1), .val (.int p2), .val (.int p3), .val (.int p4), .val (.int p5), .val (.int p6), .val (.ref b1), .val (.int (3 : Int32)), .val (.int cc3), .unset] [(.ref b1)])) (fun t k => XS.aload X10.here hx rfl (hb hby at_156) rfl rfl k) ?_
    refine Goes.via (B := T10.setTop (mkF m 160 #[.val (.int p1), .val (.int p2), .val (.int p3), .val (.int p4), .val (.int p5), .val (.int p6), .val (.ref b1), .val (.int (3 : Int32)), .val (.int cc3), .unset] [(.int (3 : Int32)), (.ref b1)])) (fun t k => XS.iload X10.here hx rfl (hb hby at_158) rfl k) ?_
    refine Goes.via (B := T10.setTop (mkF m 162 #[.val (.int p1), .val (.int p2), .val (.int p3), .val (.int p4), .val (.int p5), .val (.int p6), .val (.ref b1), .val (.int (3 : Int32)), .val (.int cc3), .unset] [(.int p6), (.int (3 : Int32)), (.ref b1)])) (fun t k => XS.iload X10.here hx rfl (hb hby at_160) rfl k) ?_
    obtain ⟨_, _, ⟨T26, L26, kk26, nn26⟩, -, X26, ⟨Lc26, hQ26, l26, y26, z26⟩, st26⟩ := Jvm.LawKit.callS X10 hx (y := (⟨"com/example/noise_to_nodes/noisetonodes/AscendingInts", "countBelow", "([III)I"⟩ : MethodName)) hown (mvT hZ (hw _ (List.mem_of_getElem? (i := 6) rfl))) (mvT hZ (hw _ (List.mem_of_getElem? (i := 7) rfl))) (mvT hZ (hw _ (List.mem_of_getElem? (i := 8) rfl))) (mvT hZ (hw _ (List.mem_of_getElem? (i := 9) rfl))) (by decide) (backOf (W := 0) (rm2_3 l Z a0 hw [] b1 k1 z8_0 z10_1 z10_2 z9_3 p6 T10.heap n0 Z10 (⟨cl24, Ar24, q24, S24, M24, H24, G24⟩ : Arv Z T10.heap b1 k1 .int (4 : Int32) [(.int z8_0), (.int z10_1), (.int z10_2), (.int z9_3)] (.int (0 : Int32)))) hZ (hw _ (List.mem_of_getElem? (i := 9) rfl)) (hw _ (List.mem_of_getElem? (i := 8) rfl)) (by decide) (by decide)) (g := (mkF m 162 #[.val (.int p1), .val (.int p2), .val (.int p3), .val (.int p4), .val (.int p5), .val (.int p6), .val (.ref b1), .val (.int (3 : Int32)), .val (.int cc3), .unset] [(.int p6), (.int (3 : Int32)), (.ref b1)])) rfl (by rw [hml]; rfl) (argsL := [(.ref b1), (.int (3 : Int32)), (.int p6)]) (rest := []) (lenOf pd___III_I rfl) rfl (by show 2 * 0 + _ ≤ _; exact Nat.le_of_eq rfl) (hb hby at_162) (fun _ _ => ⟨rfl, eq10, (by decide : 1 + 0 ≤ _), (by decide : 4 + 0 ≤ _)⟩)
    dsimp only [Pt.U, Pt.locs, Pt.cells, Pt.slots] at X26 l26 y26 z26 st26 hQ26
    subst l26 y26 z26
    obtain ⟨rfl, Nq26, hq26⟩ := hQ26
    have N26 := Fr.app N10 Nq26
    refine Goes.via (B := T26.setTop (mkF m 165 #[.val (.int p1), .val (.int p2), .val (.int p3), .val (.int p4), .val (.int p5), .val (.int p6), .val (.ref b1), .val (.int (3 : Int32)), .val (.int cc3), .unset] [(.int (own_b3 z8_0 z10_1 z10_2 z9_3 p6))])) st26 ?_
    refine Goes.via (B := T26.setTop (mkF m 167 #[.val (.int p1), .val (.int p2), .val (.int p3), .val (.int p4), .val (.int p5), .val (.int p6), .val (.ref b1), .val (.int (3 : Int32)), .val (.int cc3), .val (.int (own_b3 z8_0 z10_1 z10_2 z9_3 p6))] [])) (fun t k => XS.istore X26.here hx rfl (hb hby at_165) rfl (l' := #[.val (.int p1), .val (.int p2), .val (.int p3), .val (.int p4), .val (.int p5), .val (.int p6), .val (.ref b1), .val (.int (3 : Int32)), .val (.int cc3), .val (.int (own_b3 z8_0 z10_1 z10_2 z9_3 p6))]) rfl k) ?_
    refine Goes.via (B := T26.setTop (mkF m 169 #[.val (.int p1), .val (.int p2), .val (.int p3), .val (.int p4), .val (.int p5), .val (.int p6), .val (.ref b1), .val (.int (3 : Int32)), .val (.int cc3), .val (.int (own_b3 z8_0 z10_1 z10_2 z9_3 p6))] [(.int (own_b3 z8_0 z10_1 z10_2 z9_3 p6))])) (fun t k => XS.iload X26.here hx rfl (hb hby at_167) rfl k) ?_
    refine Goes.via (B := T26.setTop (mkF m 171 #[.val (.int p1), .val (.int p2), .val (.int p3), .val (.int p4), .val (.int p5), .val (.int p6), .val (.ref b1), .val (.int (3 : Int32)), .val (.int cc3), .val (.int (own_b3 z8_0 z10_1 z10_2 z9_3 p6))] [(.int cc3), (.int (own_b3 z8_0 z10_1 z10_2 z9_3 p6))])) (fun t k => XS.iload X26.here hx rfl (hb hby at_169) rfl k) ?_
    refine Goes.via (B := T26.setTop (mkF m 174 #[.val (.int p1), .val (.int p2), .val (.int p3), .val (.int p4), .val (.int p5), .val (.int p6), .val (.ref b1), .val (.int (3 : Int32)), .val (.int cc3), .val (.int (own_b3 z8_0 z10_1 z10_2 z9_3 p6))] [])) (fun t k => XS.icmpNo X26.here hx rfl (hb hby at_171) rfl (teq (own_fin3 hs hcc0 hcc1 hcc2 hcc3)).2 k) ?_
    refine Goes.via (B := T26.setTop (mkF m 175 #[.val (.int p1), .val (.int p2), .val (.int p3), .val (.int p4), .val (.int p5), .val (.int p6), .val (.ref b1), .val (.int (3 : Int32)), .val (.int cc3), .val (.int (own_b3 z8_0 z10_1 z10_2 z9_3 p6))] [(.int (1 : Int32))])) (fun t k => XS.iconst X26.here hx rfl (hb hby at_174) k) ?_
    refine Goes.via (B := T26.setTop (mkF m 179 #[.val (.int p1), .val (.int p2), .val (.int p3), .val (.int p4), .val (.int p5), .val (.int p6), .val (.ref b1), .val (.int (3 : Int32)), .val (.int cc3), .val (.int (own_b3 z8_0 z10_1 z10_2 z9_3 p6))] [(.int (1 : Int32))])) (fun t k => XS.goto X26.here hx rfl (pc0 := 175) (pc' := 179) rfl (hb hby at_175) (by decide) (by decide) k) ?_
    exact own_out X26 (v := some (.int (1 : Int32))) (fun h => by rw [Bd.returns] at h; cases h) Bd.notSynchronized (fun fs hr => retOut X26 hx Bd.returns rfl (Or.inl ⟨rfl, Or.inr (Or.inl rfl), _, rfl⟩) (hb hby at_179) hr) ⟨rfl, N26⟩ (by decide) (by decide)
  · refine Goes.via (B := T10.setTop (mkF m 73 #[.val (.int p1), .val (.int p2), .val (.int p3), .val (.int p4), .val (.int p5), .val (.int p6), .val (.ref b1), .val (.int (4 : Int32)), .val (.int cc0), .unset] [(.int (0 : Int32))])) (fun t k => XS.iconst X10.here hx rfl (hb hby at_72) k) ?_
    refine Goes.via (B := T10.setTop (mkF m 75 #[.val (.int p1), .val (.int p2), .val (.int p3), .val (.int p4), .val (.int p5), .val (.int p6), .val (.ref b1), .val (.int (4 : Int32)), .val (.int cc0), .unset] [(.int (4 : Int32)), (.int (0 : Int32))])) (fun t k => XS.iload X10.here hx rfl (hb hby at_73) rfl k) ?_
    refine Goes.via (B := T10.setTop (mkF m 78 #[.val (.int p1), .val (.int p2), .val (.int p3), .val (.int p4), .val (.int p5), .val (.int p6), .val (.ref b1), .val (.int (4 : Int32)), .val (.int cc0), .unset] [])) (fun t k => XS.icmpNo X10.here hx rfl (hb hby at_75) rfl (tlt (by decide : (0 : Int32) < (4 : Int32))).2.1 k) ?_
    refine Goes.via (B := T10.setTop (mkF m 80 #[.val (.int p1), .val (.int p2), .val (.int p3), .val (.int p4), .val (.int p5), .val (.int p6), .val (.ref b1), .val (.int (4 : Int32)), .val (.int cc0), .unset] [(.ref b1)])) (fun t k => XS.aload X10.here hx rfl (hb hby at_78) rfl rfl k) ?_
    refine Goes.via (B := T10.setTop (mkF m 81 #[.val (.int p1), .val (.int p2), .val (.int p3), .val (.int p4), .val (.int p5), .val (.int p6), .val (.ref b1), .val (.int (4 : Int32)), .val (.int cc0), .unset] [(.int (0 : Int32)), (.ref b1)])) (fun t k => XS.iconst X10.here hx rfl (hb hby at_80) k) ?_
    obtain ⟨cl27, Ar27, q27, S27, M27, H27, G27⟩ := Vq10
    have hin27 : ¬ ((0 : Int32) < 0 ∨ cl27.slots.size ≤ ((0 : Int32)).toNatClampNeg) := inb_of S27 ⟨by decide, by decide⟩
    have hat27 : cl27.slots[((0 : Int32)).toNatClampNeg]? = some (.int z8_0) := H27.at hin27 rfl
    refine Goes.via (B := T10.setTop (mkF m 82 #[.val (.int p1), .val (.int p2), .val (.int p3), .val (.int p4), .val (.int p5), .val (.int p6), .val (.ref b1), .val (.int (4 : Int32)), .val (.int cc0), .unset] [(.int z8_0)])) (fun t k => X10.iaload hx (j := (0 : Int32)) (v := (.int z8_0)) (by rw [eq10]; exact Ar27.1) (State.isArrayOf_alike hZ.alike Ar27.2.1) Ar27.2.2 hin27 hat27 (g := (mkF m 81 #[.val (.int p1), .val (.int p2), .val (.int p3), .val (.int p4), .val (.int p5), .val (.int p6), .val (.ref b1), .val (.int (4 : Int32)), .val (.int cc0), .unset] [(.int (0 : Int32)), (.ref b1)])) rfl rfl (hb hby at_81) _ k) ?_
    refine Goes.via (B := T10.setTop (mkF m 84 #[.val (.int p1), .val (.int p2), .val (.int p3), .val (.int p4), .val (.int p5), .val (.int p6), .val (.ref b1), .val (.int (4 : Int32)), .val (.int cc0), .unset] [(.int p6), (.int z8_0)])) (fun t k => XS.iload X10.here hx rfl (hb hby at_82) rfl k) ?_
    refine own_join (B := T10.setTop (mkF m 93 #[.val (.int p1), .val (.int p2), .val (.int p3), .val (.int p4), .val (.int p5), .val (.int p6), .val (.ref b1), .val (.int (4 : Int32)), .val (.int (own_c0 z8_0 p6 cc0)), .unset] [])) (fun kj => ?_) ?_
    · by_cases c84_28 : z8_0 < p6
      · refine Goes.via (B := T10.setTop (mkF m 87 #[.val (.int p1), .val (.int p2), .val (.int p3), .val (.int p4), .val (.int p5), .val (.int p6), .val (.ref b1), .val (.int (4 : Int32)), .val (.int cc0), .unset] [])) (fun t k => XS.icmpNo X10.here hx rfl (hb hby at_84) rfl (tlt c84_28).2.1 k) ?_
        refine Goes.via (B := T10.setTop (mkF m 89 #[.val (.int p1), .val (.int p2), .val (.int p3), .val (.int p4), .val (.int p5), .val (.int p6), .val (.ref b1), .val (.int (4 : Int32)), .val (.int cc0), .unset] [(.int cc0)])) (fun t k => XS.iload X10.here hx rfl (hb hby at_87) rfl k) ?_
        refine Goes.via (B := T10.setTop (mkF m 90 #[.val (.int p1), .val (.int p2), .val (.int p3), .val (.int p4), .val (.int p5), .val (.int p6), .val (.ref b1), .val (.int (4 : Int32)), .val (.int cc0), .unset] [(.int (1 : Int32)), (.int cc0)])) (fun t k => XS.iconst X10.here hx rfl (hb hby at_89) k) ?_
        refine Goes.via (B := T10.setTop (mkF m 91 #[.val (.int p1), .val (.int p2), .val (.int p3), .val (.int p4), .val (.int p5), .val (.int p6), .val (.ref b1), .val (.int (4 : Int32)), .val (.int cc0), .unset] [(.int (cc0 + (1 : Int32)))])) (fun t k => XS.iadd X10.here hx rfl (hb hby at_90) rfl k) ?_
        refine Goes.via (B := T10.setTop (mkF m 93 #[.val (.int p1), .val (.int p2), .val (.int p3), .val (.int p4), .val (.int p5), .val (.int p6), .val (.ref b1), .val (.int (4 : Int32)), .val (.int (cc0 + (1 : Int32))), .unset] [])) (fun t k => XS.istore X10.here hx rfl (hb hby at_91) rfl (l' := #[.val (.int p1), .val (.int p2), .val (.int p3), .val (.int p4), .val (.int p5), .val (.int p6), .val (.ref b1), .val (.int (4 : Int32)), .val (.int (cc0 + (1 : Int32))), .unset]) rfl k) ?_
        have hj : (own_c0 z8_0 p6 cc0) = (cc0 + (1 : Int32)) := by rw [own_c0, if_pos c84_28]
        rw [hj] at kj
        exact kj
      · refine Goes.via (B := T10.setTop (mkF m 93 #[.val (.int p1), .val (.int p2), .val (.int p3), .val (.int p4), .val (.int p5), .val (.int p6), .val (.ref b1), .val (.int (4 : Int32)), .val (.int cc0), .unset] [])) (fun t k => XS.icmpYes X10.here hx rfl (pc0 := 84) (pc' := 93) rfl (hb hby at_84) rfl (flt c84_28).2.1 (by decide) (by decide) k) ?_
        have hj : (own_c0 z8_0 p6 cc0) = cc0 := by rw [own_c0, if_neg c84_28]
        rw [hj] at kj
        exact kj
    generalize hcc1 : (own_c0 z8_0 p6 cc0) = cc1
    refine Goes.via (B := T10.setTop (mkF m 94 #[.val (.int p1), .val (.int p2), .val (.int p3), .val (.int p4), .val (.int p5), .val (.int p6), .val (.ref b1), .val (.int (4 : Int32)), .val (.int cc1), .unset] [(.int (1 : Int32))])) (fun t k => XS.iconst X10.here hx rfl (hb hby at_93) k) ?_
    refine Goes.via (B := T10.setTop (mkF m 96 #[.val (.int p1), .val (.int p2), .val (.int p3), .val (.int p4), .val (.int p5), .val (.int p6), .val (.ref b1), .val (.int (4 : Int32)), .val (.int cc1), .unset] [(.int (4 : Int32)), (.int (1 : Int32))])) (fun t k => XS.iload X10.here hx rfl (hb hby at_94) rfl k) ?_
    refine Goes.via (B := T10.setTop (mkF m 99 #[.val (.int p1), .val (.int p2), .val (.int p3), .val (.int p4), .val (.int p5), .val (.int p6), .val (.ref b1), .val (.int (4 : Int32)), .val (.int cc1), .unset] [])) (fun t k => XS.icmpNo X10.here hx rfl (hb hby at_96) rfl (tlt (by decide : (1 : Int32) < (4 : Int32))).2.1 k) ?_
    refine Goes.via (B := T10.setTop (mkF m 101 #[.val (.int p1), .val (.int p2), .val (.int p3), .val (.int p4), .val (.int p5), .val (.int p6), .val (.ref b1), .val (.int (4 : Int32)), .val (.int cc1), .unset] [(.ref b1)])) (fun t k => XS.aload X10.here hx rfl (hb hby at_99) rfl rfl k) ?_
    refine Goes.via (B := T10.setTop (mkF m 102 #[.val (.int p1), .val (.int p2), .val (.int p3), .val (.int p4), .val (.int p5), .val (.int p6), .val (.ref b1), .val (.int (4 : Int32)), .val (.int cc1), .unset] [(.int (1 : Int32)), (.ref b1)])) (fun t k => XS.iconst X10.here hx rfl (hb hby at_101) k) ?_
    obtain ⟨cl29, Ar29, q29, S29, M29, H29, G29⟩ := (⟨cl27, Ar27, q27, S27, M27, H27, G27⟩ : Arv Z T10.heap b1 k1 .int (4 : Int32) [(.int z8_0), (.int z10_1), (.int z10_2), (.int z9_3)] (.int (0 : Int32)))
    have hin29 : ¬ ((1 : Int32) < 0 ∨ cl29.slots.size ≤ ((1 : Int32)).toNatClampNeg) := inb_of S29 ⟨by decide, by decide⟩
    have hat29 : cl29.slots[((1 : Int32)).toNatClampNeg]? = some (.int z10_1) := H29.at hin29 rfl
    refine Goes.via (B := T10.setTop (mkF m 103 #[.val (.int p1), .val (.int p2), .val (.int p3), .val (.int p4), .val (.int p5), .val (.int p6), .val (.ref b1), .val (.int (4 : Int32)), .val (.int cc1), .unset] [(.int z10_1)])) (fun t k => X10.iaload hx (j := (1 : Int32)) (v := (.int z10_1)) (by rw [eq10]; exact Ar29.1) (State.isArrayOf_alike hZ.alike Ar29.2.1) Ar29.2.2 hin29 hat29 (g := (mkF m 102 #[.val (.int p1), .val (.int p2), .val (.int p3), .val (.int p4), .val (.int p5), .val (.int p6), .val (.ref b1), .val (.int (4 : Int32)), .val (.int cc1), .unset] [(.int (1 : Int32)), (.ref b1)])) rfl rfl (hb hby at_102) _ k) ?_
    refine Goes.via (B := T10.setTop (mkF m 105 #[.val (.int p1), .val (.int p2), .val (.int p3), .val (.int p4), .val (.int p5), .val (.int p6), .val (.ref b1), .val (.int (4 : Int32)), .val (.int cc1), .unset] [(.int p6), (.int z10_1)])) (fun t k => XS.iload X10.here hx rfl (hb hby at_103) rfl k) ?_
    refine own_join (B := T10.setTop (mkF m 114 #[.val (.int p1), .val (.int p2), .val (.int p3), .val (.int p4), .val (.int p5), .val (.int p6), .val (.ref b1), .val (.int (4 : Int32)), .val (.int (own_c1 z10_1 p6 cc1)), .unset] [])) (fun kj => ?_) ?_
    · by_cases c105_30 : z10_1 < p6
      · refine Goes.via (B := T10.setTop (mkF m 108 #[.val (.int p1), .val (.int p2), .val (.int p3), .val (.int p4), .val (.int p5), .val (.int p6), .val (.ref b1), .val (.int (4 : Int32)), .val (.int cc1), .unset] [])) (fun t k => XS.icmpNo X10.here hx rfl (hb hby at_105) rfl (tlt c105_30).2.1 k) ?_
        refine Goes.via (B := T10.setTop (mkF m 110 #[.val (.int p1), .val (.int p2), .val (.int p3), .val (.int p4), .val (.int p5), .val (.int p6), .val (.ref b1), .val (.int (4 : Int32)), .val (.int cc1), .unset] [(.int cc1)])) (fun t k => XS.iload X10.here hx rfl (hb hby at_108) rfl k) ?_
        refine Goes.via (B := T10.setTop (mkF m 111 #[.val (.int p1), .val (.int p2), .val (.int p3), .val (.int p4), .val (.int p5), .val (.int p6), .val (.ref b1), .val (.int (4 : Int32)), .val (.int cc1), .unset] [(.int (1 : Int32)), (.int cc1)])) (fun t k => XS.iconst X10.here hx rfl (hb hby at_110) k) ?_
        refine Goes.via (B := T10.setTop (mkF m 112 #[.val (.int p1), .val (.int p2), .val (.int p3), .val (.int p4), .val (.int p5), .val (.int p6), .val (.ref b1), .val (.int (4 : Int32)), .val (.int cc1), .unset] [(.int (cc1 + (1 : Int32)))])) (fun t k => XS.iadd X10.here hx rfl (hb hby at_111) rfl k) ?_
        refine Goes.via (B := T10.setTop (mkF m 114 #[.val (.int p1), .val (.int p2), .val (.int p3), .val (.int p4), .val (.int p5), .val (.int p6), .val (.ref b1), .val (.int (4 : Int32)), .val (.int (cc1 + (1 : Int32))), .unset] [])) (fun t k => XS.istore X10.here hx rfl (hb hby at_112) rfl (l' := #[.val (.int p1), .val (.int p2), .val (.int p3), .val (.int p4), .val (.int p5), .val (.int p6), .val (.ref b1), .val (.int (4 : Int32)), .val (.int (cc1 + (1 : Int32))), .unset]) rfl k) ?_
        have hj : (own_c1 z10_1 p6 cc1) = (cc1 + (1 : Int32)) := by rw [own_c1, if_pos c105_30]
        rw [hj] at kj
        exact kj
      · refine Goes.via (B := T10.setTop (mkF m 114 #[.val (.int p1), .val (.int p2), .val (.int p3), .val (.int p4), .val (.int p5), .val (.int p6), .val (.ref b1), .val (.int (4 : Int32)), .val (.int cc1), .unset] [])) (fun t k => XS.icmpYes X10.here hx rfl (pc0 := 105) (pc' := 114) rfl (hb hby at_105) rfl (flt c105_30).2.1 (by decide) (by decide) k) ?_
        have hj : (own_c1 z10_1 p6 cc1) = cc1 := by rw [own_c1, if_neg c105_30]
        rw [hj] at kj
        exact kj
    generalize hcc2 : (own_c1 z10_1 p6 cc1) = cc2
    refine Goes.via (B := T10.setTop (mkF m 115 #[.val (.int p1), .val (.int p2), .val (.int p3), .val (.int p4), .val (.int p5), .val (.int p6), .val (.ref b1), .val (.int (4 : Int32)), .val (.int cc2), .unset] [(.int (2 : Int32))])) (fun t k => XS.iconst X10.here hx rfl (hb hby at_114) k) ?_
    refine Goes.via (B := T10.setTop (mkF m 117 #[.val (.int p1), .val (.int p2), .val (.int p3), .val (.int p4), .val (.int p5), .val (.int p6), .val (.ref b1), .val (.int (4 : Int32)), .val (.int cc2), .unset] [(.int (4 : Int32)), (.int (2 : Int32))])) (fun t k => XS.iload X10.here hx rfl (hb hby at_115) rfl k) ?_
    refine Goes.via (B := T10.setTop (mkF m 120 #[.val (.int p1), .val (.int p2), .val (.int p3), .val (.int p4), .val (.int p5), .val (.int p6), .val (.ref b1), .val (.int (4 : Int32)), .val (.int cc2), .unset] [])) (fun t k => XS.icmpNo X10.here hx rfl (hb hby at_117) rfl (tlt (by decide : (2 : Int32) < (4 : Int32))).2.1 k) ?_
    refine Goes.via (B := T10.setTop (mkF m 122 #[.val (.int p1), .val (.int p2), .val (.int p3), .val (.int p4), .val (.int p5), .val (.int p6), .val (.ref b1), .val (.int (4 : Int32)), .val (.int cc2), .unset] [(.ref b1)])) (fun t k => XS.aload X10.here hx rfl (hb hby at_120) rfl rfl k) ?_
    refine Goes.via (B := T10.setTop (mkF m 123 #[.val (.int p1), .val (.int p2), .val (.int p3), .val (.int p4), .val (.int p5), .val (.int p6), .val (.ref b1), .val (.int (4 : Int32)), .val (.int cc2), .unset] [(.int (2 : Int32)), (.ref b1)])) (fun t k => XS.iconst X10.here hx rfl (hb hby at_122) k) ?_
    obtain ⟨cl31, Ar31, q31, S31, M31, H31, G31⟩ := (⟨cl29, Ar29, q29, S29, M29, H29, G29⟩ : Arv Z T10.heap b1 k1 .int (4 : Int32) [(.int z8_0), (.int z10_1), (.int z10_2), (.int z9_3)] (.int (0 : Int32)))
    have hin31 : ¬ ((2 : Int32) < 0 ∨ cl31.slots.size ≤ ((2 : Int32)).toNatClampNeg) := inb_of S31 ⟨by decide, by decide⟩
    have hat31 : cl31.slots[((2 : Int32)).toNatClampNeg]? = some (.int z10_2) := H31.at hin31 rfl
    refine Goes.via (B := T10.setTop (mkF m 124 #[.val (.int p1), .val (.int p2), .val (.int p3), .val (.int p4), .val (.int p5), .val (.int p6), .val (.ref b1), .val (.int (4 : Int32)), .val (.int cc2), .unset] [(.int z10_2)])) (fun t k => X10.iaload hx (j := (2 : Int32)) (v := (.int z10_2)) (by rw [eq10]; exact Ar31.1) (State.isArrayOf_alike hZ.alike Ar31.2.1) Ar31.2.2 hin31 hat31 (g := (mkF m 123 #[.val (.int p1), .val (.int p2), .val (.int p3), .val (.int p4), .val (.int p5), .val (.int p6), .val (.ref b1), .val (.int (4 : Int32)), .val (.int cc2), .unset] [(.int (2 : Int32)), (.ref b1)])) rfl rfl (hb hby at_123) _ k) ?_
    refine Goes.via (B := T10.setTop (mkF m 126 #[.val (.int p1), .val (.int p2), .val (.int p3), .val (.int p4), .val (.int p5), .val (.int p6), .val (.ref b1), .val (.int (4 : Int32)), .val (.int cc2), .unset] [(.int p6), (.int z10_2)])) (fun t k => XS.iload X10.here hx rfl (hb hby at_124) rfl k) ?_
    refine own_join (B := T10.setTop (mkF m 135 #[.val (.int p1), .val (.int p2), .val (.int p3), .val (.int p4), .val (.int p5), .val (.int p6), .val (.ref b1), .val (.int (4 : Int32)), .val (.int (own_c2 z10_2 p6 cc2)), .unset] [])) (fun kj => ?_) ?_
    · by_cases c126_32 : z10_2 < p6
      · refine Goes.via (B := T10.setTop (mkF m 129 #[.val (.int p1), .val (.int p2), .val (.int p3), .val (.int p4), .val (.int p5), .val (.int p6), .val (.ref b1), .val (.int (4 : Int32)), .val (.int cc2), .unset] [])) (fun t k => XS.icmpNo X10.here hx rfl (hb hby at_126) rfl (tlt c126_32).2.1 k) ?_
        refine Goes.via (B := T10.setTop (mkF m 131 #[.val (.int p1), .val (.int p2), .val (.int p3), .val (.int p4), .val (.int p5), .val (.int p6), .val (.ref b1), .val (.int (4 : Int32)), .val (.int cc2), .unset] [(.int cc2)])) (fun t k => XS.iload X10.here hx rfl (hb hby at_129) rfl k) ?_
        refine Goes.via (B := T10.setTop (mkF m 132 #[.val (.int p1), .val (.int p2), .val (.int p3), .val (.int p4), .val (.int p5), .val (.int p6), .val (.ref b1), .val (.int (4 : Int32)), .val (.int cc2), .unset] [(.int (1 : Int32)), (.int cc2)])) (fun t k => XS.iconst X10.here hx rfl (hb hby at_131) k) ?_
        refine Goes.via (B := T10.setTop (mkF m 133 #[.val (.int p1), .val (.int p2), .val (.int p3), .val (.int p4), .val (.int p5), .val (.int p6), .val (.ref b1), .val (.int (4 : Int32)), .val (.int cc2), .unset] [(.int (cc2 + (1 : Int32)))])) (fun t k => XS.iadd X10.here hx rfl (hb hby at_132) rfl k) ?_
        refine Goes.via (B := T10.setTop (mkF m 135 #[.val (.int p1), .val (.int p2), .val (.int p3), .val (.int p4), .val (.int p5), .val (.int p6), .val (.ref b1), .val (.int (4 : Int32)), .val (.int (cc2 + (1 : Int32))), .unset] [])) (fun t k => XS.istore X10.here hx rfl (hb hby at_133) rfl (l' := #[.val (.int p1), .val (.int p2), .val (.int p3), .val (.int p4), .val (.int p5), .val (.int p6), .val (.ref b1), .val (.int (4 : Int32)), .val (.int (cc2 + (1 : Int32))), .unset]) rfl k) ?_
        have hj : (own_c2 z10_2 p6 cc2) = (cc2 + (1 : Int32)) := by rw [own_c2, if_pos c126_32]
        rw [hj] at kj
        exact kj
      · refine Goes.via (B := T10.setTop (mkF m 135 #[.val (.int p1), .val (.int p2), .val (.int p3), .val (.int p4), .val (.int p5), .val (.int p6), .val (.ref b1), .val (.int (4 : Int32)), .val (.int cc2), .unset] [])) (fun t k => XS.icmpYes X10.here hx rfl (pc0 := 126) (pc' := 135) rfl (hb hby at_126) rfl (flt c126_32).2.1 (by decide) (by decide) k) ?_
        have hj : (own_c2 z10_2 p6 cc2) = cc2 := by rw [own_c2, if_neg c126_32]
        rw [hj] at kj
        exact kj
    generalize hcc3 : (own_c2 z10_2 p6 cc2) = cc3
    refine Goes.via (B := T10.setTop (mkF m 136 #[.val (.int p1), .val (.int p2), .val (.int p3), .val (.int p4), .val (.int p5), .val (.int p6), .val (.ref b1), .val (.int (4 : Int32)), .val (.int cc3), .unset] [(.int (3 : Int32))])) (fun t k => XS.iconst X10.here hx rfl (hb hby at_135) k) ?_
    refine Goes.via (B := T10.setTop (mkF m 138 #[.val (.int p1), .val (.int p2), .val (.int p3), .val (.int p4), .val (.int p5), .val (.int p6), .val (.ref b1), .val (.int (4 : Int32)), .val (.int cc3), .unset] [(.int (4 : Int32)), (.int (3 : Int32))])) (fun t k => XS.iload X10.here hx rfl (hb hby at_136) rfl k) ?_
    refine Goes.via (B := T10.setTop (mkF m 141 #[.val (.int p1), .val (.int p2), .val (.int p3), .val (.int p4), .val (.int p5), .val (.int p6), .val (.ref b1), .val (.int (4 : Int32)), .val (.int cc3), .unset] [])) (fun t k => XS.icmpNo X10.here hx rfl (hb hby at_138) rfl (tlt (by decide : (3 : Int32) < (4 : Int32))).2.1 k) ?_
    refine Goes.via (B := T10.setTop (mkF m 143 #[.val (.int p1), .val (.int p2), .val (.int p3), .val (.int p4), .val (.int p5), .val (.int p6), .val (.ref b1), .val (.int (4 : Int32)), .val (.int cc3), .unset] [(.ref b1)])) (fun t k => XS.aload X10.here hx rfl (hb hby at_141) rfl rfl k) ?_
    refine Goes.via (B := T10.setTop (mkF m 144 #[.val (.int p1), .val (.int p2), .val (.int p3), .val (.int p4), .val (.int p5), .val (.int p6), .val (.ref b1), .val (.int (4 : Int32)), .val (.int cc3), .unset] [(.int (3 : Int32)), (.ref b1)])) (fun t k => XS.iconst X10.here hx rfl (hb hby at_143) k) ?_
    obtain ⟨cl33, Ar33, q33, S33, M33, H33, G33⟩ := (⟨cl31, Ar31, q31, S31, M31, H31, G31⟩ : Arv Z T10.heap b1 k1 .int (4 : Int32) [(.int z8_0), (.int z10_1), (.int z10_2), (.int z9_3)] (.int (0 : Int32)))
    have hin33 : ¬ ((3 : Int32) < 0 ∨ cl33.slots.size ≤ ((3 : Int32)).toNatClampNeg) := inb_of S33 ⟨by decide, by decide⟩
    have hat33 : cl33.slots[((3 : Int32)).toNatClampNeg]? = some (.int z9_3) := H33.at hin33 rfl
    refine Goes.via (B := T10.setTop (mkF m 145 #[.val (.int p1), .val (.int p2), .val (.int p3), .val (.int p4), .val (.int p5), .val (.int p6), .val (.ref b1), .val (.int (4 : Int32)), .val (.int cc3), .unset] [(.int z9_3)])) (fun t k => X10.iaload hx (j := (3 : Int32)) (v := (.int z9_3)) (by rw [eq10]; exact Ar33.1) (State.isArrayOf_alike hZ.alike Ar33.2.1) Ar33.2.2 hin33 hat33 (g := (mkF m 144 #[.val (.int p1), .val (.int p2), .val (.int p3), .val (.int p4), .val (.int p5), .val (.int p6), .val (.ref b1), .val (.int (4 : Int32)), .val (.int cc3), .unset] [(.int (3 : Int32)), (.ref b1)])) rfl rfl (hb hby at_144) _ k) ?_
    refine Goes.via (B := T10.setTop (mkF m 147 #[.val (.int p1), .val (.int p2), .val (.int p3), .val (.int p4), .val (.int p5), .val (.int p6), .val (.ref b1), .val (.int (4 : Int32)), .val (.int cc3), .unset] [(.int p6), (.int z9_3)])) (fun t k => XS.iload X10.here hx rfl (hb hby at_145) rfl k) ?_
    refine own_join (B := T10.setTop (mkF m 156 #[.val (.int p1), .val (.int p2), .val (.int p3), .val (.int p4), .val (.int p5), .val (.int p6), .val (.ref b1), .val (.int (4 : Int32)), .val (.int (own_c3 z9_3 p6 cc3)), .unset] [])) (fun kj => ?_) ?_
    · by_cases c147_34 : z9_3 < p6
      · refine Goes.via (B := T10.setTop (mkF m 150 #[.val (.int p1), .val (.int p2), .val (.int p3), .val (.int p4), .val (.int p5), .val (.int p6), .val (.ref b1), .val (.int (4 : Int32)), .val (.int cc3), .unset] [])) (fun t k => XS.icmpNo X10.here hx rfl (hb hby at_147) rfl (tlt c147_34).2.1 k) ?_
        refine Goes.via (B := T10.setTop (mkF m 152 #[.val (.int p1), .val (.int p2), .val (.int p3), .val (.int p4), .val (.int p5), .val (.int p6), .val (.ref b1), .val (.int (4 : Int32)), .val (.int cc3), .unset] [(.int cc3)])) (fun t k => XS.iload X10.here hx rfl (hb hby at_150) rfl k) ?_
        refine Goes.via (B := T10.setTop (mkF m 153 #[.val (.int p1), .val (.int p2), .val (.int p3), .val (.int p4), .val (.int p5), .val (.int p6), .val (.ref b1), .val (.int (4 : Int32)), .val (.int cc3), .unset] [(.int (1 : Int32)), (.int cc3)])) (fun t k => XS.iconst X10.here hx rfl (hb hby at_152) k) ?_
        refine Goes.via (B := T10.setTop (mkF m 154 #[.val (.int p1), .val (.int p2), .val (.int p3), .val (.int p4), .val (.int p5), .val (.int p6), .val (.ref b1), .val (.int (4 : Int32)), .val (.int cc3), .unset] [(.int (cc3 + (1 : Int32)))])) (fun t k => XS.iadd X10.here hx rfl (hb hby at_153) rfl k) ?_
        refine Goes.via (B := T10.setTop (mkF m 156 #[.val (.int p1), .val (.int p2), .val (.int p3), .val (.int p4), .val (.int p5), .val (.int p6), .val (.ref b1), .val (.int (4 : Int32)), .val (.int (cc3 + (1 : Int32))), .unset] [])) (fun t k => XS.istore X10.here hx rfl (hb hby at_154) rfl (l' := #[.val (.int p1), .val (.int p2), .val (.int p3), .val (.int p4), .val (.int p5), .val (.int p6), .val (.ref b1), .val (.int (4 : Int32)), .val (.int (cc3 + (1 : Int32))), .unset]) rfl k) ?_
        have hj : (own_c3 z9_3 p6 cc3) = (cc3 + (1 : Int32)) := by rw [own_c3, if_pos c147_34]
        rw [hj] at kj
        exact kj
      · refine Goes.via (B := T10.setTop (mkF m 156 #[.val (.int p1), .val (.int p2), .val (.int p3), .val (.int p4), .val (.int p5), .val (.int p6), .val (.ref b1), .val (.int (4 : Int32)), .val (.int cc3), .unset] [])) (fun t k => XS.icmpYes X10.here hx rfl (pc0 := 147) (pc' := 156) rfl (hb hby at_147) rfl (flt c147_34).2.1 (by decide) (by decide) k) ?_
        have hj : (own_c3 z9_3 p6 cc3) = cc3 := by rw [own_c3, if_neg c147_34]
        rw [hj] at kj
        exact kj
    generalize hcc4 : (own_c3 z9_3 p6 cc3) = cc4
    refine Goes.via (B := T10.setTop (mkF m 158 #[.val (.int p1), .val (.int p2), .val (.int p3), .val (.int p4), .val (.int p5), .val (.int p6), .val (.ref b1), .val (.int (4 : Int32)), .val (.int cc4), .unset] [(.ref b1)])) (fun t k => XS.aload X10.here hx rfl (hb hby at_156) rfl rfl k) ?_
    refine Goes.via (B := T10.setTop (mkF m 160 #[.val (.int p1), .val (.int p2), .val (.int p3), .val (.int p4), .val (.int p5), .val (.int p6), .val (.ref b1), .val (.int (4 : Int32)), .val (.int cc4), .unset] [(.int (4 : Int32)), (.ref b1)])) (fun t k => XS.iload X10.here hx rfl (hb hby at_158) rfl k) ?_
    refine Goes.via (B := T10.setTop (mkF m 162 #[.val (.int p1), .val (.int p2), .val (.int p3), .val (.int p4), .val (.int p5), .val (.int p6), .val (.ref b1), .val (.int (4 : Int32)), .val (.int cc4), .unset] [(.int p6), (.int (4 : Int32)), (.ref b1)])) (fun t k => XS.iload X10.here hx rfl (hb hby at_160) rfl k) ?_
    obtain ⟨_, _, ⟨T35, L35, kk35, nn35⟩, -, X35, ⟨Lc35, hQ35, l35, y35, z35⟩, st35⟩ := Jvm.LawKit.callS X10 hx (y := (⟨"com/example/noise_to_nodes/noisetonodes/AscendingInts", "countBelow", "([III)I"⟩ : MethodName)) hown (mvT hZ (hw _ (List.mem_of_getElem? (i := 6) rfl))) (mvT hZ (hw _ (List.mem_of_getElem? (i := 7) rfl))) (mvT hZ (hw _ (List.mem_of_getElem? (i := 8) rfl))) (mvT hZ (hw _ (List.mem_of_getElem? (i := 9) rfl))) (by decide) (backOf (W := 0) (rm2_4 l Z a0 hw [] b1 k1 z8_0 z10_1 z10_2 z9_3 p6 T10.heap n0 Z10 (⟨cl33, Ar33, q33, S33, M33, H33, G33⟩ : Arv Z T10.heap b1 k1 .int (4 : Int32) [(.int z8_0), (.int z10_1), (.int z10_2), (.int z9_3)] (.int (0 : Int32)))) hZ (hw _ (List.mem_of_getElem? (i := 9) rfl)) (hw _ (List.mem_of_getElem? (i := 8) rfl)) (by decide) (by decide)) (g := (mkF m 162 #[.val (.int p1), .val (.int p2), .val (.int p3), .val (.int p4), .val (.int p5), .val (.int p6), .val (.ref b1), .val (.int (4 : Int32)), .val (.int cc4), .unset] [(.int p6), (.int (4 : Int32)), (.ref b1)])) rfl (by rw [hml]; rfl) (argsL := [(.ref b1), (.int (4 : Int32)), (.int p6)]) (rest := []) (lenOf pd___III_I rfl) rfl (by show 2 * 0 + _ ≤ _; exact Nat.le_of_eq rfl) (hb hby at_162) (fun _ _ => ⟨rfl, eq10, (by decide : 1 + 0 ≤ _), (by decide : 4 + 0 ≤ _)⟩)
    dsimp only [Pt.U, Pt.locs, Pt.cells, Pt.slots] at X35 l35 y35 z35 st35 hQ35
    subst l35 y35 z35
    obtain ⟨rfl, Nq35, hq35⟩ := hQ35
    have N35 := Fr.app N10 Nq35
    refine Goes.via (B := T35.setTop (mkF m 165 #[.val (.int p1), .val (.int p2), .val (.int p3), .val (.int p4), .val (.int p5), .val (.int p6), .val (.ref b1), .val (.int (4 : Int32)), .val (.int cc4), .unset] [(.int (own_b4 z8_0 z10_1 z10_2 z9_3 p6))])) st35 ?_
    refine Goes.via (B := T35.setTop (mkF m 167 #[.val (.int p1), .val (.int p2), .val (.int p3), .val (.int p4), .val (.int p5), .val (.int p6), .val (.ref b1), .val (.int (4 : Int32)), .val (.int cc4), .val (.int (own_b4 z8_0 z10_1 z10_2 z9_3 p6))] [])) (fun t k => XS.istore X35.here hx rfl (hb hby at_165) rfl (l' := #[.val (.int p1), .val (.int p2), .val (.int p3), .val (.int p4), .val (.int p5), .val (.int p6), .val (.ref b1), .val (.int (4 : Int32)), .val (.int cc4), .val (.int (own_b4 z8_0 z10_1 z10_2 z9_3 p6))]) rfl k) ?_
    refine Goes.via (B := T35.setTop (mkF m 169 #[.val (.int p1), .val (.int p2), .val (.int p3), .val (.int p4), .val (.int p5), .val (.int p6), .val (.ref b1), .val (.int (4 : Int32)), .val (.int cc4), .val (.int (own_b4 z8_0 z10_1 z10_2 z9_3 p6))] [(.int (own_b4 z8_0 z10_1 z10_2 z9_3 p6))])) (fun t k => XS.iload X35.here hx rfl (hb hby at_167) rfl k) ?_
    refine Goes.via (B := T35.setTop (mkF m 171 #[.val (.int p1), .val (.int p2), .val (.int p3), .val (.int p4), .val (.int p5), .val (.int p6), .val (.ref b1), .val (.int (4 : Int32)), .val (.int cc4), .val (.int (own_b4 z8_0 z10_1 z10_2 z9_3 p6))] [(.int cc4), (.int (own_b4 z8_0 z10_1 z10_2 z9_3 p6))])) (fun t k => XS.iload X35.here hx rfl (hb hby at_169) rfl k) ?_
    refine Goes.via (B := T35.setTop (mkF m 174 #[.val (.int p1), .val (.int p2), .val (.int p3), .val (.int p4), .val (.int p5), .val (.int p6), .val (.ref b1), .val (.int (4 : Int32)), .val (.int cc4), .val (.int (own_b4 z8_0 z10_1 z10_2 z9_3 p6))] [])) (fun t k => XS.icmpNo X35.here hx rfl (hb hby at_171) rfl (teq (own_fin4 hs hcc0 hcc1 hcc2 hcc3 hcc4)).2 k) ?_
    refine Goes.via (B := T35.setTop (mkF m 175 #[.val (.int p1), .val (.int p2), .val (.int p3), .val (.int p4), .val (.int p5), .val (.int p6), .val (.ref b1), .val (.int (4 : Int32)), .val (.int cc4), .val (.int (own_b4 z8_0 z10_1 z10_2 z9_3 p6))] [(.int (1 : Int32))])) (fun t k => XS.iconst X35.here hx rfl (hb hby at_174) k) ?_
    refine Goes.via (B := T35.setTop (mkF m 179 #[.val (.int p1), .val (.int p2), .val (.int p3), .val (.int p4), .val (.int p5), .val (.int p6), .val (.ref b1), .val (.int (4 : Int32)), .val (.int cc4), .val (.int (own_b4 z8_0 z10_1 z10_2 z9_3 p6))] [(.int (1 : Int32))])) (fun t k => XS.goto X35.here hx rfl (pc0 := 175) (pc' := 179) rfl (hb hby at_175) (by decide) (by decide) k) ?_
    exact own_out X35 (v := some (.int (1 : Int32))) (fun h => by rw [Bd.returns] at h; cases h) Bd.notSynchronized (fun fs hr => retOut X35 hx Bd.returns rfl (Or.inl ⟨rfl, Or.inr (Or.inl rfl), _, rfl⟩) (hb hby at_179) hr) ⟨rfl, N35⟩ (by decide) (by decide)
set_option maxRecDepth 65536 in
set_option maxHeartbeats 40000000 in
theorem comes_1 {Post : Tables → Env → Array Value → State → Outcome → State → Prop} (hpost : ∀ tb e args s v u, (limb_1_1.after args s (.returned v) u = true ∧ limb_1_2.after args s (.returned v) u = true ∧ True) → FrameEnd s (.returned v) u (Jvm.fieldLocs frame_1_writes args s ++ Jvm.arrayLocs frame_1_arrays args s ++ Jvm.staticLocs frame_1_statics s) 16 128 → Post tb e args s (.returned v) u) :
    ArmFor flags0 classFile x code maxLocals ret World_1 tables_1 room_1 Calls_1 rest_1 Pre_1 Post := by
  intro l hfl _ _ p e ha hc hk s m args below hf hA hF happ hP
  obtain ⟨hcalls, hrest, hpre⟩ := hP
  obtain ⟨-, -, -, hnamed, -, -, -, hat⟩ := (Spec.applies_iff hf).mp happ
  obtain ⟨hg, hn⟩ := and_e (Cond.before_iff.mp (show (Jvm.Cond.and given_1 narrow_1).before args s = true from hpre))
  obtain ⟨h1, r0⟩ := and_e hg
  obtain ⟨t0, r1⟩ := and_e r0
  obtain ⟨t1, r2⟩ := and_e r1
  obtain ⟨t2, r3⟩ := and_e r2
  obtain ⟨t3, r4⟩ := and_e r3
  obtain ⟨t4, r5⟩ := and_e r4
  obtain ⟨w0, w1, w2, w3, w4, w5, rfl⟩ : ∃ w0 w1 w2 w3 w4 w5 : Value, args = #[w0, w1, w2, w3, w4, w5] := by
    have hs : args.size = 6 := by simpa [Cond.value, given_1] using h1
    obtain ⟨L⟩ := args
    match L, hs with
    | [w0, w1, w2, w3, w4, w5], _ => exact ⟨w0, w1, w2, w3, w4, w5, rfl⟩
  have hw := fun d (hd : d ∈ tables_1) => atoms_spec (ws := Jvm.Cond.code x code maxLocals ret :: tables_1) hat d (List.mem_cons_of_mem _ hd)
  obtain ⟨i0, q0⟩ := is_v t0
  obtain rfl : w0 = (.int i0) := Option.some.inj q0
  obtain ⟨i1, q1⟩ := is_v t1
  obtain rfl : w1 = (.int i1) := Option.some.inj q1
  obtain ⟨i2, q2⟩ := is_v t2
  obtain rfl : w2 = (.int i2) := Option.some.inj q2
  obtain ⟨i3, q3⟩ := is_v t3
  obtain rfl : w3 = (.int i3) := Option.some.inj q3
  obtain ⟨i4, q4⟩ := is_v t4
  obtain rfl : w4 = (.int i4) := Option.some.inj q4
  obtain ⟨i5, q5⟩ := is_v r5
  obtain rfl : w5 = (.int i5) := Option.some.inj q5
  obtain ⟨n, o, h1, h2, h3, _, L, rfl, ⟨rfl, N⟩, hq⟩ := rm0 l s _ hw tables_1 i0 i1 i2 i3 i4 i5  s.heap s.heap.size (Nat.le_refl _) p e ha hc hk s m _ below hf ((Spec.applies_iff_loose hf).mp happ).1 ⟨rfl, State.Warmed39.refl s, rfl⟩ trivial
  refine ⟨n, _, h1, h2, h3, hpost _ _ _ _ _ _ ⟨Cond.after_iff.mpr rfl, Cond.after_iff.mpr (eq_i res_at (Term.int_eval (1)) rfl), trivial⟩ ⟨hq.1, hq.2.1, (hq.2.2.sift fun y hy => Or.inr (N y hy)).mono (by decide) (by decide)⟩⟩
theorem main_1_1 : Claimed_1_1 := comes_1 fun _ _ _ _ _ _ h hF => ⟨h.1, hF⟩
theorem main_1_2 : Claimed_1_2 := comes_1 fun _ _ _ _ _ _ h hF => ⟨h.2.1, hF⟩
end Jvm.Pilot.@@N@@
namespace Jvm.Pilot.@@N@@
open Jvm Jvm.ClassFile Sem Op Lib Jvm.Free Jvm.Stand Jvm.Pilot.@@N@@.Jvm.D
/-! MADE BY PROGRAM (witnessworld.py) out of the Statement's table words and the real class files: 9 classes; the members and pool entries that the words name. The judged class is class 1, her method 2. -/
namespace start1
open Jvm.ClassFile
def u (s : String) : CpInfo := .utf8 (stringToUtf16 s)
/-- a pool by its gaps: so many unusable entries, then the entry; so many at the end -/
def gap : Nat → List CpInfo → List CpInfo
  | 0, r => r
  | n + 1, r => .unusable :: gap n r
def poolList (es : List (Nat × CpInfo)) (last : Nat) : List CpInfo := es.foldr (fun e r => gap e.1 (e.2 :: r)) (gap last [])
def pool (es : List (Nat × CpInfo)) (last : Nat) : Array CpInfo := ⟨poolList es last⟩
def fileOf (pool : Array CpInfo) (this : Nat) (attrs : Array Attribute := #[]) (ms : Array MethodInfo := #[]) (fl : Nat := 33) (sup : Nat := 0) (ifs : Array Nat := #[]) (fds : Array FieldInfo := #[]) : ClassFile where
  minorVersion := 0
  majorVersion := 65
  constantPool := pool
  accessFlags := fl
  thisClass := this
  superClass := sup
  interfaces := ifs
  fields := fds
  methods := ms
  attributes := attrs
def plain (name : String) (sup : Option ClassId) : Class where
  name := name
  kind := .ordinary
  loader := none
  accessFlags := 33
  super := sup
  interfaces := #[]
  cf := none
  fields := #[]
  methods := #[]
  instanceTypes := #[]
  staticTypes := #[]
  resolved := #[]
  callSites := []
  init := .initialized
  statics := none
  mirror := none

def pool0 : Array CpInfo := pool [(5, u "<init>"), (0, u "()V"), (1, .class_ 10), (1, u "java/lang/Object")] 113

def k0m0 : Method := { name := "<init>", desc := "()V", sig := { parameters := [], returnType := none }, accessFlags := 1, code := none }
/-- java/lang/Object -/
def k0 : Class := { plain "java/lang/Object" none with
  accessFlags := 33
  interfaces := #[]
  cf := some (fileOf pool0 8 #[] #[{ accessFlags := 1, nameIndex := 5, descriptorIndex := 6, attributes := #[] }] 33 0 #[] #[])
  fields := #[]
  methods := #[k0m0]
  instanceTypes := #[]
  staticTypes := #[]
  resolved := Array.replicate 124 none
  statics := none }

def pool1 : Array CpInfo := pool [(2, .class_ 4), (1, u "java/lang/Object"), (0, u "<init>"), (0, u "()V"), (0, .methodref 8 9), (0, .class_ 10), (0, .nameAndType 11 12), (0, u "com/example/noise_to_nodes/noisetonodes/AscendingIntsCountBelowPinLaw"), (0, u "cx"), (0, u "([III)V"), (0, .integer 2147483647), (0, .methodref 15 16), (0, .class_ 17), (0, .nameAndType 18 19), (0, u "com/example/noise_to_nodes/noisetonodes/AscendingInts"), (0, u "countBelow"), (0, u "([III)I"), (3, u "law"), (0, u "(IIIIII)Z")] 4

def k1m0 : Method := { name := "<init>", desc := "()V", sig := { parameters := [], returnType := none }, accessFlags := 2, code := none }
def k1c1 : Code := { maxStack := 4, maxLocals := 4, code := method_2_code, exceptionTable := #[], attributes := #[] }
def k1m1 : Method := { name := "cx", desc := "([III)V", sig := { parameters := [(.array .int), .int, .int], returnType := none }, accessFlags := 10, code := some k1c1 }
def k1c2 : Code := { maxStack := 3, maxLocals := 10, code := code, exceptionTable := #[], attributes := #[] }
def k1m2 : Method := { name := "law", desc := "(IIIIII)Z", sig := { parameters := [.int, .int, .int, .int, .int, .int], returnType := some .boolean }, accessFlags := 9, code := some k1c2 }
/-- com/example/noise_to_nodes/noisetonodes/AscendingIntsCountBelowPinLaw -/
def k1 : Class := { plain "com/example/noise_to_nodes/noisetonodes/AscendingIntsCountBelowPinLaw" (some 0) with
  accessFlags := 49
  interfaces := #[]
  cf := some (fileOf pool1 8 #[] #[{ accessFlags := 2, nameIndex := 5, descriptorIndex := 6, attributes := #[] }, { accessFlags := 10, nameIndex := 11, descriptorIndex := 12, attributes := #[] }, { accessFlags := 9, nameIndex := 23, descriptorIndex := 24, attributes := #[] }] 49 2 #[] #[])
  fields := #[]
  methods := #[k1m0, k1m1, k1m2]
  instanceTypes := #[]
  staticTypes := #[]
  resolved := Array.replicate 29 none
  statics := none }

def pool2 : Array CpInfo := pool [(2, .class_ 4), (1, u "java/lang/Object"), (0, u "<init>"), (0, u "()V"), (0, .class_ 8), (0, u "com/example/noise_to_nodes/noisetonodes/AscendingInts"), (2, u "countBelow"), (0, u "([III)I")] 3

def k2m0 : Method := { name := "<init>", desc := "()V", sig := { parameters := [], returnType := none }, accessFlags := 2, code := none }
def k2c1 : Code := { maxStack := 2, maxLocals := 6, code := prog_4_method_2_code, exceptionTable := #[], attributes := #[] }
def k2m1 : Method := { name := "countBelow", desc := "([III)I", sig := { parameters := [(.array .int), .int, .int], returnType := some .int }, accessFlags := 8, code := some k2c1 }
/-- com/example/noise_to_nodes/noisetonodes/AscendingInts -/
def k2 : Class := { plain "com/example/noise_to_nodes/noisetonodes/AscendingInts" (some 0) with
  accessFlags := 48
  interfaces := #[]
  cf := some (fileOf pool2 7 #[] #[{ accessFlags := 2, nameIndex := 5, descriptorIndex := 6, attributes := #[] }, { accessFlags := 8, nameIndex := 11, descriptorIndex := 12, attributes := #[] }] 48 2 #[] #[])
  fields := #[]
  methods := #[k2m0, k2m1]
  instanceTypes := #[]
  staticTypes := #[]
  resolved := Array.replicate 16 none
  statics := none }

def pool3 : Array CpInfo := pool [(1, u "java/lang/Cloneable"), (0, .class_ 1), (0, u "java/lang/Object"), (0, .class_ 3)] 3

/-- java/lang/Cloneable -/
def k3 : Class := { plain "java/lang/Cloneable" (some 0) with
  accessFlags := 1537
  interfaces := #[]
  cf := some (fileOf pool3 2 #[] #[] 1537 4 #[] #[])
  fields := #[]
  methods := #[]
  instanceTypes := #[]
  staticTypes := #[]
  resolved := Array.replicate 8 none
  statics := none }

def pool4 : Array CpInfo := pool [(1, u "java/io/Serializable"), (0, .class_ 1), (0, u "java/lang/Object"), (0, .class_ 3)] 3

/-- java/io/Serializable -/
def k4 : Class := { plain "java/io/Serializable" (some 0) with
  accessFlags := 1537
  interfaces := #[]
  cf := some (fileOf pool4 2 #[] #[] 1537 4 #[] #[])
  fields := #[]
  methods := #[]
  instanceTypes := #[]
  staticTypes := #[]
  resolved := Array.replicate 8 none
  statics := none }

/-- the primitive byte -/
def k5 : Class := { plain "byte" none with kind := .primitive 'B', accessFlags := 0x411 }
/-- [B -/
def k6 : Class := { plain "[B" (some 0) with kind := .array 5 .byte, interfaces := #[3, 4], accessFlags := 1041 }

/-- the primitive int -/
def k7 : Class := { plain "int" none with kind := .primitive 'I', accessFlags := 0x411 }
/-- [I -/
def k8 : Class := { plain "[I" (some 0) with kind := .array 7 .int, interfaces := #[3, 4], accessFlags := 1041 }

def heap : Heap := #[]
def classes : Array Class := #[k0, k1, k2, k3, k4, k5, k6, k7, k8]
def interned : List (Array UInt16 × Addr) := []
def slotsUsed : Nat := 0
def theMethod : MethodId := ⟨1, 2⟩
def args0 : Array Value := #[.int 5, .int 3, .int 7, .int 1, .int 3, .int 4]
def aboutOver (below : List Frame) : State where
  vm := { classes := classes, interned := interned.toArray }
  heap := heap
  slotsUsed := slotsUsed
  threads := #[{ frames := .invoking theMethod args0 :: below }]
def below0 : List Frame := [.native { method := ⟨0, 0⟩, args := #[] }]
def about1 : State := aboutOver below0
def p0 : Program := .bare "" "" ""
def e0 : Env := launch0.env 0 0 0
theorem w_frames : about1.frames = Frame.invoking theMethod args0 :: below0 := rfl
set_option maxRecDepth 65536 in
theorem w_args : argsFit about1.vm theMethod args0 = true := by decide +kernel
set_option maxRecDepth 65536 in
theorem w_heap : heapFits about1 = true := by decide +kernel
set_option maxRecDepth 65536 in
theorem w_runnable : about1.curStatus? = some .runnable := by decide +kernel
set_option maxRecDepth 65536 in
theorem w_alone : about1.alone = true := by decide +kernel
set_option maxRecDepth 65536 in
theorem w_named : about1.methodNamed? x = some theMethod := by decide +kernel
set_option maxRecDepth 65536 in
theorem w_hears : about1.hears theMethod below0 = true := by decide +kernel
set_option maxRecDepth 65536 in
theorem w_ripe : about1.ripe theMethod args0 below0 = true := by decide +kernel
theorem w_running : about1.status = .running := rfl
set_option maxRecDepth 65536 in
theorem w_room : about1.hasRoom e0.platform room_1 = true :=
  launch0.hasRoom_least _ room_1 (by decide +kernel) (by decide +kernel) (by decide +kernel) (by decide +kernel) (by decide +kernel) (by decide +kernel)
theorem allAtoms_all (ts : List Jvm.Cond) (a : Array Jvm.Value) (st : Jvm.State) : (allAtoms ts).before a st = ts.all (fun c => c.before a st) := by
  induction ts with
  | nil => rfl
  | cons c t ih =>
    show (Jvm.Cond.and c (allAtoms t)).before a st = _
    rw [Jvm.Cond.before_and, ih, List.all_cons]
def words1 : List Jvm.Cond := Jvm.Cond.code x code maxLocals ret :: tables_1
/-- a 'code' word, met by the world's own term for the bytes: nothing is compared byte by byte -/
theorem code_word {y : MethodName} {bytes : ByteArray} {mx : Nat} {rt : Option FieldType} {a : Array Value} {s : State} {m : MethodId} {meth : Method} {c : Code} (h1 : s.methodNamed? y = some m) (h2 : s.vm.method? m = some meth) (h3 : meth.code = some c) (h4 : c.code = bytes)
    (h5 : (c.maxLocals == mx && c.exceptionTable.isEmpty && decide (c.maxStack ≤ mostOperands) && decide (meth.sig.returnType = rt) && !meth.locks && decide (parseMethodDescriptor y.desc = some meth.sig)) = true) : (Jvm.Cond.code y bytes mx rt).before a s = true := by
  simp only [Bool.and_eq_true, beq_iff_eq, Bool.not_eq_true', decide_eq_true_eq] at h5
  obtain ⟨⟨⟨⟨⟨g1, g2⟩, g3⟩, g4⟩, g5⟩, g6⟩ := h5
  simp [Cond.before, Cond.holds, Cond.value, h1, h2, h3, h4, g1, g2, g3, g4, g5, g6]
def isCode : Jvm.Cond → Bool
  | .code _ _ _ _ => true
  | _ => false
theorem all_split {L : List Jvm.Cond} {P : Jvm.Cond → Bool} (h1 : L.all (fun c => isCode c || P c) = true) (h2 : ∀ c ∈ L.filter isCode, P c = true) : L.all P = true := by
  refine List.all_eq_true.mpr fun c hc => ?_
  have h := List.all_eq_true.mp h1 c hc
  rcases Bool.eq_false_or_eq_true (isCode c) with hi | hi
  · exact h2 c (List.mem_filter.mpr ⟨hc, hi⟩)
  · simpa [hi] using h
set_option maxRecDepth 65536 in
theorem w_c0 : (Jvm.Cond.code x code maxLocals ret).before args0 about1 = true := code_word (m := ⟨1, 2⟩) (meth := k1m2) (c := k1c2) (by decide +kernel) rfl rfl rfl (by decide +kernel)
set_option maxRecDepth 65536 in
theorem w_c1 : (Jvm.Cond.code ({ cls := "com/example/noise_to_nodes/noisetonodes/AscendingIntsCountBelowPinLaw", name := "cx", desc := "([III)V" } : Jvm.MethodName) method_2_code (4 : Nat) (Option.none : Option Jvm.ClassFile.FieldType)).before args0 about1 = true := code_word (m := ⟨1, 1⟩) (meth := k1m1) (c := k1c1) (by decide +kernel) rfl rfl rfl (by decide +kernel)
set_option maxRecDepth 65536 in
theorem w_c2 : (Jvm.Cond.code ({ cls := "com/example/noise_to_nodes/noisetonodes/AscendingInts", name := "countBelow", desc := "([III)I" } : Jvm.MethodName) prog_4_method_2_code (6 : Nat) (Option.some Jvm.ClassFile.FieldType.int)).before args0 about1 = true := code_word (m := ⟨2, 1⟩) (meth := k2m1) (c := k2c1) (by decide +kernel) rfl rfl rfl (by decide +kernel)
def codes1 : List Jvm.Cond := [Jvm.Cond.code x code maxLocals ret, Jvm.Cond.code ({ cls := "com/example/noise_to_nodes/noisetonodes/AscendingIntsCountBelowPinLaw", name := "cx", desc := "([III)V" } : Jvm.MethodName) method_2_code (4 : Nat) (Option.none : Option Jvm.ClassFile.FieldType), Jvm.Cond.code ({ cls := "com/example/noise_to_nodes/noisetonodes/AscendingInts", name := "countBelow", desc := "([III)I" } : Jvm.MethodName) prog_4_method_2_code (6 : Nat) (Option.some Jvm.ClassFile.FieldType.int)]
set_option maxRecDepth 65536 in
theorem codes_eq : words1.filter isCode = codes1 := rfl
theorem w_codes : ∀ c ∈ words1.filter isCode, c.before args0 about1 = true := by
  rw [codes_eq]
  intro c hc
  simp only [codes1, List.mem_cons, List.not_mem_nil, or_false] at hc
  rcases hc with rfl | rfl | rfl
  · exact w_c0
  · exact w_c1
  · exact w_c2
set_option maxRecDepth 65536 in
theorem w_t1 : words1.all (fun c => isCode c || c.before args0 about1) = true := by decide +kernel
theorem w_tables : (allAtoms (Jvm.Cond.code x code maxLocals ret :: tables_1)).before args0 about1 = true := by
  rw [allAtoms_all]
  show words1.all (fun c => c.before args0 about1) = true
  refine all_split ?_ w_codes
  rw [w_t1]
set_option maxRecDepth 65536 in
theorem w_case : (Jvm.Cond.and given_1 narrow_1).before args0 about1 = true := by decide +kernel
theorem w_applies : (headSpec (Jvm.Cond.code x code maxLocals ret :: tables_1) room_1).applies x e0.platform about1 = true :=
  (Spec.applies_iff w_frames).mpr ⟨w_running, w_runnable, w_alone, w_named, w_hears, w_ripe, w_room, w_tables⟩
theorem atStart : AtStart classFile x code maxLocals ret World_1 tables_1 room_1 Calls_1 rest_1 Pre_1 launch0 p0 e0 about1 theMethod args0 below0 :=
  ⟨lists_1, trivial, launch0.admits_env _ _ _, launch0.least_env, fairChoices_fair.cas, fairChoices_fair.clock, w_frames, w_args, w_heap, w_applies, trivial, trivial, w_case⟩
end start1
theorem witness_1 : WitnessClaimed_1 := ⟨start1.p0, start1.e0, start1.about1, start1.theMethod, start1.args0, start1.below0, start1.atStart⟩
end Jvm.Pilot.@@N@@
