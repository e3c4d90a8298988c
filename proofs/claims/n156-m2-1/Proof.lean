import JvmDerived
import JvmDerived.Pilot.@@N@@Statement
import JvmDerived.Pilot.@@N@@Code
set_option linter.unusedVariables false
set_option linter.unusedSimpArgs false
namespace Jvm.Pilot.@@N@@
open Jvm Jvm.ClassFile Sem Op Lib Jvm.Free Jvm.Stand Jvm.LawKit Jvm.RoadKit Bundle Jvm.Pilot.@@N@@.Jvm.D
section Own
variable {p : Program} {l : Launch} {e : Env} {R : Room} {s : State} {m : MethodId} {args : Array Value} {below : List Frame} {meth : Method} {c : Code} {T : State} {locs : List Loc} {cells slots : Nat}
def Goes (p : Program) (e : Env) (below : List Frame) (P : State → Outcome → Prop) (A : State) : Prop :=
  ∃ s₂ o, Steps p.tables e below A s₂ ∧ s₂.status = .running ∧ Ended s₂ below o ∧ P s₂ o
theorem Goes.via {P : State → Outcome → Prop} {A B : State} (h : ∀ t, Steps p.tables e below B t → Steps p.tables e below A t) (k : Goes p e below P B) : Goes p e below P A := by
  obtain ⟨s₂, o, h1, h2⟩ := k
  exact ⟨s₂, o, h _ h1, h2⟩
theorem own_join {P : State → Outcome → Prop} {A B : State} (h : Goes p e below P B → Goes p e below P A) (k : Goes p e below P B) : Goes p e below P A := h k
theorem Goes.cast {P : State → Outcome → Prop} {g g' : JFrame} (q : g = g') (k : Goes p e below P (T.setTop g')) : Goes p e below P (T.setTop g) := q ▸ k
theorem own_out (X : Stand p l e R s m args below meth c T locs cells slots) {v : Option Value} (hv : meth.sig.returnType = none → v = none) (hlocks : meth.locks = false) {A : State} {Q : Option Value → Heap → List Loc → Prop} {kc ks : Nat}
    (st : ∀ fs, (∀ (f : JFrame) (acts : List Action), f.method = m → f.locked = none → f.entered = [] → (doReturn e (T.setTop f) acts v).1 = T.setFrames fs) → Steps p.tables e below A (T.setFrames fs))
    (hQ : Q v T.heap locs) (hc : cells ≤ kc) (hs : slots ≤ ks) : Goes p e below (fun s₂ o => ∃ v L, o = .returned v ∧ Q v s₂.heap L ∧ FrameEnd s o s₂ L kc ks) A := by
  obtain ⟨fs, hr, hrun, hended, hW, hsame⟩ := X.leave (v := v) hv hlocks
  exact ⟨_, _, st fs hr, hrun, hended, v, locs, rfl, hQ, ⟨_, rfl⟩, hW, hsame.mono hc hs⟩
end Own
def own_f1 (p1 : Int32) : Int32 := if p1 < (1 : Int32) then if p1 < (127 : Int32) then (0 : Int32) else if (159 : Int32) < p1 then (0 : Int32) else if p1 = (133 : Int32) then (0 : Int32) else (1 : Int32) else if (31 : Int32) < p1 then if p1 < (127 : Int32) then (0 : Int32) else if (159 : Int32) < p1 then (0 : Int32) else if p1 = (133 : Int32) then (0 : Int32) else (1 : Int32) else if p1 = (9 : Int32) then if p1 < (127 : Int32) then (0 : Int32) else if (159 : Int32) < p1 then (0 : Int32) else if p1 = (133 : Int32) then (0 : Int32) else (1 : Int32) else if p1 = (10 : Int32) then if p1 < (127 : Int32) then (0 : Int32) else if (159 : Int32) < p1 then (0 : Int32) else if p1 = (133 : Int32) then (0 : Int32) else (1 : Int32) else if p1 = (13 : Int32) then if p1 < (127 : Int32) then (0 : Int32) else if (159 : Int32) < p1 then (0 : Int32) else if p1 = (133 : Int32) then (0 : Int32) else (1 : Int32) else (1 : Int32)
theorem d1_0 : decode prog_54_method_3_code 0 = .ok (.iload_n 0, 1) := by decide +kernel
theorem d1_1 : decode prog_54_method_3_code 1 = .ok (.iconst 1, 1) := by decide +kernel
theorem d1_2 : decode prog_54_method_3_code 2 = .ok (.if_icmp .lt 27, 3) := by decide +kernel
theorem d1_5 : decode prog_54_method_3_code 5 = .ok (.iload_n 0, 1) := by decide +kernel
theorem d1_6 : decode prog_54_method_3_code 6 = .ok (.bipush 31, 2) := by decide +kernel
theorem d1_8 : decode prog_54_method_3_code 8 = .ok (.if_icmp .gt 21, 3) := by decide +kernel
theorem d1_11 : decode prog_54_method_3_code 11 = .ok (.iload_n 0, 1) := by decide +kernel
theorem d1_12 : decode prog_54_method_3_code 12 = .ok (.bipush 9, 2) := by decide +kernel
theorem d1_14 : decode prog_54_method_3_code 14 = .ok (.if_icmp .eq 15, 3) := by decide +kernel
theorem d1_17 : decode prog_54_method_3_code 17 = .ok (.iload_n 0, 1) := by decide +kernel
theorem d1_18 : decode prog_54_method_3_code 18 = .ok (.bipush 10, 2) := by decide +kernel
theorem d1_20 : decode prog_54_method_3_code 20 = .ok (.if_icmp .eq 9, 3) := by decide +kernel
theorem d1_23 : decode prog_54_method_3_code 23 = .ok (.iload_n 0, 1) := by decide +kernel
theorem d1_24 : decode prog_54_method_3_code 24 = .ok (.bipush 13, 2) := by decide +kernel
theorem d1_26 : decode prog_54_method_3_code 26 = .ok (.if_icmp .ne 23, 3) := by decide +kernel
theorem d1_29 : decode prog_54_method_3_code 29 = .ok (.iload_n 0, 1) := by decide +kernel
theorem d1_30 : decode prog_54_method_3_code 30 = .ok (.bipush 127, 2) := by decide +kernel
theorem d1_32 : decode prog_54_method_3_code 32 = .ok (.if_icmp .lt 21, 3) := by decide +kernel
theorem d1_35 : decode prog_54_method_3_code 35 = .ok (.iload_n 0, 1) := by decide +kernel
theorem d1_36 : decode prog_54_method_3_code 36 = .ok (.sipush 159, 3) := by decide +kernel
theorem d1_39 : decode prog_54_method_3_code 39 = .ok (.if_icmp .gt 14, 3) := by decide +kernel
theorem d1_42 : decode prog_54_method_3_code 42 = .ok (.iload_n 0, 1) := by decide +kernel
theorem d1_43 : decode prog_54_method_3_code 43 = .ok (.sipush 133, 3) := by decide +kernel
theorem d1_46 : decode prog_54_method_3_code 46 = .ok (.if_icmp .eq 7, 3) := by decide +kernel
theorem d1_49 : decode prog_54_method_3_code 49 = .ok (.iconst 1, 1) := by decide +kernel
theorem d1_50 : decode prog_54_method_3_code 50 = .ok (.goto 4, 3) := by decide +kernel
theorem d1_53 : decode prog_54_method_3_code 53 = .ok (.iconst 0, 1) := by decide +kernel
theorem d1_54 : decode prog_54_method_3_code 54 = .ok (.ireturn, 1) := by decide +kernel
theorem pn_com_example_austere_serializer_austereserializer_XmlNames : plainName "com/example/austere_serializer/austereserializer/XmlNames" = true := by first | (simp [plainName, overriddenIn]; done) | decide +kernel
theorem ef_1 (m : MethodId) (x0 : Int32) : entryFrame m #[(.int x0)] 1 = mkF m 0 #[.val (.int x0)] [] := by first | (simp [entryFrame, mkF, argsToLocals, Value.category]; done) | rfl
def Q1 (Z : State) (p1 : Int32) (h0 : Heap) (n0 : Nat) (v : Option Value) (h : Heap) (L : List Loc) : Prop := v = some (.int (own_f1 p1)) ∧ Fr n0 L ∧ h = h0
set_option maxRecDepth 65536 in
set_option maxHeartbeats 40000000 in
theorem rm1 (l : Launch) (Z : State) (a0 : Array Value) (hw : ∀ d ∈ tables_1, d.before a0 Z = true) (ws : List Jvm.Cond) (p1 : Int32) (h0 : Heap) (n0 : Nat) (Z0 : n0 ≤ h0.size)  :
    MetFree l (⟨"com/example/austere_serializer/austereserializer/XmlNames", "isRestrictedChar", "(I)Z"⟩ : MethodName) (head1 (Jvm.Cond.code (⟨"com/example/austere_serializer/austereserializer/XmlNames", "isRestrictedChar", "(I)Z"⟩ : MethodName) prog_54_method_3_code 1 (some .boolean) :: ws) ({ frames := 0, cells := 0, slots := 0, locals := 0 } : Room)) (fun a U => a = #[(.int p1)] ∧ Z.Warmed39 U.vm ∧ U.heap = h0) (fun _ _ _ _ _ => True) (fun _ U o U' => ∃ v L, o = .returned v ∧ Q1 Z p1 h0 n0 v U'.heap L ∧ FrameEnd U o U' L ({ frames := 0, cells := 0, slots := 0, locals := 0 } : Room).cells ({ frames := 0, cells := 0, slots := 0, locals := 0 } : Room).slots) := by
  refine MetFree.of_bodySF (plainFor_of_name pn_com_example_austere_serializer_austereserializer_XmlNames) hisR ?_
  intro p e s m args below meth c s₁ Bd hml0 hP hK
  obtain ⟨rfl, hZ, hh⟩ := hP
  have hx := Bd.exec
  have hby := Bd.bytes
  have hml : c.maxLocals = 1 := hml0
  have hown : s.vm.findClass "com/example/austere_serializer/austereserializer/XmlNames" = some m.cls := findClass_of_methodNamed Bd.named
  have hnm := (name_of_methodNamed Bd.named Bd.method).1
  have X0 : Stand p l e ({ frames := 0, cells := 0, slots := 0, locals := 0 } : Room) s m #[(.int p1)] below meth c s₁ [] 0 0 := Stand.of_body Bd
  have e0 : s₁.heap = h0 := by rw [← hh, Bd.state]; rfl
  have N0 := Fr.nil n0
  show Goes p e below (fun s₂ o => ∃ v L, o = .returned v ∧ Q1 Z p1 h0 n0 v s₂.heap L ∧ FrameEnd s o s₂ L ({ frames := 0, cells := 0, slots := 0, locals := 0 } : Room).cells ({ frames := 0, cells := 0, slots := 0, locals := 0 } : Room).slots) (s₁.setTop (entryFrame m #[(.int p1)] 1))
  refine Goes.cast (ef_1 m p1) ?_
  refine Goes.via (B := s₁.setTop (mkF m 1 #[.val (.int p1)] [(.int p1)])) (fun t k => XS.iloadN X0.here hx rfl (hb hby d1_0) rfl k) ?_
  refine Goes.via (B := s₁.setTop (mkF m 2 #[.val (.int p1)] [(.int (1 : Int32)), (.int p1)])) (fun t k => XS.iconst X0.here hx rfl (hb hby d1_1) k) ?_
  by_cases c2_1 : p1 < (1 : Int32)
  · refine Goes.via (B := s₁.setTop (mkF m 29 #[.val (.int p1)] [])) (fun t k => XS.icmpYes X0.here hx rfl (pc0 := 2) (pc' := 29) rfl (hb hby d1_2) rfl (tlt c2_1).1 (by decide) (by decide) k) ?_
    refine Goes.via (B := s₁.setTop (mkF m 30 #[.val (.int p1)] [(.int p1)])) (fun t k => XS.iloadN X0.here hx rfl (hb hby d1_29) rfl k) ?_
    refine Goes.via (B := s₁.setTop (mkF m 32 #[.val (.int p1)] [(.int (127 : Int32)), (.int p1)])) (fun t k => XS.bipush X0.here hx rfl (hb hby d1_30) k) ?_
    by_cases c32_2 : p1 < (127 : Int32)
    · refine Goes.via (B := s₁.setTop (mkF m 53 #[.val (.int p1)] [])) (fun t k => XS.icmpYes X0.here hx rfl (pc0 := 32) (pc' := 53) rfl (hb hby d1_32) rfl (tlt c32_2).1 (by decide) (by decide) k) ?_
      refine Goes.via (B := s₁.setTop (mkF m 54 #[.val (.int p1)] [(.int (0 : Int32))])) (fun t k => XS.iconst X0.here hx rfl (hb hby d1_53) k) ?_
      have hv : own_f1 p1 = (0 : Int32) := by rw [own_f1, if_pos c2_1, if_pos c32_2]
      exact own_out X0 (v := some (.int (0 : Int32))) (fun h => by rw [Bd.returns] at h; cases h) Bd.notSynchronized (fun fs hr => retOut X0 hx Bd.returns rfl (Or.inl ⟨rfl, Or.inr (Or.inl rfl), _, rfl⟩) (hb hby d1_54) hr) ⟨by rw [hv], N0, e0⟩ (by decide) (by decide)
    · refine Goes.via (B := s₁.setTop (mkF m 35 #[.val (.int p1)] [])) (fun t k => XS.icmpNo X0.here hx rfl (hb hby d1_32) rfl (flt c32_2).1 k) ?_
      refine Goes.via (B := s₁.setTop (mkF m 36 #[.val (.int p1)] [(.int p1)])) (fun t k => XS.iloadN X0.here hx rfl (hb hby d1_35) rfl k) ?_
      refine Goes.via (B := s₁.setTop (mkF m 39 #[.val (.int p1)] [(.int (159 : Int32)), (.int p1)])) (fun t k => XS.sipush X0.here hx rfl (hb hby d1_36) k) ?_
      by_cases c39_3 : (159 : Int32) < p1
      · refine Goes.via (B := s₁.setTop (mkF m 53 #[.val (.int p1)] [])) (fun t k => XS.icmpYes X0.here hx rfl (pc0 := 39) (pc' := 53) rfl (hb hby d1_39) rfl (tlt c39_3).2.2.1 (by decide) (by decide) k) ?_
        refine Goes.via (B := s₁.setTop (mkF m 54 #[.val (.int p1)] [(.int (0 : Int32))])) (fun t k => XS.iconst X0.here hx rfl (hb hby d1_53) k) ?_
        have hv : own_f1 p1 = (0 : Int32) := by rw [own_f1, if_pos c2_1, if_neg c32_2, if_pos c39_3]
        exact own_out X0 (v := some (.int (0 : Int32))) (fun h => by rw [Bd.returns] at h; cases h) Bd.notSynchronized (fun fs hr => retOut X0 hx Bd.returns rfl (Or.inl ⟨rfl, Or.inr (Or.inl rfl), _, rfl⟩) (hb hby d1_54) hr) ⟨by rw [hv], N0, e0⟩ (by decide) (by decide)
      · refine Goes.via (B := s₁.setTop (mkF m 42 #[.val (.int p1)] [])) (fun t k => XS.icmpNo X0.here hx rfl (hb hby d1_39) rfl (flt c39_3).2.2.1 k) ?_
        refine Goes.via (B := s₁.setTop (mkF m 43 #[.val (.int p1)] [(.int p1)])) (fun t k => XS.iloadN X0.here hx rfl (hb hby d1_42) rfl k) ?_
        refine Goes.via (B := s₁.setTop (mkF m 46 #[.val (.int p1)] [(.int (133 : Int32)), (.int p1)])) (fun t k => XS.sipush X0.here hx rfl (hb hby d1_43) k) ?_
        by_cases c46_4 : p1 = (133 : Int32)
        · refine Goes.via (B := s₁.setTop (mkF m 53 #[.val (.int p1)] [])) (fun t k => XS.icmpYes X0.here hx rfl (pc0 := 46) (pc' := 53) rfl (hb hby d1_46) rfl (teq c46_4).1 (by decide) (by decide) k) ?_
          refine Goes.via (B := s₁.setTop (mkF m 54 #[.val (.int p1)] [(.int (0 : Int32))])) (fun t k => XS.iconst X0.here hx rfl (hb hby d1_53) k) ?_
          have hv : own_f1 p1 = (0 : Int32) := by rw [own_f1, if_pos c2_1, if_neg c32_2, if_neg c39_3, if_pos c46_4]
          exact own_out X0 (v := some (.int (0 : Int32))) (fun h => by rw [Bd.returns] at h; cases h) Bd.notSynchronized (fun fs hr => retOut X0 hx Bd.returns rfl (Or.inl ⟨rfl, Or.inr (Or.inl rfl), _, rfl⟩) (hb hby d1_54) hr) ⟨by rw [hv], N0, e0⟩ (by decide) (by decide)
        · refine Goes.via (B := s₁.setTop (mkF m 49 #[.val (.int p1)] [])) (fun t k => XS.icmpNo X0.here hx rfl (hb hby d1_46) rfl (feq c46_4).1 k) ?_
          refine Goes.via (B := s₁.setTop (mkF m 50 #[.val (.int p1)] [(.int (1 : Int32))])) (fun t k => XS.iconst X0.here hx rfl (hb hby d1_49) k) ?_
          refine Goes.via (B := s₁.setTop (mkF m 54 #[.val (.int p1)] [(.int (1 : Int32))])) (fun t k => XS.goto X0.here hx rfl (pc0 := 50) (pc' := 54) rfl (hb hby d1_50) (by decide) (by decide) k) ?_
          have hv : own_f1 p1 = (1 : Int32) := by rw [own_f1, if_pos c2_1, if_neg c32_2, if_neg c39_3, if_neg c46_4]
          exact own_out X0 (v := some (.int (1 : Int32))) (fun h => by rw [Bd.returns] at h; cases h) Bd.notSynchronized (fun fs hr => retOut X0 hx Bd.returns rfl (Or.inl ⟨rfl, Or.inr (Or.inl rfl), _, rfl⟩) (hb hby d1_54) hr) ⟨by rw [hv], N0, e0⟩ (by decide) (by decide)
  · refine Goes.via (B := s₁.setTop (mkF m 5 #[.val (.int p1)] [])) (fun t k => XS.icmpNo X0.here hx rfl (hb hby d1_2) rfl (flt c2_1).1 k) ?_
    refine Goes.via (B := s₁.setTop (mkF m 6 #[.val (.int p1)] [(.int p1)])) (fun t k => XS.iloadN X0.here hx rfl (hb hby d1_5) rfl k) ?_
    refine Goes.via (B := s₁.setTop (mkF m 8 #[.val (.int p1)] [(.int (31 : Int32)), (.int p1)])) (fun t k => XS.bipush X0.here hx rfl (hb hby d1_6) k) ?_
    by_cases c8_5 : (31 : Int32) < p1
    · refine Goes.via (B := s₁.setTop (mkF m 29 #[.val (.int p1)] [])) (fun t k => XS.icmpYes X0.here hx rfl (pc0 := 8) (pc' := 29) rfl (hb hby d1_8) rfl (tlt c8_5).2.2.1 (by decide) (by decide) k) ?_
      refine Goes.via (B := s₁.setTop (mkF m 30 #[.val (.int p1)] [(.int p1)])) (fun t k => XS.iloadN X0.here hx rfl (hb hby d1_29) rfl k) ?_
      refine Goes.via (B := s₁.setTop (mkF m 32 #[.val (.int p1)] [(.int (127 : Int32)), (.int p1)])) (fun t k => XS.bipush X0.here hx rfl (hb hby d1_30) k) ?_
      by_cases c32_6 : p1 < (127 : Int32)
      · refine Goes.via (B := s₁.setTop (mkF m 53 #[.val (.int p1)] [])) (fun t k => XS.icmpYes X0.here hx rfl (pc0 := 32) (pc' := 53) rfl (hb hby d1_32) rfl (tlt c32_6).1 (by decide) (by decide) k) ?_
        refine Goes.via (B := s₁.setTop (mkF m 54 #[.val (.int p1)] [(.int (0 : Int32))])) (fun t k => XS.iconst X0.here hx rfl (hb hby d1_53) k) ?_
        have hv : own_f1 p1 = (0 : Int32) := by rw [own_f1, if_neg c2_1, if_pos c8_5, if_pos c32_6]
        exact own_out X0 (v := some (.int (0 : Int32))) (fun h => by rw [Bd.returns] at h; cases h) Bd.notSynchronized (fun fs hr => retOut X0 hx Bd.returns rfl (Or.inl ⟨rfl, Or.inr (Or.inl rfl), _, rfl⟩) (hb hby d1_54) hr) ⟨by rw [hv], N0, e0⟩ (by decide) (by decide)
      · refine Goes.via (B := s₁.setTop (mkF m 35 #[.val (.int p1)] [])) (fun t k => XS.icmpNo X0.here hx rfl (hb hby d1_32) rfl (flt c32_6).1 k) ?_
        refine Goes.via (B := s₁.setTop (mkF m 36 #[.val (.int p1)] [(.int p1)])) (fun t k => XS.iloadN X0.here hx rfl (hb hby d1_35) rfl k) ?_
        refine Goes.via (B := s₁.setTop (mkF m 39 #[.val (.int p1)] [(.int (159 : Int32)), (.int p1)])) (fun t k => XS.sipush X0.here hx rfl (hb hby d1_36) k) ?_
        by_cases c39_7 : (159 : Int32) < p1
        · refine Goes.via (B := s₁.setTop (mkF m 53 #[.val (.int p1)] [])) (fun t k => XS.icmpYes X0.here hx rfl (pc0 := 39) (pc' := 53) rfl (hb hby d1_39) rfl (tlt c39_7).2.2.1 (by decide) (by decide) k) ?_
          refine Goes.via (B := s₁.setTop (mkF m 54 #[.val (.int p1)] [(.int (0 : Int32))])) (fun t k => XS.iconst X0.here hx rfl (hb hby d1_53) k) ?_
          have hv : own_f1 p1 = (0 : Int32) := by rw [own_f1, if_neg c2_1, if_pos c8_5, if_neg c32_6, if_pos c39_7]
          exact own_out X0 (v := some (.int (0 : Int32))) (fun h => by rw [Bd.returns] at h; cases h) Bd.notSynchronized (fun fs hr => retOut X0 hx Bd.returns rfl (Or.inl ⟨rfl, Or.inr (Or.inl rfl), _, rfl⟩) (hb hby d1_54) hr) ⟨by rw [hv], N0, e0⟩ (by decide) (by decide)
        · refine Goes.via (B := s₁.setTop (mkF m 42 #[.val (.int p1)] [])) (fun t k => XS.icmpNo X0.here hx rfl (hb hby d1_39) rfl (flt c39_7).2.2.1 k) ?_
          refine Goes.via (B := s₁.setTop (mkF m 43 #[.val (.int p1)] [(.int p1)])) (fun t k => XS.iloadN X0.here hx rfl (hb hby d1_42) rfl k) ?_
          refine Goes.via (B := s₁.setTop (mkF m 46 #[.val (.int p1)] [(.int (133 : Int32)), (.int p1)])) (fun t k => XS.sipush X0.here hx rfl (hb hby d1_43) k) ?_
          by_cases c46_8 : p1 = (133 : Int32)
          · refine Goes.via (B := s₁.setTop (mkF m 53 #[.val (.int p1)] [])) (fun t k => XS.icmpYes X0.here hx rfl (pc0 := 46) (pc' := 53) rfl (hb hby d1_46) rfl (teq c46_8).1 (by decide) (by decide) k) ?_
            refine Goes.via (B := s₁.setTop (mkF m 54 #[.val (.int p1)] [(.int (0 : Int32))])) (fun t k => XS.iconst X0.here hx rfl (hb hby d1_53) k) ?_
            have hv : own_f1 p1 = (0 : Int32) := by rw [own_f1, if_neg c2_1, if_pos c8_5, if_neg c32_6, if_neg c39_7, if_pos c46_8]
            exact own_out X0 (v := some (.int (0 : Int32))) (fun h => by rw [Bd.returns] at h; cases h) Bd.notSynchronized (fun fs hr => retOut X0 hx Bd.returns rfl (Or.inl ⟨rfl, Or.inr (Or.inl rfl), _, rfl⟩) (hb hby d1_54) hr) ⟨by rw [hv], N0, e0⟩ (by decide) (by decide)
          · refine Goes.via (B := s₁.setTop (mkF m 49 #[.val (.int p1)] [])) (fun t k => XS.icmpNo X0.here hx rfl (hb hby d1_46) rfl (feq c46_8).1 k) ?_
            refine Goes.via (B := s₁.setTop (mkF m 50 #[.val (.int p1)] [(.int (1 : Int32))])) (fun t k => XS.iconst X0.here hx rfl (hb hby d1_49) k) ?_
            refine Goes.via (B := s₁.setTop (mkF m 54 #[.val (.int p1)] [(.int (1 : Int32))])) (fun t k => XS.goto X0.here hx rfl (pc0 := 50) (pc' := 54) rfl (hb hby d1_50) (by decide) (by decide) k) ?_
            have hv : own_f1 p1 = (1 : Int32) := by rw [own_f1, if_neg c2_1, if_pos c8_5, if_neg c32_6, if_neg c39_7, if_neg c46_8]
            exact own_out X0 (v := some (.int (1 : Int32))) (fun h => by rw [Bd.returns] at h; cases h) Bd.notSynchronized (fun fs hr => retOut X0 hx Bd.returns rfl (Or.inl ⟨rfl, Or.inr (Or.inl rfl), _, rfl⟩) (hb hby d1_54) hr) ⟨by rw [hv], N0, e0⟩ (by decide) (by decide)
    · refine Goes.via (B := s₁.setTop (mkF m 11 #[.val (.int p1)] [])) (fun t k => XS.icmpNo X0.here hx rfl (hb hby d1_8) rfl (flt c8_5).2.2.1 k) ?_
      refine Goes.via (B := s₁.setTop (mkF m 12 #[.val (.int p1)] [(.int p1)])) (fun t k => XS.iloadN X0.here hx rfl (hb hby d1_11) rfl k) ?_
      refine Goes.via (B := s₁.setTop (mkF m 14 #[.val (.int p1)] [(.int (9 : Int32)), (.int p1)])) (fun t k => XS.bipush X0.here hx rfl (hb hby d1_12) k) ?_
      by_cases c14_9 : p1 = (9 : Int32)
      · refine Goes.via (B := s₁.setTop (mkF m 29 #[.val (.int p1)] [])) (fun t k => XS.icmpYes X0.here hx rfl (pc0 := 14) (pc' := 29) rfl (hb hby d1_14) rfl (teq c14_9).1 (by decide) (by decide) k) ?_
        refine Goes.via (B := s₁.setTop (mkF m 30 #[.val (.int p1)] [(.int p1)])) (fun t k => XS.iloadN X0.here hx rfl (hb hby d1_29) rfl k) ?_
        refine Goes.via (B := s₁.setTop (mkF m 32 #[.val (.int p1)] [(.int (127 : Int32)), (.int p1)])) (fun t k => XS.bipush X0.here hx rfl (hb hby d1_30) k) ?_
        by_cases c32_10 : p1 < (127 : Int32)
        · refine Goes.via (B := s₁.setTop (mkF m 53 #[.val (.int p1)] [])) (fun t k => XS.icmpYes X0.here hx rfl (pc0 := 32) (pc' := 53) rfl (hb hby d1_32) rfl (tlt c32_10).1 (by decide) (by decide) k) ?_
          refine Goes.via (B := s₁.setTop (mkF m 54 #[.val (.int p1)] [(.int (0 : Int32))])) (fun t k => XS.iconst X0.here hx rfl (hb hby d1_53) k) ?_
          have hv : own_f1 p1 = (0 : Int32) := by rw [own_f1, if_neg c2_1, if_neg c8_5, if_pos c14_9, if_pos c32_10]
          exact own_out X0 (v := some (.int (0 : Int32))) (fun h => by rw [Bd.returns] at h; cases h) Bd.notSynchronized (fun fs hr => retOut X0 hx Bd.returns rfl (Or.inl ⟨rfl, Or.inr (Or.inl rfl), _, rfl⟩) (hb hby d1_54) hr) ⟨by rw [hv], N0, e0⟩ (by decide) (by decide)
        · refine Goes.via (B := s₁.setTop (mkF m 35 #[.val (.int p1)] [])) (fun t k => XS.icmpNo X0.here hx rfl (hb hby d1_32) rfl (flt c32_10).1 k) ?_
          refine Goes.via (B := s₁.setTop (mkF m 36 #[.val (.int p1)] [(.int p1)])) (fun t k => XS.iloadN X0.here hx rfl (hb hby d1_35) rfl k) ?_
          refine Goes.via (B := s₁.setTop (mkF m 39 #[.val (.int p1)] [(.int (159 : Int32)), (.int p1)])) (fun t k => XS.sipush X0.here hx rfl (hb hby d1_36) k) ?_
          by_cases c39_11 : (159 : Int32) < p1
          · refine Goes.via (B := s₁.setTop (mkF m 53 #[.val (.int p1)] [])) (fun t k => XS.icmpYes X0.here hx rfl (pc0 := 39) (pc' := 53) rfl (hb hby d1_39) rfl (tlt c39_11).2.2.1 (by decide) (by decide) k) ?_
            refine Goes.via (B := s₁.setTop (mkF m 54 #[.val (.int p1)] [(.int (0 : Int32))])) (fun t k => XS.iconst X0.here hx rfl (hb hby d1_53) k) ?_
            have hv : own_f1 p1 = (0 : Int32) := by rw [own_f1, if_neg c2_1, if_neg c8_5, if_pos c14_9, if_neg c32_10, if_pos c39_11]
            exact own_out X0 (v := some (.int (0 : Int32))) (fun h => by rw [Bd.returns] at h; cases h) Bd.notSynchronized (fun fs hr => retOut X0 hx Bd.returns rfl (Or.inl ⟨rfl, Or.inr (Or.inl rfl), _, rfl⟩) (hb hby d1_54) hr) ⟨by rw [hv], N0, e0⟩ (by decide) (by decide)
          · refine Goes.via (B := s₁.setTop (mkF m 42 #[.val (.int p1)] [])) (fun t k => XS.icmpNo X0.here hx rfl (hb hby d1_39) rfl (flt c39_11).2.2.1 k) ?_
            refine Goes.via (B := s₁.setTop (mkF m 43 #[.val (.int p1)] [(.int p1)])) (fun t k => XS.iloadN X0.here hx rfl (hb hby d1_42) rfl k) ?_
            refine Goes.via (B := s₁.setTop (mkF m 46 #[.val (.int p1)] [(.int (133 : Int32)), (.int p1)])) (fun t k => XS.sipush X0.here hx rfl (hb hby d1_43) k) ?_
            by_cases c46_12 : p1 = (133 : Int32)
            · refine Goes.via (B := s₁.setTop (mkF m 53 #[.val (.int p1)] [])) (fun t k => XS.icmpYes X0.here hx rfl (pc0 := 46) (pc' := 53) rfl (hb hby d1_46) rfl (teq c46_12).1 (by decide) (by decide) k) ?_
              refine Goes.via (B := s₁.setTop (mkF m 54 #[.val (.int p1)] [(.int (0 : Int32))])) (fun t k => XS.iconst X0.here hx rfl (hb hby d1_53) k) ?_
              have hv : own_f1 p1 = (0 : Int32) := by rw [own_f1, if_neg c2_1, if_neg c8_5, if_pos c14_9, if_neg c32_10, if_neg c39_11, if_pos c46_12]
              exact own_out X0 (v := some (.int (0 : Int32))) (fun h => by rw [Bd.returns] at h; cases h) Bd.notSynchronized (fun fs hr => retOut X0 hx Bd.returns rfl (Or.inl ⟨rfl, Or.inr (Or.inl rfl), _, rfl⟩) (hb hby d1_54) hr) ⟨by rw [hv], N0, e0⟩ (by decide) (by decide)
            · refine Goes.via (B := s₁.setTop (mkF m 49 #[.val (.int p1)] [])) (fun t k => XS.icmpNo X0.here hx rfl (hb hby d1_46) rfl (feq c46_12).1 k) ?_
              refine Goes.via (B := s₁.setTop (mkF m 50 #[.val (.int p1)] [(.int (1 : Int32))])) (fun t k => XS.iconst X0.here hx rfl (hb hby d1_49) k) ?_
              refine Goes.via (B := s₁.setTop (mkF m 54 #[.val (.int p1)] [(.int (1 : Int32))])) (fun t k => XS.goto X0.here hx rfl (pc0 := 50) (pc' := 54) rfl (hb hby d1_50) (by decide) (by decide) k) ?_
              have hv : own_f1 p1 = (1 : Int32) := by rw [own_f1, if_neg c2_1, if_neg c8_5, if_pos c14_9, if_neg c32_10, if_neg c39_11, if_neg c46_12]
              exact own_out X0 (v := some (.int (1 : Int32))) (fun h => by rw [Bd.returns] at h; cases h) Bd.notSynchronized (fun fs hr => retOut X0 hx Bd.returns rfl (Or.inl ⟨rfl, Or.inr (Or.inl rfl), _, rfl⟩) (hb hby d1_54) hr) ⟨by rw [hv], N0, e0⟩ (by decide) (by decide)
      · refine Goes.via (B := s₁.setTop (mkF m 17 #[.val (.int p1)] [])) (fun t k => XS.icmpNo X0.here hx rfl (hb hby d1_14) rfl (feq c14_9).1 k) ?_
        refine Goes.via (B := s₁.setTop (mkF m 18 #[.val (.int p1)] [(.int p1)])) (fun t k => XS.iloadN X0.here hx rfl (hb hby d1_17) rfl k) ?_
        refine Goes.via (B := s₁.setTop (mkF m 20 #[.val (.int p1)] [(.int (10 : Int32)), (.int p1)])) (fun t k => XS.bipush X0.here hx rfl (hb hby d1_18) k) ?_
        by_cases c20_13 : p1 = (10 : Int32)
        · refine Goes.via (B := s₁.setTop (mkF m 29 #[.val (.int p1)] [])) (fun t k => XS.icmpYes X0.here hx rfl (pc0 := 20) (pc' := 29) rfl (hb hby d1_20) rfl (teq c20_13).1 (by decide) (by decide) k) ?_
          refine Goes.via (B := s₁.setTop (mkF m 30 #[.val (.int p1)] [(.int p1)])) (fun t k => XS.iloadN X0.here hx rfl (hb hby d1_29) rfl k) ?_
          refine Goes.via (B := s₁.setTop (mkF m 32 #[.val (.int p1)] [(.int (127 : Int32)), (.int p1)])) (fun t k => XS.bipush X0.here hx rfl (hb hby d1_30) k) ?_
          by_cases c32_14 : p1 < (127 : Int32)
          · refine Goes.via (B := s₁.setTop (mkF m 53 #[.val (.int p1)] [])) (fun t k => XS.icmpYes X0.here hx rfl (pc0 := 32) (pc' := 53) rfl (hb hby d1_32) rfl (tlt c32_14).1 (by decide) (by decide) k) ?_
            refine Goes.via (B := s₁.setTop (mkF m 54 #[.val (.int p1)] [(.int (0 : Int32))])) (fun t k => XS.iconst X0.here hx rfl (hb hby d1_53) k) ?_
            have hv : own_f1 p1 = (0 : Int32) := by rw [own_f1, if_neg c2_1, if_neg c8_5, if_neg c14_9, if_pos c20_13, if_pos c32_14]
            exact own_out X0 (v := some (.int (0 : Int32))) (fun h => by rw [Bd.returns] at h; cases h) Bd.notSynchronized (fun fs hr => retOut X0 hx Bd.returns rfl (Or.inl ⟨rfl, Or.inr (Or.inl rfl), _, rfl⟩) (hb hby d1_54) hr) ⟨by rw [hv], N0, e0⟩ (by decide) (by decide)
          · refine Goes.via (B := s₁.setTop (mkF m 35 #[.val (.int p1)] [])) (fun t k => XS.icmpNo X0.here hx rfl (hb hby d1_32) rfl (flt c32_14).1 k) ?_
            refine Goes.via (B := s₁.setTop (mkF m 36 #[.val (.int p1)] [(.int p1)])) (fun t k => XS.iloadN X0.here hx rfl (hb hby d1_35) rfl k) ?_
            refine Goes.via (B := s₁.setTop (mkF m 39 #[.val (.int p1)] [(.int (159 : Int32)), (.int p1)])) (fun t k => XS.sipush X0.here hx rfl (hb hby d1_36) k) ?_
            by_cases c39_15 : (159 : Int32) < p1
            · refine Goes.via (B := s₁.setTop (mkF m 53 #[.val (.int p1)] [])) (fun t k => XS.icmpYes X0.here hx rfl (pc0 := 39) (pc' := 53) rfl (hb hby d1_39) rfl (tlt c39_15).2.2.1 (by decide) (by decide) k) ?_
              refine Goes.via (B := s₁.setTop (mkF m 54 #[.val (.int p1)] [(.int (0 : Int32))])) (fun t k => XS.iconst X0.here hx rfl (hb hby d1_53) k) ?_
              have hv : own_f1 p1 = (0 : Int32) := by rw [own_f1, if_neg c2_1, if_neg c8_5, if_neg c14_9, if_pos c20_13, if_neg c32_14, if_pos c39_15]
              exact own_out X0 (v := some (.int (0 : Int32))) (fun h => by rw [Bd.returns] at h; cases h) Bd.notSynchronized (fun fs hr => retOut X0 hx Bd.returns rfl (Or.inl ⟨rfl, Or.inr (Or.inl rfl), _, rfl⟩) (hb hby d1_54) hr) ⟨by rw [hv], N0, e0⟩ (by decide) (by decide)
            · refine Goes.via (B := s₁.setTop (mkF m 42 #[.val (.int p1)] [])) (fun t k => XS.icmpNo X0.here hx rfl (hb hby d1_39) rfl (flt c39_15).2.2.1 k) ?_
              refine Goes.via (B := s₁.setTop (mkF m 43 #[.val (.int p1)] [(.int p1)])) (fun t k => XS.iloadN X0.here hx rfl (hb hby d1_42) rfl k) ?_
              refine Goes.via (B := s₁.setTop (mkF m 46 #[.val (.int p1)] [(.int (133 : Int32)), (.int p1)])) (fun t k => XS.sipush X0.here hx rfl (hb hby d1_43) k) ?_
              by_cases c46_16 : p1 = (133 : Int32)
              · refine Goes.via (B := s₁.setTop (mkF m 53 #[.val (.int p1)] [])) (fun t k => XS.icmpYes X0.here hx rfl (pc0 := 46) (pc' := 53) rfl (hb hby d1_46) rfl (teq c46_16).1 (by decide) (by decide) k) ?_
                refine Goes.via (B := s₁.setTop (mkF m 54 #[.val (.int p1)] [(.int (0 : Int32))])) (fun t k => XS.iconst X0.here hx rfl (hb hby d1_53) k) ?_
                have hv : own_f1 p1 = (0 : Int32) := by rw [own_f1, if_neg c2_1, if_neg c8_5, if_neg c14_9, if_pos c20_13, if_neg c32_14, if_neg c39_15, if_pos c46_16]
                exact own_out X0 (v := some (.int (0 : Int32))) (fun h => by rw [Bd.returns] at h; cases h) Bd.notSynchronized (fun fs hr => retOut X0 hx Bd.returns rfl (Or.inl ⟨rfl, Or.inr (Or.inl rfl), _, rfl⟩) (hb hby d1_54) hr) ⟨by rw [hv], N0, e0⟩ (by decide) (by decide)
              · refine Goes.via (B := s₁.setTop (mkF m 49 #[.val (.int p1)] [])) (fun t k => XS.icmpNo X0.here hx rfl (hb hby d1_46) rfl (feq c46_16).1 k) ?_
                refine Goes.via (B := s₁.setTop (mkF m 50 #[.val (.int p1)] [(.int (1 : Int32))])) (fun t k => XS.iconst X0.here hx rfl (hb hby d1_49) k) ?_
                refine Goes.via (B := s₁.setTop (mkF m 54 #[.val (.int p1)] [(.int (1 : Int32))])) (fun t k => XS.goto X0.here hx rfl (pc0 := 50) (pc' := 54) rfl (hb hby d1_50) (by decide) (by decide) k) ?_
                have hv : own_f1 p1 = (1 : Int32) := by rw [own_f1, if_neg c2_1, if_neg c8_5, if_neg c14_9, if_pos c20_13, if_neg c32_14, if_neg c39_15, if_neg c46_16]
                exact own_out X0 (v := some (.int (1 : Int32))) (fun h => by rw [Bd.returns] at h; cases h) Bd.notSynchronized (fun fs hr => retOut X0 hx Bd.returns rfl (Or.inl ⟨rfl, Or.inr (Or.inl rfl), _, rfl⟩) (hb hby d1_54) hr) ⟨by rw [hv], N0, e0⟩ (by decide) (by decide)
        · refine Goes.via (B := s₁.setTop (mkF m 23 #[.val (.int p1)] [])) (fun t k => XS.icmpNo X0.here hx rfl (hb hby d1_20) rfl (feq c20_13).1 k) ?_
          refine Goes.via (B := s₁.setTop (mkF m 24 #[.val (.int p1)] [(.int p1)])) (fun t k => XS.iloadN X0.here hx rfl (hb hby d1_23) rfl k) ?_
          refine Goes.via (B := s₁.setTop (mkF m 26 #[.val (.int p1)] [(.int (13 : Int32)), (.int p1)])) (fun t k => XS.bipush X0.here hx rfl (hb hby d1_24) k) ?_
          by_cases c26_17 : p1 = (13 : Int32)
          · refine Goes.via (B := s₁.setTop (mkF m 29 #[.val (.int p1)] [])) (fun t k => XS.icmpNo X0.here hx rfl (hb hby d1_26) rfl (teq c26_17).2 k) ?_
            refine Goes.via (B := s₁.setTop (mkF m 30 #[.val (.int p1)] [(.int p1)])) (fun t k => XS.iloadN X0.here hx rfl (hb hby d1_29) rfl k) ?_
            refine Goes.via (B := s₁.setTop (mkF m 32 #[.val (.int p1)] [(.int (127 : Int32)), (.int p1)])) (fun t k => XS.bipush X0.here hx rfl (hb hby d1_30) k) ?_
            by_cases c32_18 : p1 < (127 : Int32)
            · refine Goes.via (B := s₁.setTop (mkF m 53 #[.val (.int p1)] [])) (fun t k => XS.icmpYes X0.here hx rfl (pc0 := 32) (pc' := 53) rfl (hb hby d1_32) rfl (tlt c32_18).1 (by decide) (by decide) k) ?_
              refine Goes.via (B := s₁.setTop (mkF m 54 #[.val (.int p1)] [(.int (0 : Int32))])) (fun t k => XS.iconst X0.here hx rfl (hb hby d1_53) k) ?_
              have hv : own_f1 p1 = (0 : Int32) := by rw [own_f1, if_neg c2_1, if_neg c8_5, if_neg c14_9, if_neg c20_13, if_pos c26_17, if_pos c32_18]
              exact own_out X0 (v := some (.int (0 : Int32))) (fun h => by rw [Bd.returns] at h; cases h) Bd.notSynchronized (fun fs hr => retOut X0 hx Bd.returns rfl (Or.inl ⟨rfl, Or.inr (Or.inl rfl), _, rfl⟩) (hb hby d1_54) hr) ⟨by rw [hv], N0, e0⟩ (by decide) (by decide)
            · refine Goes.via (B := s₁.setTop (mkF m 35 #[.val (.int p1)] [])) (fun t k => XS.icmpNo X0.here hx rfl (hb hby d1_32) rfl (flt c32_18).1 k) ?_
              refine Goes.via (B := s₁.setTop (mkF m 36 #[.val (.int p1)] [(.int p1)])) (fun t k => XS.iloadN X0.here hx rfl (hb hby d1_35) rfl k) ?_
              refine Goes.via (B := s₁.setTop (mkF m 39 #[.val (.int p1)] [(.int (159 : Int32)), (.int p1)])) (fun t k => XS.sipush X0.here hx rfl (hb hby d1_36) k) ?_
              by_cases c39_19 : (159 : Int32) < p1
              · refine Goes.via (B := s₁.setTop (mkF m 53 #[.val (.int p1)] [])) (fun t k => XS.icmpYes X0.here hx rfl (pc0 := 39) (pc' := 53) rfl (hb hby d1_39) rfl (tlt c39_19).2.2.1 (by decide) (by decide) k) ?_
                refine Goes.via (B := s₁.setTop (mkF m 54 #[.val (.int p1)] [(.int (0 : Int32))])) (fun t k => XS.iconst X0.here hx rfl (hb hby d1_53) k) ?_
                have hv : own_f1 p1 = (0 : Int32) := by rw [own_f1, if_neg c2_1, if_neg c8_5, if_neg c14_9, if_neg c20_13, if_pos c26_17, if_neg c32_18, if_pos c39_19]
                exact own_out X0 (v := some (.int (0 : Int32))) (fun h => by rw [Bd.returns] at h; cases h) Bd.notSynchronized (fun fs hr => retOut X0 hx Bd.returns rfl (Or.inl ⟨rfl, Or.inr (Or.inl rfl), _, rfl⟩) (hb hby d1_54) hr) ⟨by rw [hv], N0, e0⟩ (by decide) (by decide)
              · refine Goes.via (B := s₁.setTop (mkF m 42 #[.val (.int p1)] [])) (fun t k => XS.icmpNo X0.here hx rfl (hb hby d1_39) rfl (flt c39_19).2.2.1 k) ?_
                refine Goes.via (B := s₁.setTop (mkF m 43 #[.val (.int p1)] [(.int p1)])) (fun t k => XS.iloadN X0.here hx rfl (hb hby d1_42) rfl k) ?_
                refine Goes.via (B := s₁.setTop (mkF m 46 #[.val (.int p1)] [(.int (133 : Int32)), (.int p1)])) (fun t k => XS.sipush X0.here hx rfl (hb hby d1_43) k) ?_
                by_cases c46_20 : p1 = (133 : Int32)
                · refine Goes.via (B := s₁.setTop (mkF m 53 #[.val (.int p1)] [])) (fun t k => XS.icmpYes X0.here hx rfl (pc0 := 46) (pc' := 53) rfl (hb hby d1_46) rfl (teq c46_20).1 (by decide) (by decide) k) ?_
                  refine Goes.via (B := s₁.setTop (mkF m 54 #[.val (.int p1)] [(.int (0 : Int32))])) (fun t k => XS.iconst X0.here hx rfl (hb hby d1_53) k) ?_
                  have hv : own_f1 p1 = (0 : Int32) := by rw [own_f1, if_neg c2_1, if_neg c8_5, if_neg c14_9, if_neg c20_13, if_pos c26_17, if_neg c32_18, if_neg c39_19, if_pos c46_20]
                  exact own_out X0 (v := some (.int (0 : Int32))) (fun h => by rw [Bd.returns] at h; cases h) Bd.notSynchronized (fun fs hr => retOut X0 hx Bd.returns rfl (Or.inl ⟨rfl, Or.inr (Or.inl rfl), _, rfl⟩) (hb hby d1_54) hr) ⟨by rw [hv], N0, e0⟩ (by decide) (by decide)
                · refine Goes.via (B := s₁.setTop (mkF m 49 #[.val (.int p1)] [])) (fun t k => XS.icmpNo X0.here hx rfl (hb hby d1_46) rfl (feq c46_20).1 k) ?_
                  refine Goes.via (B := s₁.setTop (mkF m 50 #[.val (.int p1)] [(.int (1 : Int32))])) (fun t k => XS.iconst X0.here hx rfl (hb hby d1_49) k) ?_
                  refine Goes.via (B := s₁.setTop (mkF m 54 #[.val (.int p1)] [(.int (1 : Int32))])) (fun t k => XS.goto X0.here hx rfl (pc0 := 50) (pc' := 54) rfl (hb hby d1_50) (by decide) (by decide) k) ?_
                  have hv : own_f1 p1 = (1 : Int32) := by rw [own_f1, if_neg c2_1, if_neg c8_5, if_neg c14_9, if_neg c20_13, if_pos c26_17, if_neg c32_18, if_neg c39_19, if_neg c46_20]
                  exact own_out X0 (v := some (.int (1 : Int32))) (fun h => by rw [Bd.returns] at h; cases h) Bd.notSynchronized (fun fs hr => retOut X0 hx Bd.returns rfl (Or.inl ⟨rfl, Or.inr (Or.inl rfl), _, rfl⟩) (hb hby d1_54) hr) ⟨by rw [hv], N0, e0⟩ (by decide) (by decide)
          · refine Goes.via (B := s₁.setTop (mkF m 49 #[.val (.int p1)] [])) (fun t k => XS.icmpYes X0.here hx rfl (pc0 := 26) (pc' := 49) rfl (hb hby d1_26) rfl (feq c26_17).2 (by decide) (by decide) k) ?_
            refine Goes.via (B := s₁.setTop (mkF m 50 #[.val (.int p1)] [(.int (1 : Int32))])) (fun t k => XS.iconst X0.here hx rfl (hb hby d1_49) k) ?_
            refine Goes.via (B := s₁.setTop (mkF m 54 #[.val (.int p1)] [(.int (1 : Int32))])) (fun t k => XS.goto X0.here hx rfl (pc0 := 50) (pc' := 54) rfl (hb hby d1_50) (by decide) (by decide) k) ?_
            have hv : own_f1 p1 = (1 : Int32) := by rw [own_f1, if_neg c2_1, if_neg c8_5, if_neg c14_9, if_neg c20_13, if_neg c26_17]
            exact own_out X0 (v := some (.int (1 : Int32))) (fun h => by rw [Bd.returns] at h; cases h) Bd.notSynchronized (fun fs hr => retOut X0 hx Bd.returns rfl (Or.inl ⟨rfl, Or.inr (Or.inl rfl), _, rfl⟩) (hb hby d1_54) hr) ⟨by rw [hv], N0, e0⟩ (by decide) (by decide)
def own_f2 (p1 : Int32) : Int32 := if p1 < (1 : Int32) then (0 : Int32) else if (8 : Int32) < p1 then if (10 : Int32) < p1 then if (12 : Int32) < p1 then if p1 = (13 : Int32) then (0 : Int32) else if (31 : Int32) < p1 then if p1 < (127 : Int32) then (0 : Int32) else if (132 : Int32) < p1 then if p1 = (133 : Int32) then (0 : Int32) else if (159 : Int32) < p1 then (0 : Int32) else (1 : Int32) else (1 : Int32) else (1 : Int32) else (1 : Int32) else (0 : Int32) else (1 : Int32)
theorem d2_0 : decode method_2_code 0 = .ok (.iload_n 0, 1) := by decide +kernel
theorem d2_1 : decode method_2_code 1 = .ok (.iconst 1, 1) := by decide +kernel
theorem d2_2 : decode method_2_code 2 = .ok (.if_icmp .ge 5, 3) := by decide +kernel
theorem d2_5 : decode method_2_code 5 = .ok (.iconst 0, 1) := by decide +kernel
theorem d2_6 : decode method_2_code 6 = .ok (.ireturn, 1) := by decide +kernel
theorem d2_7 : decode method_2_code 7 = .ok (.iload_n 0, 1) := by decide +kernel
theorem d2_8 : decode method_2_code 8 = .ok (.bipush 8, 2) := by decide +kernel
theorem d2_10 : decode method_2_code 10 = .ok (.if_icmp .gt 5, 3) := by decide +kernel
theorem d2_13 : decode method_2_code 13 = .ok (.iconst 1, 1) := by decide +kernel
theorem d2_14 : decode method_2_code 14 = .ok (.ireturn, 1) := by decide +kernel
theorem d2_15 : decode method_2_code 15 = .ok (.iload_n 0, 1) := by decide +kernel
theorem d2_16 : decode method_2_code 16 = .ok (.bipush 10, 2) := by decide +kernel
theorem d2_18 : decode method_2_code 18 = .ok (.if_icmp .gt 5, 3) := by decide +kernel
theorem d2_21 : decode method_2_code 21 = .ok (.iconst 0, 1) := by decide +kernel
theorem d2_22 : decode method_2_code 22 = .ok (.ireturn, 1) := by decide +kernel
theorem d2_23 : decode method_2_code 23 = .ok (.iload_n 0, 1) := by decide +kernel
theorem d2_24 : decode method_2_code 24 = .ok (.bipush 12, 2) := by decide +kernel
theorem d2_26 : decode method_2_code 26 = .ok (.if_icmp .gt 5, 3) := by decide +kernel
theorem d2_29 : decode method_2_code 29 = .ok (.iconst 1, 1) := by decide +kernel
theorem d2_30 : decode method_2_code 30 = .ok (.ireturn, 1) := by decide +kernel
theorem d2_31 : decode method_2_code 31 = .ok (.iload_n 0, 1) := by decide +kernel
theorem d2_32 : decode method_2_code 32 = .ok (.bipush 13, 2) := by decide +kernel
theorem d2_34 : decode method_2_code 34 = .ok (.if_icmp .ne 5, 3) := by decide +kernel
theorem d2_37 : decode method_2_code 37 = .ok (.iconst 0, 1) := by decide +kernel
theorem d2_38 : decode method_2_code 38 = .ok (.ireturn, 1) := by decide +kernel
theorem d2_39 : decode method_2_code 39 = .ok (.iload_n 0, 1) := by decide +kernel
theorem d2_40 : decode method_2_code 40 = .ok (.bipush 31, 2) := by decide +kernel
theorem d2_42 : decode method_2_code 42 = .ok (.if_icmp .gt 5, 3) := by decide +kernel
theorem d2_45 : decode method_2_code 45 = .ok (.iconst 1, 1) := by decide +kernel
theorem d2_46 : decode method_2_code 46 = .ok (.ireturn, 1) := by decide +kernel
theorem d2_47 : decode method_2_code 47 = .ok (.iload_n 0, 1) := by decide +kernel
theorem d2_48 : decode method_2_code 48 = .ok (.bipush 127, 2) := by decide +kernel
theorem d2_50 : decode method_2_code 50 = .ok (.if_icmp .ge 5, 3) := by decide +kernel
theorem d2_53 : decode method_2_code 53 = .ok (.iconst 0, 1) := by decide +kernel
theorem d2_54 : decode method_2_code 54 = .ok (.ireturn, 1) := by decide +kernel
theorem d2_55 : decode method_2_code 55 = .ok (.iload_n 0, 1) := by decide +kernel
theorem d2_56 : decode method_2_code 56 = .ok (.sipush 132, 3) := by decide +kernel
theorem d2_59 : decode method_2_code 59 = .ok (.if_icmp .gt 5, 3) := by decide +kernel
theorem d2_62 : decode method_2_code 62 = .ok (.iconst 1, 1) := by decide +kernel
theorem d2_63 : decode method_2_code 63 = .ok (.ireturn, 1) := by decide +kernel
theorem d2_64 : decode method_2_code 64 = .ok (.iload_n 0, 1) := by decide +kernel
theorem d2_65 : decode method_2_code 65 = .ok (.sipush 133, 3) := by decide +kernel
theorem d2_68 : decode method_2_code 68 = .ok (.if_icmp .ne 5, 3) := by decide +kernel
theorem d2_71 : decode method_2_code 71 = .ok (.iconst 0, 1) := by decide +kernel
theorem d2_72 : decode method_2_code 72 = .ok (.ireturn, 1) := by decide +kernel
theorem d2_73 : decode method_2_code 73 = .ok (.iload_n 0, 1) := by decide +kernel
theorem d2_74 : decode method_2_code 74 = .ok (.sipush 159, 3) := by decide +kernel
theorem d2_77 : decode method_2_code 77 = .ok (.if_icmp .gt 7, 3) := by decide +kernel
theorem d2_80 : decode method_2_code 80 = .ok (.iconst 1, 1) := by decide +kernel
theorem d2_81 : decode method_2_code 81 = .ok (.goto 4, 3) := by decide +kernel
theorem d2_84 : decode method_2_code 84 = .ok (.iconst 0, 1) := by decide +kernel
theorem d2_85 : decode method_2_code 85 = .ok (.ireturn, 1) := by decide +kernel
theorem pn_com_example_austere_serializer_austereserializer_XmlNamesIsRestrictedCharPinLaw : plainName "com/example/austere_serializer/austereserializer/XmlNamesIsRestrictedCharPinLaw" = true := by first | (simp [plainName, overriddenIn]; done) | decide +kernel
theorem ef_2 (m : MethodId) (x0 : Int32) : entryFrame m #[(.int x0)] 1 = mkF m 0 #[.val (.int x0)] [] := by first | (simp [entryFrame, mkF, argsToLocals, Value.category]; done) | rfl
def Q2 (Z : State) (p1 : Int32) (h0 : Heap) (n0 : Nat) (v : Option Value) (h : Heap) (L : List Loc) : Prop := v = some (.int (own_f2 p1)) ∧ Fr n0 L ∧ h = h0
set_option maxRecDepth 65536 in
set_option maxHeartbeats 40000000 in
theorem rm2 (l : Launch) (Z : State) (a0 : Array Value) (hw : ∀ d ∈ tables_1, d.before a0 Z = true) (ws : List Jvm.Cond) (p1 : Int32) (h0 : Heap) (n0 : Nat) (Z0 : n0 ≤ h0.size)  :
    MetFree l (⟨"com/example/austere_serializer/austereserializer/XmlNamesIsRestrictedCharPinLaw", "ref", "(I)Z"⟩ : MethodName) (head1 (Jvm.Cond.code (⟨"com/example/austere_serializer/austereserializer/XmlNamesIsRestrictedCharPinLaw", "ref", "(I)Z"⟩ : MethodName) method_2_code 1 (some .boolean) :: ws) ({ frames := 0, cells := 0, slots := 0, locals := 0 } : Room)) (fun a U => a = #[(.int p1)] ∧ Z.Warmed39 U.vm ∧ U.heap = h0) (fun _ _ _ _ _ => True) (fun _ U o U' => ∃ v L, o = .returned v ∧ Q2 Z p1 h0 n0 v U'.heap L ∧ FrameEnd U o U' L ({ frames := 0, cells := 0, slots := 0, locals := 0 } : Room).cells ({ frames := 0, cells := 0, slots := 0, locals := 0 } : Room).slots) := by
  refine MetFree.of_bodySF (plainFor_of_name pn_com_example_austere_serializer_austereserializer_XmlNamesIsRestrictedCharPinLaw) hisR ?_
  intro p e s m args below meth c s₁ Bd hml0 hP hK
  obtain ⟨rfl, hZ, hh⟩ := hP
  have hx := Bd.exec
  have hby := Bd.bytes
  have hml : c.maxLocals = 1 := hml0
  have hown : s.vm.findClass "com/example/austere_serializer/austereserializer/XmlNamesIsRestrictedCharPinLaw" = some m.cls := findClass_of_methodNamed Bd.named
  have hnm := (name_of_methodNamed Bd.named Bd.method).1
  have X0 : Stand p l e ({ frames := 0, cells := 0, slots := 0, locals := 0 } : Room) s m #[(.int p1)] below meth c s₁ [] 0 0 := Stand.of_body Bd
  have e0 : s₁.heap = h0 := by rw [← hh, Bd.state]; rfl
  have N0 := Fr.nil n0
  show Goes p e below (fun s₂ o => ∃ v L, o = .returned v ∧ Q2 Z p1 h0 n0 v s₂.heap L ∧ FrameEnd s o s₂ L ({ frames := 0, cells := 0, slots := 0, locals := 0 } : Room).cells ({ frames := 0, cells := 0, slots := 0, locals := 0 } : Room).slots) (s₁.setTop (entryFrame m #[(.int p1)] 1))
  refine Goes.cast (ef_2 m p1) ?_
  refine Goes.via (B := s₁.setTop (mkF m 1 #[.val (.int p1)] [(.int p1)])) (fun t k => XS.iloadN X0.here hx rfl (hb hby d2_0) rfl k) ?_
  refine Goes.via (B := s₁.setTop (mkF m 2 #[.val (.int p1)] [(.int (1 : Int32)), (.int p1)])) (fun t k => XS.iconst X0.here hx rfl (hb hby d2_1) k) ?_
  by_cases c2_1 : p1 < (1 : Int32)
  · refine Goes.via (B := s₁.setTop (mkF m 5 #[.val (.int p1)] [])) (fun t k => XS.icmpNo X0.here hx rfl (hb hby d2_2) rfl (tlt c2_1).2.1 k) ?_
    refine Goes.via (B := s₁.setTop (mkF m 6 #[.val (.int p1)] [(.int (0 : Int32))])) (fun t k => XS.iconst X0.here hx rfl (hb hby d2_5) k) ?_
    have hv : own_f2 p1 = (0 : Int32) := by rw [own_f2, if_pos c2_1]
    exact own_out X0 (v := some (.int (0 : Int32))) (fun h => by rw [Bd.returns] at h; cases h) Bd.notSynchronized (fun fs hr => retOut X0 hx Bd.returns rfl (Or.inl ⟨rfl, Or.inr (Or.inl rfl), _, rfl⟩) (hb hby d2_6) hr) ⟨by rw [hv], N0, e0⟩ (by decide) (by decide)
  · refine Goes.via (B := s₁.setTop (mkF m 7 #[.val (.int p1)] [])) (fun t k => XS.icmpYes X0.here hx rfl (pc0 := 2) (pc' := 7) rfl (hb hby d2_2) rfl (flt c2_1).2.1 (by decide) (by decide) k) ?_
    refine Goes.via (B := s₁.setTop (mkF m 8 #[.val (.int p1)] [(.int p1)])) (fun t k => XS.iloadN X0.here hx rfl (hb hby d2_7) rfl k) ?_
    refine Goes.via (B := s₁.setTop (mkF m 10 #[.val (.int p1)] [(.int (8 : Int32)), (.int p1)])) (fun t k => XS.bipush X0.here hx rfl (hb hby d2_8) k) ?_
    by_cases c10_2 : (8 : Int32) < p1
    · refine Goes.via (B := s₁.setTop (mkF m 15 #[.val (.int p1)] [])) (fun t k => XS.icmpYes X0.here hx rfl (pc0 := 10) (pc' := 15) rfl (hb hby d2_10) rfl (tlt c10_2).2.2.1 (by decide) (by decide) k) ?_
      refine Goes.via (B := s₁.setTop (mkF m 16 #[.val (.int p1)] [(.int p1)])) (fun t k => XS.iloadN X0.here hx rfl (hb hby d2_15) rfl k) ?_
      refine Goes.via (B := s₁.setTop (mkF m 18 #[.val (.int p1)] [(.int (10 : Int32)), (.int p1)])) (fun t k => XS.bipush X0.here hx rfl (hb hby d2_16) k) ?_
      by_cases c18_3 : (10 : Int32) < p1
      · refine Goes.via (B := s₁.setTop (mkF m 23 #[.val (.int p1)] [])) (fun t k => XS.icmpYes X0.here hx rfl (pc0 := 18) (pc' := 23) rfl (hb hby d2_18) rfl (tlt c18_3).2.2.1 (by decide) (by decide) k) ?_
        refine Goes.via (B := s₁.setTop (mkF m 24 #[.val (.int p1)] [(.int p1)])) (fun t k => XS.iloadN X0.here hx rfl (hb hby d2_23) rfl k) ?_
        refine Goes.via (B := s₁.setTop (mkF m 26 #[.val (.int p1)] [(.int (12 : Int32)), (.int p1)])) (fun t k => XS.bipush X0.here hx rfl (hb hby d2_24) k) ?_
        by_cases c26_4 : (12 : Int32) < p1
        · refine Goes.via (B := s₁.setTop (mkF m 31 #[.val (.int p1)] [])) (fun t k => XS.icmpYes X0.here hx rfl (pc0 := 26) (pc' := 31) rfl (hb hby d2_26) rfl (tlt c26_4).2.2.1 (by decide) (by decide) k) ?_
          refine Goes.via (B := s₁.setTop (mkF m 32 #[.val (.int p1)] [(.int p1)])) (fun t k => XS.iloadN X0.here hx rfl (hb hby d2_31) rfl k) ?_
          refine Goes.via (B := s₁.setTop (mkF m 34 #[.val (.int p1)] [(.int (13 : Int32)), (.int p1)])) (fun t k => XS.bipush X0.here hx rfl (hb hby d2_32) k) ?_
          by_cases c34_5 : p1 = (13 : Int32)
          · refine Goes.via (B := s₁.setTop (mkF m 37 #[.val (.int p1)] [])) (fun t k => XS.icmpNo X0.here hx rfl (hb hby d2_34) rfl (teq c34_5).2 k) ?_
            refine Goes.via (B := s₁.setTop (mkF m 38 #[.val (.int p1)] [(.int (0 : Int32))])) (fun t k => XS.iconst X0.here hx rfl (hb hby d2_37) k) ?_
            have hv : own_f2 p1 = (0 : Int32) := by rw [own_f2, if_neg c2_1, if_pos c10_2, if_pos c18_3, if_pos c26_4, if_pos c34_5]
            exact own_out X0 (v := some (.int (0 : Int32))) (fun h => by rw [Bd.returns] at h; cases h) Bd.notSynchronized (fun fs hr => retOut X0 hx Bd.returns rfl (Or.inl ⟨rfl, Or.inr (Or.inl rfl), _, rfl⟩) (hb hby d2_38) hr) ⟨by rw [hv], N0, e0⟩ (by decide) (by decide)
          · refine Goes.via (B := s₁.setTop (mkF m 39 #[.val (.int p1)] [])) (fun t k => XS.icmpYes X0.here hx rfl (pc0 := 34) (pc' := 39) rfl (hb hby d2_34) rfl (feq c34_5).2 (by decide) (by decide) k) ?_
            refine Goes.via (B := s₁.setTop (mkF m 40 #[.val (.int p1)] [(.int p1)])) (fun t k => XS.iloadN X0.here hx rfl (hb hby d2_39) rfl k) ?_
            refine Goes.via (B := s₁.setTop (mkF m 42 #[.val (.int p1)] [(.int (31 : Int32)), (.int p1)])) (fun t k => XS.bipush X0.here hx rfl (hb hby d2_40) k) ?_
            by_cases c42_6 : (31 : Int32) < p1
            · refine Goes.via (B := s₁.setTop (mkF m 47 #[.val (.int p1)] [])) (fun t k => XS.icmpYes X0.here hx rfl (pc0 := 42) (pc' := 47) rfl (hb hby d2_42) rfl (tlt c42_6).2.2.1 (by decide) (by decide) k) ?_
              refine Goes.via (B := s₁.setTop (mkF m 48 #[.val (.int p1)] [(.int p1)])) (fun t k => XS.iloadN X0.here hx rfl (hb hby d2_47) rfl k) ?_
              refine Goes.via (B := s₁.setTop (mkF m 50 #[.val (.int p1)] [(.int (127 : Int32)), (.int p1)])) (fun t k => XS.bipush X0.here hx rfl (hb hby d2_48) k) ?_
              by_cases c50_7 : p1 < (127 : Int32)
              · refine Goes.via (B := s₁.setTop (mkF m 53 #[.val (.int p1)] [])) (fun t k => XS.icmpNo X0.here hx rfl (hb hby d2_50) rfl (tlt c50_7).2.1 k) ?_
                refine Goes.via (B := s₁.setTop (mkF m 54 #[.val (.int p1)] [(.int (0 : Int32))])) (fun t k => XS.iconst X0.here hx rfl (hb hby d2_53) k) ?_
                have hv : own_f2 p1 = (0 : Int32) := by rw [own_f2, if_neg c2_1, if_pos c10_2, if_pos c18_3, if_pos c26_4, if_neg c34_5, if_pos c42_6, if_pos c50_7]
                exact own_out X0 (v := some (.int (0 : Int32))) (fun h => by rw [Bd.returns] at h; cases h) Bd.notSynchronized (fun fs hr => retOut X0 hx Bd.returns rfl (Or.inl ⟨rfl, Or.inr (Or.inl rfl), _, rfl⟩) (hb hby d2_54) hr) ⟨by rw [hv], N0, e0⟩ (by decide) (by decide)
              · refine Goes.via (B := s₁.setTop (mkF m 55 #[.val (.int p1)] [])) (fun t k => XS.icmpYes X0.here hx rfl (pc0 := 50) (pc' := 55) rfl (hb hby d2_50) rfl (flt c50_7).2.1 (by decide) (by decide) k) ?_
                refine Goes.via (B := s₁.setTop (mkF m 56 #[.val (.int p1)] [(.int p1)])) (fun t k => XS.iloadN X0.here hx rfl (hb hby d2_55) rfl k) ?_
                refine Goes.via (B := s₁.setTop (mkF m 59 #[.val (.int p1)] [(.int (132 : Int32)), (.int p1)])) (fun t k => XS.sipush X0.here hx rfl (hb hby d2_56) k) ?_
                by_cases c59_8 : (132 : Int32) < p1
                · refine Goes.via (B := s₁.setTop (mkF m 64 #[.val (.int p1)] [])) (fun t k => XS.icmpYes X0.here hx rfl (pc0 := 59) (pc' := 64) rfl (hb hby d2_59) rfl (tlt c59_8).2.2.1 (by decide) (by decide) k) ?_
                  refine Goes.via (B := s₁.setTop (mkF m 65 #[.val (.int p1)] [(.int p1)])) (fun t k => XS.iloadN X0.here hx rfl (hb hby d2_64) rfl k) ?_
                  refine Goes.via (B := s₁.setTop (mkF m 68 #[.val (.int p1)] [(.int (133 : Int32)), (.int p1)])) (fun t k => XS.sipush X0.here hx rfl (hb hby d2_65) k) ?_
                  by_cases c68_9 : p1 = (133 : Int32)
                  · refine Goes.via (B := s₁.setTop (mkF m 71 #[.val (.int p1)] [])) (fun t k => XS.icmpNo X0.here hx rfl (hb hby d2_68) rfl (teq c68_9).2 k) ?_
                    refine Goes.via (B := s₁.setTop (mkF m 72 #[.val (.int p1)] [(.int (0 : Int32))])) (fun t k => XS.iconst X0.here hx rfl (hb hby d2_71) k) ?_
                    have hv : own_f2 p1 = (0 : Int32) := by rw [own_f2, if_neg c2_1, if_pos c10_2, if_pos c18_3, if_pos c26_4, if_neg c34_5, if_pos c42_6, if_neg c50_7, if_pos c59_8, if_pos c68_9]
                    exact own_out X0 (v := some (.int (0 : Int32))) (fun h => by rw [Bd.returns] at h; cases h) Bd.notSynchronized (fun fs hr => retOut X0 hx Bd.returns rfl (Or.inl ⟨rfl, Or.inr (Or.inl rfl), _, rfl⟩) (hb hby d2_72) hr) ⟨by rw [hv], N0, e0⟩ (by decide) (by decide)
                  · refine Goes.via (B := s₁.setTop (mkF m 73 #[.val (.int p1)] [])) (fun t k => XS.icmpYes X0.here hx rfl (pc0 := 68) (pc' := 73) rfl (hb hby d2_68) rfl (feq c68_9).2 (by decide) (by decide) k) ?_
                    refine Goes.via (B := s₁.setTop (mkF m 74 #[.val (.int p1)] [(.int p1)])) (fun t k => XS.iloadN X0.here hx rfl (hb hby d2_73) rfl k) ?_
                    refine Goes.via (B := s₁.setTop (mkF m 77 #[.val (.int p1)] [(.int (159 : Int32)), (.int p1)])) (fun t k => XS.sipush X0.here hx rfl (hb hby d2_74) k) ?_
                    by_cases c77_10 : (159 : Int32) < p1
                    · refine Goes.via (B := s₁.setTop (mkF m 84 #[.val (.int p1)] [])) (fun t k => XS.icmpYes X0.here hx rfl (pc0 := 77) (pc' := 84) rfl (hb hby d2_77) rfl (tlt c77_10).2.2.1 (by decide) (by decide) k) ?_
                      refine Goes.via (B := s₁.setTop (mkF m 85 #[.val (.int p1)] [(.int (0 : Int32))])) (fun t k => XS.iconst X0.here hx rfl (hb hby d2_84) k) ?_
                      have hv : own_f2 p1 = (0 : Int32) := by rw [own_f2, if_neg c2_1, if_pos c10_2, if_pos c18_3, if_pos c26_4, if_neg c34_5, if_pos c42_6, if_neg c50_7, if_pos c59_8, if_neg c68_9, if_pos c77_10]
                      exact own_out X0 (v := some (.int (0 : Int32))) (fun h => by rw [Bd.returns] at h; cases h) Bd.notSynchronized (fun fs hr => retOut X0 hx Bd.returns rfl (Or.inl ⟨rfl, Or.inr (Or.inl rfl), _, rfl⟩) (hb hby d2_85) hr) ⟨by rw [hv], N0, e0⟩ (by decide) (by decide)
                    · refine Goes.via (B := s₁.setTop (mkF m 80 #[.val (.int p1)] [])) (fun t k => XS.icmpNo X0.here hx rfl (hb hby d2_77) rfl (flt c77_10).2.2.1 k) ?_
                      refine Goes.via (B := s₁.setTop (mkF m 81 #[.val (.int p1)] [(.int (1 : Int32))])) (fun t k => XS.iconst X0.here hx rfl (hb hby d2_80) k) ?_
                      refine Goes.via (B := s₁.setTop (mkF m 85 #[.val (.int p1)] [(.int (1 : Int32))])) (fun t k => XS.goto X0.here hx rfl (pc0 := 81) (pc' := 85) rfl (hb hby d2_81) (by decide) (by decide) k) ?_
                      have hv : own_f2 p1 = (1 : Int32) := by rw [own_f2, if_neg c2_1, if_pos c10_2, if_pos c18_3, if_pos c26_4, if_neg c34_5, if_pos c42_6, if_neg c50_7, if_pos c59_8, if_neg c68_9, if_neg c77_10]
                      exact own_out X0 (v := some (.int (1 : Int32))) (fun h => by rw [Bd.returns] at h; cases h) Bd.notSynchronized (fun fs hr => retOut X0 hx Bd.returns rfl (Or.inl ⟨rfl, Or.inr (Or.inl rfl), _, rfl⟩) (hb hby d2_85) hr) ⟨by rw [hv], N0, e0⟩ (by decide) (by decide)
                · refine Goes.via (B := s₁.setTop (mkF m 62 #[.val (.int p1)] [])) (fun t k => XS.icmpNo X0.here hx rfl (hb hby d2_59) rfl (flt c59_8).2.2.1 k) ?_
                  refine Goes.via (B := s₁.setTop (mkF m 63 #[.val (.int p1)] [(.int (1 : Int32))])) (fun t k => XS.iconst X0.here hx rfl (hb hby d2_62) k) ?_
                  have hv : own_f2 p1 = (1 : Int32) := by rw [own_f2, if_neg c2_1, if_pos c10_2, if_pos c18_3, if_pos c26_4, if_neg c34_5, if_pos c42_6, if_neg c50_7, if_neg c59_8]
                  exact own_out X0 (v := some (.int (1 : Int32))) (fun h => by rw [Bd.returns] at h; cases h) Bd.notSynchronized (fun fs hr => retOut X0 hx Bd.returns rfl (Or.inl ⟨rfl, Or.inr (Or.inl rfl), _, rfl⟩) (hb hby d2_63) hr) ⟨by rw [hv], N0, e0⟩ (by decide) (by decide)
            · refine Goes.via (B := s₁.setTop (mkF m 45 #[.val (.int p1)] [])) (fun t k => XS.icmpNo X0.here hx rfl (hb hby d2_42) rfl (flt c42_6).2.2.1 k) ?_
              refine Goes.via (B := s₁.setTop (mkF m 46 #[.val (.int p1)] [(.int (1 : Int32))])) (fun t k => XS.iconst X0.here hx rfl (hb hby d2_45) k) ?_
              have hv : own_f2 p1 = (1 : Int32) := by rw [own_f2, if_neg c2_1, if_pos c10_2, if_pos c18_3, if_pos c26_4, if_neg c34_5, if_neg c42_6]
              exact own_out X0 (v := some (.int (1 : Int32))) (fun h => by rw [Bd.returns] at h; cases h) Bd.notSynchronized (fun fs hr => retOut X0 hx Bd.returns rfl (Or.inl ⟨rfl, Or.inr (Or.inl rfl), _, rfl⟩) (hb hby d2_46) hr) ⟨by rw [hv], N0, e0⟩ (by decide) (by decide)
        · refine Goes.via (B := s₁.setTop (mkF m 29 #[.val (.int p1)] [])) (fun t k => XS.icmpNo X0.here hx rfl (hb hby d2_26) rfl (flt c26_4).2.2.1 k) ?_
          refine Goes.via (B := s₁.setTop (mkF m 30 #[.val (.int p1)] [(.int (1 : Int32))])) (fun t k => XS.iconst X0.here hx rfl (hb hby d2_29) k) ?_
          have hv : own_f2 p1 = (1 : Int32) := by rw [own_f2, if_neg c2_1, if_pos c10_2, if_pos c18_3, if_neg c26_4]
          exact own_out X0 (v := some (.int (1 : Int32))) (fun h => by rw [Bd.returns] at h; cases h) Bd.notSynchronized (fun fs hr => retOut X0 hx Bd.returns rfl (Or.inl ⟨rfl, Or.inr (Or.inl rfl), _, rfl⟩) (hb hby d2_30) hr) ⟨by rw [hv], N0, e0⟩ (by decide) (by decide)
      · refine Goes.via (B := s₁.setTop (mkF m 21 #[.val (.int p1)] [])) (fun t k => XS.icmpNo X0.here hx rfl (hb hby d2_18) rfl (flt c18_3).2.2.1 k) ?_
        refine Goes.via (B := s₁.setTop (mkF m 22 #[.val (.int p1)] [(.int (0 : Int32))])) (fun t k => XS.iconst X0.here hx rfl (hb hby d2_21) k) ?_
        have hv : own_f2 p1 = (0 : Int32) := by rw [own_f2, if_neg c2_1, if_pos c10_2, if_neg c18_3]
        exact own_out X0 (v := some (.int (0 : Int32))) (fun h => by rw [Bd.returns] at h; cases h) Bd.notSynchronized (fun fs hr => retOut X0 hx Bd.returns rfl (Or.inl ⟨rfl, Or.inr (Or.inl rfl), _, rfl⟩) (hb hby d2_22) hr) ⟨by rw [hv], N0, e0⟩ (by decide) (by decide)
    · refine Goes.via (B := s₁.setTop (mkF m 13 #[.val (.int p1)] [])) (fun t k => XS.icmpNo X0.here hx rfl (hb hby d2_10) rfl (flt c10_2).2.2.1 k) ?_
      refine Goes.via (B := s₁.setTop (mkF m 14 #[.val (.int p1)] [(.int (1 : Int32))])) (fun t k => XS.iconst X0.here hx rfl (hb hby d2_13) k) ?_
      have hv : own_f2 p1 = (1 : Int32) := by rw [own_f2, if_neg c2_1, if_neg c10_2]
      exact own_out X0 (v := some (.int (1 : Int32))) (fun h => by rw [Bd.returns] at h; cases h) Bd.notSynchronized (fun fs hr => retOut X0 hx Bd.returns rfl (Or.inl ⟨rfl, Or.inr (Or.inl rfl), _, rfl⟩) (hb hby d2_14) hr) ⟨by rw [hv], N0, e0⟩ (by decide) (by decide)
theorem own_same (c : Int32) : own_f1 c = own_f2 c := by
  unfold own_f1 own_f2
  repeat' split
  all_goals first | rfl | (exfalso; simp only [Int32.lt_iff_toInt_lt, ← Int32.toInt_inj, Int32.reduceToInt] at *; omega)
theorem pd__I_Z : parseMethodDescriptor "(I)Z" = some ⟨[.int], some .boolean⟩ := by decide +kernel
theorem ef_0 (m : MethodId) (x0 : Int32) (x1 : Int32) : entryFrame m #[(.int x0), (.int x1)] maxLocals = mkF m 0 #[.val (.int x0), .val (.int x1), .unset] [] := by first | (simp [entryFrame, mkF, argsToLocals, Value.category, maxLocals]; done) | rfl
def Q0 (Z : State) (p1 : Int32) (p2 : Int32) (h0 : Heap) (n0 : Nat) (v : Option Value) (h : Heap) (L : List Loc) : Prop := v = some (.int (1 : Int32)) ∧ Fr n0 L
set_option maxRecDepth 65536 in
set_option maxHeartbeats 40000000 in
theorem rm0 (l : Launch) (Z : State) (a0 : Array Value) (hw : ∀ d ∈ tables_1, d.before a0 Z = true) (ws : List Jvm.Cond) (p1 : Int32) (p2 : Int32) (h0 : Heap) (n0 : Nat) (Z0 : n0 ≤ h0.size)  :
    MetFree l x (head1 (Jvm.Cond.code x code maxLocals ret :: ws) room_1) (fun a U => a = #[(.int p1), (.int p2)] ∧ Z.Warmed39 U.vm ∧ U.heap = h0) (fun _ _ _ _ _ => True) (fun _ U o U' => ∃ v L, o = .returned v ∧ Q0 Z p1 p2 h0 n0 v U'.heap L ∧ FrameEnd U o U' L room_1.cells room_1.slots) := by
  refine MetFree.of_bodySF (plainFor_of_name pn_com_example_austere_serializer_austereserializer_XmlNamesIsRestrictedCharPinLaw) hisR ?_
  intro p e s m args below meth c s₁ Bd hml0 hP hK
  obtain ⟨rfl, hZ, hh⟩ := hP
  have hx := Bd.exec
  have hby := Bd.bytes
  have hml : c.maxLocals = 3 := hml0
  have hown : s.vm.findClass "com/example/austere_serializer/austereserializer/XmlNamesIsRestrictedCharPinLaw" = some m.cls := findClass_of_methodNamed Bd.named
  have hnm := (name_of_methodNamed Bd.named Bd.method).1
  have X0 : Stand p l e room_1 s m #[(.int p1), (.int p2)] below meth c s₁ [] 0 0 := Stand.of_body Bd
  have e0 : s₁.heap = h0 := by rw [← hh, Bd.state]; rfl
  have N0 := Fr.nil n0
  show Goes p e below (fun s₂ o => ∃ v L, o = .returned v ∧ Q0 Z p1 p2 h0 n0 v s₂.heap L ∧ FrameEnd s o s₂ L room_1.cells room_1.slots) (s₁.setTop (entryFrame m #[(.int p1), (.int p2)] maxLocals))
  refine Goes.cast (ef_0 m p1 p2) ?_
  refine Goes.via (B := s₁.setTop (mkF m 1 #[.val (.int p1), .val (.int p2), .unset] [(.int p2)])) (fun t k => XS.iloadN X0.here hx rfl (hb hby at_0) rfl k) ?_
  refine Goes.via (B := s₁.setTop (mkF m 4 #[.val (.int p1), .val (.int p2), .unset] [(.int (255 : Int32)), (.int p2)])) (fun t k => XS.sipush X0.here hx rfl (hb hby at_1) k) ?_
  refine Goes.via (B := s₁.setTop (mkF m 5 #[.val (.int p1), .val (.int p2), .unset] [(.int (p2 &&& (255 : Int32)))])) (fun t k => XS.iand X0.here hx rfl (hb hby at_4) rfl k) ?_
  refine Goes.via (B := s₁.setTop (mkF m 6 #[.val (.int p1), .val (.int p2), .val (.int (p2 &&& (255 : Int32)))] [])) (fun t k => XS.istoreN X0.here hx rfl (hb hby at_5) rfl (l' := #[.val (.int p1), .val (.int p2), .val (.int (p2 &&& (255 : Int32)))]) rfl k) ?_
  generalize hv1 : (p2 &&& (255 : Int32)) = v1
  refine Goes.via (B := s₁.setTop (mkF m 7 #[.val (.int p1), .val (.int p2), .val (.int v1)] [(.int p1)])) (fun t k => XS.iloadN X0.here hx rfl (hb hby at_6) rfl k) ?_
  obtain ⟨_, _, ⟨T1, L1, kk1, nn1⟩, -, X1, ⟨Lc1, hQ1, l1, y1, z1⟩, st1⟩ := Jvm.LawKit.callS X0 hx (y := (⟨"com/example/austere_serializer/austereserializer/XmlNames", "isRestrictedChar", "(I)Z"⟩ : MethodName)) hown (mvT hZ (hw _ (List.mem_of_getElem? (i := 0) rfl))) (mvT hZ (hw _ (List.mem_of_getElem? (i := 1) rfl))) (mvT hZ (hw _ (List.mem_of_getElem? (i := 2) rfl))) (mvT hZ (hw _ (List.mem_of_getElem? (i := 3) rfl))) (by decide) (backOf (W := 0) (rm1 l Z a0 hw [] p1 h0 n0 Z0 ) hZ (hw _ (List.mem_of_getElem? (i := 3) rfl)) (hw _ (List.mem_of_getElem? (i := 2) rfl)) (by decide) (by decide)) (g := (mkF m 7 #[.val (.int p1), .val (.int p2), .val (.int v1)] [(.int p1)])) rfl (by rw [hml]; rfl) (argsL := [(.int p1)]) (rest := []) (lenOf pd__I_Z rfl) rfl (by show 2 * 0 + _ ≤ _; exact Nat.le_of_eq rfl) (hb hby at_7) (fun _ _ => ⟨rfl, e0, (by decide : 0 + 0 ≤ _), (by decide : 0 + 0 ≤ _)⟩)
  dsimp only [Pt.U, Pt.locs, Pt.cells, Pt.slots] at X1 l1 y1 z1 st1 hQ1
  subst l1 y1 z1
  obtain ⟨rfl, Nq1, hq1⟩ := hQ1
  have N1 := Fr.app N0 Nq1
  refine Goes.via (B := T1.setTop (mkF m 10 #[.val (.int p1), .val (.int p2), .val (.int v1)] [(.int (own_f1 p1))])) st1 ?_
  refine Goes.via (B := T1.setTop (mkF m 11 #[.val (.int p1), .val (.int p2), .val (.int v1)] [(.int p1), (.int (own_f1 p1))])) (fun t k => XS.iloadN X1.here hx rfl (hb hby at_10) rfl k) ?_
  obtain ⟨_, _, ⟨T2, L2, kk2, nn2⟩, -, X2, ⟨Lc2, hQ2, l2, y2, z2⟩, st2⟩ := Jvm.LawKit.callS X1 hx (y := (⟨"com/example/austere_serializer/austereserializer/XmlNamesIsRestrictedCharPinLaw", "ref", "(I)Z"⟩ : MethodName)) hown (mvT hZ (hw _ (List.mem_of_getElem? (i := 4) rfl))) (mvT hZ (hw _ (List.mem_of_getElem? (i := 5) rfl))) (mvT hZ (hw _ (List.mem_of_getElem? (i := 6) rfl))) (mvT hZ (hw _ (List.mem_of_getElem? (i := 7) rfl))) (by decide) (backOf (W := 1) (rm2 l Z a0 hw [] p1 h0 n0 Z0 ) hZ (hw _ (List.mem_of_getElem? (i := 7) rfl)) (hw _ (List.mem_of_getElem? (i := 6) rfl)) (by decide) (by decide)) (g := (mkF m 11 #[.val (.int p1), .val (.int p2), .val (.int v1)] [(.int p1), (.int (own_f1 p1))])) rfl (by rw [hml]; rfl) (argsL := [(.int p1)]) (rest := [(.int (own_f1 p1))]) (lenOf pd__I_Z rfl) rfl (by show 2 * 0 + _ ≤ _; exact Nat.le_of_eq rfl) (hb hby at_11) (fun _ _ => ⟨rfl, hq1, (by decide : 0 + 0 ≤ _), (by decide : 0 + 0 ≤ _)⟩)
  dsimp only [Pt.U, Pt.locs, Pt.cells, Pt.slots] at X2 l2 y2 z2 st2 hQ2
  subst l2 y2 z2
  obtain ⟨rfl, Nq2, hq2⟩ := hQ2
  have N2 := Fr.app N1 Nq2
  refine Goes.via (B := T2.setTop (mkF m 14 #[.val (.int p1), .val (.int p2), .val (.int v1)] [(.int (own_f2 p1)), (.int (own_f1 p1))])) st2 ?_
  refine Goes.via (B := T2.setTop (mkF m 17 #[.val (.int p1), .val (.int p2), .val (.int v1)] [])) (fun t k => XS.icmpNo X2.here hx rfl (hb hby at_14) rfl (teq (own_same p1)).2 k) ?_
  refine Goes.via (B := T2.setTop (mkF m 18 #[.val (.int p1), .val (.int p2), .val (.int v1)] [(.int v1)])) (fun t k => XS.iloadN X2.here hx rfl (hb hby at_17) rfl k) ?_
  obtain ⟨_, _, ⟨T3, L3, kk3, nn3⟩, -, X3, ⟨Lc3, hQ3, l3, y3, z3⟩, st3⟩ := Jvm.LawKit.callS X2 hx (y := (⟨"com/example/austere_serializer/austereserializer/XmlNames", "isRestrictedChar", "(I)Z"⟩ : MethodName)) hown (mvT hZ (hw _ (List.mem_of_getElem? (i := 0) rfl))) (mvT hZ (hw _ (List.mem_of_getElem? (i := 1) rfl))) (mvT hZ (hw _ (List.mem_of_getElem? (i := 2) rfl))) (mvT hZ (hw _ (List.mem_of_getElem? (i := 3) rfl))) (by decide) (backOf (W := 0) (rm1 l Z a0 hw [] v1 h0 n0 Z0 ) hZ (hw _ (List.mem_of_getElem? (i := 3) rfl)) (hw _ (List.mem_of_getElem? (i := 2) rfl)) (by decide) (by decide)) (g := (mkF m 18 #[.val (.int p1), .val (.int p2), .val (.int v1)] [(.int v1)])) rfl (by rw [hml]; rfl) (argsL := [(.int v1)]) (rest := []) (lenOf pd__I_Z rfl) rfl (by show 2 * 0 + _ ≤ _; exact Nat.le_of_eq rfl) (hb hby at_18) (fun _ _ => ⟨rfl, hq2, (by decide : 0 + 0 ≤ _), (by decide : 0 + 0 ≤ _)⟩)
  dsimp only [Pt.U, Pt.locs, Pt.cells, Pt.slots] at X3 l3 y3 z3 st3 hQ3
  subst l3 y3 z3
  obtain ⟨rfl, Nq3, hq3⟩ := hQ3
  have N3 := Fr.app N2 Nq3
  refine Goes.via (B := T3.setTop (mkF m 21 #[.val (.int p1), .val (.int p2), .val (.int v1)] [(.int (own_f1 v1))])) st3 ?_
  refine Goes.via (B := T3.setTop (mkF m 22 #[.val (.int p1), .val (.int p2), .val (.int v1)] [(.int v1), (.int (own_f1 v1))])) (fun t k => XS.iloadN X3.here hx rfl (hb hby at_21) rfl k) ?_
  obtain ⟨_, _, ⟨T4, L4, kk4, nn4⟩, -, X4, ⟨Lc4, hQ4, l4, y4, z4⟩, st4⟩ := Jvm.LawKit.callS X3 hx (y := (⟨"com/example/austere_serializer/austereserializer/XmlNamesIsRestrictedCharPinLaw", "ref", "(I)Z"⟩ : MethodName)) hown (mvT hZ (hw _ (List.mem_of_getElem? (i := 4) rfl))) (mvT hZ (hw _ (List.mem_of_getElem? (i := 5) rfl))) (mvT hZ (hw _ (List.mem_of_getElem? (i := 6) rfl))) (mvT hZ (hw _ (List.mem_of_getElem? (i := 7) rfl))) (by decide) (backOf (W := 1) (rm2 l Z a0 hw [] v1 h0 n0 Z0 ) hZ (hw _ (List.mem_of_getElem? (i := 7) rfl)) (hw _ (List.mem_of_getElem? (i := 6) rfl)) (by decide) (by decide)) (g := (mkF m 22 #[.val (.int p1), .val (.int p2), .val (.int v1)] [(.int v1), (.int (own_f1 v1))])) rfl (by rw [hml]; rfl) (argsL := [(.int v1)]) (rest := [(.int (own_f1 v1))]) (lenOf pd__I_Z rfl) rfl (by show 2 * 0 + _ ≤ _; exact Nat.le_of_eq rfl) (hb hby at_22) (fun _ _ => ⟨rfl, hq3, (by decide : 0 + 0 ≤ _), (by decide : 0 + 0 ≤ _)⟩)
  dsimp only [Pt.U, Pt.locs, Pt.cells, Pt.slots] at X4 l4 y4 z4 st4 hQ4
  subst l4 y4 z4
  obtain ⟨rfl, Nq4, hq4⟩ := hQ4
  have N4 := Fr.app N3 Nq4
  refine Goes.via (B := T4.setTop (mkF m 25 #[.val (.int p1), .val (.int p2), .val (.int v1)] [(.int (own_f2 v1)), (.int (own_f1 v1))])) st4 ?_
  refine Goes.via (B := T4.setTop (mkF m 28 #[.val (.int p1), .val (.int p2), .val (.int v1)] [])) (fun t k => XS.icmpNo X4.here hx rfl (hb hby at_25) rfl (teq (own_same v1)).2 k) ?_
  refine Goes.via (B := T4.setTop (mkF m 29 #[.val (.int p1), .val (.int p2), .val (.int v1)] [(.int (1 : Int32))])) (fun t k => XS.iconst X4.here hx rfl (hb hby at_28) k) ?_
  refine Goes.via (B := T4.setTop (mkF m 33 #[.val (.int p1), .val (.int p2), .val (.int v1)] [(.int (1 : Int32))])) (fun t k => XS.goto X4.here hx rfl (pc0 := 29) (pc' := 33) rfl (hb hby at_29) (by decide) (by decide) k) ?_
  exact own_out X4 (v := some (.int (1 : Int32))) (fun h => by rw [Bd.returns] at h; cases h) Bd.notSynchronized (fun fs hr => retOut X4 hx Bd.returns rfl (Or.inl ⟨rfl, Or.inr (Or.inl rfl), _, rfl⟩) (hb hby at_33) hr) ⟨rfl, N4⟩ (by decide) (by decide)
set_option maxRecDepth 65536 in
set_option maxHeartbeats 40000000 in
theorem comes_1 {Post : Tables → Env → Array Value → State → Outcome → State → Prop} (hpost : ∀ tb e args s v u, (limb_1_1.after args s (.returned v) u = true ∧ limb_1_2.after args s (.returned v) u = true ∧ True) → FrameEnd s (.returned v) u (Jvm.fieldLocs frame_1_writes args s ++ Jvm.arrayLocs frame_1_arrays args s ++ Jvm.staticLocs frame_1_statics s) 0 0 → Post tb e args s (.returned v) u) :
    ArmFor flags0 classFile x code maxLocals ret World_1 tables_1 room_1 Calls_1 rest_1 Pre_1 Post := by
  intro l hfl _ _ p e ha hc hk s m args below hf hA hF happ hP
  obtain ⟨hcalls, hrest, hpre⟩ := hP
  obtain ⟨-, -, -, hnamed, -, -, -, hat⟩ := (Spec.applies_iff hf).mp happ
  obtain ⟨hg, hn⟩ := and_e (Cond.before_iff.mp (show (Jvm.Cond.and given_1 narrow_1).before args s = true from hpre))
  obtain ⟨h1, r0⟩ := and_e hg
  obtain ⟨t0, r1⟩ := and_e r0
  obtain ⟨w0, w1, rfl⟩ : ∃ w0 w1 : Value, args = #[w0, w1] := by
    have hs : args.size = 2 := by simpa [Cond.value, given_1] using h1
    obtain ⟨L⟩ := args
    match L, hs with
    | [w0, w1], _ => exact ⟨w0, w1, rfl⟩
  have hw := fun d (hd : d ∈ tables_1) => atoms_spec (ws := Jvm.Cond.code x code maxLocals ret :: tables_1) hat d (List.mem_cons_of_mem _ hd)
  obtain ⟨i0, q0⟩ := is_v t0
  obtain rfl : w0 = (.int i0) := Option.some.inj q0
  obtain ⟨i1, q1⟩ := is_v r1
  obtain rfl : w1 = (.int i1) := Option.some.inj q1
  obtain ⟨n, o, h1, h2, h3, _, L, rfl, ⟨rfl, N⟩, hq⟩ := rm0 l s _ hw tables_1 i0 i1  s.heap s.heap.size (Nat.le_refl _) p e ha hc hk s m _ below hf ((Spec.applies_iff_loose hf).mp happ).1 ⟨rfl, State.Warmed39.refl s, rfl⟩ trivial
  refine ⟨n, _, h1, h2, h3, hpost _ _ _ _ _ _ ⟨Cond.after_iff.mpr rfl, Cond.after_iff.mpr (eq_i res_at (Term.int_eval (1)) rfl), trivial⟩ ⟨hq.1, hq.2.1, (hq.2.2.sift fun y hy => Or.inr (N y hy)).mono (by decide) (by decide)⟩⟩
theorem main_1_1 : Claimed_1_1 := comes_1 fun _ _ _ _ _ _ h hF => ⟨h.1, hF⟩
theorem main_1_2 : Claimed_1_2 := comes_1 fun _ _ _ _ _ _ h hF => ⟨h.2.1, hF⟩
end Jvm.Pilot.@@N@@
namespace Jvm.Pilot.@@N@@
open Jvm Jvm.ClassFile Sem Op Lib Jvm.Free Jvm.Stand Jvm.Pilot.@@N@@.Jvm.D
/-! MADE BY PROGRAM (witnessworld.py) out of the Statement's table words and the real class files: 7 classes; the members and pool entries that the words name. The judged class is class 1, her method 2. -/
namespace start1
open Jvm.ClassFile
def u (s : String) : CpInfo := .utf8 (stringToUtf16 s)
/-- a pool by its gaps: so many unusable entries, then the entry; so many at the end -/
def gap : Nat → List CpInfo → List CpInfo
  | 0, r => r
  | n + 1, r => .unusable :: gap n r
def poolList (es : List (Nat × CpInfo)) (last : Nat) : List CpInfo := es.foldr (fun e r => gap e.1 (e.2 :: r)) (gap last [])
def pool (es : List (Nat × CpInfo)) (last : Nat) : Array CpInfo := ⟨poolList es last⟩
def fileOf (pool : Array CpInfo) (this : Nat) (attrs : Array Attribute := #[]) (ms : Array MethodInfo := #[]) (fl : Nat := 33) (sup : Nat := 0) (ifs : Array Nat := #[]) (fds : Array FieldInfo := #[]) : ClassFile where
  minorVersion := 0
  majorVersion := 65
  constantPool := pool
  accessFlags := fl
  thisClass := this
  superClass := sup
  interfaces := ifs
  fields := fds
  methods := ms
  attributes := attrs
def plain (name : String) (sup : Option ClassId) : Class where
  name := name
  kind := .ordinary
  loader := none
  accessFlags := 33
  super := sup
  interfaces := #[]
  cf := none
  fields := #[]
  methods := #[]
  instanceTypes := #[]
  staticTypes := #[]
  resolved := #[]
  callSites := []
  init := .initialized
  statics := none
  mirror := none

def pool0 : Array CpInfo := pool [(5, u "<init>"), (0, u "()V"), (1, .class_ 10), (1, u "java/lang/Object")] 113

def k0m0 : Method := { name := "<init>", desc := "()V", sig := { parameters := [], returnType := none }, accessFlags := 1, code := none }
/-- java/lang/Object -/
def k0 : Class := { plain "java/lang/Object" none with
  accessFlags := 33
  interfaces := #[]
  cf := some (fileOf pool0 8 #[] #[{ accessFlags := 1, nameIndex := 5, descriptorIndex := 6, attributes := #[] }] 33 0 #[] #[])
  fields := #[]
  methods := #[k0m0]
  instanceTypes := #[]
  staticTypes := #[]
  resolved := Array.replicate 124 none
  statics := none }

def pool1 : Array CpInfo := pool [(2, .class_ 4), (1, u "java/lang/Object"), (0, u "<init>"), (0, u "()V"), (0, .methodref 8 9), (0, .class_ 10), (0, .nameAndType 11 12), (0, u "com/example/austere_serializer/austereserializer/XmlNames"), (0, u "isRestrictedChar"), (0, u "(I)Z"), (0, .methodref 14 15), (0, .class_ 16), (0, .nameAndType 17 12), (0, u "com/example/austere_serializer/austereserializer/XmlNamesIsRestrictedCharPinLaw"), (0, u "ref"), (3, u "law"), (0, u "(II)Z")] 2

def k1m0 : Method := { name := "<init>", desc := "()V", sig := { parameters := [], returnType := none }, accessFlags := 2, code := none }
def k1c1 : Code := { maxStack := 2, maxLocals := 1, code := method_2_code, exceptionTable := #[], attributes := #[] }
def k1m1 : Method := { name := "ref", desc := "(I)Z", sig := { parameters := [.int], returnType := some .boolean }, accessFlags := 10, code := some k1c1 }
def k1c2 : Code := { maxStack := 2, maxLocals := 3, code := code, exceptionTable := #[], attributes := #[] }
def k1m2 : Method := { name := "law", desc := "(II)Z", sig := { parameters := [.int, .int], returnType := some .boolean }, accessFlags := 9, code := some k1c2 }
/-- com/example/austere_serializer/austereserializer/XmlNamesIsRestrictedCharPinLaw -/
def k1 : Class := { plain "com/example/austere_serializer/austereserializer/XmlNamesIsRestrictedCharPinLaw" (some 0) with
  accessFlags := 49
  interfaces := #[]
  cf := some (fileOf pool1 14 #[] #[{ accessFlags := 2, nameIndex := 5, descriptorIndex := 6, attributes := #[] }, { accessFlags := 10, nameIndex := 17, descriptorIndex := 12, attributes := #[] }, { accessFlags := 9, nameIndex := 21, descriptorIndex := 22, attributes := #[] }] 49 2 #[] #[])
  fields := #[]
  methods := #[k1m0, k1m1, k1m2]
  instanceTypes := #[]
  staticTypes := #[]
  resolved := Array.replicate 25 none
  statics := none }

def pool2 : Array CpInfo := pool [(2, .class_ 4), (1, u "java/lang/Object"), (0, u "<init>"), (0, u "()V"), (36, .class_ 45), (1, u "com/example/austere_serializer/austereserializer/XmlNames"), (12, u "NC_NAME_START_ASCII"), (0, u "[Z"), (2, u "NC_NAME_ASCII"), (7, u "(I)Z"), (28, u "ASCII"), (0, u "I"), (6, u "isRestrictedChar")] 31

def k2m0 : Method := { name := "<init>", desc := "()V", sig := { parameters := [], returnType := none }, accessFlags := 2, code := none }
def k2c1 : Code := { maxStack := 2, maxLocals := 1, code := prog_54_method_3_code, exceptionTable := #[], attributes := #[] }
def k2m1 : Method := { name := "isRestrictedChar", desc := "(I)Z", sig := { parameters := [.int], returnType := some .boolean }, accessFlags := 8, code := some k2c1 }
/-- com/example/austere_serializer/austereserializer/XmlNames -/
def k2 : Class := { plain "com/example/austere_serializer/austereserializer/XmlNames" (some 0) with
  accessFlags := 48
  interfaces := #[]
  cf := some (fileOf pool2 43 #[] #[{ accessFlags := 2, nameIndex := 5, descriptorIndex := 6, attributes := #[] }, { accessFlags := 8, nameIndex := 107, descriptorIndex := 70, attributes := #[] }] 48 2 #[] #[{ accessFlags := 26, nameIndex := 99, descriptorIndex := 100, attributes := #[] }, { accessFlags := 26, nameIndex := 58, descriptorIndex := 59, attributes := #[] }, { accessFlags := 26, nameIndex := 62, descriptorIndex := 59, attributes := #[] }])
  fields := #[{ name := "ASCII", type := .int, accessFlags := 26, slot := 0, constantValue := 0 }, { name := "NC_NAME_START_ASCII", type := (.array .boolean), accessFlags := 26, slot := 1, constantValue := 0 }, { name := "NC_NAME_ASCII", type := (.array .boolean), accessFlags := 26, slot := 2, constantValue := 0 }]
  methods := #[k2m0, k2m1]
  instanceTypes := #[]
  staticTypes := #[.int, (.array .boolean), (.array .boolean)]
  resolved := Array.replicate 139 none
  statics := none }

def pool3 : Array CpInfo := pool [(1, u "java/lang/Cloneable"), (0, .class_ 1), (0, u "java/lang/Object"), (0, .class_ 3)] 3

/-- java/lang/Cloneable -/
def k3 : Class := { plain "java/lang/Cloneable" (some 0) with
  accessFlags := 1537
  interfaces := #[]
  cf := some (fileOf pool3 2 #[] #[] 1537 4 #[] #[])
  fields := #[]
  methods := #[]
  instanceTypes := #[]
  staticTypes := #[]
  resolved := Array.replicate 8 none
  statics := none }

def pool4 : Array CpInfo := pool [(1, u "java/io/Serializable"), (0, .class_ 1), (0, u "java/lang/Object"), (0, .class_ 3)] 3

/-- java/io/Serializable -/
def k4 : Class := { plain "java/io/Serializable" (some 0) with
  accessFlags := 1537
  interfaces := #[]
  cf := some (fileOf pool4 2 #[] #[] 1537 4 #[] #[])
  fields := #[]
  methods := #[]
  instanceTypes := #[]
  staticTypes := #[]
  resolved := Array.replicate 8 none
  statics := none }

/-- the primitive byte -/
def k5 : Class := { plain "byte" none with kind := .primitive 'B', accessFlags := 0x411 }
/-- [B -/
def k6 : Class := { plain "[B" (some 0) with kind := .array 5 .byte, interfaces := #[3, 4], accessFlags := 1041 }

def heap : Heap := #[]
def classes : Array Class := #[k0, k1, k2, k3, k4, k5, k6]
def interned : List (Array UInt16 × Addr) := []
def slotsUsed : Nat := 0
def theMethod : MethodId := ⟨1, 2⟩
def args0 : Array Value := #[.int 5, .int 300]
def aboutOver (below : List Frame) : State where
  vm := { classes := classes, interned := interned.toArray }
  heap := heap
  slotsUsed := slotsUsed
  threads := #[{ frames := .invoking theMethod args0 :: below }]
def below0 : List Frame := [.native { method := ⟨0, 0⟩, args := #[] }]
def about1 : State := aboutOver below0
def p0 : Program := .bare "" "" ""
def e0 : Env := launch0.env 0 0 0
theorem w_frames : about1.frames = Frame.invoking theMethod args0 :: below0 := rfl
set_option maxRecDepth 65536 in
theorem w_args : argsFit about1.vm theMethod args0 = true := by decide +kernel
set_option maxRecDepth 65536 in
theorem w_heap : heapFits about1 = true := by decide +kernel
set_option maxRecDepth 65536 in
theorem w_runnable : about1.curStatus? = some .runnable := by decide +kernel
set_option maxRecDepth 65536 in
theorem w_alone : about1.alone = true := by decide +kernel
set_option maxRecDepth 65536 in
theorem w_named : about1.methodNamed? x = some theMethod := by decide +kernel
set_option maxRecDepth 65536 in
theorem w_hears : about1.hears theMethod below0 = true := by decide +kernel
set_option maxRecDepth 65536 in
theorem w_ripe : about1.ripe theMethod args0 below0 = true := by decide +kernel
theorem w_running : about1.status = .running := rfl
set_option maxRecDepth 65536 in
theorem w_room : about1.hasRoom e0.platform room_1 = true :=
  launch0.hasRoom_least _ room_1 (by decide +kernel) (by decide +kernel) (by decide +kernel) (by decide +kernel) (by decide +kernel) (by decide +kernel)
theorem allAtoms_all (ts : List Jvm.Cond) (a : Array Jvm.Value) (st : Jvm.State) : (allAtoms ts).before a st = ts.all (fun c => c.before a st) := by
  induction ts with
  | nil => rfl
  | cons c t ih =>
    show (Jvm.Cond.and c (allAtoms t)).before a st = _
    rw [Jvm.Cond.before_and, ih, List.all_cons]
def words1 : List Jvm.Cond := Jvm.Cond.code x code maxLocals ret :: tables_1
/-- a 'code' word, met by the world's own term for the bytes: nothing is compared byte by byte -/
theorem code_word {y : MethodName} {bytes : ByteArray} {mx : Nat} {rt : Option FieldType} {a : Array Value} {s : State} {m : MethodId} {meth : Method} {c : Code} (h1 : s.methodNamed? y = some m) (h2 : s.vm.method? m = some meth) (h3 : meth.code = some c) (h4 : c.code = bytes)
    (h5 : (c.maxLocals == mx && c.exceptionTable.isEmpty && decide (c.maxStack ≤ mostOperands) && decide (meth.sig.returnType = rt) && !meth.locks && decide (parseMethodDescriptor y.desc = some meth.sig)) = true) : (Jvm.Cond.code y bytes mx rt).before a s = true := by
  simp only [Bool.and_eq_true, beq_iff_eq, Bool.not_eq_true', decide_eq_true_eq] at h5
  obtain ⟨⟨⟨⟨⟨g1, g2⟩, g3⟩, g4⟩, g5⟩, g6⟩ := h5
  simp [Cond.before, Cond.holds, Cond.value, h1, h2, h3, h4, g1, g2, g3, g4, g5, g6]
def isCode : Jvm.Cond → Bool
  | .code _ _ _ _ => true
  | _ => false
theorem all_split {L : List Jvm.Cond} {P : Jvm.Cond → Bool} (h1 : L.all (fun c => isCode c || P c) = true) (h2 : ∀ c ∈ L.filter isCode, P c = true) : L.all P = true := by
  refine List.all_eq_true.mpr fun c hc => ?_
  have h := List.all_eq_true.mp h1 c hc
  rcases Bool.eq_false_or_eq_true (isCode c) with hi | hi
  · exact h2 c (List.mem_filter.mpr ⟨hc, hi⟩)
  · simpa [hi] using h
set_option maxRecDepth 65536 in
theorem w_c0 : (Jvm.Cond.code x code maxLocals ret).before args0 about1 = true := code_word (m := ⟨1, 2⟩) (meth := k1m2) (c := k1c2) (by decide +kernel) rfl rfl rfl (by decide +kernel)
set_option maxRecDepth 65536 in
theorem w_c1 : (Jvm.Cond.code ({ cls := "com/example/austere_serializer/austereserializer/XmlNames", name := "isRestrictedChar", desc := "(I)Z" } : Jvm.MethodName) prog_54_method_3_code (1 : Nat) (Option.some Jvm.ClassFile.FieldType.boolean)).before args0 about1 = true := code_word (m := ⟨2, 1⟩) (meth := k2m1) (c := k2c1) (by decide +kernel) rfl rfl rfl (by decide +kernel)
set_option maxRecDepth 65536 in
theorem w_c2 : (Jvm.Cond.code ({ cls := "com/example/austere_serializer/austereserializer/XmlNamesIsRestrictedCharPinLaw", name := "ref", desc := "(I)Z" } : Jvm.MethodName) method_2_code (1 : Nat) (Option.some Jvm.ClassFile.FieldType.boolean)).before args0 about1 = true := code_word (m := ⟨1, 1⟩) (meth := k1m1) (c := k1c1) (by decide +kernel) rfl rfl rfl (by decide +kernel)
def codes1 : List Jvm.Cond := [Jvm.Cond.code x code maxLocals ret, Jvm.Cond.code ({ cls := "com/example/austere_serializer/austereserializer/XmlNames", name := "isRestrictedChar", desc := "(I)Z" } : Jvm.MethodName) prog_54_method_3_code (1 : Nat) (Option.some Jvm.ClassFile.FieldType.boolean), Jvm.Cond.code ({ cls := "com/example/austere_serializer/austereserializer/XmlNamesIsRestrictedCharPinLaw", name := "ref", desc := "(I)Z" } : Jvm.MethodName) method_2_code (1 : Nat) (Option.some Jvm.ClassFile.FieldType.boolean)]
set_option maxRecDepth 65536 in
theorem codes_eq : words1.filter isCode = codes1 := rfl
theorem w_codes : ∀ c ∈ words1.filter isCode, c.before args0 about1 = true := by
  rw [codes_eq]
  intro c hc
  simp only [codes1, List.mem_cons, List.not_mem_nil, or_false] at hc
  rcases hc with rfl | rfl | rfl
  · exact w_c0
  · exact w_c1
  · exact w_c2
set_option maxRecDepth 65536 in
theorem w_t1 : words1.all (fun c => isCode c || c.before args0 about1) = true := by decide +kernel
theorem w_tables : (allAtoms (Jvm.Cond.code x code maxLocals ret :: tables_1)).before args0 about1 = true := by
  rw [allAtoms_all]
  show words1.all (fun c => c.before args0 about1) = true
  refine all_split ?_ w_codes
  rw [w_t1]
set_option maxRecDepth 65536 in
theorem w_case : (Jvm.Cond.and given_1 narrow_1).before args0 about1 = true := by decide +kernel
theorem w_applies : (headSpec (Jvm.Cond.code x code maxLocals ret :: tables_1) room_1).applies x e0.platform about1 = true :=
  (Spec.applies_iff w_frames).mpr ⟨w_running, w_runnable, w_alone, w_named, w_hears, w_ripe, w_room, w_tables⟩
theorem atStart : AtStart classFile x code maxLocals ret World_1 tables_1 room_1 Calls_1 rest_1 Pre_1 launch0 p0 e0 about1 theMethod args0 below0 :=
  ⟨lists_1, trivial, launch0.admits_env _ _ _, launch0.least_env, fairChoices_fair.cas, fairChoices_fair.clock, w_frames, w_args, w_heap, w_applies, trivial, trivial, w_case⟩
end start1
theorem witness_1 : WitnessClaimed_1 := ⟨start1.p0, start1.e0, start1.about1, start1.theMethod, start1.args0, start1.below0, start1.atStart⟩
end Jvm.Pilot.@@N@@
