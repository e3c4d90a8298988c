import JvmDerived
import JvmDerived.Pilot.@@N@@Statement
import JvmDerived.Pilot.@@N@@Code
set_option linter.unusedVariables false
set_option linter.unusedSimpArgs false
namespace Jvm.Pilot.@@N@@
open Jvm Jvm.ClassFile Sem Op Lib Jvm.Free Jvm.Stand Jvm.LawKit Jvm.RoadKit Bundle Jvm.Pilot.@@N@@.Jvm.D
section Own
variable {p : Program} {l : Launch} {e : Env} {R : Room} {s : State} {m : MethodId} {args : Array Value} {below : List Frame} {meth : Method} {c : Code} {T : State} {locs : List Loc} {cells slots : Nat}
def Goes (p : Program) (e : Env) (below : List Frame) (P : State → Outcome → Prop) (A : State) : Prop :=
  ∃ s₂ o, Steps p.tables e below A s₂ ∧ s₂.status = .running ∧ Ended s₂ below o ∧ P s₂ o
theorem Goes.via {P : State → Outcome → Prop} {A B : State} (h : ∀ t, Steps p.tables e below B t → Steps p.tables e below A t) (k : Goes p e below P B) : Goes p e below P A := by
  obtain ⟨s₂, o, h1, h2⟩ := k
  exact ⟨s₂, o, h _ h1, h2⟩
theorem own_join {P : State → Outcome → Prop} {A B : State} (h : Goes p e below P B → Goes p e below P A) (k : Goes p e below P B) : Goes p e below P A := h k
theorem Goes.cast {P : State → Outcome → Prop} {g g' : JFrame} (q : g = g') (k : Goes p e below P (T.setTop g')) : Goes p e below P (T.setTop g) := q ▸ k
theorem own_out (X : Stand p l e R s m args below meth c T locs cells slots) {v : Option Value} (hv : meth.sig.returnType = none → v = none) (hlocks : meth.locks = false) {A : State} {Q : Option Value → Heap → List Loc → Prop} {kc ks : Nat}
    (st : ∀ fs, (∀ (f : JFrame) (acts : List Action), f.method = m → f.locked = none → f.entered = [] → (doReturn e (T.setTop f) acts v).1 = T.setFrames fs) → Steps p.tables e below A (T.setFrames fs))
    (hQ : Q v T.heap locs) (hc : cells ≤ kc) (hs : slots ≤ ks) : Goes p e below (fun s₂ o => ∃ v L, o = .returned v ∧ Q v s₂.heap L ∧ FrameEnd s o s₂ L kc ks) A := by
  obtain ⟨fs, hr, hrun, hended, hW, hsame⟩ := X.leave (v := v) hv hlocks
  exact ⟨_, _, st fs hr, hrun, hended, v, locs, rfl, hQ, ⟨_, rfl⟩, hW, hsame.mono hc hs⟩
end Own
theorem own_isint {v : Value} (h : fits .int v = true) : ∃ w, v = .int w := by cases v <;> first | exact ⟨_, rfl⟩ | cases h
def own_f1 (p1 : Int32) : Int32 := if p1 < (32 : Int32) then if p1 = (9 : Int32) then (1 : Int32) else if p1 = (10 : Int32) then (1 : Int32) else if p1 = (13 : Int32) then (1 : Int32) else if p1 < (57344 : Int32) then if p1 < (65536 : Int32) then (0 : Int32) else if (1114111 : Int32) < p1 then (0 : Int32) else (1 : Int32) else if (65533 : Int32) < p1 then if p1 < (65536 : Int32) then (0 : Int32) else if (1114111 : Int32) < p1 then (0 : Int32) else (1 : Int32) else (1 : Int32) else if (55295 : Int32) < p1 then if p1 = (9 : Int32) then (1 : Int32) else if p1 = (10 : Int32) then (1 : Int32) else if p1 = (13 : Int32) then (1 : Int32) else if p1 < (57344 : Int32) then if p1 < (65536 : Int32) then (0 : Int32) else if (1114111 : Int32) < p1 then (0 : Int32) else (1 : Int32) else if (65533 : Int32) < p1 then if p1 < (65536 : Int32) then (0 : Int32) else if (1114111 : Int32) < p1 then (0 : Int32) else (1 : Int32) else (1 : Int32) else (1 : Int32)
theorem d1_0 : decode prog_54_method_2_code 0 = .ok (.iload_n 0, 1) := by decide +kernel
theorem d1_1 : decode prog_54_method_2_code 1 = .ok (.bipush 32, 2) := by decide +kernel
theorem d1_3 : decode prog_54_method_2_code 3 = .ok (.if_icmp .lt 9, 3) := by decide +kernel
theorem d1_6 : decode prog_54_method_2_code 6 = .ok (.iload_n 0, 1) := by decide +kernel
theorem d1_7 : decode prog_54_method_2_code 7 = .ok (.ldc 7, 2) := by decide +kernel
theorem d1_9 : decode prog_54_method_2_code 9 = .ok (.if_icmp .le 45, 3) := by decide +kernel
theorem d1_12 : decode prog_54_method_2_code 12 = .ok (.iload_n 0, 1) := by decide +kernel
theorem d1_13 : decode prog_54_method_2_code 13 = .ok (.bipush 9, 2) := by decide +kernel
theorem d1_15 : decode prog_54_method_2_code 15 = .ok (.if_icmp .eq 39, 3) := by decide +kernel
theorem d1_18 : decode prog_54_method_2_code 18 = .ok (.iload_n 0, 1) := by decide +kernel
theorem d1_19 : decode prog_54_method_2_code 19 = .ok (.bipush 10, 2) := by decide +kernel
theorem d1_21 : decode prog_54_method_2_code 21 = .ok (.if_icmp .eq 33, 3) := by decide +kernel
theorem d1_24 : decode prog_54_method_2_code 24 = .ok (.iload_n 0, 1) := by decide +kernel
theorem d1_25 : decode prog_54_method_2_code 25 = .ok (.bipush 13, 2) := by decide +kernel
theorem d1_27 : decode prog_54_method_2_code 27 = .ok (.if_icmp .eq 27, 3) := by decide +kernel
theorem d1_30 : decode prog_54_method_2_code 30 = .ok (.iload_n 0, 1) := by decide +kernel
theorem d1_31 : decode prog_54_method_2_code 31 = .ok (.ldc 8, 2) := by decide +kernel
theorem d1_33 : decode prog_54_method_2_code 33 = .ok (.if_icmp .lt 9, 3) := by decide +kernel
theorem d1_36 : decode prog_54_method_2_code 36 = .ok (.iload_n 0, 1) := by decide +kernel
theorem d1_37 : decode prog_54_method_2_code 37 = .ok (.ldc 9, 2) := by decide +kernel
theorem d1_39 : decode prog_54_method_2_code 39 = .ok (.if_icmp .le 15, 3) := by decide +kernel
theorem d1_42 : decode prog_54_method_2_code 42 = .ok (.iload_n 0, 1) := by decide +kernel
theorem d1_43 : decode prog_54_method_2_code 43 = .ok (.ldc 10, 2) := by decide +kernel
theorem d1_45 : decode prog_54_method_2_code 45 = .ok (.if_icmp .lt 13, 3) := by decide +kernel
theorem d1_48 : decode prog_54_method_2_code 48 = .ok (.iload_n 0, 1) := by decide +kernel
theorem d1_49 : decode prog_54_method_2_code 49 = .ok (.ldc 11, 2) := by decide +kernel
theorem d1_51 : decode prog_54_method_2_code 51 = .ok (.if_icmp .gt 7, 3) := by decide +kernel
theorem d1_54 : decode prog_54_method_2_code 54 = .ok (.iconst 1, 1) := by decide +kernel
theorem d1_55 : decode prog_54_method_2_code 55 = .ok (.goto 4, 3) := by decide +kernel
theorem d1_58 : decode prog_54_method_2_code 58 = .ok (.iconst 0, 1) := by decide +kernel
theorem d1_59 : decode prog_54_method_2_code 59 = .ok (.ireturn, 1) := by decide +kernel
theorem pn_com_example_austere_serializer_austereserializer_XmlNames : plainName "com/example/austere_serializer/austereserializer/XmlNames" = true := by first | (simp [plainName, overriddenIn]; done) | decide +kernel
theorem ef_1 (m : MethodId) (x0 : Int32) : entryFrame m #[(.int x0)] 1 = mkF m 0 #[.val (.int x0)] [] := by first | (simp [entryFrame, mkF, argsToLocals, Value.category]; done) | rfl
def Q1 (Z : State) (p1 : Int32) (h0 : Heap) (n0 : Nat) (v : Option Value) (h : Heap) (L : List Loc) : Prop := v = some (.int (own_f1 p1)) ∧ Fr n0 L ∧ h = h0
set_option maxRecDepth 65536 in
set_option maxHeartbeats 40000000 in
theorem rm1 (l : Launch) (Z : State) (a0 : Array Value) (hw : ∀ d ∈ tables_1, d.before a0 Z = true) (ws : List Jvm.Cond) (p1 : Int32) (h0 : Heap) (n0 : Nat) (Z0 : n0 ≤ h0.size)  :
    MetFree l (⟨"com/example/austere_serializer/austereserializer/XmlNames", "isXmlChar", "(I)Z"⟩ : MethodName) (head1 (Jvm.Cond.code (⟨"com/example/austere_serializer/austereserializer/XmlNames", "isXmlChar", "(I)Z"⟩ : MethodName) prog_54_method_2_code 1 (some .boolean) :: ws) ({ frames := 0, cells := 0, slots := 0, locals := 0 } : Room)) (fun a U => a = #[(.int p1)] ∧ Z.Warmed39 U.vm ∧ U.heap = h0) (fun _ _ _ _ _ => True) (fun _ U o U' => ∃ v L, o = .returned v ∧ Q1 Z p1 h0 n0 v U'.heap L ∧ FrameEnd U o U' L ({ frames := 0, cells := 0, slots := 0, locals := 0 } : Room).cells ({ frames := 0, cells := 0, slots := 0, locals := 0 } : Room).slots) := by
  refine MetFree.of_bodySF (plainFor_of_name pn_com_example_austere_serializer_austereserializer_XmlNames) hisR ?_
  intro p e s m args below meth c s₁ Bd hml0 hP hK
  obtain ⟨rfl, hZ, hh⟩ := hP
  have hx := Bd.exec
  have hby := Bd.bytes
  have hml : c.maxLocals = 1 := hml0
  have hown : s.vm.findClass "com/example/austere_serializer/austereserializer/XmlNames" = some m.cls := findClass_of_methodNamed Bd.named
  have hnm := (name_of_methodNamed Bd.named Bd.method).1
  have X0 : Stand p l e ({ frames := 0, cells := 0, slots := 0, locals := 0 } : Room) s m #[(.int p1)] below meth c s₁ [] 0 0 := Stand.of_body Bd
  have e0 : s₁.heap = h0 := by rw [← hh, Bd.state]; rfl
  have N0 := Fr.nil n0
  show Goes p e below (fun s₂ o => ∃ v L, o = .returned v ∧ Q1 Z p1 h0 n0 v s₂.heap L ∧ FrameEnd s o s₂ L ({ frames := 0, cells := 0, slots := 0, locals := 0 } : Room).cells ({ frames := 0, cells := 0, slots := 0, locals := 0 } : Room).slots) (s₁.setTop (entryFrame m #[(.int p1)] 1))
  refine Goes.cast (ef_1 m p1) ?_
  refine Goes.via (B := s₁.setTop (mkF m 1 #[.val (.int p1)] [(.int p1)])) (fun t k => XS.iloadN X0.here hx rfl (hb hby d1_0) rfl k) ?_
  refine Goes.via (B := s₁.setTop (mkF m 3 #[.val (.int p1)] [(.int (32 : Int32)), (.int p1)])) (fun t k => XS.bipush X0.here hx rfl (hb hby d1_1) k) ?_
  by_cases c3_1 : p1 < (32 : Int32)
  · refine Goes.via (B := s₁.setTop (mkF m 12 #[.val (.int p1)] [])) (fun t k => XS.icmpYes X0.here hx rfl (pc0 := 3) (pc' := 12) rfl (hb hby d1_3) rfl (tlt c3_1).1 (by decide) (by decide) k) ?_
    refine Goes.via (B := s₁.setTop (mkF m 13 #[.val (.int p1)] [(.int p1)])) (fun t k => XS.iloadN X0.here hx rfl (hb hby d1_12) rfl k) ?_
    refine Goes.via (B := s₁.setTop (mkF m 15 #[.val (.int p1)] [(.int (9 : Int32)), (.int p1)])) (fun t k => XS.bipush X0.here hx rfl (hb hby d1_13) k) ?_
    by_cases c15_2 : p1 = (9 : Int32)
    · refine Goes.via (B := s₁.setTop (mkF m 54 #[.val (.int p1)] [])) (fun t k => XS.icmpYes X0.here hx rfl (pc0 := 15) (pc' := 54) rfl (hb hby d1_15) rfl (teq c15_2).1 (by decide) (by decide) k) ?_
      refine Goes.via (B := s₁.setTop (mkF m 55 #[.val (.int p1)] [(.int (1 : Int32))])) (fun t k => XS.iconst X0.here hx rfl (hb hby d1_54) k) ?_
      refine Goes.via (B := s₁.setTop (mkF m 59 #[.val (.int p1)] [(.int (1 : Int32))])) (fun t k => XS.goto X0.here hx rfl (pc0 := 55) (pc' := 59) rfl (hb hby d1_55) (by decide) (by decide) k) ?_
      have hv : own_f1 p1 = (1 : Int32) := by rw [own_f1, if_pos c3_1, if_pos c15_2]
      exact own_out X0 (v := some (.int (1 : Int32))) (fun h => by rw [Bd.returns] at h; cases h) Bd.notSynchronized (fun fs hr => retOut X0 hx Bd.returns rfl (Or.inl ⟨rfl, Or.inr (Or.inl rfl), _, rfl⟩) (hb hby d1_59) hr) ⟨by rw [hv], N0, e0⟩ (by decide) (by decide)
    · refine Goes.via (B := s₁.setTop (mkF m 18 #[.val (.int p1)] [])) (fun t k => XS.icmpNo X0.here hx rfl (hb hby d1_15) rfl (feq c15_2).1 k) ?_
      refine Goes.via (B := s₁.setTop (mkF m 19 #[.val (.int p1)] [(.int p1)])) (fun t k => XS.iloadN X0.here hx rfl (hb hby d1_18) rfl k) ?_
      refine Goes.via (B := s₁.setTop (mkF m 21 #[.val (.int p1)] [(.int (10 : Int32)), (.int p1)])) (fun t k => XS.bipush X0.here hx rfl (hb hby d1_19) k) ?_
      by_cases c21_3 : p1 = (10 : Int32)
      · refine Goes.via (B := s₁.setTop (mkF m 54 #[.val (.int p1)] [])) (fun t k => XS.icmpYes X0.here hx rfl (pc0 := 21) (pc' := 54) rfl (hb hby d1_21) rfl (teq c21_3).1 (by decide) (by decide) k) ?_
        refine Goes.via (B := s₁.setTop (mkF m 55 #[.val (.int p1)] [(.int (1 : Int32))])) (fun t k => XS.iconst X0.here hx rfl (hb hby d1_54) k) ?_
        refine Goes.via (B := s₁.setTop (mkF m 59 #[.val (.int p1)] [(.int (1 : Int32))])) (fun t k => XS.goto X0.here hx rfl (pc0 := 55) (pc' := 59) rfl (hb hby d1_55) (by decide) (by decide) k) ?_
        have hv : own_f1 p1 = (1 : Int32) := by rw [own_f1, if_pos c3_1, if_neg c15_2, if_pos c21_3]
        exact own_out X0 (v := some (.int (1 : Int32))) (fun h => by rw [Bd.returns] at h; cases h) Bd.notSynchronized (fun fs hr => retOut X0 hx Bd.returns rfl (Or.inl ⟨rfl, Or.inr (Or.inl rfl), _, rfl⟩) (hb hby d1_59) hr) ⟨by rw [hv], N0, e0⟩ (by decide) (by decide)
      · refine Goes.via (B := s₁.setTop (mkF m 24 #[.val (.int p1)] [])) (fun t k => XS.icmpNo X0.here hx rfl (hb hby d1_21) rfl (feq c21_3).1 k) ?_
        refine Goes.via (B := s₁.setTop (mkF m 25 #[.val (.int p1)] [(.int p1)])) (fun t k => XS.iloadN X0.here hx rfl (hb hby d1_24) rfl k) ?_
        refine Goes.via (B := s₁.setTop (mkF m 27 #[.val (.int p1)] [(.int (13 : Int32)), (.int p1)])) (fun t k => XS.bipush X0.here hx rfl (hb hby d1_25) k) ?_
        by_cases c27_4 : p1 = (13 : Int32)
        · refine Goes.via (B := s₁.setTop (mkF m 54 #[.val (.int p1)] [])) (fun t k => XS.icmpYes X0.here hx rfl (pc0 := 27) (pc' := 54) rfl (hb hby d1_27) rfl (teq c27_4).1 (by decide) (by decide) k) ?_
          refine Goes.via (B := s₁.setTop (mkF m 55 #[.val (.int p1)] [(.int (1 : Int32))])) (fun t k => XS.iconst X0.here hx rfl (hb hby d1_54) k) ?_
          refine Goes.via (B := s₁.setTop (mkF m 59 #[.val (.int p1)] [(.int (1 : Int32))])) (fun t k => XS.goto X0.here hx rfl (pc0 := 55) (pc' := 59) rfl (hb hby d1_55) (by decide) (by decide) k) ?_
          have hv : own_f1 p1 = (1 : Int32) := by rw [own_f1, if_pos c3_1, if_neg c15_2, if_neg c21_3, if_pos c27_4]
          exact own_out X0 (v := some (.int (1 : Int32))) (fun h => by rw [Bd.returns] at h; cases h) Bd.notSynchronized (fun fs hr => retOut X0 hx Bd.returns rfl (Or.inl ⟨rfl, Or.inr (Or.inl rfl), _, rfl⟩) (hb hby d1_59) hr) ⟨by rw [hv], N0, e0⟩ (by decide) (by decide)
        · refine Goes.via (B := s₁.setTop (mkF m 30 #[.val (.int p1)] [])) (fun t k => XS.icmpNo X0.here hx rfl (hb hby d1_27) rfl (feq c27_4).1 k) ?_
          refine Goes.via (B := s₁.setTop (mkF m 31 #[.val (.int p1)] [(.int p1)])) (fun t k => XS.iloadN X0.here hx rfl (hb hby d1_30) rfl k) ?_
          refine Goes.via (B := s₁.setTop (mkF m 33 #[.val (.int p1)] [(.int (57344 : Int32)), (.int p1)])) (fun t k => X0.ldcInt hx hown (mvT hZ (hw _ (List.mem_of_getElem? (i := 21) rfl))) (g := (mkF m 31 #[.val (.int p1)] [(.int p1)])) rfl (hb hby d1_31) _ k) ?_
          by_cases c33_5 : p1 < (57344 : Int32)
          · refine Goes.via (B := s₁.setTop (mkF m 42 #[.val (.int p1)] [])) (fun t k => XS.icmpYes X0.here hx rfl (pc0 := 33) (pc' := 42) rfl (hb hby d1_33) rfl (tlt c33_5).1 (by decide) (by decide) k) ?_
            refine Goes.via (B := s₁.setTop (mkF m 43 #[.val (.int p1)] [(.int p1)])) (fun t k => XS.iloadN X0.here hx rfl (hb hby d1_42) rfl k) ?_
            refine Goes.via (B := s₁.setTop (mkF m 45 #[.val (.int p1)] [(.int (65536 : Int32)), (.int p1)])) (fun t k => X0.ldcInt hx hown (mvT hZ (hw _ (List.mem_of_getElem? (i := 22) rfl))) (g := (mkF m 43 #[.val (.int p1)] [(.int p1)])) rfl (hb hby d1_43) _ k) ?_
            by_cases c45_6 : p1 < (65536 : Int32)
            · refine Goes.via (B := s₁.setTop (mkF m 58 #[.val (.int p1)] [])) (fun t k => XS.icmpYes X0.here hx rfl (pc0 := 45) (pc' := 58) rfl (hb hby d1_45) rfl (tlt c45_6).1 (by decide) (by decide) k) ?_
              refine Goes.via (B := s₁.setTop (mkF m 59 #[.val (.int p1)] [(.int (0 : Int32))])) (fun t k => XS.iconst X0.here hx rfl (hb hby d1_58) k) ?_
              have hv : own_f1 p1 = (0 : Int32) := by rw [own_f1, if_pos c3_1, if_neg c15_2, if_neg c21_3, if_neg c27_4, if_pos c33_5, if_pos c45_6]
              exact own_out X0 (v := some (.int (0 : Int32))) (fun h => by rw [Bd.returns] at h; cases h) Bd.notSynchronized (fun fs hr => retOut X0 hx Bd.returns rfl (Or.inl ⟨rfl, Or.inr (Or.inl rfl), _, rfl⟩) (hb hby d1_59) hr) ⟨by rw [hv], N0, e0⟩ (by decide) (by decide)
            · refine Goes.via (B := s₁.setTop (mkF m 48 #[.val (.int p1)] [])) (fun t k => XS.icmpNo X0.here hx rfl (hb hby d1_45) rfl (flt c45_6).1 k) ?_
              refine Goes.via (B := s₁.setTop (mkF m 49 #[.val (.int p1)] [(.int p1)])) (fun t k => XS.iloadN X0.here hx rfl (hb hby d1_48) rfl k) ?_
              refine Goes.via (B := s₁.setTop (mkF m 51 #[.val (.int p1)] [(.int (1114111 : Int32)), (.int p1)])) (fun t k => X0.ldcInt hx hown (mvT hZ (hw _ (List.mem_of_getElem? (i := 25) rfl))) (g := (mkF m 49 #[.val (.int p1)] [(.int p1)])) rfl (hb hby d1_49) _ k) ?_
              by_cases c51_7 : (1114111 : Int32) < p1
              · refine Goes.via (B := s₁.setTop (mkF m 58 #[.val (.int p1)] [])) (fun t k => XS.icmpYes X0.here hx rfl (pc0 := 51) (pc' := 58) rfl (hb hby d1_51) rfl (tlt c51_7).2.2.1 (by decide) (by decide) k) ?_
                refine Goes.via (B := s₁.setTop (mkF m 59 #[.val (.int p1)] [(.int (0 : Int32))])) (fun t k => XS.iconst X0.here hx rfl (hb hby d1_58) k) ?_
                have hv : own_f1 p1 = (0 : Int32) := by rw [own_f1, if_pos c3_1, if_neg c15_2, if_neg c21_3, if_neg c27_4, if_pos c33_5, if_neg c45_6, if_pos c51_7]
                exact own_out X0 (v := some (.int (0 : Int32))) (fun h => by rw [Bd.returns] at h; cases h) Bd.notSynchronized (fun fs hr => retOut X0 hx Bd.returns rfl (Or.inl ⟨rfl, Or.inr (Or.inl rfl), _, rfl⟩) (hb hby d1_59) hr) ⟨by rw [hv], N0, e0⟩ (by decide) (by decide)
              · refine Goes.via (B := s₁.setTop (mkF m 54 #[.val (.int p1)] [])) (fun t k => XS.icmpNo X0.here hx rfl (hb hby d1_51) rfl (flt c51_7).2.2.1 k) ?_
                refine Goes.via (B := s₁.setTop (mkF m 55 #[.val (.int p1)] [(.int (1 : Int32))])) (fun t k => XS.iconst X0.here hx rfl (hb hby d1_54) k) ?_
                refine Goes.via (B := s₁.setTop (mkF m 59 #[.val (.int p1)] [(.int (1 : Int32))])) (fun t k => XS.goto X0.here hx rfl (pc0 := 55) (pc' := 59) rfl (hb hby d1_55) (by decide) (by decide) k) ?_
                have hv : own_f1 p1 = (1 : Int32) := by rw [own_f1, if_pos c3_1, if_neg c15_2, if_neg c21_3, if_neg c27_4, if_pos c33_5, if_neg c45_6, if_neg c51_7]
                exact own_out X0 (v := some (.int (1 : Int32))) (fun h => by rw [Bd.returns] at h; cases h) Bd.notSynchronized (fun fs hr => retOut X0 hx Bd.returns rfl (Or.inl ⟨rfl, Or.inr (Or.inl rfl), _, rfl⟩) (hb hby d1_59) hr) ⟨by rw [hv], N0, e0⟩ (by decide) (by decide)
          · refine Goes.via (B := s₁.setTop (mkF m 36 #[.val (.int p1)] [])) (fun t k => XS.icmpNo X0.here hx rfl (hb hby d1_33) rfl (flt c33_5).1 k) ?_
            refine Goes.via (B := s₁.setTop (mkF m 37 #[.val (.int p1)] [(.int p1)])) (fun t k => XS.iloadN X0.here hx rfl (hb hby d1_36) rfl k) ?_
            refine Goes.via (B := s₁.setTop (mkF m 39 #[.val (.int p1)] [(.int (65533 : Int32)), (.int p1)])) (fun t k => X0.ldcInt hx hown (mvT hZ (hw _ (List.mem_of_getElem? (i := 24) rfl))) (g := (mkF m 37 #[.val (.int p1)] [(.int p1)])) rfl (hb hby d1_37) _ k) ?_
            by_cases c39_8 : (65533 : Int32) < p1
            · refine Goes.via (B := s₁.setTop (mkF m 42 #[.val (.int p1)] [])) (fun t k => XS.icmpNo X0.here hx rfl (hb hby d1_39) rfl (tlt c39_8).2.2.2 k) ?_
              refine Goes.via (B := s₁.setTop (mkF m 43 #[.val (.int p1)] [(.int p1)])) (fun t k => XS.iloadN X0.here hx rfl (hb hby d1_42) rfl k) ?_
              refine Goes.via (B := s₁.setTop (mkF m 45 #[.val (.int p1)] [(.int (65536 : Int32)), (.int p1)])) (fun t k => X0.ldcInt hx hown (mvT hZ (hw _ (List.mem_of_getElem? (i := 22) rfl))) (g := (mkF m 43 #[.val (.int p1)] [(.int p1)])) rfl (hb hby d1_43) _ k) ?_
              by_cases c45_9 : p1 < (65536 : Int32)
              · refine Goes.via (B := s₁.setTop (mkF m 58 #[.val (.int p1)] [])) (fun t k => XS.icmpYes X0.here hx rfl (pc0 := 45) (pc' := 58) rfl (hb hby d1_45) rfl (tlt c45_9).1 (by decide) (by decide) k) ?_
                refine Goes.via (B := s₁.setTop (mkF m 59 #[.val (.int p1)] [(.int (0 : Int32))])) (fun t k => XS.iconst X0.here hx rfl (hb hby d1_58) k) ?_
                have hv : own_f1 p1 = (0 : Int32) := by rw [own_f1, if_pos c3_1, if_neg c15_2, if_neg c21_3, if_neg c27_4, if_neg c33_5, if_pos c39_8, if_pos c45_9]
                exact own_out X0 (v := some (.int (0 : Int32))) (fun h => by rw [Bd.returns] at h; cases h) Bd.notSynchronized (fun fs hr => retOut X0 hx Bd.returns rfl (Or.inl ⟨rfl, Or.inr (Or.inl rfl), _, rfl⟩) (hb hby d1_59) hr) ⟨by rw [hv], N0, e0⟩ (by decide) (by decide)
              · refine Goes.via (B := s₁.setTop (mkF m 48 #[.val (.int p1)] [])) (fun t k => XS.icmpNo X0.here hx rfl (hb hby d1_45) rfl (flt c45_9).1 k) ?_
                refine Goes.via (B := s₁.setTop (mkF m 49 #[.val (.int p1)] [(.int p1)])) (fun t k => XS.iloadN X0.here hx rfl (hb hby d1_48) rfl k) ?_
                refine Goes.via (B := s₁.setTop (mkF m 51 #[.val (.int p1)] [(.int (1114111 : Int32)), (.int p1)])) (fun t k => X0.ldcInt hx hown (mvT hZ (hw _ (List.mem_of_getElem? (i := 25) rfl))) (g := (mkF m 49 #[.val (.int p1)] [(.int p1)])) rfl (hb hby d1_49) _ k) ?_
                by_cases c51_10 : (1114111 : Int32) < p1
                · refine Goes.via (B := s₁.setTop (mkF m 58 #[.val (.int p1)] [])) (fun t k => XS.icmpYes X0.here hx rfl (pc0 := 51) (pc' := 58) rfl (hb hby d1_51) rfl (tlt c51_10).2.2.1 (by decide) (by decide) k) ?_
                  refine Goes.via (B := s₁.setTop (mkF m 59 #[.val (.int p1)] [(.int (0 : Int32))])) (fun t k => XS.iconst X0.here hx rfl (hb hby d1_58) k) ?_
                  have hv : own_f1 p1 = (0 : Int32) := by rw [own_f1, if_pos c3_1, if_neg c15_2, if_neg c21_3, if_neg c27_4, if_neg c33_5, if_pos c39_8, if_neg c45_9, if_pos c51_10]
                  exact own_out X0 (v := some (.int (0 : Int32))) (fun h => by rw [Bd.returns] at h; cases h) Bd.notSynchronized (fun fs hr => retOut X0 hx Bd.returns rfl (Or.inl ⟨rfl, Or.inr (Or.inl rfl), _, rfl⟩) (hb hby d1_59) hr) ⟨by rw [hv], N0, e0⟩ (by decide) (by decide)
                · refine Goes.via (B := s₁.setTop (mkF m 54 #[.val (.int p1)] [])) (fun t k => XS.icmpNo X0.here hx rfl (hb hby d1_51) rfl (flt c51_10).2.2.1 k) ?_
                  refine Goes.via (B := s₁.setTop (mkF m 55 #[.val (.int p1)] [(.int (1 : Int32))])) (fun t k => XS.iconst X0.here hx rfl (hb hby d1_54) k) ?_
                  refine Goes.via (B := s₁.setTop (mkF m 59 #[.val (.int p1)] [(.int (1 : Int32))])) (fun t k => XS.goto X0.here hx rfl (pc0 := 55) (pc' := 59) rfl (hb hby d1_55) (by decide) (by decide) k) ?_
                  have hv : own_f1 p1 = (1 : Int32) := by rw [own_f1, if_pos c3_1, if_neg c15_2, if_neg c21_3, if_neg c27_4, if_neg c33_5, if_pos c39_8, if_neg c45_9, if_neg c51_10]
                  exact own_out X0 (v := some (.int (1 : Int32))) (fun h => by rw [Bd.returns] at h; cases h) Bd.notSynchronized (fun fs hr => retOut X0 hx Bd.returns rfl (Or.inl ⟨rfl, Or.inr (Or.inl rfl), _, rfl⟩) (hb hby d1_59) hr) ⟨by rw [hv], N0, e0⟩ (by decide) (by decide)
            · refine Goes.via (B := s₁.setTop (mkF m 54 #[.val (.int p1)] [])) (fun t k => XS.icmpYes X0.here hx rfl (pc0 := 39) (pc' := 54) rfl (hb hby d1_39) rfl (flt c39_8).2.2.2 (by decide) (by decide) k) ?_
              refine Goes.via (B := s₁.setTop (mkF m 55 #[.val (.int p1)] [(.int (1 : Int32))])) (fun t k => XS.iconst X0.here hx rfl (hb hby d1_54) k) ?_
              refine Goes.via (B := s₁.setTop (mkF m 59 #[.val (.int p1)] [(.int (1 : Int32))])) (fun t k => XS.goto X0.here hx rfl (pc0 := 55) (pc' := 59) rfl (hb hby d1_55) (by decide) (by decide) k) ?_
              have hv : own_f1 p1 = (1 : Int32) := by rw [own_f1, if_pos c3_1, if_neg c15_2, if_neg c21_3, if_neg c27_4, if_neg c33_5, if_neg c39_8]
              exact own_out X0 (v := some (.int (1 : Int32))) (fun h => by rw [Bd.returns] at h; cases h) Bd.notSynchronized (fun fs hr => retOut X0 hx Bd.returns rfl (Or.inl ⟨rfl, Or.inr (Or.inl rfl), _, rfl⟩) (hb hby d1_59) hr) ⟨by rw [hv], N0, e0⟩ (by decide) (by decide)
  · refine Goes.via (B := s₁.setTop (mkF m 6 #[.val (.int p1)] [])) (fun t k => XS.icmpNo X0.here hx rfl (hb hby d1_3) rfl (flt c3_1).1 k) ?_
    refine Goes.via (B := s₁.setTop (mkF m 7 #[.val (.int p1)] [(.int p1)])) (fun t k => XS.iloadN X0.here hx rfl (hb hby d1_6) rfl k) ?_
    refine Goes.via (B := s₁.setTop (mkF m 9 #[.val (.int p1)] [(.int (55295 : Int32)), (.int p1)])) (fun t k => X0.ldcInt hx hown (mvT hZ (hw _ (List.mem_of_getElem? (i := 23) rfl))) (g := (mkF m 7 #[.val (.int p1)] [(.int p1)])) rfl (hb hby d1_7) _ k) ?_
    by_cases c9_11 : (55295 : Int32) < p1
    · refine Goes.via (B := s₁.setTop (mkF m 12 #[.val (.int p1)] [])) (fun t k => XS.icmpNo X0.here hx rfl (hb hby d1_9) rfl (tlt c9_11).2.2.2 k) ?_
      refine Goes.via (B := s₁.setTop (mkF m 13 #[.val (.int p1)] [(.int p1)])) (fun t k => XS.iloadN X0.here hx rfl (hb hby d1_12) rfl k) ?_
      refine Goes.via (B := s₁.setTop (mkF m 15 #[.val (.int p1)] [(.int (9 : Int32)), (.int p1)])) (fun t k => XS.bipush X0.here hx rfl (hb hby d1_13) k) ?_
      by_cases c15_12 : p1 = (9 : Int32)
      · refine Goes.via (B := s₁.setTop (mkF m 54 #[.val (.int p1)] [])) (fun t k => XS.icmpYes X0.here hx rfl (pc0 := 15) (pc' := 54) rfl (hb hby d1_15) rfl (teq c15_12).1 (by decide) (by decide) k) ?_
        refine Goes.via (B := s₁.setTop (mkF m 55 #[.val (.int p1)] [(.int (1 : Int32))])) (fun t k => XS.iconst X0.here hx rfl (hb hby d1_54) k) ?_
        refine Goes.via (B := s₁.setTop (mkF m 59 #[.val (.int p1)] [(.int (1 : Int32))])) (fun t k => XS.goto X0.here hx rfl (pc0 := 55) (pc' := 59) rfl (hb hby d1_55) (by decide) (by decide) k) ?_
        have hv : own_f1 p1 = (1 : Int32) := by rw [own_f1, if_neg c3_1, if_pos c9_11, if_pos c15_12]
        exact own_out X0 (v := some (.int (1 : Int32))) (fun h => by rw [Bd.returns] at h; cases h) Bd.notSynchronized (fun fs hr => retOut X0 hx Bd.returns rfl (Or.inl ⟨rfl, Or.inr (Or.inl rfl), _, rfl⟩) (hb hby d1_59) hr) ⟨by rw [hv], N0, e0⟩ (by decide) (by decide)
      · refine Goes.via (B := s₁.setTop (mkF m 18 #[.val (.int p1)] [])) (fun t k => XS.icmpNo X0.here hx rfl (hb hby d1_15) rfl (feq c15_12).1 k) ?_
        refine Goes.via (B := s₁.setTop (mkF m 19 #[.val (.int p1)] [(.int p1)])) (fun t k => XS.iloadN X0.here hx rfl (hb hby d1_18) rfl k) ?_
        refine Goes.via (B := s₁.setTop (mkF m 21 #[.val (.int p1)] [(.int (10 : Int32)), (.int p1)])) (fun t k => XS.bipush X0.here hx rfl (hb hby d1_19) k) ?_
        by_cases c21_13 : p1 = (10 : Int32)
        · refine Goes.via (B := s₁.setTop (mkF m 54 #[.val (.int p1)] [])) (fun t k => XS.icmpYes X0.here hx rfl (pc0 := 21) (pc' := 54) rfl (hb hby d1_21) rfl (teq c21_13).1 (by decide) (by decide) k) ?_
          refine Goes.via (B := s₁.setTop (mkF m 55 #[.val (.int p1)] [(.int (1 : Int32))])) (fun t k => XS.iconst X0.here hx rfl (hb hby d1_54) k) ?_
          refine Goes.via (B := s₁.setTop (mkF m 59 #[.val (.int p1)] [(.int (1 : Int32))])) (fun t k => XS.goto X0.here hx rfl (pc0 := 55) (pc' := 59) rfl (hb hby d1_55) (by decide) (by decide) k) ?_
          have hv : own_f1 p1 = (1 : Int32) := by rw [own_f1, if_neg c3_1, if_pos c9_11, if_neg c15_12, if_pos c21_13]
          exact own_out X0 (v := some (.int (1 : Int32))) (fun h => by rw [Bd.returns] at h; cases h) Bd.notSynchronized (fun fs hr => retOut X0 hx Bd.returns rfl (Or.inl ⟨rfl, Or.inr (Or.inl rfl), _, rfl⟩) (hb hby d1_59) hr) ⟨by rw [hv], N0, e0⟩ (by decide) (by decide)
        · refine Goes.via (B := s₁.setTop (mkF m 24 #[.val (.int p1)] [])) (fun t k => XS.icmpNo X0.here hx rfl (hb hby d1_21) rfl (feq c21_13).1 k) ?_
          refine Goes.via (B := s₁.setTop (mkF m 25 #[.val (.int p1)] [(.int p1)])) (fun t k => XS.iloadN X0.here hx rfl (hb hby d1_24) rfl k) ?_
          refine Goes.via (B := s₁.setTop (mkF m 27 #[.val (.int p1)] [(.int (13 : Int32)), (.int p1)])) (fun t k => XS.bipush X0.here hx rfl (hb hby d1_25) k) ?_
          by_cases c27_14 : p1 = (13 : Int32)
          · refine Goes.via (B := s₁.setTop (mkF m 54 #[.val (.int p1)] [])) (fun t k => XS.icmpYes X0.here hx rfl (pc0 := 27) (pc' := 54) rfl (hb hby d1_27) rfl (teq c27_14).1 (by decide) (by decide) k) ?_
            refine Goes.via (B := s₁.setTop (mkF m 55 #[.val (.int p1)] [(.int (1 : Int32))])) (fun t k => XS.iconst X0.here hx rfl (hb hby d1_54) k) ?_
            refine Goes.via (B := s₁.setTop (mkF m 59 #[.val (.int p1)] [(.int (1 : Int32))])) (fun t k => XS.goto X0.here hx rfl (pc0 := 55) (pc' := 59) rfl (hb hby d1_55) (by decide) (by decide) k) ?_
            have hv : own_f1 p1 = (1 : Int32) := by rw [own_f1, if_neg c3_1, if_pos c9_11, if_neg c15_12, if_neg c21_13, if_pos c27_14]
            exact own_out X0 (v := some (.int (1 : Int32))) (fun h => by rw [Bd.returns] at h; cases h) Bd.notSynchronized (fun fs hr => retOut X0 hx Bd.returns rfl (Or.inl ⟨rfl, Or.inr (Or.inl rfl), _, rfl⟩) (hb hby d1_59) hr) ⟨by rw [hv], N0, e0⟩ (by decide) (by decide)
          · refine Goes.via (B := s₁.setTop (mkF m 30 #[.val (.int p1)] [])) (fun t k => XS.icmpNo X0.here hx rfl (hb hby d1_27) rfl (feq c27_14).1 k) ?_
            refine Goes.via (B := s₁.setTop (mkF m 31 #[.val (.int p1)] [(.int p1)])) (fun t k => XS.iloadN X0.here hx rfl (hb hby d1_30) rfl k) ?_
            refine Goes.via (B := s₁.setTop (mkF m 33 #[.val (.int p1)] [(.int (57344 : Int32)), (.int p1)])) (fun t k => X0.ldcInt hx hown (mvT hZ (hw _ (List.mem_of_getElem? (i := 21) rfl))) (g := (mkF m 31 #[.val (.int p1)] [(.int p1)])) rfl (hb hby d1_31) _ k) ?_
            by_cases c33_15 : p1 < (57344 : Int32)
            · refine Goes.via (B := s₁.setTop (mkF m 42 #[.val (.int p1)] [])) (fun t k => XS.icmpYes X0.here hx rfl (pc0 := 33) (pc' := 42) rfl (hb hby d1_33) rfl (tlt c33_15).1 (by decide) (by decide) k) ?_
              refine Goes.via (B := s₁.setTop (mkF m 43 #[.val (.int p1)] [(.int p1)])) (fun t k => XS.iloadN X0.here hx rfl (hb hby d1_42) rfl k) ?_
              refine Goes.via (B := s₁.setTop (mkF m 45 #[.val (.int p1)] [(.int (65536 : Int32)), (.int p1)])) (fun t k => X0.ldcInt hx hown (mvT hZ (hw _ (List.mem_of_getElem? (i := 22) rfl))) (g := (mkF m 43 #[.val (.int p1)] [(.int p1)])) rfl (hb hby d1_43) _ k) ?_
              by_cases c45_16 : p1 < (65536 : Int32)
              · refine Goes.via (B := s₁.setTop (mkF m 58 #[.val (.int p1)] [])) (fun t k => XS.icmpYes X0.here hx rfl (pc0 := 45) (pc' := 58) rfl (hb hby d1_45) rfl (tlt c45_16).1 (by decide) (by decide) k) ?_
                refine Goes.via (B := s₁.setTop (mkF m 59 #[.val (.int p1)] [(.int (0 : Int32))])) (fun t k => XS.iconst X0.here hx rfl (hb hby d1_58) k) ?_
                have hv : own_f1 p1 = (0 : Int32) := by rw [own_f1, if_neg c3_1, if_pos c9_11, if_neg c15_12, if_neg c21_13, if_neg c27_14, if_pos c33_15, if_pos c45_16]
                exact own_out X0 (v := some (.int (0 : Int32))) (fun h => by rw [Bd.returns] at h; cases h) Bd.notSynchronized (fun fs hr => retOut X0 hx Bd.returns rfl (Or.inl ⟨rfl, Or.inr (Or.inl rfl), _, rfl⟩) (hb hby d1_59) hr) ⟨by rw [hv], N0, e0⟩ (by decide) (by decide)
              · refine Goes.via (B := s₁.setTop (mkF m 48 #[.val (.int p1)] [])) (fun t k => XS.icmpNo X0.here hx rfl (hb hby d1_45) rfl (flt c45_16).1 k) ?_
                refine Goes.via (B := s₁.setTop (mkF m 49 #[.val (.int p1)] [(.int p1)])) (fun t k => XS.iloadN X0.here hx rfl (hb hby d1_48) rfl k) ?_
                refine Goes.via (B := s₁.setTop (mkF m 51 #[.val (.int p1)] [(.int (1114111 : Int32)), (.int p1)])) (fun t k => X0.ldcInt hx hown (mvT hZ (hw _ (List.mem_of_getElem? (i := 25) rfl))) (g := (mkF m 49 #[.val (.int p1)] [(.int p1)])) rfl (hb hby d1_49) _ k) ?_
                by_cases c51_17 : (1114111 : Int32) < p1
                · refine Goes.via (B := s₁.setTop (mkF m 58 #[.val (.int p1)] [])) (fun t k => XS.icmpYes X0.here hx rfl (pc0 := 51) (pc' := 58) rfl (hb hby d1_51) rfl (tlt c51_17).2.2.1 (by decide) (by decide) k) ?_
                  refine Goes.via (B := s₁.setTop (mkF m 59 #[.val (.int p1)] [(.int (0 : Int32))])) (fun t k => XS.iconst X0.here hx rfl (hb hby d1_58) k) ?_
                  have hv : own_f1 p1 = (0 : Int32) := by rw [own_f1, if_neg c3_1, if_pos c9_11, if_neg c15_12, if_neg c21_13, if_neg c27_14, if_pos c33_15, if_neg c45_16, if_pos c51_17]
                  exact own_out X0 (v := some (.int (0 : Int32))) (fun h => by rw [Bd.returns] at h; cases h) Bd.notSynchronized (fun fs hr => retOut X0 hx Bd.returns rfl (Or.inl ⟨rfl, Or.inr (Or.inl rfl), _, rfl⟩) (hb hby d1_59) hr) ⟨by rw [hv], N0, e0⟩ (by decide) (by decide)
                · refine Goes.via (B := s₁.setTop (mkF m 54 #[.val (.int p1)] [])) (fun t k => XS.icmpNo X0.here hx rfl (hb hby d1_51) rfl (flt c51_17).2.2.1 k) ?_
                  refine Goes.via (B := s₁.setTop (mkF m 55 #[.val (.int p1)] [(.int (1 : Int32))])) (fun t k => XS.iconst X0.here hx rfl (hb hby d1_54) k) ?_
                  refine Goes.via (B := s₁.setTop (mkF m 59 #[.val (.int p1)] [(.int (1 : Int32))])) (fun t k => XS.goto X0.here hx rfl (pc0 := 55) (pc' := 59) rfl (hb hby d1_55) (by decide) (by decide) k) ?_
                  have hv : own_f1 p1 = (1 : Int32) := by rw [own_f1, if_neg c3_1, if_pos c9_11, if_neg c15_12, if_neg c21_13, if_neg c27_14, if_pos c33_15, if_neg c45_16, if_neg c51_17]
                  exact own_out X0 (v := some (.int (1 : Int32))) (fun h => by rw [Bd.returns] at h; cases h) Bd.notSynchronized (fun fs hr => retOut X0 hx Bd.returns rfl (Or.inl ⟨rfl, Or.inr (Or.inl rfl), _, rfl⟩) (hb hby d1_59) hr) ⟨by rw [hv], N0, e0⟩ (by decide) (by decide)
            · refine Goes.via (B := s₁.setTop (mkF m 36 #[.val (.int p1)] [])) (fun t k => XS.icmpNo X0.here hx rfl (hb hby d1_33) rfl (flt c33_15).1 k) ?_
              refine Goes.via (B := s₁.setTop (mkF m 37 #[.val (.int p1)] [(.int p1)])) (fun t k => XS.iloadN X0.here hx rfl (hb hby d1_36) rfl k) ?_
              refine Goes.via (B := s₁.setTop (mkF m 39 #[.val (.int p1)] [(.int (65533 : Int32)), (.int p1)])) (fun t k => X0.ldcInt hx hown (mvT hZ (hw _ (List.mem_of_getElem? (i := 24) rfl))) (g := (mkF m 37 #[.val (.int p1)] [(.int p1)])) rfl (hb hby d1_37) _ k) ?_
              by_cases c39_18 : (65533 : Int32) < p1
              · refine Goes.via (B := s₁.setTop (mkF m 42 #[.val (.int p1)] [])) (fun t k => XS.icmpNo X0.here hx rfl (hb hby d1_39) rfl (tlt c39_18).2.2.2 k) ?_
                refine Goes.via (B := s₁.setTop (mkF m 43 #[.val (.int p1)] [(.int p1)])) (fun t k => XS.iloadN X0.here hx rfl (hb hby d1_42) rfl k) ?_
                refine Goes.via (B := s₁.setTop (mkF m 45 #[.val (.int p1)] [(.int (65536 : Int32)), (.int p1)])) (fun t k => X0.ldcInt hx hown (mvT hZ (hw _ (List.mem_of_getElem? (i := 22) rfl))) (g := (mkF m 43 #[.val (.int p1)] [(.int p1)])) rfl (hb hby d1_43) _ k) ?_
                by_cases c45_19 : p1 < (65536 : Int32)
                · refine Goes.via (B := s₁.setTop (mkF m 58 #[.val (.int p1)] [])) (fun t k => XS.icmpYes X0.here hx rfl (pc0 := 45) (pc' := 58) rfl (hb hby d1_45) rfl (tlt c45_19).1 (by decide) (by decide) k) ?_
                  refine Goes.via (B := s₁.setTop (mkF m 59 #[.val (.int p1)] [(.int (0 : Int32))])) (fun t k => XS.iconst X0.here hx rfl (hb hby d1_58) k) ?_
                  have hv : own_f1 p1 = (0 : Int32) := by rw [own_f1, if_neg c3_1, if_pos c9_11, if_neg c15_12, if_neg c21_13, if_neg c27_14, if_neg c33_15, if_pos c39_18, if_pos c45_19]
                  exact own_out X0 (v := some (.int (0 : Int32))) (fun h => by rw [Bd.returns] at h; cases h) Bd.notSynchronized (fun fs hr => retOut X0 hx Bd.returns rfl (Or.inl ⟨rfl, Or.inr (Or.inl rfl), _, rfl⟩) (hb hby d1_59) hr) ⟨by rw [hv], N0, e0⟩ (by decide) (by decide)
                · refine Goes.via (B := s₁.setTop (mkF m 48 #[.val (.int p1)] [])) (fun t k => XS.icmpNo X0.here hx rfl (hb hby d1_45) rfl (flt c45_19).1 k) ?_
                  refine Goes.via (B := s₁.setTop (mkF m 49 #[.val (.int p1)] [(.int p1)])) (fun t k => XS.iloadN X0.here hx rfl (hb hby d1_48) rfl k) ?_
                  refine Goes.via (B := s₁.setTop (mkF m 51 #[.val (.int p1)] [(.int (1114111 : Int32)), (.int p1)])) (fun t k => X0.ldcInt hx hown (mvT hZ (hw _ (List.mem_of_getElem? (i := 25) rfl))) (g := (mkF m 49 #[.val (.int p1)] [(.int p1)])) rfl (hb hby d1_49) _ k) ?_
                  by_cases c51_20 : (1114111 : Int32) < p1
                  · refine Goes.via (B := s₁.setTop (mkF m 58 #[.val (.int p1)] [])) (fun t k => XS.icmpYes X0.here hx rfl (pc0 := 51) (pc' := 58) rfl (hb hby d1_51) rfl (tlt c51_20).2.2.1 (by decide) (by decide) k) ?_
                    refine Goes.via (B := s₁.setTop (mkF m 59 #[.val (.int p1)] [(.int (0 : Int32))])) (fun t k => XS.iconst X0.here hx rfl (hb hby d1_58) k) ?_
                    have hv : own_f1 p1 = (0 : Int32) := by rw [own_f1, if_neg c3_1, if_pos c9_11, if_neg c15_12, if_neg c21_13, if_neg c27_14, if_neg c33_15, if_pos c39_18, if_neg c45_19, if_pos c51_20]
                    exact own_out X0 (v := some (.int (0 : Int32))) (fun h => by rw [Bd.returns] at h; cases h) Bd.notSynchronized (fun fs hr => retOut X0 hx Bd.returns rfl (Or.inl ⟨rfl, Or.inr (Or.inl rfl), _, rfl⟩) (hb hby d1_59) hr) ⟨by rw [hv], N0, e0⟩ (by decide) (by decide)
                  · refine Goes.via (B := s₁.setTop (mkF m 54 #[.val (.int p1)] [])) (fun t k => XS.icmpNo X0.here hx rfl (hb hby d1_51) rfl (flt c51_20).2.2.1 k) ?_
                    refine Goes.via (B := s₁.setTop (mkF m 55 #[.val (.int p1)] [(.int (1 : Int32))])) (fun t k => XS.iconst X0.here hx rfl (hb hby d1_54) k) ?_
                    refine Goes.via (B := s₁.setTop (mkF m 59 #[.val (.int p1)] [(.int (1 : Int32))])) (fun t k => XS.goto X0.here hx rfl (pc0 := 55) (pc' := 59) rfl (hb hby d1_55) (by decide) (by decide) k) ?_
                    have hv : own_f1 p1 = (1 : Int32) := by rw [own_f1, if_neg c3_1, if_pos c9_11, if_neg c15_12, if_neg c21_13, if_neg c27_14, if_neg c33_15, if_pos c39_18, if_neg c45_19, if_neg c51_20]
                    exact own_out X0 (v := some (.int (1 : Int32))) (fun h => by rw [Bd.returns] at h; cases h) Bd.notSynchronized (fun fs hr => retOut X0 hx Bd.returns rfl (Or.inl ⟨rfl, Or.inr (Or.inl rfl), _, rfl⟩) (hb hby d1_59) hr) ⟨by rw [hv], N0, e0⟩ (by decide) (by decide)
              · refine Goes.via (B := s₁.setTop (mkF m 54 #[.val (.int p1)] [])) (fun t k => XS.icmpYes X0.here hx rfl (pc0 := 39) (pc' := 54) rfl (hb hby d1_39) rfl (flt c39_18).2.2.2 (by decide) (by decide) k) ?_
                refine Goes.via (B := s₁.setTop (mkF m 55 #[.val (.int p1)] [(.int (1 : Int32))])) (fun t k => XS.iconst X0.here hx rfl (hb hby d1_54) k) ?_
                refine Goes.via (B := s₁.setTop (mkF m 59 #[.val (.int p1)] [(.int (1 : Int32))])) (fun t k => XS.goto X0.here hx rfl (pc0 := 55) (pc' := 59) rfl (hb hby d1_55) (by decide) (by decide) k) ?_
                have hv : own_f1 p1 = (1 : Int32) := by rw [own_f1, if_neg c3_1, if_pos c9_11, if_neg c15_12, if_neg c21_13, if_neg c27_14, if_neg c33_15, if_neg c39_18]
                exact own_out X0 (v := some (.int (1 : Int32))) (fun h => by rw [Bd.returns] at h; cases h) Bd.notSynchronized (fun fs hr => retOut X0 hx Bd.returns rfl (Or.inl ⟨rfl, Or.inr (Or.inl rfl), _, rfl⟩) (hb hby d1_59) hr) ⟨by rw [hv], N0, e0⟩ (by decide) (by decide)
    · refine Goes.via (B := s₁.setTop (mkF m 54 #[.val (.int p1)] [])) (fun t k => XS.icmpYes X0.here hx rfl (pc0 := 9) (pc' := 54) rfl (hb hby d1_9) rfl (flt c9_11).2.2.2 (by decide) (by decide) k) ?_
      refine Goes.via (B := s₁.setTop (mkF m 55 #[.val (.int p1)] [(.int (1 : Int32))])) (fun t k => XS.iconst X0.here hx rfl (hb hby d1_54) k) ?_
      refine Goes.via (B := s₁.setTop (mkF m 59 #[.val (.int p1)] [(.int (1 : Int32))])) (fun t k => XS.goto X0.here hx rfl (pc0 := 55) (pc' := 59) rfl (hb hby d1_55) (by decide) (by decide) k) ?_
      have hv : own_f1 p1 = (1 : Int32) := by rw [own_f1, if_neg c3_1, if_neg c9_11]
      exact own_out X0 (v := some (.int (1 : Int32))) (fun h => by rw [Bd.returns] at h; cases h) Bd.notSynchronized (fun fs hr => retOut X0 hx Bd.returns rfl (Or.inl ⟨rfl, Or.inr (Or.inl rfl), _, rfl⟩) (hb hby d1_59) hr) ⟨by rw [hv], N0, e0⟩ (by decide) (by decide)
def own_f2 (p1 : Int32) : Int32 := if p1 < (0 : Int32) then (1 : Int32) else if p1 < (32 : Int32) then if p1 = (9 : Int32) then (0 : Int32) else if p1 = (10 : Int32) then (0 : Int32) else if p1 = (13 : Int32) then (0 : Int32) else (1 : Int32) else if p1 < (55296 : Int32) then if p1 = (65534 : Int32) then (1 : Int32) else if p1 = (65535 : Int32) then (1 : Int32) else if (1114111 : Int32) < p1 then (1 : Int32) else (0 : Int32) else if (57343 : Int32) < p1 then if p1 = (65534 : Int32) then (1 : Int32) else if p1 = (65535 : Int32) then (1 : Int32) else if (1114111 : Int32) < p1 then (1 : Int32) else (0 : Int32) else (1 : Int32)
theorem d2_0 : decode method_2_code 0 = .ok (.iload_n 0, 1) := by decide +kernel
theorem d2_1 : decode method_2_code 1 = .ok (.ifCond .ge 5, 3) := by decide +kernel
theorem d2_4 : decode method_2_code 4 = .ok (.iconst 1, 1) := by decide +kernel
theorem d2_5 : decode method_2_code 5 = .ok (.ireturn, 1) := by decide +kernel
theorem d2_6 : decode method_2_code 6 = .ok (.iload_n 0, 1) := by decide +kernel
theorem d2_7 : decode method_2_code 7 = .ok (.bipush 32, 2) := by decide +kernel
theorem d2_9 : decode method_2_code 9 = .ok (.if_icmp .ge 27, 3) := by decide +kernel
theorem d2_12 : decode method_2_code 12 = .ok (.iload_n 0, 1) := by decide +kernel
theorem d2_13 : decode method_2_code 13 = .ok (.bipush 9, 2) := by decide +kernel
theorem d2_15 : decode method_2_code 15 = .ok (.if_icmp .eq 19, 3) := by decide +kernel
theorem d2_18 : decode method_2_code 18 = .ok (.iload_n 0, 1) := by decide +kernel
theorem d2_19 : decode method_2_code 19 = .ok (.bipush 10, 2) := by decide +kernel
theorem d2_21 : decode method_2_code 21 = .ok (.if_icmp .eq 13, 3) := by decide +kernel
theorem d2_24 : decode method_2_code 24 = .ok (.iload_n 0, 1) := by decide +kernel
theorem d2_25 : decode method_2_code 25 = .ok (.bipush 13, 2) := by decide +kernel
theorem d2_27 : decode method_2_code 27 = .ok (.if_icmp .eq 7, 3) := by decide +kernel
theorem d2_30 : decode method_2_code 30 = .ok (.iconst 1, 1) := by decide +kernel
theorem d2_31 : decode method_2_code 31 = .ok (.goto 4, 3) := by decide +kernel
theorem d2_34 : decode method_2_code 34 = .ok (.iconst 0, 1) := by decide +kernel
theorem d2_35 : decode method_2_code 35 = .ok (.ireturn, 1) := by decide +kernel
theorem d2_36 : decode method_2_code 36 = .ok (.iload_n 0, 1) := by decide +kernel
theorem d2_37 : decode method_2_code 37 = .ok (.ldc 7, 2) := by decide +kernel
theorem d2_39 : decode method_2_code 39 = .ok (.if_icmp .lt 11, 3) := by decide +kernel
theorem d2_42 : decode method_2_code 42 = .ok (.iload_n 0, 1) := by decide +kernel
theorem d2_43 : decode method_2_code 43 = .ok (.ldc 8, 2) := by decide +kernel
theorem d2_45 : decode method_2_code 45 = .ok (.if_icmp .gt 5, 3) := by decide +kernel
theorem d2_48 : decode method_2_code 48 = .ok (.iconst 1, 1) := by decide +kernel
theorem d2_49 : decode method_2_code 49 = .ok (.ireturn, 1) := by decide +kernel
theorem d2_50 : decode method_2_code 50 = .ok (.iload_n 0, 1) := by decide +kernel
theorem d2_51 : decode method_2_code 51 = .ok (.ldc 9, 2) := by decide +kernel
theorem d2_53 : decode method_2_code 53 = .ok (.if_icmp .eq 9, 3) := by decide +kernel
theorem d2_56 : decode method_2_code 56 = .ok (.iload_n 0, 1) := by decide +kernel
theorem d2_57 : decode method_2_code 57 = .ok (.ldc 10, 2) := by decide +kernel
theorem d2_59 : decode method_2_code 59 = .ok (.if_icmp .ne 5, 3) := by decide +kernel
theorem d2_62 : decode method_2_code 62 = .ok (.iconst 1, 1) := by decide +kernel
theorem d2_63 : decode method_2_code 63 = .ok (.ireturn, 1) := by decide +kernel
theorem d2_64 : decode method_2_code 64 = .ok (.iload_n 0, 1) := by decide +kernel
theorem d2_65 : decode method_2_code 65 = .ok (.ldc 11, 2) := by decide +kernel
theorem d2_67 : decode method_2_code 67 = .ok (.if_icmp .le 7, 3) := by decide +kernel
theorem d2_70 : decode method_2_code 70 = .ok (.iconst 1, 1) := by decide +kernel
theorem d2_71 : decode method_2_code 71 = .ok (.goto 4, 3) := by decide +kernel
theorem d2_74 : decode method_2_code 74 = .ok (.iconst 0, 1) := by decide +kernel
theorem d2_75 : decode method_2_code 75 = .ok (.ireturn, 1) := by decide +kernel
theorem pn_com_example_austere_serializer_austereserializer_XmlNamesIsXmlCharPinLaw : plainName "com/example/austere_serializer/austereserializer/XmlNamesIsXmlCharPinLaw" = true := by first | (simp [plainName, overriddenIn]; done) | decide +kernel
theorem ef_2 (m : MethodId) (x0 : Int32) : entryFrame m #[(.int x0)] 1 = mkF m 0 #[.val (.int x0)] [] := by first | (simp [entryFrame, mkF, argsToLocals, Value.category]; done) | rfl
def Q2 (Z : State) (p1 : Int32) (h0 : Heap) (n0 : Nat) (v : Option Value) (h : Heap) (L : List Loc) : Prop := v = some (.int (own_f2 p1)) ∧ Fr n0 L ∧ h = h0
set_option maxRecDepth 65536 in
set_option maxHeartbeats 40000000 in
theorem rm2 (l : Launch) (Z : State) (a0 : Array Value) (hw : ∀ d ∈ tables_1, d.before a0 Z = true) (ws : List Jvm.Cond) (p1 : Int32) (h0 : Heap) (n0 : Nat) (Z0 : n0 ≤ h0.size)  :
    MetFree l (⟨"com/example/austere_serializer/austereserializer/XmlNamesIsXmlCharPinLaw", "excluded", "(I)Z"⟩ : MethodName) (head1 (Jvm.Cond.code (⟨"com/example/austere_serializer/austereserializer/XmlNamesIsXmlCharPinLaw", "excluded", "(I)Z"⟩ : MethodName) method_2_code 1 (some .boolean) :: ws) ({ frames := 0, cells := 0, slots := 0, locals := 0 } : Room)) (fun a U => a = #[(.int p1)] ∧ Z.Warmed39 U.vm ∧ U.heap = h0) (fun _ _ _ _ _ => True) (fun _ U o U' => ∃ v L, o = .returned v ∧ Q2 Z p1 h0 n0 v U'.heap L ∧ FrameEnd U o U' L ({ frames := 0, cells := 0, slots := 0, locals := 0 } : Room).cells ({ frames := 0, cells := 0, slots := 0, locals := 0 } : Room).slots) := by
  refine MetFree.of_bodySF (plainFor_of_name pn_com_example_austere_serializer_austereserializer_XmlNamesIsXmlCharPinLaw) hisR ?_
  intro p e s m args below meth c s₁ Bd hml0 hP hK
  obtain ⟨rfl, hZ, hh⟩ := hP
  have hx := Bd.exec
  have hby := Bd.bytes
  have hml : c.maxLocals = 1 := hml0
  have hown : s.vm.findClass "com/example/austere_serializer/austereserializer/XmlNamesIsXmlCharPinLaw" = some m.cls := findClass_of_methodNamed Bd.named
  have hnm := (name_of_methodNamed Bd.named Bd.method).1
  have X0 : Stand p l e ({ frames := 0, cells := 0, slots := 0, locals := 0 } : Room) s m #[(.int p1)] below meth c s₁ [] 0 0 := Stand.of_body Bd
  have e0 : s₁.heap = h0 := by rw [← hh, Bd.state]; rfl
  have N0 := Fr.nil n0
  show Goes p e below (fun s₂ o => ∃ v L, o = .returned v ∧ Q2 Z p1 h0 n0 v s₂.heap L ∧ FrameEnd s o s₂ L ({ frames := 0, cells := 0, slots := 0, locals := 0 } : Room).cells ({ frames := 0, cells := 0, slots := 0, locals := 0 } : Room).slots) (s₁.setTop (entryFrame m #[(.int p1)] 1))
  refine Goes.cast (ef_2 m p1) ?_
  refine Goes.via (B := s₁.setTop (mkF m 1 #[.val (.int p1)] [(.int p1)])) (fun t k => XS.iloadN X0.here hx rfl (hb hby d2_0) rfl k) ?_
  by_cases c1_1 : p1 < (0 : Int32)
  · refine Goes.via (B := s₁.setTop (mkF m 4 #[.val (.int p1)] [])) (fun t k => XS.ifNo X0.here hx rfl (hb hby d2_1) rfl ((if0 _ _).trans (tlt c1_1).2.1) k) ?_
    refine Goes.via (B := s₁.setTop (mkF m 5 #[.val (.int p1)] [(.int (1 : Int32))])) (fun t k => XS.iconst X0.here hx rfl (hb hby d2_4) k) ?_
    have hv : own_f2 p1 = (1 : Int32) := by rw [own_f2, if_pos c1_1]
    exact own_out X0 (v := some (.int (1 : Int32))) (fun h => by rw [Bd.returns] at h; cases h) Bd.notSynchronized (fun fs hr => retOut X0 hx Bd.returns rfl (Or.inl ⟨rfl, Or.inr (Or.inl rfl), _, rfl⟩) (hb hby d2_5) hr) ⟨by rw [hv], N0, e0⟩ (by decide) (by decide)
  · refine Goes.via (B := s₁.setTop (mkF m 6 #[.val (.int p1)] [])) (fun t k => XS.ifYes X0.here hx rfl (pc0 := 1) (pc' := 6) rfl (hb hby d2_1) rfl ((if0 _ _).trans (flt c1_1).2.1) (by decide) (by decide) k) ?_
    refine Goes.via (B := s₁.setTop (mkF m 7 #[.val (.int p1)] [(.int p1)])) (fun t k => XS.iloadN X0.here hx rfl (hb hby d2_6) rfl k) ?_
    refine Goes.via (B := s₁.setTop (mkF m 9 #[.val (.int p1)] [(.int (32 : Int32)), (.int p1)])) (fun t k => XS.bipush X0.here hx rfl (hb hby d2_7) k) ?_
    by_cases c9_2 : p1 < (32 : Int32)
    · refine Goes.via (B := s₁.setTop (mkF m 12 #[.val (.int p1)] [])) (fun t k => XS.icmpNo X0.here hx rfl (hb hby d2_9) rfl (tlt c9_2).2.1 k) ?_
      refine Goes.via (B := s₁.setTop (mkF m 13 #[.val (.int p1)] [(.int p1)])) (fun t k => XS.iloadN X0.here hx rfl (hb hby d2_12) rfl k) ?_
      refine Goes.via (B := s₁.setTop (mkF m 15 #[.val (.int p1)] [(.int (9 : Int32)), (.int p1)])) (fun t k => XS.bipush X0.here hx rfl (hb hby d2_13) k) ?_
      by_cases c15_3 : p1 = (9 : Int32)
      · refine Goes.via (B := s₁.setTop (mkF m 34 #[.val (.int p1)] [])) (fun t k => XS.icmpYes X0.here hx rfl (pc0 := 15) (pc' := 34) rfl (hb hby d2_15) rfl (teq c15_3).1 (by decide) (by decide) k) ?_
        refine Goes.via (B := s₁.setTop (mkF m 35 #[.val (.int p1)] [(.int (0 : Int32))])) (fun t k => XS.iconst X0.here hx rfl (hb hby d2_34) k) ?_
        have hv : own_f2 p1 = (0 : Int32) := by rw [own_f2, if_neg c1_1, if_pos c9_2, if_pos c15_3]
        exact own_out X0 (v := some (.int (0 : Int32))) (fun h => by rw [Bd.returns] at h; cases h) Bd.notSynchronized (fun fs hr => retOut X0 hx Bd.returns rfl (Or.inl ⟨rfl, Or.inr (Or.inl rfl), _, rfl⟩) (hb hby d2_35) hr) ⟨by rw [hv], N0, e0⟩ (by decide) (by decide)
      · refine Goes.via (B := s₁.setTop (mkF m 18 #[.val (.int p1)] [])) (fun t k => XS.icmpNo X0.here hx rfl (hb hby d2_15) rfl (feq c15_3).1 k) ?_
        refine Goes.via (B := s₁.setTop (mkF m 19 #[.val (.int p1)] [(.int p1)])) (fun t k => XS.iloadN X0.here hx rfl (hb hby d2_18) rfl k) ?_
        refine Goes.via (B := s₁.setTop (mkF m 21 #[.val (.int p1)] [(.int (10 : Int32)), (.int p1)])) (fun t k => XS.bipush X0.here hx rfl (hb hby d2_19) k) ?_
        by_cases c21_4 : p1 = (10 : Int32)
        · refine Goes.via (B := s₁.setTop (mkF m 34 #[.val (.int p1)] [])) (fun t k => XS.icmpYes X0.here hx rfl (pc0 := 21) (pc' := 34) rfl (hb hby d2_21) rfl (teq c21_4).1 (by decide) (by decide) k) ?_
          refine Goes.via (B := s₁.setTop (mkF m 35 #[.val (.int p1)] [(.int (0 : Int32))])) (fun t k => XS.iconst X0.here hx rfl (hb hby d2_34) k) ?_
          have hv : own_f2 p1 = (0 : Int32) := by rw [own_f2, if_neg c1_1, if_pos c9_2, if_neg c15_3, if_pos c21_4]
          exact own_out X0 (v := some (.int (0 : Int32))) (fun h => by rw [Bd.returns] at h; cases h) Bd.notSynchronized (fun fs hr => retOut X0 hx Bd.returns rfl (Or.inl ⟨rfl, Or.inr (Or.inl rfl), _, rfl⟩) (hb hby d2_35) hr) ⟨by rw [hv], N0, e0⟩ (by decide) (by decide)
        · refine Goes.via (B := s₁.setTop (mkF m 24 #[.val (.int p1)] [])) (fun t k => XS.icmpNo X0.here hx rfl (hb hby d2_21) rfl (feq c21_4).1 k) ?_
          refine Goes.via (B := s₁.setTop (mkF m 25 #[.val (.int p1)] [(.int p1)])) (fun t k => XS.iloadN X0.here hx rfl (hb hby d2_24) rfl k) ?_
          refine Goes.via (B := s₁.setTop (mkF m 27 #[.val (.int p1)] [(.int (13 : Int32)), (.int p1)])) (fun t k => XS.bipush X0.here hx rfl (hb hby d2_25) k) ?_
          by_cases c27_5 : p1 = (13 : Int32)
          · refine Goes.via (B := s₁.setTop (mkF m 34 #[.val (.int p1)] [])) (fun t k => XS.icmpYes X0.here hx rfl (pc0 := 27) (pc' := 34) rfl (hb hby d2_27) rfl (teq c27_5).1 (by decide) (by decide) k) ?_
            refine Goes.via (B := s₁.setTop (mkF m 35 #[.val (.int p1)] [(.int (0 : Int32))])) (fun t k => XS.iconst X0.here hx rfl (hb hby d2_34) k) ?_
            have hv : own_f2 p1 = (0 : Int32) := by rw [own_f2, if_neg c1_1, if_pos c9_2, if_neg c15_3, if_neg c21_4, if_pos c27_5]
            exact own_out X0 (v := some (.int (0 : Int32))) (fun h => by rw [Bd.returns] at h; cases h) Bd.notSynchronized (fun fs hr => retOut X0 hx Bd.returns rfl (Or.inl ⟨rfl, Or.inr (Or.inl rfl), _, rfl⟩) (hb hby d2_35) hr) ⟨by rw [hv], N0, e0⟩ (by decide) (by decide)
          · refine Goes.via (B := s₁.setTop (mkF m 30 #[.val (.int p1)] [])) (fun t k => XS.icmpNo X0.here hx rfl (hb hby d2_27) rfl (feq c27_5).1 k) ?_
            refine Goes.via (B := s₁.setTop (mkF m 31 #[.val (.int p1)] [(.int (1 : Int32))])) (fun t k => XS.iconst X0.here hx rfl (hb hby d2_30) k) ?_
            refine Goes.via (B := s₁.setTop (mkF m 35 #[.val (.int p1)] [(.int (1 : Int32))])) (fun t k => XS.goto X0.here hx rfl (pc0 := 31) (pc' := 35) rfl (hb hby d2_31) (by decide) (by decide) k) ?_
            have hv : own_f2 p1 = (1 : Int32) := by rw [own_f2, if_neg c1_1, if_pos c9_2, if_neg c15_3, if_neg c21_4, if_neg c27_5]
            exact own_out X0 (v := some (.int (1 : Int32))) (fun h => by rw [Bd.returns] at h; cases h) Bd.notSynchronized (fun fs hr => retOut X0 hx Bd.returns rfl (Or.inl ⟨rfl, Or.inr (Or.inl rfl), _, rfl⟩) (hb hby d2_35) hr) ⟨by rw [hv], N0, e0⟩ (by decide) (by decide)
    · refine Goes.via (B := s₁.setTop (mkF m 36 #[.val (.int p1)] [])) (fun t k => XS.icmpYes X0.here hx rfl (pc0 := 9) (pc' := 36) rfl (hb hby d2_9) rfl (flt c9_2).2.1 (by decide) (by decide) k) ?_
      refine Goes.via (B := s₁.setTop (mkF m 37 #[.val (.int p1)] [(.int p1)])) (fun t k => XS.iloadN X0.here hx rfl (hb hby d2_36) rfl k) ?_
      refine Goes.via (B := s₁.setTop (mkF m 39 #[.val (.int p1)] [(.int (55296 : Int32)), (.int p1)])) (fun t k => X0.ldcInt hx hown (mvT hZ (hw _ (List.mem_of_getElem? (i := 2) rfl))) (g := (mkF m 37 #[.val (.int p1)] [(.int p1)])) rfl (hb hby d2_37) _ k) ?_
      by_cases c39_6 : p1 < (55296 : Int32)
      · refine Goes.via (B := s₁.setTop (mkF m 50 #[.val (.int p1)] [])) (fun t k => XS.icmpYes X0.here hx rfl (pc0 := 39) (pc' := 50) rfl (hb hby d2_39) rfl (tlt c39_6).1 (by decide) (by decide) k) ?_
        refine Goes.via (B := s₁.setTop (mkF m 51 #[.val (.int p1)] [(.int p1)])) (fun t k => XS.iloadN X0.here hx rfl (hb hby d2_50) rfl k) ?_
        refine Goes.via (B := s₁.setTop (mkF m 53 #[.val (.int p1)] [(.int (65534 : Int32)), (.int p1)])) (fun t k => X0.ldcInt hx hown (mvT hZ (hw _ (List.mem_of_getElem? (i := 6) rfl))) (g := (mkF m 51 #[.val (.int p1)] [(.int p1)])) rfl (hb hby d2_51) _ k) ?_
        by_cases c53_7 : p1 = (65534 : Int32)
        · refine Goes.via (B := s₁.setTop (mkF m 62 #[.val (.int p1)] [])) (fun t k => XS.icmpYes X0.here hx rfl (pc0 := 53) (pc' := 62) rfl (hb hby d2_53) rfl (teq c53_7).1 (by decide) (by decide) k) ?_
          refine Goes.via (B := s₁.setTop (mkF m 63 #[.val (.int p1)] [(.int (1 : Int32))])) (fun t k => XS.iconst X0.here hx rfl (hb hby d2_62) k) ?_
          have hv : own_f2 p1 = (1 : Int32) := by rw [own_f2, if_neg c1_1, if_neg c9_2, if_pos c39_6, if_pos c53_7]
          exact own_out X0 (v := some (.int (1 : Int32))) (fun h => by rw [Bd.returns] at h; cases h) Bd.notSynchronized (fun fs hr => retOut X0 hx Bd.returns rfl (Or.inl ⟨rfl, Or.inr (Or.inl rfl), _, rfl⟩) (hb hby d2_63) hr) ⟨by rw [hv], N0, e0⟩ (by decide) (by decide)
        · refine Goes.via (B := s₁.setTop (mkF m 56 #[.val (.int p1)] [])) (fun t k => XS.icmpNo X0.here hx rfl (hb hby d2_53) rfl (feq c53_7).1 k) ?_
          refine Goes.via (B := s₁.setTop (mkF m 57 #[.val (.int p1)] [(.int p1)])) (fun t k => XS.iloadN X0.here hx rfl (hb hby d2_56) rfl k) ?_
          refine Goes.via (B := s₁.setTop (mkF m 59 #[.val (.int p1)] [(.int (65535 : Int32)), (.int p1)])) (fun t k => X0.ldcInt hx hown (mvT hZ (hw _ (List.mem_of_getElem? (i := 7) rfl))) (g := (mkF m 57 #[.val (.int p1)] [(.int p1)])) rfl (hb hby d2_57) _ k) ?_
          by_cases c59_8 : p1 = (65535 : Int32)
          · refine Goes.via (B := s₁.setTop (mkF m 62 #[.val (.int p1)] [])) (fun t k => XS.icmpNo X0.here hx rfl (hb hby d2_59) rfl (teq c59_8).2 k) ?_
            refine Goes.via (B := s₁.setTop (mkF m 63 #[.val (.int p1)] [(.int (1 : Int32))])) (fun t k => XS.iconst X0.here hx rfl (hb hby d2_62) k) ?_
            have hv : own_f2 p1 = (1 : Int32) := by rw [own_f2, if_neg c1_1, if_neg c9_2, if_pos c39_6, if_neg c53_7, if_pos c59_8]
            exact own_out X0 (v := some (.int (1 : Int32))) (fun h => by rw [Bd.returns] at h; cases h) Bd.notSynchronized (fun fs hr => retOut X0 hx Bd.returns rfl (Or.inl ⟨rfl, Or.inr (Or.inl rfl), _, rfl⟩) (hb hby d2_63) hr) ⟨by rw [hv], N0, e0⟩ (by decide) (by decide)
          · refine Goes.via (B := s₁.setTop (mkF m 64 #[.val (.int p1)] [])) (fun t k => XS.icmpYes X0.here hx rfl (pc0 := 59) (pc' := 64) rfl (hb hby d2_59) rfl (feq c59_8).2 (by decide) (by decide) k) ?_
            refine Goes.via (B := s₁.setTop (mkF m 65 #[.val (.int p1)] [(.int p1)])) (fun t k => XS.iloadN X0.here hx rfl (hb hby d2_64) rfl k) ?_
            refine Goes.via (B := s₁.setTop (mkF m 67 #[.val (.int p1)] [(.int (1114111 : Int32)), (.int p1)])) (fun t k => X0.ldcInt hx hown (mvT hZ (hw _ (List.mem_of_getElem? (i := 9) rfl))) (g := (mkF m 65 #[.val (.int p1)] [(.int p1)])) rfl (hb hby d2_65) _ k) ?_
            by_cases c67_9 : (1114111 : Int32) < p1
            · refine Goes.via (B := s₁.setTop (mkF m 70 #[.val (.int p1)] [])) (fun t k => XS.icmpNo X0.here hx rfl (hb hby d2_67) rfl (tlt c67_9).2.2.2 k) ?_
              refine Goes.via (B := s₁.setTop (mkF m 71 #[.val (.int p1)] [(.int (1 : Int32))])) (fun t k => XS.iconst X0.here hx rfl (hb hby d2_70) k) ?_
              refine Goes.via (B := s₁.setTop (mkF m 75 #[.val (.int p1)] [(.int (1 : Int32))])) (fun t k => XS.goto X0.here hx rfl (pc0 := 71) (pc' := 75) rfl (hb hby d2_71) (by decide) (by decide) k) ?_
              have hv : own_f2 p1 = (1 : Int32) := by rw [own_f2, if_neg c1_1, if_neg c9_2, if_pos c39_6, if_neg c53_7, if_neg c59_8, if_pos c67_9]
              exact own_out X0 (v := some (.int (1 : Int32))) (fun h => by rw [Bd.returns] at h; cases h) Bd.notSynchronized (fun fs hr => retOut X0 hx Bd.returns rfl (Or.inl ⟨rfl, Or.inr (Or.inl rfl), _, rfl⟩) (hb hby d2_75) hr) ⟨by rw [hv], N0, e0⟩ (by decide) (by decide)
            · refine Goes.via (B := s₁.setTop (mkF m 74 #[.val (.int p1)] [])) (fun t k => XS.icmpYes X0.here hx rfl (pc0 := 67) (pc' := 74) rfl (hb hby d2_67) rfl (flt c67_9).2.2.2 (by decide) (by decide) k) ?_
              refine Goes.via (B := s₁.setTop (mkF m 75 #[.val (.int p1)] [(.int (0 : Int32))])) (fun t k => XS.iconst X0.here hx rfl (hb hby d2_74) k) ?_
              have hv : own_f2 p1 = (0 : Int32) := by rw [own_f2, if_neg c1_1, if_neg c9_2, if_pos c39_6, if_neg c53_7, if_neg c59_8, if_neg c67_9]
              exact own_out X0 (v := some (.int (0 : Int32))) (fun h => by rw [Bd.returns] at h; cases h) Bd.notSynchronized (fun fs hr => retOut X0 hx Bd.returns rfl (Or.inl ⟨rfl, Or.inr (Or.inl rfl), _, rfl⟩) (hb hby d2_75) hr) ⟨by rw [hv], N0, e0⟩ (by decide) (by decide)
      · refine Goes.via (B := s₁.setTop (mkF m 42 #[.val (.int p1)] [])) (fun t k => XS.icmpNo X0.here hx rfl (hb hby d2_39) rfl (flt c39_6).1 k) ?_
        refine Goes.via (B := s₁.setTop (mkF m 43 #[.val (.int p1)] [(.int p1)])) (fun t k => XS.iloadN X0.here hx rfl (hb hby d2_42) rfl k) ?_
        refine Goes.via (B := s₁.setTop (mkF m 45 #[.val (.int p1)] [(.int (57343 : Int32)), (.int p1)])) (fun t k => X0.ldcInt hx hown (mvT hZ (hw _ (List.mem_of_getElem? (i := 3) rfl))) (g := (mkF m 43 #[.val (.int p1)] [(.int p1)])) rfl (hb hby d2_43) _ k) ?_
        by_cases c45_10 : (57343 : Int32) < p1
        · refine Goes.via (B := s₁.setTop (mkF m 50 #[.val (.int p1)] [])) (fun t k => XS.icmpYes X0.here hx rfl (pc0 := 45) (pc' := 50) rfl (hb hby d2_45) rfl (tlt c45_10).2.2.1 (by decide) (by decide) k) ?_
          refine Goes.via (B := s₁.setTop (mkF m 51 #[.val (.int p1)] [(.int p1)])) (fun t k => XS.iloadN X0.here hx rfl (hb hby d2_50) rfl k) ?_
          refine Goes.via (B := s₁.setTop (mkF m 53 #[.val (.int p1)] [(.int (65534 : Int32)), (.int p1)])) (fun t k => X0.ldcInt hx hown (mvT hZ (hw _ (List.mem_of_getElem? (i := 6) rfl))) (g := (mkF m 51 #[.val (.int p1)] [(.int p1)])) rfl (hb hby d2_51) _ k) ?_
          by_cases c53_11 : p1 = (65534 : Int32)
          · refine Goes.via (B := s₁.setTop (mkF m 62 #[.val (.int p1)] [])) (fun t k => XS.icmpYes X0.here hx rfl (pc0 := 53) (pc' := 62) rfl (hb hby d2_53) rfl (teq c53_11).1 (by decide) (by decide) k) ?_
            refine Goes.via (B := s₁.setTop (mkF m 63 #[.val (.int p1)] [(.int (1 : Int32))])) (fun t k => XS.iconst X0.here hx rfl (hb hby d2_62) k) ?_
            have hv : own_f2 p1 = (1 : Int32) := by rw [own_f2, if_neg c1_1, if_neg c9_2, if_neg c39_6, if_pos c45_10, if_pos c53_11]
            exact own_out X0 (v := some (.int (1 : Int32))) (fun h => by rw [Bd.returns] at h; cases h) Bd.notSynchronized (fun fs hr => retOut X0 hx Bd.returns rfl (Or.inl ⟨rfl, Or.inr (Or.inl rfl), _, rfl⟩) (hb hby d2_63) hr) ⟨by rw [hv], N0, e0⟩ (by decide) (by decide)
          · refine Goes.via (B := s₁.setTop (mkF m 56 #[.val (.int p1)] [])) (fun t k => XS.icmpNo X0.here hx rfl (hb hby d2_53) rfl (feq c53_11).1 k) ?_
            refine Goes.via (B := s₁.setTop (mkF m 57 #[.val (.int p1)] [(.int p1)])) (fun t k => XS.iloadN X0.here hx rfl (hb hby d2_56) rfl k) ?_
            refine Goes.via (B := s₁.setTop (mkF m 59 #[.val (.int p1)] [(.int (65535 : Int32)), (.int p1)])) (fun t k => X0.ldcInt hx hown (mvT hZ (hw _ (List.mem_of_getElem? (i := 7) rfl))) (g := (mkF m 57 #[.val (.int p1)] [(.int p1)])) rfl (hb hby d2_57) _ k) ?_
            by_cases c59_12 : p1 = (65535 : Int32)
            · refine Goes.via (B := s₁.setTop (mkF m 62 #[.val (.int p1)] [])) (fun t k => XS.icmpNo X0.here hx rfl (hb hby d2_59) rfl (teq c59_12).2 k) ?_
              refine Goes.via (B := s₁.setTop (mkF m 63 #[.val (.int p1)] [(.int (1 : Int32))])) (fun t k => XS.iconst X0.here hx rfl (hb hby d2_62) k) ?_
              have hv : own_f2 p1 = (1 : Int32) := by rw [own_f2, if_neg c1_1, if_neg c9_2, if_neg c39_6, if_pos c45_10, if_neg c53_11, if_pos c59_12]
              exact own_out X0 (v := some (.int (1 : Int32))) (fun h => by rw [Bd.returns] at h; cases h) Bd.notSynchronized (fun fs hr => retOut X0 hx Bd.returns rfl (Or.inl ⟨rfl, Or.inr (Or.inl rfl), _, rfl⟩) (hb hby d2_63) hr) ⟨by rw [hv], N0, e0⟩ (by decide) (by decide)
            · refine Goes.via (B := s₁.setTop (mkF m 64 #[.val (.int p1)] [])) (fun t k => XS.icmpYes X0.here hx rfl (pc0 := 59) (pc' := 64) rfl (hb hby d2_59) rfl (feq c59_12).2 (by decide) (by decide) k) ?_
              refine Goes.via (B := s₁.setTop (mkF m 65 #[.val (.int p1)] [(.int p1)])) (fun t k => XS.iloadN X0.here hx rfl (hb hby d2_64) rfl k) ?_
              refine Goes.via (B := s₁.setTop (mkF m 67 #[.val (.int p1)] [(.int (1114111 : Int32)), (.int p1)])) (fun t k => X0.ldcInt hx hown (mvT hZ (hw _ (List.mem_of_getElem? (i := 9) rfl))) (g := (mkF m 65 #[.val (.int p1)] [(.int p1)])) rfl (hb hby d2_65) _ k) ?_
              by_cases c67_13 : (1114111 : Int32) < p1
              · refine Goes.via (B := s₁.setTop (mkF m 70 #[.val (.int p1)] [])) (fun t k => XS.icmpNo X0.here hx rfl (hb hby d2_67) rfl (tlt c67_13).2.2.2 k) ?_
                refine Goes.via (B := s₁.setTop (mkF m 71 #[.val (.int p1)] [(.int (1 : Int32))])) (fun t k => XS.iconst X0.here hx rfl (hb hby d2_70) k) ?_
                refine Goes.via (B := s₁.setTop (mkF m 75 #[.val (.int p1)] [(.int (1 : Int32))])) (fun t k => XS.goto X0.here hx rfl (pc0 := 71) (pc' := 75) rfl (hb hby d2_71) (by decide) (by decide) k) ?_
                have hv : own_f2 p1 = (1 : Int32) := by rw [own_f2, if_neg c1_1, if_neg c9_2, if_neg c39_6, if_pos c45_10, if_neg c53_11, if_neg c59_12, if_pos c67_13]
                exact own_out X0 (v := some (.int (1 : Int32))) (fun h => by rw [Bd.returns] at h; cases h) Bd.notSynchronized (fun fs hr => retOut X0 hx Bd.returns rfl (Or.inl ⟨rfl, Or.inr (Or.inl rfl), _, rfl⟩) (hb hby d2_75) hr) ⟨by rw [hv], N0, e0⟩ (by decide) (by decide)
              · refine Goes.via (B := s₁.setTop (mkF m 74 #[.val (.int p1)] [])) (fun t k => XS.icmpYes X0.here hx rfl (pc0 := 67) (pc' := 74) rfl (hb hby d2_67) rfl (flt c67_13).2.2.2 (by decide) (by decide) k) ?_
                refine Goes.via (B := s₁.setTop (mkF m 75 #[.val (.int p1)] [(.int (0 : Int32))])) (fun t k => XS.iconst X0.here hx rfl (hb hby d2_74) k) ?_
                have hv : own_f2 p1 = (0 : Int32) := by rw [own_f2, if_neg c1_1, if_neg c9_2, if_neg c39_6, if_pos c45_10, if_neg c53_11, if_neg c59_12, if_neg c67_13]
                exact own_out X0 (v := some (.int (0 : Int32))) (fun h => by rw [Bd.returns] at h; cases h) Bd.notSynchronized (fun fs hr => retOut X0 hx Bd.returns rfl (Or.inl ⟨rfl, Or.inr (Or.inl rfl), _, rfl⟩) (hb hby d2_75) hr) ⟨by rw [hv], N0, e0⟩ (by decide) (by decide)
        · refine Goes.via (B := s₁.setTop (mkF m 48 #[.val (.int p1)] [])) (fun t k => XS.icmpNo X0.here hx rfl (hb hby d2_45) rfl (flt c45_10).2.2.1 k) ?_
          refine Goes.via (B := s₁.setTop (mkF m 49 #[.val (.int p1)] [(.int (1 : Int32))])) (fun t k => XS.iconst X0.here hx rfl (hb hby d2_48) k) ?_
          have hv : own_f2 p1 = (1 : Int32) := by rw [own_f2, if_neg c1_1, if_neg c9_2, if_neg c39_6, if_neg c45_10]
          exact own_out X0 (v := some (.int (1 : Int32))) (fun h => by rw [Bd.returns] at h; cases h) Bd.notSynchronized (fun fs hr => retOut X0 hx Bd.returns rfl (Or.inl ⟨rfl, Or.inr (Or.inl rfl), _, rfl⟩) (hb hby d2_49) hr) ⟨by rw [hv], N0, e0⟩ (by decide) (by decide)
theorem pd__I_Z : parseMethodDescriptor "(I)Z" = some ⟨[.int], some .boolean⟩ := by decide +kernel
theorem ef_0 (m : MethodId) (x0 : Int32) (x1 : Int32) (x2 : Int32) : entryFrame m #[(.int x0), (.int x1), (.int x2)] maxLocals = mkF m 0 #[.val (.int x0), .val (.int x1), .val (.int x2), .unset, .unset, .unset] [] := by first | (simp [entryFrame, mkF, argsToLocals, Value.category, maxLocals]; done) | rfl
def own_e1 (v4 : Int32) : Int32 := if (own_f2 v4) = (0 : Int32) then (1 : Int32) else (0 : Int32)
def own_ok (x y : Int32) : Bool := decide (x = if y = (0 : Int32) then (1 : Int32) else (0 : Int32))
theorem own_okall (c : Int32) : own_ok (own_f1 c) (own_f2 c) = true := by
  unfold own_f1 own_f2
  repeat' split
  all_goals first | rfl | (exfalso; simp only [Int32.lt_iff_toInt_lt, ← Int32.toInt_inj, Int32.reduceToInt] at *; omega)
theorem own_same (c : Int32) : own_f1 c = own_e1 c := of_decide_eq_true (own_okall c)
theorem own_idx {p2 j1 : Int32} (h : (((p2.toUInt32 >>> ((1 : Int32) &&& 31).toUInt32).toInt32) % (17 : Int32)) = j1) : ¬ j1 < 0 ∧ j1 < (17 : Int32) := by
  have a := c_iushr p2 1 1 (by decide) (by decide)
  have r := rng32 p2
  have b := (c_irem ((p2.toUInt32 >>> ((1 : Int32) &&& 31).toUInt32).toInt32) 17 17 (by decide)).1 (by rw [a]; omega)
  rw [h] at b
  constructor <;> rw [Int32.lt_iff_toInt_lt] <;> simp only [Int32.reduceToInt] <;> omega
def Q0 (Z : State) (p1 : Int32) (p2 : Int32) (p3 : Int32) (h0 : Heap) (n0 : Nat) (v : Option Value) (h : Heap) (L : List Loc) : Prop := v = some (.int (1 : Int32)) ∧ Fr n0 L
set_option maxRecDepth 65536 in
set_option maxHeartbeats 40000000 in
theorem rm0 (l : Launch) (Z : State) (a0 : Array Value) (hw : ∀ d ∈ tables_1, d.before a0 Z = true) (ws : List Jvm.Cond) (p1 : Int32) (p2 : Int32) (p3 : Int32) (h0 : Heap) (n0 : Nat) (Z0 : n0 ≤ h0.size)  :
    MetFree l x (head1 (Jvm.Cond.code x code maxLocals ret :: ws) room_1) (fun a U => a = #[(.int p1), (.int p2), (.int p3)] ∧ Z.Warmed39 U.vm ∧ U.heap = h0) (fun _ _ _ _ _ => True) (fun _ U o U' => ∃ v L, o = .returned v ∧ Q0 Z p1 p2 p3 h0 n0 v U'.heap L ∧ FrameEnd U o U' L room_1.cells room_1.slots) := by
  refine MetFree.of_bodySF (plainFor_of_name pn_com_example_austere_serializer_austereserializer_XmlNamesIsXmlCharPinLaw) hisR ?_
  intro p e s m args below meth c s₁ Bd hml0 hP hK
  obtain ⟨rfl, hZ, hh⟩ := hP
  have hx := Bd.exec
  have hby := Bd.bytes
  have hml : c.maxLocals = 6 := hml0
  have hown : s.vm.findClass "com/example/austere_serializer/austereserializer/XmlNamesIsXmlCharPinLaw" = some m.cls := findClass_of_methodNamed Bd.named
  have hnm := (name_of_methodNamed Bd.named Bd.method).1
  have X0 : Stand p l e room_1 s m #[(.int p1), (.int p2), (.int p3)] below meth c s₁ [] 0 0 := Stand.of_body Bd
  have e0 : s₁.heap = h0 := by rw [← hh, Bd.state]; rfl
  have N0 := Fr.nil n0
  show Goes p e below (fun s₂ o => ∃ v L, o = .returned v ∧ Q0 Z p1 p2 p3 h0 n0 v s₂.heap L ∧ FrameEnd s o s₂ L room_1.cells room_1.slots) (s₁.setTop (entryFrame m #[(.int p1), (.int p2), (.int p3)] maxLocals))
  refine Goes.cast (ef_0 m p1 p2 p3) ?_
  refine Goes.via (B := s₁.setTop (mkF m 2 #[.val (.int p1), .val (.int p2), .val (.int p3), .unset, .unset, .unset] [(.int (17 : Int32))])) (fun t k => XS.bipush X0.here hx rfl (hb hby at_0) k) ?_
  obtain ⟨T1, h1, k1, X1, e1, E1, A1, st1⟩ := newP X0 hx hZ (hw _ (List.mem_of_getElem? (i := 0) rfl)) e0 (g := (mkF m 2 #[.val (.int p1), .val (.int p2), .val (.int p3), .unset, .unset, .unset] [(.int (17 : Int32))])) rfl (hb hby at_2) rfl (by decide) (cap := 17) (by decide) (by decide) (by decide) (by decide)
  obtain ⟨b1, g1⟩ : ∃ z, z = h0.size := ⟨_, rfl⟩
  rw [← g1] at A1 st1
  have Vb1 : Arv Z h1 b1 k1 .int (17 : Int32) [(.int (0 : Int32)), (.int (0 : Int32)), (.int (0 : Int32)), (.int (0 : Int32)), (.int (0 : Int32)), (.int (0 : Int32)), (.int (0 : Int32)), (.int (0 : Int32)), (.int (0 : Int32)), (.int (0 : Int32)), (.int (0 : Int32)), (.int (0 : Int32)), (.int (0 : Int32)), (.int (0 : Int32)), (.int (0 : Int32)), (.int (0 : Int32)), (.int (0 : Int32))] (.int (0 : Int32)) := (Arv.new A1 (by decide)).pad (pad_rep [] (.int (0 : Int32)) 17)
  have g_b1 : n0 ≤ b1 := Nat.le_trans Z0 (Nat.le_of_eq g1.symm)
  have Z1 : n0 ≤ h1.size := Nat.le_trans Z0 E1.1
  refine Goes.via (B := T1.setTop (mkF m 4 #[.val (.int p1), .val (.int p2), .val (.int p3), .unset, .unset, .unset] [(.ref b1)])) st1 ?_
  refine Goes.via (B := T1.setTop (mkF m 5 #[.val (.int p1), .val (.int p2), .val (.int p3), .unset, .unset, .unset] [(.ref b1), (.ref b1)])) (fun t k => XS.dup X1.here hx rfl (hb hby at_4) rfl rfl k) ?_
  refine Goes.via (B := T1.setTop (mkF m 6 #[.val (.int p1), .val (.int p2), .val (.int p3), .unset, .unset, .unset] [(.int (0 : Int32)), (.ref b1), (.ref b1)])) (fun t k => XS.iconst X1.here hx rfl (hb hby at_5) k) ?_
  refine Goes.via (B := T1.setTop (mkF m 7 #[.val (.int p1), .val (.int p2), .val (.int p3), .unset, .unset, .unset] [(.int (0 : Int32)), (.int (0 : Int32)), (.ref b1), (.ref b1)])) (fun t k => XS.iconst X1.here hx rfl (hb hby at_6) k) ?_
  obtain ⟨cl2, Ar2, q2, S2, M2, H2, G2⟩ := Vb1
  have hin2 : ¬ ((0 : Int32) < 0 ∨ cl2.slots.size ≤ ((0 : Int32)).toNatClampNeg) := inb_of S2 ⟨by decide, by decide⟩
  obtain ⟨T2, h2, X2, e2, W2, st2⟩ := stI X1 hx hZ e1 Ar2 (j := (0 : Int32)) hin2 (g := (mkF m 7 #[.val (.int p1), .val (.int p2), .val (.int p3), .unset, .unset, .unset] [(.int (0 : Int32)), (.int (0 : Int32)), (.ref b1), (.ref b1)])) rfl rfl (hb hby at_7)
  have Vb1_2 := Arv.set Ar2 q2 S2 M2 H2 G2 rfl W2 0 rfl (Nat.le_of_ble_eq_true rfl)
  replace Vb1_2 : Arv Z h2 b1 k1 .int (17 : Int32) [(.int (0 : Int32)), (.int (0 : Int32)), (.int (0 : Int32)), (.int (0 : Int32)), (.int (0 : Int32)), (.int (0 : Int32)), (.int (0 : Int32)), (.int (0 : Int32)), (.int (0 : Int32)), (.int (0 : Int32)), (.int (0 : Int32)), (.int (0 : Int32)), (.int (0 : Int32)), (.int (0 : Int32)), (.int (0 : Int32)), (.int (0 : Int32)), (.int (0 : Int32))] (.int (0 : Int32)) := Vb1_2
  have N2 := Fr.snoc X2 N0 g_b1
  have Z2 : n0 ≤ h2.size := Nat.le_trans Z1 (Nat.le_of_eq W2.size.symm)
  refine Goes.via (B := T2.setTop (mkF m 8 #[.val (.int p1), .val (.int p2), .val (.int p3), .unset, .unset, .unset] [(.ref b1)])) st2 ?_
  refine Goes.via (B := T2.setTop (mkF m 9 #[.val (.int p1), .val (.int p2), .val (.int p3), .unset, .unset, .unset] [(.ref b1), (.ref b1)])) (fun t k => XS.dup X2.here hx rfl (hb hby at_8) rfl rfl k) ?_
  refine Goes.via (B := T2.setTop (mkF m 10 #[.val (.int p1), .val (.int p2), .val (.int p3), .unset, .unset, .unset] [(.int (1 : Int32)), (.ref b1), (.ref b1)])) (fun t k => XS.iconst X2.here hx rfl (hb hby at_9) k) ?_
  refine Goes.via (B := T2.setTop (mkF m 12 #[.val (.int p1), .val (.int p2), .val (.int p3), .unset, .unset, .unset] [(.int (9 : Int32)), (.int (1 : Int32)), (.ref b1), (.ref b1)])) (fun t k => XS.bipush X2.here hx rfl (hb hby at_10) k) ?_
  obtain ⟨cl3, Ar3, q3, S3, M3, H3, G3⟩ := Vb1_2
  have hin3 : ¬ ((1 : Int32) < 0 ∨ cl3.slots.size ≤ ((1 : Int32)).toNatClampNeg) := inb_of S3 ⟨by decide, by decide⟩
  obtain ⟨T3, h3, X3, e3, W3, st3⟩ := stI X2 hx hZ e2 Ar3 (j := (1 : Int32)) hin3 (g := (mkF m 12 #[.val (.int p1), .val (.int p2), .val (.int p3), .unset, .unset, .unset] [(.int (9 : Int32)), (.int (1 : Int32)), (.ref b1), (.ref b1)])) rfl rfl (hb hby at_12)
  have Vb1_3 := Arv.set Ar3 q3 S3 M3 H3 G3 rfl W3 1 rfl (Nat.le_of_ble_eq_true rfl)
  replace Vb1_3 : Arv Z h3 b1 k1 .int (17 : Int32) [(.int (0 : Int32)), (.int (9 : Int32)), (.int (0 : Int32)), (.int (0 : Int32)), (.int (0 : Int32)), (.int (0 : Int32)), (.int (0 : Int32)), (.int (0 : Int32)), (.int (0 : Int32)), (.int (0 : Int32)), (.int (0 : Int32)), (.int (0 : Int32)), (.int (0 : Int32)), (.int (0 : Int32)), (.int (0 : Int32)), (.int (0 : Int32)), (.int (0 : Int32))] (.int (0 : Int32)) := Vb1_3
  have N3 := Fr.snoc X3 N2 g_b1
  have Z3 : n0 ≤ h3.size := Nat.le_trans Z2 (Nat.le_of_eq W3.size.symm)
  refine Goes.via (B := T3.setTop (mkF m 13 #[.val (.int p1), .val (.int p2), .val (.int p3), .unset, .unset, .unset] [(.ref b1)])) st3 ?_
  refine Goes.via (B := T3.setTop (mkF m 14 #[.val (.int p1), .val (.int p2), .val (.int p3), .unset, .unset, .unset] [(.ref b1), (.ref b1)])) (fun t k => XS.dup X3.here hx rfl (hb hby at_13) rfl rfl k) ?_
  refine Goes.via (B := T3.setTop (mkF m 15 #[.val (.int p1), .val (.int p2), .val (.int p3), .unset, .unset, .unset] [(.int (2 : Int32)), (.ref b1), (.ref b1)])) (fun t k => XS.iconst X3.here hx rfl (hb hby at_14) k) ?_
  refine Goes.via (B := T3.setTop (mkF m 17 #[.val (.int p1), .val (.int p2), .val (.int p3), .unset, .unset, .unset] [(.int (10 : Int32)), (.int (2 : Int32)), (.ref b1), (.ref b1)])) (fun t k => XS.bipush X3.here hx rfl (hb hby at_15) k) ?_
  obtain ⟨cl4, Ar4, q4, S4, M4, H4, G4⟩ := Vb1_3
  have hin4 : ¬ ((2 : Int32) < 0 ∨ cl4.slots.size ≤ ((2 : Int32)).toNatClampNeg) := inb_of S4 ⟨by decide, by decide⟩
  obtain ⟨T4, h4, X4, e4, W4, st4⟩ := stI X3 hx hZ e3 Ar4 (j := (2 : Int32)) hin4 (g := (mkF m 17 #[.val (.int p1), .val (.int p2), .val (.int p3), .unset, .unset, .unset] [(.int (10 : Int32)), (.int (2 : Int32)), (.ref b1), (.ref b1)])) rfl rfl (hb hby at_17)
  have Vb1_4 := Arv.set Ar4 q4 S4 M4 H4 G4 rfl W4 2 rfl (Nat.le_of_ble_eq_true rfl)
  replace Vb1_4 : Arv Z h4 b1 k1 .int (17 : Int32) [(.int (0 : Int32)), (.int (9 : Int32)), (.int (10 : Int32)), (.int (0 : Int32)), (.int (0 : Int32)), (.int (0 : Int32)), (.int (0 : Int32)), (.int (0 : Int32)), (.int (0 : Int32)), (.int (0 : Int32)), (.int (0 : Int32)), (.int (0 : Int32)), (.int (0 : Int32)), (.int (0 : Int32)), (.int (0 : Int32)), (.int (0 : Int32)), (.int (0 : Int32))] (.int (0 : Int32)) := Vb1_4
  have N4 := Fr.snoc X4 N3 g_b1
  have Z4 : n0 ≤ h4.size := Nat.le_trans Z3 (Nat.le_of_eq W4.size.symm)
  refine Goes.via (B := T4.setTop (mkF m 18 #[.val (.int p1), .val (.int p2), .val (.int p3), .unset, .unset, .unset] [(.ref b1)])) st4 ?_
  refine Goes.via (B := T4.setTop (mkF m 19 #[.val (.int p1), .val (.int p2), .val (.int p3), .unset, .unset, .unset] [(.ref b1), (.ref b1)])) (fun t k => XS.dup X4.here hx rfl (hb hby at_18) rfl rfl k) ?_
  refine Goes.via (B := T4.setTop (mkF m 20 #[.val (.int p1), .val (.int p2), .val (.int p3), .unset, .unset, .unset] [(.int (3 : Int32)), (.ref b1), (.ref b1)])) (fun t k => XS.iconst X4.here hx rfl (hb hby at_19) k) ?_
  refine Goes.via (B := T4.setTop (mkF m 22 #[.val (.int p1), .val (.int p2), .val (.int p3), .unset, .unset, .unset] [(.int (13 : Int32)), (.int (3 : Int32)), (.ref b1), (.ref b1)])) (fun t k => XS.bipush X4.here hx rfl (hb hby at_20) k) ?_
  obtain ⟨cl5, Ar5, q5, S5, M5, H5, G5⟩ := Vb1_4
  have hin5 : ¬ ((3 : Int32) < 0 ∨ cl5.slots.size ≤ ((3 : Int32)).toNatClampNeg) := inb_of S5 ⟨by decide, by decide⟩
  obtain ⟨T5, h5, X5, e5, W5, st5⟩ := stI X4 hx hZ e4 Ar5 (j := (3 : Int32)) hin5 (g := (mkF m 22 #[.val (.int p1), .val (.int p2), .val (.int p3), .unset, .unset, .unset] [(.int (13 : Int32)), (.int (3 : Int32)), (.ref b1), (.ref b1)])) rfl rfl (hb hby at_22)
  have Vb1_5 := Arv.set Ar5 q5 S5 M5 H5 G5 rfl W5 3 rfl (Nat.le_of_ble_eq_true rfl)
  replace Vb1_5 : Arv Z h5 b1 k1 .int (17 : Int32) [(.int (0 : Int32)), (.int (9 : Int32)), (.int (10 : Int32)), (.int (13 : Int32)), (.int (0 : Int32)), (.int (0 : Int32)), (.int (0 : Int32)), (.int (0 : Int32)), (.int (0 : Int32)), (.int (0 : Int32)), (.int (0 : Int32)), (.int (0 : Int32)), (.int (0 : Int32)), (.int (0 : Int32)), (.int (0 : Int32)), (.int (0 : Int32)), (.int (0 : Int32))] (.int (0 : Int32)) := Vb1_5
  have N5 := Fr.snoc X5 N4 g_b1
  have Z5 : n0 ≤ h5.size := Nat.le_trans Z4 (Nat.le_of_eq W5.size.symm)
  refine Goes.via (B := T5.setTop (mkF m 23 #[.val (.int p1), .val (.int p2), .val (.int p3), .unset, .unset, .unset] [(.ref b1)])) st5 ?_
  refine Goes.via (B := T5.setTop (mkF m 24 #[.val (.int p1), .val (.int p2), .val (.int p3), .unset, .unset, .unset] [(.ref b1), (.ref b1)])) (fun t k => XS.dup X5.here hx rfl (hb hby at_23) rfl rfl k) ?_
  refine Goes.via (B := T5.setTop (mkF m 25 #[.val (.int p1), .val (.int p2), .val (.int p3), .unset, .unset, .unset] [(.int (4 : Int32)), (.ref b1), (.ref b1)])) (fun t k => XS.iconst X5.here hx rfl (hb hby at_24) k) ?_
  refine Goes.via (B := T5.setTop (mkF m 27 #[.val (.int p1), .val (.int p2), .val (.int p3), .unset, .unset, .unset] [(.int (32 : Int32)), (.int (4 : Int32)), (.ref b1), (.ref b1)])) (fun t k => XS.bipush X5.here hx rfl (hb hby at_25) k) ?_
  obtain ⟨cl6, Ar6, q6, S6, M6, H6, G6⟩ := Vb1_5
  have hin6 : ¬ ((4 : Int32) < 0 ∨ cl6.slots.size ≤ ((4 : Int32)).toNatClampNeg) := inb_of S6 ⟨by decide, by decide⟩
  obtain ⟨T6, h6, X6, e6, W6, st6⟩ := stI X5 hx hZ e5 Ar6 (j := (4 : Int32)) hin6 (g := (mkF m 27 #[.val (.int p1), .val (.int p2), .val (.int p3), .unset, .unset, .unset] [(.int (32 : Int32)), (.int (4 : Int32)), (.ref b1), (.ref b1)])) rfl rfl (hb hby at_27)
  have Vb1_6 := Arv.set Ar6 q6 S6 M6 H6 G6 rfl W6 4 rfl (Nat.le_of_ble_eq_true rfl)
  replace Vb1_6 : Arv Z h6 b1 k1 .int (17 : Int32) [(.int (0 : Int32)), (.int (9 : Int32)), (.int (10 : Int32)), (.int (13 : Int32)), (.int (32 : Int32)), (.int (0 : Int32)), (.int (0 : Int32)), (.int (0 : Int32)), (.int (0 : Int32)), (.int (0 : Int32)), (.int (0 : Int32)), (.int (0 : Int32)), (.int (0 : Int32)), (.int (0 : Int32)), (.int (0 : Int32)), (.int (0 : Int32)), (.int (0 : Int32))] (.int (0 : Int32)) := Vb1_6
  have N6 := Fr.snoc X6 N5 g_b1
  have Z6 : n0 ≤ h6.size := Nat.le_trans Z5 (Nat.le_of_eq W6.size.symm)
  refine Goes.via (B := T6.setTop (mkF m 28 #[.val (.int p1), .val (.int p2), .val (.int p3), .unset, .unset, .unset] [(.ref b1)])) st6 ?_
  refine Goes.via (B := T6.setTop (mkF m 29 #[.val (.int p1), .val (.int p2), .val (.int p3), .unset, .unset, .unset] [(.ref b1), (.ref b1)])) (fun t k => XS.dup X6.here hx rfl (hb hby at_28) rfl rfl k) ?_
  refine Goes.via (B := T6.setTop (mkF m 30 #[.val (.int p1), .val (.int p2), .val (.int p3), .unset, .unset, .unset] [(.int (5 : Int32)), (.ref b1), (.ref b1)])) (fun t k => XS.iconst X6.here hx rfl (hb hby at_29) k) ?_
  refine Goes.via (B := T6.setTop (mkF m 32 #[.val (.int p1), .val (.int p2), .val (.int p3), .unset, .unset, .unset] [(.int (55295 : Int32)), (.int (5 : Int32)), (.ref b1), (.ref b1)])) (fun t k => X6.ldcInt hx hown (mvT hZ (hw _ (List.mem_of_getElem? (i := 1) rfl))) (g := (mkF m 30 #[.val (.int p1), .val (.int p2), .val (.int p3), .unset, .unset, .unset] [(.int (5 : Int32)), (.ref b1), (.ref b1)])) rfl (hb hby at_30) _ k) ?_
  obtain ⟨cl7, Ar7, q7, S7, M7, H7, G7⟩ := Vb1_6
  have hin7 : ¬ ((5 : Int32) < 0 ∨ cl7.slots.size ≤ ((5 : Int32)).toNatClampNeg) := inb_of S7 ⟨by decide, by decide⟩
  obtain ⟨T7, h7, X7, e7, W7, st7⟩ := stI X6 hx hZ e6 Ar7 (j := (5 : Int32)) hin7 (g := (mkF m 32 #[.val (.int p1), .val (.int p2), .val (.int p3), .unset, .unset, .unset] [(.int (55295 : Int32)), (.int (5 : Int32)), (.ref b1), (.ref b1)])) rfl rfl (hb hby at_32)
  have Vb1_7 := Arv.set Ar7 q7 S7 M7 H7 G7 rfl W7 5 rfl (Nat.le_of_ble_eq_true rfl)
  replace Vb1_7 : Arv Z h7 b1 k1 .int (17 : Int32) [(.int (0 : Int32)), (.int (9 : Int32)), (.int (10 : Int32)), (.int (13 : Int32)), (.int (32 : Int32)), (.int (55295 : Int32)), (.int (0 : Int32)), (.int (0 : Int32)), (.int (0 : Int32)), (.int (0 : Int32)), (.int (0 : Int32)), (.int (0 : Int32)), (.int (0 : Int32)), (.int (0 : Int32)), (.int (0 : Int32)), (.int (0 : Int32)), (.int (0 : Int32))] (.int (0 : Int32)) := Vb1_7
  have N7 := Fr.snoc X7 N6 g_b1
  have Z7 : n0 ≤ h7.size := Nat.le_trans Z6 (Nat.le_of_eq W7.size.symm)
  refine Goes.via (B := T7.setTop (mkF m 33 #[.val (.int p1), .val (.int p2), .val (.int p3), .unset, .unset, .unset] [(.ref b1)])) st7 ?_
  refine Goes.via (B := T7.setTop (mkF m 34 #[.val (.int p1), .val (.int p2), .val (.int p3), .unset, .unset, .unset] [(.ref b1), (.ref b1)])) (fun t k => XS.dup X7.here hx rfl (hb hby at_33) rfl rfl k) ?_
  refine Goes.via (B := T7.setTop (mkF m 36 #[.val (.int p1), .val (.int p2), .val (.int p3), .unset, .unset, .unset] [(.int (6 : Int32)), (.ref b1), (.ref b1)])) (fun t k => XS.bipush X7.here hx rfl (hb hby at_34) k) ?_
  refine Goes.via (B := T7.setTop (mkF m 38 #[.val (.int p1), .val (.int p2), .val (.int p3), .unset, .unset, .unset] [(.int (55296 : Int32)), (.int (6 : Int32)), (.ref b1), (.ref b1)])) (fun t k => X7.ldcInt hx hown (mvT hZ (hw _ (List.mem_of_getElem? (i := 2) rfl))) (g := (mkF m 36 #[.val (.int p1), .val (.int p2), .val (.int p3), .unset, .unset, .unset] [(.int (6 : Int32)), (.ref b1), (.ref b1)])) rfl (hb hby at_36) _ k) ?_
  obtain ⟨cl8, Ar8, q8, S8, M8, H8, G8⟩ := Vb1_7
  have hin8 : ¬ ((6 : Int32) < 0 ∨ cl8.slots.size ≤ ((6 : Int32)).toNatClampNeg) := inb_of S8 ⟨by decide, by decide⟩
  obtain ⟨T8, h8, X8, e8, W8, st8⟩ := stI X7 hx hZ e7 Ar8 (j := (6 : Int32)) hin8 (g := (mkF m 38 #[.val (.int p1), .val (.int p2), .val (.int p3), .unset, .unset, .unset] [(.int (55296 : Int32)), (.int (6 : Int32)), (.ref b1), (.ref b1)])) rfl rfl (hb hby at_38)
  have Vb1_8 := Arv.set Ar8 q8 S8 M8 H8 G8 rfl W8 6 rfl (Nat.le_of_ble_eq_true rfl)
  replace Vb1_8 : Arv Z h8 b1 k1 .int (17 : Int32) [(.int (0 : Int32)), (.int (9 : Int32)), (.int (10 : Int32)), (.int (13 : Int32)), (.int (32 : Int32)), (.int (55295 : Int32)), (.int (55296 : Int32)), (.int (0 : Int32)), (.int (0 : Int32)), (.int (0 : Int32)), (.int (0 : Int32)), (.int (0 : Int32)), (.int (0 : Int32)), (.int (0 : Int32)), (.int (0 : Int32)), (.int (0 : Int32)), (.int (0 : Int32))] (.int (0 : Int32)) := Vb1_8
  have N8 := Fr.snoc X8 N7 g_b1
  have Z8 : n0 ≤ h8.size := Nat.le_trans Z7 (Nat.le_of_eq W8.size.symm)
  refine Goes.via (B := T8.setTop (mkF m 39 #[.val (.int p1), .val (.int p2), .val (.int p3), .unset, .unset, .unset] [(.ref b1)])) st8 ?_
  refine Goes.via (B := T8.setTop (mkF m 40 #[.val (.int p1), .val (.int p2), .val (.int p3), .unset, .unset, .unset] [(.ref b1), (.ref b1)])) (fun t k => XS.dup X8.here hx rfl (hb hby at_39) rfl rfl k) ?_
  refine Goes.via (B := T8.setTop (mkF m 42 #[.val (.int p1), .val (.int p2), .val (.int p3), .unset, .unset, .unset] [(.int (7 : Int32)), (.ref b1), (.ref b1)])) (fun t k => XS.bipush X8.here hx rfl (hb hby at_40) k) ?_
  refine Goes.via (B := T8.setTop (mkF m 44 #[.val (.int p1), .val (.int p2), .val (.int p3), .unset, .unset, .unset] [(.int (57343 : Int32)), (.int (7 : Int32)), (.ref b1), (.ref b1)])) (fun t k => X8.ldcInt hx hown (mvT hZ (hw _ (List.mem_of_getElem? (i := 3) rfl))) (g := (mkF m 42 #[.val (.int p1), .val (.int p2), .val (.int p3), .unset, .unset, .unset] [(.int (7 : Int32)), (.ref b1), (.ref b1)])) rfl (hb hby at_42) _ k) ?_
  obtain ⟨cl9, Ar9, q9, S9, M9, H9, G9⟩ := Vb1_8
  have hin9 : ¬ ((7 : Int32) < 0 ∨ cl9.slots.size ≤ ((7 : Int32)).toNatClampNeg) := inb_of S9 ⟨by decide, by decide⟩
  obtain ⟨T9, h9, X9, e9, W9, st9⟩ := stI X8 hx hZ e8 Ar9 (j := (7 : Int32)) hin9 (g := (mkF m 44 #[.val (.int p1), .val (.int p2), .val (.int p3), .unset, .unset, .unset] [(.int (57343 : Int32)), (.int (7 : Int32)), (.ref b1), (.ref b1)])) rfl rfl (hb hby at_44)
  have Vb1_9 := Arv.set Ar9 q9 S9 M9 H9 G9 rfl W9 7 rfl (Nat.le_of_ble_eq_true rfl)
  replace Vb1_9 : Arv Z h9 b1 k1 .int (17 : Int32) [(.int (0 : Int32)), (.int (9 : Int32)), (.int (10 : Int32)), (.int (13 : Int32)), (.int (32 : Int32)), (.int (55295 : Int32)), (.int (55296 : Int32)), (.int (57343 : Int32)), (.int (0 : Int32)), (.int (0 : Int32)), (.int (0 : Int32)), (.int (0 : Int32)), (.int (0 : Int32)), (.int (0 : Int32)), (.int (0 : Int32)), (.int (0 : Int32)), (.int (0 : Int32))] (.int (0 : Int32)) := Vb1_9
  have N9 := Fr.snoc X9 N8 g_b1
  have Z9 : n0 ≤ h9.size := Nat.le_trans Z8 (Nat.le_of_eq W9.size.symm)
  refine Goes.via (B := T9.setTop (mkF m 45 #[.val (.int p1), .val (.int p2), .val (.int p3), .unset, .unset, .unset] [(.ref b1)])) st9 ?_
  refine Goes.via (B := T9.setTop (mkF m 46 #[.val (.int p1), .val (.int p2), .val (.int p3), .unset, .unset, .unset] [(.ref b1), (.ref b1)])) (fun t k => XS.dup X9.here hx rfl (hb hby at_45) rfl rfl k) ?_
  refine Goes.via (B := T9.setTop (mkF m 48 #[.val (.int p1), .val (.int p2), .val (.int p3), .unset, .unset, .unset] [(.int (8 : Int32)), (.ref b1), (.ref b1)])) (fun t k => XS.bipush X9.here hx rfl (hb hby at_46) k) ?_
  refine Goes.via (B := T9.setTop (mkF m 50 #[.val (.int p1), .val (.int p2), .val (.int p3), .unset, .unset, .unset] [(.int (57344 : Int32)), (.int (8 : Int32)), (.ref b1), (.ref b1)])) (fun t k => X9.ldcInt hx hown (mvT hZ (hw _ (List.mem_of_getElem? (i := 4) rfl))) (g := (mkF m 48 #[.val (.int p1), .val (.int p2), .val (.int p3), .unset, .unset, .unset] [(.int (8 : Int32)), (.ref b1), (.ref b1)])) rfl (hb hby at_48) _ k) ?_
  obtain ⟨cl10, Ar10, q10, S10, M10, H10, G10⟩ := Vb1_9
  have hin10 : ¬ ((8 : Int32) < 0 ∨ cl10.slots.size ≤ ((8 : Int32)).toNatClampNeg) := inb_of S10 ⟨by decide, by decide⟩
  obtain ⟨T10, h10, X10, e10, W10, st10⟩ := stI X9 hx hZ e9 Ar10 (j := (8 : Int32)) hin10 (g := (mkF m 50 #[.val (.int p1), .val (.int p2), .val (.int p3), .unset, .unset, .unset] [(.int (57344 : Int32)), (.int (8 : Int32)), (.ref b1), (.ref b1)])) rfl rfl (hb hby at_50)
  have Vb1_10 := Arv.set Ar10 q10 S10 M10 H10 G10 rfl W10 8 rfl (Nat.le_of_ble_eq_true rfl)
  replace Vb1_10 : Arv Z h10 b1 k1 .int (17 : Int32) [(.int (0 : Int32)), (.int (9 : Int32)), (.int (10 : Int32)), (.int (13 : Int32)), (.int (32 : Int32)), (.int (55295 : Int32)), (.int (55296 : Int32)), (.int (57343 : Int32)), (.int (57344 : Int32)), (.int (0 : Int32)), (.int (0 : Int32)), (.int (0 : Int32)), (.int (0 : Int32)), (.int (0 : Int32)), (.int (0 : Int32)), (.int (0 : Int32)), (.int (0 : Int32))] (.int (0 : Int32)) := Vb1_10
  have N10 := Fr.snoc X10 N9 g_b1
  have Z10 : n0 ≤ h10.size := Nat.le_trans Z9 (Nat.le_of_eq W10.size.symm)
  refine Goes.via (B := T10.setTop (mkF m 51 #[.val (.int p1), .val (.int p2), .val (.int p3), .unset, .unset, .unset] [(.ref b1)])) st10 ?_
  refine Goes.via (B := T10.setTop (mkF m 52 #[.val (.int p1), .val (.int p2), .val (.int p3), .unset, .unset, .unset] [(.ref b1), (.ref b1)])) (fun t k => XS.dup X10.here hx rfl (hb hby at_51) rfl rfl k) ?_
  refine Goes.via (B := T10.setTop (mkF m 54 #[.val (.int p1), .val (.int p2), .val (.int p3), .unset, .unset, .unset] [(.int (9 : Int32)), (.ref b1), (.ref b1)])) (fun t k => XS.bipush X10.here hx rfl (hb hby at_52) k) ?_
  refine Goes.via (B := T10.setTop (mkF m 56 #[.val (.int p1), .val (.int p2), .val (.int p3), .unset, .unset, .unset] [(.int (65533 : Int32)), (.int (9 : Int32)), (.ref b1), (.ref b1)])) (fun t k => X10.ldcInt hx hown (mvT hZ (hw _ (List.mem_of_getElem? (i := 5) rfl))) (g := (mkF m 54 #[.val (.int p1), .val (.int p2), .val (.int p3), .unset, .unset, .unset] [(.int (9 : Int32)), (.ref b1), (.ref b1)])) rfl (hb hby at_54) _ k) ?_
  obtain ⟨cl11, Ar11, q11, S11, M11, H11, G11⟩ := Vb1_10
  have hin11 : ¬ ((9 : Int32) < 0 ∨ cl11.slots.size ≤ ((9 : Int32)).toNatClampNeg) := inb_of S11 ⟨by decide, by decide⟩
  obtain ⟨T11, h11, X11, e11, W11, st11⟩ := stI X10 hx hZ e10 Ar11 (j := (9 : Int32)) hin11 (g := (mkF m 56 #[.val (.int p1), .val (.int p2), .val (.int p3), .unset, .unset, .unset] [(.int (65533 : Int32)), (.int (9 : Int32)), (.ref b1), (.ref b1)])) rfl rfl (hb hby at_56)
  have Vb1_11 := Arv.set Ar11 q11 S11 M11 H11 G11 rfl W11 9 rfl (Nat.le_of_ble_eq_true rfl)
  replace Vb1_11 : Arv Z h11 b1 k1 .int (17 : Int32) [(.int (0 : Int32)), (.int (9 : Int32)), (.int (10 : Int32)), (.int (13 : Int32)), (.int (32 : Int32)), (.int (55295 : Int32)), (.int (55296 : Int32)), (.int (57343 : Int32)), (.int (57344 : Int32)), (.int (65533 : Int32)), (.int (0 : Int32)), (.int (0 : Int32)), (.int (0 : Int32)), (.int (0 : Int32)), (.int (0 : Int32)), (.int (0 : Int32)), (.int (0 : Int32))] (.int (0 : Int32)) := Vb1_11
  have N11 := Fr.snoc X11 N10 g_b1
  have Z11 : n0 ≤ h11.size := Nat.le_trans Z10 (Nat.le_of_eq W11.size.symm)
  refine Goes.via (B := T11.setTop (mkF m 57 #[.val (.int p1), .val (.int p2), .val (.int p3), .unset, .unset, .unset] [(.ref b1)])) st11 ?_
  refine Goes.via (B := T11.setTop (mkF m 58 #[.val (.int p1), .val (.int p2), .val (.int p3), .unset, .unset, .unset] [(.ref b1), (.ref b1)])) (fun t k => XS.dup X11.here hx rfl (hb hby at_57) rfl rfl k) ?_
  refine Goes.via (B := T11.setTop (mkF m 60 #[.val (.int p1), .val (.int p2), .val (.int p3), .unset, .unset, .unset] [(.int (10 : Int32)), (.ref b1), (.ref b1)])) (fun t k => XS.bipush X11.here hx rfl (hb hby at_58) k) ?_
  refine Goes.via (B := T11.setTop (mkF m 62 #[.val (.int p1), .val (.int p2), .val (.int p3), .unset, .unset, .unset] [(.int (65534 : Int32)), (.int (10 : Int32)), (.ref b1), (.ref b1)])) (fun t k => X11.ldcInt hx hown (mvT hZ (hw _ (List.mem_of_getElem? (i := 6) rfl))) (g := (mkF m 60 #[.val (.int p1), .val (.int p2), .val (.int p3), .unset, .unset, .unset] [(.int (10 : Int32)), (.ref b1), (.ref b1)])) rfl (hb hby at_60) _ k) ?_
  obtain ⟨cl12, Ar12, q12, S12, M12, H12, G12⟩ := Vb1_11
  have hin12 : ¬ ((10 : Int32) < 0 ∨ cl12.slots.size ≤ ((10 : Int32)).toNatClampNeg) := inb_of S12 ⟨by decide, by decide⟩
  obtain ⟨T12, h12, X12, e12, W12, st12⟩ := stI X11 hx hZ e11 Ar12 (j := (10 : Int32)) hin12 (g := (mkF m 62 #[.val (.int p1), .val (.int p2), .val (.int p3), .unset, .unset, .unset] [(.int (65534 : Int32)), (.int (10 : Int32)), (.ref b1), (.ref b1)])) rfl rfl (hb hby at_62)
  have Vb1_12 := Arv.set Ar12 q12 S12 M12 H12 G12 rfl W12 10 rfl (Nat.le_of_ble_eq_true rfl)
  replace Vb1_12 : Arv Z h12 b1 k1 .int (17 : Int32) [(.int (0 : Int32)), (.int (9 : Int32)), (.int (10 : Int32)), (.int (13 : Int32)), (.int (32 : Int32)), (.int (55295 : Int32)), (.int (55296 : Int32)), (.int (57343 : Int32)), (.int (57344 : Int32)), (.int (65533 : Int32)), (.int (65534 : Int32)), (.int (0 : Int32)), (.int (0 : Int32)), (.int (0 : Int32)), (.int (0 : Int32)), (.int (0 : Int32)), (.int (0 : Int32))] (.int (0 : Int32)) := Vb1_12
  have N12 := Fr.snoc X12 N11 g_b1
  have Z12 : n0 ≤ h12.size := Nat.le_trans Z11 (Nat.le_of_eq W12.size.symm)
  refine Goes.via (B := T12.setTop (mkF m 63 #[.val (.int p1), .val (.int p2), .val (.int p3), .unset, .unset, .unset] [(.ref b1)])) st12 ?_
  refine Goes.via (B := T12.setTop (mkF m 64 #[.val (.int p1), .val (.int p2), .val (.int p3), .unset, .unset, .unset] [(.ref b1), (.ref b1)])) (fun t k => XS.dup X12.here hx rfl (hb hby at_63) rfl rfl k) ?_
  refine Goes.via (B := T12.setTop (mkF m 66 #[.val (.int p1), .val (.int p2), .val (.int p3), .unset, .unset, .unset] [(.int (11 : Int32)), (.ref b1), (.ref b1)])) (fun t k => XS.bipush X12.here hx rfl (hb hby at_64) k) ?_
  refine Goes.via (B := T12.setTop (mkF m 68 #[.val (.int p1), .val (.int p2), .val (.int p3), .unset, .unset, .unset] [(.int (65535 : Int32)), (.int (11 : Int32)), (.ref b1), (.ref b1)])) (fun t k => X12.ldcInt hx hown (mvT hZ (hw _ (List.mem_of_getElem? (i := 7) rfl))) (g := (mkF m 66 #[.val (.int p1), .val (.int p2), .val (.int p3), .unset, .unset, .unset] [(.int (11 : Int32)), (.ref b1), (.ref b1)])) rfl (hb hby at_66) _ k) ?_
  obtain ⟨cl13, Ar13, q13, S13, M13, H13, G13⟩ := Vb1_12
  have hin13 : ¬ ((11 : Int32) < 0 ∨ cl13.slots.size ≤ ((11 : Int32)).toNatClampNeg) := inb_of S13 ⟨by decide, by decide⟩
  obtain ⟨T13, h13, X13, e13, W13, st13⟩ := stI X12 hx hZ e12 Ar13 (j := (11 : Int32)) hin13 (g := (mkF m 68 #[.val (.int p1), .val (.int p2), .val (.int p3), .unset, .unset, .unset] [(.int (65535 : Int32)), (.int (11 : Int32)), (.ref b1), (.ref b1)])) rfl rfl (hb hby at_68)
  have Vb1_13 := Arv.set Ar13 q13 S13 M13 H13 G13 rfl W13 11 rfl (Nat.le_of_ble_eq_true rfl)
  replace Vb1_13 : Arv Z h13 b1 k1 .int (17 : Int32) [(.int (0 : Int32)), (.int (9 : Int32)), (.int (10 : Int32)), (.int (13 : Int32)), (.int (32 : Int32)), (.int (55295 : Int32)), (.int (55296 : Int32)), (.int (57343 : Int32)), (.int (57344 : Int32)), (.int (65533 : Int32)), (.int (65534 : Int32)), (.int (65535 : Int32)), (.int (0 : Int32)), (.int (0 : Int32)), (.int (0 : Int32)), (.int (0 : Int32)), (.int (0 : Int32))] (.int (0 : Int32)) := Vb1_13
  have N13 := Fr.snoc X13 N12 g_b1
  have Z13 : n0 ≤ h13.size := Nat.le_trans Z12 (Nat.le_of_eq W13.size.symm)
  refine Goes.via (B := T13.setTop (mkF m 69 #[.val (.int p1), .val (.int p2), .val (.int p3), .unset, .unset, .unset] [(.ref b1)])) st13 ?_
  refine Goes.via (B := T13.setTop (mkF m 70 #[.val (.int p1), .val (.int p2), .val (.int p3), .unset, .unset, .unset] [(.ref b1), (.ref b1)])) (fun t k => XS.dup X13.here hx rfl (hb hby at_69) rfl rfl k) ?_
  refine Goes.via (B := T13.setTop (mkF m 72 #[.val (.int p1), .val (.int p2), .val (.int p3), .unset, .unset, .unset] [(.int (12 : Int32)), (.ref b1), (.ref b1)])) (fun t k => XS.bipush X13.here hx rfl (hb hby at_70) k) ?_
  refine Goes.via (B := T13.setTop (mkF m 74 #[.val (.int p1), .val (.int p2), .val (.int p3), .unset, .unset, .unset] [(.int (65536 : Int32)), (.int (12 : Int32)), (.ref b1), (.ref b1)])) (fun t k => X13.ldcInt hx hown (mvT hZ (hw _ (List.mem_of_getElem? (i := 8) rfl))) (g := (mkF m 72 #[.val (.int p1), .val (.int p2), .val (.int p3), .unset, .unset, .unset] [(.int (12 : Int32)), (.ref b1), (.ref b1)])) rfl (hb hby at_72) _ k) ?_
  obtain ⟨cl14, Ar14, q14, S14, M14, H14, G14⟩ := Vb1_13
  have hin14 : ¬ ((12 : Int32) < 0 ∨ cl14.slots.size ≤ ((12 : Int32)).toNatClampNeg) := inb_of S14 ⟨by decide, by decide⟩
  obtain ⟨T14, h14, X14, e14, W14, st14⟩ := stI X13 hx hZ e13 Ar14 (j := (12 : Int32)) hin14 (g := (mkF m 74 #[.val (.int p1), .val (.int p2), .val (.int p3), .unset, .unset, .unset] [(.int (65536 : Int32)), (.int (12 : Int32)), (.ref b1), (.ref b1)])) rfl rfl (hb hby at_74)
  have Vb1_14 := Arv.set Ar14 q14 S14 M14 H14 G14 rfl W14 12 rfl (Nat.le_of_ble_eq_true rfl)
  replace Vb1_14 : Arv Z h14 b1 k1 .int (17 : Int32) [(.int (0 : Int32)), (.int (9 : Int32)), (.int (10 : Int32)), (.int (13 : Int32)), (.int (32 : Int32)), (.int (55295 : Int32)), (.int (55296 : Int32)), (.int (57343 : Int32)), (.int (57344 : Int32)), (.int (65533 : Int32)), (.int (65534 : Int32)), (.int (65535 : Int32)), (.int (65536 : Int32)), (.int (0 : Int32)), (.int (0 : Int32)), (.int (0 : Int32)), (.int (0 : Int32))] (.int (0 : Int32)) := Vb1_14
  have N14 := Fr.snoc X14 N13 g_b1
  have Z14 : n0 ≤ h14.size := Nat.le_trans Z13 (Nat.le_of_eq W14.size.symm)
  refine Goes.via (B := T14.setTop (mkF m 75 #[.val (.int p1), .val (.int p2), .val (.int p3), .unset, .unset, .unset] [(.ref b1)])) st14 ?_
  refine Goes.via (B := T14.setTop (mkF m 76 #[.val (.int p1), .val (.int p2), .val (.int p3), .unset, .unset, .unset] [(.ref b1), (.ref b1)])) (fun t k => XS.dup X14.here hx rfl (hb hby at_75) rfl rfl k) ?_
  refine Goes.via (B := T14.setTop (mkF m 78 #[.val (.int p1), .val (.int p2), .val (.int p3), .unset, .unset, .unset] [(.int (13 : Int32)), (.ref b1), (.ref b1)])) (fun t k => XS.bipush X14.here hx rfl (hb hby at_76) k) ?_
  refine Goes.via (B := T14.setTop (mkF m 80 #[.val (.int p1), .val (.int p2), .val (.int p3), .unset, .unset, .unset] [(.int (1114111 : Int32)), (.int (13 : Int32)), (.ref b1), (.ref b1)])) (fun t k => X14.ldcInt hx hown (mvT hZ (hw _ (List.mem_of_getElem? (i := 9) rfl))) (g := (mkF m 78 #[.val (.int p1), .val (.int p2), .val (.int p3), .unset, .unset, .unset] [(.int (13 : Int32)), (.ref b1), (.ref b1)])) rfl (hb hby at_78) _ k) ?_
  obtain ⟨cl15, Ar15, q15, S15, M15, H15, G15⟩ := Vb1_14
  have hin15 : ¬ ((13 : Int32) < 0 ∨ cl15.slots.size ≤ ((13 : Int32)).toNatClampNeg) := inb_of S15 ⟨by decide, by decide⟩
  obtain ⟨T15, h15, X15, e15, W15, st15⟩ := stI X14 hx hZ e14 Ar15 (j := (13 : Int32)) hin15 (g := (mkF m 80 #[.val (.int p1), .val (.int p2), .val (.int p3), .unset, .unset, .unset] [(.int (1114111 : Int32)), (.int (13 : Int32)), (.ref b1), (.ref b1)])) rfl rfl (hb hby at_80)
  have Vb1_15 := Arv.set Ar15 q15 S15 M15 H15 G15 rfl W15 13 rfl (Nat.le_of_ble_eq_true rfl)
  replace Vb1_15 : Arv Z h15 b1 k1 .int (17 : Int32) [(.int (0 : Int32)), (.int (9 : Int32)), (.int (10 : Int32)), (.int (13 : Int32)), (.int (32 : Int32)), (.int (55295 : Int32)), (.int (55296 : Int32)), (.int (57343 : Int32)), (.int (57344 : Int32)), (.int (65533 : Int32)), (.int (65534 : Int32)), (.int (65535 : Int32)), (.int (65536 : Int32)), (.int (1114111 : Int32)), (.int (0 : Int32)), (.int (0 : Int32)), (.int (0 : Int32))] (.int (0 : Int32)) := Vb1_15
  have N15 := Fr.snoc X15 N14 g_b1
  have Z15 : n0 ≤ h15.size := Nat.le_trans Z14 (Nat.le_of_eq W15.size.symm)
  refine Goes.via (B := T15.setTop (mkF m 81 #[.val (.int p1), .val (.int p2), .val (.int p3), .unset, .unset, .unset] [(.ref b1)])) st15 ?_
  refine Goes.via (B := T15.setTop (mkF m 82 #[.val (.int p1), .val (.int p2), .val (.int p3), .unset, .unset, .unset] [(.ref b1), (.ref b1)])) (fun t k => XS.dup X15.here hx rfl (hb hby at_81) rfl rfl k) ?_
  refine Goes.via (B := T15.setTop (mkF m 84 #[.val (.int p1), .val (.int p2), .val (.int p3), .unset, .unset, .unset] [(.int (14 : Int32)), (.ref b1), (.ref b1)])) (fun t k => XS.bipush X15.here hx rfl (hb hby at_82) k) ?_
  refine Goes.via (B := T15.setTop (mkF m 86 #[.val (.int p1), .val (.int p2), .val (.int p3), .unset, .unset, .unset] [(.int (1114112 : Int32)), (.int (14 : Int32)), (.ref b1), (.ref b1)])) (fun t k => X15.ldcInt hx hown (mvT hZ (hw _ (List.mem_of_getElem? (i := 10) rfl))) (g := (mkF m 84 #[.val (.int p1), .val (.int p2), .val (.int p3), .unset, .unset, .unset] [(.int (14 : Int32)), (.ref b1), (.ref b1)])) rfl (hb hby at_84) _ k) ?_
  obtain ⟨cl16, Ar16, q16, S16, M16, H16, G16⟩ := Vb1_15
  have hin16 : ¬ ((14 : Int32) < 0 ∨ cl16.slots.size ≤ ((14 : Int32)).toNatClampNeg) := inb_of S16 ⟨by decide, by decide⟩
  obtain ⟨T16, h16, X16, e16, W16, st16⟩ := stI X15 hx hZ e15 Ar16 (j := (14 : Int32)) hin16 (g := (mkF m 86 #[.val (.int p1), .val (.int p2), .val (.int p3), .unset, .unset, .unset] [(.int (1114112 : Int32)), (.int (14 : Int32)), (.ref b1), (.ref b1)])) rfl rfl (hb hby at_86)
  have Vb1_16 := Arv.set Ar16 q16 S16 M16 H16 G16 rfl W16 14 rfl (Nat.le_of_ble_eq_true rfl)
  replace Vb1_16 : Arv Z h16 b1 k1 .int (17 : Int32) [(.int (0 : Int32)), (.int (9 : Int32)), (.int (10 : Int32)), (.int (13 : Int32)), (.int (32 : Int32)), (.int (55295 : Int32)), (.int (55296 : Int32)), (.int (57343 : Int32)), (.int (57344 : Int32)), (.int (65533 : Int32)), (.int (65534 : Int32)), (.int (65535 : Int32)), (.int (65536 : Int32)), (.int (1114111 : Int32)), (.int (1114112 : Int32)), (.int (0 : Int32)), (.int (0 : Int32))] (.int (0 : Int32)) := Vb1_16
  have N16 := Fr.snoc X16 N15 g_b1
  have Z16 : n0 ≤ h16.size := Nat.le_trans Z15 (Nat.le_of_eq W16.size.symm)
  refine Goes.via (B := T16.setTop (mkF m 87 #[.val (.int p1), .val (.int p2), .val (.int p3), .unset, .unset, .unset] [(.ref b1)])) st16 ?_
  refine Goes.via (B := T16.setTop (mkF m 88 #[.val (.int p1), .val (.int p2), .val (.int p3), .unset, .unset, .unset] [(.ref b1), (.ref b1)])) (fun t k => XS.dup X16.here hx rfl (hb hby at_87) rfl rfl k) ?_
  refine Goes.via (B := T16.setTop (mkF m 90 #[.val (.int p1), .val (.int p2), .val (.int p3), .unset, .unset, .unset] [(.int (15 : Int32)), (.ref b1), (.ref b1)])) (fun t k => XS.bipush X16.here hx rfl (hb hby at_88) k) ?_
  refine Goes.via (B := T16.setTop (mkF m 92 #[.val (.int p1), .val (.int p2), .val (.int p3), .unset, .unset, .unset] [(.int (-2147483648 : Int32)), (.int (15 : Int32)), (.ref b1), (.ref b1)])) (fun t k => X16.ldcInt hx hown (mvT hZ (hw _ (List.mem_of_getElem? (i := 11) rfl))) (g := (mkF m 90 #[.val (.int p1), .val (.int p2), .val (.int p3), .unset, .unset, .unset] [(.int (15 : Int32)), (.ref b1), (.ref b1)])) rfl (hb hby at_90) _ k) ?_
  obtain ⟨cl17, Ar17, q17, S17, M17, H17, G17⟩ := Vb1_16
  have hin17 : ¬ ((15 : Int32) < 0 ∨ cl17.slots.size ≤ ((15 : Int32)).toNatClampNeg) := inb_of S17 ⟨by decide, by decide⟩
  obtain ⟨T17, h17, X17, e17, W17, st17⟩ := stI X16 hx hZ e16 Ar17 (j := (15 : Int32)) hin17 (g := (mkF m 92 #[.val (.int p1), .val (.int p2), .val (.int p3), .unset, .unset, .unset] [(.int (-2147483648 : Int32)), (.int (15 : Int32)), (.ref b1), (.ref b1)])) rfl rfl (hb hby at_92)
  have Vb1_17 := Arv.set Ar17 q17 S17 M17 H17 G17 rfl W17 15 rfl (Nat.le_of_ble_eq_true rfl)
  replace Vb1_17 : Arv Z h17 b1 k1 .int (17 : Int32) [(.int (0 : Int32)), (.int (9 : Int32)), (.int (10 : Int32)), (.int (13 : Int32)), (.int (32 : Int32)), (.int (55295 : Int32)), (.int (55296 : Int32)), (.int (57343 : Int32)), (.int (57344 : Int32)), (.int (65533 : Int32)), (.int (65534 : Int32)), (.int (65535 : Int32)), (.int (65536 : Int32)), (.int (1114111 : Int32)), (.int (1114112 : Int32)), (.int (-2147483648 : Int32)), (.int (0 : Int32))] (.int (0 : Int32)) := Vb1_17
  have N17 := Fr.snoc X17 N16 g_b1
  have Z17 : n0 ≤ h17.size := Nat.le_trans Z16 (Nat.le_of_eq W17.size.symm)
  refine Goes.via (B := T17.setTop (mkF m 93 #[.val (.int p1), .val (.int p2), .val (.int p3), .unset, .unset, .unset] [(.ref b1)])) st17 ?_
  refine Goes.via (B := T17.setTop (mkF m 94 #[.val (.int p1), .val (.int p2), .val (.int p3), .unset, .unset, .unset] [(.ref b1), (.ref b1)])) (fun t k => XS.dup X17.here hx rfl (hb hby at_93) rfl rfl k) ?_
  refine Goes.via (B := T17.setTop (mkF m 96 #[.val (.int p1), .val (.int p2), .val (.int p3), .unset, .unset, .unset] [(.int (16 : Int32)), (.ref b1), (.ref b1)])) (fun t k => XS.bipush X17.here hx rfl (hb hby at_94) k) ?_
  refine Goes.via (B := T17.setTop (mkF m 98 #[.val (.int p1), .val (.int p2), .val (.int p3), .unset, .unset, .unset] [(.int (2147483647 : Int32)), (.int (16 : Int32)), (.ref b1), (.ref b1)])) (fun t k => X17.ldcInt hx hown (mvT hZ (hw _ (List.mem_of_getElem? (i := 12) rfl))) (g := (mkF m 96 #[.val (.int p1), .val (.int p2), .val (.int p3), .unset, .unset, .unset] [(.int (16 : Int32)), (.ref b1), (.ref b1)])) rfl (hb hby at_96) _ k) ?_
  obtain ⟨cl18, Ar18, q18, S18, M18, H18, G18⟩ := Vb1_17
  have hin18 : ¬ ((16 : Int32) < 0 ∨ cl18.slots.size ≤ ((16 : Int32)).toNatClampNeg) := inb_of S18 ⟨by decide, by decide⟩
  obtain ⟨T18, h18, X18, e18, W18, st18⟩ := stI X17 hx hZ e17 Ar18 (j := (16 : Int32)) hin18 (g := (mkF m 98 #[.val (.int p1), .val (.int p2), .val (.int p3), .unset, .unset, .unset] [(.int (2147483647 : Int32)), (.int (16 : Int32)), (.ref b1), (.ref b1)])) rfl rfl (hb hby at_98)
  have Vb1_18 := Arv.set Ar18 q18 S18 M18 H18 G18 rfl W18 16 rfl (Nat.le_of_ble_eq_true rfl)
  replace Vb1_18 : Arv Z h18 b1 k1 .int (17 : Int32) [(.int (0 : Int32)), (.int (9 : Int32)), (.int (10 : Int32)), (.int (13 : Int32)), (.int (32 : Int32)), (.int (55295 : Int32)), (.int (55296 : Int32)), (.int (57343 : Int32)), (.int (57344 : Int32)), (.int (65533 : Int32)), (.int (65534 : Int32)), (.int (65535 : Int32)), (.int (65536 : Int32)), (.int (1114111 : Int32)), (.int (1114112 : Int32)), (.int (-2147483648 : Int32)), (.int (2147483647 : Int32))] (.int (0 : Int32)) := Vb1_18
  have N18 := Fr.snoc X18 N17 g_b1
  have Z18 : n0 ≤ h18.size := Nat.le_trans Z17 (Nat.le_of_eq W18.size.symm)
  refine Goes.via (B := T18.setTop (mkF m 99 #[.val (.int p1), .val (.int p2), .val (.int p3), .unset, .unset, .unset] [(.ref b1)])) st18 ?_
  refine Goes.via (B := T18.setTop (mkF m 100 #[.val (.int p1), .val (.int p2), .val (.int p3), .val (.ref b1), .unset, .unset] [])) (fun t k => XS.astoreN X18.here hx rfl (hb hby at_99) rfl rfl (l' := #[.val (.int p1), .val (.int p2), .val (.int p3), .val (.ref b1), .unset, .unset]) rfl k) ?_
  refine Goes.via (B := T18.setTop (mkF m 101 #[.val (.int p1), .val (.int p2), .val (.int p3), .val (.ref b1), .unset, .unset] [(.int p2)])) (fun t k => XS.iloadN X18.here hx rfl (hb hby at_100) rfl k) ?_
  refine Goes.via (B := T18.setTop (mkF m 102 #[.val (.int p1), .val (.int p2), .val (.int p3), .val (.ref b1), .unset, .unset] [(.int (1 : Int32)), (.int p2)])) (fun t k => XS.iconst X18.here hx rfl (hb hby at_101) k) ?_
  refine Goes.via (B := T18.setTop (mkF m 103 #[.val (.int p1), .val (.int p2), .val (.int p3), .val (.ref b1), .unset, .unset] [(.int (p2 &&& (1 : Int32)))])) (fun t k => XS.iand X18.here hx rfl (hb hby at_102) rfl k) ?_
  by_cases c103_19 : (p2 &&& (1 : Int32)) = (0 : Int32)
  · refine Goes.via (B := T18.setTop (mkF m 106 #[.val (.int p1), .val (.int p2), .val (.int p3), .val (.ref b1), .unset, .unset] [])) (fun t k => XS.ifNo X18.here hx rfl (hb hby at_103) rfl ((if0 _ _).trans (teq c103_19).2) k) ?_
    refine Goes.via (B := T18.setTop (mkF m 107 #[.val (.int p1), .val (.int p2), .val (.int p3), .val (.ref b1), .unset, .unset] [(.int p1)])) (fun t k => XS.iloadN X18.here hx rfl (hb hby at_106) rfl k) ?_
    refine Goes.via (B := T18.setTop (mkF m 109 #[.val (.int p1), .val (.int p2), .val (.int p3), .val (.ref b1), .val (.int p1), .unset] [])) (fun t k => XS.istore X18.here hx rfl (hb hby at_107) rfl (l' := #[.val (.int p1), .val (.int p2), .val (.int p3), .val (.ref b1), .val (.int p1), .unset]) rfl k) ?_
    generalize hv4 : p1 = v4
    refine Goes.via (B := T18.setTop (mkF m 126 #[.val (.int v4), .val (.int p2), .val (.int p3), .val (.ref b1), .val (.int v4), .unset] [])) (fun t k => XS.goto X18.here hx rfl (pc0 := 109) (pc' := 126) rfl (hb hby at_109) (by decide) (by decide) k) ?_
    refine Goes.via (B := T18.setTop (mkF m 128 #[.val (.int v4), .val (.int p2), .val (.int p3), .val (.ref b1), .val (.int v4), .unset] [(.int v4)])) (fun t k => XS.iload X18.here hx rfl (hb hby at_126) rfl k) ?_
    obtain ⟨_, _, ⟨T20, L20, kk20, nn20⟩, -, X20, ⟨Lc20, hQ20, l20, y20, z20⟩, st20⟩ := Jvm.LawKit.callS X18 hx (y := (⟨"com/example/austere_serializer/austereserializer/XmlNamesIsXmlCharPinLaw", "excluded", "(I)Z"⟩ : MethodName)) hown (mvT hZ (hw _ (List.mem_of_getElem? (i := 13) rfl))) (mvT hZ (hw _ (List.mem_of_getElem? (i := 14) rfl))) (mvT hZ (hw _ (List.mem_of_getElem? (i := 15) rfl))) (mvT hZ (hw _ (List.mem_of_getElem? (i := 16) rfl))) (by decide) (backOf (W := 0) (rm2 l Z a0 hw [] v4 h18 n0 Z18 ) hZ (hw _ (List.mem_of_getElem? (i := 16) rfl)) (hw _ (List.mem_of_getElem? (i := 15) rfl)) (by decide) (by decide)) (g := (mkF m 128 #[.val (.int v4), .val (.int p2), .val (.int p3), .val (.ref b1), .val (.int v4), .unset] [(.int v4)])) rfl (by rw [hml]; rfl) (argsL := [(.int v4)]) (rest := []) (lenOf pd__I_Z rfl) rfl (by show 2 * 0 + _ ≤ _; exact Nat.le_of_eq rfl) (hb hby at_128) (fun _ _ => ⟨rfl, e18, (by decide : 1 + 0 ≤ _), (by decide : 17 + 0 ≤ _)⟩)
    dsimp only [Pt.U, Pt.locs, Pt.cells, Pt.slots] at X20 l20 y20 z20 st20 hQ20
    subst l20 y20 z20
    obtain ⟨rfl, Nq20, hq20⟩ := hQ20
    have N20 := Fr.app N18 Nq20
    refine Goes.via (B := T20.setTop (mkF m 131 #[.val (.int v4), .val (.int p2), .val (.int p3), .val (.ref b1), .val (.int v4), .unset] [(.int (own_f2 v4))])) st20 ?_
    refine own_join (B := T20.setTop (mkF m 139 #[.val (.int v4), .val (.int p2), .val (.int p3), .val (.ref b1), .val (.int v4), .unset] [(.int (own_e1 v4))])) (fun kj => ?_) ?_
    · by_cases c131_21 : (own_f2 v4) = (0 : Int32)
      · refine Goes.via (B := T20.setTop (mkF m 134 #[.val (.int v4), .val (.int p2), .val (.int p3), .val (.ref b1), .val (.int v4), .unset] [])) (fun t k => XS.ifNo X20.here hx rfl (hb hby at_131) rfl ((if0 _ _).trans (teq c131_21).2) k) ?_
        refine Goes.via (B := T20.setTop (mkF m 135 #[.val (.int v4), .val (.int p2), .val (.int p3), .val (.ref b1), .val (.int v4), .unset] [(.int (1 : Int32))])) (fun t k => XS.iconst X20.here hx rfl (hb hby at_134) k) ?_
        refine Goes.via (B := T20.setTop (mkF m 139 #[.val (.int v4), .val (.int p2), .val (.int p3), .val (.ref b1), .val (.int v4), .unset] [(.int (1 : Int32))])) (fun t k => XS.goto X20.here hx rfl (pc0 := 135) (pc' := 139) rfl (hb hby at_135) (by decide) (by decide) k) ?_
        have hj : (own_e1 v4) = (1 : Int32) := by rw [own_e1, if_pos c131_21]
        rw [hj] at kj
        exact kj
      · refine Goes.via (B := T20.setTop (mkF m 138 #[.val (.int v4), .val (.int p2), .val (.int p3), .val (.ref b1), .val (.int v4), .unset] [])) (fun t k => XS.ifYes X20.here hx rfl (pc0 := 131) (pc' := 138) rfl (hb hby at_131) rfl ((if0 _ _).trans (feq c131_21).2) (by decide) (by decide) k) ?_
        refine Goes.via (B := T20.setTop (mkF m 139 #[.val (.int v4), .val (.int p2), .val (.int p3), .val (.ref b1), .val (.int v4), .unset] [(.int (0 : Int32))])) (fun t k => XS.iconst X20.here hx rfl (hb hby at_138) k) ?_
        have hj : (own_e1 v4) = (0 : Int32) := by rw [own_e1, if_neg c131_21]
        rw [hj] at kj
        exact kj
    refine Goes.via (B := T20.setTop (mkF m 141 #[.val (.int v4), .val (.int p2), .val (.int p3), .val (.ref b1), .val (.int v4), .val (.int (own_e1 v4))] [])) (fun t k => XS.istore X20.here hx rfl (hb hby at_139) rfl (l' := #[.val (.int v4), .val (.int p2), .val (.int p3), .val (.ref b1), .val (.int v4), .val (.int (own_e1 v4))]) rfl k) ?_
    refine Goes.via (B := T20.setTop (mkF m 143 #[.val (.int v4), .val (.int p2), .val (.int p3), .val (.ref b1), .val (.int v4), .val (.int (own_e1 v4))] [(.int v4)])) (fun t k => XS.iload X20.here hx rfl (hb hby at_141) rfl k) ?_
    obtain ⟨_, _, ⟨T22, L22, kk22, nn22⟩, -, X22, ⟨Lc22, hQ22, l22, y22, z22⟩, st22⟩ := Jvm.LawKit.callS X20 hx (y := (⟨"com/example/austere_serializer/austereserializer/XmlNames", "isXmlChar", "(I)Z"⟩ : MethodName)) hown (mvT hZ (hw _ (List.mem_of_getElem? (i := 17) rfl))) (mvT hZ (hw _ (List.mem_of_getElem? (i := 18) rfl))) (mvT hZ (hw _ (List.mem_of_getElem? (i := 19) rfl))) (mvT hZ (hw _ (List.mem_of_getElem? (i := 20) rfl))) (by decide) (backOf (W := 0) (rm1 l Z a0 hw [] v4 h18 n0 Z18 ) hZ (hw _ (List.mem_of_getElem? (i := 20) rfl)) (hw _ (List.mem_of_getElem? (i := 19) rfl)) (by decide) (by decide)) (g := (mkF m 143 #[.val (.int v4), .val (.int p2), .val (.int p3), .val (.ref b1), .val (.int v4), .val (.int (own_e1 v4))] [(.int v4)])) rfl (by rw [hml]; rfl) (argsL := [(.int v4)]) (rest := []) (lenOf pd__I_Z rfl) rfl (by show 2 * 0 + _ ≤ _; exact Nat.le_of_eq rfl) (hb hby at_143) (fun _ _ => ⟨rfl, hq20, (by decide : 1 + 0 ≤ _), (by decide : 17 + 0 ≤ _)⟩)
    dsimp only [Pt.U, Pt.locs, Pt.cells, Pt.slots] at X22 l22 y22 z22 st22 hQ22
    subst l22 y22 z22
    obtain ⟨rfl, Nq22, hq22⟩ := hQ22
    have N22 := Fr.app N20 Nq22
    refine Goes.via (B := T22.setTop (mkF m 146 #[.val (.int v4), .val (.int p2), .val (.int p3), .val (.ref b1), .val (.int v4), .val (.int (own_e1 v4))] [(.int (own_f1 v4))])) st22 ?_
    refine Goes.via (B := T22.setTop (mkF m 148 #[.val (.int v4), .val (.int p2), .val (.int p3), .val (.ref b1), .val (.int v4), .val (.int (own_e1 v4))] [(.int (own_e1 v4)), (.int (own_f1 v4))])) (fun t k => XS.iload X22.here hx rfl (hb hby at_146) rfl k) ?_
    refine Goes.via (B := T22.setTop (mkF m 151 #[.val (.int v4), .val (.int p2), .val (.int p3), .val (.ref b1), .val (.int v4), .val (.int (own_e1 v4))] [])) (fun t k => XS.icmpNo X22.here hx rfl (hb hby at_148) rfl (teq (own_same v4)).2 k) ?_
    refine Goes.via (B := T22.setTop (mkF m 152 #[.val (.int v4), .val (.int p2), .val (.int p3), .val (.ref b1), .val (.int v4), .val (.int (own_e1 v4))] [(.int (1 : Int32))])) (fun t k => XS.iconst X22.here hx rfl (hb hby at_151) k) ?_
    refine Goes.via (B := T22.setTop (mkF m 156 #[.val (.int v4), .val (.int p2), .val (.int p3), .val (.ref b1), .val (.int v4), .val (.int (own_e1 v4))] [(.int (1 : Int32))])) (fun t k => XS.goto X22.here hx rfl (pc0 := 152) (pc' := 156) rfl (hb hby at_152) (by decide) (by decide) k) ?_
    exact own_out X22 (v := some (.int (1 : Int32))) (fun h => by rw [Bd.returns] at h; cases h) Bd.notSynchronized (fun fs hr => retOut X22 hx Bd.returns rfl (Or.inl ⟨rfl, Or.inr (Or.inl rfl), _, rfl⟩) (hb hby at_156) hr) ⟨rfl, N22⟩ (by decide) (by decide)
  · refine Goes.via (B := T18.setTop (mkF m 112 #[.val (.int p1), .val (.int p2), .val (.int p3), .val (.ref b1), .unset, .unset] [])) (fun t k => XS.ifYes X18.here hx rfl (pc0 := 103) (pc' := 112) rfl (hb hby at_103) rfl ((if0 _ _).trans (feq c103_19).2) (by decide) (by decide) k) ?_
    refine Goes.via (B := T18.setTop (mkF m 113 #[.val (.int p1), .val (.int p2), .val (.int p3), .val (.ref b1), .unset, .unset] [(.ref b1)])) (fun t k => XS.aloadN X18.here hx rfl (hb hby at_112) rfl rfl k) ?_
    refine Goes.via (B := T18.setTop (mkF m 114 #[.val (.int p1), .val (.int p2), .val (.int p3), .val (.ref b1), .unset, .unset] [(.int p2), (.ref b1)])) (fun t k => XS.iloadN X18.here hx rfl (hb hby at_113) rfl k) ?_
    refine Goes.via (B := T18.setTop (mkF m 115 #[.val (.int p1), .val (.int p2), .val (.int p3), .val (.ref b1), .unset, .unset] [(.int (1 : Int32)), (.int p2), (.ref b1)])) (fun t k => XS.iconst X18.here hx rfl (hb hby at_114) k) ?_
    refine Goes.via (B := T18.setTop (mkF m 116 #[.val (.int p1), .val (.int p2), .val (.int p3), .val (.ref b1), .unset, .unset] [(.int ((p2.toUInt32 >>> ((1 : Int32) &&& 31).toUInt32).toInt32)), (.ref b1)])) (fun t k => XS.iushr X18.here hx rfl (hb hby at_115) rfl k) ?_
    refine Goes.via (B := T18.setTop (mkF m 118 #[.val (.int p1), .val (.int p2), .val (.int p3), .val (.ref b1), .unset, .unset] [(.int (17 : Int32)), (.int ((p2.toUInt32 >>> ((1 : Int32) &&& 31).toUInt32).toInt32)), (.ref b1)])) (fun t k => XS.bipush X18.here hx rfl (hb hby at_116) k) ?_
    refine Goes.via (B := T18.setTop (mkF m 119 #[.val (.int p1), .val (.int p2), .val (.int p3), .val (.ref b1), .unset, .unset] [(.int (((p2.toUInt32 >>> ((1 : Int32) &&& 31).toUInt32).toInt32) % (17 : Int32))), (.ref b1)])) (fun t k => iremM X18 hx rfl (hb hby at_118) rfl (by decide) k) ?_
    generalize hj1 : (((p2.toUInt32 >>> ((1 : Int32) &&& 31).toUInt32).toInt32) % (17 : Int32)) = j1
    obtain ⟨cl23, Ar23, q23, S23, M23, H23, G23⟩ := Vb1_18
    have hin23 : ¬ (j1 < 0 ∨ cl23.slots.size ≤ (j1).toNatClampNeg) := inb_of S23 (own_idx hj1)
    obtain ⟨w23, hw23⟩ := own_isint (G23 _ (Nat.lt_of_not_le fun y => hin23 (Or.inr y)))
    have hat23 : cl23.slots[(j1).toNatClampNeg]? = some (.int w23) := H23.at hin23 hw23
    refine Goes.via (B := T18.setTop (mkF m 120 #[.val (.int p1), .val (.int p2), .val (.int p3), .val (.ref b1), .unset, .unset] [(.int w23)])) (fun t k => X18.iaload hx (j := j1) (v := (.int w23)) (by rw [e18]; exact Ar23.1) (State.isArrayOf_alike hZ.alike Ar23.2.1) Ar23.2.2 hin23 hat23 (g := (mkF m 119 #[.val (.int p1), .val (.int p2), .val (.int p3), .val (.ref b1), .unset, .unset] [(.int j1), (.ref b1)])) rfl rfl (hb hby at_119) _ k) ?_
    refine Goes.via (B := T18.setTop (mkF m 121 #[.val (.int p1), .val (.int p2), .val (.int p3), .val (.ref b1), .unset, .unset] [(.int p3), (.int w23)])) (fun t k => XS.iloadN X18.here hx rfl (hb hby at_120) rfl k) ?_
    refine Goes.via (B := T18.setTop (mkF m 122 #[.val (.int p1), .val (.int p2), .val (.int p3), .val (.ref b1), .unset, .unset] [(.int (5 : Int32)), (.int p3), (.int w23)])) (fun t k => XS.iconst X18.here hx rfl (hb hby at_121) k) ?_
    refine Goes.via (B := T18.setTop (mkF m 123 #[.val (.int p1), .val (.int p2), .val (.int p3), .val (.ref b1), .unset, .unset] [(.int (p3 % (5 : Int32))), (.int w23)])) (fun t k => iremM X18 hx rfl (hb hby at_122) rfl (by decide) k) ?_
    refine Goes.via (B := T18.setTop (mkF m 124 #[.val (.int p1), .val (.int p2), .val (.int p3), .val (.ref b1), .unset, .unset] [(.int (w23 + (p3 % (5 : Int32))))])) (fun t k => XS.iadd X18.here hx rfl (hb hby at_123) rfl k) ?_
    refine Goes.via (B := T18.setTop (mkF m 126 #[.val (.int p1), .val (.int p2), .val (.int p3), .val (.ref b1), .val (.int (w23 + (p3 % (5 : Int32)))), .unset] [])) (fun t k => XS.istore X18.here hx rfl (hb hby at_124) rfl (l' := #[.val (.int p1), .val (.int p2), .val (.int p3), .val (.ref b1), .val (.int (w23 + (p3 % (5 : Int32)))), .unset]) rfl k) ?_
    generalize hv4 : (w23 + (p3 % (5 : Int32))) = v4
    refine Goes.via (B := T18.setTop (mkF m 128 #[.val (.int p1), .val (.int p2), .val (.int p3), .val (.ref b1), .val (.int v4), .unset] [(.int v4)])) (fun t k => XS.iload X18.here hx rfl (hb hby at_126) rfl k) ?_
    obtain ⟨_, _, ⟨T24, L24, kk24, nn24⟩, -, X24, ⟨Lc24, hQ24, l24, y24, z24⟩, st24⟩ := Jvm.LawKit.callS X18 hx (y := (⟨"com/example/austere_serializer/austereserializer/XmlNamesIsXmlCharPinLaw", "excluded", "(I)Z"⟩ : MethodName)) hown (mvT hZ (hw _ (List.mem_of_getElem? (i := 13) rfl))) (mvT hZ (hw _ (List.mem_of_getElem? (i := 14) rfl))) (mvT hZ (hw _ (List.mem_of_getElem? (i := 15) rfl))) (mvT hZ (hw _ (List.mem_of_getElem? (i := 16) rfl))) (by decide) (backOf (W := 0) (rm2 l Z a0 hw [] v4 h18 n0 Z18 ) hZ (hw _ (List.mem_of_getElem? (i := 16) rfl)) (hw _ (List.mem_of_getElem? (i := 15) rfl)) (by decide) (by decide)) (g := (mkF m 128 #[.val (.int p1), .val (.int p2), .val (.int p3), .val (.ref b1), .val (.int v4), .unset] [(.int v4)])) rfl (by rw [hml]; rfl) (argsL := [(.int v4)]) (rest := []) (lenOf pd__I_Z rfl) rfl (by show 2 * 0 + _ ≤ _; exact Nat.le_of_eq rfl) (hb hby at_128) (fun _ _ => ⟨rfl, e18, (by decide : 1 + 0 ≤ _), (by decide : 17 + 0 ≤ _)⟩)
    dsimp only [Pt.U, Pt.locs, Pt.cells, Pt.slots] at X24 l24 y24 z24 st24 hQ24
    subst l24 y24 z24
    obtain ⟨rfl, Nq24, hq24⟩ := hQ24
    have N24 := Fr.app N18 Nq24
    refine Goes.via (B := T24.setTop (mkF m 131 #[.val (.int p1), .val (.int p2), .val (.int p3), .val (.ref b1), .val (.int v4), .unset] [(.int (own_f2 v4))])) st24 ?_
    refine own_join (B := T24.setTop (mkF m 139 #[.val (.int p1), .val (.int p2), .val (.int p3), .val (.ref b1), .val (.int v4), .unset] [(.int (own_e1 v4))])) (fun kj => ?_) ?_
    · by_cases c131_25 : (own_f2 v4) = (0 : Int32)
      · refine Goes.via (B := T24.setTop (mkF m 134 #[.val (.int p1), .val (.int p2), .val (.int p3), .val (.ref b1), .val (.int v4), .unset] [])) (fun t k => XS.ifNo X24.here hx rfl (hb hby at_131) rfl ((if0 _ _).trans (teq c131_25).2) k) ?_
        refine Goes.via (B := T24.setTop (mkF m 135 #[.val (.int p1), .val (.int p2), .val (.int p3), .val (.ref b1), .val (.int v4), .unset] [(.int (1 : Int32))])) (fun t k => XS.iconst X24.here hx rfl (hb hby at_134) k) ?_
        refine Goes.via (B := T24.setTop (mkF m 139 #[.val (.int p1), .val (.int p2), .val (.int p3), .val (.ref b1), .val (.int v4), .unset] [(.int (1 : Int32))])) (fun t k => XS.goto X24.here hx rfl (pc0 := 135) (pc' := 139) rfl (hb hby at_135) (by decide) (by decide) k) ?_
        have hj : (own_e1 v4) = (1 : Int32) := by rw [own_e1, if_pos c131_25]
        rw [hj] at kj
        exact kj
      · refine Goes.via (B := T24.setTop (mkF m 138 #[.val (.int p1), .val (.int p2), .val (.int p3), .val (.ref b1), .val (.int v4), .unset] [])) (fun t k => XS.ifYes X24.here hx rfl (pc0 := 131) (pc' := 138) rfl (hb hby at_131) rfl ((if0 _ _).trans (feq c131_25).2) (by decide) (by decide) k) ?_
        refine Goes.via (B := T24.setTop (mkF m 139 #[.val (.int p1), .val (.int p2), .val (.int p3), .val (.ref b1), .val (.int v4), .unset] [(.int (0 : Int32))])) (fun t k => XS.iconst X24.here hx rfl (hb hby at_138) k) ?_
        have hj : (own_e1 v4) = (0 : Int32) := by rw [own_e1, if_neg c131_25]
        rw [hj] at kj
        exact kj
    refine Goes.via (B := T24.setTop (mkF m 141 #[.val (.int p1), .val (.int p2), .val (.int p3), .val (.ref b1), .val (.int v4), .val (.int (own_e1 v4))] [])) (fun t k => XS.istore X24.here hx rfl (hb hby at_139) rfl (l' := #[.val (.int p1), .val (.int p2), .val (.int p3), .val (.ref b1), .val (.int v4), .val (.int (own_e1 v4))]) rfl k) ?_
    refine Goes.via (B := T24.setTop (mkF m 143 #[.val (.int p1), .val (.int p2), .val (.int p3), .val (.ref b1), .val (.int v4), .val (.int (own_e1 v4))] [(.int v4)])) (fun t k => XS.iload X24.here hx rfl (hb hby at_141) rfl k) ?_
    obtain ⟨_, _, ⟨T26, L26, kk26, nn26⟩, -, X26, ⟨Lc26, hQ26, l26, y26, z26⟩, st26⟩ := Jvm.LawKit.callS X24 hx (y := (⟨"com/example/austere_serializer/austereserializer/XmlNames", "isXmlChar", "(I)Z"⟩ : MethodName)) hown (mvT hZ (hw _ (List.mem_of_getElem? (i := 17) rfl))) (mvT hZ (hw _ (List.mem_of_getElem? (i := 18) rfl))) (mvT hZ (hw _ (List.mem_of_getElem? (i := 19) rfl))) (mvT hZ (hw _ (List.mem_of_getElem? (i := 20) rfl))) (by decide) (backOf (W := 0) (rm1 l Z a0 hw [] v4 h18 n0 Z18 ) hZ (hw _ (List.mem_of_getElem? (i := 20) rfl)) (hw _ (List.mem_of_getElem? (i := 19) rfl)) (by decide) (by decide)) (g := (mkF m 143 #[.val (.int p1), .val (.int p2), .val (.int p3), .val (.ref b1), .val (.int v4), .val (.int (own_e1 v4))] [(.int v4)])) rfl (by rw [hml]; rfl) (argsL := [(.int v4)]) (rest := []) (lenOf pd__I_Z rfl) rfl (by show 2 * 0 + _ ≤ _; exact Nat.le_of_eq rfl) (hb hby at_143) (fun _ _ => ⟨rfl, hq24, (by decide : 1 + 0 ≤ _), (by decide : 17 + 0 ≤ _)⟩)
    dsimp only [Pt.U, Pt.locs, Pt.cells, Pt.slots] at X26 l26 y26 z26 st26 hQ26
    subst l26 y26 z26
    obtain ⟨rfl, Nq26, hq26⟩ := hQ26
    have N26 := Fr.app N24 Nq26
    refine Goes.via (B := T26.setTop (mkF m 146 #[.val (.int p1), .val (.int p2), .val (.int p3), .val (.ref b1), .val (.int v4), .val (.int (own_e1 v4))] [(.int (own_f1 v4))])) st26 ?_
    refine Goes.via (B := T26.setTop (mkF m 148 #[.val (.int p1), .val (.int p2), .val (.int p3), .val (.ref b1), .val (.int v4), .val (.int (own_e1 v4))] [(.int (own_e1 v4)), (.int (own_f1 v4))])) (fun t k => XS.iload X26.here hx rfl (hb hby at_146) rfl k) ?_
    refine Goes.via (B := T26.setTop (mkF m 151 #[.val (.int p1), .val (.int p2), .val (.int p3), .val (.ref b1), .val (.int v4), .val (.int (own_e1 v4))] [])) (fun t k => XS.icmpNo X26.here hx rfl (hb hby at_148) rfl (teq (own_same v4)).2 k) ?_
    refine Goes.via (B := T26.setTop (mkF m 152 #[.val (.int p1), .val (.int p2), .val (.int p3), .val (.ref b1), .val (.int v4), .val (.int (own_e1 v4))] [(.int (1 : Int32))])) (fun t k => XS.iconst X26.here hx rfl (hb hby at_151) k) ?_
    refine Goes.via (B := T26.setTop (mkF m 156 #[.val (.int p1), .val (.int p2), .val (.int p3), .val (.ref b1), .val (.int v4), .val (.int (own_e1 v4))] [(.int (1 : Int32))])) (fun t k => XS.goto X26.here hx rfl (pc0 := 152) (pc' := 156) rfl (hb hby at_152) (by decide) (by decide) k) ?_
    exact own_out X26 (v := some (.int (1 : Int32))) (fun h => by rw [Bd.returns] at h; cases h) Bd.notSynchronized (fun fs hr => retOut X26 hx Bd.returns rfl (Or.inl ⟨rfl, Or.inr (Or.inl rfl), _, rfl⟩) (hb hby at_156) hr) ⟨rfl, N26⟩ (by decide) (by decide)
set_option maxRecDepth 65536 in
set_option maxHeartbeats 40000000 in
theorem comes_1 {Post : Tables → Env → Array Value → State → Outcome → State → Prop} (hpost : ∀ tb e args s v u, (limb_1_1.after args s (.returned v) u = true ∧ limb_1_2.after args s (.returned v) u = true ∧ True) → FrameEnd s (.returned v) u (Jvm.fieldLocs frame_1_writes args s ++ Jvm.arrayLocs frame_1_arrays args s ++ Jvm.staticLocs frame_1_statics s) 16 128 → Post tb e args s (.returned v) u) :
    ArmFor flags0 classFile x code maxLocals ret World_1 tables_1 room_1 Calls_1 rest_1 Pre_1 Post := by
  intro l hfl _ _ p e ha hc hk s m args below hf hA hF happ hP
  obtain ⟨hcalls, hrest, hpre⟩ := hP
  obtain ⟨-, -, -, hnamed, -, -, -, hat⟩ := (Spec.applies_iff hf).mp happ
  obtain ⟨hg, hn⟩ := and_e (Cond.before_iff.mp (show (Jvm.Cond.and given_1 narrow_1).before args s = true from hpre))
  obtain ⟨h1, r0⟩ := and_e hg
  obtain ⟨t0, r1⟩ := and_e r0
  obtain ⟨t1, r2⟩ := and_e r1
  obtain ⟨w0, w1, w2, rfl⟩ : ∃ w0 w1 w2 : Value, args = #[w0, w1, w2] := by
    have hs : args.size = 3 := by simpa [Cond.value, given_1] using h1
    obtain ⟨L⟩ := args
    match L, hs with
    | [w0, w1, w2], _ => exact ⟨w0, w1, w2, rfl⟩
  have hw := fun d (hd : d ∈ tables_1) => atoms_spec (ws := Jvm.Cond.code x code maxLocals ret :: tables_1) hat d (List.mem_cons_of_mem _ hd)
  obtain ⟨i0, q0⟩ := is_v t0
  obtain rfl : w0 = (.int i0) := Option.some.inj q0
  obtain ⟨i1, q1⟩ := is_v t1
  obtain rfl : w1 = (.int i1) := Option.some.inj q1
  obtain ⟨i2, q2⟩ := is_v r2
  obtain rfl : w2 = (.int i2) := Option.some.inj q2
  obtain ⟨n, o, h1, h2, h3, _, L, rfl, ⟨rfl, N⟩, hq⟩ := rm0 l s _ hw tables_1 i0 i1 i2  s.heap s.heap.size (Nat.le_refl _) p e ha hc hk s m _ below hf ((Spec.applies_iff_loose hf).mp happ).1 ⟨rfl, State.Warmed39.refl s, rfl⟩ trivial
  refine ⟨n, _, h1, h2, h3, hpost _ _ _ _ _ _ ⟨Cond.after_iff.mpr rfl, Cond.after_iff.mpr (eq_i res_at (Term.int_eval (1)) rfl), trivial⟩ ⟨hq.1, hq.2.1, (hq.2.2.sift fun y hy => Or.inr (N y hy)).mono (by decide) (by decide)⟩⟩
theorem main_1_1 : Claimed_1_1 := comes_1 fun _ _ _ _ _ _ h hF => ⟨h.1, hF⟩
theorem main_1_2 : Claimed_1_2 := comes_1 fun _ _ _ _ _ _ h hF => ⟨h.2.1, hF⟩
end Jvm.Pilot.@@N@@
namespace Jvm.Pilot.@@N@@
open Jvm Jvm.ClassFile Sem Op Lib Jvm.Free Jvm.Stand Jvm.Pilot.@@N@@.Jvm.D
/-! MADE BY PROGRAM (witnessworld.py) out of the Statement's table words and the real class files: 9 classes; the members and pool entries that the words name. The judged class is class 1, her method 2. -/
namespace start1
open Jvm.ClassFile
def u (s : String) : CpInfo := .utf8 (stringToUtf16 s)
/-- a pool by its gaps: so many unusable entries, then the entry; so many at the end -/
def gap : Nat → List CpInfo → List CpInfo
  | 0, r => r
  | n + 1, r => .unusable :: gap n r
def poolList (es : List (Nat × CpInfo)) (last : Nat) : List CpInfo := es.foldr (fun e r => gap e.1 (e.2 :: r)) (gap last [])
def pool (es : List (Nat × CpInfo)) (last : Nat) : Array CpInfo := ⟨poolList es last⟩
def fileOf (pool : Array CpInfo) (this : Nat) (attrs : Array Attribute := #[]) (ms : Array MethodInfo := #[]) (fl : Nat := 33) (sup : Nat := 0) (ifs : Array Nat := #[]) (fds : Array FieldInfo := #[]) : ClassFile where
  minorVersion := 0
  majorVersion := 65
  constantPool := pool
  accessFlags := fl
  thisClass := this
  superClass := sup
  interfaces := ifs
  fields := fds
  methods := ms
  attributes := attrs
def plain (name : String) (sup : Option ClassId) : Class where
  name := name
  kind := .ordinary
  loader := none
  accessFlags := 33
  super := sup
  interfaces := #[]
  cf := none
  fields := #[]
  methods := #[]
  instanceTypes := #[]
  staticTypes := #[]
  resolved := #[]
  callSites := []
  init := .initialized
  statics := none
  mirror := none

def pool0 : Array CpInfo := pool [(5, u "<init>"), (0, u "()V"), (1, .class_ 10), (1, u "java/lang/Object")] 113

def k0m0 : Method := { name := "<init>", desc := "()V", sig := { parameters := [], returnType := none }, accessFlags := 1, code := none }
/-- java/lang/Object -/
def k0 : Class := { plain "java/lang/Object" none with
  accessFlags := 33
  interfaces := #[]
  cf := some (fileOf pool0 8 #[] #[{ accessFlags := 1, nameIndex := 5, descriptorIndex := 6, attributes := #[] }] 33 0 #[] #[])
  fields := #[]
  methods := #[k0m0]
  instanceTypes := #[]
  staticTypes := #[]
  resolved := Array.replicate 124 none
  statics := none }

def pool1 : Array CpInfo := pool [(2, .class_ 4), (1, u "java/lang/Object"), (0, u "<init>"), (0, u "()V"), (0, .integer 55296), (0, .integer 57343), (0, .integer 65534), (0, .integer 65535), (0, .integer 1114111), (0, .integer 55295), (0, .integer 57344), (0, .integer 65533), (0, .integer 65536), (0, .integer 1114112), (2, .integer 2147483648), (0, .integer 2147483647), (0, .methodref 22 23), (0, .class_ 24), (0, .nameAndType 25 26), (0, u "com/example/austere_serializer/austereserializer/XmlNamesIsXmlCharPinLaw"), (0, u "excluded"), (0, u "(I)Z"), (0, .methodref 28 29), (0, .class_ 30), (0, .nameAndType 31 26), (0, u "com/example/austere_serializer/austereserializer/XmlNames"), (0, u "isXmlChar"), (3, u "law"), (0, u "(III)Z")] 4

def k1m0 : Method := { name := "<init>", desc := "()V", sig := { parameters := [], returnType := none }, accessFlags := 2, code := none }
def k1c1 : Code := { maxStack := 2, maxLocals := 1, code := method_2_code, exceptionTable := #[], attributes := #[] }
def k1m1 : Method := { name := "excluded", desc := "(I)Z", sig := { parameters := [.int], returnType := some .boolean }, accessFlags := 10, code := some k1c1 }
def k1c2 : Code := { maxStack := 4, maxLocals := 6, code := code, exceptionTable := #[], attributes := #[] }
def k1m2 : Method := { name := "law", desc := "(III)Z", sig := { parameters := [.int, .int, .int], returnType := some .boolean }, accessFlags := 9, code := some k1c2 }
/-- com/example/austere_serializer/austereserializer/XmlNamesIsXmlCharPinLaw -/
def k1 : Class := { plain "com/example/austere_serializer/austereserializer/XmlNamesIsXmlCharPinLaw" (some 0) with
  accessFlags := 49
  interfaces := #[]
  cf := some (fileOf pool1 22 #[] #[{ accessFlags := 2, nameIndex := 5, descriptorIndex := 6, attributes := #[] }, { accessFlags := 10, nameIndex := 25, descriptorIndex := 26, attributes := #[] }, { accessFlags := 9, nameIndex := 35, descriptorIndex := 36, attributes := #[] }] 49 2 #[] #[])
  fields := #[]
  methods := #[k1m0, k1m1, k1m2]
  instanceTypes := #[]
  staticTypes := #[]
  resolved := Array.replicate 41 none
  statics := none }

def pool2 : Array CpInfo := pool [(2, .class_ 4), (1, u "java/lang/Object"), (0, u "<init>"), (0, u "()V"), (0, .integer 55295), (0, .integer 57344), (0, .integer 65533), (0, .integer 65536), (0, .integer 1114111), (31, .class_ 45), (1, u "com/example/austere_serializer/austereserializer/XmlNames"), (12, u "NC_NAME_START_ASCII"), (0, u "[Z"), (2, u "NC_NAME_ASCII"), (7, u "(I)Z"), (28, u "ASCII"), (0, u "I"), (4, u "isXmlChar")] 33

def k2m0 : Method := { name := "<init>", desc := "()V", sig := { parameters := [], returnType := none }, accessFlags := 2, code := none }
def k2c1 : Code := { maxStack := 2, maxLocals := 1, code := prog_54_method_2_code, exceptionTable := #[], attributes := #[] }
def k2m1 : Method := { name := "isXmlChar", desc := "(I)Z", sig := { parameters := [.int], returnType := some .boolean }, accessFlags := 8, code := some k2c1 }
/-- com/example/austere_serializer/austereserializer/XmlNames -/
def k2 : Class := { plain "com/example/austere_serializer/austereserializer/XmlNames" (some 0) with
  accessFlags := 48
  interfaces := #[]
  cf := some (fileOf pool2 43 #[] #[{ accessFlags := 2, nameIndex := 5, descriptorIndex := 6, attributes := #[] }, { accessFlags := 8, nameIndex := 105, descriptorIndex := 70, attributes := #[] }] 48 2 #[] #[{ accessFlags := 26, nameIndex := 99, descriptorIndex := 100, attributes := #[] }, { accessFlags := 26, nameIndex := 58, descriptorIndex := 59, attributes := #[] }, { accessFlags := 26, nameIndex := 62, descriptorIndex := 59, attributes := #[] }])
  fields := #[{ name := "ASCII", type := .int, accessFlags := 26, slot := 0, constantValue := 0 }, { name := "NC_NAME_START_ASCII", type := (.array .boolean), accessFlags := 26, slot := 1, constantValue := 0 }, { name := "NC_NAME_ASCII", type := (.array .boolean), accessFlags := 26, slot := 2, constantValue := 0 }]
  methods := #[k2m0, k2m1]
  instanceTypes := #[]
  staticTypes := #[.int, (.array .boolean), (.array .boolean)]
  resolved := Array.replicate 139 none
  statics := none }

def pool3 : Array CpInfo := pool [(1, u "java/lang/Cloneable"), (0, .class_ 1), (0, u "java/lang/Object"), (0, .class_ 3)] 3

/-- java/lang/Cloneable -/
def k3 : Class := { plain "java/lang/Cloneable" (some 0) with
  accessFlags := 1537
  interfaces := #[]
  cf := some (fileOf pool3 2 #[] #[] 1537 4 #[] #[])
  fields := #[]
  methods := #[]
  instanceTypes := #[]
  staticTypes := #[]
  resolved := Array.replicate 8 none
  statics := none }

def pool4 : Array CpInfo := pool [(1, u "java/io/Serializable"), (0, .class_ 1), (0, u "java/lang/Object"), (0, .class_ 3)] 3

/-- java/io/Serializable -/
def k4 : Class := { plain "java/io/Serializable" (some 0) with
  accessFlags := 1537
  interfaces := #[]
  cf := some (fileOf pool4 2 #[] #[] 1537 4 #[] #[])
  fields := #[]
  methods := #[]
  instanceTypes := #[]
  staticTypes := #[]
  resolved := Array.replicate 8 none
  statics := none }

/-- the primitive byte -/
def k5 : Class := { plain "byte" none with kind := .primitive 'B', accessFlags := 0x411 }
/-- [B -/
def k6 : Class := { plain "[B" (some 0) with kind := .array 5 .byte, interfaces := #[3, 4], accessFlags := 1041 }

/-- the primitive int -/
def k7 : Class := { plain "int" none with kind := .primitive 'I', accessFlags := 0x411 }
/-- [I -/
def k8 : Class := { plain "[I" (some 0) with kind := .array 7 .int, interfaces := #[3, 4], accessFlags := 1041 }

def heap : Heap := #[]
def classes : Array Class := #[k0, k1, k2, k3, k4, k5, k6, k7, k8]
def interned : List (Array UInt16 × Addr) := []
def slotsUsed : Nat := 0
def theMethod : MethodId := ⟨1, 2⟩
def args0 : Array Value := #[.int 5, .int 3, .int 7]
def aboutOver (below : List Frame) : State where
  vm := { classes := classes, interned := interned.toArray }
  heap := heap
  slotsUsed := slotsUsed
  threads := #[{ frames := .invoking theMethod args0 :: below }]
def below0 : List Frame := [.native { method := ⟨0, 0⟩, args := #[] }]
def about1 : State := aboutOver below0
def p0 : Program := .bare "" "" ""
def e0 : Env := launch0.env 0 0 0
theorem w_frames : about1.frames = Frame.invoking theMethod args0 :: below0 := rfl
set_option maxRecDepth 65536 in
theorem w_args : argsFit about1.vm theMethod args0 = true := by decide +kernel
set_option maxRecDepth 65536 in
theorem w_heap : heapFits about1 = true := by decide +kernel
set_option maxRecDepth 65536 in
theorem w_runnable : about1.curStatus? = some .runnable := by decide +kernel
set_option maxRecDepth 65536 in
theorem w_alone : about1.alone = true := by decide +kernel
set_option maxRecDepth 65536 in
theorem w_named : about1.methodNamed? x = some theMethod := by decide +kernel
set_option maxRecDepth 65536 in
theorem w_hears : about1.hears theMethod below0 = true := by decide +kernel
set_option maxRecDepth 65536 in
theorem w_ripe : about1.ripe theMethod args0 below0 = true := by decide +kernel
theorem w_running : about1.status = .running := rfl
set_option maxRecDepth 65536 in
theorem w_room : about1.hasRoom e0.platform room_1 = true :=
  launch0.hasRoom_least _ room_1 (by decide +kernel) (by decide +kernel) (by decide +kernel) (by decide +kernel) (by decide +kernel) (by decide +kernel)
theorem allAtoms_all (ts : List Jvm.Cond) (a : Array Jvm.Value) (st : Jvm.State) : (allAtoms ts).before a st = ts.all (fun c => c.before a st) := by
  induction ts with
  | nil => rfl
  | cons c t ih =>
    show (Jvm.Cond.and c (allAtoms t)).before a st = _
    rw [Jvm.Cond.before_and, ih, List.all_cons]
def words1 : List Jvm.Cond := Jvm.Cond.code x code maxLocals ret :: tables_1
/-- a 'code' word, met by the world's own term for the bytes: nothing is compared byte by byte -/
theorem code_word {y : MethodName} {bytes : ByteArray} {mx : Nat} {rt : Option FieldType} {a : Array Value} {s : State} {m : MethodId} {meth : Method} {c : Code} (h1 : s.methodNamed? y = some m) (h2 : s.vm.method? m = some meth) (h3 : meth.code = some c) (h4 : c.code = bytes)
    (h5 : (c.maxLocals == mx && c.exceptionTable.isEmpty && decide (c.maxStack ≤ mostOperands) && decide (meth.sig.returnType = rt) && !meth.locks && decide (parseMethodDescriptor y.desc = some meth.sig)) = true) : (Jvm.Cond.code y bytes mx rt).before a s = true := by
  simp only [Bool.and_eq_true, beq_iff_eq, Bool.not_eq_true', decide_eq_true_eq] at h5
  obtain ⟨⟨⟨⟨⟨g1, g2⟩, g3⟩, g4⟩, g5⟩, g6⟩ := h5
  simp [Cond.before, Cond.holds, Cond.value, h1, h2, h3, h4, g1, g2, g3, g4, g5, g6]
def isCode : Jvm.Cond → Bool
  | .code _ _ _ _ => true
  | _ => false
theorem all_split {L : List Jvm.Cond} {P : Jvm.Cond → Bool} (h1 : L.all (fun c => isCode c || P c) = true) (h2 : ∀ c ∈ L.filter isCode, P c = true) : L.all P = true := by
  refine List.all_eq_true.mpr fun c hc => ?_
  have h := List.all_eq_true.mp h1 c hc
  rcases Bool.eq_false_or_eq_true (isCode c) with hi | hi
  · exact h2 c (List.mem_filter.mpr ⟨hc, hi⟩)
  · simpa [hi] using h
set_option maxRecDepth 65536 in
theorem w_c0 : (Jvm.Cond.code x code maxLocals ret).before args0 about1 = true := code_word (m := ⟨1, 2⟩) (meth := k1m2) (c := k1c2) (by decide +kernel) rfl rfl rfl (by decide +kernel)
set_option maxRecDepth 65536 in
theorem w_c1 : (Jvm.Cond.code ({ cls := "com/example/austere_serializer/austereserializer/XmlNamesIsXmlCharPinLaw", name := "excluded", desc := "(I)Z" } : Jvm.MethodName) method_2_code (1 : Nat) (Option.some Jvm.ClassFile.FieldType.boolean)).before args0 about1 = true := code_word (m := ⟨1, 1⟩) (meth := k1m1) (c := k1c1) (by decide +kernel) rfl rfl rfl (by decide +kernel)
set_option maxRecDepth 65536 in
theorem w_c2 : (Jvm.Cond.code ({ cls := "com/example/austere_serializer/austereserializer/XmlNames", name := "isXmlChar", desc := "(I)Z" } : Jvm.MethodName) prog_54_method_2_code (1 : Nat) (Option.some Jvm.ClassFile.FieldType.boolean)).before args0 about1 = true := code_word (m := ⟨2, 1⟩) (meth := k2m1) (c := k2c1) (by decide +kernel) rfl rfl rfl (by decide +kernel)
def codes1 : List Jvm.Cond := [Jvm.Cond.code x code maxLocals ret, Jvm.Cond.code ({ cls := "com/example/austere_serializer/austereserializer/XmlNamesIsXmlCharPinLaw", name := "excluded", desc := "(I)Z" } : Jvm.MethodName) method_2_code (1 : Nat) (Option.some Jvm.ClassFile.FieldType.boolean), Jvm.Cond.code ({ cls := "com/example/austere_serializer/austereserializer/XmlNames", name := "isXmlChar", desc := "(I)Z" } : Jvm.MethodName) prog_54_method_2_code (1 : Nat) (Option.some Jvm.ClassFile.FieldType.boolean)]
set_option maxRecDepth 65536 in
theorem codes_eq : words1.filter isCode = codes1 := rfl
theorem w_codes : ∀ c ∈ words1.filter isCode, c.before args0 about1 = true := by
  rw [codes_eq]
  intro c hc
  simp only [codes1, List.mem_cons, List.not_mem_nil, or_false] at hc
  rcases hc with rfl | rfl | rfl
  · exact w_c0
  · exact w_c1
  · exact w_c2
set_option maxRecDepth 65536 in
theorem w_t1 : (words1.take 24).all (fun c => isCode c || c.before args0 about1) = true := by decide +kernel
set_option maxRecDepth 65536 in
theorem w_t2 : (words1.drop 24).all (fun c => isCode c || c.before args0 about1) = true := by decide +kernel
theorem w_tables : (allAtoms (Jvm.Cond.code x code maxLocals ret :: tables_1)).before args0 about1 = true := by
  rw [allAtoms_all]
  show words1.all (fun c => c.before args0 about1) = true
  refine all_split ?_ w_codes
  rw [← List.take_append_drop 24 words1, List.all_append, w_t1, w_t2]
  rfl
set_option maxRecDepth 65536 in
theorem w_case : (Jvm.Cond.and given_1 narrow_1).before args0 about1 = true := by decide +kernel
theorem w_applies : (headSpec (Jvm.Cond.code x code maxLocals ret :: tables_1) room_1).applies x e0.platform about1 = true :=
  (Spec.applies_iff w_frames).mpr ⟨w_running, w_runnable, w_alone, w_named, w_hears, w_ripe, w_room, w_tables⟩
theorem atStart : AtStart classFile x code maxLocals ret World_1 tables_1 room_1 Calls_1 rest_1 Pre_1 launch0 p0 e0 about1 theMethod args0 below0 :=
  ⟨lists_1, trivial, launch0.admits_env _ _ _, launch0.least_env, fairChoices_fair.cas, fairChoices_fair.clock, w_frames, w_args, w_heap, w_applies, trivial, trivial, w_case⟩
end start1
theorem witness_1 : WitnessClaimed_1 := ⟨start1.p0, start1.e0, start1.about1, start1.theMethod, start1.args0, start1.below0, start1.atStart⟩
end Jvm.Pilot.@@N@@
