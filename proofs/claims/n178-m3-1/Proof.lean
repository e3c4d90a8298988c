import JvmDerived
import JvmDerived.Pilot.@@N@@Statement
import JvmDerived.Pilot.@@N@@Code
set_option linter.unusedVariables false
set_option linter.unusedSimpArgs false
namespace Jvm.Pilot.@@N@@
open Jvm Jvm.ClassFile Sem Op Lib Jvm.Free Jvm.Stand Jvm.LawKit Jvm.RoadKit Bundle Jvm.Pilot.@@N@@.Jvm.D
section Own
variable {p : Program} {l : Launch} {e : Env} {R : Room} {s : State} {m : MethodId} {args : Array Value} {below : List Frame} {meth : Method} {c : Code} {T : State} {locs : List Loc} {cells slots : Nat}
def Goes (p : Program) (e : Env) (below : List Frame) (P : State → Outcome → Prop) (A : State) : Prop :=
  ∃ s₂ o, Steps p.tables e below A s₂ ∧ s₂.status = .running ∧ Ended s₂ below o ∧ P s₂ o
theorem Goes.via {P : State → Outcome → Prop} {A B : State} (h : ∀ t, Steps p.tables e below B t → Steps p.tables e below A t) (k : Goes p e below P B) : Goes p e below P A := by
  obtain ⟨s₂, o, h1, h2⟩ := k
  exact ⟨s₂, o, h _ h1, h2⟩
theorem own_join {P : State → Outcome → Prop} {A B : State} (h : Goes p e below P B → Goes p e below P A) (k : Goes p e below P B) : Goes p e below P A := h k
theorem Goes.cast {P : State → Outcome → Prop} {g g' : JFrame} (q : g = g') (k : Goes p e below P (T.setTop g')) : Goes p e below P (T.setTop g) := q ▸ k
theorem own_out (X : Stand p l e R s m args below meth c T locs cells slots) {v : Option Value} (hv : meth.sig.returnType = none → v = none) (hlocks : meth.locks = false) {A : State} {Q : Option Value → Heap → List Loc → Prop} {kc ks : Nat}
    (st : ∀ fs, (∀ (f : JFrame) (acts : List Action), f.method = m → f.locked = none → f.entered = [] → (doReturn e (T.setTop f) acts v).1 = T.setFrames fs) → Steps p.tables e below A (T.setFrames fs))
    (hQ : Q v T.heap locs) (hc : cells ≤ kc) (hs : slots ≤ ks) : Goes p e below (fun s₂ o => ∃ v L, o = .returned v ∧ Q v s₂.heap L ∧ FrameEnd s o s₂ L kc ks) A := by
  obtain ⟨fs, hr, hrun, hended, hW, hsame⟩ := X.leave (v := v) hv hlocks
  exact ⟨_, _, st fs hr, hrun, hended, v, locs, rfl, hQ, ⟨_, rfl⟩, hW, hsame.mono hc hs⟩
end Own
theorem own_top (p1 : Int32) : ¬ (lcmpW (7722894400 : Int64) (p1.toInt64)) < (0 : Int32) := by
  rw [lw_lt, Int64.lt_iff_toInt_lt, c_i2l]
  have := rng32 p1
  simp only [Int64.reduceToInt]
  omega
def own_f1 (p1 : Int32) : Int32 := if (lcmpW (25 : Int64) (p1.toInt64)) < (0 : Int32) then if (lcmpW (650 : Int64) (p1.toInt64)) < (0 : Int32) then if (lcmpW (16900 : Int64) (p1.toInt64)) < (0 : Int32) then if (lcmpW (439400 : Int64) (p1.toInt64)) < (0 : Int32) then if (lcmpW (11424400 : Int64) (p1.toInt64)) < (0 : Int32) then if (lcmpW (297034400 : Int64) (p1.toInt64)) < (0 : Int32) then (7 : Int32) else (6 : Int32) else (5 : Int32) else (4 : Int32) else (3 : Int32) else (2 : Int32) else (1 : Int32)
theorem d1_0 : decode prog_105_method_4_code 0 = .ok (.iconst 1, 1) := by decide +kernel
theorem d1_1 : decode prog_105_method_4_code 1 = .ok (.istore_n 1, 1) := by decide +kernel
theorem d1_2 : decode prog_105_method_4_code 2 = .ok (.ldc2_w 38, 3) := by decide +kernel
theorem d1_5 : decode prog_105_method_4_code 5 = .ok (.lstore_n 2, 1) := by decide +kernel
theorem d1_6 : decode prog_105_method_4_code 6 = .ok (.lload_n 2, 1) := by decide +kernel
theorem d1_7 : decode prog_105_method_4_code 7 = .ok (.iload_n 0, 1) := by decide +kernel
theorem d1_8 : decode prog_105_method_4_code 8 = .ok (.i2l, 1) := by decide +kernel
theorem d1_9 : decode prog_105_method_4_code 9 = .ok (.lcmp, 1) := by decide +kernel
theorem d1_10 : decode prog_105_method_4_code 10 = .ok (.ifCond .ge 15, 3) := by decide +kernel
theorem d1_13 : decode prog_105_method_4_code 13 = .ok (.iinc 1 1, 3) := by decide +kernel
theorem d1_16 : decode prog_105_method_4_code 16 = .ok (.lload_n 2, 1) := by decide +kernel
theorem d1_17 : decode prog_105_method_4_code 17 = .ok (.ldc2_w 36, 3) := by decide +kernel
theorem d1_20 : decode prog_105_method_4_code 20 = .ok (.lmul, 1) := by decide +kernel
theorem d1_21 : decode prog_105_method_4_code 21 = .ok (.lstore_n 2, 1) := by decide +kernel
theorem d1_22 : decode prog_105_method_4_code 22 = .ok (.goto (-16), 3) := by decide +kernel
theorem d1_25 : decode prog_105_method_4_code 25 = .ok (.iload_n 1, 1) := by decide +kernel
theorem d1_26 : decode prog_105_method_4_code 26 = .ok (.ireturn, 1) := by decide +kernel
theorem pn_com_example_thoth_thoth_Steps : plainName "com/example/thoth/thoth/Steps" = true := by first | (simp [plainName, overriddenIn]; done) | decide +kernel
theorem ef_1 (m : MethodId) (x0 : Int32) : entryFrame m #[(.int x0)] 4 = mkF m 0 #[.val (.int x0), .unset, .unset, .unset] [] := by first | (simp [entryFrame, mkF, argsToLocals, Value.category]; done) | rfl
def Q1 (Z : State) (p1 : Int32) (h0 : Heap) (n0 : Nat) (v : Option Value) (h : Heap) (L : List Loc) : Prop := v = some (.int (own_f1 p1)) ∧ Fr n0 L ∧ h = h0
set_option maxRecDepth 65536 in
set_option maxHeartbeats 40000000 in
theorem rm1 (l : Launch) (Z : State) (a0 : Array Value) (hw : ∀ d ∈ tables_1, d.before a0 Z = true) (ws : List Jvm.Cond) (p1 : Int32) (h0 : Heap) (n0 : Nat) (Z0 : n0 ≤ h0.size)  :
    MetFree l (⟨"com/example/thoth/thoth/Steps", "width", "(I)I"⟩ : MethodName) (head1 (Jvm.Cond.code (⟨"com/example/thoth/thoth/Steps", "width", "(I)I"⟩ : MethodName) prog_105_method_4_code 4 (some .int) :: ws) ({ frames := 0, cells := 0, slots := 0, locals := 0 } : Room)) (fun a U => a = #[(.int p1)] ∧ Z.Warmed39 U.vm ∧ U.heap = h0) (fun _ _ _ _ _ => True) (fun _ U o U' => ∃ v L, o = .returned v ∧ Q1 Z p1 h0 n0 v U'.heap L ∧ FrameEnd U o U' L ({ frames := 0, cells := 0, slots := 0, locals := 0 } : Room).cells ({ frames := 0, cells := 0, slots := 0, locals := 0 } : Room).slots) := by
  refine MetFree.of_bodySF (plainFor_of_name pn_com_example_thoth_thoth_Steps) hisR ?_
  intro p e s m args below meth c s₁ Bd hml0 hP hK
  obtain ⟨rfl, hZ, hh⟩ := hP
  have hx := Bd.exec
  have hby := Bd.bytes
  have hml : c.maxLocals = 4 := hml0
  have hown : s.vm.findClass "com/example/thoth/thoth/Steps" = some m.cls := findClass_of_methodNamed Bd.named
  have hnm := (name_of_methodNamed Bd.named Bd.method).1
  have X0 : Stand p l e ({ frames := 0, cells := 0, slots := 0, locals := 0 } : Room) s m #[(.int p1)] below meth c s₁ [] 0 0 := Stand.of_body Bd
  have e0 : s₁.heap = h0 := by rw [← hh, Bd.state]; rfl
  have N0 := Fr.nil n0
  show Goes p e below (fun s₂ o => ∃ v L, o = .returned v ∧ Q1 Z p1 h0 n0 v s₂.heap L ∧ FrameEnd s o s₂ L ({ frames := 0, cells := 0, slots := 0, locals := 0 } : Room).cells ({ frames := 0, cells := 0, slots := 0, locals := 0 } : Room).slots) (s₁.setTop (entryFrame m #[(.int p1)] 4))
  refine Goes.cast (ef_1 m p1) ?_
  refine Goes.via (B := s₁.setTop (mkF m 1 #[.val (.int p1), .unset, .unset, .unset] [(.int (1 : Int32))])) (fun t k => XS.iconst X0.here hx rfl (hb hby d1_0) k) ?_
  refine Goes.via (B := s₁.setTop (mkF m 2 #[.val (.int p1), .val (.int (1 : Int32)), .unset, .unset] [])) (fun t k => XS.istoreN X0.here hx rfl (hb hby d1_1) rfl (l' := #[.val (.int p1), .val (.int (1 : Int32)), .unset, .unset]) rfl k) ?_
  refine Goes.via (B := s₁.setTop (mkF m 5 #[.val (.int p1), .val (.int (1 : Int32)), .unset, .unset] [(.long (25 : Int64))])) (fun t k => X0.ldc2Long hx hown (mvT hZ (hw _ (List.mem_of_getElem? (i := 4) rfl))) (g := (mkF m 2 #[.val (.int p1), .val (.int (1 : Int32)), .unset, .unset] [])) rfl (hb hby d1_2) _ k) ?_
  refine Goes.via (B := s₁.setTop (mkF m 6 #[.val (.int p1), .val (.int (1 : Int32)), .val (.long (25 : Int64)), .second] [])) (fun t k => XS.lstoreN X0.here hx rfl (hb hby d1_5) rfl (l' := #[.val (.int p1), .val (.int (1 : Int32)), .val (.long (25 : Int64)), .second]) rfl k) ?_
  refine Goes.via (B := s₁.setTop (mkF m 7 #[.val (.int p1), .val (.int (1 : Int32)), .val (.long (25 : Int64)), .second] [(.long (25 : Int64))])) (fun t k => XS.lloadN X0.here hx rfl (hb hby d1_6) rfl k) ?_
  refine Goes.via (B := s₁.setTop (mkF m 8 #[.val (.int p1), .val (.int (1 : Int32)), .val (.long (25 : Int64)), .second] [(.int p1), (.long (25 : Int64))])) (fun t k => XS.iloadN X0.here hx rfl (hb hby d1_7) rfl k) ?_
  refine Goes.via (B := s₁.setTop (mkF m 9 #[.val (.int p1), .val (.int (1 : Int32)), .val (.long (25 : Int64)), .second] [(.long (p1.toInt64)), (.long (25 : Int64))])) (fun t k => XS.i2l X0.here hx rfl (hb hby d1_8) rfl k) ?_
  refine Goes.via (B := s₁.setTop (mkF m 10 #[.val (.int p1), .val (.int (1 : Int32)), .val (.long (25 : Int64)), .second] [(.int (lcmpW (25 : Int64) (p1.toInt64)))])) (fun t k => XS.lcmp X0.here hx rfl (hb hby d1_9) rfl k) ?_
  by_cases c10_1 : (lcmpW (25 : Int64) (p1.toInt64)) < (0 : Int32)
  · refine Goes.via (B := s₁.setTop (mkF m 13 #[.val (.int p1), .val (.int (1 : Int32)), .val (.long (25 : Int64)), .second] [])) (fun t k => XS.ifNo X0.here hx rfl (hb hby d1_10) rfl ((if0 _ _).trans (tlt c10_1).2.1) k) ?_
    refine Goes.via (B := s₁.setTop (mkF m 16 #[.val (.int p1), .val (.int (2 : Int32)), .val (.long (25 : Int64)), .second] [])) (fun t k => XS.iinc X0.here hx rfl (hb hby d1_13) rfl (l' := #[.val (.int p1), .val (.int (2 : Int32)), .val (.long (25 : Int64)), .second]) rfl k) ?_
    refine Goes.via (B := s₁.setTop (mkF m 17 #[.val (.int p1), .val (.int (2 : Int32)), .val (.long (25 : Int64)), .second] [(.long (25 : Int64))])) (fun t k => XS.lloadN X0.here hx rfl (hb hby d1_16) rfl k) ?_
    refine Goes.via (B := s₁.setTop (mkF m 20 #[.val (.int p1), .val (.int (2 : Int32)), .val (.long (25 : Int64)), .second] [(.long (26 : Int64)), (.long (25 : Int64))])) (fun t k => X0.ldc2Long hx hown (mvT hZ (hw _ (List.mem_of_getElem? (i := 9) rfl))) (g := (mkF m 17 #[.val (.int p1), .val (.int (2 : Int32)), .val (.long (25 : Int64)), .second] [(.long (25 : Int64))])) rfl (hb hby d1_17) _ k) ?_
    refine Goes.via (B := s₁.setTop (mkF m 21 #[.val (.int p1), .val (.int (2 : Int32)), .val (.long (25 : Int64)), .second] [(.long (650 : Int64))])) (fun t k => XS.lmul X0.here hx rfl (hb hby d1_20) rfl k) ?_
    refine Goes.via (B := s₁.setTop (mkF m 22 #[.val (.int p1), .val (.int (2 : Int32)), .val (.long (650 : Int64)), .second] [])) (fun t k => XS.lstoreN X0.here hx rfl (hb hby d1_21) rfl (l' := #[.val (.int p1), .val (.int (2 : Int32)), .val (.long (650 : Int64)), .second]) rfl k) ?_
    refine Goes.via (B := s₁.setTop (mkF m 6 #[.val (.int p1), .val (.int (2 : Int32)), .val (.long (650 : Int64)), .second] [])) (fun t k => XS.goto X0.here hx rfl (pc0 := 22) (pc' := 6) rfl (hb hby d1_22) (by decide) (by decide) k) ?_
    refine Goes.via (B := s₁.setTop (mkF m 7 #[.val (.int p1), .val (.int (2 : Int32)), .val (.long (650 : Int64)), .second] [(.long (650 : Int64))])) (fun t k => XS.lloadN X0.here hx rfl (hb hby d1_6) rfl k) ?_
    refine Goes.via (B := s₁.setTop (mkF m 8 #[.val (.int p1), .val (.int (2 : Int32)), .val (.long (650 : Int64)), .second] [(.int p1), (.long (650 : Int64))])) (fun t k => XS.iloadN X0.here hx rfl (hb hby d1_7) rfl k) ?_
    refine Goes.via (B := s₁.setTop (mkF m 9 #[.val (.int p1), .val (.int (2 : Int32)), .val (.long (650 : Int64)), .second] [(.long (p1.toInt64)), (.long (650 : Int64))])) (fun t k => XS.i2l X0.here hx rfl (hb hby d1_8) rfl k) ?_
    refine Goes.via (B := s₁.setTop (mkF m 10 #[.val (.int p1), .val (.int (2 : Int32)), .val (.long (650 : Int64)), .second] [(.int (lcmpW (650 : Int64) (p1.toInt64)))])) (fun t k => XS.lcmp X0.here hx rfl (hb hby d1_9) rfl k) ?_
    by_cases c10_2 : (lcmpW (650 : Int64) (p1.toInt64)) < (0 : Int32)
    · refine Goes.via (B := s₁.setTop (mkF m 13 #[.val (.int p1), .val (.int (2 : Int32)), .val (.long (650 : Int64)), .second] [])) (fun t k => XS.ifNo X0.here hx rfl (hb hby d1_10) rfl ((if0 _ _).trans (tlt c10_2).2.1) k) ?_
      refine Goes.via (B := s₁.setTop (mkF m 16 #[.val (.int p1), .val (.int (3 : Int32)), .val (.long (650 : Int64)), .second] [])) (fun t k => XS.iinc X0.here hx rfl (hb hby d1_13) rfl (l' := #[.val (.int p1), .val (.int (3 : Int32)), .val (.long (650 : Int64)), .second]) rfl k) ?_
      refine Goes.via (B := s₁.setTop (mkF m 17 #[.val (.int p1), .val (.int (3 : Int32)), .val (.long (650 : Int64)), .second] [(.long (650 : Int64))])) (fun t k => XS.lloadN X0.here hx rfl (hb hby d1_16) rfl k) ?_
      refine Goes.via (B := s₁.setTop (mkF m 20 #[.val (.int p1), .val (.int (3 : Int32)), .val (.long (650 : Int64)), .second] [(.long (26 : Int64)), (.long (650 : Int64))])) (fun t k => X0.ldc2Long hx hown (mvT hZ (hw _ (List.mem_of_getElem? (i := 9) rfl))) (g := (mkF m 17 #[.val (.int p1), .val (.int (3 : Int32)), .val (.long (650 : Int64)), .second] [(.long (650 : Int64))])) rfl (hb hby d1_17) _ k) ?_
      refine Goes.via (B := s₁.setTop (mkF m 21 #[.val (.int p1), .val (.int (3 : Int32)), .val (.long (650 : Int64)), .second] [(.long (16900 : Int64))])) (fun t k => XS.lmul X0.here hx rfl (hb hby d1_20) rfl k) ?_
      refine Goes.via (B := s₁.setTop (mkF m 22 #[.val (.int p1), .val (.int (3 : Int32)), .val (.long (16900 : Int64)), .second] [])) (fun t k => XS.lstoreN X0.here hx rfl (hb hby d1_21) rfl (l' := #[.val (.int p1), .val (.int (3 : Int32)), .val (.long (16900 : Int64)), .second]) rfl k) ?_
      refine Goes.via (B := s₁.setTop (mkF m 6 #[.val (.int p1), .val (.int (3 : Int32)), .val (.long (16900 : Int64)), .second] [])) (fun t k => XS.goto X0.here hx rfl (pc0 := 22) (pc' := 6) rfl (hb hby d1_22) (by decide) (by decide) k) ?_
      refine Goes.via (B := s₁.setTop (mkF m 7 #[.val (.int p1), .val (.int (3 : Int32)), .val (.long (16900 : Int64)), .second] [(.long (16900 : Int64))])) (fun t k => XS.lloadN X0.here hx rfl (hb hby d1_6) rfl k) ?_
      refine Goes.via (B := s₁.setTop (mkF m 8 #[.val (.int p1), .val (.int (3 : Int32)), .val (.long (16900 : Int64)), .second] [(.int p1), (.long (16900 : Int64))])) (fun t k => XS.iloadN X0.here hx rfl (hb hby d1_7) rfl k) ?_
      refine Goes.via (B := s₁.setTop (mkF m 9 #[.val (.int p1), .val (.int (3 : Int32)), .val (.long (16900 : Int64)), .second] [(.long (p1.toInt64)), (.long (16900 : Int64))])) (fun t k => XS.i2l X0.here hx rfl (hb hby d1_8) rfl k) ?_
      refine Goes.via (B := s₁.setTop (mkF m 10 #[.val (.int p1), .val (.int (3 : Int32)), .val (.long (16900 : Int64)), .second] [(.int (lcmpW (16900 : Int64) (p1.toInt64)))])) (fun t k => XS.lcmp X0.here hx rfl (hb hby d1_9) rfl k) ?_
      by_cases c10_3 : (lcmpW (16900 : Int64) (p1.toInt64)) < (0 : Int32)
      · refine Goes.via (B := s₁.setTop (mkF m 13 #[.val (.int p1), .val (.int (3 : Int32)), .val (.long (16900 : Int64)), .second] [])) (fun t k => XS.ifNo X0.here hx rfl (hb hby d1_10) rfl ((if0 _ _).trans (tlt c10_3).2.1) k) ?_
        refine Goes.via (B := s₁.setTop (mkF m 16 #[.val (.int p1), .val (.int (4 : Int32)), .val (.long (16900 : Int64)), .second] [])) (fun t k => XS.iinc X0.here hx rfl (hb hby d1_13) rfl (l' := #[.val (.int p1), .val (.int (4 : Int32)), .val (.long (16900 : Int64)), .second]) rfl k) ?_
        refine Goes.via (B := s₁.setTop (mkF m 17 #[.val (.int p1), .val (.int (4 : Int32)), .val (.long (16900 : Int64)), .second] [(.long (16900 : Int64))])) (fun t k => XS.lloadN X0.here hx rfl (hb hby d1_16) rfl k) ?_
        refine Goes.via (B := s₁.setTop (mkF m 20 #[.val (.int p1), .val (.int (4 : Int32)), .val (.long (16900 : Int64)), .second] [(.long (26 : Int64)), (.long (16900 : Int64))])) (fun t k => X0.ldc2Long hx hown (mvT hZ (hw _ (List.mem_of_getElem? (i := 9) rfl))) (g := (mkF m 17 #[.val (.int p1), .val (.int (4 : Int32)), .val (.long (16900 : Int64)), .second] [(.long (16900 : Int64))])) rfl (hb hby d1_17) _ k) ?_
        refine Goes.via (B := s₁.setTop (mkF m 21 #[.val (.int p1), .val (.int (4 : Int32)), .val (.long (16900 : Int64)), .second] [(.long (439400 : Int64))])) (fun t k => XS.lmul X0.here hx rfl (hb hby d1_20) rfl k) ?_
        refine Goes.via (B := s₁.setTop (mkF m 22 #[.val (.int p1), .val (.int (4 : Int32)), .val (.long (439400 : Int64)), .second] [])) (fun t k => XS.lstoreN X0.here hx rfl (hb hby d1_21) rfl (l' := #[.val (.int p1), .val (.int (4 : Int32)), .val (.long (439400 : Int64)), .second]) rfl k) ?_
        refine Goes.via (B := s₁.setTop (mkF m 6 #[.val (.int p1), .val (.int (4 : Int32)), .val (.long (439400 : Int64)), .second] [])) (fun t k => XS.goto X0.here hx rfl (pc0 := 22) (pc' := 6) rfl (hb hby d1_22) (by decide) (by decide) k) ?_
        refine Goes.via (B := s₁.setTop (mkF m 7 #[.val (.int p1), .val (.int (4 : Int32)), .val (.long (439400 : Int64)), .second] [(.long (439400 : Int64))])) (fun t k => XS.lloadN X0.here hx rfl (hb hby d1_6) rfl k) ?_
        refine Goes.via (B := s₁.setTop (mkF m 8 #[.val (.int p1), .val (.int (4 : Int32)), .val (.long (439400 : Int64)), .second] [(.int p1), (.long (439400 : Int64))])) (fun t k => XS.iloadN X0.here hx rfl (hb hby d1_7) rfl k) ?_
        refine Goes.via (B := s₁.setTop (mkF m 9 #[.val (.int p1), .val (.int (4 : Int32)), .val (.long (439400 : Int64)), .second] [(.long (p1.toInt64)), (.long (439400 : Int64))])) (fun t k => XS.i2l X0.here hx rfl (hb hby d1_8) rfl k) ?_
        refine Goes.via (B := s₁.setTop (mkF m 10 #[.val (.int p1), .val (.int (4 : Int32)), .val (.long (439400 : Int64)), .second] [(.int (lcmpW (439400 : Int64) (p1.toInt64)))])) (fun t k => XS.lcmp X0.here hx rfl (hb hby d1_9) rfl k) ?_
        by_cases c10_4 : (lcmpW (439400 : Int64) (p1.toInt64)) < (0 : Int32)
        · refine Goes.via (B := s₁.setTop (mkF m 13 #[.val (.int p1), .val (.int (4 : Int32)), .val (.long (439400 : Int64)), .second] [])) (fun t k => XS.ifNo X0.here hx rfl (hb hby d1_10) rfl ((if0 _ _).trans (tlt c10_4).2.1) k) ?_
          refine Goes.via (B := s₁.setTop (mkF m 16 #[.val (.int p1), .val (.int (5 : Int32)), .val (.long (439400 : Int64)), .second] [])) (fun t k => XS.iinc X0.here hx rfl (hb hby d1_13) rfl (l' := #[.val (.int p1), .val (.int (5 : Int32)), .val (.long (439400 : Int64)), .second]) rfl k) ?_
          refine Goes.via (B := s₁.setTop (mkF m 17 #[.val (.int p1), .val (.int (5 : Int32)), .val (.long (439400 : Int64)), .second] [(.long (439400 : Int64))])) (fun t k => XS.lloadN X0.here hx rfl (hb hby d1_16) rfl k) ?_
          refine Goes.via (B := s₁.setTop (mkF m 20 #[.val (.int p1), .val (.int (5 : Int32)), .val (.long (439400 : Int64)), .second] [(.long (26 : Int64)), (.long (439400 : Int64))])) (fun t k => X0.ldc2Long hx hown (mvT hZ (hw _ (List.mem_of_getElem? (i := 9) rfl))) (g := (mkF m 17 #[.val (.int p1), .val (.int (5 : Int32)), .val (.long (439400 : Int64)), .second] [(.long (439400 : Int64))])) rfl (hb hby d1_17) _ k) ?_
          refine Goes.via (B := s₁.setTop (mkF m 21 #[.val (.int p1), .val (.int (5 : Int32)), .val (.long (439400 : Int64)), .second] [(.long (11424400 : Int64))])) (fun t k => XS.lmul X0.here hx rfl (hb hby d1_20) rfl k) ?_
          refine Goes.via (B := s₁.setTop (mkF m 22 #[.val (.int p1), .val (.int (5 : Int32)), .val (.long (11424400 : Int64)), .second] [])) (fun t k => XS.lstoreN X0.here hx rfl (hb hby d1_21) rfl (l' := #[.val (.int p1), .val (.int (5 : Int32)), .val (.long (11424400 : Int64)), .second]) rfl k) ?_
          refine Goes.via (B := s₁.setTop (mkF m 6 #[.val (.int p1), .val (.int (5 : Int32)), .val (.long (11424400 : Int64)), .second] [])) (fun t k => XS.goto X0.here hx rfl (pc0 := 22) (pc' := 6) rfl (hb hby d1_22) (by decide) (by decide) k) ?_
          refine Goes.via (B := s₁.setTop (mkF m 7 #[.val (.int p1), .val (.int (5 : Int32)), .val (.long (11424400 : Int64)), .second] [(.long (11424400 : Int64))])) (fun t k => XS.lloadN X0.here hx rfl (hb hby d1_6) rfl k) ?_
          refine Goes.via (B := s₁.setTop (mkF m 8 #[.val (.int p1), .val (.int (5 : Int32)), .val (.long (11424400 : Int64)), .second] [(.int p1), (.long (11424400 : Int64))])) (fun t k => XS.iloadN X0.here hx rfl (hb hby d1_7) rfl k) ?_
          refine Goes.via (B := s₁.setTop (mkF m 9 #[.val (.int p1), .val (.int (5 : Int32)), .val (.long (11424400 : Int64)), .second] [(.long (p1.toInt64)), (.long (11424400 : Int64))])) (fun t k => XS.i2l X0.here hx rfl (hb hby d1_8) rfl k) ?_
          refine Goes.via (B := s₁.setTop (mkF m 10 #[.val (.int p1), .val (.int (5 : Int32)), .val (.long (11424400 : Int64)), .second] [(.int (lcmpW (11424400 : Int64) (p1.toInt64)))])) (fun t k => XS.lcmp X0.here hx rfl (hb hby d1_9) rfl k) ?_
          by_cases c10_5 : (lcmpW (11424400 : Int64) (p1.toInt64)) < (0 : Int32)
          · refine Goes.via (B := s₁.setTop (mkF m 13 #[.val (.int p1), .val (.int (5 : Int32)), .val (.long (11424400 : Int64)), .second] [])) (fun t k => XS.ifNo X0.here hx rfl (hb hby d1_10) rfl ((if0 _ _).trans (tlt c10_5).2.1) k) ?_
            refine Goes.via (B := s₁.setTop (mkF m 16 #[.val (.int p1), .val (.int (6 : Int32)), .val (.long (11424400 : Int64)), .second] [])) (fun t k => XS.iinc X0.here hx rfl (hb hby d1_13) rfl (l' := #[.val (.int p1), .val (.int (6 : Int32)), .val (.long (11424400 : Int64)), .second]) rfl k) ?_
            refine Goes.via (B := s₁.setTop (mkF m 17 #[.val (.int p1), .val (.int (6 : Int32)), .val (.long (11424400 : Int64)), .second] [(.long (11424400 : Int64))])) (fun t k => XS.lloadN X0.here hx rfl (hb hby d1_16) rfl k) ?_
            refine Goes.via (B := s₁.setTop (mkF m 20 #[.val (.int p1), .val (.int (6 : Int32)), .val (.long (11424400 : Int64)), .second] [(.long (26 : Int64)), (.long (11424400 : Int64))])) (fun t k => X0.ldc2Long hx hown (mvT hZ (hw _ (List.mem_of_getElem? (i := 9) rfl))) (g := (mkF m 17 #[.val (.int p1), .val (.int (6 : Int32)), .val (.long (11424400 : Int64)), .second] [(.long (11424400 : Int64))])) rfl (hb hby d1_17) _ k) ?_
            refine Goes.via (B := s₁.setTop (mkF m 21 #[.val (.int p1), .val (.int (6 : Int32)), .val (.long (11424400 : Int64)), .second] [(.long (297034400 : Int64))])) (fun t k => XS.lmul X0.here hx rfl (hb hby d1_20) rfl k) ?_
            refine Goes.via (B := s₁.setTop (mkF m 22 #[.val (.int p1), .val (.int (6 : Int32)), .val (.long (297034400 : Int64)), .second] [])) (fun t k => XS.lstoreN X0.here hx rfl (hb hby d1_21) rfl (l' := #[.val (.int p1), .val (.int (6 : Int32)), .val (.long (297034400 : Int64)), .second]) rfl k) ?_
            refine Goes.via (B := s₁.setTop (mkF m 6 #[.val (.int p1), .val (.int (6 : Int32)), .val (.long (297034400 : Int64)), .second] [])) (fun t k => XS.goto X0.here hx rfl (pc0 := 22) (pc' := 6) rfl (hb hby d1_22) (by decide) (by decide) k) ?_
            refine Goes.via (B := s₁.setTop (mkF m 7 #[.val (.int p1), .val (.int (6 : Int32)), .val (.long (297034400 : Int64)), .second] [(.long (297034400 : Int64))])) (fun t k => XS.lloadN X0.here hx rfl (hb hby d1_6) rfl k) ?_
            refine Goes.via (B := s₁.setTop (mkF m 8 #[.val (.int p1), .val (.int (6 : Int32)), .val (.long (297034400 : Int64)), .second] [(.int p1), (.long (297034400 : Int64))])) (fun t k => XS.iloadN X0.here hx rfl (hb hby d1_7) rfl k) ?_
            refine Goes.via (B := s₁.setTop (mkF m 9 #[.val (.int p1), .val (.int (6 : Int32)), .val (.long (297034400 : Int64)), .second] [(.long (p1.toInt64)), (.long (297034400 : Int64))])) (fun t k => XS.i2l X0.here hx rfl (hb hby d1_8) rfl k) ?_
            refine Goes.via (B := s₁.setTop (mkF m 10 #[.val (.int p1), .val (.int (6 : Int32)), .val (.long (297034400 : Int64)), .second] [(.int (lcmpW (297034400 : Int64) (p1.toInt64)))])) (fun t k => XS.lcmp X0.here hx rfl (hb hby d1_9) rfl k) ?_
            by_cases c10_6 : (lcmpW (297034400 : Int64) (p1.toInt64)) < (0 : Int32)
            · refine Goes.via (B := s₁.setTop (mkF m 13 #[.val (.int p1), .val (.int (6 : Int32)), .val (.long (297034400 : Int64)), .second] [])) (fun t k => XS.ifNo X0.here hx rfl (hb hby d1_10) rfl ((if0 _ _).trans (tlt c10_6).2.1) k) ?_
              refine Goes.via (B := s₁.setTop (mkF m 16 #[.val (.int p1), .val (.int (7 : Int32)), .val (.long (297034400 : Int64)), .second] [])) (fun t k => XS.iinc X0.here hx rfl (hb hby d1_13) rfl (l' := #[.val (.int p1), .val (.int (7 : Int32)), .val (.long (297034400 : Int64)), .second]) rfl k) ?_
              refine Goes.via (B := s₁.setTop (mkF m 17 #[.val (.int p1), .val (.int (7 : Int32)), .val (.long (297034400 : Int64)), .second] [(.long (297034400 : Int64))])) (fun t k => XS.lloadN X0.here hx rfl (hb hby d1_16) rfl k) ?_
              refine Goes.via (B := s₁.setTop (mkF m 20 #[.val (.int p1), .val (.int (7 : Int32)), .val (.long (297034400 : Int64)), .second] [(.long (26 : Int64)), (.long (297034400 : Int64))])) (fun t k => X0.ldc2Long hx hown (mvT hZ (hw _ (List.mem_of_getElem? (i := 9) rfl))) (g := (mkF m 17 #[.val (.int p1), .val (.int (7 : Int32)), .val (.long (297034400 : Int64)), .second] [(.long (297034400 : Int64))])) rfl (hb hby d1_17) _ k) ?_
              refine Goes.via (B := s₁.setTop (mkF m 21 #[.val (.int p1), .val (.int (7 : Int32)), .val (.long (297034400 : Int64)), .second] [(.long (7722894400 : Int64))])) (fun t k => XS.lmul X0.here hx rfl (hb hby d1_20) rfl k) ?_
              refine Goes.via (B := s₁.setTop (mkF m 22 #[.val (.int p1), .val (.int (7 : Int32)), .val (.long (7722894400 : Int64)), .second] [])) (fun t k => XS.lstoreN X0.here hx rfl (hb hby d1_21) rfl (l' := #[.val (.int p1), .val (.int (7 : Int32)), .val (.long (7722894400 : Int64)), .second]) rfl k) ?_
              refine Goes.via (B := s₁.setTop (mkF m 6 #[.val (.int p1), .val (.int (7 : Int32)), .val (.long (7722894400 : Int64)), .second] [])) (fun t k => XS.goto X0.here hx rfl (pc0 := 22) (pc' := 6) rfl (hb hby d1_22) (by decide) (by decide) k) ?_
              refine Goes.via (B := s₁.setTop (mkF m 7 #[.val (.int p1), .val (.int (7 : Int32)), .val (.long (7722894400 : Int64)), .second] [(.long (7722894400 : Int64))])) (fun t k => XS.lloadN X0.here hx rfl (hb hby d1_6) rfl k) ?_
              refine Goes.via (B := s₁.setTop (mkF m 8 #[.val (.int p1), .val (.int (7 : Int32)), .val (.long (7722894400 : Int64)), .second] [(.int p1), (.long (7722894400 : Int64))])) (fun t k => XS.iloadN X0.here hx rfl (hb hby d1_7) rfl k) ?_
              refine Goes.via (B := s₁.setTop (mkF m 9 #[.val (.int p1), .val (.int (7 : Int32)), .val (.long (7722894400 : Int64)), .second] [(.long (p1.toInt64)), (.long (7722894400 : Int64))])) (fun t k => XS.i2l X0.here hx rfl (hb hby d1_8) rfl k) ?_
              refine Goes.via (B := s₁.setTop (mkF m 10 #[.val (.int p1), .val (.int (7 : Int32)), .val (.long (7722894400 : Int64)), .second] [(.int (lcmpW (7722894400 : Int64) (p1.toInt64)))])) (fun t k => XS.lcmp X0.here hx rfl (hb hby d1_9) rfl k) ?_
              refine Goes.via (B := s₁.setTop (mkF m 25 #[.val (.int p1), .val (.int (7 : Int32)), .val (.long (7722894400 : Int64)), .second] [])) (fun t k => XS.ifYes X0.here hx rfl (pc0 := 10) (pc' := 25) rfl (hb hby d1_10) rfl ((if0 _ _).trans (flt (own_top p1)).2.1) (by decide) (by decide) k) ?_
              refine Goes.via (B := s₁.setTop (mkF m 26 #[.val (.int p1), .val (.int (7 : Int32)), .val (.long (7722894400 : Int64)), .second] [(.int (7 : Int32))])) (fun t k => XS.iloadN X0.here hx rfl (hb hby d1_25) rfl k) ?_
              have hv : own_f1 p1 = (7 : Int32) := by rw [own_f1, if_pos c10_1, if_pos c10_2, if_pos c10_3, if_pos c10_4, if_pos c10_5, if_pos c10_6]
              exact own_out X0 (v := some (.int (7 : Int32))) (fun h => by rw [Bd.returns] at h; cases h) Bd.notSynchronized (fun fs hr => retOut X0 hx Bd.returns rfl (Or.inl ⟨rfl, Or.inl rfl, _, rfl⟩) (hb hby d1_26) hr) ⟨by rw [hv], N0, e0⟩ (by decide) (by decide)
            · refine Goes.via (B := s₁.setTop (mkF m 25 #[.val (.int p1), .val (.int (6 : Int32)), .val (.long (297034400 : Int64)), .second] [])) (fun t k => XS.ifYes X0.here hx rfl (pc0 := 10) (pc' := 25) rfl (hb hby d1_10) rfl ((if0 _ _).trans (flt c10_6).2.1) (by decide) (by decide) k) ?_
              refine Goes.via (B := s₁.setTop (mkF m 26 #[.val (.int p1), .val (.int (6 : Int32)), .val (.long (297034400 : Int64)), .second] [(.int (6 : Int32))])) (fun t k => XS.iloadN X0.here hx rfl (hb hby d1_25) rfl k) ?_
              have hv : own_f1 p1 = (6 : Int32) := by rw [own_f1, if_pos c10_1, if_pos c10_2, if_pos c10_3, if_pos c10_4, if_pos c10_5, if_neg c10_6]
              exact own_out X0 (v := some (.int (6 : Int32))) (fun h => by rw [Bd.returns] at h; cases h) Bd.notSynchronized (fun fs hr => retOut X0 hx Bd.returns rfl (Or.inl ⟨rfl, Or.inl rfl, _, rfl⟩) (hb hby d1_26) hr) ⟨by rw [hv], N0, e0⟩ (by decide) (by decide)
          · refine Goes.via (B := s₁.setTop (mkF m 25 #[.val (.int p1), .val (.int (5 : Int32)), .val (.long (11424400 : Int64)), .second] [])) (fun t k => XS.ifYes X0.here hx rfl (pc0 := 10) (pc' := 25) rfl (hb hby d1_10) rfl ((if0 _ _).trans (flt c10_5).2.1) (by decide) (by decide) k) ?_
            refine Goes.via (B := s₁.setTop (mkF m 26 #[.val (.int p1), .val (.int (5 : Int32)), .val (.long (11424400 : Int64)), .second] [(.int (5 : Int32))])) (fun t k => XS.iloadN X0.here hx rfl (hb hby d1_25) rfl k) ?_
            have hv : own_f1 p1 = (5 : Int32) := by rw [own_f1, if_pos c10_1, if_pos c10_2, if_pos c10_3, if_pos c10_4, if_neg c10_5]
            exact own_out X0 (v := some (.int (5 : Int32))) (fun h => by rw [Bd.returns] at h; cases h) Bd.notSynchronized (fun fs hr => retOut X0 hx Bd.returns rfl (Or.inl ⟨rfl, Or.inl rfl, _, rfl⟩) (hb hby d1_26) hr) ⟨by rw [hv], N0, e0⟩ (by decide) (by decide)
        · refine Goes.via (B := s₁.setTop (mkF m 25 #[.val (.int p1), .val (.int (4 : Int32)), .val (.long (439400 : Int64)), .second] [])) (fun t k => XS.ifYes X0.here hx rfl (pc0 := 10) (pc' := 25) rfl (hb hby d1_10) rfl ((if0 _ _).trans (flt c10_4).2.1) (by decide) (by decide) k) ?_
          refine Goes.via (B := s₁.setTop (mkF m 26 #[.val (.int p1), .val (.int (4 : Int32)), .val (.long (439400 : Int64)), .second] [(.int (4 : Int32))])) (fun t k => XS.iloadN X0.here hx rfl (hb hby d1_25) rfl k) ?_
          have hv : own_f1 p1 = (4 : Int32) := by rw [own_f1, if_pos c10_1, if_pos c10_2, if_pos c10_3, if_neg c10_4]
          exact own_out X0 (v := some (.int (4 : Int32))) (fun h => by rw [Bd.returns] at h; cases h) Bd.notSynchronized (fun fs hr => retOut X0 hx Bd.returns rfl (Or.inl ⟨rfl, Or.inl rfl, _, rfl⟩) (hb hby d1_26) hr) ⟨by rw [hv], N0, e0⟩ (by decide) (by decide)
      · refine Goes.via (B := s₁.setTop (mkF m 25 #[.val (.int p1), .val (.int (3 : Int32)), .val (.long (16900 : Int64)), .second] [])) (fun t k => XS.ifYes X0.here hx rfl (pc0 := 10) (pc' := 25) rfl (hb hby d1_10) rfl ((if0 _ _).trans (flt c10_3).2.1) (by decide) (by decide) k) ?_
        refine Goes.via (B := s₁.setTop (mkF m 26 #[.val (.int p1), .val (.int (3 : Int32)), .val (.long (16900 : Int64)), .second] [(.int (3 : Int32))])) (fun t k => XS.iloadN X0.here hx rfl (hb hby d1_25) rfl k) ?_
        have hv : own_f1 p1 = (3 : Int32) := by rw [own_f1, if_pos c10_1, if_pos c10_2, if_neg c10_3]
        exact own_out X0 (v := some (.int (3 : Int32))) (fun h => by rw [Bd.returns] at h; cases h) Bd.notSynchronized (fun fs hr => retOut X0 hx Bd.returns rfl (Or.inl ⟨rfl, Or.inl rfl, _, rfl⟩) (hb hby d1_26) hr) ⟨by rw [hv], N0, e0⟩ (by decide) (by decide)
    · refine Goes.via (B := s₁.setTop (mkF m 25 #[.val (.int p1), .val (.int (2 : Int32)), .val (.long (650 : Int64)), .second] [])) (fun t k => XS.ifYes X0.here hx rfl (pc0 := 10) (pc' := 25) rfl (hb hby d1_10) rfl ((if0 _ _).trans (flt c10_2).2.1) (by decide) (by decide) k) ?_
      refine Goes.via (B := s₁.setTop (mkF m 26 #[.val (.int p1), .val (.int (2 : Int32)), .val (.long (650 : Int64)), .second] [(.int (2 : Int32))])) (fun t k => XS.iloadN X0.here hx rfl (hb hby d1_25) rfl k) ?_
      have hv : own_f1 p1 = (2 : Int32) := by rw [own_f1, if_pos c10_1, if_neg c10_2]
      exact own_out X0 (v := some (.int (2 : Int32))) (fun h => by rw [Bd.returns] at h; cases h) Bd.notSynchronized (fun fs hr => retOut X0 hx Bd.returns rfl (Or.inl ⟨rfl, Or.inl rfl, _, rfl⟩) (hb hby d1_26) hr) ⟨by rw [hv], N0, e0⟩ (by decide) (by decide)
  · refine Goes.via (B := s₁.setTop (mkF m 25 #[.val (.int p1), .val (.int (1 : Int32)), .val (.long (25 : Int64)), .second] [])) (fun t k => XS.ifYes X0.here hx rfl (pc0 := 10) (pc' := 25) rfl (hb hby d1_10) rfl ((if0 _ _).trans (flt c10_1).2.1) (by decide) (by decide) k) ?_
    refine Goes.via (B := s₁.setTop (mkF m 26 #[.val (.int p1), .val (.int (1 : Int32)), .val (.long (25 : Int64)), .second] [(.int (1 : Int32))])) (fun t k => XS.iloadN X0.here hx rfl (hb hby d1_25) rfl k) ?_
    have hv : own_f1 p1 = (1 : Int32) := by rw [own_f1, if_neg c10_1]
    exact own_out X0 (v := some (.int (1 : Int32))) (fun h => by rw [Bd.returns] at h; cases h) Bd.notSynchronized (fun fs hr => retOut X0 hx Bd.returns rfl (Or.inl ⟨rfl, Or.inl rfl, _, rfl⟩) (hb hby d1_26) hr) ⟨by rw [hv], N0, e0⟩ (by decide) (by decide)
def own_f2 (p1 : Int32) : Int32 := if (25 : Int32) < p1 then if (650 : Int32) < p1 then if (16900 : Int32) < p1 then if (439400 : Int32) < p1 then if (11424400 : Int32) < p1 then if (297034400 : Int32) < p1 then (7 : Int32) else (6 : Int32) else (5 : Int32) else (4 : Int32) else (3 : Int32) else (2 : Int32) else (1 : Int32)
theorem d2_0 : decode method_2_code 0 = .ok (.iload_n 0, 1) := by decide +kernel
theorem d2_1 : decode method_2_code 1 = .ok (.bipush 25, 2) := by decide +kernel
theorem d2_3 : decode method_2_code 3 = .ok (.if_icmp .gt 5, 3) := by decide +kernel
theorem d2_6 : decode method_2_code 6 = .ok (.iconst 1, 1) := by decide +kernel
theorem d2_7 : decode method_2_code 7 = .ok (.ireturn, 1) := by decide +kernel
theorem d2_8 : decode method_2_code 8 = .ok (.iload_n 0, 1) := by decide +kernel
theorem d2_9 : decode method_2_code 9 = .ok (.sipush 650, 3) := by decide +kernel
theorem d2_12 : decode method_2_code 12 = .ok (.if_icmp .gt 5, 3) := by decide +kernel
theorem d2_15 : decode method_2_code 15 = .ok (.iconst 2, 1) := by decide +kernel
theorem d2_16 : decode method_2_code 16 = .ok (.ireturn, 1) := by decide +kernel
theorem d2_17 : decode method_2_code 17 = .ok (.iload_n 0, 1) := by decide +kernel
theorem d2_18 : decode method_2_code 18 = .ok (.sipush 16900, 3) := by decide +kernel
theorem d2_21 : decode method_2_code 21 = .ok (.if_icmp .gt 5, 3) := by decide +kernel
theorem d2_24 : decode method_2_code 24 = .ok (.iconst 3, 1) := by decide +kernel
theorem d2_25 : decode method_2_code 25 = .ok (.ireturn, 1) := by decide +kernel
theorem d2_26 : decode method_2_code 26 = .ok (.iload_n 0, 1) := by decide +kernel
theorem d2_27 : decode method_2_code 27 = .ok (.ldc 7, 2) := by decide +kernel
theorem d2_29 : decode method_2_code 29 = .ok (.if_icmp .gt 5, 3) := by decide +kernel
theorem d2_32 : decode method_2_code 32 = .ok (.iconst 4, 1) := by decide +kernel
theorem d2_33 : decode method_2_code 33 = .ok (.ireturn, 1) := by decide +kernel
theorem d2_34 : decode method_2_code 34 = .ok (.iload_n 0, 1) := by decide +kernel
theorem d2_35 : decode method_2_code 35 = .ok (.ldc 8, 2) := by decide +kernel
theorem d2_37 : decode method_2_code 37 = .ok (.if_icmp .gt 5, 3) := by decide +kernel
theorem d2_40 : decode method_2_code 40 = .ok (.iconst 5, 1) := by decide +kernel
theorem d2_41 : decode method_2_code 41 = .ok (.ireturn, 1) := by decide +kernel
theorem d2_42 : decode method_2_code 42 = .ok (.iload_n 0, 1) := by decide +kernel
theorem d2_43 : decode method_2_code 43 = .ok (.ldc 9, 2) := by decide +kernel
theorem d2_45 : decode method_2_code 45 = .ok (.if_icmp .gt 6, 3) := by decide +kernel
theorem d2_48 : decode method_2_code 48 = .ok (.bipush 6, 2) := by decide +kernel
theorem d2_50 : decode method_2_code 50 = .ok (.ireturn, 1) := by decide +kernel
theorem d2_51 : decode method_2_code 51 = .ok (.bipush 7, 2) := by decide +kernel
theorem d2_53 : decode method_2_code 53 = .ok (.ireturn, 1) := by decide +kernel
theorem pn_com_example_thoth_thoth_StepsWidthPinLaw : plainName "com/example/thoth/thoth/StepsWidthPinLaw" = true := by first | (simp [plainName, overriddenIn]; done) | decide +kernel
theorem ef_2 (m : MethodId) (x0 : Int32) : entryFrame m #[(.int x0)] 1 = mkF m 0 #[.val (.int x0)] [] := by first | (simp [entryFrame, mkF, argsToLocals, Value.category]; done) | rfl
def Q2 (Z : State) (p1 : Int32) (h0 : Heap) (n0 : Nat) (v : Option Value) (h : Heap) (L : List Loc) : Prop := v = some (.int (own_f2 p1)) ∧ Fr n0 L ∧ h = h0
set_option maxRecDepth 65536 in
set_option maxHeartbeats 40000000 in
theorem rm2 (l : Launch) (Z : State) (a0 : Array Value) (hw : ∀ d ∈ tables_1, d.before a0 Z = true) (ws : List Jvm.Cond) (p1 : Int32) (h0 : Heap) (n0 : Nat) (Z0 : n0 ≤ h0.size)  :
    MetFree l (⟨"com/example/thoth/thoth/StepsWidthPinLaw", "expectedWidth", "(I)I"⟩ : MethodName) (head1 (Jvm.Cond.code (⟨"com/example/thoth/thoth/StepsWidthPinLaw", "expectedWidth", "(I)I"⟩ : MethodName) method_2_code 1 (some .int) :: ws) ({ frames := 0, cells := 0, slots := 0, locals := 0 } : Room)) (fun a U => a = #[(.int p1)] ∧ Z.Warmed39 U.vm ∧ U.heap = h0) (fun _ _ _ _ _ => True) (fun _ U o U' => ∃ v L, o = .returned v ∧ Q2 Z p1 h0 n0 v U'.heap L ∧ FrameEnd U o U' L ({ frames := 0, cells := 0, slots := 0, locals := 0 } : Room).cells ({ frames := 0, cells := 0, slots := 0, locals := 0 } : Room).slots) := by
  refine MetFree.of_bodySF (plainFor_of_name pn_com_example_thoth_thoth_StepsWidthPinLaw) hisR ?_
  intro p e s m args below meth c s₁ Bd hml0 hP hK
  obtain ⟨rfl, hZ, hh⟩ := hP
  have hx := Bd.exec
  have hby := Bd.bytes
  have hml : c.maxLocals = 1 := hml0
  have hown : s.vm.findClass "com/example/thoth/thoth/StepsWidthPinLaw" = some m.cls := findClass_of_methodNamed Bd.named
  have hnm := (name_of_methodNamed Bd.named Bd.method).1
  have X0 : Stand p l e ({ frames := 0, cells := 0, slots := 0, locals := 0 } : Room) s m #[(.int p1)] below meth c s₁ [] 0 0 := Stand.of_body Bd
  have e0 : s₁.heap = h0 := by rw [← hh, Bd.state]; rfl
  have N0 := Fr.nil n0
  show Goes p e below (fun s₂ o => ∃ v L, o = .returned v ∧ Q2 Z p1 h0 n0 v s₂.heap L ∧ FrameEnd s o s₂ L ({ frames := 0, cells := 0, slots := 0, locals := 0 } : Room).cells ({ frames := 0, cells := 0, slots := 0, locals := 0 } : Room).slots) (s₁.setTop (entryFrame m #[(.int p1)] 1))
  refine Goes.cast (ef_2 m p1) ?_
  refine Goes.via (B := s₁.setTop (mkF m 1 #[.val (.int p1)] [(.int p1)])) (fun t k => XS.iloadN X0.here hx rfl (hb hby d2_0) rfl k) ?_
  refine Goes.via (B := s₁.setTop (mkF m 3 #[.val (.int p1)] [(.int (25 : Int32)), (.int p1)])) (fun t k => XS.bipush X0.here hx rfl (hb hby d2_1) k) ?_
  by_cases c3_1 : (25 : Int32) < p1
  · refine Goes.via (B := s₁.setTop (mkF m 8 #[.val (.int p1)] [])) (fun t k => XS.icmpYes X0.here hx rfl (pc0 := 3) (pc' := 8) rfl (hb hby d2_3) rfl (tlt c3_1).2.2.1 (by decide) (by decide) k) ?_
    refine Goes.via (B := s₁.setTop (mkF m 9 #[.val (.int p1)] [(.int p1)])) (fun t k => XS.iloadN X0.here hx rfl (hb hby d2_8) rfl k) ?_
    refine Goes.via (B := s₁.setTop (mkF m 12 #[.val (.int p1)] [(.int (650 : Int32)), (.int p1)])) (fun t k => XS.sipush X0.here hx rfl (hb hby d2_9) k) ?_
    by_cases c12_2 : (650 : Int32) < p1
    · refine Goes.via (B := s₁.setTop (mkF m 17 #[.val (.int p1)] [])) (fun t k => XS.icmpYes X0.here hx rfl (pc0 := 12) (pc' := 17) rfl (hb hby d2_12) rfl (tlt c12_2).2.2.1 (by decide) (by decide) k) ?_
      refine Goes.via (B := s₁.setTop (mkF m 18 #[.val (.int p1)] [(.int p1)])) (fun t k => XS.iloadN X0.here hx rfl (hb hby d2_17) rfl k) ?_
      refine Goes.via (B := s₁.setTop (mkF m 21 #[.val (.int p1)] [(.int (16900 : Int32)), (.int p1)])) (fun t k => XS.sipush X0.here hx rfl (hb hby d2_18) k) ?_
      by_cases c21_3 : (16900 : Int32) < p1
      · refine Goes.via (B := s₁.setTop (mkF m 26 #[.val (.int p1)] [])) (fun t k => XS.icmpYes X0.here hx rfl (pc0 := 21) (pc' := 26) rfl (hb hby d2_21) rfl (tlt c21_3).2.2.1 (by decide) (by decide) k) ?_
        refine Goes.via (B := s₁.setTop (mkF m 27 #[.val (.int p1)] [(.int p1)])) (fun t k => XS.iloadN X0.here hx rfl (hb hby d2_26) rfl k) ?_
        refine Goes.via (B := s₁.setTop (mkF m 29 #[.val (.int p1)] [(.int (439400 : Int32)), (.int p1)])) (fun t k => X0.ldcInt hx hown (mvT hZ (hw _ (List.mem_of_getElem? (i := 10) rfl))) (g := (mkF m 27 #[.val (.int p1)] [(.int p1)])) rfl (hb hby d2_27) _ k) ?_
        by_cases c29_4 : (439400 : Int32) < p1
        · refine Goes.via (B := s₁.setTop (mkF m 34 #[.val (.int p1)] [])) (fun t k => XS.icmpYes X0.here hx rfl (pc0 := 29) (pc' := 34) rfl (hb hby d2_29) rfl (tlt c29_4).2.2.1 (by decide) (by decide) k) ?_
          refine Goes.via (B := s₁.setTop (mkF m 35 #[.val (.int p1)] [(.int p1)])) (fun t k => XS.iloadN X0.here hx rfl (hb hby d2_34) rfl k) ?_
          refine Goes.via (B := s₁.setTop (mkF m 37 #[.val (.int p1)] [(.int (11424400 : Int32)), (.int p1)])) (fun t k => X0.ldcInt hx hown (mvT hZ (hw _ (List.mem_of_getElem? (i := 11) rfl))) (g := (mkF m 35 #[.val (.int p1)] [(.int p1)])) rfl (hb hby d2_35) _ k) ?_
          by_cases c37_5 : (11424400 : Int32) < p1
          · refine Goes.via (B := s₁.setTop (mkF m 42 #[.val (.int p1)] [])) (fun t k => XS.icmpYes X0.here hx rfl (pc0 := 37) (pc' := 42) rfl (hb hby d2_37) rfl (tlt c37_5).2.2.1 (by decide) (by decide) k) ?_
            refine Goes.via (B := s₁.setTop (mkF m 43 #[.val (.int p1)] [(.int p1)])) (fun t k => XS.iloadN X0.here hx rfl (hb hby d2_42) rfl k) ?_
            refine Goes.via (B := s₁.setTop (mkF m 45 #[.val (.int p1)] [(.int (297034400 : Int32)), (.int p1)])) (fun t k => X0.ldcInt hx hown (mvT hZ (hw _ (List.mem_of_getElem? (i := 12) rfl))) (g := (mkF m 43 #[.val (.int p1)] [(.int p1)])) rfl (hb hby d2_43) _ k) ?_
            by_cases c45_6 : (297034400 : Int32) < p1
            · refine Goes.via (B := s₁.setTop (mkF m 51 #[.val (.int p1)] [])) (fun t k => XS.icmpYes X0.here hx rfl (pc0 := 45) (pc' := 51) rfl (hb hby d2_45) rfl (tlt c45_6).2.2.1 (by decide) (by decide) k) ?_
              refine Goes.via (B := s₁.setTop (mkF m 53 #[.val (.int p1)] [(.int (7 : Int32))])) (fun t k => XS.bipush X0.here hx rfl (hb hby d2_51) k) ?_
              have hv : own_f2 p1 = (7 : Int32) := by rw [own_f2, if_pos c3_1, if_pos c12_2, if_pos c21_3, if_pos c29_4, if_pos c37_5, if_pos c45_6]
              exact own_out X0 (v := some (.int (7 : Int32))) (fun h => by rw [Bd.returns] at h; cases h) Bd.notSynchronized (fun fs hr => retOut X0 hx Bd.returns rfl (Or.inl ⟨rfl, Or.inl rfl, _, rfl⟩) (hb hby d2_53) hr) ⟨by rw [hv], N0, e0⟩ (by decide) (by decide)
            · refine Goes.via (B := s₁.setTop (mkF m 48 #[.val (.int p1)] [])) (fun t k => XS.icmpNo X0.here hx rfl (hb hby d2_45) rfl (flt c45_6).2.2.1 k) ?_
              refine Goes.via (B := s₁.setTop (mkF m 50 #[.val (.int p1)] [(.int (6 : Int32))])) (fun t k => XS.bipush X0.here hx rfl (hb hby d2_48) k) ?_
              have hv : own_f2 p1 = (6 : Int32) := by rw [own_f2, if_pos c3_1, if_pos c12_2, if_pos c21_3, if_pos c29_4, if_pos c37_5, if_neg c45_6]
              exact own_out X0 (v := some (.int (6 : Int32))) (fun h => by rw [Bd.returns] at h; cases h) Bd.notSynchronized (fun fs hr => retOut X0 hx Bd.returns rfl (Or.inl ⟨rfl, Or.inl rfl, _, rfl⟩) (hb hby d2_50) hr) ⟨by rw [hv], N0, e0⟩ (by decide) (by decide)
          · refine Goes.via (B := s₁.setTop (mkF m 40 #[.val (.int p1)] [])) (fun t k => XS.icmpNo X0.here hx rfl (hb hby d2_37) rfl (flt c37_5).2.2.1 k) ?_
            refine Goes.via (B := s₁.setTop (mkF m 41 #[.val (.int p1)] [(.int (5 : Int32))])) (fun t k => XS.iconst X0.here hx rfl (hb hby d2_40) k) ?_
            have hv : own_f2 p1 = (5 : Int32) := by rw [own_f2, if_pos c3_1, if_pos c12_2, if_pos c21_3, if_pos c29_4, if_neg c37_5]
            exact own_out X0 (v := some (.int (5 : Int32))) (fun h => by rw [Bd.returns] at h; cases h) Bd.notSynchronized (fun fs hr => retOut X0 hx Bd.returns rfl (Or.inl ⟨rfl, Or.inl rfl, _, rfl⟩) (hb hby d2_41) hr) ⟨by rw [hv], N0, e0⟩ (by decide) (by decide)
        · refine Goes.via (B := s₁.setTop (mkF m 32 #[.val (.int p1)] [])) (fun t k => XS.icmpNo X0.here hx rfl (hb hby d2_29) rfl (flt c29_4).2.2.1 k) ?_
          refine Goes.via (B := s₁.setTop (mkF m 33 #[.val (.int p1)] [(.int (4 : Int32))])) (fun t k => XS.iconst X0.here hx rfl (hb hby d2_32) k) ?_
          have hv : own_f2 p1 = (4 : Int32) := by rw [own_f2, if_pos c3_1, if_pos c12_2, if_pos c21_3, if_neg c29_4]
          exact own_out X0 (v := some (.int (4 : Int32))) (fun h => by rw [Bd.returns] at h; cases h) Bd.notSynchronized (fun fs hr => retOut X0 hx Bd.returns rfl (Or.inl ⟨rfl, Or.inl rfl, _, rfl⟩) (hb hby d2_33) hr) ⟨by rw [hv], N0, e0⟩ (by decide) (by decide)
      · refine Goes.via (B := s₁.setTop (mkF m 24 #[.val (.int p1)] [])) (fun t k => XS.icmpNo X0.here hx rfl (hb hby d2_21) rfl (flt c21_3).2.2.1 k) ?_
        refine Goes.via (B := s₁.setTop (mkF m 25 #[.val (.int p1)] [(.int (3 : Int32))])) (fun t k => XS.iconst X0.here hx rfl (hb hby d2_24) k) ?_
        have hv : own_f2 p1 = (3 : Int32) := by rw [own_f2, if_pos c3_1, if_pos c12_2, if_neg c21_3]
        exact own_out X0 (v := some (.int (3 : Int32))) (fun h => by rw [Bd.returns] at h; cases h) Bd.notSynchronized (fun fs hr => retOut X0 hx Bd.returns rfl (Or.inl ⟨rfl, Or.inl rfl, _, rfl⟩) (hb hby d2_25) hr) ⟨by rw [hv], N0, e0⟩ (by decide) (by decide)
    · refine Goes.via (B := s₁.setTop (mkF m 15 #[.val (.int p1)] [])) (fun t k => XS.icmpNo X0.here hx rfl (hb hby d2_12) rfl (flt c12_2).2.2.1 k) ?_
      refine Goes.via (B := s₁.setTop (mkF m 16 #[.val (.int p1)] [(.int (2 : Int32))])) (fun t k => XS.iconst X0.here hx rfl (hb hby d2_15) k) ?_
      have hv : own_f2 p1 = (2 : Int32) := by rw [own_f2, if_pos c3_1, if_neg c12_2]
      exact own_out X0 (v := some (.int (2 : Int32))) (fun h => by rw [Bd.returns] at h; cases h) Bd.notSynchronized (fun fs hr => retOut X0 hx Bd.returns rfl (Or.inl ⟨rfl, Or.inl rfl, _, rfl⟩) (hb hby d2_16) hr) ⟨by rw [hv], N0, e0⟩ (by decide) (by decide)
  · refine Goes.via (B := s₁.setTop (mkF m 6 #[.val (.int p1)] [])) (fun t k => XS.icmpNo X0.here hx rfl (hb hby d2_3) rfl (flt c3_1).2.2.1 k) ?_
    refine Goes.via (B := s₁.setTop (mkF m 7 #[.val (.int p1)] [(.int (1 : Int32))])) (fun t k => XS.iconst X0.here hx rfl (hb hby d2_6) k) ?_
    have hv : own_f2 p1 = (1 : Int32) := by rw [own_f2, if_neg c3_1]
    exact own_out X0 (v := some (.int (1 : Int32))) (fun h => by rw [Bd.returns] at h; cases h) Bd.notSynchronized (fun fs hr => retOut X0 hx Bd.returns rfl (Or.inl ⟨rfl, Or.inl rfl, _, rfl⟩) (hb hby d2_7) hr) ⟨by rw [hv], N0, e0⟩ (by decide) (by decide)
theorem own_same (c : Int32) : own_f1 c = own_f2 c := by
  unfold own_f1 own_f2
  simp only [lw_lt]
  repeat' split
  all_goals first | rfl | (exfalso; simp only [Int64.lt_iff_toInt_lt, c_i2l, Int64.reduceToInt, Int32.lt_iff_toInt_lt, Int32.reduceToInt] at *; omega)
theorem pd__I_I : parseMethodDescriptor "(I)I" = some ⟨[.int], some .int⟩ := by decide +kernel
theorem ef_0 (m : MethodId) (x0 : Int32) : entryFrame m #[(.int x0)] maxLocals = mkF m 0 #[.val (.int x0), .unset] [] := by first | (simp [entryFrame, mkF, argsToLocals, Value.category, maxLocals]; done) | rfl
def Q0 (Z : State) (p1 : Int32) (h0 : Heap) (n0 : Nat) (v : Option Value) (h : Heap) (L : List Loc) : Prop := v = some (.int (1 : Int32)) ∧ Fr n0 L
set_option maxRecDepth 65536 in
set_option maxHeartbeats 40000000 in
theorem rm0 (l : Launch) (Z : State) (a0 : Array Value) (hw : ∀ d ∈ tables_1, d.before a0 Z = true) (ws : List Jvm.Cond) (p1 : Int32) (h0 : Heap) (n0 : Nat) (Z0 : n0 ≤ h0.size)  :
    MetFree l x (head1 (Jvm.Cond.code x code maxLocals ret :: ws) room_1) (fun a U => a = #[(.int p1)] ∧ Z.Warmed39 U.vm ∧ U.heap = h0) (fun _ _ _ _ _ => True) (fun _ U o U' => ∃ v L, o = .returned v ∧ Q0 Z p1 h0 n0 v U'.heap L ∧ FrameEnd U o U' L room_1.cells room_1.slots) := by
  refine MetFree.of_bodySF (plainFor_of_name pn_com_example_thoth_thoth_StepsWidthPinLaw) hisR ?_
  intro p e s m args below meth c s₁ Bd hml0 hP hK
  obtain ⟨rfl, hZ, hh⟩ := hP
  have hx := Bd.exec
  have hby := Bd.bytes
  have hml : c.maxLocals = 2 := hml0
  have hown : s.vm.findClass "com/example/thoth/thoth/StepsWidthPinLaw" = some m.cls := findClass_of_methodNamed Bd.named
  have hnm := (name_of_methodNamed Bd.named Bd.method).1
  have X0 : Stand p l e room_1 s m #[(.int p1)] below meth c s₁ [] 0 0 := Stand.of_body Bd
  have e0 : s₁.heap = h0 := by rw [← hh, Bd.state]; rfl
  have N0 := Fr.nil n0
  show Goes p e below (fun s₂ o => ∃ v L, o = .returned v ∧ Q0 Z p1 h0 n0 v s₂.heap L ∧ FrameEnd s o s₂ L room_1.cells room_1.slots) (s₁.setTop (entryFrame m #[(.int p1)] maxLocals))
  refine Goes.cast (ef_0 m p1) ?_
  refine Goes.via (B := s₁.setTop (mkF m 1 #[.val (.int p1), .unset] [(.int p1)])) (fun t k => XS.iloadN X0.here hx rfl (hb hby at_0) rfl k) ?_
  obtain ⟨_, _, ⟨T1, L1, kk1, nn1⟩, -, X1, ⟨Lc1, hQ1, l1, y1, z1⟩, st1⟩ := Jvm.LawKit.callS X0 hx (y := (⟨"com/example/thoth/thoth/Steps", "width", "(I)I"⟩ : MethodName)) hown (mvT hZ (hw _ (List.mem_of_getElem? (i := 0) rfl))) (mvT hZ (hw _ (List.mem_of_getElem? (i := 1) rfl))) (mvT hZ (hw _ (List.mem_of_getElem? (i := 2) rfl))) (mvT hZ (hw _ (List.mem_of_getElem? (i := 3) rfl))) (by decide) (backOf (W := 0) (rm1 l Z a0 hw [] p1 h0 n0 Z0 ) hZ (hw _ (List.mem_of_getElem? (i := 3) rfl)) (hw _ (List.mem_of_getElem? (i := 2) rfl)) (by decide) (by decide)) (g := (mkF m 1 #[.val (.int p1), .unset] [(.int p1)])) rfl (by rw [hml]; rfl) (argsL := [(.int p1)]) (rest := []) (lenOf pd__I_I rfl) rfl (by show 2 * 0 + _ ≤ _; exact Nat.le_of_eq rfl) (hb hby at_1) (fun _ _ => ⟨rfl, e0, (by decide : 0 + 0 ≤ _), (by decide : 0 + 0 ≤ _)⟩)
  dsimp only [Pt.U, Pt.locs, Pt.cells, Pt.slots] at X1 l1 y1 z1 st1 hQ1
  subst l1 y1 z1
  obtain ⟨rfl, Nq1, hq1⟩ := hQ1
  have N1 := Fr.app N0 Nq1
  refine Goes.via (B := T1.setTop (mkF m 4 #[.val (.int p1), .unset] [(.int (own_f1 p1))])) st1 ?_
  refine Goes.via (B := T1.setTop (mkF m 5 #[.val (.int p1), .val (.int (own_f1 p1))] [])) (fun t k => XS.istoreN X1.here hx rfl (hb hby at_4) rfl (l' := #[.val (.int p1), .val (.int (own_f1 p1))]) rfl k) ?_
  refine Goes.via (B := T1.setTop (mkF m 6 #[.val (.int p1), .val (.int (own_f1 p1))] [(.int (own_f1 p1))])) (fun t k => XS.iloadN X1.here hx rfl (hb hby at_5) rfl k) ?_
  refine Goes.via (B := T1.setTop (mkF m 7 #[.val (.int p1), .val (.int (own_f1 p1))] [(.int p1), (.int (own_f1 p1))])) (fun t k => XS.iloadN X1.here hx rfl (hb hby at_6) rfl k) ?_
  obtain ⟨_, _, ⟨T2, L2, kk2, nn2⟩, -, X2, ⟨Lc2, hQ2, l2, y2, z2⟩, st2⟩ := Jvm.LawKit.callS X1 hx (y := (⟨"com/example/thoth/thoth/StepsWidthPinLaw", "expectedWidth", "(I)I"⟩ : MethodName)) hown (mvT hZ (hw _ (List.mem_of_getElem? (i := 5) rfl))) (mvT hZ (hw _ (List.mem_of_getElem? (i := 6) rfl))) (mvT hZ (hw _ (List.mem_of_getElem? (i := 7) rfl))) (mvT hZ (hw _ (List.mem_of_getElem? (i := 8) rfl))) (by decide) (backOf (W := 1) (rm2 l Z a0 hw [] p1 h0 n0 Z0 ) hZ (hw _ (List.mem_of_getElem? (i := 8) rfl)) (hw _ (List.mem_of_getElem? (i := 7) rfl)) (by decide) (by decide)) (g := (mkF m 7 #[.val (.int p1), .val (.int (own_f1 p1))] [(.int p1), (.int (own_f1 p1))])) rfl (by rw [hml]; rfl) (argsL := [(.int p1)]) (rest := [(.int (own_f1 p1))]) (lenOf pd__I_I rfl) rfl (by show 2 * 0 + _ ≤ _; exact Nat.le_of_eq rfl) (hb hby at_7) (fun _ _ => ⟨rfl, hq1, (by decide : 0 + 0 ≤ _), (by decide : 0 + 0 ≤ _)⟩)
  dsimp only [Pt.U, Pt.locs, Pt.cells, Pt.slots] at X2 l2 y2 z2 st2 hQ2
  subst l2 y2 z2
  obtain ⟨rfl, Nq2, hq2⟩ := hQ2
  have N2 := Fr.app N1 Nq2
  refine Goes.via (B := T2.setTop (mkF m 10 #[.val (.int p1), .val (.int (own_f1 p1))] [(.int (own_f2 p1)), (.int (own_f1 p1))])) st2 ?_
  refine Goes.via (B := T2.setTop (mkF m 13 #[.val (.int p1), .val (.int (own_f1 p1))] [])) (fun t k => XS.icmpNo X2.here hx rfl (hb hby at_10) rfl (teq (own_same p1)).2 k) ?_
  refine Goes.via (B := T2.setTop (mkF m 14 #[.val (.int p1), .val (.int (own_f1 p1))] [(.int (1 : Int32))])) (fun t k => XS.iconst X2.here hx rfl (hb hby at_13) k) ?_
  refine Goes.via (B := T2.setTop (mkF m 18 #[.val (.int p1), .val (.int (own_f1 p1))] [(.int (1 : Int32))])) (fun t k => XS.goto X2.here hx rfl (pc0 := 14) (pc' := 18) rfl (hb hby at_14) (by decide) (by decide) k) ?_
  exact own_out X2 (v := some (.int (1 : Int32))) (fun h => by rw [Bd.returns] at h; cases h) Bd.notSynchronized (fun fs hr => retOut X2 hx Bd.returns rfl (Or.inl ⟨rfl, Or.inr (Or.inl rfl), _, rfl⟩) (hb hby at_18) hr) ⟨rfl, N2⟩ (by decide) (by decide)
set_option maxRecDepth 65536 in
set_option maxHeartbeats 40000000 in
theorem comes_1 {Post : Tables → Env → Array Value → State → Outcome → State → Prop} (hpost : ∀ tb e args s v u, (limb_1_1.after args s (.returned v) u = true ∧ limb_1_2.after args s (.returned v) u = true ∧ True) → FrameEnd s (.returned v) u (Jvm.fieldLocs frame_1_writes args s ++ Jvm.arrayLocs frame_1_arrays args s ++ Jvm.staticLocs frame_1_statics s) 0 0 → Post tb e args s (.returned v) u) :
    ArmFor flags0 classFile x code maxLocals ret World_1 tables_1 room_1 Calls_1 rest_1 Pre_1 Post := by
  intro l hfl _ _ p e ha hc hk s m args below hf hA hF happ hP
  obtain ⟨hcalls, hrest, hpre⟩ := hP
  obtain ⟨-, -, -, hnamed, -, -, -, hat⟩ := (Spec.applies_iff hf).mp happ
  obtain ⟨hg, hn⟩ := and_e (Cond.before_iff.mp (show (Jvm.Cond.and given_1 narrow_1).before args s = true from hpre))
  obtain ⟨h1, r0⟩ := and_e hg
  obtain ⟨w0, rfl⟩ : ∃ w0 : Value, args = #[w0] := by
    have hs : args.size = 1 := by simpa [Cond.value, given_1] using h1
    obtain ⟨L⟩ := args
    match L, hs with
    | [w0], _ => exact ⟨w0, rfl⟩
  have hw := fun d (hd : d ∈ tables_1) => atoms_spec (ws := Jvm.Cond.code x code maxLocals ret :: tables_1) hat d (List.mem_cons_of_mem _ hd)
  obtain ⟨i0, q0⟩ := is_v r0
  obtain rfl : w0 = (.int i0) := Option.some.inj q0
  obtain ⟨n, o, h1, h2, h3, _, L, rfl, ⟨rfl, N⟩, hq⟩ := rm0 l s _ hw tables_1 i0  s.heap s.heap.size (Nat.le_refl _) p e ha hc hk s m _ below hf ((Spec.applies_iff_loose hf).mp happ).1 ⟨rfl, State.Warmed39.refl s, rfl⟩ trivial
  refine ⟨n, _, h1, h2, h3, hpost _ _ _ _ _ _ ⟨Cond.after_iff.mpr rfl, Cond.after_iff.mpr (eq_i res_at (Term.int_eval (1)) rfl), trivial⟩ ⟨hq.1, hq.2.1, (hq.2.2.sift fun y hy => Or.inr (N y hy)).mono (by decide) (by decide)⟩⟩
theorem main_1_1 : Claimed_1_1 := comes_1 fun _ _ _ _ _ _ h hF => ⟨h.1, hF⟩
theorem main_1_2 : Claimed_1_2 := comes_1 fun _ _ _ _ _ _ h hF => ⟨h.2.1, hF⟩
end Jvm.Pilot.@@N@@
namespace Jvm.Pilot.@@N@@
open Jvm Jvm.ClassFile Sem Op Lib Jvm.Free Jvm.Stand Jvm.Pilot.@@N@@.Jvm.D
/-! MADE BY PROGRAM (witnessworld.py) out of the Statement's table words and the real class files: 7 classes; the members and pool entries that the words name. The judged class is class 1, her method 2. -/
namespace start1
open Jvm.ClassFile
def u (s : String) : CpInfo := .utf8 (stringToUtf16 s)
/-- a pool by its gaps: so many unusable entries, then the entry; so many at the end -/
def gap : Nat → List CpInfo → List CpInfo
  | 0, r => r
  | n + 1, r => .unusable :: gap n r
def poolList (es : List (Nat × CpInfo)) (last : Nat) : List CpInfo := es.foldr (fun e r => gap e.1 (e.2 :: r)) (gap last [])
def pool (es : List (Nat × CpInfo)) (last : Nat) : Array CpInfo := ⟨poolList es last⟩
def fileOf (pool : Array CpInfo) (this : Nat) (attrs : Array Attribute := #[]) (ms : Array MethodInfo := #[]) (fl : Nat := 33) (sup : Nat := 0) (ifs : Array Nat := #[]) (fds : Array FieldInfo := #[]) : ClassFile where
  minorVersion := 0
  majorVersion := 65
  constantPool := pool
  accessFlags := fl
  thisClass := this
  superClass := sup
  interfaces := ifs
  fields := fds
  methods := ms
  attributes := attrs
def plain (name : String) (sup : Option ClassId) : Class where
  name := name
  kind := .ordinary
  loader := none
  accessFlags := 33
  super := sup
  interfaces := #[]
  cf := none
  fields := #[]
  methods := #[]
  instanceTypes := #[]
  staticTypes := #[]
  resolved := #[]
  callSites := []
  init := .initialized
  statics := none
  mirror := none

def pool0 : Array CpInfo := pool [(5, u "<init>"), (0, u "()V"), (1, .class_ 10), (1, u "java/lang/Object")] 113

def k0m0 : Method := { name := "<init>", desc := "()V", sig := { parameters := [], returnType := none }, accessFlags := 1, code := none }
/-- java/lang/Object -/
def k0 : Class := { plain "java/lang/Object" none with
  accessFlags := 33
  interfaces := #[]
  cf := some (fileOf pool0 8 #[] #[{ accessFlags := 1, nameIndex := 5, descriptorIndex := 6, attributes := #[] }] 33 0 #[] #[])
  fields := #[]
  methods := #[k0m0]
  instanceTypes := #[]
  staticTypes := #[]
  resolved := Array.replicate 124 none
  statics := none }

def pool1 : Array CpInfo := pool [(2, .class_ 4), (1, u "java/lang/Object"), (0, u "<init>"), (0, u "()V"), (0, .integer 439400), (0, .integer 11424400), (0, .integer 297034400), (0, .methodref 11 12), (0, .class_ 13), (0, .nameAndType 14 15), (0, u "com/example/thoth/thoth/Steps"), (0, u "width"), (0, u "(I)I"), (0, .methodref 17 18), (0, .class_ 19), (0, .nameAndType 20 15), (0, u "com/example/thoth/thoth/StepsWidthPinLaw"), (0, u "expectedWidth"), (3, u "law"), (0, u "(I)Z")] 2

def k1m0 : Method := { name := "<init>", desc := "()V", sig := { parameters := [], returnType := none }, accessFlags := 2, code := none }
def k1c1 : Code := { maxStack := 2, maxLocals := 1, code := method_2_code, exceptionTable := #[], attributes := #[] }
def k1m1 : Method := { name := "expectedWidth", desc := "(I)I", sig := { parameters := [.int], returnType := some .int }, accessFlags := 10, code := some k1c1 }
def k1c2 : Code := { maxStack := 2, maxLocals := 2, code := code, exceptionTable := #[], attributes := #[] }
def k1m2 : Method := { name := "law", desc := "(I)Z", sig := { parameters := [.int], returnType := some .boolean }, accessFlags := 9, code := some k1c2 }
/-- com/example/thoth/thoth/StepsWidthPinLaw -/
def k1 : Class := { plain "com/example/thoth/thoth/StepsWidthPinLaw" (some 0) with
  accessFlags := 49
  interfaces := #[]
  cf := some (fileOf pool1 17 #[] #[{ accessFlags := 2, nameIndex := 5, descriptorIndex := 6, attributes := #[] }, { accessFlags := 10, nameIndex := 20, descriptorIndex := 15, attributes := #[] }, { accessFlags := 9, nameIndex := 24, descriptorIndex := 25, attributes := #[] }] 49 2 #[] #[])
  fields := #[]
  methods := #[k1m0, k1m1, k1m2]
  instanceTypes := #[]
  staticTypes := #[]
  resolved := Array.replicate 28 none
  statics := none }

def pool2 : Array CpInfo := pool [(3, .class_ 4), (0, u "com/example/thoth/thoth/Steps"), (1, .class_ 8), (1, u "java/lang/Object"), (0, u "<init>"), (0, u "()V"), (0, .class_ 12), (0, u "com/example/thoth/thoth/Steps$Run"), (5, u "width"), (17, .long 26), (1, .long 25), (51, u "RESERVE"), (0, u "Ljava/math/BigInteger;"), (52, u "LETTER_COUNT"), (21, u "LETTERS"), (0, u "I"), (2, u "FIRST_FINAL_LETTER"), (0, u "C"), (1, u "FINAL_LETTERS"), (1, u "GAP_STEPS"), (6, u "(I)I")] 26

def k2m0 : Method := { name := "<init>", desc := "()V", sig := { parameters := [], returnType := none }, accessFlags := 2, code := none }
def k2c1 : Code := { maxStack := 4, maxLocals := 4, code := prog_105_method_4_code, exceptionTable := #[], attributes := #[] }
def k2m1 : Method := { name := "width", desc := "(I)I", sig := { parameters := [.int], returnType := some .int }, accessFlags := 8, code := some k2c1 }
/-- com/example/thoth/thoth/Steps -/
def k2 : Class := { plain "com/example/thoth/thoth/Steps" (some 0) with
  accessFlags := 32
  interfaces := #[]
  cf := some (fileOf pool2 3 #[.nestMembers #[11]] #[{ accessFlags := 2, nameIndex := 9, descriptorIndex := 10, attributes := #[] }, { accessFlags := 8, nameIndex := 18, descriptorIndex := 182, attributes := #[] }] 32 6 #[] #[{ accessFlags := 26, nameIndex := 166, descriptorIndex := 167, attributes := #[] }, { accessFlags := 26, nameIndex := 170, descriptorIndex := 171, attributes := #[] }, { accessFlags := 26, nameIndex := 173, descriptorIndex := 167, attributes := #[] }, { accessFlags := 26, nameIndex := 144, descriptorIndex := 91, attributes := #[] }, { accessFlags := 26, nameIndex := 175, descriptorIndex := 167, attributes := #[] }, { accessFlags := 26, nameIndex := 90, descriptorIndex := 91, attributes := #[] }])
  fields := #[{ name := "LETTERS", type := .int, accessFlags := 26, slot := 0, constantValue := 0 }, { name := "FIRST_FINAL_LETTER", type := .char, accessFlags := 26, slot := 1, constantValue := 0 }, { name := "FINAL_LETTERS", type := .int, accessFlags := 26, slot := 2, constantValue := 0 }, { name := "LETTER_COUNT", type := (.object "java/math/BigInteger"), accessFlags := 26, slot := 3, constantValue := 0 }, { name := "GAP_STEPS", type := .int, accessFlags := 26, slot := 4, constantValue := 0 }, { name := "RESERVE", type := (.object "java/math/BigInteger"), accessFlags := 26, slot := 5, constantValue := 0 }]
  methods := #[k2m0, k2m1]
  instanceTypes := #[]
  staticTypes := #[.int, .char, .int, (.object "java/math/BigInteger"), .int, (.object "java/math/BigInteger")]
  resolved := Array.replicate 209 none
  statics := none }

def pool3 : Array CpInfo := pool [(1, u "java/lang/Cloneable"), (0, .class_ 1), (0, u "java/lang/Object"), (0, .class_ 3)] 3

/-- java/lang/Cloneable -/
def k3 : Class := { plain "java/lang/Cloneable" (some 0) with
  accessFlags := 1537
  interfaces := #[]
  cf := some (fileOf pool3 2 #[] #[] 1537 4 #[] #[])
  fields := #[]
  methods := #[]
  instanceTypes := #[]
  staticTypes := #[]
  resolved := Array.replicate 8 none
  statics := none }

def pool4 : Array CpInfo := pool [(1, u "java/io/Serializable"), (0, .class_ 1), (0, u "java/lang/Object"), (0, .class_ 3)] 3

/-- java/io/Serializable -/
def k4 : Class := { plain "java/io/Serializable" (some 0) with
  accessFlags := 1537
  interfaces := #[]
  cf := some (fileOf pool4 2 #[] #[] 1537 4 #[] #[])
  fields := #[]
  methods := #[]
  instanceTypes := #[]
  staticTypes := #[]
  resolved := Array.replicate 8 none
  statics := none }

/-- the primitive byte -/
def k5 : Class := { plain "byte" none with kind := .primitive 'B', accessFlags := 0x411 }
/-- [B -/
def k6 : Class := { plain "[B" (some 0) with kind := .array 5 .byte, interfaces := #[3, 4], accessFlags := 1041 }

def heap : Heap := #[]
def classes : Array Class := #[k0, k1, k2, k3, k4, k5, k6]
def interned : List (Array UInt16 × Addr) := []
def slotsUsed : Nat := 0
def theMethod : MethodId := ⟨1, 2⟩
def args0 : Array Value := #[.int 5]
def aboutOver (below : List Frame) : State where
  vm := { classes := classes, interned := interned.toArray }
  heap := heap
  slotsUsed := slotsUsed
  threads := #[{ frames := .invoking theMethod args0 :: below }]
def below0 : List Frame := [.native { method := ⟨0, 0⟩, args := #[] }]
def about1 : State := aboutOver below0
def p0 : Program := .bare "" "" ""
def e0 : Env := launch0.env 0 0 0
theorem w_frames : about1.frames = Frame.invoking theMethod args0 :: below0 := rfl
set_option maxRecDepth 65536 in
theorem w_args : argsFit about1.vm theMethod args0 = true := by decide +kernel
set_option maxRecDepth 65536 in
theorem w_heap : heapFits about1 = true := by decide +kernel
set_option maxRecDepth 65536 in
theorem w_runnable : about1.curStatus? = some .runnable := by decide +kernel
set_option maxRecDepth 65536 in
theorem w_alone : about1.alone = true := by decide +kernel
set_option maxRecDepth 65536 in
theorem w_named : about1.methodNamed? x = some theMethod := by decide +kernel
set_option maxRecDepth 65536 in
theorem w_hears : about1.hears theMethod below0 = true := by decide +kernel
set_option maxRecDepth 65536 in
theorem w_ripe : about1.ripe theMethod args0 below0 = true := by decide +kernel
theorem w_running : about1.status = .running := rfl
set_option maxRecDepth 65536 in
theorem w_room : about1.hasRoom e0.platform room_1 = true :=
  launch0.hasRoom_least _ room_1 (by decide +kernel) (by decide +kernel) (by decide +kernel) (by decide +kernel) (by decide +kernel) (by decide +kernel)
theorem allAtoms_all (ts : List Jvm.Cond) (a : Array Jvm.Value) (st : Jvm.State) : (allAtoms ts).before a st = ts.all (fun c => c.before a st) := by
  induction ts with
  | nil => rfl
  | cons c t ih =>
    show (Jvm.Cond.and c (allAtoms t)).before a st = _
    rw [Jvm.Cond.before_and, ih, List.all_cons]
def words1 : List Jvm.Cond := Jvm.Cond.code x code maxLocals ret :: tables_1
/-- a 'code' word, met by the world's own term for the bytes: nothing is compared byte by byte -/
theorem code_word {y : MethodName} {bytes : ByteArray} {mx : Nat} {rt : Option FieldType} {a : Array Value} {s : State} {m : MethodId} {meth : Method} {c : Code} (h1 : s.methodNamed? y = some m) (h2 : s.vm.method? m = some meth) (h3 : meth.code = some c) (h4 : c.code = bytes)
    (h5 : (c.maxLocals == mx && c.exceptionTable.isEmpty && decide (c.maxStack ≤ mostOperands) && decide (meth.sig.returnType = rt) && !meth.locks && decide (parseMethodDescriptor y.desc = some meth.sig)) = true) : (Jvm.Cond.code y bytes mx rt).before a s = true := by
  simp only [Bool.and_eq_true, beq_iff_eq, Bool.not_eq_true', decide_eq_true_eq] at h5
  obtain ⟨⟨⟨⟨⟨g1, g2⟩, g3⟩, g4⟩, g5⟩, g6⟩ := h5
  simp [Cond.before, Cond.holds, Cond.value, h1, h2, h3, h4, g1, g2, g3, g4, g5, g6]
def isCode : Jvm.Cond → Bool
  | .code _ _ _ _ => true
  | _ => false
theorem all_split {L : List Jvm.Cond} {P : Jvm.Cond → Bool} (h1 : L.all (fun c => isCode c || P c) = true) (h2 : ∀ c ∈ L.filter isCode, P c = true) : L.all P = true := by
  refine List.all_eq_true.mpr fun c hc => ?_
  have h := List.all_eq_true.mp h1 c hc
  rcases Bool.eq_false_or_eq_true (isCode c) with hi | hi
  · exact h2 c (List.mem_filter.mpr ⟨hc, hi⟩)
  · simpa [hi] using h
set_option maxRecDepth 65536 in
theorem w_c0 : (Jvm.Cond.code x code maxLocals ret).before args0 about1 = true := code_word (m := ⟨1, 2⟩) (meth := k1m2) (c := k1c2) (by decide +kernel) rfl rfl rfl (by decide +kernel)
set_option maxRecDepth 65536 in
theorem w_c1 : (Jvm.Cond.code ({ cls := "com/example/thoth/thoth/Steps", name := "width", desc := "(I)I" } : Jvm.MethodName) prog_105_method_4_code (4 : Nat) (Option.some Jvm.ClassFile.FieldType.int)).before args0 about1 = true := code_word (m := ⟨2, 1⟩) (meth := k2m1) (c := k2c1) (by decide +kernel) rfl rfl rfl (by decide +kernel)
set_option maxRecDepth 65536 in
theorem w_c2 : (Jvm.Cond.code ({ cls := "com/example/thoth/thoth/StepsWidthPinLaw", name := "expectedWidth", desc := "(I)I" } : Jvm.MethodName) method_2_code (1 : Nat) (Option.some Jvm.ClassFile.FieldType.int)).before args0 about1 = true := code_word (m := ⟨1, 1⟩) (meth := k1m1) (c := k1c1) (by decide +kernel) rfl rfl rfl (by decide +kernel)
def codes1 : List Jvm.Cond := [Jvm.Cond.code x code maxLocals ret, Jvm.Cond.code ({ cls := "com/example/thoth/thoth/Steps", name := "width", desc := "(I)I" } : Jvm.MethodName) prog_105_method_4_code (4 : Nat) (Option.some Jvm.ClassFile.FieldType.int), Jvm.Cond.code ({ cls := "com/example/thoth/thoth/StepsWidthPinLaw", name := "expectedWidth", desc := "(I)I" } : Jvm.MethodName) method_2_code (1 : Nat) (Option.some Jvm.ClassFile.FieldType.int)]
set_option maxRecDepth 65536 in
theorem codes_eq : words1.filter isCode = codes1 := rfl
theorem w_codes : ∀ c ∈ words1.filter isCode, c.before args0 about1 = true := by
  rw [codes_eq]
  intro c hc
  simp only [codes1, List.mem_cons, List.not_mem_nil, or_false] at hc
  rcases hc with rfl | rfl | rfl
  · exact w_c0
  · exact w_c1
  · exact w_c2
set_option maxRecDepth 65536 in
theorem w_t1 : words1.all (fun c => isCode c || c.before args0 about1) = true := by decide +kernel
theorem w_tables : (allAtoms (Jvm.Cond.code x code maxLocals ret :: tables_1)).before args0 about1 = true := by
  rw [allAtoms_all]
  show words1.all (fun c => c.before args0 about1) = true
  refine all_split ?_ w_codes
  rw [w_t1]
set_option maxRecDepth 65536 in
theorem w_case : (Jvm.Cond.and given_1 narrow_1).before args0 about1 = true := by decide +kernel
theorem w_applies : (headSpec (Jvm.Cond.code x code maxLocals ret :: tables_1) room_1).applies x e0.platform about1 = true :=
  (Spec.applies_iff w_frames).mpr ⟨w_running, w_runnable, w_alone, w_named, w_hears, w_ripe, w_room, w_tables⟩
theorem atStart : AtStart classFile x code maxLocals ret World_1 tables_1 room_1 Calls_1 rest_1 Pre_1 launch0 p0 e0 about1 theMethod args0 below0 :=
  ⟨lists_1, trivial, launch0.admits_env _ _ _, launch0.least_env, fairChoices_fair.cas, fairChoices_fair.clock, w_frames, w_args, w_heap, w_applies, trivial, trivial, w_case⟩
end start1
theorem witness_1 : WitnessClaimed_1 := ⟨start1.p0, start1.e0, start1.about1, start1.theMethod, start1.args0, start1.below0, start1.atStart⟩
end Jvm.Pilot.@@N@@
