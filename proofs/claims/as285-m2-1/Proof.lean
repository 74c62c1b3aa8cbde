import JvmDerived
import JvmDerived.Pilot.@@N@@Statement
import JvmDerived.Pilot.@@N@@Code
set_option linter.unusedVariables false
set_option linter.unusedSimpArgs false
namespace Jvm.Pilot.@@N@@
open Jvm Jvm.ClassFile Sem Op Lib Jvm.Free Jvm.Stand Jvm.LawKit Jvm.RoadKit Bundle Jvm.Pilot.@@N@@.Jvm.D

def own_ac (t : Int32) : Int32 := if t = (1 : Int32) then 1 else if t = (3 : Int32) then 1 else if t = (8 : Int32) then 1 else if t = (7 : Int32) then 1 else if t = (4 : Int32) then 1 else if t = (5 : Int32) then 1 else 0
def own_ex (t : Int32) : Int32 := if t < (1 : Int32) then 0 else if (8 : Int32) < t then 0 else if t = (2 : Int32) then 0 else if t = (6 : Int32) then 0 else 1
theorem own_eq (t : Int32) : own_ac t = own_ex t := by
  have e1 : (1 : Int32).toInt = 1 := rfl
  have e2 : (2 : Int32).toInt = 2 := rfl
  have e3 : (3 : Int32).toInt = 3 := rfl
  have e4 : (4 : Int32).toInt = 4 := rfl
  have e5 : (5 : Int32).toInt = 5 := rfl
  have e6 : (6 : Int32).toInt = 6 := rfl
  have e7 : (7 : Int32).toInt = 7 := rfl
  have e8 : (8 : Int32).toInt = 8 := rfl
  simp only [own_ac, own_ex, Int32.lt_iff_toInt_lt, ← Int32.toInt_inj, e1, e2, e3, e4, e5, e6, e7, e8]
  generalize t.toInt = z
  repeat' split
  all_goals first | rfl | (exfalso; omega)
theorem dac_0 : decode prog_35_method_16_code 0 = .ok (.iload_n 0, 1) := by decide +kernel
theorem dac_1 : decode prog_35_method_16_code 1 = .ok (.iconst 1, 1) := by decide +kernel
theorem dac_2 : decode prog_35_method_16_code 2 = .ok (.if_icmp .eq 30, 3) := by decide +kernel
theorem dac_5 : decode prog_35_method_16_code 5 = .ok (.iload_n 0, 1) := by decide +kernel
theorem dac_6 : decode prog_35_method_16_code 6 = .ok (.iconst 3, 1) := by decide +kernel
theorem dac_7 : decode prog_35_method_16_code 7 = .ok (.if_icmp .eq 25, 3) := by decide +kernel
theorem dac_10 : decode prog_35_method_16_code 10 = .ok (.iload_n 0, 1) := by decide +kernel
theorem dac_11 : decode prog_35_method_16_code 11 = .ok (.bipush 8, 2) := by decide +kernel
theorem dac_13 : decode prog_35_method_16_code 13 = .ok (.if_icmp .eq 19, 3) := by decide +kernel
theorem dac_16 : decode prog_35_method_16_code 16 = .ok (.iload_n 0, 1) := by decide +kernel
theorem dac_17 : decode prog_35_method_16_code 17 = .ok (.bipush 7, 2) := by decide +kernel
theorem dac_19 : decode prog_35_method_16_code 19 = .ok (.if_icmp .eq 13, 3) := by decide +kernel
theorem dac_22 : decode prog_35_method_16_code 22 = .ok (.iload_n 0, 1) := by decide +kernel
theorem dac_23 : decode prog_35_method_16_code 23 = .ok (.iconst 4, 1) := by decide +kernel
theorem dac_24 : decode prog_35_method_16_code 24 = .ok (.if_icmp .eq 8, 3) := by decide +kernel
theorem dac_27 : decode prog_35_method_16_code 27 = .ok (.iload_n 0, 1) := by decide +kernel
theorem dac_28 : decode prog_35_method_16_code 28 = .ok (.iconst 5, 1) := by decide +kernel
theorem dac_29 : decode prog_35_method_16_code 29 = .ok (.if_icmp .ne 7, 3) := by decide +kernel
theorem dac_32 : decode prog_35_method_16_code 32 = .ok (.iconst 1, 1) := by decide +kernel
theorem dac_33 : decode prog_35_method_16_code 33 = .ok (.goto 4, 3) := by decide +kernel
theorem dac_36 : decode prog_35_method_16_code 36 = .ok (.iconst 0, 1) := by decide +kernel
theorem dac_37 : decode prog_35_method_16_code 37 = .ok (.ireturn, 1) := by decide +kernel
theorem pn_ac : plainName "com/example/barnacle/barnacle/load/ElementNode" = true := by first | (simp [plainName, overriddenIn]; done) | decide +kernel
theorem ef_ac (m : MethodId) (x0 : Int32) : entryFrame m #[(.int x0)] 1 = mkF m 0 #[.val (.int x0)] [] := by first | (simp [entryFrame, mkF, argsToLocals, Value.category]; done) | rfl
def Q_ac (Z : State) (p1 : Int32) (h0 : Heap) (n0 : Nat) (v : Option Value) (h : Heap) (L : List Loc) : Prop := v = some (.int (own_ac p1)) ∧ Fr n0 L ∧ h = h0
set_option maxRecDepth 65536 in
set_option maxHeartbeats 40000000 in
theorem rm_ac (l : Launch) (Z : State) (a0 : Array Value) (hw : ∀ d ∈ tables_1, d.before a0 Z = true) (ws : List Jvm.Cond) (p1 : Int32) (h0 : Heap) (n0 : Nat) (Z0 : n0 ≤ h0.size)  :
    MetFree l (⟨"com/example/barnacle/barnacle/load/ElementNode", "allowsContent", "(S)Z"⟩ : MethodName) (head1 (Jvm.Cond.code (⟨"com/example/barnacle/barnacle/load/ElementNode", "allowsContent", "(S)Z"⟩ : MethodName) prog_35_method_16_code 1 (some .boolean) :: ws) ({ frames := 0, cells := 0, slots := 0, locals := 0 } : Room)) (fun a U => a = #[(.int p1)] ∧ Z.Warmed39 U.vm ∧ U.heap = h0) (fun _ _ _ _ _ => True) (fun _ U o U' => ∃ v L, o = .returned v ∧ Q_ac Z p1 h0 n0 v U'.heap L ∧ FrameEnd U o U' L ({ frames := 0, cells := 0, slots := 0, locals := 0 } : Room).cells ({ frames := 0, cells := 0, slots := 0, locals := 0 } : Room).slots) := by
  refine MetFree.of_bodySF (plainFor_of_name pn_ac) hisR ?_
  intro p e s m args below meth c s₁ Bd hml0 hP hK
  obtain ⟨rfl, hZ, hh⟩ := hP
  have hx := Bd.exec
  have hby := Bd.bytes
  have hml : c.maxLocals = 1 := hml0
  have hown : s.vm.findClass "com/example/barnacle/barnacle/load/ElementNode" = some m.cls := findClass_of_methodNamed Bd.named
  have hnm := (name_of_methodNamed Bd.named Bd.method).1
  have X0 : Stand p l e ({ frames := 0, cells := 0, slots := 0, locals := 0 } : Room) s m #[(.int p1)] below meth c s₁ [] 0 0 := Stand.of_body Bd
  have e0 : s₁.heap = h0 := by rw [← hh, Bd.state]; rfl
  have N0 := Fr.nil n0
  have pre0 : ∀ tg_, Steps p.tables e below (s₁.setTop (mkF m 0 #[.val (.int p1)] [])) tg_ → Steps p.tables e below (s₁.setTop (entryFrame m #[(.int p1)] 1)) tg_ := fun tg_ k => castTop (ef_ac m p1) k
  obtain ⟨fs, hr, hrun, hended, hW, hsame⟩ := X0.leave (v := some (.int (own_ac p1))) (fun h => by rw [Bd.returns] at h; cases h)
  refine ⟨_, _, pre0 _ ?_, hrun, hended, _, _, rfl, ?_, ⟨_, rfl⟩, hW, hsame.mono (by decide) (by decide)⟩
  · show Steps p.tables e below (s₁.setTop (mkF m 0 #[.val (.int p1)] [])) _
    refine XS.iloadN X0.here hx rfl (hb hby dac_0) rfl ?_
    show Steps p.tables e below (s₁.setTop (mkF m 1 #[.val (.int p1)] [(.int p1)])) _
    refine XS.iconst X0.here hx rfl (hb hby dac_1) ?_
    show Steps p.tables e below (s₁.setTop (mkF m 2 #[.val (.int p1)] [(.int (1 : Int32)), (.int p1)])) _
    by_cases hc2 : p1 = (1 : Int32)
    · show Steps p.tables e below (s₁.setTop (mkF m 2 #[.val (.int p1)] [(.int (1 : Int32)), (.int p1)])) _
      refine XS.icmpYes X0.here hx rfl (pc0 := 2) (pc' := 32) rfl (hb hby dac_2) rfl (teq (show p1 = (1 : Int32) from hc2)).1 (by decide) (by decide) ?_
      show Steps p.tables e below (s₁.setTop (mkF m 32 #[.val (.int p1)] [])) _
      refine XS.iconst X0.here hx rfl (hb hby dac_32) ?_
      show Steps p.tables e below (s₁.setTop (mkF m 33 #[.val (.int p1)] [(.int (1 : Int32))])) _
      refine XS.goto X0.here hx rfl (pc0 := 33) (pc' := 37) rfl (hb hby dac_33) (by decide) (by decide) ?_
      show Steps p.tables e below (s₁.setTop (mkF m 37 #[.val (.int p1)] [(.int (1 : Int32))])) _
      have hval : (own_ac p1) = (1 : Int32) := by
        simp only [own_ac, if_pos hc2]
      rw [hval] at hr
      exact retN X0 hx (t := .boolean) Bd.returns (by simp) (hb hby dac_37) hr
    · show Steps p.tables e below (s₁.setTop (mkF m 2 #[.val (.int p1)] [(.int (1 : Int32)), (.int p1)])) _
      refine XS.icmpNo X0.here hx rfl (hb hby dac_2) rfl (feq (show ¬ (p1 = (1 : Int32)) from hc2)).1 ?_
      show Steps p.tables e below (s₁.setTop (mkF m 5 #[.val (.int p1)] [])) _
      refine XS.iloadN X0.here hx rfl (hb hby dac_5) rfl ?_
      show Steps p.tables e below (s₁.setTop (mkF m 6 #[.val (.int p1)] [(.int p1)])) _
      refine XS.iconst X0.here hx rfl (hb hby dac_6) ?_
      show Steps p.tables e below (s₁.setTop (mkF m 7 #[.val (.int p1)] [(.int (3 : Int32)), (.int p1)])) _
      by_cases hc7 : p1 = (3 : Int32)
      · show Steps p.tables e below (s₁.setTop (mkF m 7 #[.val (.int p1)] [(.int (3 : Int32)), (.int p1)])) _
        refine XS.icmpYes X0.here hx rfl (pc0 := 7) (pc' := 32) rfl (hb hby dac_7) rfl (teq (show p1 = (3 : Int32) from hc7)).1 (by decide) (by decide) ?_
        show Steps p.tables e below (s₁.setTop (mkF m 32 #[.val (.int p1)] [])) _
        refine XS.iconst X0.here hx rfl (hb hby dac_32) ?_
        show Steps p.tables e below (s₁.setTop (mkF m 33 #[.val (.int p1)] [(.int (1 : Int32))])) _
        refine XS.goto X0.here hx rfl (pc0 := 33) (pc' := 37) rfl (hb hby dac_33) (by decide) (by decide) ?_
        show Steps p.tables e below (s₁.setTop (mkF m 37 #[.val (.int p1)] [(.int (1 : Int32))])) _
        have hval : (own_ac p1) = (1 : Int32) := by
          simp only [own_ac, if_neg hc2, if_pos hc7]
        rw [hval] at hr
        exact retN X0 hx (t := .boolean) Bd.returns (by simp) (hb hby dac_37) hr
      · show Steps p.tables e below (s₁.setTop (mkF m 7 #[.val (.int p1)] [(.int (3 : Int32)), (.int p1)])) _
        refine XS.icmpNo X0.here hx rfl (hb hby dac_7) rfl (feq (show ¬ (p1 = (3 : Int32)) from hc7)).1 ?_
        show Steps p.tables e below (s₁.setTop (mkF m 10 #[.val (.int p1)] [])) _
        refine XS.iloadN X0.here hx rfl (hb hby dac_10) rfl ?_
        show Steps p.tables e below (s₁.setTop (mkF m 11 #[.val (.int p1)] [(.int p1)])) _
        refine XS.bipush X0.here hx rfl (hb hby dac_11) ?_
        show Steps p.tables e below (s₁.setTop (mkF m 13 #[.val (.int p1)] [(.int (8 : Int32)), (.int p1)])) _
        by_cases hc13 : p1 = (8 : Int32)
        · show Steps p.tables e below (s₁.setTop (mkF m 13 #[.val (.int p1)] [(.int (8 : Int32)), (.int p1)])) _
          refine XS.icmpYes X0.here hx rfl (pc0 := 13) (pc' := 32) rfl (hb hby dac_13) rfl (teq (show p1 = (8 : Int32) from hc13)).1 (by decide) (by decide) ?_
          show Steps p.tables e below (s₁.setTop (mkF m 32 #[.val (.int p1)] [])) _
          refine XS.iconst X0.here hx rfl (hb hby dac_32) ?_
          show Steps p.tables e below (s₁.setTop (mkF m 33 #[.val (.int p1)] [(.int (1 : Int32))])) _
          refine XS.goto X0.here hx rfl (pc0 := 33) (pc' := 37) rfl (hb hby dac_33) (by decide) (by decide) ?_
          show Steps p.tables e below (s₁.setTop (mkF m 37 #[.val (.int p1)] [(.int (1 : Int32))])) _
          have hval : (own_ac p1) = (1 : Int32) := by
            simp only [own_ac, if_neg hc2, if_neg hc7, if_pos hc13]
          rw [hval] at hr
          exact retN X0 hx (t := .boolean) Bd.returns (by simp) (hb hby dac_37) hr
        · show Steps p.tables e below (s₁.setTop (mkF m 13 #[.val (.int p1)] [(.int (8 : Int32)), (.int p1)])) _
          refine XS.icmpNo X0.here hx rfl (hb hby dac_13) rfl (feq (show ¬ (p1 = (8 : Int32)) from hc13)).1 ?_
          show Steps p.tables e below (s₁.setTop (mkF m 16 #[.val (.int p1)] [])) _
          refine XS.iloadN X0.here hx rfl (hb hby dac_16) rfl ?_
          show Steps p.tables e below (s₁.setTop (mkF m 17 #[.val (.int p1)] [(.int p1)])) _
          refine XS.bipush X0.here hx rfl (hb hby dac_17) ?_
          show Steps p.tables e below (s₁.setTop (mkF m 19 #[.val (.int p1)] [(.int (7 : Int32)), (.int p1)])) _
          by_cases hc19 : p1 = (7 : Int32)
          · show Steps p.tables e below (s₁.setTop (mkF m 19 #[.val (.int p1)] [(.int (7 : Int32)), (.int p1)])) _
            refine XS.icmpYes X0.here hx rfl (pc0 := 19) (pc' := 32) rfl (hb hby dac_19) rfl (teq (show p1 = (7 : Int32) from hc19)).1 (by decide) (by decide) ?_
            show Steps p.tables e below (s₁.setTop (mkF m 32 #[.val (.int p1)] [])) _
            refine XS.iconst X0.here hx rfl (hb hby dac_32) ?_
            show Steps p.tables e below (s₁.setTop (mkF m 33 #[.val (.int p1)] [(.int (1 : Int32))])) _
            refine XS.goto X0.here hx rfl (pc0 := 33) (pc' := 37) rfl (hb hby dac_33) (by decide) (by decide) ?_
            show Steps p.tables e below (s₁.setTop (mkF m 37 #[.val (.int p1)] [(.int (1 : Int32))])) _
            have hval : (own_ac p1) = (1 : Int32) := by
              simp only [own_ac, if_neg hc2, if_neg hc7, if_neg hc13, if_pos hc19]
            rw [hval] at hr
            exact retN X0 hx (t := .boolean) Bd.returns (by simp) (hb hby dac_37) hr
          · show Steps p.tables e below (s₁.setTop (mkF m 19 #[.val (.int p1)] [(.int (7 : Int32)), (.int p1)])) _
            refine XS.icmpNo X0.here hx rfl (hb hby dac_19) rfl (feq (show ¬ (p1 = (7 : Int32)) from hc19)).1 ?_
            show Steps p.tables e below (s₁.setTop (mkF m 22 #[.val (.int p1)] [])) _
            refine XS.iloadN X0.here hx rfl (hb hby dac_22) rfl ?_
            show Steps p.tables e below (s₁.setTop (mkF m 23 #[.val (.int p1)] [(.int p1)])) _
            refine XS.iconst X0.here hx rfl (hb hby dac_23) ?_
            show Steps p.tables e below (s₁.setTop (mkF m 24 #[.val (.int p1)] [(.int (4 : Int32)), (.int p1)])) _
            by_cases hc24 : p1 = (4 : Int32)
            · show Steps p.tables e below (s₁.setTop (mkF m 24 #[.val (.int p1)] [(.int (4 : Int32)), (.int p1)])) _
              refine XS.icmpYes X0.here hx rfl (pc0 := 24) (pc' := 32) rfl (hb hby dac_24) rfl (teq (show p1 = (4 : Int32) from hc24)).1 (by decide) (by decide) ?_
              show Steps p.tables e below (s₁.setTop (mkF m 32 #[.val (.int p1)] [])) _
              refine XS.iconst X0.here hx rfl (hb hby dac_32) ?_
              show Steps p.tables e below (s₁.setTop (mkF m 33 #[.val (.int p1)] [(.int (1 : Int32))])) _
              refine XS.goto X0.here hx rfl (pc0 := 33) (pc' := 37) rfl (hb hby dac_33) (by decide) (by decide) ?_
              show Steps p.tables e below (s₁.setTop (mkF m 37 #[.val (.int p1)] [(.int (1 : Int32))])) _
              have hval : (own_ac p1) = (1 : Int32) := by
                simp only [own_ac, if_neg hc2, if_neg hc7, if_neg hc13, if_neg hc19, if_pos hc24]
              rw [hval] at hr
              exact retN X0 hx (t := .boolean) Bd.returns (by simp) (hb hby dac_37) hr
            · show Steps p.tables e below (s₁.setTop (mkF m 24 #[.val (.int p1)] [(.int (4 : Int32)), (.int p1)])) _
              refine XS.icmpNo X0.here hx rfl (hb hby dac_24) rfl (feq (show ¬ (p1 = (4 : Int32)) from hc24)).1 ?_
              show Steps p.tables e below (s₁.setTop (mkF m 27 #[.val (.int p1)] [])) _
              refine XS.iloadN X0.here hx rfl (hb hby dac_27) rfl ?_
              show Steps p.tables e below (s₁.setTop (mkF m 28 #[.val (.int p1)] [(.int p1)])) _
              refine XS.iconst X0.here hx rfl (hb hby dac_28) ?_
              show Steps p.tables e below (s₁.setTop (mkF m 29 #[.val (.int p1)] [(.int (5 : Int32)), (.int p1)])) _
              by_cases hc29 : p1 = (5 : Int32)
              · show Steps p.tables e below (s₁.setTop (mkF m 29 #[.val (.int p1)] [(.int (5 : Int32)), (.int p1)])) _
                refine XS.icmpNo X0.here hx rfl (hb hby dac_29) rfl (teq (show p1 = (5 : Int32) from hc29)).2 ?_
                show Steps p.tables e below (s₁.setTop (mkF m 32 #[.val (.int p1)] [])) _
                refine XS.iconst X0.here hx rfl (hb hby dac_32) ?_
                show Steps p.tables e below (s₁.setTop (mkF m 33 #[.val (.int p1)] [(.int (1 : Int32))])) _
                refine XS.goto X0.here hx rfl (pc0 := 33) (pc' := 37) rfl (hb hby dac_33) (by decide) (by decide) ?_
                show Steps p.tables e below (s₁.setTop (mkF m 37 #[.val (.int p1)] [(.int (1 : Int32))])) _
                have hval : (own_ac p1) = (1 : Int32) := by
                  simp only [own_ac, if_neg hc2, if_neg hc7, if_neg hc13, if_neg hc19, if_neg hc24, if_pos hc29]
                rw [hval] at hr
                exact retN X0 hx (t := .boolean) Bd.returns (by simp) (hb hby dac_37) hr
              · show Steps p.tables e below (s₁.setTop (mkF m 29 #[.val (.int p1)] [(.int (5 : Int32)), (.int p1)])) _
                refine XS.icmpYes X0.here hx rfl (pc0 := 29) (pc' := 36) rfl (hb hby dac_29) rfl (feq (show ¬ (p1 = (5 : Int32)) from hc29)).2 (by decide) (by decide) ?_
                show Steps p.tables e below (s₁.setTop (mkF m 36 #[.val (.int p1)] [])) _
                refine XS.iconst X0.here hx rfl (hb hby dac_36) ?_
                show Steps p.tables e below (s₁.setTop (mkF m 37 #[.val (.int p1)] [(.int (0 : Int32))])) _
                have hval : (own_ac p1) = (0 : Int32) := by
                  simp only [own_ac, if_neg hc2, if_neg hc7, if_neg hc13, if_neg hc19, if_neg hc24, if_neg hc29]
                rw [hval] at hr
                exact retN X0 hx (t := .boolean) Bd.returns (by simp) (hb hby dac_37) hr
  · show Q_ac Z p1 h0 n0 _ s₁.heap _
    rw [e0]
    exact ⟨rfl, N0, rfl⟩
theorem pd_law_0 : parseMethodDescriptor "(S)Z" = some ⟨[.short], some .boolean⟩ := by decide +kernel
theorem pn_law : plainName "com/example/barnacle/barnacle/load/ElementNodeAllowsContentPinLaw" = true := by first | (simp [plainName, overriddenIn]; done) | decide +kernel
theorem ef_law (m : MethodId) (x0 : Int32) : entryFrame m #[(.int x0)] maxLocals = mkF m 0 #[.val (.int x0), .unset, .unset] [] := by first | (simp [entryFrame, mkF, argsToLocals, Value.category, maxLocals]; done) | rfl
def Q_law (Z : State) (p1 : Int32) (h0 : Heap) (n0 : Nat) (v : Option Value) (h : Heap) (L : List Loc) : Prop := v = some (.int 1) ∧ Fr n0 L
set_option maxRecDepth 65536 in
set_option maxHeartbeats 40000000 in
theorem rm_law (l : Launch) (Z : State) (a0 : Array Value) (hw : ∀ d ∈ tables_1, d.before a0 Z = true) (ws : List Jvm.Cond) (p1 : Int32) (h0 : Heap) (n0 : Nat) (Z0 : n0 ≤ h0.size)  :
    MetFree l x (head1 (Jvm.Cond.code x code maxLocals ret :: ws) room_1) (fun a U => a = #[(.int p1)] ∧ Z.Warmed39 U.vm ∧ U.heap = h0) (fun _ _ _ _ _ => True) (fun _ U o U' => ∃ v L, o = .returned v ∧ Q_law Z p1 h0 n0 v U'.heap L ∧ FrameEnd U o U' L room_1.cells room_1.slots) := by
  refine MetFree.of_bodySF (plainFor_of_name pn_law) hisR ?_
  intro p e s m args below meth c s₁ Bd hml0 hP hK
  obtain ⟨rfl, hZ, hh⟩ := hP
  have hx := Bd.exec
  have hby := Bd.bytes
  have hml : c.maxLocals = 3 := hml0
  have hown : s.vm.findClass "com/example/barnacle/barnacle/load/ElementNodeAllowsContentPinLaw" = some m.cls := findClass_of_methodNamed Bd.named
  have hnm := (name_of_methodNamed Bd.named Bd.method).1
  have X0 : Stand p l e room_1 s m #[(.int p1)] below meth c s₁ [] 0 0 := Stand.of_body Bd
  have e0 : s₁.heap = h0 := by rw [← hh, Bd.state]; rfl
  have N0 := Fr.nil n0
  have pre0 : ∀ tg_, Steps p.tables e below (s₁.setTop (mkF m 0 #[.val (.int p1), .unset, .unset] [])) tg_ → Steps p.tables e below (s₁.setTop (entryFrame m #[(.int p1)] maxLocals)) tg_ := fun tg_ k => castTop (ef_law m p1) k
  have p_1 : ∀ tg_, Steps p.tables e below (s₁.setTop (mkF m 5 #[.val (.int p1), .val (.int (p1.toInt16.toInt32)), .unset] [(.int (1 : Int32)), (.int (p1.toInt16.toInt32))])) tg_ → Steps p.tables e below (s₁.setTop (entryFrame m #[(.int p1)] maxLocals)) tg_ := by
    intro tg_ kk_
    refine pre0 tg_ ?_
    show Steps p.tables e below (s₁.setTop (mkF m 0 #[.val (.int p1), .unset, .unset] [])) _
    refine XS.iloadN X0.here hx rfl (hb hby at_0) rfl ?_
    show Steps p.tables e below (s₁.setTop (mkF m 1 #[.val (.int p1), .unset, .unset] [(.int p1)])) _
    refine XS.i2s X0.here hx rfl (hb hby at_1) rfl ?_
    show Steps p.tables e below (s₁.setTop (mkF m 2 #[.val (.int p1), .unset, .unset] [(.int (p1.toInt16.toInt32))])) _
    refine XS.istoreN X0.here hx rfl (hb hby at_2) rfl (l' := #[.val (.int p1), .val (.int (p1.toInt16.toInt32)), .unset]) rfl ?_
    show Steps p.tables e below (s₁.setTop (mkF m 3 #[.val (.int p1), .val (.int (p1.toInt16.toInt32)), .unset] [])) _
    refine XS.iloadN X0.here hx rfl (hb hby at_3) rfl ?_
    show Steps p.tables e below (s₁.setTop (mkF m 4 #[.val (.int p1), .val (.int (p1.toInt16.toInt32)), .unset] [(.int (p1.toInt16.toInt32))])) _
    refine XS.iconst X0.here hx rfl (hb hby at_4) ?_
    exact kk_
  have p_2 : ∀ ex : Int32, (ex = (own_ac (p1.toInt16.toInt32))) → ∀ tg_, Steps p.tables e below (s₁.setTop (mkF m 30 #[.val (.int p1), .val (.int (p1.toInt16.toInt32)), .unset] [(.int ex)])) tg_ → Steps p.tables e below (s₁.setTop (entryFrame m #[(.int p1)] maxLocals)) tg_ := by
    intro ex hex tg_ kk_
    refine p_1 tg_ ?_
    show Steps p.tables e below (s₁.setTop (mkF m 5 #[.val (.int p1), .val (.int (p1.toInt16.toInt32)), .unset] [(.int (1 : Int32)), (.int (p1.toInt16.toInt32))])) _
    by_cases hc5 : (p1.toInt16.toInt32) < (1 : Int32)
    · show Steps p.tables e below (s₁.setTop (mkF m 5 #[.val (.int p1), .val (.int (p1.toInt16.toInt32)), .unset] [(.int (1 : Int32)), (.int (p1.toInt16.toInt32))])) _
      refine XS.icmpYes X0.here hx rfl (pc0 := 5) (pc' := 29) rfl (hb hby at_5) rfl (tlt (show (p1.toInt16.toInt32) < (1 : Int32) from hc5)).1 (by decide) (by decide) ?_
      show Steps p.tables e below (s₁.setTop (mkF m 29 #[.val (.int p1), .val (.int (p1.toInt16.toInt32)), .unset] [])) _
      refine XS.iconst X0.here hx rfl (hb hby at_29) ?_
      have hval : ex = (0 : Int32) := by
        rw [hex, own_eq]
        simp only [own_ex, if_pos hc5]
      subst hval
      exact kk_
    · show Steps p.tables e below (s₁.setTop (mkF m 5 #[.val (.int p1), .val (.int (p1.toInt16.toInt32)), .unset] [(.int (1 : Int32)), (.int (p1.toInt16.toInt32))])) _
      refine XS.icmpNo X0.here hx rfl (hb hby at_5) rfl (flt (show ¬ ((p1.toInt16.toInt32) < (1 : Int32)) from hc5)).1 ?_
      show Steps p.tables e below (s₁.setTop (mkF m 8 #[.val (.int p1), .val (.int (p1.toInt16.toInt32)), .unset] [])) _
      refine XS.iloadN X0.here hx rfl (hb hby at_8) rfl ?_
      show Steps p.tables e below (s₁.setTop (mkF m 9 #[.val (.int p1), .val (.int (p1.toInt16.toInt32)), .unset] [(.int (p1.toInt16.toInt32))])) _
      refine XS.bipush X0.here hx rfl (hb hby at_9) ?_
      show Steps p.tables e below (s₁.setTop (mkF m 11 #[.val (.int p1), .val (.int (p1.toInt16.toInt32)), .unset] [(.int (8 : Int32)), (.int (p1.toInt16.toInt32))])) _
      by_cases hc11 : (8 : Int32) < (p1.toInt16.toInt32)
      · show Steps p.tables e below (s₁.setTop (mkF m 11 #[.val (.int p1), .val (.int (p1.toInt16.toInt32)), .unset] [(.int (8 : Int32)), (.int (p1.toInt16.toInt32))])) _
        refine XS.icmpYes X0.here hx rfl (pc0 := 11) (pc' := 29) rfl (hb hby at_11) rfl (tlt (show (8 : Int32) < (p1.toInt16.toInt32) from hc11)).2.2.1 (by decide) (by decide) ?_
        show Steps p.tables e below (s₁.setTop (mkF m 29 #[.val (.int p1), .val (.int (p1.toInt16.toInt32)), .unset] [])) _
        refine XS.iconst X0.here hx rfl (hb hby at_29) ?_
        have hval : ex = (0 : Int32) := by
          rw [hex, own_eq]
          simp only [own_ex, if_neg hc5, if_pos hc11]
        subst hval
        exact kk_
      · show Steps p.tables e below (s₁.setTop (mkF m 11 #[.val (.int p1), .val (.int (p1.toInt16.toInt32)), .unset] [(.int (8 : Int32)), (.int (p1.toInt16.toInt32))])) _
        refine XS.icmpNo X0.here hx rfl (hb hby at_11) rfl (flt (show ¬ ((8 : Int32) < (p1.toInt16.toInt32)) from hc11)).2.2.1 ?_
        show Steps p.tables e below (s₁.setTop (mkF m 14 #[.val (.int p1), .val (.int (p1.toInt16.toInt32)), .unset] [])) _
        refine XS.iloadN X0.here hx rfl (hb hby at_14) rfl ?_
        show Steps p.tables e below (s₁.setTop (mkF m 15 #[.val (.int p1), .val (.int (p1.toInt16.toInt32)), .unset] [(.int (p1.toInt16.toInt32))])) _
        refine XS.iconst X0.here hx rfl (hb hby at_15) ?_
        show Steps p.tables e below (s₁.setTop (mkF m 16 #[.val (.int p1), .val (.int (p1.toInt16.toInt32)), .unset] [(.int (2 : Int32)), (.int (p1.toInt16.toInt32))])) _
        by_cases hc16 : (p1.toInt16.toInt32) = (2 : Int32)
        · show Steps p.tables e below (s₁.setTop (mkF m 16 #[.val (.int p1), .val (.int (p1.toInt16.toInt32)), .unset] [(.int (2 : Int32)), (.int (p1.toInt16.toInt32))])) _
          refine XS.icmpYes X0.here hx rfl (pc0 := 16) (pc' := 29) rfl (hb hby at_16) rfl (teq (show (p1.toInt16.toInt32) = (2 : Int32) from hc16)).1 (by decide) (by decide) ?_
          show Steps p.tables e below (s₁.setTop (mkF m 29 #[.val (.int p1), .val (.int (p1.toInt16.toInt32)), .unset] [])) _
          refine XS.iconst X0.here hx rfl (hb hby at_29) ?_
          have hval : ex = (0 : Int32) := by
            rw [hex, own_eq]
            simp only [own_ex, if_neg hc5, if_neg hc11, if_pos hc16]
          subst hval
          exact kk_
        · show Steps p.tables e below (s₁.setTop (mkF m 16 #[.val (.int p1), .val (.int (p1.toInt16.toInt32)), .unset] [(.int (2 : Int32)), (.int (p1.toInt16.toInt32))])) _
          refine XS.icmpNo X0.here hx rfl (hb hby at_16) rfl (feq (show ¬ ((p1.toInt16.toInt32) = (2 : Int32)) from hc16)).1 ?_
          show Steps p.tables e below (s₁.setTop (mkF m 19 #[.val (.int p1), .val (.int (p1.toInt16.toInt32)), .unset] [])) _
          refine XS.iloadN X0.here hx rfl (hb hby at_19) rfl ?_
          show Steps p.tables e below (s₁.setTop (mkF m 20 #[.val (.int p1), .val (.int (p1.toInt16.toInt32)), .unset] [(.int (p1.toInt16.toInt32))])) _
          refine XS.bipush X0.here hx rfl (hb hby at_20) ?_
          show Steps p.tables e below (s₁.setTop (mkF m 22 #[.val (.int p1), .val (.int (p1.toInt16.toInt32)), .unset] [(.int (6 : Int32)), (.int (p1.toInt16.toInt32))])) _
          by_cases hc22 : (p1.toInt16.toInt32) = (6 : Int32)
          · show Steps p.tables e below (s₁.setTop (mkF m 22 #[.val (.int p1), .val (.int (p1.toInt16.toInt32)), .unset] [(.int (6 : Int32)), (.int (p1.toInt16.toInt32))])) _
            refine XS.icmpYes X0.here hx rfl (pc0 := 22) (pc' := 29) rfl (hb hby at_22) rfl (teq (show (p1.toInt16.toInt32) = (6 : Int32) from hc22)).1 (by decide) (by decide) ?_
            show Steps p.tables e below (s₁.setTop (mkF m 29 #[.val (.int p1), .val (.int (p1.toInt16.toInt32)), .unset] [])) _
            refine XS.iconst X0.here hx rfl (hb hby at_29) ?_
            have hval : ex = (0 : Int32) := by
              rw [hex, own_eq]
              simp only [own_ex, if_neg hc5, if_neg hc11, if_neg hc16, if_pos hc22]
            subst hval
            exact kk_
          · show Steps p.tables e below (s₁.setTop (mkF m 22 #[.val (.int p1), .val (.int (p1.toInt16.toInt32)), .unset] [(.int (6 : Int32)), (.int (p1.toInt16.toInt32))])) _
            refine XS.icmpNo X0.here hx rfl (hb hby at_22) rfl (feq (show ¬ ((p1.toInt16.toInt32) = (6 : Int32)) from hc22)).1 ?_
            show Steps p.tables e below (s₁.setTop (mkF m 25 #[.val (.int p1), .val (.int (p1.toInt16.toInt32)), .unset] [])) _
            refine XS.iconst X0.here hx rfl (hb hby at_25) ?_
            show Steps p.tables e below (s₁.setTop (mkF m 26 #[.val (.int p1), .val (.int (p1.toInt16.toInt32)), .unset] [(.int (1 : Int32))])) _
            refine XS.goto X0.here hx rfl (pc0 := 26) (pc' := 30) rfl (hb hby at_26) (by decide) (by decide) ?_
            have hval : ex = (1 : Int32) := by
              rw [hex, own_eq]
              simp only [own_ex, if_neg hc5, if_neg hc11, if_neg hc16, if_neg hc22]
            subst hval
            exact kk_
  have p_2' := p_2 (own_ac (p1.toInt16.toInt32)) rfl
  have p_3 : ∀ tg_, Steps p.tables e below (s₁.setTop (mkF m 32 #[.val (.int p1), .val (.int (p1.toInt16.toInt32)), .val (.int (own_ac (p1.toInt16.toInt32)))] [(.int (p1.toInt16.toInt32))])) tg_ → Steps p.tables e below (s₁.setTop (entryFrame m #[(.int p1)] maxLocals)) tg_ := by
    intro tg_ kk_
    refine p_2' tg_ ?_
    show Steps p.tables e below (s₁.setTop (mkF m 30 #[.val (.int p1), .val (.int (p1.toInt16.toInt32)), .unset] [(.int (own_ac (p1.toInt16.toInt32)))])) _
    refine XS.istoreN X0.here hx rfl (hb hby at_30) rfl (l' := #[.val (.int p1), .val (.int (p1.toInt16.toInt32)), .val (.int (own_ac (p1.toInt16.toInt32)))]) rfl ?_
    show Steps p.tables e below (s₁.setTop (mkF m 31 #[.val (.int p1), .val (.int (p1.toInt16.toInt32)), .val (.int (own_ac (p1.toInt16.toInt32)))] [])) _
    refine XS.iloadN X0.here hx rfl (hb hby at_31) rfl ?_
    exact kk_
  obtain ⟨_, _, ⟨T4, L4, k4, n4⟩, -, X4, ⟨Lc4, hQ4, l4, y4, z4⟩, st4⟩ := Jvm.LawKit.callS X0 hx (y := (⟨"com/example/barnacle/barnacle/load/ElementNode", "allowsContent", "(S)Z"⟩ : MethodName)) hown (mvT hZ (hw _ (List.mem_of_getElem? (i := 0) rfl))) (mvT hZ (hw _ (List.mem_of_getElem? (i := 1) rfl))) (mvT hZ (hw _ (List.mem_of_getElem? (i := 2) rfl))) (mvT hZ (hw _ (List.mem_of_getElem? (i := 3) rfl))) (by decide) (backOf (W := 0) (rm_ac l Z a0 hw [] (p1.toInt16.toInt32) h0 n0 Z0) hZ (hw _ (List.mem_of_getElem? (i := 3) rfl)) (hw _ (List.mem_of_getElem? (i := 2) rfl)) (by decide) (by decide)) (g := (mkF m 32 #[.val (.int p1), .val (.int (p1.toInt16.toInt32)), .val (.int (own_ac (p1.toInt16.toInt32)))] [(.int (p1.toInt16.toInt32))])) rfl (by rw [hml]; rfl) (argsL := [(.int (p1.toInt16.toInt32))]) (rest := []) (lenOf pd_law_0 rfl) rfl (by show 2 * 0 + _ ≤ _; exact Nat.le_of_eq rfl) (hb hby at_32) (fun _ _ => ⟨rfl, e0, (by decide : 0 + 0 ≤ _), (by decide : 0 + 0 ≤ _)⟩)
  dsimp only [Pt.U, Pt.locs, Pt.cells, Pt.slots] at X4 l4 y4 z4 st4 hQ4
  subst l4 y4 z4
  obtain ⟨rfl, N4q, hh4⟩ := hQ4
  have N4 := Fr.app N0 N4q
  have p_5 : ∀ tg_, Steps p.tables e below (T4.setTop (mkF m 44 #[.val (.int p1), .val (.int (p1.toInt16.toInt32)), .val (.int (own_ac (p1.toInt16.toInt32)))] [(.int (1 : Int32))])) tg_ → Steps p.tables e below (s₁.setTop (entryFrame m #[(.int p1)] maxLocals)) tg_ := by
    intro tg_ kk_
    refine p_3 tg_ ?_
    refine st4 _ ?_
    show Steps p.tables e below (T4.setTop (mkF m 35 #[.val (.int p1), .val (.int (p1.toInt16.toInt32)), .val (.int (own_ac (p1.toInt16.toInt32)))] [(.int (own_ac (p1.toInt16.toInt32)))])) _
    refine XS.iloadN X4.here hx rfl (hb hby at_35) rfl ?_
    show Steps p.tables e below (T4.setTop (mkF m 36 #[.val (.int p1), .val (.int (p1.toInt16.toInt32)), .val (.int (own_ac (p1.toInt16.toInt32)))] [(.int (own_ac (p1.toInt16.toInt32))), (.int (own_ac (p1.toInt16.toInt32)))])) _
    refine XS.icmpNo X4.here hx rfl (hb hby at_36) rfl (teq (show (own_ac (p1.toInt16.toInt32)) = (own_ac (p1.toInt16.toInt32)) from rfl)).2 ?_
    show Steps p.tables e below (T4.setTop (mkF m 39 #[.val (.int p1), .val (.int (p1.toInt16.toInt32)), .val (.int (own_ac (p1.toInt16.toInt32)))] [])) _
    refine XS.iconst X4.here hx rfl (hb hby at_39) ?_
    show Steps p.tables e below (T4.setTop (mkF m 40 #[.val (.int p1), .val (.int (p1.toInt16.toInt32)), .val (.int (own_ac (p1.toInt16.toInt32)))] [(.int (1 : Int32))])) _
    refine XS.goto X4.here hx rfl (pc0 := 40) (pc' := 44) rfl (hb hby at_40) (by decide) (by decide) ?_
    exact kk_
  obtain ⟨fs, hr, hrun, hended, hW, hsame⟩ := X4.leave (v := some (.int (1 : Int32))) (fun h => by rw [Bd.returns] at h; cases h)
  refine ⟨_, _, p_5 _ ?_, hrun, hended, _, _, rfl, ?_, ⟨_, rfl⟩, hW, hsame.mono (by decide) (by decide)⟩
  · show Steps p.tables e below (T4.setTop (mkF m 44 #[.val (.int p1), .val (.int (p1.toInt16.toInt32)), .val (.int (own_ac (p1.toInt16.toInt32)))] [(.int (1 : Int32))])) _
    exact retN X4 hx (t := .boolean) Bd.returns (by simp) (hb hby at_44) hr
  · show Q_law Z p1 h0 n0 _ T4.heap _
    exact ⟨rfl, N4⟩
set_option maxRecDepth 65536 in
set_option maxHeartbeats 40000000 in
theorem comes_1 {Post : Tables → Env → Array Value → State → Outcome → State → Prop} (hpost : ∀ tb e args s v u, (limb_1_1.after args s (.returned v) u = true ∧ limb_1_2.after args s (.returned v) u = true ∧ True) → FrameEnd s (.returned v) u (Jvm.fieldLocs frame_1_writes args s ++ Jvm.arrayLocs frame_1_arrays args s ++ Jvm.staticLocs frame_1_statics s) 0 0 → Post tb e args s (.returned v) u) :
    ArmFor flags0 classFile x code maxLocals ret World_1 tables_1 room_1 Calls_1 rest_1 Pre_1 Post := by
  intro l hfl _ _ p e ha hc hk s m args below hf hA hF happ hP
  obtain ⟨hcalls, hrest, hpre⟩ := hP
  obtain ⟨-, -, -, hnamed, -, -, -, hat⟩ := (Spec.applies_iff hf).mp happ
  obtain ⟨hg, hn⟩ := and_e (Cond.before_iff.mp (show (Jvm.Cond.and given_1 narrow_1).before args s = true from hpre))
  obtain ⟨hcnt, hr0⟩ := and_e hg
  have ha0 := hr0
  obtain ⟨w0, rfl⟩ : ∃ w0 : Value, args = #[w0] := by
    have hs : args.size = 1 := by simpa [Cond.value, given_1] using hcnt
    obtain ⟨L⟩ := args
    match L, hs with
    | [w0], _ => exact ⟨w0, rfl⟩
  have hw := fun d (hd : d ∈ tables_1) => atoms_spec (ws := Jvm.Cond.code x code maxLocals ret :: tables_1) hat d (List.mem_cons_of_mem _ hd)
  have hfit : Fit s := fun {y c} hc i hi => by
    obtain ⟨ha, rfl⟩ := Array.getElem?_eq_some_iff.mp hc
    have q := List.all_eq_true.mp ((Array.all_eq_true_iff_forall_mem.mp hF) _ (Array.getElem_mem ha)) i (List.mem_range.mpr hi)
    simpa [Array.getElem?_eq_getElem hi] using q
  obtain ⟨i0, e0⟩ := is_v ha0
  obtain rfl : w0 = (.int i0) := Option.some.inj e0
  obtain ⟨n, o, h1, h2, h3, _, L, rfl, ⟨rfl, N⟩, hq⟩ := rm_law l s _ hw tables_1 i0 s.heap s.heap.size (Nat.le_refl _) p e ha hc hk s m _ below hf ((Spec.applies_iff_loose hf).mp happ).1 ⟨rfl, State.Warmed39.refl s, rfl⟩ trivial
  refine ⟨n, _, h1, h2, h3, hpost _ _ _ _ _ _ ⟨Cond.after_iff.mpr rfl, Cond.after_iff.mpr (eq_i res_at (Term.int_eval (1)) rfl), trivial⟩ ⟨hq.1, hq.2.1, (hq.2.2.sift fun y hy => Or.inr (N y hy)).mono (by decide) (by decide)⟩⟩
theorem main_1_1 : Claimed_1_1 := comes_1 fun _ _ _ _ _ _ h hF => ⟨h.1, hF⟩
theorem main_1_2 : Claimed_1_2 := comes_1 fun _ _ _ _ _ _ h hF => ⟨h.2.1, hF⟩
end Jvm.Pilot.@@N@@
namespace Jvm.Pilot.@@N@@
open Jvm Jvm.ClassFile Sem Op Lib Jvm.Free Jvm.Stand Jvm.Pilot.@@N@@.Jvm.D
/-! MADE BY PROGRAM (witnessworld.py) out of the Statement's table words and the real class files: 12 classes; the members and pool entries that the words name. The judged class is class 1, her method 1. -/
namespace start1
open Jvm.ClassFile
def u (s : String) : CpInfo := .utf8 (stringToUtf16 s)
/-- a pool by its gaps: so many unusable entries, then the entry; so many at the end -/
def gap : Nat → List CpInfo → List CpInfo
  | 0, r => r
  | n + 1, r => .unusable :: gap n r
def poolList (es : List (Nat × CpInfo)) (last : Nat) : List CpInfo := es.foldr (fun e r => gap e.1 (e.2 :: r)) (gap last [])
def pool (es : List (Nat × CpInfo)) (last : Nat) : Array CpInfo := ⟨poolList es last⟩
def fileOf (pool : Array CpInfo) (this : Nat) (attrs : Array Attribute := #[]) (ms : Array MethodInfo := #[]) (fl : Nat := 33) (sup : Nat := 0) (ifs : Array Nat := #[]) (fds : Array FieldInfo := #[]) : ClassFile where
  minorVersion := 0
  majorVersion := 65
  constantPool := pool
  accessFlags := fl
  thisClass := this
  superClass := sup
  interfaces := ifs
  fields := fds
  methods := ms
  attributes := attrs
def plain (name : String) (sup : Option ClassId) : Class where
  name := name
  kind := .ordinary
  loader := none
  accessFlags := 33
  super := sup
  interfaces := #[]
  cf := none
  fields := #[]
  methods := #[]
  instanceTypes := #[]
  staticTypes := #[]
  resolved := #[]
  callSites := []
  init := .initialized
  statics := none
  mirror := none

def pool0 : Array CpInfo := pool [(5, u "<init>"), (0, u "()V"), (1, .class_ 10), (1, u "java/lang/Object")] 113

def k0m0 : Method := { name := "<init>", desc := "()V", sig := { parameters := [], returnType := none }, accessFlags := 1, code := none }
/-- java/lang/Object -/
def k0 : Class := { plain "java/lang/Object" none with
  accessFlags := 33
  interfaces := #[]
  cf := some (fileOf pool0 8 #[] #[{ accessFlags := 1, nameIndex := 5, descriptorIndex := 6, attributes := #[] }] 33 0 #[] #[])
  fields := #[]
  methods := #[k0m0]
  instanceTypes := #[]
  staticTypes := #[]
  resolved := Array.replicate 124 none
  statics := none }

def pool1 : Array CpInfo := pool [(2, .class_ 4), (1, u "java/lang/Object"), (0, u "<init>"), (0, u "()V"), (0, .methodref 8 9), (0, .class_ 10), (0, .nameAndType 11 12), (0, u "com/example/barnacle/barnacle/load/ElementNode"), (0, u "allowsContent"), (0, u "(S)Z"), (0, .class_ 14), (0, u "com/example/barnacle/barnacle/load/ElementNodeAllowsContentPinLaw"), (2, u "law"), (0, u "(I)Z")] 3

def k1m0 : Method := { name := "<init>", desc := "()V", sig := { parameters := [], returnType := none }, accessFlags := 2, code := none }
def k1c1 : Code := { maxStack := 2, maxLocals := 3, code := code, exceptionTable := #[], attributes := #[] }
def k1m1 : Method := { name := "law", desc := "(I)Z", sig := { parameters := [.int], returnType := some .boolean }, accessFlags := 9, code := some k1c1 }
/-- com/example/barnacle/barnacle/load/ElementNodeAllowsContentPinLaw -/
def k1 : Class := { plain "com/example/barnacle/barnacle/load/ElementNodeAllowsContentPinLaw" (some 0) with
  accessFlags := 49
  interfaces := #[]
  cf := some (fileOf pool1 13 #[] #[{ accessFlags := 2, nameIndex := 5, descriptorIndex := 6, attributes := #[] }, { accessFlags := 9, nameIndex := 17, descriptorIndex := 18, attributes := #[] }] 49 2 #[] #[])
  fields := #[]
  methods := #[k1m0, k1m1]
  instanceTypes := #[]
  staticTypes := #[]
  resolved := Array.replicate 22 none
  statics := none }

def pool2 : Array CpInfo := pool [(1, u "org/w3c/dom/Node"), (0, .class_ 1), (0, u "java/lang/Object"), (0, .class_ 3)] 0

/-- org/w3c/dom/Node -/
def k2 : Class := { plain "org/w3c/dom/Node" (some 0) with
  accessFlags := 1537
  interfaces := #[]
  cf := some (fileOf pool2 2 #[] #[] 1537 4 #[] #[])
  fields := #[]
  methods := #[]
  instanceTypes := #[]
  staticTypes := #[]
  resolved := Array.replicate 5 none
  statics := none }

def pool3 : Array CpInfo := pool [(2, .class_ 4), (1, u "java/lang/Object"), (9, .class_ 16), (1, u "com/example/barnacle/barnacle/load/AbstractNode"), (0, u "state"), (0, u "Lcom/example/barnacle/barnacle/load/NodeState;"), (2, u "parentReach"), (0, u "Ljava/lang/Object;"), (49, u "previous"), (0, u "Lcom/example/barnacle/barnacle/load/AbstractNode;"), (2, u "next"), (55, .class_ 133), (0, u "org/w3c/dom/Node"), (284, u "NO_TYPE"), (0, u "Lorg/w3c/dom/TypeInfo;")] 85

/-- com/example/barnacle/barnacle/load/AbstractNode -/
def k3 : Class := { plain "com/example/barnacle/barnacle/load/AbstractNode" (some 0) with
  accessFlags := 1056
  interfaces := #[2]
  cf := some (fileOf pool3 14 #[] #[] 1056 2 #[132] #[{ accessFlags := 24, nameIndex := 418, descriptorIndex := 419, attributes := #[] }, { accessFlags := 2, nameIndex := 17, descriptorIndex := 18, attributes := #[] }, { accessFlags := 2, nameIndex := 21, descriptorIndex := 22, attributes := #[] }, { accessFlags := 0, nameIndex := 72, descriptorIndex := 73, attributes := #[] }, { accessFlags := 0, nameIndex := 76, descriptorIndex := 73, attributes := #[] }])
  fields := #[{ name := "NO_TYPE", type := (.object "org/w3c/dom/TypeInfo"), accessFlags := 24, slot := 0, constantValue := 0 }, { name := "state", type := (.object "com/example/barnacle/barnacle/load/NodeState"), accessFlags := 2, slot := 0, constantValue := 0 }, { name := "parentReach", type := (.object "java/lang/Object"), accessFlags := 2, slot := 1, constantValue := 0 }, { name := "previous", type := (.object "com/example/barnacle/barnacle/load/AbstractNode"), accessFlags := 0, slot := 2, constantValue := 0 }, { name := "next", type := (.object "com/example/barnacle/barnacle/load/AbstractNode"), accessFlags := 0, slot := 3, constantValue := 0 }]
  methods := #[]
  instanceTypes := #[(.object "com/example/barnacle/barnacle/load/NodeState"), (.object "java/lang/Object"), (.object "com/example/barnacle/barnacle/load/AbstractNode"), (.object "com/example/barnacle/barnacle/load/AbstractNode")]
  staticTypes := #[(.object "org/w3c/dom/TypeInfo")]
  resolved := Array.replicate 505 none
  statics := none }

def pool4 : Array CpInfo := pool [(2, .class_ 4), (1, u "com/example/barnacle/barnacle/load/AbstractNode"), (3, .class_ 10), (1, u "com/example/barnacle/barnacle/load/AbstractParent"), (0, u "childNodes"), (0, u "Lcom/example/barnacle/barnacle/load/ChildNodeList;"), (7, u "firstChild"), (0, u "Lcom/example/barnacle/barnacle/load/AbstractNode;"), (2, u "lastChild"), (2, u "childCount"), (0, u "I"), (2, u "childLink"), (0, u "Lcom/example/barnacle/barnacle/load/ParentLink;")] 258

/-- com/example/barnacle/barnacle/load/AbstractParent -/
def k4 : Class := { plain "com/example/barnacle/barnacle/load/AbstractParent" (some 3) with
  accessFlags := 1056
  interfaces := #[]
  cf := some (fileOf pool4 8 #[] #[] 1056 2 #[] #[{ accessFlags := 0, nameIndex := 20, descriptorIndex := 21, attributes := #[] }, { accessFlags := 0, nameIndex := 24, descriptorIndex := 21, attributes := #[] }, { accessFlags := 2, nameIndex := 27, descriptorIndex := 28, attributes := #[] }, { accessFlags := 2, nameIndex := 31, descriptorIndex := 32, attributes := #[] }, { accessFlags := 2, nameIndex := 11, descriptorIndex := 12, attributes := #[] }])
  fields := #[{ name := "firstChild", type := (.object "com/example/barnacle/barnacle/load/AbstractNode"), accessFlags := 0, slot := 4, constantValue := 0 }, { name := "lastChild", type := (.object "com/example/barnacle/barnacle/load/AbstractNode"), accessFlags := 0, slot := 5, constantValue := 0 }, { name := "childCount", type := .int, accessFlags := 2, slot := 6, constantValue := 0 }, { name := "childLink", type := (.object "com/example/barnacle/barnacle/load/ParentLink"), accessFlags := 2, slot := 7, constantValue := 0 }, { name := "childNodes", type := (.object "com/example/barnacle/barnacle/load/ChildNodeList"), accessFlags := 2, slot := 8, constantValue := 0 }]
  methods := #[]
  instanceTypes := #[(.object "com/example/barnacle/barnacle/load/NodeState"), (.object "java/lang/Object"), (.object "com/example/barnacle/barnacle/load/AbstractNode"), (.object "com/example/barnacle/barnacle/load/AbstractNode"), (.object "com/example/barnacle/barnacle/load/AbstractNode"), (.object "com/example/barnacle/barnacle/load/AbstractNode"), .int, (.object "com/example/barnacle/barnacle/load/ParentLink"), (.object "com/example/barnacle/barnacle/load/ChildNodeList")]
  staticTypes := #[]
  resolved := Array.replicate 291 none
  statics := none }

def pool5 : Array CpInfo := pool [(2, .class_ 4), (1, u "com/example/barnacle/barnacle/load/AbstractParent"), (3, .class_ 10), (1, u "com/example/barnacle/barnacle/load/NamedNode"), (0, u "name"), (0, u "Lcom/example/barnacle/barnacle/load/NodeName;")] 77

/-- com/example/barnacle/barnacle/load/NamedNode -/
def k5 : Class := { plain "com/example/barnacle/barnacle/load/NamedNode" (some 4) with
  accessFlags := 1056
  interfaces := #[]
  cf := some (fileOf pool5 8 #[] #[] 1056 2 #[] #[{ accessFlags := 2, nameIndex := 11, descriptorIndex := 12, attributes := #[] }])
  fields := #[{ name := "name", type := (.object "com/example/barnacle/barnacle/load/NodeName"), accessFlags := 2, slot := 9, constantValue := 0 }]
  methods := #[]
  instanceTypes := #[(.object "com/example/barnacle/barnacle/load/NodeState"), (.object "java/lang/Object"), (.object "com/example/barnacle/barnacle/load/AbstractNode"), (.object "com/example/barnacle/barnacle/load/AbstractNode"), (.object "com/example/barnacle/barnacle/load/AbstractNode"), (.object "com/example/barnacle/barnacle/load/AbstractNode"), .int, (.object "com/example/barnacle/barnacle/load/ParentLink"), (.object "com/example/barnacle/barnacle/load/ChildNodeList"), (.object "com/example/barnacle/barnacle/load/NodeName")]
  staticTypes := #[]
  resolved := Array.replicate 90 none
  statics := none }

def pool6 : Array CpInfo := pool [(1, u "org/w3c/dom/Element"), (0, .class_ 1), (0, u "java/lang/Object"), (0, .class_ 3)] 0

/-- org/w3c/dom/Element -/
def k6 : Class := { plain "org/w3c/dom/Element" (some 0) with
  accessFlags := 1537
  interfaces := #[]
  cf := some (fileOf pool6 2 #[] #[] 1537 4 #[] #[])
  fields := #[]
  methods := #[]
  instanceTypes := #[]
  staticTypes := #[]
  resolved := Array.replicate 5 none
  statics := none }

def pool7 : Array CpInfo := pool [(2, .class_ 4), (1, u "com/example/barnacle/barnacle/load/NamedNode"), (3, .class_ 10), (1, u "com/example/barnacle/barnacle/load/ElementNode"), (0, u "attributes"), (0, u "Ljava/lang/Object;"), (97, u "allowsContent"), (0, u "(S)Z"), (303, .class_ 416), (0, u "org/w3c/dom/Element")] 60

def k7c0 : Code := { maxStack := 2, maxLocals := 1, code := prog_35_method_16_code, exceptionTable := #[], attributes := #[] }
def k7m0 : Method := { name := "allowsContent", desc := "(S)Z", sig := { parameters := [.short], returnType := some .boolean }, accessFlags := 8, code := some k7c0 }
/-- com/example/barnacle/barnacle/load/ElementNode -/
def k7 : Class := { plain "com/example/barnacle/barnacle/load/ElementNode" (some 5) with
  accessFlags := 48
  interfaces := #[6]
  cf := some (fileOf pool7 8 #[] #[{ accessFlags := 8, nameIndex := 110, descriptorIndex := 111, attributes := #[] }] 48 2 #[415] #[{ accessFlags := 2, nameIndex := 11, descriptorIndex := 12, attributes := #[] }])
  fields := #[{ name := "attributes", type := (.object "java/lang/Object"), accessFlags := 2, slot := 10, constantValue := 0 }]
  methods := #[k7m0]
  instanceTypes := #[(.object "com/example/barnacle/barnacle/load/NodeState"), (.object "java/lang/Object"), (.object "com/example/barnacle/barnacle/load/AbstractNode"), (.object "com/example/barnacle/barnacle/load/AbstractNode"), (.object "com/example/barnacle/barnacle/load/AbstractNode"), (.object "com/example/barnacle/barnacle/load/AbstractNode"), .int, (.object "com/example/barnacle/barnacle/load/ParentLink"), (.object "com/example/barnacle/barnacle/load/ChildNodeList"), (.object "com/example/barnacle/barnacle/load/NodeName"), (.object "java/lang/Object")]
  staticTypes := #[]
  resolved := Array.replicate 477 none
  statics := none }

def pool8 : Array CpInfo := pool [(1, u "java/lang/Cloneable"), (0, .class_ 1), (0, u "java/lang/Object"), (0, .class_ 3)] 3

/-- java/lang/Cloneable -/
def k8 : Class := { plain "java/lang/Cloneable" (some 0) with
  accessFlags := 1537
  interfaces := #[]
  cf := some (fileOf pool8 2 #[] #[] 1537 4 #[] #[])
  fields := #[]
  methods := #[]
  instanceTypes := #[]
  staticTypes := #[]
  resolved := Array.replicate 8 none
  statics := none }

def pool9 : Array CpInfo := pool [(1, u "java/io/Serializable"), (0, .class_ 1), (0, u "java/lang/Object"), (0, .class_ 3)] 3

/-- java/io/Serializable -/
def k9 : Class := { plain "java/io/Serializable" (some 0) with
  accessFlags := 1537
  interfaces := #[]
  cf := some (fileOf pool9 2 #[] #[] 1537 4 #[] #[])
  fields := #[]
  methods := #[]
  instanceTypes := #[]
  staticTypes := #[]
  resolved := Array.replicate 8 none
  statics := none }

/-- the primitive byte -/
def k10 : Class := { plain "byte" none with kind := .primitive 'B', accessFlags := 0x411 }
/-- [B -/
def k11 : Class := { plain "[B" (some 0) with kind := .array 10 .byte, interfaces := #[8, 9], accessFlags := 1041 }

def heap : Heap := #[]
def classes : Array Class := #[k0, k1, k2, k3, k4, k5, k6, k7, k8, k9, k10, k11]
def interned : List (Array UInt16 × Addr) := []
def slotsUsed : Nat := 0
def theMethod : MethodId := ⟨1, 1⟩
def args0 : Array Value := #[.int 5]
def aboutOver (below : List Frame) : State where
  vm := { classes := classes, interned := interned.toArray }
  heap := heap
  slotsUsed := slotsUsed
  threads := #[{ frames := .invoking theMethod args0 :: below }]
def below0 : List Frame := [.native { method := ⟨0, 0⟩, args := #[] }]
def about1 : State := aboutOver below0
def p0 : Program := .bare "" "" ""
def e0 : Env := launch0.env 0 0 0
theorem w_frames : about1.frames = Frame.invoking theMethod args0 :: below0 := rfl
set_option maxRecDepth 65536 in
theorem w_args : argsFit about1.vm theMethod args0 = true := by decide +kernel
set_option maxRecDepth 65536 in
theorem w_heap : heapFits about1 = true := by decide +kernel
set_option maxRecDepth 65536 in
theorem w_runnable : about1.curStatus? = some .runnable := by decide +kernel
set_option maxRecDepth 65536 in
theorem w_alone : about1.alone = true := by decide +kernel
set_option maxRecDepth 65536 in
theorem w_named : about1.methodNamed? x = some theMethod := by decide +kernel
set_option maxRecDepth 65536 in
theorem w_hears : about1.hears theMethod below0 = true := by decide +kernel
set_option maxRecDepth 65536 in
theorem w_ripe : about1.ripe theMethod args0 below0 = true := by decide +kernel
theorem w_running : about1.status = .running := rfl
set_option maxRecDepth 65536 in
theorem w_room : about1.hasRoom e0.platform room_1 = true :=
  launch0.hasRoom_least _ room_1 (by decide +kernel) (by decide +kernel) (by decide +kernel) (by decide +kernel) (by decide +kernel) (by decide +kernel)
theorem allAtoms_all (ts : List Jvm.Cond) (a : Array Jvm.Value) (st : Jvm.State) : (allAtoms ts).before a st = ts.all (fun c => c.before a st) := by
  induction ts with
  | nil => rfl
  | cons c t ih =>
    show (Jvm.Cond.and c (allAtoms t)).before a st = _
    rw [Jvm.Cond.before_and, ih, List.all_cons]
def words1 : List Jvm.Cond := Jvm.Cond.code x code maxLocals ret :: tables_1
/-- a 'code' word, met by the world's own term for the bytes: nothing is compared byte by byte -/
theorem code_word {y : MethodName} {bytes : ByteArray} {mx : Nat} {rt : Option FieldType} {a : Array Value} {s : State} {m : MethodId} {meth : Method} {c : Code} (h1 : s.methodNamed? y = some m) (h2 : s.vm.method? m = some meth) (h3 : meth.code = some c) (h4 : c.code = bytes)
    (h5 : (c.maxLocals == mx && c.exceptionTable.isEmpty && decide (c.maxStack ≤ mostOperands) && decide (meth.sig.returnType = rt) && !meth.locks && decide (parseMethodDescriptor y.desc = some meth.sig)) = true) : (Jvm.Cond.code y bytes mx rt).before a s = true := by
  simp only [Bool.and_eq_true, beq_iff_eq, Bool.not_eq_true', decide_eq_true_eq] at h5
  obtain ⟨⟨⟨⟨⟨g1, g2⟩, g3⟩, g4⟩, g5⟩, g6⟩ := h5
  simp [Cond.before, Cond.holds, Cond.value, h1, h2, h3, h4, g1, g2, g3, g4, g5, g6]
def isCode : Jvm.Cond → Bool
  | .code _ _ _ _ => true
  | _ => false
theorem all_split {L : List Jvm.Cond} {P : Jvm.Cond → Bool} (h1 : L.all (fun c => isCode c || P c) = true) (h2 : ∀ c ∈ L.filter isCode, P c = true) : L.all P = true := by
  refine List.all_eq_true.mpr fun c hc => ?_
  have h := List.all_eq_true.mp h1 c hc
  rcases Bool.eq_false_or_eq_true (isCode c) with hi | hi
  · exact h2 c (List.mem_filter.mpr ⟨hc, hi⟩)
  · simpa [hi] using h
set_option maxRecDepth 65536 in
theorem w_c0 : (Jvm.Cond.code x code maxLocals ret).before args0 about1 = true := code_word (m := ⟨1, 1⟩) (meth := k1m1) (c := k1c1) (by decide +kernel) rfl rfl rfl (by decide +kernel)
set_option maxRecDepth 65536 in
theorem w_c1 : (Jvm.Cond.code ({ cls := "com/example/barnacle/barnacle/load/ElementNode", name := "allowsContent", desc := "(S)Z" } : Jvm.MethodName) prog_35_method_16_code (1 : Nat) (Option.some Jvm.ClassFile.FieldType.boolean)).before args0 about1 = true := code_word (m := ⟨7, 0⟩) (meth := k7m0) (c := k7c0) (by decide +kernel) rfl rfl rfl (by decide +kernel)
def codes1 : List Jvm.Cond := [Jvm.Cond.code x code maxLocals ret, Jvm.Cond.code ({ cls := "com/example/barnacle/barnacle/load/ElementNode", name := "allowsContent", desc := "(S)Z" } : Jvm.MethodName) prog_35_method_16_code (1 : Nat) (Option.some Jvm.ClassFile.FieldType.boolean)]
set_option maxRecDepth 65536 in
theorem codes_eq : words1.filter isCode = codes1 := rfl
theorem w_codes : ∀ c ∈ words1.filter isCode, c.before args0 about1 = true := by
  rw [codes_eq]
  intro c hc
  simp only [codes1, List.mem_cons, List.not_mem_nil, or_false] at hc
  rcases hc with rfl | rfl
  · exact w_c0
  · exact w_c1
set_option maxRecDepth 65536 in
theorem w_t1 : words1.all (fun c => isCode c || c.before args0 about1) = true := by decide +kernel
theorem w_tables : (allAtoms (Jvm.Cond.code x code maxLocals ret :: tables_1)).before args0 about1 = true := by
  rw [allAtoms_all]
  show words1.all (fun c => c.before args0 about1) = true
  refine all_split ?_ w_codes
  rw [w_t1]
set_option maxRecDepth 65536 in
theorem w_case : (Jvm.Cond.and given_1 narrow_1).before args0 about1 = true := by decide +kernel
theorem w_applies : (headSpec (Jvm.Cond.code x code maxLocals ret :: tables_1) room_1).applies x e0.platform about1 = true :=
  (Spec.applies_iff w_frames).mpr ⟨w_running, w_runnable, w_alone, w_named, w_hears, w_ripe, w_room, w_tables⟩
theorem atStart : AtStart classFile x code maxLocals ret World_1 tables_1 room_1 Calls_1 rest_1 Pre_1 launch0 p0 e0 about1 theMethod args0 below0 :=
  ⟨lists_1, trivial, launch0.admits_env _ _ _, launch0.least_env, fairChoices_fair.cas, fairChoices_fair.clock, w_frames, w_args, w_heap, w_applies, trivial, trivial, w_case⟩
end start1
theorem witness_1 : WitnessClaimed_1 := ⟨start1.p0, start1.e0, start1.about1, start1.theMethod, start1.args0, start1.below0, start1.atStart⟩
end Jvm.Pilot.@@N@@
