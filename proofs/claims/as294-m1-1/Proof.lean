import JvmDerived
import JvmDerived.Pilot.@@N@@Statement
import JvmDerived.Pilot.@@N@@Code
set_option linter.unusedVariables false
set_option linter.unusedSimpArgs false
@@BLOCK:NumsL.lean.txt@@
namespace Jvm.Pilot.@@N@@
open Jvm Jvm.ClassFile Sem Op Lib Jvm.Free Jvm.Stand Jvm.LawKit Jvm.RoadKit Bundle Jvm.Pilot.@@N@@.Jvm.D
theorem own_irem (x y : Int32) : x - (x / y) * y = x % y := Jvm.irem_eq_mod x y

def own_dig (x : Int32) : Int32 := if x < (48 : Int32) then 0 else if (57 : Int32) < x then 0 else 1
theorem own_off (x : Int32) : ((x.toInt64) - (48 : Int64)).toInt = x.toInt - 48 := by
  have a := rng32 x
  have b := c_i2l x
  have c := c_lsub x.toInt64 (48 : Int64)
  have d : (48 : Int64).toInt = 48 := rfl
  have f := rng64 (x.toInt64 - (48 : Int64))
  omega
theorem own_l1 (x : Int32) : lcmpW ((x.toInt64) - (48 : Int64)) (0 : Int64) < (0 : Int32) ↔ x < (48 : Int32) := by
  have h := own_off x
  have d : (48 : Int32).toInt = 48 := rfl
  have z : (0 : Int64).toInt = 0 := rfl
  rw [lw_lt, Int64.lt_iff_toInt_lt, Int32.lt_iff_toInt_lt]; omega
theorem own_l2 (x : Int32) : (0 : Int32) < lcmpW ((x.toInt64) - (48 : Int64)) (9 : Int64) ↔ (57 : Int32) < x := by
  have h := own_off x
  have d : (57 : Int32).toInt = 57 := rfl
  have z : (9 : Int64).toInt = 9 := rfl
  rw [lw_gt, Int64.lt_iff_toInt_lt, Int32.lt_iff_toInt_lt]; omega
theorem own_in {x : Int32} (h1 : 48 ≤ x.toInt) (h2 : x.toInt ≤ 57) : own_dig x = 1 := by
  have d : (48 : Int32).toInt = 48 := rfl
  have f : (57 : Int32).toInt = 57 := rfl
  unfold own_dig
  rw [if_neg (by rw [Int32.lt_iff_toInt_lt]; omega), if_neg (by rw [Int32.lt_iff_toInt_lt]; omega)]
theorem own_out {x : Int32} (h : x.toInt < 48 ∨ 57 < x.toInt) : own_dig x = 0 := by
  have d : (48 : Int32).toInt = 48 := rfl
  have f : (57 : Int32).toInt = 57 := rfl
  unfold own_dig
  by_cases g : x < (48 : Int32)
  · rw [if_pos g]
  · rw [if_neg g, if_pos]
    rw [Int32.lt_iff_toInt_lt] at g ⊢; omega
theorem own_m31 (k : Int32) : 0 ≤ (k &&& (2147483647 : Int32)).toInt ∧ (k &&& (2147483647 : Int32)).toInt ≤ 2147483647 := c_and k _ (by decide)
theorem own_m30 (k : Int32) : 0 ≤ (k &&& (1073741823 : Int32)).toInt ∧ (k &&& (1073741823 : Int32)).toInt ≤ 1073741823 := c_and k _ (by decide)
theorem own_d (k : Int32) : own_dig ((48 : Int32) + ((k &&& (2147483647 : Int32)) % (10 : Int32))) = 1 := by
  have a := own_m31 k
  have b := (c_irem (k &&& (2147483647 : Int32)) (10 : Int32) 10 rfl).1 a.1
  have c := c_iadd (48 : Int32) ((k &&& (2147483647 : Int32)) % (10 : Int32))
  have d : (48 : Int32).toInt = 48 := rfl
  have r := rng32 ((48 : Int32) + ((k &&& (2147483647 : Int32)) % (10 : Int32)))
  exact own_in (by omega) (by omega)
theorem own_b (k : Int32) : own_dig ((47 : Int32) - (k &&& (2147483647 : Int32))) = 0 := by
  have a := own_m31 k
  have c := c_isub (47 : Int32) (k &&& (2147483647 : Int32))
  have d : (47 : Int32).toInt = 47 := rfl
  have r := rng32 ((47 : Int32) - (k &&& (2147483647 : Int32)))
  exact own_out (by omega)
theorem own_a (k : Int32) : own_dig ((58 : Int32) + (k &&& (1073741823 : Int32))) = 0 := by
  have a := own_m30 k
  have c := c_iadd (58 : Int32) (k &&& (1073741823 : Int32))
  have d : (58 : Int32).toInt = 58 := rfl
  have r := rng32 ((58 : Int32) + (k &&& (1073741823 : Int32)))
  exact own_out (by omega)
theorem ddig_0 : decode prog_59_method_5_code 0 = .ok (.iload_n 0, 1) := by decide +kernel
theorem ddig_1 : decode prog_59_method_5_code 1 = .ok (.bipush 48, 2) := by decide +kernel
theorem ddig_3 : decode prog_59_method_5_code 3 = .ok (.if_icmp .lt 13, 3) := by decide +kernel
theorem ddig_6 : decode prog_59_method_5_code 6 = .ok (.iload_n 0, 1) := by decide +kernel
theorem ddig_7 : decode prog_59_method_5_code 7 = .ok (.bipush 57, 2) := by decide +kernel
theorem ddig_9 : decode prog_59_method_5_code 9 = .ok (.if_icmp .gt 7, 3) := by decide +kernel
theorem ddig_12 : decode prog_59_method_5_code 12 = .ok (.iconst 1, 1) := by decide +kernel
theorem ddig_13 : decode prog_59_method_5_code 13 = .ok (.goto 4, 3) := by decide +kernel
theorem ddig_16 : decode prog_59_method_5_code 16 = .ok (.iconst 0, 1) := by decide +kernel
theorem ddig_17 : decode prog_59_method_5_code 17 = .ok (.ireturn, 1) := by decide +kernel
theorem pn_dig : plainName "com/example/vetch/vetch/term/CharClass" = true := by first | (simp [plainName, overriddenIn]; done) | decide +kernel
theorem ef_dig (m : MethodId) (x0 : Int32) : entryFrame m #[(.int x0)] 1 = mkF m 0 #[.val (.int x0)] [] := by first | (simp [entryFrame, mkF, argsToLocals, Value.category]; done) | rfl
def Q_dig (Z : State) (p1 : Int32) (h0 : Heap) (n0 : Nat) (v : Option Value) (h : Heap) (L : List Loc) : Prop := v = some (.int (own_dig p1)) ∧ Fr n0 L ∧ h = h0
set_option maxRecDepth 65536 in
set_option maxHeartbeats 40000000 in
theorem rm_dig (l : Launch) (Z : State) (a0 : Array Value) (hw : ∀ d ∈ tables_1, d.before a0 Z = true) (ws : List Jvm.Cond) (p1 : Int32) (h0 : Heap) (n0 : Nat) (Z0 : n0 ≤ h0.size)  :
    MetFree l (⟨"com/example/vetch/vetch/term/CharClass", "isDigit", "(I)Z"⟩ : MethodName) (head1 (Jvm.Cond.code (⟨"com/example/vetch/vetch/term/CharClass", "isDigit", "(I)Z"⟩ : MethodName) prog_59_method_5_code 1 (some .boolean) :: ws) ({ frames := 0, cells := 0, slots := 0, locals := 0 } : Room)) (fun a U => a = #[(.int p1)] ∧ Z.Warmed39 U.vm ∧ U.heap = h0) (fun _ _ _ _ _ => True) (fun _ U o U' => ∃ v L, o = .returned v ∧ Q_dig Z p1 h0 n0 v U'.heap L ∧ FrameEnd U o U' L ({ frames := 0, cells := 0, slots := 0, locals := 0 } : Room).cells ({ frames := 0, cells := 0, slots := 0, locals := 0 } : Room).slots) := by
  refine MetFree.of_bodySF (plainFor_of_name pn_dig) hisR ?_
  intro p e s m args below meth c s₁ Bd hml0 hP hK
  obtain ⟨rfl, hZ, hh⟩ := hP
  have hx := Bd.exec
  have hby := Bd.bytes
  have hml : c.maxLocals = 1 := hml0
  have hown : s.vm.findClass "com/example/vetch/vetch/term/CharClass" = some m.cls := findClass_of_methodNamed Bd.named
  have hnm := (name_of_methodNamed Bd.named Bd.method).1
  have X0 : Stand p l e ({ frames := 0, cells := 0, slots := 0, locals := 0 } : Room) s m #[(.int p1)] below meth c s₁ [] 0 0 := Stand.of_body Bd
  have e0 : s₁.heap = h0 := by rw [← hh, Bd.state]; rfl
  have N0 := Fr.nil n0
  have pre0 : ∀ tg_, Steps p.tables e below (s₁.setTop (mkF m 0 #[.val (.int p1)] [])) tg_ → Steps p.tables e below (s₁.setTop (entryFrame m #[(.int p1)] 1)) tg_ := fun tg_ k => castTop (ef_dig m p1) k
  obtain ⟨fs, hr, hrun, hended, hW, hsame⟩ := X0.leave (v := some (.int (own_dig p1))) (fun h => by rw [Bd.returns] at h; cases h)
  refine ⟨_, _, pre0 _ ?_, hrun, hended, _, _, rfl, ?_, ⟨_, rfl⟩, hW, hsame.mono (by decide) (by decide)⟩
  · show Steps p.tables e below (s₁.setTop (mkF m 0 #[.val (.int p1)] [])) _
    refine XS.iloadN X0.here hx rfl (hb hby ddig_0) rfl ?_
    show Steps p.tables e below (s₁.setTop (mkF m 1 #[.val (.int p1)] [(.int p1)])) _
    refine XS.bipush X0.here hx rfl (hb hby ddig_1) ?_
    show Steps p.tables e below (s₁.setTop (mkF m 3 #[.val (.int p1)] [(.int (48 : Int32)), (.int p1)])) _
    by_cases hc3 : p1 < (48 : Int32)
    · show Steps p.tables e below (s₁.setTop (mkF m 3 #[.val (.int p1)] [(.int (48 : Int32)), (.int p1)])) _
      refine XS.icmpYes X0.here hx rfl (pc0 := 3) (pc' := 16) rfl (hb hby ddig_3) rfl (tlt (show p1 < (48 : Int32) from hc3)).1 (by decide) (by decide) ?_
      show Steps p.tables e below (s₁.setTop (mkF m 16 #[.val (.int p1)] [])) _
      refine XS.iconst X0.here hx rfl (hb hby ddig_16) ?_
      show Steps p.tables e below (s₁.setTop (mkF m 17 #[.val (.int p1)] [(.int (0 : Int32))])) _
      have hval : (own_dig p1) = (0 : Int32) := by
        simp only [own_dig, if_pos hc3]
      rw [hval] at hr
      exact retN X0 hx (t := .boolean) Bd.returns (by simp) (hb hby ddig_17) hr
    · show Steps p.tables e below (s₁.setTop (mkF m 3 #[.val (.int p1)] [(.int (48 : Int32)), (.int p1)])) _
      refine XS.icmpNo X0.here hx rfl (hb hby ddig_3) rfl (flt (show ¬ (p1 < (48 : Int32)) from hc3)).1 ?_
      show Steps p.tables e below (s₁.setTop (mkF m 6 #[.val (.int p1)] [])) _
      refine XS.iloadN X0.here hx rfl (hb hby ddig_6) rfl ?_
      show Steps p.tables e below (s₁.setTop (mkF m 7 #[.val (.int p1)] [(.int p1)])) _
      refine XS.bipush X0.here hx rfl (hb hby ddig_7) ?_
      show Steps p.tables e below (s₁.setTop (mkF m 9 #[.val (.int p1)] [(.int (57 : Int32)), (.int p1)])) _
      by_cases hc9 : (57 : Int32) < p1
      · show Steps p.tables e below (s₁.setTop (mkF m 9 #[.val (.int p1)] [(.int (57 : Int32)), (.int p1)])) _
        refine XS.icmpYes X0.here hx rfl (pc0 := 9) (pc' := 16) rfl (hb hby ddig_9) rfl (tlt (show (57 : Int32) < p1 from hc9)).2.2.1 (by decide) (by decide) ?_
        show Steps p.tables e below (s₁.setTop (mkF m 16 #[.val (.int p1)] [])) _
        refine XS.iconst X0.here hx rfl (hb hby ddig_16) ?_
        show Steps p.tables e below (s₁.setTop (mkF m 17 #[.val (.int p1)] [(.int (0 : Int32))])) _
        have hval : (own_dig p1) = (0 : Int32) := by
          simp only [own_dig, if_neg hc3, if_pos hc9]
        rw [hval] at hr
        exact retN X0 hx (t := .boolean) Bd.returns (by simp) (hb hby ddig_17) hr
      · show Steps p.tables e below (s₁.setTop (mkF m 9 #[.val (.int p1)] [(.int (57 : Int32)), (.int p1)])) _
        refine XS.icmpNo X0.here hx rfl (hb hby ddig_9) rfl (flt (show ¬ ((57 : Int32) < p1) from hc9)).2.2.1 ?_
        show Steps p.tables e below (s₁.setTop (mkF m 12 #[.val (.int p1)] [])) _
        refine XS.iconst X0.here hx rfl (hb hby ddig_12) ?_
        show Steps p.tables e below (s₁.setTop (mkF m 13 #[.val (.int p1)] [(.int (1 : Int32))])) _
        refine XS.goto X0.here hx rfl (pc0 := 13) (pc' := 17) rfl (hb hby ddig_13) (by decide) (by decide) ?_
        show Steps p.tables e below (s₁.setTop (mkF m 17 #[.val (.int p1)] [(.int (1 : Int32))])) _
        have hval : (own_dig p1) = (1 : Int32) := by
          simp only [own_dig, if_neg hc3, if_neg hc9]
        rw [hval] at hr
        exact retN X0 hx (t := .boolean) Bd.returns (by simp) (hb hby ddig_17) hr
  · show Q_dig Z p1 h0 n0 _ s₁.heap _
    rw [e0]
    exact ⟨rfl, N0, rfl⟩
theorem pd_law_0 : parseMethodDescriptor "(I)Z" = some ⟨[.int], some .boolean⟩ := by decide +kernel
theorem pn_law : plainName "com/example/vetch/vetch/term/CharClassIsDigitPinLaw" = true := by first | (simp [plainName, overriddenIn]; done) | decide +kernel
theorem ef_law (m : MethodId) (x0 : Int32) (x1 : Int32) : entryFrame m #[(.int x0), (.int x1)] maxLocals = mkF m 0 #[.val (.int x0), .val (.int x1), .unset, .unset, .unset, .unset, .unset, .unset] [] := by first | (simp [entryFrame, mkF, argsToLocals, Value.category, maxLocals]; done) | rfl
def Q_law (Z : State) (p1 p2 : Int32) (h0 : Heap) (n0 : Nat) (v : Option Value) (h : Heap) (L : List Loc) : Prop := v = some (.int 1) ∧ Fr n0 L
set_option maxRecDepth 65536 in
set_option maxHeartbeats 40000000 in
theorem rm_law (l : Launch) (Z : State) (a0 : Array Value) (hw : ∀ d ∈ tables_1, d.before a0 Z = true) (ws : List Jvm.Cond) (p1 p2 : Int32) (h0 : Heap) (n0 : Nat) (Z0 : n0 ≤ h0.size)  :
    MetFree l x (head1 (Jvm.Cond.code x code maxLocals ret :: ws) room_1) (fun a U => a = #[(.int p1), (.int p2)] ∧ Z.Warmed39 U.vm ∧ U.heap = h0) (fun _ _ _ _ _ => True) (fun _ U o U' => ∃ v L, o = .returned v ∧ Q_law Z p1 p2 h0 n0 v U'.heap L ∧ FrameEnd U o U' L room_1.cells room_1.slots) := by
  refine MetFree.of_bodySF (plainFor_of_name pn_law) hisR ?_
  intro p e s m args below meth c s₁ Bd hml0 hP hK
  obtain ⟨rfl, hZ, hh⟩ := hP
  have hx := Bd.exec
  have hby := Bd.bytes
  have hml : c.maxLocals = 8 := hml0
  have hown : s.vm.findClass "com/example/vetch/vetch/term/CharClassIsDigitPinLaw" = some m.cls := findClass_of_methodNamed Bd.named
  have hnm := (name_of_methodNamed Bd.named Bd.method).1
  have X0 : Stand p l e room_1 s m #[(.int p1), (.int p2)] below meth c s₁ [] 0 0 := Stand.of_body Bd
  have e0 : s₁.heap = h0 := by rw [← hh, Bd.state]; rfl
  have N0 := Fr.nil n0
  have pre0 : ∀ tg_, Steps p.tables e below (s₁.setTop (mkF m 0 #[.val (.int p1), .val (.int p2), .unset, .unset, .unset, .unset, .unset, .unset] [])) tg_ → Steps p.tables e below (s₁.setTop (entryFrame m #[(.int p1), (.int p2)] maxLocals)) tg_ := fun tg_ k => castTop (ef_law m p1 p2) k
  have p_1 : ∀ tg_, Steps p.tables e below (s₁.setTop (mkF m 10 #[.val (.int p1), .val (.int p2), .val (.long ((p1.toInt64) - (48 : Int64))), .second, .unset, .unset, .unset, .unset] [(.int (lcmpW ((p1.toInt64) - (48 : Int64)) (0 : Int64)))])) tg_ → Steps p.tables e below (s₁.setTop (entryFrame m #[(.int p1), (.int p2)] maxLocals)) tg_ := by
    intro tg_ kk_
    refine pre0 tg_ ?_
    show Steps p.tables e below (s₁.setTop (mkF m 0 #[.val (.int p1), .val (.int p2), .unset, .unset, .unset, .unset, .unset, .unset] [])) _
    refine XS.iloadN X0.here hx rfl (hb hby at_0) rfl ?_
    show Steps p.tables e below (s₁.setTop (mkF m 1 #[.val (.int p1), .val (.int p2), .unset, .unset, .unset, .unset, .unset, .unset] [(.int p1)])) _
    refine XS.i2l X0.here hx rfl (hb hby at_1) rfl ?_
    show Steps p.tables e below (s₁.setTop (mkF m 2 #[.val (.int p1), .val (.int p2), .unset, .unset, .unset, .unset, .unset, .unset] [(.long (p1.toInt64))])) _
    refine X0.ldc2Long hx hown (mvT hZ (hw _ (List.mem_of_getElem? (i := 0) rfl))) (g := (mkF m 2 #[.val (.int p1), .val (.int p2), .unset, .unset, .unset, .unset, .unset, .unset] [(.long (p1.toInt64))])) rfl (hb hby at_2) _ ?_
    show Steps p.tables e below (s₁.setTop (mkF m 5 #[.val (.int p1), .val (.int p2), .unset, .unset, .unset, .unset, .unset, .unset] [(.long (48 : Int64)), (.long (p1.toInt64))])) _
    refine XS.lsub X0.here hx rfl (hb hby at_5) rfl ?_
    show Steps p.tables e below (s₁.setTop (mkF m 6 #[.val (.int p1), .val (.int p2), .unset, .unset, .unset, .unset, .unset, .unset] [(.long ((p1.toInt64) - (48 : Int64)))])) _
    refine XS.lstoreN X0.here hx rfl (hb hby at_6) rfl (l' := #[.val (.int p1), .val (.int p2), .val (.long ((p1.toInt64) - (48 : Int64))), .second, .unset, .unset, .unset, .unset]) rfl ?_
    show Steps p.tables e below (s₁.setTop (mkF m 7 #[.val (.int p1), .val (.int p2), .val (.long ((p1.toInt64) - (48 : Int64))), .second, .unset, .unset, .unset, .unset] [])) _
    refine XS.lloadN X0.here hx rfl (hb hby at_7) rfl ?_
    show Steps p.tables e below (s₁.setTop (mkF m 8 #[.val (.int p1), .val (.int p2), .val (.long ((p1.toInt64) - (48 : Int64))), .second, .unset, .unset, .unset, .unset] [(.long ((p1.toInt64) - (48 : Int64)))])) _
    refine XS.lconst X0.here hx rfl (hb hby at_8) ?_
    show Steps p.tables e below (s₁.setTop (mkF m 9 #[.val (.int p1), .val (.int p2), .val (.long ((p1.toInt64) - (48 : Int64))), .second, .unset, .unset, .unset, .unset] [(.long (0 : Int64)), (.long ((p1.toInt64) - (48 : Int64)))])) _
    refine XS.lcmp X0.here hx rfl (hb hby at_9) rfl ?_
    exact kk_
  have p_2 : ∀ ex : Int32, (ex = (own_dig p1)) → ∀ tg_, Steps p.tables e below (s₁.setTop (mkF m 26 #[.val (.int p1), .val (.int p2), .val (.long ((p1.toInt64) - (48 : Int64))), .second, .unset, .unset, .unset, .unset] [(.int ex)])) tg_ → Steps p.tables e below (s₁.setTop (entryFrame m #[(.int p1), (.int p2)] maxLocals)) tg_ := by
    intro ex hex tg_ kk_
    refine p_1 tg_ ?_
    show Steps p.tables e below (s₁.setTop (mkF m 10 #[.val (.int p1), .val (.int p2), .val (.long ((p1.toInt64) - (48 : Int64))), .second, .unset, .unset, .unset, .unset] [(.int (lcmpW ((p1.toInt64) - (48 : Int64)) (0 : Int64)))])) _
    by_cases hc10 : (lcmpW ((p1.toInt64) - (48 : Int64)) (0 : Int64)) < (0 : Int32)
    · show Steps p.tables e below (s₁.setTop (mkF m 10 #[.val (.int p1), .val (.int p2), .val (.long ((p1.toInt64) - (48 : Int64))), .second, .unset, .unset, .unset, .unset] [(.int (lcmpW ((p1.toInt64) - (48 : Int64)) (0 : Int64)))])) _
      refine XS.ifYes X0.here hx rfl (pc0 := 10) (pc' := 25) rfl (hb hby at_10) rfl ((if0 _ _).trans (tlt (show (lcmpW ((p1.toInt64) - (48 : Int64)) (0 : Int64)) < (0 : Int32) from hc10)).1) (by decide) (by decide) ?_
      show Steps p.tables e below (s₁.setTop (mkF m 25 #[.val (.int p1), .val (.int p2), .val (.long ((p1.toInt64) - (48 : Int64))), .second, .unset, .unset, .unset, .unset] [])) _
      refine XS.iconst X0.here hx rfl (hb hby at_25) ?_
      have hval : ex = (0 : Int32) := by
        rw [hex]
        rw [own_l1] at hc10
        simp only [own_dig, if_pos hc10]
      subst hval
      exact kk_
    · show Steps p.tables e below (s₁.setTop (mkF m 10 #[.val (.int p1), .val (.int p2), .val (.long ((p1.toInt64) - (48 : Int64))), .second, .unset, .unset, .unset, .unset] [(.int (lcmpW ((p1.toInt64) - (48 : Int64)) (0 : Int64)))])) _
      refine XS.ifNo X0.here hx rfl (hb hby at_10) rfl ((if0 _ _).trans (flt (show ¬ ((lcmpW ((p1.toInt64) - (48 : Int64)) (0 : Int64)) < (0 : Int32)) from hc10)).1) ?_
      show Steps p.tables e below (s₁.setTop (mkF m 13 #[.val (.int p1), .val (.int p2), .val (.long ((p1.toInt64) - (48 : Int64))), .second, .unset, .unset, .unset, .unset] [])) _
      refine XS.lloadN X0.here hx rfl (hb hby at_13) rfl ?_
      show Steps p.tables e below (s₁.setTop (mkF m 14 #[.val (.int p1), .val (.int p2), .val (.long ((p1.toInt64) - (48 : Int64))), .second, .unset, .unset, .unset, .unset] [(.long ((p1.toInt64) - (48 : Int64)))])) _
      refine X0.ldc2Long hx hown (mvT hZ (hw _ (List.mem_of_getElem? (i := 7) rfl))) (g := (mkF m 14 #[.val (.int p1), .val (.int p2), .val (.long ((p1.toInt64) - (48 : Int64))), .second, .unset, .unset, .unset, .unset] [(.long ((p1.toInt64) - (48 : Int64)))])) rfl (hb hby at_14) _ ?_
      show Steps p.tables e below (s₁.setTop (mkF m 17 #[.val (.int p1), .val (.int p2), .val (.long ((p1.toInt64) - (48 : Int64))), .second, .unset, .unset, .unset, .unset] [(.long (9 : Int64)), (.long ((p1.toInt64) - (48 : Int64)))])) _
      refine XS.lcmp X0.here hx rfl (hb hby at_17) rfl ?_
      show Steps p.tables e below (s₁.setTop (mkF m 18 #[.val (.int p1), .val (.int p2), .val (.long ((p1.toInt64) - (48 : Int64))), .second, .unset, .unset, .unset, .unset] [(.int (lcmpW ((p1.toInt64) - (48 : Int64)) (9 : Int64)))])) _
      by_cases hc18 : (0 : Int32) < (lcmpW ((p1.toInt64) - (48 : Int64)) (9 : Int64))
      · show Steps p.tables e below (s₁.setTop (mkF m 18 #[.val (.int p1), .val (.int p2), .val (.long ((p1.toInt64) - (48 : Int64))), .second, .unset, .unset, .unset, .unset] [(.int (lcmpW ((p1.toInt64) - (48 : Int64)) (9 : Int64)))])) _
        refine XS.ifYes X0.here hx rfl (pc0 := 18) (pc' := 25) rfl (hb hby at_18) rfl ((if0 _ _).trans (tlt (show (0 : Int32) < (lcmpW ((p1.toInt64) - (48 : Int64)) (9 : Int64)) from hc18)).2.2.1) (by decide) (by decide) ?_
        show Steps p.tables e below (s₁.setTop (mkF m 25 #[.val (.int p1), .val (.int p2), .val (.long ((p1.toInt64) - (48 : Int64))), .second, .unset, .unset, .unset, .unset] [])) _
        refine XS.iconst X0.here hx rfl (hb hby at_25) ?_
        have hval : ex = (0 : Int32) := by
          rw [hex]
          rw [own_l1] at hc10
          rw [own_l2] at hc18
          simp only [own_dig, if_neg hc10, if_pos hc18]
        subst hval
        exact kk_
      · show Steps p.tables e below (s₁.setTop (mkF m 18 #[.val (.int p1), .val (.int p2), .val (.long ((p1.toInt64) - (48 : Int64))), .second, .unset, .unset, .unset, .unset] [(.int (lcmpW ((p1.toInt64) - (48 : Int64)) (9 : Int64)))])) _
        refine XS.ifNo X0.here hx rfl (hb hby at_18) rfl ((if0 _ _).trans (flt (show ¬ ((0 : Int32) < (lcmpW ((p1.toInt64) - (48 : Int64)) (9 : Int64))) from hc18)).2.2.1) ?_
        show Steps p.tables e below (s₁.setTop (mkF m 21 #[.val (.int p1), .val (.int p2), .val (.long ((p1.toInt64) - (48 : Int64))), .second, .unset, .unset, .unset, .unset] [])) _
        refine XS.iconst X0.here hx rfl (hb hby at_21) ?_
        show Steps p.tables e below (s₁.setTop (mkF m 22 #[.val (.int p1), .val (.int p2), .val (.long ((p1.toInt64) - (48 : Int64))), .second, .unset, .unset, .unset, .unset] [(.int (1 : Int32))])) _
        refine XS.goto X0.here hx rfl (pc0 := 22) (pc' := 26) rfl (hb hby at_22) (by decide) (by decide) ?_
        have hval : ex = (1 : Int32) := by
          rw [hex]
          rw [own_l1] at hc10
          rw [own_l2] at hc18
          simp only [own_dig, if_neg hc10, if_neg hc18]
        subst hval
        exact kk_
  have p_2' := p_2 (own_dig p1) rfl
  have p_3 : ∀ tg_, Steps p.tables e below (s₁.setTop (mkF m 29 #[.val (.int p1), .val (.int p2), .val (.long ((p1.toInt64) - (48 : Int64))), .second, .val (.int (own_dig p1)), .unset, .unset, .unset] [(.int p1)])) tg_ → Steps p.tables e below (s₁.setTop (entryFrame m #[(.int p1), (.int p2)] maxLocals)) tg_ := by
    intro tg_ kk_
    refine p_2' tg_ ?_
    show Steps p.tables e below (s₁.setTop (mkF m 26 #[.val (.int p1), .val (.int p2), .val (.long ((p1.toInt64) - (48 : Int64))), .second, .unset, .unset, .unset, .unset] [(.int (own_dig p1))])) _
    refine XS.istore X0.here hx rfl (hb hby at_26) rfl (l' := #[.val (.int p1), .val (.int p2), .val (.long ((p1.toInt64) - (48 : Int64))), .second, .val (.int (own_dig p1)), .unset, .unset, .unset]) rfl ?_
    show Steps p.tables e below (s₁.setTop (mkF m 28 #[.val (.int p1), .val (.int p2), .val (.long ((p1.toInt64) - (48 : Int64))), .second, .val (.int (own_dig p1)), .unset, .unset, .unset] [])) _
    refine XS.iloadN X0.here hx rfl (hb hby at_28) rfl ?_
    exact kk_
  have Z1_s₁ : n0 ≤ h0.size := Z0
  obtain ⟨_, _, ⟨T4, L4, k4, n4⟩, -, X4, ⟨Lc4, hQ4, l4, y4, z4⟩, st4⟩ := Jvm.LawKit.callS X0 hx (y := (⟨"com/example/vetch/vetch/term/CharClass", "isDigit", "(I)Z"⟩ : MethodName)) hown (mvT hZ (hw _ (List.mem_of_getElem? (i := 1) rfl))) (mvT hZ (hw _ (List.mem_of_getElem? (i := 2) rfl))) (mvT hZ (hw _ (List.mem_of_getElem? (i := 3) rfl))) (mvT hZ (hw _ (List.mem_of_getElem? (i := 4) rfl))) (by decide) (backOf (W := 0) (rm_dig l Z a0 hw [] p1 h0 n0 Z1_s₁) hZ (hw _ (List.mem_of_getElem? (i := 4) rfl)) (hw _ (List.mem_of_getElem? (i := 3) rfl)) (by decide) (by decide)) (g := (mkF m 29 #[.val (.int p1), .val (.int p2), .val (.long ((p1.toInt64) - (48 : Int64))), .second, .val (.int (own_dig p1)), .unset, .unset, .unset] [(.int p1)])) rfl (by rw [hml]; rfl) (argsL := [(.int p1)]) (rest := []) (lenOf pd_law_0 rfl) rfl (by show 2 * 0 + _ ≤ _; exact Nat.le_of_eq rfl) (hb hby at_29) (fun _ _ => ⟨rfl, e0, (by decide : 0 + 0 ≤ _), (by decide : 0 + 0 ≤ _)⟩)
  dsimp only [Pt.U, Pt.locs, Pt.cells, Pt.slots] at X4 l4 y4 z4 st4 hQ4
  subst l4 y4 z4
  obtain ⟨rfl, N4q, hh4⟩ := hQ4
  have N4 := Fr.app N0 N4q
  have p_5 : ∀ tg_, Steps p.tables e below (T4.setTop (mkF m 53 #[.val (.int p1), .val (.int p2), .val (.long ((p1.toInt64) - (48 : Int64))), .second, .val (.int (own_dig p1)), .val (.int ((p2 &&& (2147483647 : Int32)) % (10 : Int32))), .unset, .unset] [(.int ((48 : Int32) + ((p2 &&& (2147483647 : Int32)) % (10 : Int32))))])) tg_ → Steps p.tables e below (s₁.setTop (entryFrame m #[(.int p1), (.int p2)] maxLocals)) tg_ := by
    intro tg_ kk_
    refine p_3 tg_ ?_
    refine st4 _ ?_
    show Steps p.tables e below (T4.setTop (mkF m 32 #[.val (.int p1), .val (.int p2), .val (.long ((p1.toInt64) - (48 : Int64))), .second, .val (.int (own_dig p1)), .unset, .unset, .unset] [(.int (own_dig p1))])) _
    refine XS.iload X4.here hx rfl (hb hby at_32) rfl ?_
    show Steps p.tables e below (T4.setTop (mkF m 34 #[.val (.int p1), .val (.int p2), .val (.long ((p1.toInt64) - (48 : Int64))), .second, .val (.int (own_dig p1)), .unset, .unset, .unset] [(.int (own_dig p1)), (.int (own_dig p1))])) _
    refine XS.icmpYes X4.here hx rfl (pc0 := 34) (pc' := 39) rfl (hb hby at_34) rfl (teq (show (own_dig p1) = (own_dig p1) from rfl)).1 (by decide) (by decide) ?_
    show Steps p.tables e below (T4.setTop (mkF m 39 #[.val (.int p1), .val (.int p2), .val (.long ((p1.toInt64) - (48 : Int64))), .second, .val (.int (own_dig p1)), .unset, .unset, .unset] [])) _
    refine XS.iloadN X4.here hx rfl (hb hby at_39) rfl ?_
    show Steps p.tables e below (T4.setTop (mkF m 40 #[.val (.int p1), .val (.int p2), .val (.long ((p1.toInt64) - (48 : Int64))), .second, .val (.int (own_dig p1)), .unset, .unset, .unset] [(.int p2)])) _
    refine X4.ldcInt hx hown (mvT hZ (hw _ (List.mem_of_getElem? (i := 5) rfl))) (g := (mkF m 40 #[.val (.int p1), .val (.int p2), .val (.long ((p1.toInt64) - (48 : Int64))), .second, .val (.int (own_dig p1)), .unset, .unset, .unset] [(.int p2)])) rfl (hb hby at_40) _ ?_
    show Steps p.tables e below (T4.setTop (mkF m 42 #[.val (.int p1), .val (.int p2), .val (.long ((p1.toInt64) - (48 : Int64))), .second, .val (.int (own_dig p1)), .unset, .unset, .unset] [(.int (2147483647 : Int32)), (.int p2)])) _
    refine XS.iand X4.here hx rfl (hb hby at_42) rfl ?_
    show Steps p.tables e below (T4.setTop (mkF m 43 #[.val (.int p1), .val (.int p2), .val (.long ((p1.toInt64) - (48 : Int64))), .second, .val (.int (own_dig p1)), .unset, .unset, .unset] [(.int (p2 &&& (2147483647 : Int32)))])) _
    refine XS.bipush X4.here hx rfl (hb hby at_43) ?_
    show Steps p.tables e below (T4.setTop (mkF m 45 #[.val (.int p1), .val (.int p2), .val (.long ((p1.toInt64) - (48 : Int64))), .second, .val (.int (own_dig p1)), .unset, .unset, .unset] [(.int (10 : Int32)), (.int (p2 &&& (2147483647 : Int32)))])) _
    refine XS.irem X4.here hx rfl (hb hby at_45) rfl (by decide) ?_
    rw [own_irem (p2 &&& (2147483647 : Int32)) (10 : Int32)]
    show Steps p.tables e below (T4.setTop (mkF m 46 #[.val (.int p1), .val (.int p2), .val (.long ((p1.toInt64) - (48 : Int64))), .second, .val (.int (own_dig p1)), .unset, .unset, .unset] [(.int ((p2 &&& (2147483647 : Int32)) % (10 : Int32)))])) _
    refine XS.istore X4.here hx rfl (hb hby at_46) rfl (l' := #[.val (.int p1), .val (.int p2), .val (.long ((p1.toInt64) - (48 : Int64))), .second, .val (.int (own_dig p1)), .val (.int ((p2 &&& (2147483647 : Int32)) % (10 : Int32))), .unset, .unset]) rfl ?_
    show Steps p.tables e below (T4.setTop (mkF m 48 #[.val (.int p1), .val (.int p2), .val (.long ((p1.toInt64) - (48 : Int64))), .second, .val (.int (own_dig p1)), .val (.int ((p2 &&& (2147483647 : Int32)) % (10 : Int32))), .unset, .unset] [])) _
    refine XS.bipush X4.here hx rfl (hb hby at_48) ?_
    show Steps p.tables e below (T4.setTop (mkF m 50 #[.val (.int p1), .val (.int p2), .val (.long ((p1.toInt64) - (48 : Int64))), .second, .val (.int (own_dig p1)), .val (.int ((p2 &&& (2147483647 : Int32)) % (10 : Int32))), .unset, .unset] [(.int (48 : Int32))])) _
    refine XS.iload X4.here hx rfl (hb hby at_50) rfl ?_
    show Steps p.tables e below (T4.setTop (mkF m 52 #[.val (.int p1), .val (.int p2), .val (.long ((p1.toInt64) - (48 : Int64))), .second, .val (.int (own_dig p1)), .val (.int ((p2 &&& (2147483647 : Int32)) % (10 : Int32))), .unset, .unset] [(.int ((p2 &&& (2147483647 : Int32)) % (10 : Int32))), (.int (48 : Int32))])) _
    refine XS.iadd X4.here hx rfl (hb hby at_52) rfl ?_
    exact kk_
  have Z1_T4 : n0 ≤ T4.heap.size := by rw [hh4]; exact Z1_s₁
  obtain ⟨_, _, ⟨T6, L6, k6, n6⟩, -, X6, ⟨Lc6, hQ6, l6, y6, z6⟩, st6⟩ := Jvm.LawKit.callS X4 hx (y := (⟨"com/example/vetch/vetch/term/CharClass", "isDigit", "(I)Z"⟩ : MethodName)) hown (mvT hZ (hw _ (List.mem_of_getElem? (i := 1) rfl))) (mvT hZ (hw _ (List.mem_of_getElem? (i := 2) rfl))) (mvT hZ (hw _ (List.mem_of_getElem? (i := 3) rfl))) (mvT hZ (hw _ (List.mem_of_getElem? (i := 4) rfl))) (by decide) (backOf (W := 0) (rm_dig l Z a0 hw [] ((48 : Int32) + ((p2 &&& (2147483647 : Int32)) % (10 : Int32))) T4.heap n0 Z1_T4) hZ (hw _ (List.mem_of_getElem? (i := 4) rfl)) (hw _ (List.mem_of_getElem? (i := 3) rfl)) (by decide) (by decide)) (g := (mkF m 53 #[.val (.int p1), .val (.int p2), .val (.long ((p1.toInt64) - (48 : Int64))), .second, .val (.int (own_dig p1)), .val (.int ((p2 &&& (2147483647 : Int32)) % (10 : Int32))), .unset, .unset] [(.int ((48 : Int32) + ((p2 &&& (2147483647 : Int32)) % (10 : Int32))))])) rfl (by rw [hml]; rfl) (argsL := [(.int ((48 : Int32) + ((p2 &&& (2147483647 : Int32)) % (10 : Int32))))]) (rest := []) (lenOf pd_law_0 rfl) rfl (by show 2 * 0 + _ ≤ _; exact Nat.le_of_eq rfl) (hb hby at_53) (fun _ _ => ⟨rfl, rfl, (by decide : 0 + 0 ≤ _), (by decide : 0 + 0 ≤ _)⟩)
  dsimp only [Pt.U, Pt.locs, Pt.cells, Pt.slots] at X6 l6 y6 z6 st6 hQ6
  subst l6 y6 z6
  obtain ⟨rfl, N6q, hh6⟩ := hQ6
  have N6 := Fr.app N4 N6q
  have p_7 : ∀ tg_, Steps p.tables e below (T6.setTop (mkF m 72 #[.val (.int p1), .val (.int p2), .val (.long ((p1.toInt64) - (48 : Int64))), .second, .val (.int (own_dig p1)), .val (.int ((p2 &&& (2147483647 : Int32)) % (10 : Int32))), .val (.int ((47 : Int32) - (p2 &&& (2147483647 : Int32)))), .unset] [(.int ((47 : Int32) - (p2 &&& (2147483647 : Int32))))])) tg_ → Steps p.tables e below (s₁.setTop (entryFrame m #[(.int p1), (.int p2)] maxLocals)) tg_ := by
    intro tg_ kk_
    refine p_5 tg_ ?_
    refine st6 _ ?_
    show Steps p.tables e below (T6.setTop (mkF m 56 #[.val (.int p1), .val (.int p2), .val (.long ((p1.toInt64) - (48 : Int64))), .second, .val (.int (own_dig p1)), .val (.int ((p2 &&& (2147483647 : Int32)) % (10 : Int32))), .unset, .unset] [(.int (own_dig ((48 : Int32) + ((p2 &&& (2147483647 : Int32)) % (10 : Int32)))))])) _
    refine XS.ifYes X6.here hx rfl (pc0 := 56) (pc' := 61) rfl (hb hby at_56) rfl ((if0 _ _).trans (feq (show ¬ ((own_dig ((48 : Int32) + ((p2 &&& (2147483647 : Int32)) % (10 : Int32)))) = (0 : Int32)) from (by rw [own_d]; decide))).2) (by decide) (by decide) ?_
    show Steps p.tables e below (T6.setTop (mkF m 61 #[.val (.int p1), .val (.int p2), .val (.long ((p1.toInt64) - (48 : Int64))), .second, .val (.int (own_dig p1)), .val (.int ((p2 &&& (2147483647 : Int32)) % (10 : Int32))), .unset, .unset] [])) _
    refine XS.bipush X6.here hx rfl (hb hby at_61) ?_
    show Steps p.tables e below (T6.setTop (mkF m 63 #[.val (.int p1), .val (.int p2), .val (.long ((p1.toInt64) - (48 : Int64))), .second, .val (.int (own_dig p1)), .val (.int ((p2 &&& (2147483647 : Int32)) % (10 : Int32))), .unset, .unset] [(.int (47 : Int32))])) _
    refine XS.iloadN X6.here hx rfl (hb hby at_63) rfl ?_
    show Steps p.tables e below (T6.setTop (mkF m 64 #[.val (.int p1), .val (.int p2), .val (.long ((p1.toInt64) - (48 : Int64))), .second, .val (.int (own_dig p1)), .val (.int ((p2 &&& (2147483647 : Int32)) % (10 : Int32))), .unset, .unset] [(.int p2), (.int (47 : Int32))])) _
    refine X6.ldcInt hx hown (mvT hZ (hw _ (List.mem_of_getElem? (i := 5) rfl))) (g := (mkF m 64 #[.val (.int p1), .val (.int p2), .val (.long ((p1.toInt64) - (48 : Int64))), .second, .val (.int (own_dig p1)), .val (.int ((p2 &&& (2147483647 : Int32)) % (10 : Int32))), .unset, .unset] [(.int p2), (.int (47 : Int32))])) rfl (hb hby at_64) _ ?_
    show Steps p.tables e below (T6.setTop (mkF m 66 #[.val (.int p1), .val (.int p2), .val (.long ((p1.toInt64) - (48 : Int64))), .second, .val (.int (own_dig p1)), .val (.int ((p2 &&& (2147483647 : Int32)) % (10 : Int32))), .unset, .unset] [(.int (2147483647 : Int32)), (.int p2), (.int (47 : Int32))])) _
    refine XS.iand X6.here hx rfl (hb hby at_66) rfl ?_
    show Steps p.tables e below (T6.setTop (mkF m 67 #[.val (.int p1), .val (.int p2), .val (.long ((p1.toInt64) - (48 : Int64))), .second, .val (.int (own_dig p1)), .val (.int ((p2 &&& (2147483647 : Int32)) % (10 : Int32))), .unset, .unset] [(.int (p2 &&& (2147483647 : Int32))), (.int (47 : Int32))])) _
    refine XS.isub X6.here hx rfl (hb hby at_67) rfl ?_
    show Steps p.tables e below (T6.setTop (mkF m 68 #[.val (.int p1), .val (.int p2), .val (.long ((p1.toInt64) - (48 : Int64))), .second, .val (.int (own_dig p1)), .val (.int ((p2 &&& (2147483647 : Int32)) % (10 : Int32))), .unset, .unset] [(.int ((47 : Int32) - (p2 &&& (2147483647 : Int32))))])) _
    refine XS.istore X6.here hx rfl (hb hby at_68) rfl (l' := #[.val (.int p1), .val (.int p2), .val (.long ((p1.toInt64) - (48 : Int64))), .second, .val (.int (own_dig p1)), .val (.int ((p2 &&& (2147483647 : Int32)) % (10 : Int32))), .val (.int ((47 : Int32) - (p2 &&& (2147483647 : Int32)))), .unset]) rfl ?_
    show Steps p.tables e below (T6.setTop (mkF m 70 #[.val (.int p1), .val (.int p2), .val (.long ((p1.toInt64) - (48 : Int64))), .second, .val (.int (own_dig p1)), .val (.int ((p2 &&& (2147483647 : Int32)) % (10 : Int32))), .val (.int ((47 : Int32) - (p2 &&& (2147483647 : Int32)))), .unset] [])) _
    refine XS.iload X6.here hx rfl (hb hby at_70) rfl ?_
    exact kk_
  have Z1_T6 : n0 ≤ T6.heap.size := by rw [hh6]; exact Z1_T4
  obtain ⟨_, _, ⟨T8, L8, k8, n8⟩, -, X8, ⟨Lc8, hQ8, l8, y8, z8⟩, st8⟩ := Jvm.LawKit.callS X6 hx (y := (⟨"com/example/vetch/vetch/term/CharClass", "isDigit", "(I)Z"⟩ : MethodName)) hown (mvT hZ (hw _ (List.mem_of_getElem? (i := 1) rfl))) (mvT hZ (hw _ (List.mem_of_getElem? (i := 2) rfl))) (mvT hZ (hw _ (List.mem_of_getElem? (i := 3) rfl))) (mvT hZ (hw _ (List.mem_of_getElem? (i := 4) rfl))) (by decide) (backOf (W := 0) (rm_dig l Z a0 hw [] ((47 : Int32) - (p2 &&& (2147483647 : Int32))) T6.heap n0 Z1_T6) hZ (hw _ (List.mem_of_getElem? (i := 4) rfl)) (hw _ (List.mem_of_getElem? (i := 3) rfl)) (by decide) (by decide)) (g := (mkF m 72 #[.val (.int p1), .val (.int p2), .val (.long ((p1.toInt64) - (48 : Int64))), .second, .val (.int (own_dig p1)), .val (.int ((p2 &&& (2147483647 : Int32)) % (10 : Int32))), .val (.int ((47 : Int32) - (p2 &&& (2147483647 : Int32)))), .unset] [(.int ((47 : Int32) - (p2 &&& (2147483647 : Int32))))])) rfl (by rw [hml]; rfl) (argsL := [(.int ((47 : Int32) - (p2 &&& (2147483647 : Int32))))]) (rest := []) (lenOf pd_law_0 rfl) rfl (by show 2 * 0 + _ ≤ _; exact Nat.le_of_eq rfl) (hb hby at_72) (fun _ _ => ⟨rfl, rfl, (by decide : 0 + 0 ≤ _), (by decide : 0 + 0 ≤ _)⟩)
  dsimp only [Pt.U, Pt.locs, Pt.cells, Pt.slots] at X8 l8 y8 z8 st8 hQ8
  subst l8 y8 z8
  obtain ⟨rfl, N8q, hh8⟩ := hQ8
  have N8 := Fr.app N6 N8q
  have p_9 : ∀ tg_, Steps p.tables e below (T8.setTop (mkF m 91 #[.val (.int p1), .val (.int p2), .val (.long ((p1.toInt64) - (48 : Int64))), .second, .val (.int (own_dig p1)), .val (.int ((p2 &&& (2147483647 : Int32)) % (10 : Int32))), .val (.int ((47 : Int32) - (p2 &&& (2147483647 : Int32)))), .val (.int ((58 : Int32) + (p2 &&& (1073741823 : Int32))))] [(.int ((58 : Int32) + (p2 &&& (1073741823 : Int32))))])) tg_ → Steps p.tables e below (s₁.setTop (entryFrame m #[(.int p1), (.int p2)] maxLocals)) tg_ := by
    intro tg_ kk_
    refine p_7 tg_ ?_
    refine st8 _ ?_
    show Steps p.tables e below (T8.setTop (mkF m 75 #[.val (.int p1), .val (.int p2), .val (.long ((p1.toInt64) - (48 : Int64))), .second, .val (.int (own_dig p1)), .val (.int ((p2 &&& (2147483647 : Int32)) % (10 : Int32))), .val (.int ((47 : Int32) - (p2 &&& (2147483647 : Int32)))), .unset] [(.int (own_dig ((47 : Int32) - (p2 &&& (2147483647 : Int32)))))])) _
    refine XS.ifYes X8.here hx rfl (pc0 := 75) (pc' := 80) rfl (hb hby at_75) rfl ((if0 _ _).trans (teq (show (own_dig ((47 : Int32) - (p2 &&& (2147483647 : Int32)))) = (0 : Int32) from (own_b p2))).1) (by decide) (by decide) ?_
    show Steps p.tables e below (T8.setTop (mkF m 80 #[.val (.int p1), .val (.int p2), .val (.long ((p1.toInt64) - (48 : Int64))), .second, .val (.int (own_dig p1)), .val (.int ((p2 &&& (2147483647 : Int32)) % (10 : Int32))), .val (.int ((47 : Int32) - (p2 &&& (2147483647 : Int32)))), .unset] [])) _
    refine XS.bipush X8.here hx rfl (hb hby at_80) ?_
    show Steps p.tables e below (T8.setTop (mkF m 82 #[.val (.int p1), .val (.int p2), .val (.long ((p1.toInt64) - (48 : Int64))), .second, .val (.int (own_dig p1)), .val (.int ((p2 &&& (2147483647 : Int32)) % (10 : Int32))), .val (.int ((47 : Int32) - (p2 &&& (2147483647 : Int32)))), .unset] [(.int (58 : Int32))])) _
    refine XS.iloadN X8.here hx rfl (hb hby at_82) rfl ?_
    show Steps p.tables e below (T8.setTop (mkF m 83 #[.val (.int p1), .val (.int p2), .val (.long ((p1.toInt64) - (48 : Int64))), .second, .val (.int (own_dig p1)), .val (.int ((p2 &&& (2147483647 : Int32)) % (10 : Int32))), .val (.int ((47 : Int32) - (p2 &&& (2147483647 : Int32)))), .unset] [(.int p2), (.int (58 : Int32))])) _
    refine X8.ldcInt hx hown (mvT hZ (hw _ (List.mem_of_getElem? (i := 6) rfl))) (g := (mkF m 83 #[.val (.int p1), .val (.int p2), .val (.long ((p1.toInt64) - (48 : Int64))), .second, .val (.int (own_dig p1)), .val (.int ((p2 &&& (2147483647 : Int32)) % (10 : Int32))), .val (.int ((47 : Int32) - (p2 &&& (2147483647 : Int32)))), .unset] [(.int p2), (.int (58 : Int32))])) rfl (hb hby at_83) _ ?_
    show Steps p.tables e below (T8.setTop (mkF m 85 #[.val (.int p1), .val (.int p2), .val (.long ((p1.toInt64) - (48 : Int64))), .second, .val (.int (own_dig p1)), .val (.int ((p2 &&& (2147483647 : Int32)) % (10 : Int32))), .val (.int ((47 : Int32) - (p2 &&& (2147483647 : Int32)))), .unset] [(.int (1073741823 : Int32)), (.int p2), (.int (58 : Int32))])) _
    refine XS.iand X8.here hx rfl (hb hby at_85) rfl ?_
    show Steps p.tables e below (T8.setTop (mkF m 86 #[.val (.int p1), .val (.int p2), .val (.long ((p1.toInt64) - (48 : Int64))), .second, .val (.int (own_dig p1)), .val (.int ((p2 &&& (2147483647 : Int32)) % (10 : Int32))), .val (.int ((47 : Int32) - (p2 &&& (2147483647 : Int32)))), .unset] [(.int (p2 &&& (1073741823 : Int32))), (.int (58 : Int32))])) _
    refine XS.iadd X8.here hx rfl (hb hby at_86) rfl ?_
    show Steps p.tables e below (T8.setTop (mkF m 87 #[.val (.int p1), .val (.int p2), .val (.long ((p1.toInt64) - (48 : Int64))), .second, .val (.int (own_dig p1)), .val (.int ((p2 &&& (2147483647 : Int32)) % (10 : Int32))), .val (.int ((47 : Int32) - (p2 &&& (2147483647 : Int32)))), .unset] [(.int ((58 : Int32) + (p2 &&& (1073741823 : Int32))))])) _
    refine XS.istore X8.here hx rfl (hb hby at_87) rfl (l' := #[.val (.int p1), .val (.int p2), .val (.long ((p1.toInt64) - (48 : Int64))), .second, .val (.int (own_dig p1)), .val (.int ((p2 &&& (2147483647 : Int32)) % (10 : Int32))), .val (.int ((47 : Int32) - (p2 &&& (2147483647 : Int32)))), .val (.int ((58 : Int32) + (p2 &&& (1073741823 : Int32))))]) rfl ?_
    show Steps p.tables e below (T8.setTop (mkF m 89 #[.val (.int p1), .val (.int p2), .val (.long ((p1.toInt64) - (48 : Int64))), .second, .val (.int (own_dig p1)), .val (.int ((p2 &&& (2147483647 : Int32)) % (10 : Int32))), .val (.int ((47 : Int32) - (p2 &&& (2147483647 : Int32)))), .val (.int ((58 : Int32) + (p2 &&& (1073741823 : Int32))))] [])) _
    refine XS.iload X8.here hx rfl (hb hby at_89) rfl ?_
    exact kk_
  have Z1_T8 : n0 ≤ T8.heap.size := by rw [hh8]; exact Z1_T6
  obtain ⟨_, _, ⟨T10, L10, k10, n10⟩, -, X10, ⟨Lc10, hQ10, l10, y10, z10⟩, st10⟩ := Jvm.LawKit.callS X8 hx (y := (⟨"com/example/vetch/vetch/term/CharClass", "isDigit", "(I)Z"⟩ : MethodName)) hown (mvT hZ (hw _ (List.mem_of_getElem? (i := 1) rfl))) (mvT hZ (hw _ (List.mem_of_getElem? (i := 2) rfl))) (mvT hZ (hw _ (List.mem_of_getElem? (i := 3) rfl))) (mvT hZ (hw _ (List.mem_of_getElem? (i := 4) rfl))) (by decide) (backOf (W := 0) (rm_dig l Z a0 hw [] ((58 : Int32) + (p2 &&& (1073741823 : Int32))) T8.heap n0 Z1_T8) hZ (hw _ (List.mem_of_getElem? (i := 4) rfl)) (hw _ (List.mem_of_getElem? (i := 3) rfl)) (by decide) (by decide)) (g := (mkF m 91 #[.val (.int p1), .val (.int p2), .val (.long ((p1.toInt64) - (48 : Int64))), .second, .val (.int (own_dig p1)), .val (.int ((p2 &&& (2147483647 : Int32)) % (10 : Int32))), .val (.int ((47 : Int32) - (p2 &&& (2147483647 : Int32)))), .val (.int ((58 : Int32) + (p2 &&& (1073741823 : Int32))))] [(.int ((58 : Int32) + (p2 &&& (1073741823 : Int32))))])) rfl (by rw [hml]; rfl) (argsL := [(.int ((58 : Int32) + (p2 &&& (1073741823 : Int32))))]) (rest := []) (lenOf pd_law_0 rfl) rfl (by show 2 * 0 + _ ≤ _; exact Nat.le_of_eq rfl) (hb hby at_91) (fun _ _ => ⟨rfl, rfl, (by decide : 0 + 0 ≤ _), (by decide : 0 + 0 ≤ _)⟩)
  dsimp only [Pt.U, Pt.locs, Pt.cells, Pt.slots] at X10 l10 y10 z10 st10 hQ10
  subst l10 y10 z10
  obtain ⟨rfl, N10q, hh10⟩ := hQ10
  have N10 := Fr.app N8 N10q
  have p_11 : ∀ tg_, Steps p.tables e below (T10.setTop (mkF m 100 #[.val (.int p1), .val (.int p2), .val (.long ((p1.toInt64) - (48 : Int64))), .second, .val (.int (own_dig p1)), .val (.int ((p2 &&& (2147483647 : Int32)) % (10 : Int32))), .val (.int ((47 : Int32) - (p2 &&& (2147483647 : Int32)))), .val (.int ((58 : Int32) + (p2 &&& (1073741823 : Int32))))] [(.int (1 : Int32))])) tg_ → Steps p.tables e below (s₁.setTop (entryFrame m #[(.int p1), (.int p2)] maxLocals)) tg_ := by
    intro tg_ kk_
    refine p_9 tg_ ?_
    refine st10 _ ?_
    show Steps p.tables e below (T10.setTop (mkF m 94 #[.val (.int p1), .val (.int p2), .val (.long ((p1.toInt64) - (48 : Int64))), .second, .val (.int (own_dig p1)), .val (.int ((p2 &&& (2147483647 : Int32)) % (10 : Int32))), .val (.int ((47 : Int32) - (p2 &&& (2147483647 : Int32)))), .val (.int ((58 : Int32) + (p2 &&& (1073741823 : Int32))))] [(.int (own_dig ((58 : Int32) + (p2 &&& (1073741823 : Int32)))))])) _
    refine XS.ifYes X10.here hx rfl (pc0 := 94) (pc' := 99) rfl (hb hby at_94) rfl ((if0 _ _).trans (teq (show (own_dig ((58 : Int32) + (p2 &&& (1073741823 : Int32)))) = (0 : Int32) from (own_a p2))).1) (by decide) (by decide) ?_
    show Steps p.tables e below (T10.setTop (mkF m 99 #[.val (.int p1), .val (.int p2), .val (.long ((p1.toInt64) - (48 : Int64))), .second, .val (.int (own_dig p1)), .val (.int ((p2 &&& (2147483647 : Int32)) % (10 : Int32))), .val (.int ((47 : Int32) - (p2 &&& (2147483647 : Int32)))), .val (.int ((58 : Int32) + (p2 &&& (1073741823 : Int32))))] [])) _
    refine XS.iconst X10.here hx rfl (hb hby at_99) ?_
    exact kk_
  obtain ⟨fs, hr, hrun, hended, hW, hsame⟩ := X10.leave (v := some (.int (1 : Int32))) (fun h => by rw [Bd.returns] at h; cases h)
  refine ⟨_, _, p_11 _ ?_, hrun, hended, _, _, rfl, ?_, ⟨_, rfl⟩, hW, hsame.mono (by decide) (by decide)⟩
  · show Steps p.tables e below (T10.setTop (mkF m 100 #[.val (.int p1), .val (.int p2), .val (.long ((p1.toInt64) - (48 : Int64))), .second, .val (.int (own_dig p1)), .val (.int ((p2 &&& (2147483647 : Int32)) % (10 : Int32))), .val (.int ((47 : Int32) - (p2 &&& (2147483647 : Int32)))), .val (.int ((58 : Int32) + (p2 &&& (1073741823 : Int32))))] [(.int (1 : Int32))])) _
    exact retN X10 hx (t := .boolean) Bd.returns (by simp) (hb hby at_100) hr
  · show Q_law Z p1 p2 h0 n0 _ T10.heap _
    exact ⟨rfl, N10⟩
set_option maxRecDepth 65536 in
set_option maxHeartbeats 40000000 in
theorem comes_1 {Post : Tables → Env → Array Value → State → Outcome → State → Prop} (hpost : ∀ tb e args s v u, (limb_1_1.after args s (.returned v) u = true ∧ limb_1_2.after args s (.returned v) u = true ∧ True) → FrameEnd s (.returned v) u (Jvm.fieldLocs frame_1_writes args s ++ Jvm.arrayLocs frame_1_arrays args s ++ Jvm.staticLocs frame_1_statics s) 0 0 → Post tb e args s (.returned v) u) :
    ArmFor flags0 classFile x code maxLocals ret World_1 tables_1 room_1 Calls_1 rest_1 Pre_1 Post := by
  intro l hfl _ _ p e ha hc hk s m args below hf hA hF happ hP
  obtain ⟨hcalls, hrest, hpre⟩ := hP
  obtain ⟨-, -, -, hnamed, -, -, -, hat⟩ := (Spec.applies_iff hf).mp happ
  obtain ⟨hg, hn⟩ := and_e (Cond.before_iff.mp (show (Jvm.Cond.and given_1 narrow_1).before args s = true from hpre))
  obtain ⟨hcnt, hr0⟩ := and_e hg
  obtain ⟨ha0, hr1⟩ := and_e hr0
  have ha1 := hr1
  obtain ⟨w0, w1, rfl⟩ : ∃ w0 w1 : Value, args = #[w0, w1] := by
    have hs : args.size = 2 := by simpa [Cond.value, given_1] using hcnt
    obtain ⟨L⟩ := args
    match L, hs with
    | [w0, w1], _ => exact ⟨w0, w1, rfl⟩
  have hw := fun d (hd : d ∈ tables_1) => atoms_spec (ws := Jvm.Cond.code x code maxLocals ret :: tables_1) hat d (List.mem_cons_of_mem _ hd)
  have hfit : Fit s := fun {y c} hc i hi => by
    obtain ⟨ha, rfl⟩ := Array.getElem?_eq_some_iff.mp hc
    have q := List.all_eq_true.mp ((Array.all_eq_true_iff_forall_mem.mp hF) _ (Array.getElem_mem ha)) i (List.mem_range.mpr hi)
    simpa [Array.getElem?_eq_getElem hi] using q
  obtain ⟨i0, e0⟩ := is_v ha0
  obtain rfl : w0 = (.int i0) := Option.some.inj e0
  obtain ⟨i1, e1⟩ := is_v ha1
  obtain rfl : w1 = (.int i1) := Option.some.inj e1
  obtain ⟨n, o, h1, h2, h3, _, L, rfl, ⟨rfl, N⟩, hq⟩ := rm_law l s _ hw tables_1 i0 i1 s.heap s.heap.size (Nat.le_refl _) p e ha hc hk s m _ below hf ((Spec.applies_iff_loose hf).mp happ).1 ⟨rfl, State.Warmed39.refl s, rfl⟩ trivial
  refine ⟨n, _, h1, h2, h3, hpost _ _ _ _ _ _ ⟨Cond.after_iff.mpr rfl, Cond.after_iff.mpr (eq_i res_at (Term.int_eval (1)) rfl), trivial⟩ ⟨hq.1, hq.2.1, (hq.2.2.sift fun y hy => Or.inr (N y hy)).mono (by decide) (by decide)⟩⟩
theorem main_1_1 : Claimed_1_1 := comes_1 fun _ _ _ _ _ _ h hF => ⟨h.1, hF⟩
theorem main_1_2 : Claimed_1_2 := comes_1 fun _ _ _ _ _ _ h hF => ⟨h.2.1, hF⟩
end Jvm.Pilot.@@N@@
namespace Jvm.Pilot.@@N@@
open Jvm Jvm.ClassFile Sem Op Lib Jvm.Free Jvm.Stand Jvm.Pilot.@@N@@.Jvm.D
/-! MADE BY PROGRAM (witnessworld.py) out of the Statement's table words and the real class files: 7 classes; the members and pool entries that the words name. The judged class is class 1, her method 1. -/
namespace start1
open Jvm.ClassFile
def u (s : String) : CpInfo := .utf8 (stringToUtf16 s)
/-- a pool by its gaps: so many unusable entries, then the entry; so many at the end -/
def gap : Nat → List CpInfo → List CpInfo
  | 0, r => r
  | n + 1, r => .unusable :: gap n r
def poolList (es : List (Nat × CpInfo)) (last : Nat) : List CpInfo := es.foldr (fun e r => gap e.1 (e.2 :: r)) (gap last [])
def pool (es : List (Nat × CpInfo)) (last : Nat) : Array CpInfo := ⟨poolList es last⟩
def fileOf (pool : Array CpInfo) (this : Nat) (attrs : Array Attribute := #[]) (ms : Array MethodInfo := #[]) (fl : Nat := 33) (sup : Nat := 0) (ifs : Array Nat := #[]) (fds : Array FieldInfo := #[]) : ClassFile where
  minorVersion := 0
  majorVersion := 65
  constantPool := pool
  accessFlags := fl
  thisClass := this
  superClass := sup
  interfaces := ifs
  fields := fds
  methods := ms
  attributes := attrs
def plain (name : String) (sup : Option ClassId) : Class where
  name := name
  kind := .ordinary
  loader := none
  accessFlags := 33
  super := sup
  interfaces := #[]
  cf := none
  fields := #[]
  methods := #[]
  instanceTypes := #[]
  staticTypes := #[]
  resolved := #[]
  callSites := []
  init := .initialized
  statics := none
  mirror := none

def pool0 : Array CpInfo := pool [(5, u "<init>"), (0, u "()V"), (1, .class_ 10), (1, u "java/lang/Object")] 113

def k0m0 : Method := { name := "<init>", desc := "()V", sig := { parameters := [], returnType := none }, accessFlags := 1, code := none }
/-- java/lang/Object -/
def k0 : Class := { plain "java/lang/Object" none with
  accessFlags := 33
  interfaces := #[]
  cf := some (fileOf pool0 8 #[] #[{ accessFlags := 1, nameIndex := 5, descriptorIndex := 6, attributes := #[] }] 33 0 #[] #[])
  fields := #[]
  methods := #[k0m0]
  instanceTypes := #[]
  staticTypes := #[]
  resolved := Array.replicate 124 none
  statics := none }

def pool1 : Array CpInfo := pool [(2, .class_ 4), (1, u "java/lang/Object"), (0, u "<init>"), (0, u "()V"), (0, .long 48), (1, .long 9), (1, .methodref 12 13), (0, .class_ 14), (0, .nameAndType 15 16), (0, u "com/example/vetch/vetch/term/CharClass"), (0, u "isDigit"), (0, u "(I)Z"), (0, .integer 2147483647), (0, .integer 1073741823), (0, .class_ 20), (0, u "com/example/vetch/vetch/term/CharClassIsDigitPinLaw"), (2, u "law"), (0, u "(II)Z")] 3

def k1m0 : Method := { name := "<init>", desc := "()V", sig := { parameters := [], returnType := none }, accessFlags := 2, code := none }
def k1c1 : Code := { maxStack := 4, maxLocals := 8, code := code, exceptionTable := #[], attributes := #[] }
def k1m1 : Method := { name := "law", desc := "(II)Z", sig := { parameters := [.int, .int], returnType := some .boolean }, accessFlags := 9, code := some k1c1 }
/-- com/example/vetch/vetch/term/CharClassIsDigitPinLaw -/
def k1 : Class := { plain "com/example/vetch/vetch/term/CharClassIsDigitPinLaw" (some 0) with
  accessFlags := 49
  interfaces := #[]
  cf := some (fileOf pool1 19 #[] #[{ accessFlags := 2, nameIndex := 5, descriptorIndex := 6, attributes := #[] }, { accessFlags := 9, nameIndex := 23, descriptorIndex := 24, attributes := #[] }] 49 2 #[] #[])
  fields := #[]
  methods := #[k1m0, k1m1]
  instanceTypes := #[]
  staticTypes := #[]
  resolved := Array.replicate 28 none
  statics := none }

def pool2 : Array CpInfo := pool [(2, .class_ 4), (1, u "java/lang/Object"), (0, u "<init>"), (0, u "()V"), (5, u "(I)Z"), (1, .class_ 16), (1, u "com/example/vetch/vetch/term/CharClass"), (32, u "GRAPHIC"), (0, u "Ljava/lang/String;"), (1, u "ESCAPE_LETTERS"), (0, u "CONTROLS"), (5, u "isDigit")] 6

def k2m0 : Method := { name := "<init>", desc := "()V", sig := { parameters := [], returnType := none }, accessFlags := 2, code := none }
def k2c1 : Code := { maxStack := 2, maxLocals := 1, code := prog_59_method_5_code, exceptionTable := #[], attributes := #[] }
def k2m1 : Method := { name := "isDigit", desc := "(I)Z", sig := { parameters := [.int], returnType := some .boolean }, accessFlags := 9, code := some k2c1 }
/-- com/example/vetch/vetch/term/CharClass -/
def k2 : Class := { plain "com/example/vetch/vetch/term/CharClass" (some 0) with
  accessFlags := 49
  interfaces := #[]
  cf := some (fileOf pool2 14 #[] #[{ accessFlags := 2, nameIndex := 5, descriptorIndex := 6, attributes := #[] }, { accessFlags := 9, nameIndex := 59, descriptorIndex := 12, attributes := #[] }] 49 2 #[] #[{ accessFlags := 26, nameIndex := 49, descriptorIndex := 50, attributes := #[] }, { accessFlags := 26, nameIndex := 52, descriptorIndex := 50, attributes := #[] }, { accessFlags := 26, nameIndex := 53, descriptorIndex := 50, attributes := #[] }])
  fields := #[{ name := "GRAPHIC", type := (.object "java/lang/String"), accessFlags := 26, slot := 0, constantValue := 0 }, { name := "ESCAPE_LETTERS", type := (.object "java/lang/String"), accessFlags := 26, slot := 1, constantValue := 0 }, { name := "CONTROLS", type := (.object "java/lang/String"), accessFlags := 26, slot := 2, constantValue := 0 }]
  methods := #[k2m0, k2m1]
  instanceTypes := #[]
  staticTypes := #[(.object "java/lang/String"), (.object "java/lang/String"), (.object "java/lang/String")]
  resolved := Array.replicate 66 none
  statics := none }

def pool3 : Array CpInfo := pool [(1, u "java/lang/Cloneable"), (0, .class_ 1), (0, u "java/lang/Object"), (0, .class_ 3)] 3

/-- java/lang/Cloneable -/
def k3 : Class := { plain "java/lang/Cloneable" (some 0) with
  accessFlags := 1537
  interfaces := #[]
  cf := some (fileOf pool3 2 #[] #[] 1537 4 #[] #[])
  fields := #[]
  methods := #[]
  instanceTypes := #[]
  staticTypes := #[]
  resolved := Array.replicate 8 none
  statics := none }

def pool4 : Array CpInfo := pool [(1, u "java/io/Serializable"), (0, .class_ 1), (0, u "java/lang/Object"), (0, .class_ 3)] 3

/-- java/io/Serializable -/
def k4 : Class := { plain "java/io/Serializable" (some 0) with
  accessFlags := 1537
  interfaces := #[]
  cf := some (fileOf pool4 2 #[] #[] 1537 4 #[] #[])
  fields := #[]
  methods := #[]
  instanceTypes := #[]
  staticTypes := #[]
  resolved := Array.replicate 8 none
  statics := none }

/-- the primitive byte -/
def k5 : Class := { plain "byte" none with kind := .primitive 'B', accessFlags := 0x411 }
/-- [B -/
def k6 : Class := { plain "[B" (some 0) with kind := .array 5 .byte, interfaces := #[3, 4], accessFlags := 1041 }

def heap : Heap := #[]
def classes : Array Class := #[k0, k1, k2, k3, k4, k5, k6]
def interned : List (Array UInt16 × Addr) := []
def slotsUsed : Nat := 0
def theMethod : MethodId := ⟨1, 1⟩
def args0 : Array Value := #[.int 5, .int 7]
def aboutOver (below : List Frame) : State where
  vm := { classes := classes, interned := interned.toArray }
  heap := heap
  slotsUsed := slotsUsed
  threads := #[{ frames := .invoking theMethod args0 :: below }]
def below0 : List Frame := [.native { method := ⟨0, 0⟩, args := #[] }]
def about1 : State := aboutOver below0
def p0 : Program := .bare "" "" ""
def e0 : Env := launch0.env 0 0 0
theorem w_frames : about1.frames = Frame.invoking theMethod args0 :: below0 := rfl
set_option maxRecDepth 65536 in
theorem w_args : argsFit about1.vm theMethod args0 = true := by decide +kernel
set_option maxRecDepth 65536 in
theorem w_heap : heapFits about1 = true := by decide +kernel
set_option maxRecDepth 65536 in
theorem w_runnable : about1.curStatus? = some .runnable := by decide +kernel
set_option maxRecDepth 65536 in
theorem w_alone : about1.alone = true := by decide +kernel
set_option maxRecDepth 65536 in
theorem w_named : about1.methodNamed? x = some theMethod := by decide +kernel
set_option maxRecDepth 65536 in
theorem w_hears : about1.hears theMethod below0 = true := by decide +kernel
set_option maxRecDepth 65536 in
theorem w_ripe : about1.ripe theMethod args0 below0 = true := by decide +kernel
theorem w_running : about1.status = .running := rfl
set_option maxRecDepth 65536 in
theorem w_room : about1.hasRoom e0.platform room_1 = true :=
  launch0.hasRoom_least _ room_1 (by decide +kernel) (by decide +kernel) (by decide +kernel) (by decide +kernel) (by decide +kernel) (by decide +kernel)
theorem allAtoms_all (ts : List Jvm.Cond) (a : Array Jvm.Value) (st : Jvm.State) : (allAtoms ts).before a st = ts.all (fun c => c.before a st) := by
  induction ts with
  | nil => rfl
  | cons c t ih =>
    show (Jvm.Cond.and c (allAtoms t)).before a st = _
    rw [Jvm.Cond.before_and, ih, List.all_cons]
def words1 : List Jvm.Cond := Jvm.Cond.code x code maxLocals ret :: tables_1
/-- a 'code' word, met by the world's own term for the bytes: nothing is compared byte by byte -/
theorem code_word {y : MethodName} {bytes : ByteArray} {mx : Nat} {rt : Option FieldType} {a : Array Value} {s : State} {m : MethodId} {meth : Method} {c : Code} (h1 : s.methodNamed? y = some m) (h2 : s.vm.method? m = some meth) (h3 : meth.code = some c) (h4 : c.code = bytes)
    (h5 : (c.maxLocals == mx && c.exceptionTable.isEmpty && decide (c.maxStack ≤ mostOperands) && decide (meth.sig.returnType = rt) && !meth.locks && decide (parseMethodDescriptor y.desc = some meth.sig)) = true) : (Jvm.Cond.code y bytes mx rt).before a s = true := by
  simp only [Bool.and_eq_true, beq_iff_eq, Bool.not_eq_true', decide_eq_true_eq] at h5
  obtain ⟨⟨⟨⟨⟨g1, g2⟩, g3⟩, g4⟩, g5⟩, g6⟩ := h5
  simp [Cond.before, Cond.holds, Cond.value, h1, h2, h3, h4, g1, g2, g3, g4, g5, g6]
def isCode : Jvm.Cond → Bool
  | .code _ _ _ _ => true
  | _ => false
theorem all_split {L : List Jvm.Cond} {P : Jvm.Cond → Bool} (h1 : L.all (fun c => isCode c || P c) = true) (h2 : ∀ c ∈ L.filter isCode, P c = true) : L.all P = true := by
  refine List.all_eq_true.mpr fun c hc => ?_
  have h := List.all_eq_true.mp h1 c hc
  rcases Bool.eq_false_or_eq_true (isCode c) with hi | hi
  · exact h2 c (List.mem_filter.mpr ⟨hc, hi⟩)
  · simpa [hi] using h
set_option maxRecDepth 65536 in
theorem w_c0 : (Jvm.Cond.code x code maxLocals ret).before args0 about1 = true := code_word (m := ⟨1, 1⟩) (meth := k1m1) (c := k1c1) (by decide +kernel) rfl rfl rfl (by decide +kernel)
set_option maxRecDepth 65536 in
theorem w_c1 : (Jvm.Cond.code ({ cls := "com/example/vetch/vetch/term/CharClass", name := "isDigit", desc := "(I)Z" } : Jvm.MethodName) prog_59_method_5_code (1 : Nat) (Option.some Jvm.ClassFile.FieldType.boolean)).before args0 about1 = true := code_word (m := ⟨2, 1⟩) (meth := k2m1) (c := k2c1) (by decide +kernel) rfl rfl rfl (by decide +kernel)
def codes1 : List Jvm.Cond := [Jvm.Cond.code x code maxLocals ret, Jvm.Cond.code ({ cls := "com/example/vetch/vetch/term/CharClass", name := "isDigit", desc := "(I)Z" } : Jvm.MethodName) prog_59_method_5_code (1 : Nat) (Option.some Jvm.ClassFile.FieldType.boolean)]
set_option maxRecDepth 65536 in
theorem codes_eq : words1.filter isCode = codes1 := rfl
theorem w_codes : ∀ c ∈ words1.filter isCode, c.before args0 about1 = true := by
  rw [codes_eq]
  intro c hc
  simp only [codes1, List.mem_cons, List.not_mem_nil, or_false] at hc
  rcases hc with rfl | rfl
  · exact w_c0
  · exact w_c1
set_option maxRecDepth 65536 in
theorem w_t1 : words1.all (fun c => isCode c || c.before args0 about1) = true := by decide +kernel
theorem w_tables : (allAtoms (Jvm.Cond.code x code maxLocals ret :: tables_1)).before args0 about1 = true := by
  rw [allAtoms_all]
  show words1.all (fun c => c.before args0 about1) = true
  refine all_split ?_ w_codes
  rw [w_t1]
set_option maxRecDepth 65536 in
theorem w_case : (Jvm.Cond.and given_1 narrow_1).before args0 about1 = true := by decide +kernel
theorem w_applies : (headSpec (Jvm.Cond.code x code maxLocals ret :: tables_1) room_1).applies x e0.platform about1 = true :=
  (Spec.applies_iff w_frames).mpr ⟨w_running, w_runnable, w_alone, w_named, w_hears, w_ripe, w_room, w_tables⟩
theorem atStart : AtStart classFile x code maxLocals ret World_1 tables_1 room_1 Calls_1 rest_1 Pre_1 launch0 p0 e0 about1 theMethod args0 below0 :=
  ⟨lists_1, trivial, launch0.admits_env _ _ _, launch0.least_env, fairChoices_fair.cas, fairChoices_fair.clock, w_frames, w_args, w_heap, w_applies, trivial, trivial, w_case⟩
end start1
theorem witness_1 : WitnessClaimed_1 := ⟨start1.p0, start1.e0, start1.about1, start1.theMethod, start1.args0, start1.below0, start1.atStart⟩
end Jvm.Pilot.@@N@@
