import JvmDerived
import JvmDerived.Pilot.@@N@@Statement
import JvmDerived.Pilot.@@N@@Code
set_option linter.unusedVariables false
set_option linter.unusedSimpArgs false
@@BLOCK:NumsL.lean.txt@@
namespace Jvm.Pilot.@@N@@
open Jvm Jvm.ClassFile Sem Op Lib Jvm.Free Jvm.Stand Jvm.LawKit Jvm.RoadKit Bundle Jvm.Pilot.@@N@@.Jvm.D
theorem own_irem (x y : Int32) : x - (x / y) * y = x % y := Jvm.irem_eq_mod x y

def own_max (a b : Int64) : Int64 := if lcmpW a b < (0 : Int32) then b else a
def own_off (w : Int64) (z : Int32) : Int64 := if (0 : Int32) < lcmpW (w - (1 : Int64)) ((9223372036854775807 : Int64) / z.toInt64) then (9223372036854775807 : Int64) else (w - (1 : Int64)) * z.toInt64
theorem own_sz (s : Int32) : 1 ≤ (((s &&& (2147483647 : Int32)) % (100 : Int32)) + (1 : Int32)).toInt ∧ (((s &&& (2147483647 : Int32)) % (100 : Int32)) + (1 : Int32)).toInt ≤ 100 := by
  have a := c_and s (2147483647 : Int32) (by decide)
  have b := (c_irem (s &&& (2147483647 : Int32)) (100 : Int32) 100 rfl).1 a.1
  have c := c_iadd ((s &&& (2147483647 : Int32)) % (100 : Int32)) (1 : Int32)
  have d : (1 : Int32).toInt = 1 := rfl
  have r := rng32 (((s &&& (2147483647 : Int32)) % (100 : Int32)) + (1 : Int32))
  omega
theorem own_nz {z : Int32} (h : 1 ≤ z.toInt) : ¬ (z.toInt64 = (0 : Int64)) := fun q => by
  have a := congrArg Int64.toInt q
  rw [c_i2l] at a
  have b : (0 : Int64).toInt = 0 := rfl
  omega
theorem own_n1 {z : Int32} (h : 1 ≤ z.toInt) : z.toInt64 ≠ -1 := fun q => by
  have a := congrArg Int64.toInt q
  rw [c_i2l] at a
  have b : (-1 : Int64).toInt = -1 := rfl
  omega
theorem own_q {z : Int32} (h : 1 ≤ z.toInt) : ((9223372036854775807 : Int64) / z.toInt64).toInt = 9223372036854775807 / z.toInt :=
  (c_ldiv (9223372036854775807 : Int64) z.toInt64 z.toInt (c_i2l z) (own_n1 h)).1 (by decide)
theorem own_main {nb : Int64} {z : Int32} (h1 : 1 ≤ nb.toInt) (h2 : 1 ≤ z.toInt) :
    (lcmpW (((nb - (1 : Int64)) * z.toInt64) / z.toInt64) (nb - (1 : Int64)) = (0 : Int32) → own_off nb z = (nb - (1 : Int64)) * z.toInt64) ∧
    (¬ (lcmpW (((nb - (1 : Int64)) * z.toInt64) / z.toInt64) (nb - (1 : Int64)) = (0 : Int32)) → own_off nb z = (9223372036854775807 : Int64)) := by
  have hS : z.toInt64.toInt = z.toInt := c_i2l z
  have hm : (nb - (1 : Int64)).toInt = nb.toInt - 1 := by
    have a := c_lsub nb (1 : Int64); have b := rng64 (nb - (1 : Int64)); have c := rng64 nb; have d : (1 : Int64).toInt = 1 := rfl
    omega
  simp only [own_off, lw_eq, lw_gt, Int64.lt_iff_toInt_lt, own_q h2]
  generalize nb - (1 : Int64) = M at *
  have hP := rng64 (M * z.toInt64)
  have hdiv := c_ldiv (M * z.toInt64) z.toInt64 z.toInt hS (own_n1 h2)
  by_cases hov : M.toInt * z.toInt ≤ 9223372036854775807
  · have hle : M.toInt ≤ 9223372036854775807 / z.toInt := (Int.le_ediv_iff_mul_le (by omega)).mpr hov
    have h0 : 0 ≤ M.toInt * z.toInt := Int.mul_nonneg (by omega) (by omega)
    have hp : (M * z.toInt64).toInt = M.toInt * z.toInt := by
      rw [Jvm.Kit.i64_mul (by rw [hS]; omega) (by rw [hS]; omega), hS]
    have heq : (M * z.toInt64) / z.toInt64 = M := Int64.toInt_inj.mp (by
      rw [hdiv.1 (by omega), hp]; exact Int.mul_ediv_cancel _ (by omega))
    refine ⟨fun _ => ?_, fun q => absurd heq q⟩
    rw [if_neg (by omega)]
  · have hlt : 9223372036854775807 / z.toInt < M.toInt := Int.not_le.mp fun q => hov ((Int.le_ediv_iff_mul_le (by omega)).mp q)
    have hne : ¬ (M * z.toInt64) / z.toInt64 = M := fun q => by
      have q' := congrArg Int64.toInt q
      rcases Int.lt_or_le (M * z.toInt64).toInt 0 with g | g
      · rw [hdiv.2 g] at q'
        have u : 0 ≤ (-(M * z.toInt64).toInt) / z.toInt := Int.ediv_nonneg (by omega) (by omega)
        have u0 : M.toInt = 0 := by omega
        rw [u0, Int.zero_mul] at hov
        omega
      · rw [hdiv.1 g] at q'
        have u := Int.ediv_mul_le (M * z.toInt64).toInt (show z.toInt ≠ 0 by omega)
        rw [q'] at u
        omega
    refine ⟨fun q => absurd q hne, fun _ => ?_⟩
    rw [if_pos hlt]
theorem own_d (n : Int64) : 0 ≤ (n &&& (3 : Int64)).toInt ∧ (n &&& (3 : Int64)).toInt < 4 := by
  have a := c_maskL n (3 : Int64) 2 (by decide) (by decide)
  omega
theorem own_k0 (n : Int64) : 1 ≤ (own_max (1 : Int64) (n &&& (9223372036854775807 : Int64))).toInt := by
  have a := c_maskL n (9223372036854775807 : Int64) 63 (by decide) (by decide)
  have d : (1 : Int64).toInt = 1 := rfl
  simp only [own_max, lw_lt, Int64.lt_iff_toInt_lt, d]
  split <;> omega
theorem own_k1 {n : Int64} {z : Int32} (h1 : 1 ≤ z.toInt) (h2 : z.toInt ≤ 100) : 1 ≤ (((9223372036854775807 : Int64) / z.toInt64) - (n &&& (3 : Int64))).toInt := by
  have a := own_q h1
  have b := own_d n
  have c := c_lsub ((9223372036854775807 : Int64) / z.toInt64) (n &&& (3 : Int64))
  have r := rng64 (((9223372036854775807 : Int64) / z.toInt64) - (n &&& (3 : Int64)))
  have l : 92233720368547758 ≤ 9223372036854775807 / z.toInt := (Int.le_ediv_iff_mul_le (by omega)).mpr (by omega)
  have g : 9223372036854775807 / z.toInt ≤ 9223372036854775807 := Int.ediv_le_self _ (by decide)
  omega
theorem own_k2 (n : Int64) : 1 ≤ ((9223372036854775807 : Int64) - (n &&& (3 : Int64))).toInt := by
  have b := own_d n
  have c := c_lsub (9223372036854775807 : Int64) (n &&& (3 : Int64))
  have d : (9223372036854775807 : Int64).toInt = 9223372036854775807 := rfl
  have r := rng64 ((9223372036854775807 : Int64) - (n &&& (3 : Int64)))
  omega
theorem own_k3 {n : Int64} {z : Int32} (h1 : 1 ≤ z.toInt) (hne : ¬ (z = (1 : Int32))) : 1 ≤ ((((9223372036854775807 : Int64) / z.toInt64) + (1 : Int64)) + (n &&& (3 : Int64))).toInt := by
  have a := own_q h1
  have b := own_d n
  have z1 : z.toInt ≠ 1 := fun q => hne (Int32.toInt_inj.mp (q.trans rfl))
  have c := c_ladd ((9223372036854775807 : Int64) / z.toInt64) (1 : Int64)
  have c2 := c_ladd (((9223372036854775807 : Int64) / z.toInt64) + (1 : Int64)) (n &&& (3 : Int64))
  have d : (1 : Int64).toInt = 1 := rfl
  have r := rng64 (((9223372036854775807 : Int64) / z.toInt64) + (1 : Int64))
  have r2 := rng64 ((((9223372036854775807 : Int64) / z.toInt64) + (1 : Int64)) + (n &&& (3 : Int64)))
  have l : 0 ≤ 9223372036854775807 / z.toInt := Int.ediv_nonneg (by decide) (by omega)
  have g : 9223372036854775807 / z.toInt < 4611686018427387904 := Int.not_le.mp fun q => by
    have := (Int.le_ediv_iff_mul_le (by omega)).mp q
    omega
  omega
theorem own_k4 (n : Int64) : 1 ≤ ((n &&& (65535 : Int64)) + (1 : Int64)).toInt := by
  have a := c_maskL n (65535 : Int64) 16 (by decide) (by decide)
  have c := c_ladd (n &&& (65535 : Int64)) (1 : Int64)
  have d : (1 : Int64).toInt = 1 := rfl
  have r := rng64 ((n &&& (65535 : Int64)) + (1 : Int64))
  omega
theorem dmax_0 : decode jdk_29_method_66_code 0 = .ok (.lload_n 0, 1) := by decide +kernel
theorem dmax_1 : decode jdk_29_method_66_code 1 = .ok (.lload_n 2, 1) := by decide +kernel
theorem dmax_2 : decode jdk_29_method_66_code 2 = .ok (.lcmp, 1) := by decide +kernel
theorem dmax_3 : decode jdk_29_method_66_code 3 = .ok (.ifCond .lt 7, 3) := by decide +kernel
theorem dmax_6 : decode jdk_29_method_66_code 6 = .ok (.lload_n 0, 1) := by decide +kernel
theorem dmax_7 : decode jdk_29_method_66_code 7 = .ok (.goto 4, 3) := by decide +kernel
theorem dmax_10 : decode jdk_29_method_66_code 10 = .ok (.lload_n 2, 1) := by decide +kernel
theorem dmax_11 : decode jdk_29_method_66_code 11 = .ok (.lreturn, 1) := by decide +kernel
theorem ef_max (m : MethodId) (x0 : Int64) (x1 : Int64) : entryFrame m #[(.long x0), (.long x1)] 4 = mkF m 0 #[.val (.long x0), .second, .val (.long x1), .second] [] := by first | (simp [entryFrame, mkF, argsToLocals, Value.category]; done) | rfl
def Q_max (Z : State) (q1 q2 : Int64) (h0 : Heap) (n0 : Nat) (v : Option Value) (h : Heap) (L : List Loc) : Prop := v = some (.long (own_max q1 q2)) ∧ Fr n0 L ∧ h = h0
set_option maxRecDepth 65536 in
set_option maxHeartbeats 40000000 in
theorem rm_max (l : Launch) (Z : State) (a0 : Array Value) (hw : ∀ d ∈ tables_1, d.before a0 Z = true) (ws : List Jvm.Cond) (q1 q2 : Int64) (h0 : Heap) (n0 : Nat) (Z0 : n0 ≤ h0.size)  :
    MetFree l (⟨"java/lang/Math", "max", "(JJ)J"⟩ : MethodName) (head1 (Jvm.Cond.code (⟨"java/lang/Math", "max", "(JJ)J"⟩ : MethodName) jdk_29_method_66_code 4 (some .long) :: ws) ({ frames := 0, cells := 0, slots := 0, locals := 0 } : Room)) (fun a U => a = #[(.long q1), (.long q2)] ∧ Z.Warmed39 U.vm ∧ U.heap = h0) (fun _ _ _ _ _ => True) (fun _ U o U' => ∃ v L, o = .returned v ∧ Q_max Z q1 q2 h0 n0 v U'.heap L ∧ FrameEnd U o U' L ({ frames := 0, cells := 0, slots := 0, locals := 0 } : Room).cells ({ frames := 0, cells := 0, slots := 0, locals := 0 } : Room).slots) := by
  refine MetFree.of_bodySF (Jvm.Free.JP.mathPlain rfl (by decide +kernel)) hisR ?_
  intro p e s m args below meth c s₁ Bd hml0 hP hK
  obtain ⟨rfl, hZ, hh⟩ := hP
  have hx := Bd.exec
  have hby := Bd.bytes
  have hml : c.maxLocals = 4 := hml0
  have hown : s.vm.findClass "java/lang/Math" = some m.cls := findClass_of_methodNamed Bd.named
  have hnm := (name_of_methodNamed Bd.named Bd.method).1
  have X0 : Stand p l e ({ frames := 0, cells := 0, slots := 0, locals := 0 } : Room) s m #[(.long q1), (.long q2)] below meth c s₁ [] 0 0 := Stand.of_body Bd
  have e0 : s₁.heap = h0 := by rw [← hh, Bd.state]; rfl
  have N0 := Fr.nil n0
  have pre0 : ∀ tg_, Steps p.tables e below (s₁.setTop (mkF m 0 #[.val (.long q1), .second, .val (.long q2), .second] [])) tg_ → Steps p.tables e below (s₁.setTop (entryFrame m #[(.long q1), (.long q2)] 4)) tg_ := fun tg_ k => castTop (ef_max m q1 q2) k
  obtain ⟨fs, hr, hrun, hended, hW, hsame⟩ := X0.leave (v := some (.long (own_max q1 q2))) (fun h => by rw [Bd.returns] at h; cases h)
  refine ⟨_, _, pre0 _ ?_, hrun, hended, _, _, rfl, ?_, ⟨_, rfl⟩, hW, hsame.mono (by decide) (by decide)⟩
  · show Steps p.tables e below (s₁.setTop (mkF m 0 #[.val (.long q1), .second, .val (.long q2), .second] [])) _
    refine XS.lloadN X0.here hx rfl (hb hby dmax_0) rfl ?_
    show Steps p.tables e below (s₁.setTop (mkF m 1 #[.val (.long q1), .second, .val (.long q2), .second] [(.long q1)])) _
    refine XS.lloadN X0.here hx rfl (hb hby dmax_1) rfl ?_
    show Steps p.tables e below (s₁.setTop (mkF m 2 #[.val (.long q1), .second, .val (.long q2), .second] [(.long q2), (.long q1)])) _
    refine XS.lcmp X0.here hx rfl (hb hby dmax_2) rfl ?_
    show Steps p.tables e below (s₁.setTop (mkF m 3 #[.val (.long q1), .second, .val (.long q2), .second] [(.int (lcmpW q1 q2))])) _
    by_cases hc3 : (lcmpW q1 q2) < (0 : Int32)
    · show Steps p.tables e below (s₁.setTop (mkF m 3 #[.val (.long q1), .second, .val (.long q2), .second] [(.int (lcmpW q1 q2))])) _
      refine XS.ifYes X0.here hx rfl (pc0 := 3) (pc' := 10) rfl (hb hby dmax_3) rfl ((if0 _ _).trans (tlt (show (lcmpW q1 q2) < (0 : Int32) from hc3)).1) (by decide) (by decide) ?_
      show Steps p.tables e below (s₁.setTop (mkF m 10 #[.val (.long q1), .second, .val (.long q2), .second] [])) _
      refine XS.lloadN X0.here hx rfl (hb hby dmax_10) rfl ?_
      show Steps p.tables e below (s₁.setTop (mkF m 11 #[.val (.long q1), .second, .val (.long q2), .second] [(.long q2)])) _
      have hval : (own_max q1 q2) = q2 := by
        simp only [own_max, if_pos hc3]
      rw [hval] at hr
      jvm_step X0.here [X0.here.top, hx, (hb hby dmax_11), X0.method', Bd.returns, narrow]
      first | (intro acts; rw [hr _ acts rfl rfl rfl]) | rw [hr _ _ rfl rfl rfl]
      exact Steps.refl _
    · show Steps p.tables e below (s₁.setTop (mkF m 3 #[.val (.long q1), .second, .val (.long q2), .second] [(.int (lcmpW q1 q2))])) _
      refine XS.ifNo X0.here hx rfl (hb hby dmax_3) rfl ((if0 _ _).trans (flt (show ¬ ((lcmpW q1 q2) < (0 : Int32)) from hc3)).1) ?_
      show Steps p.tables e below (s₁.setTop (mkF m 6 #[.val (.long q1), .second, .val (.long q2), .second] [])) _
      refine XS.lloadN X0.here hx rfl (hb hby dmax_6) rfl ?_
      show Steps p.tables e below (s₁.setTop (mkF m 7 #[.val (.long q1), .second, .val (.long q2), .second] [(.long q1)])) _
      refine XS.goto X0.here hx rfl (pc0 := 7) (pc' := 11) rfl (hb hby dmax_7) (by decide) (by decide) ?_
      show Steps p.tables e below (s₁.setTop (mkF m 11 #[.val (.long q1), .second, .val (.long q2), .second] [(.long q1)])) _
      have hval : (own_max q1 q2) = q1 := by
        simp only [own_max, if_neg hc3]
      rw [hval] at hr
      jvm_step X0.here [X0.here.top, hx, (hb hby dmax_11), X0.method', Bd.returns, narrow]
      first | (intro acts; rw [hr _ acts rfl rfl rfl]) | rw [hr _ _ rfl rfl rfl]
      exact Steps.refl _
  · show Q_max Z q1 q2 h0 n0 _ s₁.heap _
    rw [e0]
    exact ⟨rfl, N0, rfl⟩
theorem drec_0 : decode jdk_30_method_1_code 0 = .ok (.aload_n 0, 1) := by decide +kernel
theorem drec_1 : decode jdk_30_method_1_code 1 = .ok (.invokespecial 1, 3) := by decide +kernel
theorem drec_4 : decode jdk_30_method_1_code 4 = .ok (.return_, 1) := by decide +kernel
theorem pn_rec : plainName "java/lang/Record" = true := by first | (simp [plainName, overriddenIn]; done) | decide +kernel
theorem ef_rec (m : MethodId) (x0 : Addr) : entryFrame m #[(.ref x0)] 1 = mkF m 0 #[.val (.ref x0)] [] := by first | (simp [entryFrame, mkF, argsToLocals, Value.category]; done) | rfl
def Q_rec (Z : State) (a1 : Addr) (h0 : Heap) (n0 : Nat) (v : Option Value) (h : Heap) (L : List Loc) : Prop := v = none ∧ Fr n0 L ∧ h = h0
set_option maxRecDepth 65536 in
set_option maxHeartbeats 40000000 in
theorem rm_rec (l : Launch) (Z : State) (a0 : Array Value) (hw : ∀ d ∈ tables_1, d.before a0 Z = true) (ws : List Jvm.Cond) (a1 : Addr) (h0 : Heap) (n0 : Nat) (Z0 : n0 ≤ h0.size)  :
    MetFree l (⟨"java/lang/Record", "<init>", "()V"⟩ : MethodName) (head1 (Jvm.Cond.code (⟨"java/lang/Record", "<init>", "()V"⟩ : MethodName) jdk_30_method_1_code 1 none :: ws) ({ frames := 1, cells := 0, slots := 0, locals := 12 } : Room)) (fun a U => a = #[(.ref a1)] ∧ Z.Warmed39 U.vm ∧ U.heap = h0) (fun _ _ _ _ _ => True) (fun _ U o U' => ∃ v L, o = .returned v ∧ Q_rec Z a1 h0 n0 v U'.heap L ∧ FrameEnd U o U' L ({ frames := 1, cells := 0, slots := 0, locals := 12 } : Room).cells ({ frames := 1, cells := 0, slots := 0, locals := 12 } : Room).slots) := by
  refine MetFree.of_bodySF (plainFor_of_name pn_rec) hisR ?_
  intro p e s m args below meth c s₁ Bd hml0 hP hK
  obtain ⟨rfl, hZ, hh⟩ := hP
  have hx := Bd.exec
  have hby := Bd.bytes
  have hml : c.maxLocals = 1 := hml0
  have hown : s.vm.findClass "java/lang/Record" = some m.cls := findClass_of_methodNamed Bd.named
  have hnm := (name_of_methodNamed Bd.named Bd.method).1
  have X0 : Stand p l e ({ frames := 1, cells := 0, slots := 0, locals := 12 } : Room) s m #[(.ref a1)] below meth c s₁ [] 0 0 := Stand.of_body Bd
  have e0 : s₁.heap = h0 := by rw [← hh, Bd.state]; rfl
  have N0 := Fr.nil n0
  have pre0 : ∀ tg_, Steps p.tables e below (s₁.setTop (mkF m 0 #[.val (.ref a1)] [])) tg_ → Steps p.tables e below (s₁.setTop (entryFrame m #[(.ref a1)] 1)) tg_ := fun tg_ k => castTop (ef_rec m a1) k
  have p_1 : ∀ tg_, Steps p.tables e below (s₁.setTop (mkF m 1 #[.val (.ref a1)] [(.ref a1)])) tg_ → Steps p.tables e below (s₁.setTop (entryFrame m #[(.ref a1)] 1)) tg_ := by
    intro tg_ kk_
    refine pre0 tg_ ?_
    show Steps p.tables e below (s₁.setTop (mkF m 0 #[.val (.ref a1)] [])) _
    refine XS.aloadN X0.here hx rfl (hb hby drec_0) rfl rfl ?_
    exact kk_
  obtain ⟨T2, X2, e2, st2⟩ := initO X0 hx hZ hown (hw _ (List.mem_of_getElem? (i := 14) rfl)) (hw _ (List.mem_of_getElem? (i := 15) rfl)) (hw _ (List.mem_of_getElem? (i := 16) rfl)) e0 (g := (mkF m 1 #[.val (.ref a1)] [(.ref a1)])) rfl (by rw [hml]; rfl) rfl (hb hby drec_1) (by decide) (W := 0) (by show 2 * 0 + _ ≤ _; exact Nat.le_of_eq rfl) (by decide)
  have p_3 : ∀ tg_, Steps p.tables e below (T2.setTop (mkF m 4 #[.val (.ref a1)] [])) tg_ → Steps p.tables e below (s₁.setTop (entryFrame m #[(.ref a1)] 1)) tg_ := by
    intro tg_ kk_
    refine p_1 tg_ ?_
    refine st2 _ ?_
    exact kk_
  obtain ⟨fs, hr, hrun, hended, hW, hsame⟩ := X2.leave (v := none) (fun _ => rfl)
  refine ⟨_, _, p_3 _ ?_, hrun, hended, _, _, rfl, ?_, ⟨_, rfl⟩, hW, hsame.mono (by decide) (by decide)⟩
  · show Steps p.tables e below (T2.setTop (mkF m 4 #[.val (.ref a1)] [])) _
    exact X2.returnOut hx Bd.returns (hb hby drec_4) hr
  · show Q_rec Z a1 h0 n0 _ T2.heap _
    rw [e2]
    exact ⟨rfl, N0, rfl⟩
theorem dini_0 : decode prog_14_method_1_code 0 = .ok (.aload_n 0, 1) := by decide +kernel
theorem dini_1 : decode prog_14_method_1_code 1 = .ok (.invokespecial 1, 3) := by decide +kernel
theorem dini_4 : decode prog_14_method_1_code 4 = .ok (.aload_n 0, 1) := by decide +kernel
theorem dini_5 : decode prog_14_method_1_code 5 = .ok (.lload_n 1, 1) := by decide +kernel
theorem dini_6 : decode prog_14_method_1_code 6 = .ok (.putfield 7, 3) := by decide +kernel
theorem dini_9 : decode prog_14_method_1_code 9 = .ok (.aload_n 0, 1) := by decide +kernel
theorem dini_10 : decode prog_14_method_1_code 10 = .ok (.iload_n 3, 1) := by decide +kernel
theorem dini_11 : decode prog_14_method_1_code 11 = .ok (.putfield 13, 3) := by decide +kernel
theorem dini_14 : decode prog_14_method_1_code 14 = .ok (.return_, 1) := by decide +kernel
theorem pd_ini_0 : parseMethodDescriptor "()V" = some ⟨[], none⟩ := by decide +kernel
theorem pn_ini : plainName "com/example/guildhall/guildhall/Page" = true := by first | (simp [plainName, overriddenIn]; done) | decide +kernel
theorem ef_ini (m : MethodId) (x0 : Addr) (x1 : Int64) (x2 : Int32) : entryFrame m #[(.ref x0), (.long x1), (.int x2)] 4 = mkF m 0 #[.val (.ref x0), .val (.long x1), .second, .val (.int x2)] [] := by first | (simp [entryFrame, mkF, argsToLocals, Value.category]; done) | rfl
def Q_ini (Z : State) (a1 : Addr) (q2 : Int64) (p3 : Int32) (h0 : Heap) (n0 : Nat) (v : Option Value) (h : Heap) (L : List Loc) : Prop := v = none ∧ Fr n0 L ∧ h0.size ≤ h.size ∧ Exa Z h a1 "com/example/guildhall/guildhall/Page" ∧ Fld Z h a1 "com/example/guildhall/guildhall/Page" "number" "J" (.long q2) ∧ Fld Z h a1 "com/example/guildhall/guildhall/Page" "size" "I" (.int p3)
set_option maxRecDepth 65536 in
set_option maxHeartbeats 40000000 in
theorem rm_ini (l : Launch) (Z : State) (a0 : Array Value) (hw : ∀ d ∈ tables_1, d.before a0 Z = true) (ws : List Jvm.Cond) (a1 : Addr) (q2 : Int64) (p3 : Int32) (h0 : Heap) (n0 : Nat) (Z0 : n0 ≤ h0.size) (E1 : Exa Z h0 a1 "com/example/guildhall/guildhall/Page") (F1 : Fld Z h0 a1 "com/example/guildhall/guildhall/Page" "number" "J" (.long (0 : Int64))) (F2 : Fld Z h0 a1 "com/example/guildhall/guildhall/Page" "size" "I" (.int (0 : Int32))) (g1 : n0 ≤ a1) :
    MetFree l (⟨"com/example/guildhall/guildhall/Page", "<init>", "(JI)V"⟩ : MethodName) (head1 (Jvm.Cond.code (⟨"com/example/guildhall/guildhall/Page", "<init>", "(JI)V"⟩ : MethodName) prog_14_method_1_code 4 none :: ws) ({ frames := 2, cells := 0, slots := 0, locals := 24 } : Room)) (fun a U => a = #[(.ref a1), (.long q2), (.int p3)] ∧ Z.Warmed39 U.vm ∧ U.heap = h0) (fun _ _ _ _ _ => True) (fun _ U o U' => ∃ v L, o = .returned v ∧ Q_ini Z a1 q2 p3 h0 n0 v U'.heap L ∧ FrameEnd U o U' L ({ frames := 2, cells := 0, slots := 0, locals := 24 } : Room).cells ({ frames := 2, cells := 0, slots := 0, locals := 24 } : Room).slots) := by
  refine MetFree.of_bodySF (plainFor_of_name pn_ini) hisR ?_
  intro p e s m args below meth c s₁ Bd hml0 hP hK
  obtain ⟨rfl, hZ, hh⟩ := hP
  have hx := Bd.exec
  have hby := Bd.bytes
  have hml : c.maxLocals = 4 := hml0
  have hown : s.vm.findClass "com/example/guildhall/guildhall/Page" = some m.cls := findClass_of_methodNamed Bd.named
  have hnm := (name_of_methodNamed Bd.named Bd.method).1
  have X0 : Stand p l e ({ frames := 2, cells := 0, slots := 0, locals := 24 } : Room) s m #[(.ref a1), (.long q2), (.int p3)] below meth c s₁ [] 0 0 := Stand.of_body Bd
  have e0 : s₁.heap = h0 := by rw [← hh, Bd.state]; rfl
  have N0 := Fr.nil n0
  have pre0 : ∀ tg_, Steps p.tables e below (s₁.setTop (mkF m 0 #[.val (.ref a1), .val (.long q2), .second, .val (.int p3)] [])) tg_ → Steps p.tables e below (s₁.setTop (entryFrame m #[(.ref a1), (.long q2), (.int p3)] 4)) tg_ := fun tg_ k => castTop (ef_ini m a1 q2 p3) k
  have p_1 : ∀ tg_, Steps p.tables e below (s₁.setTop (mkF m 1 #[.val (.ref a1), .val (.long q2), .second, .val (.int p3)] [(.ref a1)])) tg_ → Steps p.tables e below (s₁.setTop (entryFrame m #[(.ref a1), (.long q2), (.int p3)] 4)) tg_ := by
    intro tg_ kk_
    refine pre0 tg_ ?_
    show Steps p.tables e below (s₁.setTop (mkF m 0 #[.val (.ref a1), .val (.long q2), .second, .val (.int p3)] [])) _
    refine XS.aloadN X0.here hx rfl (hb hby dini_0) rfl rfl ?_
    exact kk_
  obtain ⟨_, _, ⟨T2, L2, k2, n2⟩, -, X2, ⟨Lc2, hQ2, l2, y2, z2⟩, st2⟩ := X0.specialBack hx (y := (⟨"java/lang/Record", "<init>", "()V"⟩ : MethodName)) rfl hown (mvT hZ (hw _ (List.mem_of_getElem? (i := 9) rfl))) (mvT hZ (hw _ (List.mem_of_getElem? (i := 10) rfl))) (mvT hZ (hw _ (List.mem_of_getElem? (i := 13) rfl))) (by decide) (backOf (W := 0) (rm_rec l Z a0 hw [] a1 h0 n0 Z0) hZ (hw _ (List.mem_of_getElem? (i := 13) rfl)) (hw _ (List.mem_of_getElem? (i := 12) rfl)) (by decide) (by decide)) (g := (mkF m 1 #[.val (.ref a1), .val (.long q2), .second, .val (.int p3)] [(.ref a1)])) rfl (by rw [hml]; rfl) (Steps.refl _) (a := a1) (argsL := []) (rest := []) (lenOf pd_ini_0 rfl) rfl (by show 2 * 0 + _ ≤ _; exact Nat.le_of_eq rfl) (hb hby dini_1) (fun _ _ => ⟨rfl, e0, (by decide : 0 + 0 ≤ _), (by decide : 0 + 0 ≤ _)⟩)
  dsimp only [Pt.U, Pt.locs, Pt.cells, Pt.slots] at X2 l2 y2 z2 st2 hQ2
  subst l2 y2 z2
  obtain ⟨rfl, N2q, hh2⟩ := hQ2
  have N2 := Fr.app N0 N2q
  rw [← hh2] at E1 F1 F2
  have p_3 : ∀ tg_, Steps p.tables e below (T2.setTop (mkF m 6 #[.val (.ref a1), .val (.long q2), .second, .val (.int p3)] [(.long q2), (.ref a1)])) tg_ → Steps p.tables e below (s₁.setTop (entryFrame m #[(.ref a1), (.long q2), (.int p3)] 4)) tg_ := by
    intro tg_ kk_
    refine p_1 tg_ ?_
    refine st2.trans ?_
    show Steps p.tables e below (T2.setTop (mkF m 4 #[.val (.ref a1), .val (.long q2), .second, .val (.int p3)] [])) _
    refine XS.aloadN X2.here hx rfl (hb hby dini_4) rfl rfl ?_
    show Steps p.tables e below (T2.setTop (mkF m 5 #[.val (.ref a1), .val (.long q2), .second, .val (.int p3)] [(.ref a1)])) _
    refine XS.lloadN X2.here hx rfl (hb hby dini_5) rfl ?_
    exact kk_
  obtain ⟨T4, h4, X4, e4, W4, st4⟩ := putF X2 hx hZ hown (host := "") (Or.inl (hw _ (List.mem_of_getElem? (i := 17) rfl))) Via.refl rfl F1 E1 (Or.inr ⟨(hw _ (List.mem_of_getElem? (i := 18) rfl)), rfl, hnm⟩) (hw _ (List.mem_of_getElem? (i := 4) rfl)) (ty := .long) (by decide) rfl rfl (g := (mkF m 6 #[.val (.ref a1), .val (.long q2), .second, .val (.int p3)] [(.long q2), (.ref a1)])) rfl rfl (hb hby dini_6)
  have G1 := F1.same W4
  have G2 := F2.other W4 (Or.inr (slot_ne (Or.inr (hw _ (List.mem_of_getElem? (i := 20) rfl))) (Or.inr (hw _ (List.mem_of_getElem? (i := 18) rfl))) (by decide) (t := .int) (t' := .long) (by decide) (by decide)))
  have G3 := E1.wr W4
  have N4 := Fr.snoc X4 N2 g1
  have p_5 : ∀ tg_, Steps p.tables e below (T4.setTop (mkF m 11 #[.val (.ref a1), .val (.long q2), .second, .val (.int p3)] [(.int p3), (.ref a1)])) tg_ → Steps p.tables e below (s₁.setTop (entryFrame m #[(.ref a1), (.long q2), (.int p3)] 4)) tg_ := by
    intro tg_ kk_
    refine p_3 tg_ ?_
    refine st4 _ ?_
    show Steps p.tables e below (T4.setTop (mkF m 9 #[.val (.ref a1), .val (.long q2), .second, .val (.int p3)] [])) _
    refine XS.aloadN X4.here hx rfl (hb hby dini_9) rfl rfl ?_
    show Steps p.tables e below (T4.setTop (mkF m 10 #[.val (.ref a1), .val (.long q2), .second, .val (.int p3)] [(.ref a1)])) _
    refine XS.iloadN X4.here hx rfl (hb hby dini_10) rfl ?_
    exact kk_
  obtain ⟨T6, h6, X6, e6, W6, st6⟩ := putF X4 hx hZ hown (host := "") (Or.inl (hw _ (List.mem_of_getElem? (i := 19) rfl))) Via.refl e4 G2 G3 (Or.inr ⟨(hw _ (List.mem_of_getElem? (i := 20) rfl)), rfl, hnm⟩) (hw _ (List.mem_of_getElem? (i := 4) rfl)) (ty := .int) (by decide) rfl rfl (g := (mkF m 11 #[.val (.ref a1), .val (.long q2), .second, .val (.int p3)] [(.int p3), (.ref a1)])) rfl rfl (hb hby dini_11)
  have M2 := G2.same W6
  have M1 := G1.other W6 (Or.inr (slot_ne (Or.inr (hw _ (List.mem_of_getElem? (i := 18) rfl))) (Or.inr (hw _ (List.mem_of_getElem? (i := 20) rfl))) (by decide) (t := .long) (t' := .int) (by decide) (by decide)))
  have M3 := G3.wr W6
  have N6 := Fr.snoc X6 N4 g1
  have sz : h0.size ≤ h6.size := by rw [W6.size, W4.size, hh2]; exact Nat.le_refl _
  have p_7 : ∀ tg_, Steps p.tables e below (T6.setTop (mkF m 14 #[.val (.ref a1), .val (.long q2), .second, .val (.int p3)] [])) tg_ → Steps p.tables e below (s₁.setTop (entryFrame m #[(.ref a1), (.long q2), (.int p3)] 4)) tg_ := by
    intro tg_ kk_
    refine p_5 tg_ ?_
    refine st6 _ ?_
    exact kk_
  obtain ⟨fs, hr, hrun, hended, hW, hsame⟩ := X6.leave (v := none) (fun _ => rfl)
  refine ⟨_, _, p_7 _ ?_, hrun, hended, _, _, rfl, ?_, ⟨_, rfl⟩, hW, hsame.mono (by decide) (by decide)⟩
  · show Steps p.tables e below (T6.setTop (mkF m 14 #[.val (.ref a1), .val (.long q2), .second, .val (.int p3)] [])) _
    exact X6.returnOut hx Bd.returns (hb hby dini_14) hr
  · show Q_ini Z a1 q2 p3 h0 n0 _ T6.heap _
    rw [e6]
    exact ⟨rfl, N6, sz, M3, M1, M2⟩
theorem doff_0 : decode prog_14_method_3_code 0 = .ok (.aload_n 0, 1) := by decide +kernel
theorem doff_1 : decode prog_14_method_3_code 1 = .ok (.getfield 7, 3) := by decide +kernel
theorem doff_4 : decode prog_14_method_3_code 4 = .ok (.lconst 1, 1) := by decide +kernel
theorem doff_5 : decode prog_14_method_3_code 5 = .ok (.lsub, 1) := by decide +kernel
theorem doff_6 : decode prog_14_method_3_code 6 = .ok (.ldc2_w 21, 3) := by decide +kernel
theorem doff_9 : decode prog_14_method_3_code 9 = .ok (.aload_n 0, 1) := by decide +kernel
theorem doff_10 : decode prog_14_method_3_code 10 = .ok (.getfield 13, 3) := by decide +kernel
theorem doff_13 : decode prog_14_method_3_code 13 = .ok (.i2l, 1) := by decide +kernel
theorem doff_14 : decode prog_14_method_3_code 14 = .ok (.ldiv, 1) := by decide +kernel
theorem doff_15 : decode prog_14_method_3_code 15 = .ok (.lcmp, 1) := by decide +kernel
theorem doff_16 : decode prog_14_method_3_code 16 = .ok (.ifCond .le 9, 3) := by decide +kernel
theorem doff_19 : decode prog_14_method_3_code 19 = .ok (.ldc2_w 21, 3) := by decide +kernel
theorem doff_22 : decode prog_14_method_3_code 22 = .ok (.goto 15, 3) := by decide +kernel
theorem doff_25 : decode prog_14_method_3_code 25 = .ok (.aload_n 0, 1) := by decide +kernel
theorem doff_26 : decode prog_14_method_3_code 26 = .ok (.getfield 7, 3) := by decide +kernel
theorem doff_29 : decode prog_14_method_3_code 29 = .ok (.lconst 1, 1) := by decide +kernel
theorem doff_30 : decode prog_14_method_3_code 30 = .ok (.lsub, 1) := by decide +kernel
theorem doff_31 : decode prog_14_method_3_code 31 = .ok (.aload_n 0, 1) := by decide +kernel
theorem doff_32 : decode prog_14_method_3_code 32 = .ok (.getfield 13, 3) := by decide +kernel
theorem doff_35 : decode prog_14_method_3_code 35 = .ok (.i2l, 1) := by decide +kernel
theorem doff_36 : decode prog_14_method_3_code 36 = .ok (.lmul, 1) := by decide +kernel
theorem doff_37 : decode prog_14_method_3_code 37 = .ok (.lreturn, 1) := by decide +kernel
theorem pn_off : plainName "com/example/guildhall/guildhall/Page" = true := by first | (simp [plainName, overriddenIn]; done) | decide +kernel
theorem ef_off (m : MethodId) (x0 : Addr) : entryFrame m #[(.ref x0)] 1 = mkF m 0 #[.val (.ref x0)] [] := by first | (simp [entryFrame, mkF, argsToLocals, Value.category]; done) | rfl
def Q_off (Z : State) (a1 : Addr) (w2 : Int64) (z2 : Int32) (h0 : Heap) (n0 : Nat) (v : Option Value) (h : Heap) (L : List Loc) : Prop := v = some (.long (own_off w2 z2)) ∧ Fr n0 L ∧ h = h0
set_option maxRecDepth 65536 in
set_option maxHeartbeats 40000000 in
theorem rm_off (l : Launch) (Z : State) (a0 : Array Value) (hw : ∀ d ∈ tables_1, d.before a0 Z = true) (ws : List Jvm.Cond) (a1 : Addr) (w2 : Int64) (z2 : Int32) (h0 : Heap) (n0 : Nat) (Z0 : n0 ≤ h0.size) (F1 : Fld Z h0 a1 "com/example/guildhall/guildhall/Page" "number" "J" (.long w2)) (F2 : Fld Z h0 a1 "com/example/guildhall/guildhall/Page" "size" "I" (.int z2)) (hz : 1 ≤ z2.toInt) :
    MetFree l (⟨"com/example/guildhall/guildhall/Page", "offset", "()J"⟩ : MethodName) (head1 (Jvm.Cond.code (⟨"com/example/guildhall/guildhall/Page", "offset", "()J"⟩ : MethodName) prog_14_method_3_code 1 (some .long) :: ws) ({ frames := 0, cells := 0, slots := 0, locals := 0 } : Room)) (fun a U => a = #[(.ref a1)] ∧ Z.Warmed39 U.vm ∧ U.heap = h0) (fun _ _ _ _ _ => True) (fun _ U o U' => ∃ v L, o = .returned v ∧ Q_off Z a1 w2 z2 h0 n0 v U'.heap L ∧ FrameEnd U o U' L ({ frames := 0, cells := 0, slots := 0, locals := 0 } : Room).cells ({ frames := 0, cells := 0, slots := 0, locals := 0 } : Room).slots) := by
  refine MetFree.of_bodySF (plainFor_of_name pn_off) hisR ?_
  intro p e s m args below meth c s₁ Bd hml0 hP hK
  obtain ⟨rfl, hZ, hh⟩ := hP
  have hx := Bd.exec
  have hby := Bd.bytes
  have hml : c.maxLocals = 1 := hml0
  have hown : s.vm.findClass "com/example/guildhall/guildhall/Page" = some m.cls := findClass_of_methodNamed Bd.named
  have hnm := (name_of_methodNamed Bd.named Bd.method).1
  have X0 : Stand p l e ({ frames := 0, cells := 0, slots := 0, locals := 0 } : Room) s m #[(.ref a1)] below meth c s₁ [] 0 0 := Stand.of_body Bd
  have e0 : s₁.heap = h0 := by rw [← hh, Bd.state]; rfl
  have N0 := Fr.nil n0
  have pre0 : ∀ tg_, Steps p.tables e below (s₁.setTop (mkF m 0 #[.val (.ref a1)] [])) tg_ → Steps p.tables e below (s₁.setTop (entryFrame m #[(.ref a1)] 1)) tg_ := fun tg_ k => castTop (ef_off m a1) k
  by_cases hov : (0 : Int32) < (lcmpW (w2 - (1 : Int64)) ((9223372036854775807 : Int64) / (z2.toInt64)))
  · have hk : True := trivial
    have p_1 : ∀ tg_, Steps p.tables e below (s₁.setTop (mkF m 1 #[.val (.ref a1)] [(.ref a1)])) tg_ → Steps p.tables e below (s₁.setTop (entryFrame m #[(.ref a1)] 1)) tg_ := by
      intro tg_ kk_
      refine pre0 tg_ ?_
      show Steps p.tables e below (s₁.setTop (mkF m 0 #[.val (.ref a1)] [])) _
      refine XS.aloadN X0.here hx rfl (hb hby doff_0) rfl rfl ?_
      exact kk_
    obtain ⟨T2, X2, e2, st2⟩ := getF X0 hx hZ hown (host := "") (Or.inl (hw _ (List.mem_of_getElem? (i := 17) rfl))) Via.refl e0 F1 (g := (mkF m 1 #[.val (.ref a1)] [(.ref a1)])) rfl rfl (hb hby doff_1)
    have p_3 : ∀ tg_, Steps p.tables e below (T2.setTop (mkF m 10 #[.val (.ref a1)] [(.ref a1), (.long (9223372036854775807 : Int64)), (.long (w2 - (1 : Int64)))])) tg_ → Steps p.tables e below (s₁.setTop (entryFrame m #[(.ref a1)] 1)) tg_ := by
      intro tg_ kk_
      refine p_1 tg_ ?_
      refine st2 _ ?_
      show Steps p.tables e below (T2.setTop (mkF m 4 #[.val (.ref a1)] [(.long w2)])) _
      refine XS.lconst X2.here hx rfl (hb hby doff_4) ?_
      show Steps p.tables e below (T2.setTop (mkF m 5 #[.val (.ref a1)] [(.long (1 : Int64)), (.long w2)])) _
      refine XS.lsub X2.here hx rfl (hb hby doff_5) rfl ?_
      show Steps p.tables e below (T2.setTop (mkF m 6 #[.val (.ref a1)] [(.long (w2 - (1 : Int64)))])) _
      refine X2.ldc2Long hx hown (mvT hZ (hw _ (List.mem_of_getElem? (i := 26) rfl))) (g := (mkF m 6 #[.val (.ref a1)] [(.long (w2 - (1 : Int64)))])) rfl (hb hby doff_6) _ ?_
      show Steps p.tables e below (T2.setTop (mkF m 9 #[.val (.ref a1)] [(.long (9223372036854775807 : Int64)), (.long (w2 - (1 : Int64)))])) _
      refine XS.aloadN X2.here hx rfl (hb hby doff_9) rfl rfl ?_
      exact kk_
    obtain ⟨T4, X4, e4, st4⟩ := getF X2 hx hZ hown (host := "") (Or.inl (hw _ (List.mem_of_getElem? (i := 19) rfl))) Via.refl e2 F2 (g := (mkF m 10 #[.val (.ref a1)] [(.ref a1), (.long (9223372036854775807 : Int64)), (.long (w2 - (1 : Int64)))])) rfl rfl (hb hby doff_10)
    have p_5 : ∀ tg_, Steps p.tables e below (T4.setTop (mkF m 37 #[.val (.ref a1)] [(.long (9223372036854775807 : Int64))])) tg_ → Steps p.tables e below (s₁.setTop (entryFrame m #[(.ref a1)] 1)) tg_ := by
      intro tg_ kk_
      refine p_3 tg_ ?_
      refine st4 _ ?_
      show Steps p.tables e below (T4.setTop (mkF m 13 #[.val (.ref a1)] [(.int z2), (.long (9223372036854775807 : Int64)), (.long (w2 - (1 : Int64)))])) _
      refine XS.i2l X4.here hx rfl (hb hby doff_13) rfl ?_
      show Steps p.tables e below (T4.setTop (mkF m 14 #[.val (.ref a1)] [(.long (z2.toInt64)), (.long (9223372036854775807 : Int64)), (.long (w2 - (1 : Int64)))])) _
      refine XS.ldiv X4.here hx rfl (hb hby doff_14) rfl (own_nz hz) ?_
      show Steps p.tables e below (T4.setTop (mkF m 15 #[.val (.ref a1)] [(.long ((9223372036854775807 : Int64) / (z2.toInt64))), (.long (w2 - (1 : Int64)))])) _
      refine XS.lcmp X4.here hx rfl (hb hby doff_15) rfl ?_
      show Steps p.tables e below (T4.setTop (mkF m 16 #[.val (.ref a1)] [(.int (lcmpW (w2 - (1 : Int64)) ((9223372036854775807 : Int64) / (z2.toInt64))))])) _
      refine XS.ifNo X4.here hx rfl (hb hby doff_16) rfl ((if0 _ _).trans (tlt (show (0 : Int32) < (lcmpW (w2 - (1 : Int64)) ((9223372036854775807 : Int64) / (z2.toInt64))) from hov)).2.2.2) ?_
      show Steps p.tables e below (T4.setTop (mkF m 19 #[.val (.ref a1)] [])) _
      refine X4.ldc2Long hx hown (mvT hZ (hw _ (List.mem_of_getElem? (i := 26) rfl))) (g := (mkF m 19 #[.val (.ref a1)] [])) rfl (hb hby doff_19) _ ?_
      show Steps p.tables e below (T4.setTop (mkF m 22 #[.val (.ref a1)] [(.long (9223372036854775807 : Int64))])) _
      refine XS.goto X4.here hx rfl (pc0 := 22) (pc' := 37) rfl (hb hby doff_22) (by decide) (by decide) ?_
      exact kk_
    obtain ⟨fs, hr, hrun, hended, hW, hsame⟩ := X4.leave (v := some (.long (own_off w2 z2))) (fun h => by rw [Bd.returns] at h; cases h)
    refine ⟨_, _, p_5 _ ?_, hrun, hended, _, _, rfl, ?_, ⟨_, rfl⟩, hW, hsame.mono (by decide) (by decide)⟩
    · show Steps p.tables e below (T4.setTop (mkF m 37 #[.val (.ref a1)] [(.long (9223372036854775807 : Int64))])) _
      have hval : (own_off w2 z2) = (9223372036854775807 : Int64) := by
        simp only [own_off, if_pos hov]
      rw [hval] at hr
      jvm_step X4.here [X4.here.top, hx, (hb hby doff_37), X4.method', Bd.returns, narrow]
      first | (intro acts; rw [hr _ acts rfl rfl rfl]) | rw [hr _ _ rfl rfl rfl]
      exact Steps.refl _
    · show Q_off Z a1 w2 z2 h0 n0 _ T4.heap _
      rw [e4]
      exact ⟨rfl, N0, rfl⟩
  have p_6 : ∀ tg_, Steps p.tables e below (s₁.setTop (mkF m 1 #[.val (.ref a1)] [(.ref a1)])) tg_ → Steps p.tables e below (s₁.setTop (entryFrame m #[(.ref a1)] 1)) tg_ := by
    intro tg_ kk_
    refine pre0 tg_ ?_
    show Steps p.tables e below (s₁.setTop (mkF m 0 #[.val (.ref a1)] [])) _
    refine XS.aloadN X0.here hx rfl (hb hby doff_0) rfl rfl ?_
    exact kk_
  obtain ⟨T7, X7, e7, st7⟩ := getF X0 hx hZ hown (host := "") (Or.inl (hw _ (List.mem_of_getElem? (i := 17) rfl))) Via.refl e0 F1 (g := (mkF m 1 #[.val (.ref a1)] [(.ref a1)])) rfl rfl (hb hby doff_1)
  have p_8 : ∀ tg_, Steps p.tables e below (T7.setTop (mkF m 10 #[.val (.ref a1)] [(.ref a1), (.long (9223372036854775807 : Int64)), (.long (w2 - (1 : Int64)))])) tg_ → Steps p.tables e below (s₁.setTop (entryFrame m #[(.ref a1)] 1)) tg_ := by
    intro tg_ kk_
    refine p_6 tg_ ?_
    refine st7 _ ?_
    show Steps p.tables e below (T7.setTop (mkF m 4 #[.val (.ref a1)] [(.long w2)])) _
    refine XS.lconst X7.here hx rfl (hb hby doff_4) ?_
    show Steps p.tables e below (T7.setTop (mkF m 5 #[.val (.ref a1)] [(.long (1 : Int64)), (.long w2)])) _
    refine XS.lsub X7.here hx rfl (hb hby doff_5) rfl ?_
    show Steps p.tables e below (T7.setTop (mkF m 6 #[.val (.ref a1)] [(.long (w2 - (1 : Int64)))])) _
    refine X7.ldc2Long hx hown (mvT hZ (hw _ (List.mem_of_getElem? (i := 26) rfl))) (g := (mkF m 6 #[.val (.ref a1)] [(.long (w2 - (1 : Int64)))])) rfl (hb hby doff_6) _ ?_
    show Steps p.tables e below (T7.setTop (mkF m 9 #[.val (.ref a1)] [(.long (9223372036854775807 : Int64)), (.long (w2 - (1 : Int64)))])) _
    refine XS.aloadN X7.here hx rfl (hb hby doff_9) rfl rfl ?_
    exact kk_
  obtain ⟨T9, X9, e9, st9⟩ := getF X7 hx hZ hown (host := "") (Or.inl (hw _ (List.mem_of_getElem? (i := 19) rfl))) Via.refl e7 F2 (g := (mkF m 10 #[.val (.ref a1)] [(.ref a1), (.long (9223372036854775807 : Int64)), (.long (w2 - (1 : Int64)))])) rfl rfl (hb hby doff_10)
  have p_10 : ∀ tg_, Steps p.tables e below (T9.setTop (mkF m 26 #[.val (.ref a1)] [(.ref a1)])) tg_ → Steps p.tables e below (s₁.setTop (entryFrame m #[(.ref a1)] 1)) tg_ := by
    intro tg_ kk_
    refine p_8 tg_ ?_
    refine st9 _ ?_
    show Steps p.tables e below (T9.setTop (mkF m 13 #[.val (.ref a1)] [(.int z2), (.long (9223372036854775807 : Int64)), (.long (w2 - (1 : Int64)))])) _
    refine XS.i2l X9.here hx rfl (hb hby doff_13) rfl ?_
    show Steps p.tables e below (T9.setTop (mkF m 14 #[.val (.ref a1)] [(.long (z2.toInt64)), (.long (9223372036854775807 : Int64)), (.long (w2 - (1 : Int64)))])) _
    refine XS.ldiv X9.here hx rfl (hb hby doff_14) rfl (own_nz hz) ?_
    show Steps p.tables e below (T9.setTop (mkF m 15 #[.val (.ref a1)] [(.long ((9223372036854775807 : Int64) / (z2.toInt64))), (.long (w2 - (1 : Int64)))])) _
    refine XS.lcmp X9.here hx rfl (hb hby doff_15) rfl ?_
    show Steps p.tables e below (T9.setTop (mkF m 16 #[.val (.ref a1)] [(.int (lcmpW (w2 - (1 : Int64)) ((9223372036854775807 : Int64) / (z2.toInt64))))])) _
    refine XS.ifYes X9.here hx rfl (pc0 := 16) (pc' := 25) rfl (hb hby doff_16) rfl ((if0 _ _).trans (flt (show ¬ ((0 : Int32) < (lcmpW (w2 - (1 : Int64)) ((9223372036854775807 : Int64) / (z2.toInt64)))) from hov)).2.2.2) (by decide) (by decide) ?_
    show Steps p.tables e below (T9.setTop (mkF m 25 #[.val (.ref a1)] [])) _
    refine XS.aloadN X9.here hx rfl (hb hby doff_25) rfl rfl ?_
    exact kk_
  obtain ⟨T11, X11, e11, st11⟩ := getF X9 hx hZ hown (host := "") (Or.inl (hw _ (List.mem_of_getElem? (i := 17) rfl))) Via.refl e9 F1 (g := (mkF m 26 #[.val (.ref a1)] [(.ref a1)])) rfl rfl (hb hby doff_26)
  have p_12 : ∀ tg_, Steps p.tables e below (T11.setTop (mkF m 32 #[.val (.ref a1)] [(.ref a1), (.long (w2 - (1 : Int64)))])) tg_ → Steps p.tables e below (s₁.setTop (entryFrame m #[(.ref a1)] 1)) tg_ := by
    intro tg_ kk_
    refine p_10 tg_ ?_
    refine st11 _ ?_
    show Steps p.tables e below (T11.setTop (mkF m 29 #[.val (.ref a1)] [(.long w2)])) _
    refine XS.lconst X11.here hx rfl (hb hby doff_29) ?_
    show Steps p.tables e below (T11.setTop (mkF m 30 #[.val (.ref a1)] [(.long (1 : Int64)), (.long w2)])) _
    refine XS.lsub X11.here hx rfl (hb hby doff_30) rfl ?_
    show Steps p.tables e below (T11.setTop (mkF m 31 #[.val (.ref a1)] [(.long (w2 - (1 : Int64)))])) _
    refine XS.aloadN X11.here hx rfl (hb hby doff_31) rfl rfl ?_
    exact kk_
  obtain ⟨T13, X13, e13, st13⟩ := getF X11 hx hZ hown (host := "") (Or.inl (hw _ (List.mem_of_getElem? (i := 19) rfl))) Via.refl e11 F2 (g := (mkF m 32 #[.val (.ref a1)] [(.ref a1), (.long (w2 - (1 : Int64)))])) rfl rfl (hb hby doff_32)
  have p_14 : ∀ tg_, Steps p.tables e below (T13.setTop (mkF m 37 #[.val (.ref a1)] [(.long ((w2 - (1 : Int64)) * (z2.toInt64)))])) tg_ → Steps p.tables e below (s₁.setTop (entryFrame m #[(.ref a1)] 1)) tg_ := by
    intro tg_ kk_
    refine p_12 tg_ ?_
    refine st13 _ ?_
    show Steps p.tables e below (T13.setTop (mkF m 35 #[.val (.ref a1)] [(.int z2), (.long (w2 - (1 : Int64)))])) _
    refine XS.i2l X13.here hx rfl (hb hby doff_35) rfl ?_
    show Steps p.tables e below (T13.setTop (mkF m 36 #[.val (.ref a1)] [(.long (z2.toInt64)), (.long (w2 - (1 : Int64)))])) _
    refine XS.lmul X13.here hx rfl (hb hby doff_36) rfl ?_
    exact kk_
  obtain ⟨fs, hr, hrun, hended, hW, hsame⟩ := X13.leave (v := some (.long (own_off w2 z2))) (fun h => by rw [Bd.returns] at h; cases h)
  refine ⟨_, _, p_14 _ ?_, hrun, hended, _, _, rfl, ?_, ⟨_, rfl⟩, hW, hsame.mono (by decide) (by decide)⟩
  · show Steps p.tables e below (T13.setTop (mkF m 37 #[.val (.ref a1)] [(.long ((w2 - (1 : Int64)) * (z2.toInt64)))])) _
    have hval : (own_off w2 z2) = ((w2 - (1 : Int64)) * (z2.toInt64)) := by
      simp only [own_off, if_neg hov]
    rw [hval] at hr
    jvm_step X13.here [X13.here.top, hx, (hb hby doff_37), X13.method', Bd.returns, narrow]
    first | (intro acts; rw [hr _ acts rfl rfl rfl]) | rw [hr _ _ rfl rfl rfl]
    exact Steps.refl _
  · show Q_off Z a1 w2 z2 h0 n0 _ T13.heap _
    rw [e13]
    exact ⟨rfl, N0, rfl⟩
theorem own_sub2 {a b : Int64} {P : Int64 → Prop} (h : a = b) (k : P a) : P b := h ▸ k
theorem pd_law_0 : parseMethodDescriptor "(JJ)J" = some ⟨[.long, .long], some .long⟩ := by decide +kernel
theorem pd_law_1 : parseMethodDescriptor "(JI)V" = some ⟨[.long, .int], none⟩ := by decide +kernel
theorem pd_law_2 : parseMethodDescriptor "()J" = some ⟨[], some .long⟩ := by decide +kernel
theorem pn_law : plainName "com/example/guildhall/guildhall/PageOffsetPinLaw" = true := by first | (simp [plainName, overriddenIn]; done) | decide +kernel
theorem ef_law (m : MethodId) (x0 : Int64) (x1 : Int32) (x2 : Int32) : entryFrame m #[(.long x0), (.int x1), (.int x2)] maxLocals = mkF m 0 #[.val (.long x0), .second, .val (.int x1), .val (.int x2), .unset, .unset, .unset, .unset, .unset, .unset, .unset, .unset, .unset, .unset, .unset, .unset, .unset, .unset, .unset, .unset, .unset, .unset] [] := by first | (simp [entryFrame, mkF, argsToLocals, Value.category, maxLocals]; done) | rfl
def Q_law (Z : State) (p1 : Int64) (p2 p3 : Int32) (h0 : Heap) (n0 : Nat) (v : Option Value) (h : Heap) (L : List Loc) : Prop := v = some (.int 1) ∧ Fr n0 L
set_option maxRecDepth 65536 in
set_option maxHeartbeats 40000000 in
theorem rm_law (l : Launch) (Z : State) (a0 : Array Value) (hw : ∀ d ∈ tables_1, d.before a0 Z = true) (ws : List Jvm.Cond) (p1 : Int64) (p2 p3 : Int32) (h0 : Heap) (n0 : Nat) (Z0 : n0 ≤ h0.size)  :
    MetFree l x (head1 (Jvm.Cond.code x code maxLocals ret :: ws) room_1) (fun a U => a = #[(.long p1), (.int p2), (.int p3)] ∧ Z.Warmed39 U.vm ∧ U.heap = h0) (fun _ _ _ _ _ => True) (fun _ U o U' => ∃ v L, o = .returned v ∧ Q_law Z p1 p2 p3 h0 n0 v U'.heap L ∧ FrameEnd U o U' L room_1.cells room_1.slots) := by
  refine MetFree.of_bodySF (plainFor_of_name pn_law) hisR ?_
  intro p e s m args below meth c s₁ Bd hml0 hP hK
  obtain ⟨rfl, hZ, hh⟩ := hP
  have hx := Bd.exec
  have hby := Bd.bytes
  have hml : c.maxLocals = 22 := hml0
  have hown : s.vm.findClass "com/example/guildhall/guildhall/PageOffsetPinLaw" = some m.cls := findClass_of_methodNamed Bd.named
  have hnm := (name_of_methodNamed Bd.named Bd.method).1
  have X0 : Stand p l e room_1 s m #[(.long p1), (.int p2), (.int p3)] below meth c s₁ [] 0 0 := Stand.of_body Bd
  have e0 : s₁.heap = h0 := by rw [← hh, Bd.state]; rfl
  have N0 := Fr.nil n0
  have pre0 : ∀ tg_, Steps p.tables e below (s₁.setTop (mkF m 0 #[.val (.long p1), .second, .val (.int p2), .val (.int p3), .unset, .unset, .unset, .unset, .unset, .unset, .unset, .unset, .unset, .unset, .unset, .unset, .unset, .unset, .unset, .unset, .unset, .unset] [])) tg_ → Steps p.tables e below (s₁.setTop (entryFrame m #[(.long p1), (.int p2), (.int p3)] maxLocals)) tg_ := fun tg_ k => castTop (ef_law m p1 p2 p3) k
  have p_1 : ∀ tg_, Steps p.tables e below (s₁.setTop (mkF m 9 #[.val (.long p1), .second, .val (.int p2), .val (.int p3), .unset, .unset, .unset, .unset, .unset, .unset, .unset, .unset, .unset, .unset, .unset, .unset, .unset, .unset, .unset, .unset, .unset, .unset] [(.int (((p2 &&& (2147483647 : Int32)) % (100 : Int32)) + (1 : Int32)))])) tg_ → Steps p.tables e below (s₁.setTop (entryFrame m #[(.long p1), (.int p2), (.int p3)] maxLocals)) tg_ := by
    intro tg_ kk_
    refine pre0 tg_ ?_
    show Steps p.tables e below (s₁.setTop (mkF m 0 #[.val (.long p1), .second, .val (.int p2), .val (.int p3), .unset, .unset, .unset, .unset, .unset, .unset, .unset, .unset, .unset, .unset, .unset, .unset, .unset, .unset, .unset, .unset, .unset, .unset] [])) _
    refine XS.iloadN X0.here hx rfl (hb hby at_0) rfl ?_
    show Steps p.tables e below (s₁.setTop (mkF m 1 #[.val (.long p1), .second, .val (.int p2), .val (.int p3), .unset, .unset, .unset, .unset, .unset, .unset, .unset, .unset, .unset, .unset, .unset, .unset, .unset, .unset, .unset, .unset, .unset, .unset] [(.int p2)])) _
    refine X0.ldcInt hx hown (mvT hZ (hw _ (List.mem_of_getElem? (i := 0) rfl))) (g := (mkF m 1 #[.val (.long p1), .second, .val (.int p2), .val (.int p3), .unset, .unset, .unset, .unset, .unset, .unset, .unset, .unset, .unset, .unset, .unset, .unset, .unset, .unset, .unset, .unset, .unset, .unset] [(.int p2)])) rfl (hb hby at_1) _ ?_
    show Steps p.tables e below (s₁.setTop (mkF m 3 #[.val (.long p1), .second, .val (.int p2), .val (.int p3), .unset, .unset, .unset, .unset, .unset, .unset, .unset, .unset, .unset, .unset, .unset, .unset, .unset, .unset, .unset, .unset, .unset, .unset] [(.int (2147483647 : Int32)), (.int p2)])) _
    refine XS.iand X0.here hx rfl (hb hby at_3) rfl ?_
    show Steps p.tables e below (s₁.setTop (mkF m 4 #[.val (.long p1), .second, .val (.int p2), .val (.int p3), .unset, .unset, .unset, .unset, .unset, .unset, .unset, .unset, .unset, .unset, .unset, .unset, .unset, .unset, .unset, .unset, .unset, .unset] [(.int (p2 &&& (2147483647 : Int32)))])) _
    refine XS.bipush X0.here hx rfl (hb hby at_4) ?_
    show Steps p.tables e below (s₁.setTop (mkF m 6 #[.val (.long p1), .second, .val (.int p2), .val (.int p3), .unset, .unset, .unset, .unset, .unset, .unset, .unset, .unset, .unset, .unset, .unset, .unset, .unset, .unset, .unset, .unset, .unset, .unset] [(.int (100 : Int32)), (.int (p2 &&& (2147483647 : Int32)))])) _
    refine XS.irem X0.here hx rfl (hb hby at_6) rfl (by decide) ?_
    rw [own_irem (p2 &&& (2147483647 : Int32)) (100 : Int32)]
    show Steps p.tables e below (s₁.setTop (mkF m 7 #[.val (.long p1), .second, .val (.int p2), .val (.int p3), .unset, .unset, .unset, .unset, .unset, .unset, .unset, .unset, .unset, .unset, .unset, .unset, .unset, .unset, .unset, .unset, .unset, .unset] [(.int ((p2 &&& (2147483647 : Int32)) % (100 : Int32)))])) _
    refine XS.iconst X0.here hx rfl (hb hby at_7) ?_
    show Steps p.tables e below (s₁.setTop (mkF m 8 #[.val (.long p1), .second, .val (.int p2), .val (.int p3), .unset, .unset, .unset, .unset, .unset, .unset, .unset, .unset, .unset, .unset, .unset, .unset, .unset, .unset, .unset, .unset, .unset, .unset] [(.int (1 : Int32)), (.int ((p2 &&& (2147483647 : Int32)) % (100 : Int32)))])) _
    refine XS.iadd X0.here hx rfl (hb hby at_8) rfl ?_
    exact kk_
  obtain ⟨sz, h_sz⟩ : ∃ z, z = (((p2 &&& (2147483647 : Int32)) % (100 : Int32)) + (1 : Int32)) := ⟨_, rfl⟩
  rw [← h_sz] at p_1
  have hz1 : 1 ≤ sz.toInt := by rw [h_sz]; exact (own_sz p2).1
  have hz2 : sz.toInt ≤ 100 := by rw [h_sz]; exact (own_sz p2).2
  have p_2 : ∀ tg_, Steps p.tables e below (s₁.setTop (mkF m 34 #[.val (.long p1), .second, .val (.int p2), .val (.int p3), .val (.int sz), .val (.long ((9223372036854775807 : Int64) / (sz.toInt64))), .second, .val (.long (p1 &&& (3 : Int64))), .second, .val (.int (p3 &&& (3 : Int32))), .unset, .unset, .unset, .unset, .unset, .unset, .unset, .unset, .unset, .unset, .unset, .unset] [(.int (p3 &&& (3 : Int32)))])) tg_ → Steps p.tables e below (s₁.setTop (entryFrame m #[(.long p1), (.int p2), (.int p3)] maxLocals)) tg_ := by
    intro tg_ kk_
    refine p_1 tg_ ?_
    show Steps p.tables e below (s₁.setTop (mkF m 9 #[.val (.long p1), .second, .val (.int p2), .val (.int p3), .unset, .unset, .unset, .unset, .unset, .unset, .unset, .unset, .unset, .unset, .unset, .unset, .unset, .unset, .unset, .unset, .unset, .unset] [(.int sz)])) _
    refine XS.istore X0.here hx rfl (hb hby at_9) rfl (l' := #[.val (.long p1), .second, .val (.int p2), .val (.int p3), .val (.int sz), .unset, .unset, .unset, .unset, .unset, .unset, .unset, .unset, .unset, .unset, .unset, .unset, .unset, .unset, .unset, .unset, .unset]) rfl ?_
    show Steps p.tables e below (s₁.setTop (mkF m 11 #[.val (.long p1), .second, .val (.int p2), .val (.int p3), .val (.int sz), .unset, .unset, .unset, .unset, .unset, .unset, .unset, .unset, .unset, .unset, .unset, .unset, .unset, .unset, .unset, .unset, .unset] [])) _
    refine X0.ldc2Long hx hown (mvT hZ (hw _ (List.mem_of_getElem? (i := 1) rfl))) (g := (mkF m 11 #[.val (.long p1), .second, .val (.int p2), .val (.int p3), .val (.int sz), .unset, .unset, .unset, .unset, .unset, .unset, .unset, .unset, .unset, .unset, .unset, .unset, .unset, .unset, .unset, .unset, .unset] [])) rfl (hb hby at_11) _ ?_
    show Steps p.tables e below (s₁.setTop (mkF m 14 #[.val (.long p1), .second, .val (.int p2), .val (.int p3), .val (.int sz), .unset, .unset, .unset, .unset, .unset, .unset, .unset, .unset, .unset, .unset, .unset, .unset, .unset, .unset, .unset, .unset, .unset] [(.long (9223372036854775807 : Int64))])) _
    refine XS.iload X0.here hx rfl (hb hby at_14) rfl ?_
    show Steps p.tables e below (s₁.setTop (mkF m 16 #[.val (.long p1), .second, .val (.int p2), .val (.int p3), .val (.int sz), .unset, .unset, .unset, .unset, .unset, .unset, .unset, .unset, .unset, .unset, .unset, .unset, .unset, .unset, .unset, .unset, .unset] [(.int sz), (.long (9223372036854775807 : Int64))])) _
    refine XS.i2l X0.here hx rfl (hb hby at_16) rfl ?_
    show Steps p.tables e below (s₁.setTop (mkF m 17 #[.val (.long p1), .second, .val (.int p2), .val (.int p3), .val (.int sz), .unset, .unset, .unset, .unset, .unset, .unset, .unset, .unset, .unset, .unset, .unset, .unset, .unset, .unset, .unset, .unset, .unset] [(.long (sz.toInt64)), (.long (9223372036854775807 : Int64))])) _
    refine XS.ldiv X0.here hx rfl (hb hby at_17) rfl (own_nz hz1) ?_
    show Steps p.tables e below (s₁.setTop (mkF m 18 #[.val (.long p1), .second, .val (.int p2), .val (.int p3), .val (.int sz), .unset, .unset, .unset, .unset, .unset, .unset, .unset, .unset, .unset, .unset, .unset, .unset, .unset, .unset, .unset, .unset, .unset] [(.long ((9223372036854775807 : Int64) / (sz.toInt64)))])) _
    refine XS.lstore X0.here hx rfl (hb hby at_18) rfl (l' := #[.val (.long p1), .second, .val (.int p2), .val (.int p3), .val (.int sz), .val (.long ((9223372036854775807 : Int64) / (sz.toInt64))), .second, .unset, .unset, .unset, .unset, .unset, .unset, .unset, .unset, .unset, .unset, .unset, .unset, .unset, .unset, .unset]) rfl ?_
    show Steps p.tables e below (s₁.setTop (mkF m 20 #[.val (.long p1), .second, .val (.int p2), .val (.int p3), .val (.int sz), .val (.long ((9223372036854775807 : Int64) / (sz.toInt64))), .second, .unset, .unset, .unset, .unset, .unset, .unset, .unset, .unset, .unset, .unset, .unset, .unset, .unset, .unset, .unset] [])) _
    refine XS.lloadN X0.here hx rfl (hb hby at_20) rfl ?_
    show Steps p.tables e below (s₁.setTop (mkF m 21 #[.val (.long p1), .second, .val (.int p2), .val (.int p3), .val (.int sz), .val (.long ((9223372036854775807 : Int64) / (sz.toInt64))), .second, .unset, .unset, .unset, .unset, .unset, .unset, .unset, .unset, .unset, .unset, .unset, .unset, .unset, .unset, .unset] [(.long p1)])) _
    refine X0.ldc2Long hx hown (mvT hZ (hw _ (List.mem_of_getElem? (i := 2) rfl))) (g := (mkF m 21 #[.val (.long p1), .second, .val (.int p2), .val (.int p3), .val (.int sz), .val (.long ((9223372036854775807 : Int64) / (sz.toInt64))), .second, .unset, .unset, .unset, .unset, .unset, .unset, .unset, .unset, .unset, .unset, .unset, .unset, .unset, .unset, .unset] [(.long p1)])) rfl (hb hby at_21) _ ?_
    show Steps p.tables e below (s₁.setTop (mkF m 24 #[.val (.long p1), .second, .val (.int p2), .val (.int p3), .val (.int sz), .val (.long ((9223372036854775807 : Int64) / (sz.toInt64))), .second, .unset, .unset, .unset, .unset, .unset, .unset, .unset, .unset, .unset, .unset, .unset, .unset, .unset, .unset, .unset] [(.long (3 : Int64)), (.long p1)])) _
    refine XS.land X0.here hx rfl (hb hby at_24) rfl ?_
    show Steps p.tables e below (s₁.setTop (mkF m 25 #[.val (.long p1), .second, .val (.int p2), .val (.int p3), .val (.int sz), .val (.long ((9223372036854775807 : Int64) / (sz.toInt64))), .second, .unset, .unset, .unset, .unset, .unset, .unset, .unset, .unset, .unset, .unset, .unset, .unset, .unset, .unset, .unset] [(.long (p1 &&& (3 : Int64)))])) _
    refine XS.lstore X0.here hx rfl (hb hby at_25) rfl (l' := #[.val (.long p1), .second, .val (.int p2), .val (.int p3), .val (.int sz), .val (.long ((9223372036854775807 : Int64) / (sz.toInt64))), .second, .val (.long (p1 &&& (3 : Int64))), .second, .unset, .unset, .unset, .unset, .unset, .unset, .unset, .unset, .unset, .unset, .unset, .unset, .unset]) rfl ?_
    show Steps p.tables e below (s₁.setTop (mkF m 27 #[.val (.long p1), .second, .val (.int p2), .val (.int p3), .val (.int sz), .val (.long ((9223372036854775807 : Int64) / (sz.toInt64))), .second, .val (.long (p1 &&& (3 : Int64))), .second, .unset, .unset, .unset, .unset, .unset, .unset, .unset, .unset, .unset, .unset, .unset, .unset, .unset] [])) _
    refine XS.iloadN X0.here hx rfl (hb hby at_27) rfl ?_
    show Steps p.tables e below (s₁.setTop (mkF m 28 #[.val (.long p1), .second, .val (.int p2), .val (.int p3), .val (.int sz), .val (.long ((9223372036854775807 : Int64) / (sz.toInt64))), .second, .val (.long (p1 &&& (3 : Int64))), .second, .unset, .unset, .unset, .unset, .unset, .unset, .unset, .unset, .unset, .unset, .unset, .unset, .unset] [(.int p3)])) _
    refine XS.iconst X0.here hx rfl (hb hby at_28) ?_
    show Steps p.tables e below (s₁.setTop (mkF m 29 #[.val (.long p1), .second, .val (.int p2), .val (.int p3), .val (.int sz), .val (.long ((9223372036854775807 : Int64) / (sz.toInt64))), .second, .val (.long (p1 &&& (3 : Int64))), .second, .unset, .unset, .unset, .unset, .unset, .unset, .unset, .unset, .unset, .unset, .unset, .unset, .unset] [(.int (3 : Int32)), (.int p3)])) _
    refine XS.iand X0.here hx rfl (hb hby at_29) rfl ?_
    show Steps p.tables e below (s₁.setTop (mkF m 30 #[.val (.long p1), .second, .val (.int p2), .val (.int p3), .val (.int sz), .val (.long ((9223372036854775807 : Int64) / (sz.toInt64))), .second, .val (.long (p1 &&& (3 : Int64))), .second, .unset, .unset, .unset, .unset, .unset, .unset, .unset, .unset, .unset, .unset, .unset, .unset, .unset] [(.int (p3 &&& (3 : Int32)))])) _
    refine XS.istore X0.here hx rfl (hb hby at_30) rfl (l' := #[.val (.long p1), .second, .val (.int p2), .val (.int p3), .val (.int sz), .val (.long ((9223372036854775807 : Int64) / (sz.toInt64))), .second, .val (.long (p1 &&& (3 : Int64))), .second, .val (.int (p3 &&& (3 : Int32))), .unset, .unset, .unset, .unset, .unset, .unset, .unset, .unset, .unset, .unset, .unset, .unset]) rfl ?_
    show Steps p.tables e below (s₁.setTop (mkF m 32 #[.val (.long p1), .second, .val (.int p2), .val (.int p3), .val (.int sz), .val (.long ((9223372036854775807 : Int64) / (sz.toInt64))), .second, .val (.long (p1 &&& (3 : Int64))), .second, .val (.int (p3 &&& (3 : Int32))), .unset, .unset, .unset, .unset, .unset, .unset, .unset, .unset, .unset, .unset, .unset, .unset] [])) _
    refine XS.iload X0.here hx rfl (hb hby at_32) rfl ?_
    exact kk_
  obtain ⟨nb, T9, L9, X9, e9, N9, hnb, p_3⟩ : ∃ (nb : Int64) (T9 : State) (L9 : List Loc), Stand p l e room_1 s m #[(.long p1), (.int p2), (.int p3)] below meth c T9 L9 0 0 ∧ T9.heap = h0 ∧ Fr n0 L9 ∧ 1 ≤ nb.toInt ∧ ∀ t, Steps p.tables e below (T9.setTop (mkF m 109 #[.val (.long p1), .second, .val (.int p2), .val (.int p3), .val (.int sz), .val (.long ((9223372036854775807 : Int64) / (sz.toInt64))), .second, .val (.long (p1 &&& (3 : Int64))), .second, .val (.int (p3 &&& (3 : Int32))), .val (.long nb), .second, .unset, .unset, .unset, .unset, .unset, .unset, .unset, .unset, .unset, .unset] [])) t → Steps p.tables e below (s₁.setTop (entryFrame m #[(.long p1), (.int p2), (.int p3)] maxLocals)) t := by
    by_cases h0' : (p3 &&& (3 : Int32)) = (0 : Int32)
    · have hk : True := trivial
      have p_4 : ∀ tg_, Steps p.tables e below (s₁.setTop (mkF m 43 #[.val (.long p1), .second, .val (.int p2), .val (.int p3), .val (.int sz), .val (.long ((9223372036854775807 : Int64) / (sz.toInt64))), .second, .val (.long (p1 &&& (3 : Int64))), .second, .val (.int (p3 &&& (3 : Int32))), .unset, .unset, .unset, .unset, .unset, .unset, .unset, .unset, .unset, .unset, .unset, .unset] [(.long (p1 &&& (9223372036854775807 : Int64))), (.long (1 : Int64))])) tg_ → Steps p.tables e below (s₁.setTop (entryFrame m #[(.long p1), (.int p2), (.int p3)] maxLocals)) tg_ := by
        intro tg_ kk_
        refine p_2 tg_ ?_
        show Steps p.tables e below (s₁.setTop (mkF m 34 #[.val (.long p1), .second, .val (.int p2), .val (.int p3), .val (.int sz), .val (.long ((9223372036854775807 : Int64) / (sz.toInt64))), .second, .val (.long (p1 &&& (3 : Int64))), .second, .val (.int (p3 &&& (3 : Int32))), .unset, .unset, .unset, .unset, .unset, .unset, .unset, .unset, .unset, .unset, .unset, .unset] [(.int (p3 &&& (3 : Int32)))])) _
        refine XS.ifNo X0.here hx rfl (hb hby at_34) rfl ((if0 _ _).trans (teq (show (p3 &&& (3 : Int32)) = (0 : Int32) from h0')).2) ?_
        show Steps p.tables e below (s₁.setTop (mkF m 37 #[.val (.long p1), .second, .val (.int p2), .val (.int p3), .val (.int sz), .val (.long ((9223372036854775807 : Int64) / (sz.toInt64))), .second, .val (.long (p1 &&& (3 : Int64))), .second, .val (.int (p3 &&& (3 : Int32))), .unset, .unset, .unset, .unset, .unset, .unset, .unset, .unset, .unset, .unset, .unset, .unset] [])) _
        refine XS.lconst X0.here hx rfl (hb hby at_37) ?_
        show Steps p.tables e below (s₁.setTop (mkF m 38 #[.val (.long p1), .second, .val (.int p2), .val (.int p3), .val (.int sz), .val (.long ((9223372036854775807 : Int64) / (sz.toInt64))), .second, .val (.long (p1 &&& (3 : Int64))), .second, .val (.int (p3 &&& (3 : Int32))), .unset, .unset, .unset, .unset, .unset, .unset, .unset, .unset, .unset, .unset, .unset, .unset] [(.long (1 : Int64))])) _
        refine XS.lloadN X0.here hx rfl (hb hby at_38) rfl ?_
        show Steps p.tables e below (s₁.setTop (mkF m 39 #[.val (.long p1), .second, .val (.int p2), .val (.int p3), .val (.int sz), .val (.long ((9223372036854775807 : Int64) / (sz.toInt64))), .second, .val (.long (p1 &&& (3 : Int64))), .second, .val (.int (p3 &&& (3 : Int32))), .unset, .unset, .unset, .unset, .unset, .unset, .unset, .unset, .unset, .unset, .unset, .unset] [(.long p1), (.long (1 : Int64))])) _
        refine X0.ldc2Long hx hown (mvT hZ (hw _ (List.mem_of_getElem? (i := 1) rfl))) (g := (mkF m 39 #[.val (.long p1), .second, .val (.int p2), .val (.int p3), .val (.int sz), .val (.long ((9223372036854775807 : Int64) / (sz.toInt64))), .second, .val (.long (p1 &&& (3 : Int64))), .second, .val (.int (p3 &&& (3 : Int32))), .unset, .unset, .unset, .unset, .unset, .unset, .unset, .unset, .unset, .unset, .unset, .unset] [(.long p1), (.long (1 : Int64))])) rfl (hb hby at_39) _ ?_
        show Steps p.tables e below (s₁.setTop (mkF m 42 #[.val (.long p1), .second, .val (.int p2), .val (.int p3), .val (.int sz), .val (.long ((9223372036854775807 : Int64) / (sz.toInt64))), .second, .val (.long (p1 &&& (3 : Int64))), .second, .val (.int (p3 &&& (3 : Int32))), .unset, .unset, .unset, .unset, .unset, .unset, .unset, .unset, .unset, .unset, .unset, .unset] [(.long (9223372036854775807 : Int64)), (.long p1), (.long (1 : Int64))])) _
        refine XS.land X0.here hx rfl (hb hby at_42) rfl ?_
        exact kk_
      obtain ⟨_, _, ⟨T5, L5, k5, n5⟩, -, X5, ⟨Lc5, hQ5, l5, y5, z5⟩, st5⟩ := Jvm.LawKit.callS X0 hx (y := (⟨"java/lang/Math", "max", "(JJ)J"⟩ : MethodName)) hown (mvT hZ (hw _ (List.mem_of_getElem? (i := 28) rfl))) (mvT hZ (hw _ (List.mem_of_getElem? (i := 29) rfl))) (mvT hZ (hw _ (List.mem_of_getElem? (i := 30) rfl))) (mvT hZ (hw _ (List.mem_of_getElem? (i := 31) rfl))) (by decide) (backOf (W := 0) (rm_max l Z a0 hw [] (1 : Int64) (p1 &&& (9223372036854775807 : Int64)) h0 n0 Z0) hZ (hw _ (List.mem_of_getElem? (i := 31) rfl)) (hw _ (List.mem_of_getElem? (i := 30) rfl)) (by decide) (by decide)) (g := (mkF m 43 #[.val (.long p1), .second, .val (.int p2), .val (.int p3), .val (.int sz), .val (.long ((9223372036854775807 : Int64) / (sz.toInt64))), .second, .val (.long (p1 &&& (3 : Int64))), .second, .val (.int (p3 &&& (3 : Int32))), .unset, .unset, .unset, .unset, .unset, .unset, .unset, .unset, .unset, .unset, .unset, .unset] [(.long (p1 &&& (9223372036854775807 : Int64))), (.long (1 : Int64))])) rfl (by rw [hml]; rfl) (argsL := [(.long (1 : Int64)), (.long (p1 &&& (9223372036854775807 : Int64)))]) (rest := []) (lenOf pd_law_0 rfl) rfl (by show 2 * 0 + _ ≤ _; exact Nat.le_of_eq rfl) (hb hby at_43) (fun _ _ => ⟨rfl, e0, (by decide : 0 + 0 ≤ _), (by decide : 0 + 0 ≤ _)⟩)
      dsimp only [Pt.U, Pt.locs, Pt.cells, Pt.slots] at X5 l5 y5 z5 st5 hQ5
      subst l5 y5 z5
      obtain ⟨rfl, N5q, hh5⟩ := hQ5
      have N5 := Fr.app N0 N5q
      have p_6 : ∀ tg_, Steps p.tables e below (T5.setTop (mkF m 109 #[.val (.long p1), .second, .val (.int p2), .val (.int p3), .val (.int sz), .val (.long ((9223372036854775807 : Int64) / (sz.toInt64))), .second, .val (.long (p1 &&& (3 : Int64))), .second, .val (.int (p3 &&& (3 : Int32))), .val (.long (own_max (1 : Int64) (p1 &&& (9223372036854775807 : Int64)))), .second, .unset, .unset, .unset, .unset, .unset, .unset, .unset, .unset, .unset, .unset] [])) tg_ → Steps p.tables e below (s₁.setTop (entryFrame m #[(.long p1), (.int p2), (.int p3)] maxLocals)) tg_ := by
        intro tg_ kk_
        refine p_4 tg_ ?_
        refine st5 _ ?_
        show Steps p.tables e below (T5.setTop (mkF m 46 #[.val (.long p1), .second, .val (.int p2), .val (.int p3), .val (.int sz), .val (.long ((9223372036854775807 : Int64) / (sz.toInt64))), .second, .val (.long (p1 &&& (3 : Int64))), .second, .val (.int (p3 &&& (3 : Int32))), .unset, .unset, .unset, .unset, .unset, .unset, .unset, .unset, .unset, .unset, .unset, .unset] [(.long (own_max (1 : Int64) (p1 &&& (9223372036854775807 : Int64))))])) _
        refine XS.lstore X5.here hx rfl (hb hby at_46) rfl (l' := #[.val (.long p1), .second, .val (.int p2), .val (.int p3), .val (.int sz), .val (.long ((9223372036854775807 : Int64) / (sz.toInt64))), .second, .val (.long (p1 &&& (3 : Int64))), .second, .val (.int (p3 &&& (3 : Int32))), .val (.long (own_max (1 : Int64) (p1 &&& (9223372036854775807 : Int64)))), .second, .unset, .unset, .unset, .unset, .unset, .unset, .unset, .unset, .unset, .unset]) rfl ?_
        show Steps p.tables e below (T5.setTop (mkF m 48 #[.val (.long p1), .second, .val (.int p2), .val (.int p3), .val (.int sz), .val (.long ((9223372036854775807 : Int64) / (sz.toInt64))), .second, .val (.long (p1 &&& (3 : Int64))), .second, .val (.int (p3 &&& (3 : Int32))), .val (.long (own_max (1 : Int64) (p1 &&& (9223372036854775807 : Int64)))), .second, .unset, .unset, .unset, .unset, .unset, .unset, .unset, .unset, .unset, .unset] [])) _
        refine XS.goto X5.here hx rfl (pc0 := 48) (pc' := 109) rfl (hb hby at_48) (by decide) (by decide) ?_
        exact kk_
      exact ⟨_, _, _, X5, hh5, N5, own_k0 p1, p_6⟩
    by_cases h1' : (p3 &&& (3 : Int32)) = (1 : Int32)
    · have hk : True := trivial
      have p_7 : ∀ tg_, Steps p.tables e below (s₁.setTop (mkF m 109 #[.val (.long p1), .second, .val (.int p2), .val (.int p3), .val (.int sz), .val (.long ((9223372036854775807 : Int64) / (sz.toInt64))), .second, .val (.long (p1 &&& (3 : Int64))), .second, .val (.int (p3 &&& (3 : Int32))), .val (.long (((9223372036854775807 : Int64) / (sz.toInt64)) - (p1 &&& (3 : Int64)))), .second, .unset, .unset, .unset, .unset, .unset, .unset, .unset, .unset, .unset, .unset] [])) tg_ → Steps p.tables e below (s₁.setTop (entryFrame m #[(.long p1), (.int p2), (.int p3)] maxLocals)) tg_ := by
        intro tg_ kk_
        refine p_2 tg_ ?_
        show Steps p.tables e below (s₁.setTop (mkF m 34 #[.val (.long p1), .second, .val (.int p2), .val (.int p3), .val (.int sz), .val (.long ((9223372036854775807 : Int64) / (sz.toInt64))), .second, .val (.long (p1 &&& (3 : Int64))), .second, .val (.int (p3 &&& (3 : Int32))), .unset, .unset, .unset, .unset, .unset, .unset, .unset, .unset, .unset, .unset, .unset, .unset] [(.int (p3 &&& (3 : Int32)))])) _
        refine XS.ifYes X0.here hx rfl (pc0 := 34) (pc' := 51) rfl (hb hby at_34) rfl ((if0 _ _).trans (feq (show ¬ ((p3 &&& (3 : Int32)) = (0 : Int32)) from h0')).2) (by decide) (by decide) ?_
        show Steps p.tables e below (s₁.setTop (mkF m 51 #[.val (.long p1), .second, .val (.int p2), .val (.int p3), .val (.int sz), .val (.long ((9223372036854775807 : Int64) / (sz.toInt64))), .second, .val (.long (p1 &&& (3 : Int64))), .second, .val (.int (p3 &&& (3 : Int32))), .unset, .unset, .unset, .unset, .unset, .unset, .unset, .unset, .unset, .unset, .unset, .unset] [])) _
        refine XS.iload X0.here hx rfl (hb hby at_51) rfl ?_
        show Steps p.tables e below (s₁.setTop (mkF m 53 #[.val (.long p1), .second, .val (.int p2), .val (.int p3), .val (.int sz), .val (.long ((9223372036854775807 : Int64) / (sz.toInt64))), .second, .val (.long (p1 &&& (3 : Int64))), .second, .val (.int (p3 &&& (3 : Int32))), .unset, .unset, .unset, .unset, .unset, .unset, .unset, .unset, .unset, .unset, .unset, .unset] [(.int (p3 &&& (3 : Int32)))])) _
        refine XS.iconst X0.here hx rfl (hb hby at_53) ?_
        show Steps p.tables e below (s₁.setTop (mkF m 54 #[.val (.long p1), .second, .val (.int p2), .val (.int p3), .val (.int sz), .val (.long ((9223372036854775807 : Int64) / (sz.toInt64))), .second, .val (.long (p1 &&& (3 : Int64))), .second, .val (.int (p3 &&& (3 : Int32))), .unset, .unset, .unset, .unset, .unset, .unset, .unset, .unset, .unset, .unset, .unset, .unset] [(.int (1 : Int32)), (.int (p3 &&& (3 : Int32)))])) _
        refine XS.icmpNo X0.here hx rfl (hb hby at_54) rfl (teq (show (p3 &&& (3 : Int32)) = (1 : Int32) from h1')).2 ?_
        show Steps p.tables e below (s₁.setTop (mkF m 57 #[.val (.long p1), .second, .val (.int p2), .val (.int p3), .val (.int sz), .val (.long ((9223372036854775807 : Int64) / (sz.toInt64))), .second, .val (.long (p1 &&& (3 : Int64))), .second, .val (.int (p3 &&& (3 : Int32))), .unset, .unset, .unset, .unset, .unset, .unset, .unset, .unset, .unset, .unset, .unset, .unset] [])) _
        refine XS.lload X0.here hx rfl (hb hby at_57) rfl ?_
        show Steps p.tables e below (s₁.setTop (mkF m 59 #[.val (.long p1), .second, .val (.int p2), .val (.int p3), .val (.int sz), .val (.long ((9223372036854775807 : Int64) / (sz.toInt64))), .second, .val (.long (p1 &&& (3 : Int64))), .second, .val (.int (p3 &&& (3 : Int32))), .unset, .unset, .unset, .unset, .unset, .unset, .unset, .unset, .unset, .unset, .unset, .unset] [(.long ((9223372036854775807 : Int64) / (sz.toInt64)))])) _
        refine XS.lload X0.here hx rfl (hb hby at_59) rfl ?_
        show Steps p.tables e below (s₁.setTop (mkF m 61 #[.val (.long p1), .second, .val (.int p2), .val (.int p3), .val (.int sz), .val (.long ((9223372036854775807 : Int64) / (sz.toInt64))), .second, .val (.long (p1 &&& (3 : Int64))), .second, .val (.int (p3 &&& (3 : Int32))), .unset, .unset, .unset, .unset, .unset, .unset, .unset, .unset, .unset, .unset, .unset, .unset] [(.long (p1 &&& (3 : Int64))), (.long ((9223372036854775807 : Int64) / (sz.toInt64)))])) _
        refine XS.lsub X0.here hx rfl (hb hby at_61) rfl ?_
        show Steps p.tables e below (s₁.setTop (mkF m 62 #[.val (.long p1), .second, .val (.int p2), .val (.int p3), .val (.int sz), .val (.long ((9223372036854775807 : Int64) / (sz.toInt64))), .second, .val (.long (p1 &&& (3 : Int64))), .second, .val (.int (p3 &&& (3 : Int32))), .unset, .unset, .unset, .unset, .unset, .unset, .unset, .unset, .unset, .unset, .unset, .unset] [(.long (((9223372036854775807 : Int64) / (sz.toInt64)) - (p1 &&& (3 : Int64))))])) _
        refine XS.lstore X0.here hx rfl (hb hby at_62) rfl (l' := #[.val (.long p1), .second, .val (.int p2), .val (.int p3), .val (.int sz), .val (.long ((9223372036854775807 : Int64) / (sz.toInt64))), .second, .val (.long (p1 &&& (3 : Int64))), .second, .val (.int (p3 &&& (3 : Int32))), .val (.long (((9223372036854775807 : Int64) / (sz.toInt64)) - (p1 &&& (3 : Int64)))), .second, .unset, .unset, .unset, .unset, .unset, .unset, .unset, .unset, .unset, .unset]) rfl ?_
        show Steps p.tables e below (s₁.setTop (mkF m 64 #[.val (.long p1), .second, .val (.int p2), .val (.int p3), .val (.int sz), .val (.long ((9223372036854775807 : Int64) / (sz.toInt64))), .second, .val (.long (p1 &&& (3 : Int64))), .second, .val (.int (p3 &&& (3 : Int32))), .val (.long (((9223372036854775807 : Int64) / (sz.toInt64)) - (p1 &&& (3 : Int64)))), .second, .unset, .unset, .unset, .unset, .unset, .unset, .unset, .unset, .unset, .unset] [])) _
        refine XS.goto X0.here hx rfl (pc0 := 64) (pc' := 109) rfl (hb hby at_64) (by decide) (by decide) ?_
        exact kk_
      exact ⟨_, _, _, X0, e0, N0, own_k1 hz1 hz2, p_7⟩
    by_cases h2' : (p3 &&& (3 : Int32)) = (2 : Int32)
    · by_cases h3' : sz = (1 : Int32)
      · have hk : True := trivial
        have p_8 : ∀ tg_, Steps p.tables e below (s₁.setTop (mkF m 109 #[.val (.long p1), .second, .val (.int p2), .val (.int p3), .val (.int sz), .val (.long ((9223372036854775807 : Int64) / (sz.toInt64))), .second, .val (.long (p1 &&& (3 : Int64))), .second, .val (.int (p3 &&& (3 : Int32))), .val (.long ((9223372036854775807 : Int64) - (p1 &&& (3 : Int64)))), .second, .unset, .unset, .unset, .unset, .unset, .unset, .unset, .unset, .unset, .unset] [])) tg_ → Steps p.tables e below (s₁.setTop (entryFrame m #[(.long p1), (.int p2), (.int p3)] maxLocals)) tg_ := by
          intro tg_ kk_
          refine p_2 tg_ ?_
          show Steps p.tables e below (s₁.setTop (mkF m 34 #[.val (.long p1), .second, .val (.int p2), .val (.int p3), .val (.int sz), .val (.long ((9223372036854775807 : Int64) / (sz.toInt64))), .second, .val (.long (p1 &&& (3 : Int64))), .second, .val (.int (p3 &&& (3 : Int32))), .unset, .unset, .unset, .unset, .unset, .unset, .unset, .unset, .unset, .unset, .unset, .unset] [(.int (p3 &&& (3 : Int32)))])) _
          refine XS.ifYes X0.here hx rfl (pc0 := 34) (pc' := 51) rfl (hb hby at_34) rfl ((if0 _ _).trans (feq (show ¬ ((p3 &&& (3 : Int32)) = (0 : Int32)) from h0')).2) (by decide) (by decide) ?_
          show Steps p.tables e below (s₁.setTop (mkF m 51 #[.val (.long p1), .second, .val (.int p2), .val (.int p3), .val (.int sz), .val (.long ((9223372036854775807 : Int64) / (sz.toInt64))), .second, .val (.long (p1 &&& (3 : Int64))), .second, .val (.int (p3 &&& (3 : Int32))), .unset, .unset, .unset, .unset, .unset, .unset, .unset, .unset, .unset, .unset, .unset, .unset] [])) _
          refine XS.iload X0.here hx rfl (hb hby at_51) rfl ?_
          show Steps p.tables e below (s₁.setTop (mkF m 53 #[.val (.long p1), .second, .val (.int p2), .val (.int p3), .val (.int sz), .val (.long ((9223372036854775807 : Int64) / (sz.toInt64))), .second, .val (.long (p1 &&& (3 : Int64))), .second, .val (.int (p3 &&& (3 : Int32))), .unset, .unset, .unset, .unset, .unset, .unset, .unset, .unset, .unset, .unset, .unset, .unset] [(.int (p3 &&& (3 : Int32)))])) _
          refine XS.iconst X0.here hx rfl (hb hby at_53) ?_
          show Steps p.tables e below (s₁.setTop (mkF m 54 #[.val (.long p1), .second, .val (.int p2), .val (.int p3), .val (.int sz), .val (.long ((9223372036854775807 : Int64) / (sz.toInt64))), .second, .val (.long (p1 &&& (3 : Int64))), .second, .val (.int (p3 &&& (3 : Int32))), .unset, .unset, .unset, .unset, .unset, .unset, .unset, .unset, .unset, .unset, .unset, .unset] [(.int (1 : Int32)), (.int (p3 &&& (3 : Int32)))])) _
          refine XS.icmpYes X0.here hx rfl (pc0 := 54) (pc' := 67) rfl (hb hby at_54) rfl (feq (show ¬ ((p3 &&& (3 : Int32)) = (1 : Int32)) from h1')).2 (by decide) (by decide) ?_
          show Steps p.tables e below (s₁.setTop (mkF m 67 #[.val (.long p1), .second, .val (.int p2), .val (.int p3), .val (.int sz), .val (.long ((9223372036854775807 : Int64) / (sz.toInt64))), .second, .val (.long (p1 &&& (3 : Int64))), .second, .val (.int (p3 &&& (3 : Int32))), .unset, .unset, .unset, .unset, .unset, .unset, .unset, .unset, .unset, .unset, .unset, .unset] [])) _
          refine XS.iload X0.here hx rfl (hb hby at_67) rfl ?_
          show Steps p.tables e below (s₁.setTop (mkF m 69 #[.val (.long p1), .second, .val (.int p2), .val (.int p3), .val (.int sz), .val (.long ((9223372036854775807 : Int64) / (sz.toInt64))), .second, .val (.long (p1 &&& (3 : Int64))), .second, .val (.int (p3 &&& (3 : Int32))), .unset, .unset, .unset, .unset, .unset, .unset, .unset, .unset, .unset, .unset, .unset, .unset] [(.int (p3 &&& (3 : Int32)))])) _
          refine XS.iconst X0.here hx rfl (hb hby at_69) ?_
          show Steps p.tables e below (s₁.setTop (mkF m 70 #[.val (.long p1), .second, .val (.int p2), .val (.int p3), .val (.int sz), .val (.long ((9223372036854775807 : Int64) / (sz.toInt64))), .second, .val (.long (p1 &&& (3 : Int64))), .second, .val (.int (p3 &&& (3 : Int32))), .unset, .unset, .unset, .unset, .unset, .unset, .unset, .unset, .unset, .unset, .unset, .unset] [(.int (2 : Int32)), (.int (p3 &&& (3 : Int32)))])) _
          refine XS.icmpNo X0.here hx rfl (hb hby at_70) rfl (teq (show (p3 &&& (3 : Int32)) = (2 : Int32) from h2')).2 ?_
          show Steps p.tables e below (s₁.setTop (mkF m 73 #[.val (.long p1), .second, .val (.int p2), .val (.int p3), .val (.int sz), .val (.long ((9223372036854775807 : Int64) / (sz.toInt64))), .second, .val (.long (p1 &&& (3 : Int64))), .second, .val (.int (p3 &&& (3 : Int32))), .unset, .unset, .unset, .unset, .unset, .unset, .unset, .unset, .unset, .unset, .unset, .unset] [])) _
          refine XS.iload X0.here hx rfl (hb hby at_73) rfl ?_
          show Steps p.tables e below (s₁.setTop (mkF m 75 #[.val (.long p1), .second, .val (.int p2), .val (.int p3), .val (.int sz), .val (.long ((9223372036854775807 : Int64) / (sz.toInt64))), .second, .val (.long (p1 &&& (3 : Int64))), .second, .val (.int (p3 &&& (3 : Int32))), .unset, .unset, .unset, .unset, .unset, .unset, .unset, .unset, .unset, .unset, .unset, .unset] [(.int sz)])) _
          refine XS.iconst X0.here hx rfl (hb hby at_75) ?_
          show Steps p.tables e below (s₁.setTop (mkF m 76 #[.val (.long p1), .second, .val (.int p2), .val (.int p3), .val (.int sz), .val (.long ((9223372036854775807 : Int64) / (sz.toInt64))), .second, .val (.long (p1 &&& (3 : Int64))), .second, .val (.int (p3 &&& (3 : Int32))), .unset, .unset, .unset, .unset, .unset, .unset, .unset, .unset, .unset, .unset, .unset, .unset] [(.int (1 : Int32)), (.int sz)])) _
          refine XS.icmpNo X0.here hx rfl (hb hby at_76) rfl (teq (show sz = (1 : Int32) from h3')).2 ?_
          show Steps p.tables e below (s₁.setTop (mkF m 79 #[.val (.long p1), .second, .val (.int p2), .val (.int p3), .val (.int sz), .val (.long ((9223372036854775807 : Int64) / (sz.toInt64))), .second, .val (.long (p1 &&& (3 : Int64))), .second, .val (.int (p3 &&& (3 : Int32))), .unset, .unset, .unset, .unset, .unset, .unset, .unset, .unset, .unset, .unset, .unset, .unset] [])) _
          refine X0.ldc2Long hx hown (mvT hZ (hw _ (List.mem_of_getElem? (i := 1) rfl))) (g := (mkF m 79 #[.val (.long p1), .second, .val (.int p2), .val (.int p3), .val (.int sz), .val (.long ((9223372036854775807 : Int64) / (sz.toInt64))), .second, .val (.long (p1 &&& (3 : Int64))), .second, .val (.int (p3 &&& (3 : Int32))), .unset, .unset, .unset, .unset, .unset, .unset, .unset, .unset, .unset, .unset, .unset, .unset] [])) rfl (hb hby at_79) _ ?_
          show Steps p.tables e below (s₁.setTop (mkF m 82 #[.val (.long p1), .second, .val (.int p2), .val (.int p3), .val (.int sz), .val (.long ((9223372036854775807 : Int64) / (sz.toInt64))), .second, .val (.long (p1 &&& (3 : Int64))), .second, .val (.int (p3 &&& (3 : Int32))), .unset, .unset, .unset, .unset, .unset, .unset, .unset, .unset, .unset, .unset, .unset, .unset] [(.long (9223372036854775807 : Int64))])) _
          refine XS.lload X0.here hx rfl (hb hby at_82) rfl ?_
          show Steps p.tables e below (s₁.setTop (mkF m 84 #[.val (.long p1), .second, .val (.int p2), .val (.int p3), .val (.int sz), .val (.long ((9223372036854775807 : Int64) / (sz.toInt64))), .second, .val (.long (p1 &&& (3 : Int64))), .second, .val (.int (p3 &&& (3 : Int32))), .unset, .unset, .unset, .unset, .unset, .unset, .unset, .unset, .unset, .unset, .unset, .unset] [(.long (p1 &&& (3 : Int64))), (.long (9223372036854775807 : Int64))])) _
          refine XS.lsub X0.here hx rfl (hb hby at_84) rfl ?_
          show Steps p.tables e below (s₁.setTop (mkF m 85 #[.val (.long p1), .second, .val (.int p2), .val (.int p3), .val (.int sz), .val (.long ((9223372036854775807 : Int64) / (sz.toInt64))), .second, .val (.long (p1 &&& (3 : Int64))), .second, .val (.int (p3 &&& (3 : Int32))), .unset, .unset, .unset, .unset, .unset, .unset, .unset, .unset, .unset, .unset, .unset, .unset] [(.long ((9223372036854775807 : Int64) - (p1 &&& (3 : Int64))))])) _
          refine XS.goto X0.here hx rfl (pc0 := 85) (pc' := 95) rfl (hb hby at_85) (by decide) (by decide) ?_
          show Steps p.tables e below (s₁.setTop (mkF m 95 #[.val (.long p1), .second, .val (.int p2), .val (.int p3), .val (.int sz), .val (.long ((9223372036854775807 : Int64) / (sz.toInt64))), .second, .val (.long (p1 &&& (3 : Int64))), .second, .val (.int (p3 &&& (3 : Int32))), .unset, .unset, .unset, .unset, .unset, .unset, .unset, .unset, .unset, .unset, .unset, .unset] [(.long ((9223372036854775807 : Int64) - (p1 &&& (3 : Int64))))])) _
          refine XS.lstore X0.here hx rfl (hb hby at_95) rfl (l' := #[.val (.long p1), .second, .val (.int p2), .val (.int p3), .val (.int sz), .val (.long ((9223372036854775807 : Int64) / (sz.toInt64))), .second, .val (.long (p1 &&& (3 : Int64))), .second, .val (.int (p3 &&& (3 : Int32))), .val (.long ((9223372036854775807 : Int64) - (p1 &&& (3 : Int64)))), .second, .unset, .unset, .unset, .unset, .unset, .unset, .unset, .unset, .unset, .unset]) rfl ?_
          show Steps p.tables e below (s₁.setTop (mkF m 97 #[.val (.long p1), .second, .val (.int p2), .val (.int p3), .val (.int sz), .val (.long ((9223372036854775807 : Int64) / (sz.toInt64))), .second, .val (.long (p1 &&& (3 : Int64))), .second, .val (.int (p3 &&& (3 : Int32))), .val (.long ((9223372036854775807 : Int64) - (p1 &&& (3 : Int64)))), .second, .unset, .unset, .unset, .unset, .unset, .unset, .unset, .unset, .unset, .unset] [])) _
          refine XS.goto X0.here hx rfl (pc0 := 97) (pc' := 109) rfl (hb hby at_97) (by decide) (by decide) ?_
          exact kk_
        exact ⟨_, _, _, X0, e0, N0, own_k2 p1, p_8⟩
      · have hk : True := trivial
        have p_9 : ∀ tg_, Steps p.tables e below (s₁.setTop (mkF m 109 #[.val (.long p1), .second, .val (.int p2), .val (.int p3), .val (.int sz), .val (.long ((9223372036854775807 : Int64) / (sz.toInt64))), .second, .val (.long (p1 &&& (3 : Int64))), .second, .val (.int (p3 &&& (3 : Int32))), .val (.long ((((9223372036854775807 : Int64) / (sz.toInt64)) + (1 : Int64)) + (p1 &&& (3 : Int64)))), .second, .unset, .unset, .unset, .unset, .unset, .unset, .unset, .unset, .unset, .unset] [])) tg_ → Steps p.tables e below (s₁.setTop (entryFrame m #[(.long p1), (.int p2), (.int p3)] maxLocals)) tg_ := by
          intro tg_ kk_
          refine p_2 tg_ ?_
          show Steps p.tables e below (s₁.setTop (mkF m 34 #[.val (.long p1), .second, .val (.int p2), .val (.int p3), .val (.int sz), .val (.long ((9223372036854775807 : Int64) / (sz.toInt64))), .second, .val (.long (p1 &&& (3 : Int64))), .second, .val (.int (p3 &&& (3 : Int32))), .unset, .unset, .unset, .unset, .unset, .unset, .unset, .unset, .unset, .unset, .unset, .unset] [(.int (p3 &&& (3 : Int32)))])) _
          refine XS.ifYes X0.here hx rfl (pc0 := 34) (pc' := 51) rfl (hb hby at_34) rfl ((if0 _ _).trans (feq (show ¬ ((p3 &&& (3 : Int32)) = (0 : Int32)) from h0')).2) (by decide) (by decide) ?_
          show Steps p.tables e below (s₁.setTop (mkF m 51 #[.val (.long p1), .second, .val (.int p2), .val (.int p3), .val (.int sz), .val (.long ((9223372036854775807 : Int64) / (sz.toInt64))), .second, .val (.long (p1 &&& (3 : Int64))), .second, .val (.int (p3 &&& (3 : Int32))), .unset, .unset, .unset, .unset, .unset, .unset, .unset, .unset, .unset, .unset, .unset, .unset] [])) _
          refine XS.iload X0.here hx rfl (hb hby at_51) rfl ?_
          show Steps p.tables e below (s₁.setTop (mkF m 53 #[.val (.long p1), .second, .val (.int p2), .val (.int p3), .val (.int sz), .val (.long ((9223372036854775807 : Int64) / (sz.toInt64))), .second, .val (.long (p1 &&& (3 : Int64))), .second, .val (.int (p3 &&& (3 : Int32))), .unset, .unset, .unset, .unset, .unset, .unset, .unset, .unset, .unset, .unset, .unset, .unset] [(.int (p3 &&& (3 : Int32)))])) _
          refine XS.iconst X0.here hx rfl (hb hby at_53) ?_
          show Steps p.tables e below (s₁.setTop (mkF m 54 #[.val (.long p1), .second, .val (.int p2), .val (.int p3), .val (.int sz), .val (.long ((9223372036854775807 : Int64) / (sz.toInt64))), .second, .val (.long (p1 &&& (3 : Int64))), .second, .val (.int (p3 &&& (3 : Int32))), .unset, .unset, .unset, .unset, .unset, .unset, .unset, .unset, .unset, .unset, .unset, .unset] [(.int (1 : Int32)), (.int (p3 &&& (3 : Int32)))])) _
          refine XS.icmpYes X0.here hx rfl (pc0 := 54) (pc' := 67) rfl (hb hby at_54) rfl (feq (show ¬ ((p3 &&& (3 : Int32)) = (1 : Int32)) from h1')).2 (by decide) (by decide) ?_
          show Steps p.tables e below (s₁.setTop (mkF m 67 #[.val (.long p1), .second, .val (.int p2), .val (.int p3), .val (.int sz), .val (.long ((9223372036854775807 : Int64) / (sz.toInt64))), .second, .val (.long (p1 &&& (3 : Int64))), .second, .val (.int (p3 &&& (3 : Int32))), .unset, .unset, .unset, .unset, .unset, .unset, .unset, .unset, .unset, .unset, .unset, .unset] [])) _
          refine XS.iload X0.here hx rfl (hb hby at_67) rfl ?_
          show Steps p.tables e below (s₁.setTop (mkF m 69 #[.val (.long p1), .second, .val (.int p2), .val (.int p3), .val (.int sz), .val (.long ((9223372036854775807 : Int64) / (sz.toInt64))), .second, .val (.long (p1 &&& (3 : Int64))), .second, .val (.int (p3 &&& (3 : Int32))), .unset, .unset, .unset, .unset, .unset, .unset, .unset, .unset, .unset, .unset, .unset, .unset] [(.int (p3 &&& (3 : Int32)))])) _
          refine XS.iconst X0.here hx rfl (hb hby at_69) ?_
          show Steps p.tables e below (s₁.setTop (mkF m 70 #[.val (.long p1), .second, .val (.int p2), .val (.int p3), .val (.int sz), .val (.long ((9223372036854775807 : Int64) / (sz.toInt64))), .second, .val (.long (p1 &&& (3 : Int64))), .second, .val (.int (p3 &&& (3 : Int32))), .unset, .unset, .unset, .unset, .unset, .unset, .unset, .unset, .unset, .unset, .unset, .unset] [(.int (2 : Int32)), (.int (p3 &&& (3 : Int32)))])) _
          refine XS.icmpNo X0.here hx rfl (hb hby at_70) rfl (teq (show (p3 &&& (3 : Int32)) = (2 : Int32) from h2')).2 ?_
          show Steps p.tables e below (s₁.setTop (mkF m 73 #[.val (.long p1), .second, .val (.int p2), .val (.int p3), .val (.int sz), .val (.long ((9223372036854775807 : Int64) / (sz.toInt64))), .second, .val (.long (p1 &&& (3 : Int64))), .second, .val (.int (p3 &&& (3 : Int32))), .unset, .unset, .unset, .unset, .unset, .unset, .unset, .unset, .unset, .unset, .unset, .unset] [])) _
          refine XS.iload X0.here hx rfl (hb hby at_73) rfl ?_
          show Steps p.tables e below (s₁.setTop (mkF m 75 #[.val (.long p1), .second, .val (.int p2), .val (.int p3), .val (.int sz), .val (.long ((9223372036854775807 : Int64) / (sz.toInt64))), .second, .val (.long (p1 &&& (3 : Int64))), .second, .val (.int (p3 &&& (3 : Int32))), .unset, .unset, .unset, .unset, .unset, .unset, .unset, .unset, .unset, .unset, .unset, .unset] [(.int sz)])) _
          refine XS.iconst X0.here hx rfl (hb hby at_75) ?_
          show Steps p.tables e below (s₁.setTop (mkF m 76 #[.val (.long p1), .second, .val (.int p2), .val (.int p3), .val (.int sz), .val (.long ((9223372036854775807 : Int64) / (sz.toInt64))), .second, .val (.long (p1 &&& (3 : Int64))), .second, .val (.int (p3 &&& (3 : Int32))), .unset, .unset, .unset, .unset, .unset, .unset, .unset, .unset, .unset, .unset, .unset, .unset] [(.int (1 : Int32)), (.int sz)])) _
          refine XS.icmpYes X0.here hx rfl (pc0 := 76) (pc' := 88) rfl (hb hby at_76) rfl (feq (show ¬ (sz = (1 : Int32)) from h3')).2 (by decide) (by decide) ?_
          show Steps p.tables e below (s₁.setTop (mkF m 88 #[.val (.long p1), .second, .val (.int p2), .val (.int p3), .val (.int sz), .val (.long ((9223372036854775807 : Int64) / (sz.toInt64))), .second, .val (.long (p1 &&& (3 : Int64))), .second, .val (.int (p3 &&& (3 : Int32))), .unset, .unset, .unset, .unset, .unset, .unset, .unset, .unset, .unset, .unset, .unset, .unset] [])) _
          refine XS.lload X0.here hx rfl (hb hby at_88) rfl ?_
          show Steps p.tables e below (s₁.setTop (mkF m 90 #[.val (.long p1), .second, .val (.int p2), .val (.int p3), .val (.int sz), .val (.long ((9223372036854775807 : Int64) / (sz.toInt64))), .second, .val (.long (p1 &&& (3 : Int64))), .second, .val (.int (p3 &&& (3 : Int32))), .unset, .unset, .unset, .unset, .unset, .unset, .unset, .unset, .unset, .unset, .unset, .unset] [(.long ((9223372036854775807 : Int64) / (sz.toInt64)))])) _
          refine XS.lconst X0.here hx rfl (hb hby at_90) ?_
          show Steps p.tables e below (s₁.setTop (mkF m 91 #[.val (.long p1), .second, .val (.int p2), .val (.int p3), .val (.int sz), .val (.long ((9223372036854775807 : Int64) / (sz.toInt64))), .second, .val (.long (p1 &&& (3 : Int64))), .second, .val (.int (p3 &&& (3 : Int32))), .unset, .unset, .unset, .unset, .unset, .unset, .unset, .unset, .unset, .unset, .unset, .unset] [(.long (1 : Int64)), (.long ((9223372036854775807 : Int64) / (sz.toInt64)))])) _
          refine XS.ladd X0.here hx rfl (hb hby at_91) rfl ?_
          show Steps p.tables e below (s₁.setTop (mkF m 92 #[.val (.long p1), .second, .val (.int p2), .val (.int p3), .val (.int sz), .val (.long ((9223372036854775807 : Int64) / (sz.toInt64))), .second, .val (.long (p1 &&& (3 : Int64))), .second, .val (.int (p3 &&& (3 : Int32))), .unset, .unset, .unset, .unset, .unset, .unset, .unset, .unset, .unset, .unset, .unset, .unset] [(.long (((9223372036854775807 : Int64) / (sz.toInt64)) + (1 : Int64)))])) _
          refine XS.lload X0.here hx rfl (hb hby at_92) rfl ?_
          show Steps p.tables e below (s₁.setTop (mkF m 94 #[.val (.long p1), .second, .val (.int p2), .val (.int p3), .val (.int sz), .val (.long ((9223372036854775807 : Int64) / (sz.toInt64))), .second, .val (.long (p1 &&& (3 : Int64))), .second, .val (.int (p3 &&& (3 : Int32))), .unset, .unset, .unset, .unset, .unset, .unset, .unset, .unset, .unset, .unset, .unset, .unset] [(.long (p1 &&& (3 : Int64))), (.long (((9223372036854775807 : Int64) / (sz.toInt64)) + (1 : Int64)))])) _
          refine XS.ladd X0.here hx rfl (hb hby at_94) rfl ?_
          show Steps p.tables e below (s₁.setTop (mkF m 95 #[.val (.long p1), .second, .val (.int p2), .val (.int p3), .val (.int sz), .val (.long ((9223372036854775807 : Int64) / (sz.toInt64))), .second, .val (.long (p1 &&& (3 : Int64))), .second, .val (.int (p3 &&& (3 : Int32))), .unset, .unset, .unset, .unset, .unset, .unset, .unset, .unset, .unset, .unset, .unset, .unset] [(.long ((((9223372036854775807 : Int64) / (sz.toInt64)) + (1 : Int64)) + (p1 &&& (3 : Int64))))])) _
          refine XS.lstore X0.here hx rfl (hb hby at_95) rfl (l' := #[.val (.long p1), .second, .val (.int p2), .val (.int p3), .val (.int sz), .val (.long ((9223372036854775807 : Int64) / (sz.toInt64))), .second, .val (.long (p1 &&& (3 : Int64))), .second, .val (.int (p3 &&& (3 : Int32))), .val (.long ((((9223372036854775807 : Int64) / (sz.toInt64)) + (1 : Int64)) + (p1 &&& (3 : Int64)))), .second, .unset, .unset, .unset, .unset, .unset, .unset, .unset, .unset, .unset, .unset]) rfl ?_
          show Steps p.tables e below (s₁.setTop (mkF m 97 #[.val (.long p1), .second, .val (.int p2), .val (.int p3), .val (.int sz), .val (.long ((9223372036854775807 : Int64) / (sz.toInt64))), .second, .val (.long (p1 &&& (3 : Int64))), .second, .val (.int (p3 &&& (3 : Int32))), .val (.long ((((9223372036854775807 : Int64) / (sz.toInt64)) + (1 : Int64)) + (p1 &&& (3 : Int64)))), .second, .unset, .unset, .unset, .unset, .unset, .unset, .unset, .unset, .unset, .unset] [])) _
          refine XS.goto X0.here hx rfl (pc0 := 97) (pc' := 109) rfl (hb hby at_97) (by decide) (by decide) ?_
          exact kk_
        exact ⟨_, _, _, X0, e0, N0, own_k3 hz1 h3', p_9⟩
    have p_10 : ∀ tg_, Steps p.tables e below (s₁.setTop (mkF m 109 #[.val (.long p1), .second, .val (.int p2), .val (.int p3), .val (.int sz), .val (.long ((9223372036854775807 : Int64) / (sz.toInt64))), .second, .val (.long (p1 &&& (3 : Int64))), .second, .val (.int (p3 &&& (3 : Int32))), .val (.long ((p1 &&& (65535 : Int64)) + (1 : Int64))), .second, .unset, .unset, .unset, .unset, .unset, .unset, .unset, .unset, .unset, .unset] [])) tg_ → Steps p.tables e below (s₁.setTop (entryFrame m #[(.long p1), (.int p2), (.int p3)] maxLocals)) tg_ := by
      intro tg_ kk_
      refine p_2 tg_ ?_
      show Steps p.tables e below (s₁.setTop (mkF m 34 #[.val (.long p1), .second, .val (.int p2), .val (.int p3), .val (.int sz), .val (.long ((9223372036854775807 : Int64) / (sz.toInt64))), .second, .val (.long (p1 &&& (3 : Int64))), .second, .val (.int (p3 &&& (3 : Int32))), .unset, .unset, .unset, .unset, .unset, .unset, .unset, .unset, .unset, .unset, .unset, .unset] [(.int (p3 &&& (3 : Int32)))])) _
      refine XS.ifYes X0.here hx rfl (pc0 := 34) (pc' := 51) rfl (hb hby at_34) rfl ((if0 _ _).trans (feq (show ¬ ((p3 &&& (3 : Int32)) = (0 : Int32)) from h0')).2) (by decide) (by decide) ?_
      show Steps p.tables e below (s₁.setTop (mkF m 51 #[.val (.long p1), .second, .val (.int p2), .val (.int p3), .val (.int sz), .val (.long ((9223372036854775807 : Int64) / (sz.toInt64))), .second, .val (.long (p1 &&& (3 : Int64))), .second, .val (.int (p3 &&& (3 : Int32))), .unset, .unset, .unset, .unset, .unset, .unset, .unset, .unset, .unset, .unset, .unset, .unset] [])) _
      refine XS.iload X0.here hx rfl (hb hby at_51) rfl ?_
      show Steps p.tables e below (s₁.setTop (mkF m 53 #[.val (.long p1), .second, .val (.int p2), .val (.int p3), .val (.int sz), .val (.long ((9223372036854775807 : Int64) / (sz.toInt64))), .second, .val (.long (p1 &&& (3 : Int64))), .second, .val (.int (p3 &&& (3 : Int32))), .unset, .unset, .unset, .unset, .unset, .unset, .unset, .unset, .unset, .unset, .unset, .unset] [(.int (p3 &&& (3 : Int32)))])) _
      refine XS.iconst X0.here hx rfl (hb hby at_53) ?_
      show Steps p.tables e below (s₁.setTop (mkF m 54 #[.val (.long p1), .second, .val (.int p2), .val (.int p3), .val (.int sz), .val (.long ((9223372036854775807 : Int64) / (sz.toInt64))), .second, .val (.long (p1 &&& (3 : Int64))), .second, .val (.int (p3 &&& (3 : Int32))), .unset, .unset, .unset, .unset, .unset, .unset, .unset, .unset, .unset, .unset, .unset, .unset] [(.int (1 : Int32)), (.int (p3 &&& (3 : Int32)))])) _
      refine XS.icmpYes X0.here hx rfl (pc0 := 54) (pc' := 67) rfl (hb hby at_54) rfl (feq (show ¬ ((p3 &&& (3 : Int32)) = (1 : Int32)) from h1')).2 (by decide) (by decide) ?_
      show Steps p.tables e below (s₁.setTop (mkF m 67 #[.val (.long p1), .second, .val (.int p2), .val (.int p3), .val (.int sz), .val (.long ((9223372036854775807 : Int64) / (sz.toInt64))), .second, .val (.long (p1 &&& (3 : Int64))), .second, .val (.int (p3 &&& (3 : Int32))), .unset, .unset, .unset, .unset, .unset, .unset, .unset, .unset, .unset, .unset, .unset, .unset] [])) _
      refine XS.iload X0.here hx rfl (hb hby at_67) rfl ?_
      show Steps p.tables e below (s₁.setTop (mkF m 69 #[.val (.long p1), .second, .val (.int p2), .val (.int p3), .val (.int sz), .val (.long ((9223372036854775807 : Int64) / (sz.toInt64))), .second, .val (.long (p1 &&& (3 : Int64))), .second, .val (.int (p3 &&& (3 : Int32))), .unset, .unset, .unset, .unset, .unset, .unset, .unset, .unset, .unset, .unset, .unset, .unset] [(.int (p3 &&& (3 : Int32)))])) _
      refine XS.iconst X0.here hx rfl (hb hby at_69) ?_
      show Steps p.tables e below (s₁.setTop (mkF m 70 #[.val (.long p1), .second, .val (.int p2), .val (.int p3), .val (.int sz), .val (.long ((9223372036854775807 : Int64) / (sz.toInt64))), .second, .val (.long (p1 &&& (3 : Int64))), .second, .val (.int (p3 &&& (3 : Int32))), .unset, .unset, .unset, .unset, .unset, .unset, .unset, .unset, .unset, .unset, .unset, .unset] [(.int (2 : Int32)), (.int (p3 &&& (3 : Int32)))])) _
      refine XS.icmpYes X0.here hx rfl (pc0 := 70) (pc' := 100) rfl (hb hby at_70) rfl (feq (show ¬ ((p3 &&& (3 : Int32)) = (2 : Int32)) from h2')).2 (by decide) (by decide) ?_
      show Steps p.tables e below (s₁.setTop (mkF m 100 #[.val (.long p1), .second, .val (.int p2), .val (.int p3), .val (.int sz), .val (.long ((9223372036854775807 : Int64) / (sz.toInt64))), .second, .val (.long (p1 &&& (3 : Int64))), .second, .val (.int (p3 &&& (3 : Int32))), .unset, .unset, .unset, .unset, .unset, .unset, .unset, .unset, .unset, .unset, .unset, .unset] [])) _
      refine XS.lloadN X0.here hx rfl (hb hby at_100) rfl ?_
      show Steps p.tables e below (s₁.setTop (mkF m 101 #[.val (.long p1), .second, .val (.int p2), .val (.int p3), .val (.int sz), .val (.long ((9223372036854775807 : Int64) / (sz.toInt64))), .second, .val (.long (p1 &&& (3 : Int64))), .second, .val (.int (p3 &&& (3 : Int32))), .unset, .unset, .unset, .unset, .unset, .unset, .unset, .unset, .unset, .unset, .unset, .unset] [(.long p1)])) _
      refine X0.ldc2Long hx hown (mvT hZ (hw _ (List.mem_of_getElem? (i := 27) rfl))) (g := (mkF m 101 #[.val (.long p1), .second, .val (.int p2), .val (.int p3), .val (.int sz), .val (.long ((9223372036854775807 : Int64) / (sz.toInt64))), .second, .val (.long (p1 &&& (3 : Int64))), .second, .val (.int (p3 &&& (3 : Int32))), .unset, .unset, .unset, .unset, .unset, .unset, .unset, .unset, .unset, .unset, .unset, .unset] [(.long p1)])) rfl (hb hby at_101) _ ?_
      show Steps p.tables e below (s₁.setTop (mkF m 104 #[.val (.long p1), .second, .val (.int p2), .val (.int p3), .val (.int sz), .val (.long ((9223372036854775807 : Int64) / (sz.toInt64))), .second, .val (.long (p1 &&& (3 : Int64))), .second, .val (.int (p3 &&& (3 : Int32))), .unset, .unset, .unset, .unset, .unset, .unset, .unset, .unset, .unset, .unset, .unset, .unset] [(.long (65535 : Int64)), (.long p1)])) _
      refine XS.land X0.here hx rfl (hb hby at_104) rfl ?_
      show Steps p.tables e below (s₁.setTop (mkF m 105 #[.val (.long p1), .second, .val (.int p2), .val (.int p3), .val (.int sz), .val (.long ((9223372036854775807 : Int64) / (sz.toInt64))), .second, .val (.long (p1 &&& (3 : Int64))), .second, .val (.int (p3 &&& (3 : Int32))), .unset, .unset, .unset, .unset, .unset, .unset, .unset, .unset, .unset, .unset, .unset, .unset] [(.long (p1 &&& (65535 : Int64)))])) _
      refine XS.lconst X0.here hx rfl (hb hby at_105) ?_
      show Steps p.tables e below (s₁.setTop (mkF m 106 #[.val (.long p1), .second, .val (.int p2), .val (.int p3), .val (.int sz), .val (.long ((9223372036854775807 : Int64) / (sz.toInt64))), .second, .val (.long (p1 &&& (3 : Int64))), .second, .val (.int (p3 &&& (3 : Int32))), .unset, .unset, .unset, .unset, .unset, .unset, .unset, .unset, .unset, .unset, .unset, .unset] [(.long (1 : Int64)), (.long (p1 &&& (65535 : Int64)))])) _
      refine XS.ladd X0.here hx rfl (hb hby at_106) rfl ?_
      show Steps p.tables e below (s₁.setTop (mkF m 107 #[.val (.long p1), .second, .val (.int p2), .val (.int p3), .val (.int sz), .val (.long ((9223372036854775807 : Int64) / (sz.toInt64))), .second, .val (.long (p1 &&& (3 : Int64))), .second, .val (.int (p3 &&& (3 : Int32))), .unset, .unset, .unset, .unset, .unset, .unset, .unset, .unset, .unset, .unset, .unset, .unset] [(.long ((p1 &&& (65535 : Int64)) + (1 : Int64)))])) _
      refine XS.lstore X0.here hx rfl (hb hby at_107) rfl (l' := #[.val (.long p1), .second, .val (.int p2), .val (.int p3), .val (.int sz), .val (.long ((9223372036854775807 : Int64) / (sz.toInt64))), .second, .val (.long (p1 &&& (3 : Int64))), .second, .val (.int (p3 &&& (3 : Int32))), .val (.long ((p1 &&& (65535 : Int64)) + (1 : Int64))), .second, .unset, .unset, .unset, .unset, .unset, .unset, .unset, .unset, .unset, .unset]) rfl ?_
      exact kk_
    exact ⟨_, _, _, X0, e0, N0, own_k4 p1, p_10⟩
  obtain ⟨T11, h11, X11, e11, E11, A11, D11, -, st11⟩ := newO X9 hx hZ hown (hw _ (List.mem_of_getElem? (i := 3) rfl)) (hw _ (List.mem_of_getElem? (i := 4) rfl)) (hw _ (List.mem_of_getElem? (i := 5) rfl)) e9 (g := (mkF m 109 #[.val (.long p1), .second, .val (.int p2), .val (.int p3), .val (.int sz), .val (.long ((9223372036854775807 : Int64) / (sz.toInt64))), .second, .val (.long (p1 &&& (3 : Int64))), .second, .val (.int (p3 &&& (3 : Int32))), .val (.long nb), .second, .unset, .unset, .unset, .unset, .unset, .unset, .unset, .unset, .unset, .unset] [])) rfl (hb hby at_109) (by decide) (by decide)
  obtain ⟨b11, g11⟩ : ∃ z, z = h0.size := ⟨_, rfl⟩
  rw [← g11] at A11 D11 st11
  have F1 : Fld Z h11 b11 "com/example/guildhall/guildhall/Page" "number" "J" (.long (0 : Int64)) := D11 (Or.inr (hw _ (List.mem_of_getElem? (i := 18) rfl))) (ty := .long) (by decide)
  have F2 : Fld Z h11 b11 "com/example/guildhall/guildhall/Page" "size" "I" (.int (0 : Int32)) := D11 (Or.inr (hw _ (List.mem_of_getElem? (i := 20) rfl))) (ty := .int) (by decide)
  have Zs : n0 ≤ h11.size := Nat.le_trans Z0 E11.1
  have gb : n0 ≤ b11 := Nat.le_trans Z0 (Nat.le_of_eq g11.symm)
  have p_12 : ∀ tg_, Steps p.tables e below (T11.setTop (mkF m 117 #[.val (.long p1), .second, .val (.int p2), .val (.int p3), .val (.int sz), .val (.long ((9223372036854775807 : Int64) / (sz.toInt64))), .second, .val (.long (p1 &&& (3 : Int64))), .second, .val (.int (p3 &&& (3 : Int32))), .val (.long nb), .second, .unset, .unset, .unset, .unset, .unset, .unset, .unset, .unset, .unset, .unset] [(.int sz), (.long nb), (.ref b11), (.ref b11)])) tg_ → Steps p.tables e below (s₁.setTop (entryFrame m #[(.long p1), (.int p2), (.int p3)] maxLocals)) tg_ := by
    intro tg_ kk_
    refine p_3 tg_ ?_
    refine st11 _ ?_
    show Steps p.tables e below (T11.setTop (mkF m 112 #[.val (.long p1), .second, .val (.int p2), .val (.int p3), .val (.int sz), .val (.long ((9223372036854775807 : Int64) / (sz.toInt64))), .second, .val (.long (p1 &&& (3 : Int64))), .second, .val (.int (p3 &&& (3 : Int32))), .val (.long nb), .second, .unset, .unset, .unset, .unset, .unset, .unset, .unset, .unset, .unset, .unset] [(.ref b11)])) _
    refine XS.dup X11.here hx rfl (hb hby at_112) rfl rfl ?_
    show Steps p.tables e below (T11.setTop (mkF m 113 #[.val (.long p1), .second, .val (.int p2), .val (.int p3), .val (.int sz), .val (.long ((9223372036854775807 : Int64) / (sz.toInt64))), .second, .val (.long (p1 &&& (3 : Int64))), .second, .val (.int (p3 &&& (3 : Int32))), .val (.long nb), .second, .unset, .unset, .unset, .unset, .unset, .unset, .unset, .unset, .unset, .unset] [(.ref b11), (.ref b11)])) _
    refine XS.lload X11.here hx rfl (hb hby at_113) rfl ?_
    show Steps p.tables e below (T11.setTop (mkF m 115 #[.val (.long p1), .second, .val (.int p2), .val (.int p3), .val (.int sz), .val (.long ((9223372036854775807 : Int64) / (sz.toInt64))), .second, .val (.long (p1 &&& (3 : Int64))), .second, .val (.int (p3 &&& (3 : Int32))), .val (.long nb), .second, .unset, .unset, .unset, .unset, .unset, .unset, .unset, .unset, .unset, .unset] [(.long nb), (.ref b11), (.ref b11)])) _
    refine XS.iload X11.here hx rfl (hb hby at_115) rfl ?_
    exact kk_
  obtain ⟨_, _, ⟨T13, L13, k13, n13⟩, -, X13, ⟨Lc13, hQ13, l13, y13, z13⟩, st13⟩ := X11.specialBack hx (y := (⟨"com/example/guildhall/guildhall/Page", "<init>", "(JI)V"⟩ : MethodName)) rfl hown (mvT hZ (hw _ (List.mem_of_getElem? (i := 6) rfl))) (mvT hZ (hw _ (List.mem_of_getElem? (i := 7) rfl))) (mvT hZ (hw _ (List.mem_of_getElem? (i := 8) rfl))) (by decide) (backOf (W := 1) (rm_ini l Z a0 hw [] b11 nb sz h11 n0 Zs A11 F1 F2 gb) hZ (hw _ (List.mem_of_getElem? (i := 8) rfl)) (hw _ (List.mem_of_getElem? (i := 5) rfl)) (by decide) (by decide)) (g := (mkF m 117 #[.val (.long p1), .second, .val (.int p2), .val (.int p3), .val (.int sz), .val (.long ((9223372036854775807 : Int64) / (sz.toInt64))), .second, .val (.long (p1 &&& (3 : Int64))), .second, .val (.int (p3 &&& (3 : Int32))), .val (.long nb), .second, .unset, .unset, .unset, .unset, .unset, .unset, .unset, .unset, .unset, .unset] [(.int sz), (.long nb), (.ref b11), (.ref b11)])) rfl (by rw [hml]; rfl) (Steps.refl _) (a := b11) (argsL := [(.long nb), (.int sz)]) (rest := [(.ref b11)]) (lenOf pd_law_1 rfl) rfl (by show 2 * 0 + _ ≤ _; exact Nat.le_of_eq rfl) (hb hby at_117) (fun _ _ => ⟨rfl, e11, (by decide : 1 + 0 ≤ _), (by decide : 2 + 0 ≤ _)⟩)
  dsimp only [Pt.U, Pt.locs, Pt.cells, Pt.slots] at X13 l13 y13 z13 st13 hQ13
  subst l13 y13 z13
  obtain ⟨rfl, N13q, Zk13, I113, I213, I313⟩ := hQ13
  have N13 := Fr.app N9 N13q
  have p_14 : ∀ tg_, Steps p.tables e below (T13.setTop (mkF m 124 #[.val (.long p1), .second, .val (.int p2), .val (.int p3), .val (.int sz), .val (.long ((9223372036854775807 : Int64) / (sz.toInt64))), .second, .val (.long (p1 &&& (3 : Int64))), .second, .val (.int (p3 &&& (3 : Int32))), .val (.long nb), .second, .val (.ref b11), .unset, .unset, .unset, .unset, .unset, .unset, .unset, .unset, .unset] [(.ref b11)])) tg_ → Steps p.tables e below (s₁.setTop (entryFrame m #[(.long p1), (.int p2), (.int p3)] maxLocals)) tg_ := by
    intro tg_ kk_
    refine p_12 tg_ ?_
    refine st13.trans ?_
    show Steps p.tables e below (T13.setTop (mkF m 120 #[.val (.long p1), .second, .val (.int p2), .val (.int p3), .val (.int sz), .val (.long ((9223372036854775807 : Int64) / (sz.toInt64))), .second, .val (.long (p1 &&& (3 : Int64))), .second, .val (.int (p3 &&& (3 : Int32))), .val (.long nb), .second, .unset, .unset, .unset, .unset, .unset, .unset, .unset, .unset, .unset, .unset] [(.ref b11)])) _
    refine XS.astore X13.here hx rfl (hb hby at_120) rfl rfl (l' := #[.val (.long p1), .second, .val (.int p2), .val (.int p3), .val (.int sz), .val (.long ((9223372036854775807 : Int64) / (sz.toInt64))), .second, .val (.long (p1 &&& (3 : Int64))), .second, .val (.int (p3 &&& (3 : Int32))), .val (.long nb), .second, .val (.ref b11), .unset, .unset, .unset, .unset, .unset, .unset, .unset, .unset, .unset]) rfl ?_
    show Steps p.tables e below (T13.setTop (mkF m 122 #[.val (.long p1), .second, .val (.int p2), .val (.int p3), .val (.int sz), .val (.long ((9223372036854775807 : Int64) / (sz.toInt64))), .second, .val (.long (p1 &&& (3 : Int64))), .second, .val (.int (p3 &&& (3 : Int32))), .val (.long nb), .second, .val (.ref b11), .unset, .unset, .unset, .unset, .unset, .unset, .unset, .unset, .unset] [])) _
    refine XS.aload X13.here hx rfl (hb hby at_122) rfl rfl ?_
    exact kk_
  have Zt : n0 ≤ T13.heap.size := Nat.le_trans Zs Zk13
  obtain ⟨cq15, kq15, q15a, q15b, q15c⟩ := isOf hZ rfl I113
  obtain ⟨_, _, ⟨T15, L15, k15, n15⟩, -, X15, ⟨Lc15, hQ15, l15, y15, z15⟩, st15⟩ := X13.virtualBack hx (y := (⟨"com/example/guildhall/guildhall/Page", "offset", "()J"⟩ : MethodName)) (z := (⟨"com/example/guildhall/guildhall/Page", "offset", "()J"⟩ : MethodName)) hown (mvT hZ (hw _ (List.mem_of_getElem? (i := 21) rfl))) (mvT hZ (hw _ (List.mem_of_getElem? (i := 22) rfl))) (notFace_of_selects (args := #[]) (mvT hZ (hw _ (List.mem_of_getElem? (i := 24) rfl)))) (mvT hZ (hw _ (List.mem_of_getElem? (i := 24) rfl))) (mvT hZ (hw _ (List.mem_of_getElem? (i := 23) rfl))) (by decide) (backOf (W := 0) (rm_off l Z a0 hw [] b11 nb sz T13.heap n0 Zt I213 I313 hz1) hZ (hw _ (List.mem_of_getElem? (i := 25) rfl)) (hw _ (List.mem_of_getElem? (i := 5) rfl)) (by decide) (by decide)) q15a q15c (g := (mkF m 124 #[.val (.long p1), .second, .val (.int p2), .val (.int p3), .val (.int sz), .val (.long ((9223372036854775807 : Int64) / (sz.toInt64))), .second, .val (.long (p1 &&& (3 : Int64))), .second, .val (.int (p3 &&& (3 : Int32))), .val (.long nb), .second, .val (.ref b11), .unset, .unset, .unset, .unset, .unset, .unset, .unset, .unset, .unset] [(.ref b11)])) rfl (by rw [hml]; rfl) (Steps.refl _) (argsL := []) (rest := []) (lenOf pd_law_2 rfl) rfl (by show 2 * 0 + _ ≤ _; exact Nat.le_of_eq rfl) (hb hby at_124) (fun _ _ => ⟨rfl, rfl, (by decide : 1 + 0 ≤ _), (by decide : 2 + 0 ≤ _)⟩)
  dsimp only [Pt.U, Pt.locs, Pt.cells, Pt.slots] at X15 l15 y15 z15 st15 hQ15
  subst l15 y15 z15
  obtain ⟨rfl, N15q, hh15⟩ := hQ15
  have N15 := Fr.app N13 N15q
  have p_16 : ∀ tg_, Steps p.tables e below (T15.setTop (mkF m 152 #[.val (.long p1), .second, .val (.int p2), .val (.int p3), .val (.int sz), .val (.long ((9223372036854775807 : Int64) / (sz.toInt64))), .second, .val (.long (p1 &&& (3 : Int64))), .second, .val (.int (p3 &&& (3 : Int32))), .val (.long nb), .second, .val (.ref b11), .val (.long (own_off nb sz)), .second, .val (.long (nb - (1 : Int64))), .second, .val (.long ((nb - (1 : Int64)) * (sz.toInt64))), .second, .unset, .unset, .unset] [(.int (lcmpW (((nb - (1 : Int64)) * (sz.toInt64)) / (sz.toInt64)) (nb - (1 : Int64))))])) tg_ → Steps p.tables e below (s₁.setTop (entryFrame m #[(.long p1), (.int p2), (.int p3)] maxLocals)) tg_ := by
    intro tg_ kk_
    refine p_14 tg_ ?_
    refine st15.trans ?_
    show Steps p.tables e below (T15.setTop (mkF m 127 #[.val (.long p1), .second, .val (.int p2), .val (.int p3), .val (.int sz), .val (.long ((9223372036854775807 : Int64) / (sz.toInt64))), .second, .val (.long (p1 &&& (3 : Int64))), .second, .val (.int (p3 &&& (3 : Int32))), .val (.long nb), .second, .val (.ref b11), .unset, .unset, .unset, .unset, .unset, .unset, .unset, .unset, .unset] [(.long (own_off nb sz))])) _
    refine XS.lstore X15.here hx rfl (hb hby at_127) rfl (l' := #[.val (.long p1), .second, .val (.int p2), .val (.int p3), .val (.int sz), .val (.long ((9223372036854775807 : Int64) / (sz.toInt64))), .second, .val (.long (p1 &&& (3 : Int64))), .second, .val (.int (p3 &&& (3 : Int32))), .val (.long nb), .second, .val (.ref b11), .val (.long (own_off nb sz)), .second, .unset, .unset, .unset, .unset, .unset, .unset, .unset]) rfl ?_
    show Steps p.tables e below (T15.setTop (mkF m 129 #[.val (.long p1), .second, .val (.int p2), .val (.int p3), .val (.int sz), .val (.long ((9223372036854775807 : Int64) / (sz.toInt64))), .second, .val (.long (p1 &&& (3 : Int64))), .second, .val (.int (p3 &&& (3 : Int32))), .val (.long nb), .second, .val (.ref b11), .val (.long (own_off nb sz)), .second, .unset, .unset, .unset, .unset, .unset, .unset, .unset] [])) _
    refine XS.lload X15.here hx rfl (hb hby at_129) rfl ?_
    show Steps p.tables e below (T15.setTop (mkF m 131 #[.val (.long p1), .second, .val (.int p2), .val (.int p3), .val (.int sz), .val (.long ((9223372036854775807 : Int64) / (sz.toInt64))), .second, .val (.long (p1 &&& (3 : Int64))), .second, .val (.int (p3 &&& (3 : Int32))), .val (.long nb), .second, .val (.ref b11), .val (.long (own_off nb sz)), .second, .unset, .unset, .unset, .unset, .unset, .unset, .unset] [(.long nb)])) _
    refine XS.lconst X15.here hx rfl (hb hby at_131) ?_
    show Steps p.tables e below (T15.setTop (mkF m 132 #[.val (.long p1), .second, .val (.int p2), .val (.int p3), .val (.int sz), .val (.long ((9223372036854775807 : Int64) / (sz.toInt64))), .second, .val (.long (p1 &&& (3 : Int64))), .second, .val (.int (p3 &&& (3 : Int32))), .val (.long nb), .second, .val (.ref b11), .val (.long (own_off nb sz)), .second, .unset, .unset, .unset, .unset, .unset, .unset, .unset] [(.long (1 : Int64)), (.long nb)])) _
    refine XS.lsub X15.here hx rfl (hb hby at_132) rfl ?_
    show Steps p.tables e below (T15.setTop (mkF m 133 #[.val (.long p1), .second, .val (.int p2), .val (.int p3), .val (.int sz), .val (.long ((9223372036854775807 : Int64) / (sz.toInt64))), .second, .val (.long (p1 &&& (3 : Int64))), .second, .val (.int (p3 &&& (3 : Int32))), .val (.long nb), .second, .val (.ref b11), .val (.long (own_off nb sz)), .second, .unset, .unset, .unset, .unset, .unset, .unset, .unset] [(.long (nb - (1 : Int64)))])) _
    refine XS.lstore X15.here hx rfl (hb hby at_133) rfl (l' := #[.val (.long p1), .second, .val (.int p2), .val (.int p3), .val (.int sz), .val (.long ((9223372036854775807 : Int64) / (sz.toInt64))), .second, .val (.long (p1 &&& (3 : Int64))), .second, .val (.int (p3 &&& (3 : Int32))), .val (.long nb), .second, .val (.ref b11), .val (.long (own_off nb sz)), .second, .val (.long (nb - (1 : Int64))), .second, .unset, .unset, .unset, .unset, .unset]) rfl ?_
    show Steps p.tables e below (T15.setTop (mkF m 135 #[.val (.long p1), .second, .val (.int p2), .val (.int p3), .val (.int sz), .val (.long ((9223372036854775807 : Int64) / (sz.toInt64))), .second, .val (.long (p1 &&& (3 : Int64))), .second, .val (.int (p3 &&& (3 : Int32))), .val (.long nb), .second, .val (.ref b11), .val (.long (own_off nb sz)), .second, .val (.long (nb - (1 : Int64))), .second, .unset, .unset, .unset, .unset, .unset] [])) _
    refine XS.lload X15.here hx rfl (hb hby at_135) rfl ?_
    show Steps p.tables e below (T15.setTop (mkF m 137 #[.val (.long p1), .second, .val (.int p2), .val (.int p3), .val (.int sz), .val (.long ((9223372036854775807 : Int64) / (sz.toInt64))), .second, .val (.long (p1 &&& (3 : Int64))), .second, .val (.int (p3 &&& (3 : Int32))), .val (.long nb), .second, .val (.ref b11), .val (.long (own_off nb sz)), .second, .val (.long (nb - (1 : Int64))), .second, .unset, .unset, .unset, .unset, .unset] [(.long (nb - (1 : Int64)))])) _
    refine XS.iload X15.here hx rfl (hb hby at_137) rfl ?_
    show Steps p.tables e below (T15.setTop (mkF m 139 #[.val (.long p1), .second, .val (.int p2), .val (.int p3), .val (.int sz), .val (.long ((9223372036854775807 : Int64) / (sz.toInt64))), .second, .val (.long (p1 &&& (3 : Int64))), .second, .val (.int (p3 &&& (3 : Int32))), .val (.long nb), .second, .val (.ref b11), .val (.long (own_off nb sz)), .second, .val (.long (nb - (1 : Int64))), .second, .unset, .unset, .unset, .unset, .unset] [(.int sz), (.long (nb - (1 : Int64)))])) _
    refine XS.i2l X15.here hx rfl (hb hby at_139) rfl ?_
    show Steps p.tables e below (T15.setTop (mkF m 140 #[.val (.long p1), .second, .val (.int p2), .val (.int p3), .val (.int sz), .val (.long ((9223372036854775807 : Int64) / (sz.toInt64))), .second, .val (.long (p1 &&& (3 : Int64))), .second, .val (.int (p3 &&& (3 : Int32))), .val (.long nb), .second, .val (.ref b11), .val (.long (own_off nb sz)), .second, .val (.long (nb - (1 : Int64))), .second, .unset, .unset, .unset, .unset, .unset] [(.long (sz.toInt64)), (.long (nb - (1 : Int64)))])) _
    refine XS.lmul X15.here hx rfl (hb hby at_140) rfl ?_
    show Steps p.tables e below (T15.setTop (mkF m 141 #[.val (.long p1), .second, .val (.int p2), .val (.int p3), .val (.int sz), .val (.long ((9223372036854775807 : Int64) / (sz.toInt64))), .second, .val (.long (p1 &&& (3 : Int64))), .second, .val (.int (p3 &&& (3 : Int32))), .val (.long nb), .second, .val (.ref b11), .val (.long (own_off nb sz)), .second, .val (.long (nb - (1 : Int64))), .second, .unset, .unset, .unset, .unset, .unset] [(.long ((nb - (1 : Int64)) * (sz.toInt64)))])) _
    refine XS.lstore X15.here hx rfl (hb hby at_141) rfl (l' := #[.val (.long p1), .second, .val (.int p2), .val (.int p3), .val (.int sz), .val (.long ((9223372036854775807 : Int64) / (sz.toInt64))), .second, .val (.long (p1 &&& (3 : Int64))), .second, .val (.int (p3 &&& (3 : Int32))), .val (.long nb), .second, .val (.ref b11), .val (.long (own_off nb sz)), .second, .val (.long (nb - (1 : Int64))), .second, .val (.long ((nb - (1 : Int64)) * (sz.toInt64))), .second, .unset, .unset, .unset]) rfl ?_
    show Steps p.tables e below (T15.setTop (mkF m 143 #[.val (.long p1), .second, .val (.int p2), .val (.int p3), .val (.int sz), .val (.long ((9223372036854775807 : Int64) / (sz.toInt64))), .second, .val (.long (p1 &&& (3 : Int64))), .second, .val (.int (p3 &&& (3 : Int32))), .val (.long nb), .second, .val (.ref b11), .val (.long (own_off nb sz)), .second, .val (.long (nb - (1 : Int64))), .second, .val (.long ((nb - (1 : Int64)) * (sz.toInt64))), .second, .unset, .unset, .unset] [])) _
    refine XS.lload X15.here hx rfl (hb hby at_143) rfl ?_
    show Steps p.tables e below (T15.setTop (mkF m 145 #[.val (.long p1), .second, .val (.int p2), .val (.int p3), .val (.int sz), .val (.long ((9223372036854775807 : Int64) / (sz.toInt64))), .second, .val (.long (p1 &&& (3 : Int64))), .second, .val (.int (p3 &&& (3 : Int32))), .val (.long nb), .second, .val (.ref b11), .val (.long (own_off nb sz)), .second, .val (.long (nb - (1 : Int64))), .second, .val (.long ((nb - (1 : Int64)) * (sz.toInt64))), .second, .unset, .unset, .unset] [(.long ((nb - (1 : Int64)) * (sz.toInt64)))])) _
    refine XS.iload X15.here hx rfl (hb hby at_145) rfl ?_
    show Steps p.tables e below (T15.setTop (mkF m 147 #[.val (.long p1), .second, .val (.int p2), .val (.int p3), .val (.int sz), .val (.long ((9223372036854775807 : Int64) / (sz.toInt64))), .second, .val (.long (p1 &&& (3 : Int64))), .second, .val (.int (p3 &&& (3 : Int32))), .val (.long nb), .second, .val (.ref b11), .val (.long (own_off nb sz)), .second, .val (.long (nb - (1 : Int64))), .second, .val (.long ((nb - (1 : Int64)) * (sz.toInt64))), .second, .unset, .unset, .unset] [(.int sz), (.long ((nb - (1 : Int64)) * (sz.toInt64)))])) _
    refine XS.i2l X15.here hx rfl (hb hby at_147) rfl ?_
    show Steps p.tables e below (T15.setTop (mkF m 148 #[.val (.long p1), .second, .val (.int p2), .val (.int p3), .val (.int sz), .val (.long ((9223372036854775807 : Int64) / (sz.toInt64))), .second, .val (.long (p1 &&& (3 : Int64))), .second, .val (.int (p3 &&& (3 : Int32))), .val (.long nb), .second, .val (.ref b11), .val (.long (own_off nb sz)), .second, .val (.long (nb - (1 : Int64))), .second, .val (.long ((nb - (1 : Int64)) * (sz.toInt64))), .second, .unset, .unset, .unset] [(.long (sz.toInt64)), (.long ((nb - (1 : Int64)) * (sz.toInt64)))])) _
    refine XS.ldiv X15.here hx rfl (hb hby at_148) rfl (own_nz hz1) ?_
    show Steps p.tables e below (T15.setTop (mkF m 149 #[.val (.long p1), .second, .val (.int p2), .val (.int p3), .val (.int sz), .val (.long ((9223372036854775807 : Int64) / (sz.toInt64))), .second, .val (.long (p1 &&& (3 : Int64))), .second, .val (.int (p3 &&& (3 : Int32))), .val (.long nb), .second, .val (.ref b11), .val (.long (own_off nb sz)), .second, .val (.long (nb - (1 : Int64))), .second, .val (.long ((nb - (1 : Int64)) * (sz.toInt64))), .second, .unset, .unset, .unset] [(.long (((nb - (1 : Int64)) * (sz.toInt64)) / (sz.toInt64)))])) _
    refine XS.lload X15.here hx rfl (hb hby at_149) rfl ?_
    show Steps p.tables e below (T15.setTop (mkF m 151 #[.val (.long p1), .second, .val (.int p2), .val (.int p3), .val (.int sz), .val (.long ((9223372036854775807 : Int64) / (sz.toInt64))), .second, .val (.long (p1 &&& (3 : Int64))), .second, .val (.int (p3 &&& (3 : Int32))), .val (.long nb), .second, .val (.ref b11), .val (.long (own_off nb sz)), .second, .val (.long (nb - (1 : Int64))), .second, .val (.long ((nb - (1 : Int64)) * (sz.toInt64))), .second, .unset, .unset, .unset] [(.long (nb - (1 : Int64))), (.long (((nb - (1 : Int64)) * (sz.toInt64)) / (sz.toInt64)))])) _
    refine XS.lcmp X15.here hx rfl (hb hby at_151) rfl ?_
    exact kk_
  have hM := own_main hnb hz1
  obtain ⟨ov, p_17⟩ : ∃ ov : Int32, ∀ t, Steps p.tables e below (T15.setTop (mkF m 175 #[.val (.long p1), .second, .val (.int p2), .val (.int p3), .val (.int sz), .val (.long ((9223372036854775807 : Int64) / (sz.toInt64))), .second, .val (.long (p1 &&& (3 : Int64))), .second, .val (.int (p3 &&& (3 : Int32))), .val (.long nb), .second, .val (.ref b11), .val (.long (own_off nb sz)), .second, .val (.long (nb - (1 : Int64))), .second, .val (.long ((nb - (1 : Int64)) * (sz.toInt64))), .second, .val (.int ov), .unset, .unset] [(.long (own_off nb sz))])) t → Steps p.tables e below (s₁.setTop (entryFrame m #[(.long p1), (.int p2), (.int p3)] maxLocals)) t := by
    by_cases hc : (lcmpW (((nb - (1 : Int64)) * (sz.toInt64)) / (sz.toInt64)) (nb - (1 : Int64))) = (0 : Int32)
    · refine ⟨(0 : Int32), fun t k => p_16 t ?_⟩
      show Steps p.tables e below (T15.setTop (mkF m 152 #[.val (.long p1), .second, .val (.int p2), .val (.int p3), .val (.int sz), .val (.long ((9223372036854775807 : Int64) / (sz.toInt64))), .second, .val (.long (p1 &&& (3 : Int64))), .second, .val (.int (p3 &&& (3 : Int32))), .val (.long nb), .second, .val (.ref b11), .val (.long (own_off nb sz)), .second, .val (.long (nb - (1 : Int64))), .second, .val (.long ((nb - (1 : Int64)) * (sz.toInt64))), .second, .unset, .unset, .unset] [(.int (lcmpW (((nb - (1 : Int64)) * (sz.toInt64)) / (sz.toInt64)) (nb - (1 : Int64))))])) _
      refine XS.ifYes X15.here hx rfl (pc0 := 152) (pc' := 159) rfl (hb hby at_152) rfl ((if0 _ _).trans (teq (show (lcmpW (((nb - (1 : Int64)) * (sz.toInt64)) / (sz.toInt64)) (nb - (1 : Int64))) = (0 : Int32) from hc)).1) (by decide) (by decide) ?_
      show Steps p.tables e below (T15.setTop (mkF m 159 #[.val (.long p1), .second, .val (.int p2), .val (.int p3), .val (.int sz), .val (.long ((9223372036854775807 : Int64) / (sz.toInt64))), .second, .val (.long (p1 &&& (3 : Int64))), .second, .val (.int (p3 &&& (3 : Int32))), .val (.long nb), .second, .val (.ref b11), .val (.long (own_off nb sz)), .second, .val (.long (nb - (1 : Int64))), .second, .val (.long ((nb - (1 : Int64)) * (sz.toInt64))), .second, .unset, .unset, .unset] [])) _
      refine XS.iconst X15.here hx rfl (hb hby at_159) ?_
      show Steps p.tables e below (T15.setTop (mkF m 160 #[.val (.long p1), .second, .val (.int p2), .val (.int p3), .val (.int sz), .val (.long ((9223372036854775807 : Int64) / (sz.toInt64))), .second, .val (.long (p1 &&& (3 : Int64))), .second, .val (.int (p3 &&& (3 : Int32))), .val (.long nb), .second, .val (.ref b11), .val (.long (own_off nb sz)), .second, .val (.long (nb - (1 : Int64))), .second, .val (.long ((nb - (1 : Int64)) * (sz.toInt64))), .second, .unset, .unset, .unset] [(.int (0 : Int32))])) _
      refine XS.istore X15.here hx rfl (hb hby at_160) rfl (l' := #[.val (.long p1), .second, .val (.int p2), .val (.int p3), .val (.int sz), .val (.long ((9223372036854775807 : Int64) / (sz.toInt64))), .second, .val (.long (p1 &&& (3 : Int64))), .second, .val (.int (p3 &&& (3 : Int32))), .val (.long nb), .second, .val (.ref b11), .val (.long (own_off nb sz)), .second, .val (.long (nb - (1 : Int64))), .second, .val (.long ((nb - (1 : Int64)) * (sz.toInt64))), .second, .val (.int (0 : Int32)), .unset, .unset]) rfl ?_
      show Steps p.tables e below (T15.setTop (mkF m 162 #[.val (.long p1), .second, .val (.int p2), .val (.int p3), .val (.int sz), .val (.long ((9223372036854775807 : Int64) / (sz.toInt64))), .second, .val (.long (p1 &&& (3 : Int64))), .second, .val (.int (p3 &&& (3 : Int32))), .val (.long nb), .second, .val (.ref b11), .val (.long (own_off nb sz)), .second, .val (.long (nb - (1 : Int64))), .second, .val (.long ((nb - (1 : Int64)) * (sz.toInt64))), .second, .val (.int (0 : Int32)), .unset, .unset] [])) _
      refine XS.iload X15.here hx rfl (hb hby at_162) rfl ?_
      show Steps p.tables e below (T15.setTop (mkF m 164 #[.val (.long p1), .second, .val (.int p2), .val (.int p3), .val (.int sz), .val (.long ((9223372036854775807 : Int64) / (sz.toInt64))), .second, .val (.long (p1 &&& (3 : Int64))), .second, .val (.int (p3 &&& (3 : Int32))), .val (.long nb), .second, .val (.ref b11), .val (.long (own_off nb sz)), .second, .val (.long (nb - (1 : Int64))), .second, .val (.long ((nb - (1 : Int64)) * (sz.toInt64))), .second, .val (.int (0 : Int32)), .unset, .unset] [(.int (0 : Int32))])) _
      refine XS.ifYes X15.here hx rfl (pc0 := 164) (pc' := 173) rfl (hb hby at_164) rfl ((if0 _ _).trans (teq (show (0 : Int32) = (0 : Int32) from rfl)).1) (by decide) (by decide) ?_
      show Steps p.tables e below (T15.setTop (mkF m 173 #[.val (.long p1), .second, .val (.int p2), .val (.int p3), .val (.int sz), .val (.long ((9223372036854775807 : Int64) / (sz.toInt64))), .second, .val (.long (p1 &&& (3 : Int64))), .second, .val (.int (p3 &&& (3 : Int32))), .val (.long nb), .second, .val (.ref b11), .val (.long (own_off nb sz)), .second, .val (.long (nb - (1 : Int64))), .second, .val (.long ((nb - (1 : Int64)) * (sz.toInt64))), .second, .val (.int (0 : Int32)), .unset, .unset] [])) _
      refine XS.lload X15.here hx rfl (hb hby at_173) rfl ?_
      have hv := hM.1 hc
      show Steps p.tables e below (T15.setTop (mkF m 175 #[.val (.long p1), .second, .val (.int p2), .val (.int p3), .val (.int sz), .val (.long ((9223372036854775807 : Int64) / (sz.toInt64))), .second, .val (.long (p1 &&& (3 : Int64))), .second, .val (.int (p3 &&& (3 : Int32))), .val (.long nb), .second, .val (.ref b11), .val (.long (own_off nb sz)), .second, .val (.long (nb - (1 : Int64))), .second, .val (.long ((nb - (1 : Int64)) * (sz.toInt64))), .second, .val (.int (0 : Int32)), .unset, .unset] [(.long ((nb - (1 : Int64)) * (sz.toInt64)))])) _
      exact own_sub2 hv (P := fun y => Steps p.tables e below (T15.setTop (mkF m 175 #[.val (.long p1), .second, .val (.int p2), .val (.int p3), .val (.int sz), .val (.long ((9223372036854775807 : Int64) / (sz.toInt64))), .second, .val (.long (p1 &&& (3 : Int64))), .second, .val (.int (p3 &&& (3 : Int32))), .val (.long nb), .second, .val (.ref b11), .val (.long (own_off nb sz)), .second, .val (.long (nb - (1 : Int64))), .second, .val (.long ((nb - (1 : Int64)) * (sz.toInt64))), .second, .val (.int (0 : Int32)), .unset, .unset] [(.long y)])) t) k
    · refine ⟨(1 : Int32), fun t k => p_16 t ?_⟩
      show Steps p.tables e below (T15.setTop (mkF m 152 #[.val (.long p1), .second, .val (.int p2), .val (.int p3), .val (.int sz), .val (.long ((9223372036854775807 : Int64) / (sz.toInt64))), .second, .val (.long (p1 &&& (3 : Int64))), .second, .val (.int (p3 &&& (3 : Int32))), .val (.long nb), .second, .val (.ref b11), .val (.long (own_off nb sz)), .second, .val (.long (nb - (1 : Int64))), .second, .val (.long ((nb - (1 : Int64)) * (sz.toInt64))), .second, .unset, .unset, .unset] [(.int (lcmpW (((nb - (1 : Int64)) * (sz.toInt64)) / (sz.toInt64)) (nb - (1 : Int64))))])) _
      refine XS.ifNo X15.here hx rfl (hb hby at_152) rfl ((if0 _ _).trans (feq (show ¬ ((lcmpW (((nb - (1 : Int64)) * (sz.toInt64)) / (sz.toInt64)) (nb - (1 : Int64))) = (0 : Int32)) from hc)).1) ?_
      show Steps p.tables e below (T15.setTop (mkF m 155 #[.val (.long p1), .second, .val (.int p2), .val (.int p3), .val (.int sz), .val (.long ((9223372036854775807 : Int64) / (sz.toInt64))), .second, .val (.long (p1 &&& (3 : Int64))), .second, .val (.int (p3 &&& (3 : Int32))), .val (.long nb), .second, .val (.ref b11), .val (.long (own_off nb sz)), .second, .val (.long (nb - (1 : Int64))), .second, .val (.long ((nb - (1 : Int64)) * (sz.toInt64))), .second, .unset, .unset, .unset] [])) _
      refine XS.iconst X15.here hx rfl (hb hby at_155) ?_
      show Steps p.tables e below (T15.setTop (mkF m 156 #[.val (.long p1), .second, .val (.int p2), .val (.int p3), .val (.int sz), .val (.long ((9223372036854775807 : Int64) / (sz.toInt64))), .second, .val (.long (p1 &&& (3 : Int64))), .second, .val (.int (p3 &&& (3 : Int32))), .val (.long nb), .second, .val (.ref b11), .val (.long (own_off nb sz)), .second, .val (.long (nb - (1 : Int64))), .second, .val (.long ((nb - (1 : Int64)) * (sz.toInt64))), .second, .unset, .unset, .unset] [(.int (1 : Int32))])) _
      refine XS.goto X15.here hx rfl (pc0 := 156) (pc' := 160) rfl (hb hby at_156) (by decide) (by decide) ?_
      show Steps p.tables e below (T15.setTop (mkF m 160 #[.val (.long p1), .second, .val (.int p2), .val (.int p3), .val (.int sz), .val (.long ((9223372036854775807 : Int64) / (sz.toInt64))), .second, .val (.long (p1 &&& (3 : Int64))), .second, .val (.int (p3 &&& (3 : Int32))), .val (.long nb), .second, .val (.ref b11), .val (.long (own_off nb sz)), .second, .val (.long (nb - (1 : Int64))), .second, .val (.long ((nb - (1 : Int64)) * (sz.toInt64))), .second, .unset, .unset, .unset] [(.int (1 : Int32))])) _
      refine XS.istore X15.here hx rfl (hb hby at_160) rfl (l' := #[.val (.long p1), .second, .val (.int p2), .val (.int p3), .val (.int sz), .val (.long ((9223372036854775807 : Int64) / (sz.toInt64))), .second, .val (.long (p1 &&& (3 : Int64))), .second, .val (.int (p3 &&& (3 : Int32))), .val (.long nb), .second, .val (.ref b11), .val (.long (own_off nb sz)), .second, .val (.long (nb - (1 : Int64))), .second, .val (.long ((nb - (1 : Int64)) * (sz.toInt64))), .second, .val (.int (1 : Int32)), .unset, .unset]) rfl ?_
      show Steps p.tables e below (T15.setTop (mkF m 162 #[.val (.long p1), .second, .val (.int p2), .val (.int p3), .val (.int sz), .val (.long ((9223372036854775807 : Int64) / (sz.toInt64))), .second, .val (.long (p1 &&& (3 : Int64))), .second, .val (.int (p3 &&& (3 : Int32))), .val (.long nb), .second, .val (.ref b11), .val (.long (own_off nb sz)), .second, .val (.long (nb - (1 : Int64))), .second, .val (.long ((nb - (1 : Int64)) * (sz.toInt64))), .second, .val (.int (1 : Int32)), .unset, .unset] [])) _
      refine XS.iload X15.here hx rfl (hb hby at_162) rfl ?_
      show Steps p.tables e below (T15.setTop (mkF m 164 #[.val (.long p1), .second, .val (.int p2), .val (.int p3), .val (.int sz), .val (.long ((9223372036854775807 : Int64) / (sz.toInt64))), .second, .val (.long (p1 &&& (3 : Int64))), .second, .val (.int (p3 &&& (3 : Int32))), .val (.long nb), .second, .val (.ref b11), .val (.long (own_off nb sz)), .second, .val (.long (nb - (1 : Int64))), .second, .val (.long ((nb - (1 : Int64)) * (sz.toInt64))), .second, .val (.int (1 : Int32)), .unset, .unset] [(.int (1 : Int32))])) _
      refine XS.ifNo X15.here hx rfl (hb hby at_164) rfl ((if0 _ _).trans (feq (show ¬ ((1 : Int32) = (0 : Int32)) from (by decide))).1) ?_
      show Steps p.tables e below (T15.setTop (mkF m 167 #[.val (.long p1), .second, .val (.int p2), .val (.int p3), .val (.int sz), .val (.long ((9223372036854775807 : Int64) / (sz.toInt64))), .second, .val (.long (p1 &&& (3 : Int64))), .second, .val (.int (p3 &&& (3 : Int32))), .val (.long nb), .second, .val (.ref b11), .val (.long (own_off nb sz)), .second, .val (.long (nb - (1 : Int64))), .second, .val (.long ((nb - (1 : Int64)) * (sz.toInt64))), .second, .val (.int (1 : Int32)), .unset, .unset] [])) _
      refine X15.ldc2Long hx hown (mvT hZ (hw _ (List.mem_of_getElem? (i := 1) rfl))) (g := (mkF m 167 #[.val (.long p1), .second, .val (.int p2), .val (.int p3), .val (.int sz), .val (.long ((9223372036854775807 : Int64) / (sz.toInt64))), .second, .val (.long (p1 &&& (3 : Int64))), .second, .val (.int (p3 &&& (3 : Int32))), .val (.long nb), .second, .val (.ref b11), .val (.long (own_off nb sz)), .second, .val (.long (nb - (1 : Int64))), .second, .val (.long ((nb - (1 : Int64)) * (sz.toInt64))), .second, .val (.int (1 : Int32)), .unset, .unset] [])) rfl (hb hby at_167) _ ?_
      show Steps p.tables e below (T15.setTop (mkF m 170 #[.val (.long p1), .second, .val (.int p2), .val (.int p3), .val (.int sz), .val (.long ((9223372036854775807 : Int64) / (sz.toInt64))), .second, .val (.long (p1 &&& (3 : Int64))), .second, .val (.int (p3 &&& (3 : Int32))), .val (.long nb), .second, .val (.ref b11), .val (.long (own_off nb sz)), .second, .val (.long (nb - (1 : Int64))), .second, .val (.long ((nb - (1 : Int64)) * (sz.toInt64))), .second, .val (.int (1 : Int32)), .unset, .unset] [(.long (9223372036854775807 : Int64))])) _
      refine XS.goto X15.here hx rfl (pc0 := 170) (pc' := 175) rfl (hb hby at_170) (by decide) (by decide) ?_
      have hv := hM.2 hc
      show Steps p.tables e below (T15.setTop (mkF m 175 #[.val (.long p1), .second, .val (.int p2), .val (.int p3), .val (.int sz), .val (.long ((9223372036854775807 : Int64) / (sz.toInt64))), .second, .val (.long (p1 &&& (3 : Int64))), .second, .val (.int (p3 &&& (3 : Int32))), .val (.long nb), .second, .val (.ref b11), .val (.long (own_off nb sz)), .second, .val (.long (nb - (1 : Int64))), .second, .val (.long ((nb - (1 : Int64)) * (sz.toInt64))), .second, .val (.int (1 : Int32)), .unset, .unset] [(.long (9223372036854775807 : Int64))])) _
      exact own_sub2 hv (P := fun y => Steps p.tables e below (T15.setTop (mkF m 175 #[.val (.long p1), .second, .val (.int p2), .val (.int p3), .val (.int sz), .val (.long ((9223372036854775807 : Int64) / (sz.toInt64))), .second, .val (.long (p1 &&& (3 : Int64))), .second, .val (.int (p3 &&& (3 : Int32))), .val (.long nb), .second, .val (.ref b11), .val (.long (own_off nb sz)), .second, .val (.long (nb - (1 : Int64))), .second, .val (.long ((nb - (1 : Int64)) * (sz.toInt64))), .second, .val (.int (1 : Int32)), .unset, .unset] [(.long y)])) t) k
  have p_18 : ∀ tg_, Steps p.tables e below (T15.setTop (mkF m 190 #[.val (.long p1), .second, .val (.int p2), .val (.int p3), .val (.int sz), .val (.long ((9223372036854775807 : Int64) / (sz.toInt64))), .second, .val (.long (p1 &&& (3 : Int64))), .second, .val (.int (p3 &&& (3 : Int32))), .val (.long nb), .second, .val (.ref b11), .val (.long (own_off nb sz)), .second, .val (.long (nb - (1 : Int64))), .second, .val (.long ((nb - (1 : Int64)) * (sz.toInt64))), .second, .val (.int ov), .val (.long (own_off nb sz)), .second] [(.int (1 : Int32))])) tg_ → Steps p.tables e below (s₁.setTop (entryFrame m #[(.long p1), (.int p2), (.int p3)] maxLocals)) tg_ := by
    intro tg_ kk_
    refine p_17 tg_ ?_
    show Steps p.tables e below (T15.setTop (mkF m 175 #[.val (.long p1), .second, .val (.int p2), .val (.int p3), .val (.int sz), .val (.long ((9223372036854775807 : Int64) / (sz.toInt64))), .second, .val (.long (p1 &&& (3 : Int64))), .second, .val (.int (p3 &&& (3 : Int32))), .val (.long nb), .second, .val (.ref b11), .val (.long (own_off nb sz)), .second, .val (.long (nb - (1 : Int64))), .second, .val (.long ((nb - (1 : Int64)) * (sz.toInt64))), .second, .val (.int ov), .unset, .unset] [(.long (own_off nb sz))])) _
    refine XS.lstore X15.here hx rfl (hb hby at_175) rfl (l' := #[.val (.long p1), .second, .val (.int p2), .val (.int p3), .val (.int sz), .val (.long ((9223372036854775807 : Int64) / (sz.toInt64))), .second, .val (.long (p1 &&& (3 : Int64))), .second, .val (.int (p3 &&& (3 : Int32))), .val (.long nb), .second, .val (.ref b11), .val (.long (own_off nb sz)), .second, .val (.long (nb - (1 : Int64))), .second, .val (.long ((nb - (1 : Int64)) * (sz.toInt64))), .second, .val (.int ov), .val (.long (own_off nb sz)), .second]) rfl ?_
    show Steps p.tables e below (T15.setTop (mkF m 177 #[.val (.long p1), .second, .val (.int p2), .val (.int p3), .val (.int sz), .val (.long ((9223372036854775807 : Int64) / (sz.toInt64))), .second, .val (.long (p1 &&& (3 : Int64))), .second, .val (.int (p3 &&& (3 : Int32))), .val (.long nb), .second, .val (.ref b11), .val (.long (own_off nb sz)), .second, .val (.long (nb - (1 : Int64))), .second, .val (.long ((nb - (1 : Int64)) * (sz.toInt64))), .second, .val (.int ov), .val (.long (own_off nb sz)), .second] [])) _
    refine XS.lload X15.here hx rfl (hb hby at_177) rfl ?_
    show Steps p.tables e below (T15.setTop (mkF m 179 #[.val (.long p1), .second, .val (.int p2), .val (.int p3), .val (.int sz), .val (.long ((9223372036854775807 : Int64) / (sz.toInt64))), .second, .val (.long (p1 &&& (3 : Int64))), .second, .val (.int (p3 &&& (3 : Int32))), .val (.long nb), .second, .val (.ref b11), .val (.long (own_off nb sz)), .second, .val (.long (nb - (1 : Int64))), .second, .val (.long ((nb - (1 : Int64)) * (sz.toInt64))), .second, .val (.int ov), .val (.long (own_off nb sz)), .second] [(.long (own_off nb sz))])) _
    refine XS.lload X15.here hx rfl (hb hby at_179) rfl ?_
    show Steps p.tables e below (T15.setTop (mkF m 181 #[.val (.long p1), .second, .val (.int p2), .val (.int p3), .val (.int sz), .val (.long ((9223372036854775807 : Int64) / (sz.toInt64))), .second, .val (.long (p1 &&& (3 : Int64))), .second, .val (.int (p3 &&& (3 : Int32))), .val (.long nb), .second, .val (.ref b11), .val (.long (own_off nb sz)), .second, .val (.long (nb - (1 : Int64))), .second, .val (.long ((nb - (1 : Int64)) * (sz.toInt64))), .second, .val (.int ov), .val (.long (own_off nb sz)), .second] [(.long (own_off nb sz)), (.long (own_off nb sz))])) _
    refine XS.lcmp X15.here hx rfl (hb hby at_181) rfl ?_
    show Steps p.tables e below (T15.setTop (mkF m 182 #[.val (.long p1), .second, .val (.int p2), .val (.int p3), .val (.int sz), .val (.long ((9223372036854775807 : Int64) / (sz.toInt64))), .second, .val (.long (p1 &&& (3 : Int64))), .second, .val (.int (p3 &&& (3 : Int32))), .val (.long nb), .second, .val (.ref b11), .val (.long (own_off nb sz)), .second, .val (.long (nb - (1 : Int64))), .second, .val (.long ((nb - (1 : Int64)) * (sz.toInt64))), .second, .val (.int ov), .val (.long (own_off nb sz)), .second] [(.int (lcmpW (own_off nb sz) (own_off nb sz)))])) _
    refine XS.ifNo X15.here hx rfl (hb hby at_182) rfl ((if0 _ _).trans (teq (show (lcmpW (own_off nb sz) (own_off nb sz)) = (0 : Int32) from ((lw_eq _ _).mpr rfl))).2) ?_
    show Steps p.tables e below (T15.setTop (mkF m 185 #[.val (.long p1), .second, .val (.int p2), .val (.int p3), .val (.int sz), .val (.long ((9223372036854775807 : Int64) / (sz.toInt64))), .second, .val (.long (p1 &&& (3 : Int64))), .second, .val (.int (p3 &&& (3 : Int32))), .val (.long nb), .second, .val (.ref b11), .val (.long (own_off nb sz)), .second, .val (.long (nb - (1 : Int64))), .second, .val (.long ((nb - (1 : Int64)) * (sz.toInt64))), .second, .val (.int ov), .val (.long (own_off nb sz)), .second] [])) _
    refine XS.iconst X15.here hx rfl (hb hby at_185) ?_
    show Steps p.tables e below (T15.setTop (mkF m 186 #[.val (.long p1), .second, .val (.int p2), .val (.int p3), .val (.int sz), .val (.long ((9223372036854775807 : Int64) / (sz.toInt64))), .second, .val (.long (p1 &&& (3 : Int64))), .second, .val (.int (p3 &&& (3 : Int32))), .val (.long nb), .second, .val (.ref b11), .val (.long (own_off nb sz)), .second, .val (.long (nb - (1 : Int64))), .second, .val (.long ((nb - (1 : Int64)) * (sz.toInt64))), .second, .val (.int ov), .val (.long (own_off nb sz)), .second] [(.int (1 : Int32))])) _
    refine XS.goto X15.here hx rfl (pc0 := 186) (pc' := 190) rfl (hb hby at_186) (by decide) (by decide) ?_
    exact kk_
  obtain ⟨fs, hr, hrun, hended, hW, hsame⟩ := X15.leave (v := some (.int (1 : Int32))) (fun h => by rw [Bd.returns] at h; cases h)
  refine ⟨_, _, p_18 _ ?_, hrun, hended, _, _, rfl, ?_, ⟨_, rfl⟩, hW, hsame.mono (by decide) (by decide)⟩
  · show Steps p.tables e below (T15.setTop (mkF m 190 #[.val (.long p1), .second, .val (.int p2), .val (.int p3), .val (.int sz), .val (.long ((9223372036854775807 : Int64) / (sz.toInt64))), .second, .val (.long (p1 &&& (3 : Int64))), .second, .val (.int (p3 &&& (3 : Int32))), .val (.long nb), .second, .val (.ref b11), .val (.long (own_off nb sz)), .second, .val (.long (nb - (1 : Int64))), .second, .val (.long ((nb - (1 : Int64)) * (sz.toInt64))), .second, .val (.int ov), .val (.long (own_off nb sz)), .second] [(.int (1 : Int32))])) _
    exact retN X15 hx (t := .boolean) Bd.returns (by simp) (hb hby at_190) hr
  · show Q_law Z p1 p2 p3 h0 n0 _ T15.heap _
    exact ⟨rfl, N15⟩
set_option maxRecDepth 65536 in
set_option maxHeartbeats 40000000 in
theorem comes_1 {Post : Tables → Env → Array Value → State → Outcome → State → Prop} (hpost : ∀ tb e args s v u, (limb_1_1.after args s (.returned v) u = true ∧ limb_1_2.after args s (.returned v) u = true ∧ True) → FrameEnd s (.returned v) u (Jvm.fieldLocs frame_1_writes args s ++ Jvm.arrayLocs frame_1_arrays args s ++ Jvm.staticLocs frame_1_statics s) 16 128 → Post tb e args s (.returned v) u) :
    ArmFor flags0 classFile x code maxLocals ret World_1 tables_1 room_1 Calls_1 rest_1 Pre_1 Post := by
  intro l hfl _ _ p e ha hc hk s m args below hf hA hF happ hP
  obtain ⟨hcalls, hrest, hpre⟩ := hP
  obtain ⟨-, -, -, hnamed, -, -, -, hat⟩ := (Spec.applies_iff hf).mp happ
  obtain ⟨hg, hn⟩ := and_e (Cond.before_iff.mp (show (Jvm.Cond.and given_1 narrow_1).before args s = true from hpre))
  obtain ⟨hcnt, hr0⟩ := and_e hg
  obtain ⟨ha0, hr1⟩ := and_e hr0
  obtain ⟨ha1, hr2⟩ := and_e hr1
  have ha2 := hr2
  obtain ⟨w0, w1, w2, rfl⟩ : ∃ w0 w1 w2 : Value, args = #[w0, w1, w2] := by
    have hs : args.size = 3 := by simpa [Cond.value, given_1] using hcnt
    obtain ⟨L⟩ := args
    match L, hs with
    | [w0, w1, w2], _ => exact ⟨w0, w1, w2, rfl⟩
  have hw := fun d (hd : d ∈ tables_1) => atoms_spec (ws := Jvm.Cond.code x code maxLocals ret :: tables_1) hat d (List.mem_cons_of_mem _ hd)
  have hfit : Fit s := fun {y c} hc i hi => by
    obtain ⟨ha, rfl⟩ := Array.getElem?_eq_some_iff.mp hc
    have q := List.all_eq_true.mp ((Array.all_eq_true_iff_forall_mem.mp hF) _ (Array.getElem_mem ha)) i (List.mem_range.mpr hi)
    simpa [Array.getElem?_eq_getElem hi] using q
  obtain ⟨i0, e0⟩ := isL_v ha0
  obtain rfl : w0 = (.long i0) := Option.some.inj e0
  obtain ⟨i1, e1⟩ := is_v ha1
  obtain rfl : w1 = (.int i1) := Option.some.inj e1
  obtain ⟨i2, e2⟩ := is_v ha2
  obtain rfl : w2 = (.int i2) := Option.some.inj e2
  obtain ⟨n, o, h1, h2, h3, _, L, rfl, ⟨rfl, N⟩, hq⟩ := rm_law l s _ hw tables_1 i0 i1 i2 s.heap s.heap.size (Nat.le_refl _) p e ha hc hk s m _ below hf ((Spec.applies_iff_loose hf).mp happ).1 ⟨rfl, State.Warmed39.refl s, rfl⟩ trivial
  refine ⟨n, _, h1, h2, h3, hpost _ _ _ _ _ _ ⟨Cond.after_iff.mpr rfl, Cond.after_iff.mpr (eq_i res_at (Term.int_eval (1)) rfl), trivial⟩ ⟨hq.1, hq.2.1, (hq.2.2.sift fun y hy => Or.inr (N y hy)).mono (by decide) (by decide)⟩⟩
theorem main_1_1 : Claimed_1_1 := comes_1 fun _ _ _ _ _ _ h hF => ⟨h.1, hF⟩
theorem main_1_2 : Claimed_1_2 := comes_1 fun _ _ _ _ _ _ h hF => ⟨h.2.1, hF⟩
end Jvm.Pilot.@@N@@
namespace Jvm.Pilot.@@N@@
open Jvm Jvm.ClassFile Sem Op Lib Jvm.Free Jvm.Stand Jvm.Pilot.@@N@@.Jvm.D
/-! MADE BY PROGRAM (witnessworld.py) out of the Statement's table words and the real class files: 9 classes; the members and pool entries that the words name. The judged class is class 1, her method 1. -/
namespace start1
open Jvm.ClassFile
def u (s : String) : CpInfo := .utf8 (stringToUtf16 s)
/-- a pool by its gaps: so many unusable entries, then the entry; so many at the end -/
def gap : Nat → List CpInfo → List CpInfo
  | 0, r => r
  | n + 1, r => .unusable :: gap n r
def poolList (es : List (Nat × CpInfo)) (last : Nat) : List CpInfo := es.foldr (fun e r => gap e.1 (e.2 :: r)) (gap last [])
def pool (es : List (Nat × CpInfo)) (last : Nat) : Array CpInfo := ⟨poolList es last⟩
def fileOf (pool : Array CpInfo) (this : Nat) (attrs : Array Attribute := #[]) (ms : Array MethodInfo := #[]) (fl : Nat := 33) (sup : Nat := 0) (ifs : Array Nat := #[]) (fds : Array FieldInfo := #[]) : ClassFile where
  minorVersion := 0
  majorVersion := 65
  constantPool := pool
  accessFlags := fl
  thisClass := this
  superClass := sup
  interfaces := ifs
  fields := fds
  methods := ms
  attributes := attrs
def plain (name : String) (sup : Option ClassId) : Class where
  name := name
  kind := .ordinary
  loader := none
  accessFlags := 33
  super := sup
  interfaces := #[]
  cf := none
  fields := #[]
  methods := #[]
  instanceTypes := #[]
  staticTypes := #[]
  resolved := #[]
  callSites := []
  init := .initialized
  statics := none
  mirror := none

def pool0 : Array CpInfo := pool [(5, u "<init>"), (0, u "()V"), (1, .class_ 10), (1, u "java/lang/Object")] 113

def k0c0 : Code := { maxStack := 0, maxLocals := 1, code := object_method_1_code, exceptionTable := #[], attributes := #[] }
def k0m0 : Method := { name := "<init>", desc := "()V", sig := { parameters := [], returnType := none }, accessFlags := 1, code := some k0c0 }
/-- java/lang/Object -/
def k0 : Class := { plain "java/lang/Object" none with
  accessFlags := 33
  interfaces := #[]
  cf := some (fileOf pool0 8 #[] #[{ accessFlags := 1, nameIndex := 5, descriptorIndex := 6, attributes := #[] }] 33 0 #[] #[])
  fields := #[]
  methods := #[k0m0]
  instanceTypes := #[]
  staticTypes := #[]
  resolved := Array.replicate 124 none
  statics := none }

def pool1 : Array CpInfo := pool [(2, .class_ 4), (1, u "java/lang/Object"), (0, u "<init>"), (0, u "()V"), (0, .integer 2147483647), (2, .long 9223372036854775807), (1, .long 3), (1, .methodref 15 16), (0, .class_ 17), (0, .nameAndType 18 19), (0, u "java/lang/Math"), (0, u "max"), (0, u "(JJ)J"), (0, .long 65535), (1, .class_ 23), (0, u "com/example/guildhall/guildhall/Page"), (0, .methodref 22 25), (0, .nameAndType 5 26), (0, u "(JI)V"), (0, .methodref 22 28), (0, .nameAndType 29 30), (0, u "offset"), (0, u "()J"), (0, .class_ 32), (0, u "com/example/guildhall/guildhall/PageOffsetPinLaw"), (2, u "law"), (0, u "(JII)Z")] 3

def k1m0 : Method := { name := "<init>", desc := "()V", sig := { parameters := [], returnType := none }, accessFlags := 2, code := none }
def k1c1 : Code := { maxStack := 6, maxLocals := 22, code := code, exceptionTable := #[], attributes := #[] }
def k1m1 : Method := { name := "law", desc := "(JII)Z", sig := { parameters := [.long, .int, .int], returnType := some .boolean }, accessFlags := 9, code := some k1c1 }
/-- com/example/guildhall/guildhall/PageOffsetPinLaw -/
def k1 : Class := { plain "com/example/guildhall/guildhall/PageOffsetPinLaw" (some 0) with
  accessFlags := 49
  interfaces := #[]
  cf := some (fileOf pool1 31 #[] #[{ accessFlags := 2, nameIndex := 5, descriptorIndex := 6, attributes := #[] }, { accessFlags := 9, nameIndex := 35, descriptorIndex := 36, attributes := #[] }] 49 2 #[] #[])
  fields := #[]
  methods := #[k1m0, k1m1]
  instanceTypes := #[]
  staticTypes := #[]
  resolved := Array.replicate 40 none
  statics := none }

def pool2 : Array CpInfo := pool [(1, .methodref 2 3), (0, .class_ 4), (0, .nameAndType 5 6), (0, u "java/lang/Object"), (0, u "<init>"), (0, u "()V"), (0, .class_ 8), (0, u "java/lang/Record")] 13

def k2c0 : Code := { maxStack := 1, maxLocals := 1, code := jdk_30_method_1_code, exceptionTable := #[], attributes := #[] }
def k2m0 : Method := { name := "<init>", desc := "()V", sig := { parameters := [], returnType := none }, accessFlags := 4, code := some k2c0 }
/-- java/lang/Record -/
def k2 : Class := { plain "java/lang/Record" (some 0) with
  accessFlags := 1057
  interfaces := #[]
  cf := some (fileOf pool2 7 #[] #[{ accessFlags := 4, nameIndex := 5, descriptorIndex := 6, attributes := #[] }] 1057 2 #[] #[])
  fields := #[]
  methods := #[k2m0]
  instanceTypes := #[]
  staticTypes := #[]
  resolved := Array.replicate 22 none
  statics := none }

def pool3 : Array CpInfo := pool [(1, .methodref 2 3), (0, .class_ 4), (0, .nameAndType 5 6), (0, u "java/lang/Record"), (0, u "<init>"), (0, u "()V"), (0, .fieldref 8 9), (0, .class_ 10), (0, .nameAndType 11 12), (0, u "com/example/guildhall/guildhall/Page"), (0, u "number"), (0, u "J"), (0, .fieldref 8 14), (0, .nameAndType 15 16), (0, u "size"), (0, u "I"), (4, .long 9223372036854775807), (17, u "(JI)V"), (2, u "offset"), (0, u "()J"), (22, .class_ 67), (0, u "com/example/guildhall/guildhall/Page$Start"), (23, u "DIGITS"), (0, u "Ljava/util/regex/Pattern;"), (46, u "PARAMETERS"), (0, u "Ljava/util/Set;"), (6, u "DEFAULT_SIZE"), (2, u "MAX_SIZE")] 52

def k3c0 : Code := { maxStack := 3, maxLocals := 4, code := prog_14_method_1_code, exceptionTable := #[], attributes := #[] }
def k3m0 : Method := { name := "<init>", desc := "(JI)V", sig := { parameters := [.long, .int], returnType := none }, accessFlags := 0, code := some k3c0 }
def k3c1 : Code := { maxStack := 6, maxLocals := 1, code := prog_14_method_3_code, exceptionTable := #[], attributes := #[] }
def k3m1 : Method := { name := "offset", desc := "()J", sig := { parameters := [], returnType := some .long }, accessFlags := 0, code := some k3c1 }
/-- com/example/guildhall/guildhall/Page -/
def k3 : Class := { plain "com/example/guildhall/guildhall/Page" (some 2) with
  accessFlags := 48
  interfaces := #[]
  cf := some (fileOf pool3 8 #[.nestMembers #[66]] #[{ accessFlags := 0, nameIndex := 5, descriptorIndex := 39, attributes := #[] }, { accessFlags := 0, nameIndex := 42, descriptorIndex := 43, attributes := #[] }] 48 2 #[] #[{ accessFlags := 18, nameIndex := 11, descriptorIndex := 12, attributes := #[] }, { accessFlags := 18, nameIndex := 15, descriptorIndex := 16, attributes := #[] }, { accessFlags := 24, nameIndex := 147, descriptorIndex := 16, attributes := #[] }, { accessFlags := 24, nameIndex := 150, descriptorIndex := 16, attributes := #[] }, { accessFlags := 24, nameIndex := 139, descriptorIndex := 140, attributes := #[] }, { accessFlags := 26, nameIndex := 91, descriptorIndex := 92, attributes := #[] }])
  fields := #[{ name := "number", type := .long, accessFlags := 18, slot := 0, constantValue := 0 }, { name := "size", type := .int, accessFlags := 18, slot := 1, constantValue := 0 }, { name := "DEFAULT_SIZE", type := .int, accessFlags := 24, slot := 0, constantValue := 0 }, { name := "MAX_SIZE", type := .int, accessFlags := 24, slot := 1, constantValue := 0 }, { name := "PARAMETERS", type := (.object "java/util/Set"), accessFlags := 24, slot := 2, constantValue := 0 }, { name := "DIGITS", type := (.object "java/util/regex/Pattern"), accessFlags := 26, slot := 3, constantValue := 0 }]
  methods := #[k3m0, k3m1]
  instanceTypes := #[.long, .int]
  staticTypes := #[.int, .int, (.object "java/util/Set"), (.object "java/util/regex/Pattern")]
  resolved := Array.replicate 203 none
  statics := none }

def pool4 : Array CpInfo := pool [(1, .class_ 2), (0, u "java/lang/Math"), (1, .class_ 6), (1, u "java/lang/Object"), (0, u "<init>"), (0, u "()V"), (89, .class_ 100), (1, u "java/lang/Math$RandomNumberGeneratorHolder"), (20, u "(JJ)J"), (50, u "negativeZeroFloatBits"), (0, u "J"), (2, u "negativeZeroDoubleBits"), (21, u "max"), (46, u "$assertionsDisabled"), (0, u "Z"), (91, u "twoToTheDoubleScaleDown"), (0, u "D"), (4, u "twoToTheDoubleScaleUp"), (9, u "E"), (3, u "PI"), (2, u "TAU"), (2, u "DEGREES_TO_RADIANS"), (0, u "RADIANS_TO_DEGREES")] 94

def k4m0 : Method := { name := "<init>", desc := "()V", sig := { parameters := [], returnType := none }, accessFlags := 2, code := none }
def k4c1 : Code := { maxStack := 4, maxLocals := 4, code := jdk_29_method_66_code, exceptionTable := #[], attributes := #[] }
def k4m1 : Method := { name := "max", desc := "(JJ)J", sig := { parameters := [.long, .long], returnType := some .long }, accessFlags := 9, code := some k4c1 }
/-- java/lang/Math -/
def k4 : Class := { plain "java/lang/Math" (some 0) with
  accessFlags := 49
  interfaces := #[]
  cf := some (fileOf pool4 1 #[.nestMembers #[98]] #[{ accessFlags := 2, nameIndex := 7, descriptorIndex := 8, attributes := #[] }, { accessFlags := 9, nameIndex := 198, descriptorIndex := 121, attributes := #[] }] 49 4 #[] #[{ accessFlags := 25, nameIndex := 354, descriptorIndex := 339, attributes := #[] }, { accessFlags := 25, nameIndex := 358, descriptorIndex := 339, attributes := #[] }, { accessFlags := 25, nameIndex := 361, descriptorIndex := 339, attributes := #[] }, { accessFlags := 26, nameIndex := 364, descriptorIndex := 339, attributes := #[] }, { accessFlags := 26, nameIndex := 365, descriptorIndex := 339, attributes := #[] }, { accessFlags := 26, nameIndex := 172, descriptorIndex := 173, attributes := #[] }, { accessFlags := 26, nameIndex := 176, descriptorIndex := 173, attributes := #[] }, { accessFlags := 8, nameIndex := 344, descriptorIndex := 339, attributes := #[] }, { accessFlags := 8, nameIndex := 338, descriptorIndex := 339, attributes := #[] }, { accessFlags := 4120, nameIndex := 245, descriptorIndex := 246, attributes := #[] }])
  fields := #[{ name := "E", type := .double, accessFlags := 25, slot := 0, constantValue := 0 }, { name := "PI", type := .double, accessFlags := 25, slot := 1, constantValue := 0 }, { name := "TAU", type := .double, accessFlags := 25, slot := 2, constantValue := 0 }, { name := "DEGREES_TO_RADIANS", type := .double, accessFlags := 26, slot := 3, constantValue := 0 }, { name := "RADIANS_TO_DEGREES", type := .double, accessFlags := 26, slot := 4, constantValue := 0 }, { name := "negativeZeroFloatBits", type := .long, accessFlags := 26, slot := 5, constantValue := 0 }, { name := "negativeZeroDoubleBits", type := .long, accessFlags := 26, slot := 6, constantValue := 0 }, { name := "twoToTheDoubleScaleUp", type := .double, accessFlags := 8, slot := 7, constantValue := 0 }, { name := "twoToTheDoubleScaleDown", type := .double, accessFlags := 8, slot := 8, constantValue := 0 }, { name := "$assertionsDisabled", type := .boolean, accessFlags := 4120, slot := 9, constantValue := 0 }]
  methods := #[k4m0, k4m1]
  instanceTypes := #[]
  staticTypes := #[.double, .double, .double, .double, .double, .long, .long, .double, .double, .boolean]
  resolved := Array.replicate 460 none
  statics := none }

def pool5 : Array CpInfo := pool [(1, u "java/lang/Cloneable"), (0, .class_ 1), (0, u "java/lang/Object"), (0, .class_ 3)] 3

/-- java/lang/Cloneable -/
def k5 : Class := { plain "java/lang/Cloneable" (some 0) with
  accessFlags := 1537
  interfaces := #[]
  cf := some (fileOf pool5 2 #[] #[] 1537 4 #[] #[])
  fields := #[]
  methods := #[]
  instanceTypes := #[]
  staticTypes := #[]
  resolved := Array.replicate 8 none
  statics := none }

def pool6 : Array CpInfo := pool [(1, u "java/io/Serializable"), (0, .class_ 1), (0, u "java/lang/Object"), (0, .class_ 3)] 3

/-- java/io/Serializable -/
def k6 : Class := { plain "java/io/Serializable" (some 0) with
  accessFlags := 1537
  interfaces := #[]
  cf := some (fileOf pool6 2 #[] #[] 1537 4 #[] #[])
  fields := #[]
  methods := #[]
  instanceTypes := #[]
  staticTypes := #[]
  resolved := Array.replicate 8 none
  statics := none }

/-- the primitive byte -/
def k7 : Class := { plain "byte" none with kind := .primitive 'B', accessFlags := 0x411 }
/-- [B -/
def k8 : Class := { plain "[B" (some 0) with kind := .array 7 .byte, interfaces := #[5, 6], accessFlags := 1041 }

def heap : Heap := #[]
def classes : Array Class := #[k0, k1, k2, k3, k4, k5, k6, k7, k8]
def interned : List (Array UInt16 × Addr) := []
def slotsUsed : Nat := 0
def theMethod : MethodId := ⟨1, 1⟩
def args0 : Array Value := #[.long 5, .int 7, .int 3]
def aboutOver (below : List Frame) : State where
  vm := { classes := classes, interned := interned.toArray }
  heap := heap
  slotsUsed := slotsUsed
  threads := #[{ frames := .invoking theMethod args0 :: below }]
def below0 : List Frame := [.native { method := ⟨0, 0⟩, args := #[] }]
def about1 : State := aboutOver below0
def p0 : Program := .bare "" "" ""
def e0 : Env := launch0.env 0 0 0
theorem w_frames : about1.frames = Frame.invoking theMethod args0 :: below0 := rfl
set_option maxRecDepth 65536 in
theorem w_args : argsFit about1.vm theMethod args0 = true := by decide +kernel
set_option maxRecDepth 65536 in
theorem w_heap : heapFits about1 = true := by decide +kernel
set_option maxRecDepth 65536 in
theorem w_runnable : about1.curStatus? = some .runnable := by decide +kernel
set_option maxRecDepth 65536 in
theorem w_alone : about1.alone = true := by decide +kernel
set_option maxRecDepth 65536 in
theorem w_named : about1.methodNamed? x = some theMethod := by decide +kernel
set_option maxRecDepth 65536 in
theorem w_hears : about1.hears theMethod below0 = true := by decide +kernel
set_option maxRecDepth 65536 in
theorem w_ripe : about1.ripe theMethod args0 below0 = true := by decide +kernel
theorem w_running : about1.status = .running := rfl
set_option maxRecDepth 65536 in
theorem w_room : about1.hasRoom e0.platform room_1 = true :=
  launch0.hasRoom_least _ room_1 (by decide +kernel) (by decide +kernel) (by decide +kernel) (by decide +kernel) (by decide +kernel) (by decide +kernel)
theorem allAtoms_all (ts : List Jvm.Cond) (a : Array Jvm.Value) (st : Jvm.State) : (allAtoms ts).before a st = ts.all (fun c => c.before a st) := by
  induction ts with
  | nil => rfl
  | cons c t ih =>
    show (Jvm.Cond.and c (allAtoms t)).before a st = _
    rw [Jvm.Cond.before_and, ih, List.all_cons]
def words1 : List Jvm.Cond := Jvm.Cond.code x code maxLocals ret :: tables_1
/-- a 'code' word, met by the world's own term for the bytes: nothing is compared byte by byte -/
theorem code_word {y : MethodName} {bytes : ByteArray} {mx : Nat} {rt : Option FieldType} {a : Array Value} {s : State} {m : MethodId} {meth : Method} {c : Code} (h1 : s.methodNamed? y = some m) (h2 : s.vm.method? m = some meth) (h3 : meth.code = some c) (h4 : c.code = bytes)
    (h5 : (c.maxLocals == mx && c.exceptionTable.isEmpty && decide (c.maxStack ≤ mostOperands) && decide (meth.sig.returnType = rt) && !meth.locks && decide (parseMethodDescriptor y.desc = some meth.sig)) = true) : (Jvm.Cond.code y bytes mx rt).before a s = true := by
  simp only [Bool.and_eq_true, beq_iff_eq, Bool.not_eq_true', decide_eq_true_eq] at h5
  obtain ⟨⟨⟨⟨⟨g1, g2⟩, g3⟩, g4⟩, g5⟩, g6⟩ := h5
  simp [Cond.before, Cond.holds, Cond.value, h1, h2, h3, h4, g1, g2, g3, g4, g5, g6]
def isCode : Jvm.Cond → Bool
  | .code _ _ _ _ => true
  | _ => false
theorem all_split {L : List Jvm.Cond} {P : Jvm.Cond → Bool} (h1 : L.all (fun c => isCode c || P c) = true) (h2 : ∀ c ∈ L.filter isCode, P c = true) : L.all P = true := by
  refine List.all_eq_true.mpr fun c hc => ?_
  have h := List.all_eq_true.mp h1 c hc
  rcases Bool.eq_false_or_eq_true (isCode c) with hi | hi
  · exact h2 c (List.mem_filter.mpr ⟨hc, hi⟩)
  · simpa [hi] using h
set_option maxRecDepth 65536 in
theorem w_c0 : (Jvm.Cond.code x code maxLocals ret).before args0 about1 = true := code_word (m := ⟨1, 1⟩) (meth := k1m1) (c := k1c1) (by decide +kernel) rfl rfl rfl (by decide +kernel)
set_option maxRecDepth 65536 in
theorem w_c1 : (Jvm.Cond.code ({ cls := "com/example/guildhall/guildhall/Page", name := "<init>", desc := "(JI)V" } : Jvm.MethodName) prog_14_method_1_code (4 : Nat) (Option.none : Option Jvm.ClassFile.FieldType)).before args0 about1 = true := code_word (m := ⟨3, 0⟩) (meth := k3m0) (c := k3c0) (by decide +kernel) rfl rfl rfl (by decide +kernel)
set_option maxRecDepth 65536 in
theorem w_c2 : (Jvm.Cond.code ({ cls := "java/lang/Record", name := "<init>", desc := "()V" } : Jvm.MethodName) jdk_30_method_1_code (1 : Nat) (Option.none : Option Jvm.ClassFile.FieldType)).before args0 about1 = true := code_word (m := ⟨2, 0⟩) (meth := k2m0) (c := k2c0) (by decide +kernel) rfl rfl rfl (by decide +kernel)
set_option maxRecDepth 65536 in
theorem w_c3 : (Jvm.Cond.code ({ cls := "java/lang/Object", name := "<init>", desc := "()V" } : Jvm.MethodName) object_method_1_code (1 : Nat) (Option.none : Option Jvm.ClassFile.FieldType)).before args0 about1 = true := code_word (m := ⟨0, 0⟩) (meth := k0m0) (c := k0c0) (by decide +kernel) rfl rfl rfl (by decide +kernel)
set_option maxRecDepth 65536 in
theorem w_c4 : (Jvm.Cond.code ({ cls := "com/example/guildhall/guildhall/Page", name := "offset", desc := "()J" } : Jvm.MethodName) prog_14_method_3_code (1 : Nat) (Option.some Jvm.ClassFile.FieldType.long)).before args0 about1 = true := code_word (m := ⟨3, 1⟩) (meth := k3m1) (c := k3c1) (by decide +kernel) rfl rfl rfl (by decide +kernel)
set_option maxRecDepth 65536 in
theorem w_c5 : (Jvm.Cond.code ({ cls := "java/lang/Math", name := "max", desc := "(JJ)J" } : Jvm.MethodName) jdk_29_method_66_code (4 : Nat) (Option.some Jvm.ClassFile.FieldType.long)).before args0 about1 = true := code_word (m := ⟨4, 1⟩) (meth := k4m1) (c := k4c1) (by decide +kernel) rfl rfl rfl (by decide +kernel)
def codes1 : List Jvm.Cond := [Jvm.Cond.code x code maxLocals ret, Jvm.Cond.code ({ cls := "com/example/guildhall/guildhall/Page", name := "<init>", desc := "(JI)V" } : Jvm.MethodName) prog_14_method_1_code (4 : Nat) (Option.none : Option Jvm.ClassFile.FieldType), Jvm.Cond.code ({ cls := "java/lang/Record", name := "<init>", desc := "()V" } : Jvm.MethodName) jdk_30_method_1_code (1 : Nat) (Option.none : Option Jvm.ClassFile.FieldType), Jvm.Cond.code ({ cls := "java/lang/Object", name := "<init>", desc := "()V" } : Jvm.MethodName) object_method_1_code (1 : Nat) (Option.none : Option Jvm.ClassFile.FieldType), Jvm.Cond.code ({ cls := "com/example/guildhall/guildhall/Page", name := "offset", desc := "()J" } : Jvm.MethodName) prog_14_method_3_code (1 : Nat) (Option.some Jvm.ClassFile.FieldType.long), Jvm.Cond.code ({ cls := "java/lang/Math", name := "max", desc := "(JJ)J" } : Jvm.MethodName) jdk_29_method_66_code (4 : Nat) (Option.some Jvm.ClassFile.FieldType.long)]
set_option maxRecDepth 65536 in
theorem codes_eq : words1.filter isCode = codes1 := rfl
theorem w_codes : ∀ c ∈ words1.filter isCode, c.before args0 about1 = true := by
  rw [codes_eq]
  intro c hc
  simp only [codes1, List.mem_cons, List.not_mem_nil, or_false] at hc
  rcases hc with rfl | rfl | rfl | rfl | rfl | rfl
  · exact w_c0
  · exact w_c1
  · exact w_c2
  · exact w_c3
  · exact w_c4
  · exact w_c5
set_option maxRecDepth 65536 in
theorem w_t1 : (words1.take 24).all (fun c => isCode c || c.before args0 about1) = true := by decide +kernel
set_option maxRecDepth 65536 in
theorem w_t2 : (words1.drop 24).all (fun c => isCode c || c.before args0 about1) = true := by decide +kernel
theorem w_tables : (allAtoms (Jvm.Cond.code x code maxLocals ret :: tables_1)).before args0 about1 = true := by
  rw [allAtoms_all]
  show words1.all (fun c => c.before args0 about1) = true
  refine all_split ?_ w_codes
  rw [← List.take_append_drop 24 words1, List.all_append, w_t1, w_t2]
  rfl
set_option maxRecDepth 65536 in
theorem w_case : (Jvm.Cond.and given_1 narrow_1).before args0 about1 = true := by decide +kernel
theorem w_applies : (headSpec (Jvm.Cond.code x code maxLocals ret :: tables_1) room_1).applies x e0.platform about1 = true :=
  (Spec.applies_iff w_frames).mpr ⟨w_running, w_runnable, w_alone, w_named, w_hears, w_ripe, w_room, w_tables⟩
theorem atStart : AtStart classFile x code maxLocals ret World_1 tables_1 room_1 Calls_1 rest_1 Pre_1 launch0 p0 e0 about1 theMethod args0 below0 :=
  ⟨lists_1, trivial, launch0.admits_env _ _ _, launch0.least_env, fairChoices_fair.cas, fairChoices_fair.clock, w_frames, w_args, w_heap, w_applies, trivial, trivial, w_case⟩
end start1
theorem witness_1 : WitnessClaimed_1 := ⟨start1.p0, start1.e0, start1.about1, start1.theMethod, start1.args0, start1.below0, start1.atStart⟩
end Jvm.Pilot.@@N@@
