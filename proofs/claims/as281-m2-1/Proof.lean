import JvmDerived
import JvmDerived.Pilot.@@N@@Statement
import JvmDerived.Pilot.@@N@@Code
set_option linter.unusedVariables false
set_option linter.unusedSimpArgs false
namespace Jvm.RoadKit
open Sem ClassFile Op Lib Jvm.Stand Jvm.Free Jvm.LawKit
section New
variable {p : Program} {l : Launch} {e : Env} {R : Room} {s : State} {m : MethodId} {args : Array Value} {below : List Frame} {meth : Method} {c : Code} {T : State} {locs : List Loc} {cells slots : Nat}
theorem retI (X : Stand p l e R s m args below meth c T locs cells slots) (hx : p.tables.exec = Jvm.exec) {pc : Nat} {Ls : Array Slot} {z : Int32} {rest : List Value} (hret : meth.sig.returnType = some .int) (hd : decode c.code pc = .ok (.ireturn, 1)) {fs : List Frame}
    (hl : ∀ (f : JFrame) (acts : List Action), f.method = m → f.locked = none → f.entered = [] → (doReturn e (T.setTop f) acts (some (.int z))).1 = T.setFrames fs) : Steps p.tables e below (T.setTop (mkF m pc Ls (.int z :: rest))) (T.setFrames fs) := by
  have hm' : T.vm.method? m = some meth := X.method'
  have hn : narrow .int (.int z) = .int z := rfl
  show Steps p.tables e below (T.setTop { method := m, pc := pc, locals := Ls, stack := _ :: rest, locked := none }) _
  jvm_step X.here [X.here.top, hx, hd, hm', hret, hn]
  first | (intro acts; rw [hl _ acts rfl rfl rfl]) | rw [hl _ _ rfl rfl rfl]
  exact Steps.refl _
end New
end Jvm.RoadKit
namespace Jvm.Pilot.@@N@@
open Jvm Jvm.ClassFile Sem Op Lib Jvm.Free Jvm.Stand Jvm.LawKit Jvm.RoadKit Bundle Jvm.Pilot.@@N@@.Jvm.D
section OwnArr
variable {p : Program} {l : Launch} {e : Env} {R : Room} {s : State} {m : MethodId} {args : Array Value} {below : List Frame} {meth : Method} {c : Code} {T : State} {locs : List Loc} {cells slots : Nat} {Z : State} {h h' : Heap} {a b : Addr} {ty : FieldType} {n : Nat} {f : Nat → Int32}
def OAf (Z : State) (h : Heap) (a : Addr) (ty : FieldType) (n : Nat) (f : Nat → Int32) : Prop := ∃ c : Cell, Arr Z h a c ty ∧ c.slots.size = n ∧ ∀ i, i < n → c.slots[i]? = some (.int (f i))
theorem OAf.lt (F : OAf Z h a ty n f) : a < h.size := by obtain ⟨c, A, -⟩ := F; exact A.lt
theorem OAf.ext (F : OAf Z h a ty n f) (E : Ext h h') : OAf Z h' a ty n f := by obtain ⟨c, A, r⟩ := F; exact ⟨c, A.ext E, r⟩
theorem OAf.other {sl : Nat} {v : Value} (F : OAf Z h b ty n f) (W : Wr h h' a sl v) (q : b ≠ a) : OAf Z h' b ty n f := by obtain ⟨c, A, r⟩ := F; exact ⟨c, A.other W q, r⟩
theorem OAf.keep {ws : List Addr} (F : OAf Z h a ty n f) (K : Keep h h' ws) (q : a ∉ ws) : OAf Z h' a ty n f := by obtain ⟨c, A, r⟩ := F; exact ⟨c, ⟨K.2.1 a c A.1 q, A.2⟩, r⟩
theorem OAf.set {j : Nat} {v : Int32} (F : OAf Z h a ty n f) (W : Wr h h' a j (.int v)) : OAf Z h' a ty n (fun i => if i = j then v else f i) := by
  obtain ⟨c, A, S, H⟩ := F
  refine ⟨_, A.same W, by simpa [Cell.setSlot] using S, fun i hi => ?_⟩
  by_cases u : i = j
  · subst u; simp [Cell.setSlot, S, hi]
  · simp only [Cell.setSlot, if_neg u]
    rw [Array.getElem?_setIfInBounds_ne (Ne.symm u)]; exact H i hi
theorem OAf.new {k : ClassId} {z : Int32} (A : Arr Z h a (newA k ty z) ty) (hd : defaultValue ty = .int 0) (hz : z.toNatClampNeg = n) : OAf Z h a ty n (fun _ => 0) :=
  ⟨_, A, (sz_new _ _ _).trans hz, fun i hi => by simp [newA, hz, hi, hd]⟩
theorem OAf.congr {g : Nat → Int32} (F : OAf Z h a ty n f) (q : ∀ i, i < n → f i = g i) : OAf Z h a ty n g := by obtain ⟨c, A, S, H⟩ := F; exact ⟨c, A, S, fun i hi => by rw [← q i hi]; exact H i hi⟩
theorem own_iaload (X : Stand p l e R s m args below meth c T locs cells slots) (hx : p.tables.exec = Jvm.exec) (hZ : Z.Warmed39 s.vm) (eT : T.heap = h) (F : OAf Z h a .int n f) {j : Int32} (h1 : ¬ j < 0) (h2 : j.toNatClampNeg < n) {g : JFrame} (hg : g.method = m) {rest : List Value} (hs : g.stack = .int j :: .ref a :: rest) (hd : decode c.code g.pc = .ok (.iaload, 1)) (target : State)
    (hr : Steps p.tables e below (T.setTop { g with pc := g.pc + 1, stack := .int (f j.toNatClampNeg) :: rest }) target) : Steps p.tables e below (T.setTop g) target := by
  obtain ⟨cl, A, S, H⟩ := F
  exact X.iaload hx (by rw [eT]; exact A.1) (State.isArrayOf_alike hZ.alike A.2.1) A.2.2 (fun q => q.elim h1 fun q => absurd h2 (Nat.not_lt.mpr (S ▸ q))) (H _ h2) hg hs hd target hr
theorem own_baload (X : Stand p l e R s m args below meth c T locs cells slots) (hx : p.tables.exec = Jvm.exec) (hZ : Z.Warmed39 s.vm) (eT : T.heap = h) (F : OAf Z h a .byte n f) {j : Int32} (h1 : ¬ j < 0) (h2 : j.toNatClampNeg < n) {g : JFrame} (hg : g.method = m) {rest : List Value} (hs : g.stack = .int j :: .ref a :: rest) (hd : decode c.code g.pc = .ok (.baload, 1)) (target : State)
    (hr : Steps p.tables e below (T.setTop { g with pc := g.pc + 1, stack := .int (f j.toNatClampNeg) :: rest }) target) : Steps p.tables e below (T.setTop g) target := by
  obtain ⟨cl, A, S, H⟩ := F
  exact X.baloadBytes hx (by rw [eT]; exact A.1) (State.isArrayOf_alike hZ.alike A.2.1) A.2.2 (fun q => q.elim h1 fun q => absurd h2 (Nat.not_lt.mpr (S ▸ q))) (H _ h2) hg hs hd target hr
theorem own_caload (X : Stand p l e R s m args below meth c T locs cells slots) (hx : p.tables.exec = Jvm.exec) (hZ : Z.Warmed39 s.vm) (eT : T.heap = h) (F : OAf Z h a .char n f) {j : Int32} (h1 : ¬ j < 0) (h2 : j.toNatClampNeg < n) {g : JFrame} (hg : g.method = m) {rest : List Value} (hs : g.stack = .int j :: .ref a :: rest) (hd : decode c.code g.pc = .ok (.caload, 1)) (target : State)
    (hr : Steps p.tables e below (T.setTop { g with pc := g.pc + 1, stack := .int (f j.toNatClampNeg) :: rest }) target) : Steps p.tables e below (T.setTop g) target := by
  obtain ⟨cl, A, S, H⟩ := F
  exact X.caload hx (by rw [eT]; exact A.1) (State.isArrayOf_alike hZ.alike A.2.1) A.2.2 (fun q => q.elim h1 fun q => absurd h2 (Nat.not_lt.mpr (S ▸ q))) (H _ h2) hg hs hd target hr
theorem own_iastore (X : Stand p l e R s m args below meth c T locs cells slots) (hx : p.tables.exec = Jvm.exec) (hZ : Z.Warmed39 s.vm) (eT : T.heap = h) (F : OAf Z h a .int n f) {j x : Int32} (h1 : ¬ j < 0) (h2 : j.toNatClampNeg < n) {g : JFrame} (hg : g.method = m) {rest : List Value} (hs : g.stack = .int x :: .int j :: .ref a :: rest) (hd : decode c.code g.pc = .ok (.iastore, 1)) :
    ∃ T' h', Stand p l e R s m args below meth c T' (locs ++ [⟨a, j.toNatClampNeg⟩]) cells slots ∧ T'.heap = h' ∧ Wr h h' a j.toNatClampNeg (.int x) ∧ OAf Z h' a .int n (fun i => if i = j.toNatClampNeg then x else f i) ∧ ∀ target, Steps p.tables e below (T'.setTop { g with pc := g.pc + 1, stack := rest }) target → Steps p.tables e below (T.setTop g) target := by
  have F' := F
  obtain ⟨cl, A, S, H⟩ := F
  obtain ⟨T', h', X', e', W, st⟩ := stI X hx hZ eT A (j := j) (x := x) (fun q => q.elim h1 fun q => absurd h2 (Nat.not_lt.mpr (S ▸ q))) hg hs hd
  exact ⟨T', h', X', e', W, OAf.set F' W, st⟩
theorem own_bastore (X : Stand p l e R s m args below meth c T locs cells slots) (hx : p.tables.exec = Jvm.exec) (hZ : Z.Warmed39 s.vm) (eT : T.heap = h) (F : OAf Z h a .byte n f) {j x : Int32} (h1 : ¬ j < 0) (h2 : j.toNatClampNeg < n) {g : JFrame} (hg : g.method = m) {rest : List Value} (hs : g.stack = .int x :: .int j :: .ref a :: rest) (hd : decode c.code g.pc = .ok (.bastore, 1)) :
    ∃ T' h', Stand p l e R s m args below meth c T' (locs ++ [⟨a, j.toNatClampNeg⟩]) cells slots ∧ T'.heap = h' ∧ Wr h h' a j.toNatClampNeg (.int (x.toInt8.toInt32)) ∧ OAf Z h' a .byte n (fun i => if i = j.toNatClampNeg then (x.toInt8.toInt32) else f i) ∧ ∀ target, Steps p.tables e below (T'.setTop { g with pc := g.pc + 1, stack := rest }) target → Steps p.tables e below (T.setTop g) target := by
  have F' := F
  obtain ⟨cl, A, S, H⟩ := F
  obtain ⟨T', h', X', e', W, st⟩ := stB X hx hZ eT A (j := j) (x := x) (fun q => q.elim h1 fun q => absurd h2 (Nat.not_lt.mpr (S ▸ q))) hg hs hd
  exact ⟨T', h', X', e', W, OAf.set F' W, st⟩
theorem own_castore (X : Stand p l e R s m args below meth c T locs cells slots) (hx : p.tables.exec = Jvm.exec) (hZ : Z.Warmed39 s.vm) (eT : T.heap = h) (F : OAf Z h a .char n f) {j x : Int32} (h1 : ¬ j < 0) (h2 : j.toNatClampNeg < n) {g : JFrame} (hg : g.method = m) {rest : List Value} (hs : g.stack = .int x :: .int j :: .ref a :: rest) (hd : decode c.code g.pc = .ok (.castore, 1)) :
    ∃ T' h', Stand p l e R s m args below meth c T' (locs ++ [⟨a, j.toNatClampNeg⟩]) cells slots ∧ T'.heap = h' ∧ Wr h h' a j.toNatClampNeg (.int (x.toUInt32.toUInt16.toUInt32.toInt32)) ∧ OAf Z h' a .char n (fun i => if i = j.toNatClampNeg then (x.toUInt32.toUInt16.toUInt32.toInt32) else f i) ∧ ∀ target, Steps p.tables e below (T'.setTop { g with pc := g.pc + 1, stack := rest }) target → Steps p.tables e below (T.setTop g) target := by
  have F' := F
  obtain ⟨cl, A, S, H⟩ := F
  obtain ⟨T', h', X', e', W, st⟩ := stC X hx hZ eT A (j := j) (x := x) (fun q => q.elim h1 fun q => absurd h2 (Nat.not_lt.mpr (S ▸ q))) hg hs hd
  exact ⟨T', h', X', e', W, OAf.set F' W, st⟩
theorem own_len (X : Stand p l e R s m args below meth c T locs cells slots) (hx : p.tables.exec = Jvm.exec) (hZ : Z.Warmed39 s.vm) (eT : T.heap = h) (F : OAf Z h a ty n f) {z : Int32} (hz : n.toInt32 = z) {g : JFrame} (hg : g.method = m) {rest : List Value} (hs : g.stack = .ref a :: rest) (hd : decode c.code g.pc = .ok (.arraylength, 1)) (target : State)
    (hr : Steps p.tables e below (T.setTop { g with pc := g.pc + 1, stack := .int z :: rest }) target) : Steps p.tables e below (T.setTop g) target := by
  obtain ⟨cl, A, S, H⟩ := F
  refine X.arraylength hx (by rw [eT]; exact A.1) (State.isArrayOf_alike hZ.alike A.2.1) hg hs hd target ?_
  rw [S, hz]; exact hr
theorem own_clone (X : Stand p l e R s m args below meth c T locs cells slots) (hx : p.tables.exec = Jvm.exec) (hZ : Z.Warmed39 s.vm) (eT : T.heap = h) {a0 : Array Value} {own ad : String} {index : Nat} (hown : s.vm.findClass own = some m.cls)
    (w1 : (Cond.methodLink own index ⟨ad, "clone", "()Ljava/lang/Object;"⟩).before a0 Z = true) (w2 : (Cond.sameMethod ad "java/lang/Object" "clone" "()Ljava/lang/Object;").before a0 Z = true) (w3 : (Cond.native ⟨"java/lang/Object", "clone", "()Ljava/lang/Object;"⟩).before a0 Z = true)
    (w4 : (Cond.instanceMethod ⟨"java/lang/Object", "clone", "()Ljava/lang/Object;"⟩).before a0 Z = true) (w5 : (Cond.selects ad ⟨ad, "clone", "()Ljava/lang/Object;"⟩ ⟨"java/lang/Object", "clone", "()Ljava/lang/Object;"⟩).before a0 Z = true) (w6 : (Cond.castable ad "java/lang/Cloneable").before a0 Z = true)
    (F : OAf Z h a ty n f) (hfit : ∀ i, i < n → fits ty (.int (f i)) = true) (E : Exa Z h a ad) {g : JFrame} (hg : g.method = m) (hsize : g.locals.size = c.maxLocals) {rest : List Value} (hs : g.stack = .ref a :: rest) (hd : decode c.code g.pc = .ok (.invokevirtual index, 3))
    (hf : 1 ≤ R.frames) {W cap : Nat} (hW : 2 * g.monitorRoom + (rest.map fun v => v.category).sum ≤ W) (hl : W + 14 ≤ R.locals) (hcap : n ≤ cap) (hc : cells + 1 ≤ R.cells) (hsl : slots + cap ≤ R.slots) :
    ∃ T' h', Stand p l e R s m args below meth c T' locs (cells + 1) (slots + cap) ∧ T'.heap = h' ∧ Ext h h' ∧ OAf Z h' h.size ty n f ∧ Exa Z h' h.size ad ∧
      ∀ target, Steps p.tables e below (T'.setTop { g with pc := g.pc + 3, stack := .ref h.size :: rest }) target → Steps p.tables e below (T.setTop g) target := by
  obtain ⟨cl, A, S, H⟩ := F
  have FC : FitC Z cl := fitC_of A fun i hi v hv => by rw [H i (S ▸ hi)] at hv; cases hv; exact hfit i (S ▸ hi)
  obtain ⟨T', h', X', e', ex, A', E', st⟩ := cloneA X hx hZ hown w1 w2 w3 w4 w5 w6 eT A E FC hg hsize hs hd hf hW hl (by rw [S]; exact hcap) hc hsl
  exact ⟨T', h', X', e', ex, ⟨cloneOf cl, A', S, H⟩, E', st⟩
end OwnArr

def own_Enc : Nat → (Nat → Int32) → Nat → Int → Prop
  | 0, _, _, _ => False
  | k + 1, f, i, N => (N < 128 ∧ (f i).toInt = N) ∨ (128 ≤ N ∧ (f i).toInt = N % 128 - 128 ∧ own_Enc k f (i + 1) (N / 128))
theorem own_bv1 (v a b : BitVec 64) : (v ||| a) &&& (a ||| b) = a ||| (v &&& b) := by
  apply BitVec.eq_of_getLsbD_eq
  intro i hi
  simp only [BitVec.getLsbD_and, BitVec.getLsbD_or]
  cases v.getLsbD i <;> cases a.getLsbD i <;> cases b.getLsbD i <;> rfl
theorem own_bv2 (v a b : BitVec 64) : v &&& (a ||| b) = (v &&& a) ||| (v &&& b) := by
  apply BitVec.eq_of_getLsbD_eq
  intro i hi
  simp only [BitVec.getLsbD_and, BitVec.getLsbD_or]
  cases v.getLsbD i <;> cases a.getLsbD i <;> cases b.getLsbD i <;> rfl
theorem own_or255 (v : Int64) : (v ||| (128 : Int64)) &&& (255 : Int64) = (128 : Int64) ||| (v &&& (127 : Int64)) :=
  Int64.toBitVec_inj.mp (own_bv1 v.toBitVec (128 : Int64).toBitVec (127 : Int64).toBitVec)
theorem own_split (v : Int64) : v = (v &&& (-128 : Int64)) ||| (v &&& (127 : Int64)) := by
  have h : v &&& ((-128 : Int64) ||| (127 : Int64)) = (v &&& (-128 : Int64)) ||| (v &&& (127 : Int64)) := Int64.toBitVec_inj.mp (own_bv2 v.toBitVec (-128 : Int64).toBitVec (127 : Int64).toBitVec)
  have e : ((-128 : Int64) ||| (127 : Int64)) = -1 := by decide
  rw [e] at h
  rw [← h]
  exact (Int64.and_neg_one).symm
theorem own_cond (v : Int64) : lcmpW (v &&& (-128 : Int64)) (0 : Int64) = (0 : Int32) ↔ v.toInt % 18446744073709551616 < 128 := by
  rw [lw_eq]
  have m7 := c_maskL v (127 : Int64) 7 (by decide) (by decide)
  have r := rng64 v
  constructor
  · intro q
    have h := own_split v
    rw [q, Int64.zero_or] at h
    have h2 := congrArg Int64.toInt h
    omega
  · intro q
    have h : v &&& (127 : Int64) = v := Int64.toInt_inj.mp (by omega)
    rw [← h, Int64.and_assoc]
    have e : ((127 : Int64) &&& (-128 : Int64)) = 0 := by decide
    rw [e, Int64.and_zero]
theorem own_hi (v : Int64) : ((((v ||| (128 : Int64)).toInt32).toInt8.toInt32).toInt8.toInt32).toInt = (v.toInt % 18446744073709551616) % 128 - 128 := by
  have a := c_maskL (v ||| (128 : Int64)) (255 : Int64) 8 (by decide) (by decide)
  rw [own_or255] at a
  have m7 := c_maskL v (127 : Int64) 7 (by decide) (by decide)
  have d : (128 : Int64).toInt = 128 := rfl
  have b := c_orL (128 : Int64) (v &&& (127 : Int64)) 7 (by decide) 128 rfl (by rw [d]; decide) (by omega) (by omega)
  have rr := rng64 ((128 : Int64) ||| (v &&& (127 : Int64)))
  have l := c_l2i (v ||| (128 : Int64))
  have i1 := c_i2b ((v ||| (128 : Int64)).toInt32)
  have i2 := c_i2b (((v ||| (128 : Int64)).toInt32).toInt8.toInt32)
  omega
theorem own_lo (v : Int64) (h : v.toInt % 18446744073709551616 < 128) : ((((v).toInt32).toInt8.toInt32).toInt8.toInt32).toInt = v.toInt % 18446744073709551616 := by
  have l := c_l2i v
  have i1 := c_i2b (v.toInt32)
  have i2 := c_i2b ((v.toInt32).toInt8.toInt32)
  omega
theorem own_shr (v : Int64) : ((v.toUInt64 >>> ((7 : Int32) &&& 0x3f).toInt64.toUInt64).toInt64).toInt % 18446744073709551616 = (v.toInt % 18446744073709551616) / 128 := by
  have a := c_lushr v (7 : Int32) 7 (by decide) (by decide)
  omega
theorem own_ix {x : Int32} (h0 : 0 ≤ x.toInt) (h1 : x.toInt < 18) : ¬ (x < 0) ∧ x.toNatClampNeg < 18 ∧ (x + (1 : Int32)).toInt = x.toInt + 1 ∧ (x + (1 : Int32)).toNatClampNeg = x.toNatClampNeg + 1 ∧ (x.toNatClampNeg : Int) = x.toInt := by
  have z : (0 : Int32).toInt = 0 := rfl
  have o : (1 : Int32).toInt = 1 := rfl
  have q : ¬ (x < 0) := by rw [Int32.lt_iff_toInt_lt]; omega
  have a := nat_of q
  have b := c_iadd x (1 : Int32)
  have r := rng32 (x + (1 : Int32))
  have q2 : ¬ ((x + (1 : Int32)) < 0) := by rw [Int32.lt_iff_toInt_lt]; omega
  have a2 := nat_of q2
  refine ⟨q, by omega, by omega, by omega, by omega⟩
theorem dpk_0 : decode prog_89_method_13_code 0 = .ok (.lload_n 0, 1) := by decide +kernel
theorem dpk_1 : decode prog_89_method_13_code 1 = .ok (.ldc2_w 28, 3) := by decide +kernel
theorem dpk_4 : decode prog_89_method_13_code 4 = .ok (.land, 1) := by decide +kernel
theorem dpk_5 : decode prog_89_method_13_code 5 = .ok (.lconst 0, 1) := by decide +kernel
theorem dpk_6 : decode prog_89_method_13_code 6 = .ok (.lcmp, 1) := by decide +kernel
theorem dpk_7 : decode prog_89_method_13_code 7 = .ok (.ifCond .eq 24, 3) := by decide +kernel
theorem dpk_10 : decode prog_89_method_13_code 10 = .ok (.aload_n 2, 1) := by decide +kernel
theorem dpk_11 : decode prog_89_method_13_code 11 = .ok (.iload_n 3, 1) := by decide +kernel
theorem dpk_12 : decode prog_89_method_13_code 12 = .ok (.iinc 3 1, 3) := by decide +kernel
theorem dpk_15 : decode prog_89_method_13_code 15 = .ok (.lload_n 0, 1) := by decide +kernel
theorem dpk_16 : decode prog_89_method_13_code 16 = .ok (.ldc2_w 59, 3) := by decide +kernel
theorem dpk_19 : decode prog_89_method_13_code 19 = .ok (.lor, 1) := by decide +kernel
theorem dpk_20 : decode prog_89_method_13_code 20 = .ok (.l2i, 1) := by decide +kernel
theorem dpk_21 : decode prog_89_method_13_code 21 = .ok (.i2b, 1) := by decide +kernel
theorem dpk_22 : decode prog_89_method_13_code 22 = .ok (.bastore, 1) := by decide +kernel
theorem dpk_23 : decode prog_89_method_13_code 23 = .ok (.lload_n 0, 1) := by decide +kernel
theorem dpk_24 : decode prog_89_method_13_code 24 = .ok (.bipush 7, 2) := by decide +kernel
theorem dpk_26 : decode prog_89_method_13_code 26 = .ok (.lushr, 1) := by decide +kernel
theorem dpk_27 : decode prog_89_method_13_code 27 = .ok (.lstore_n 0, 1) := by decide +kernel
theorem dpk_28 : decode prog_89_method_13_code 28 = .ok (.goto (-28), 3) := by decide +kernel
theorem dpk_31 : decode prog_89_method_13_code 31 = .ok (.aload_n 2, 1) := by decide +kernel
theorem dpk_32 : decode prog_89_method_13_code 32 = .ok (.iload_n 3, 1) := by decide +kernel
theorem dpk_33 : decode prog_89_method_13_code 33 = .ok (.iinc 3 1, 3) := by decide +kernel
theorem dpk_36 : decode prog_89_method_13_code 36 = .ok (.lload_n 0, 1) := by decide +kernel
theorem dpk_37 : decode prog_89_method_13_code 37 = .ok (.l2i, 1) := by decide +kernel
theorem dpk_38 : decode prog_89_method_13_code 38 = .ok (.i2b, 1) := by decide +kernel
theorem dpk_39 : decode prog_89_method_13_code 39 = .ok (.bastore, 1) := by decide +kernel
theorem dpk_40 : decode prog_89_method_13_code 40 = .ok (.iload_n 3, 1) := by decide +kernel
set_option maxRecDepth 65536 in
set_option maxHeartbeats 40000000 in
theorem lv_pk {p : Program} {l : Launch} {e : Env} {R : Room} {s : State} {m : MethodId} {args : Array Value} {below : List Frame} {meth : Method} {c : Code} {cells slots : Nat} {Z : State} {a0 : Array Value} (hx : p.tables.exec = Jvm.exec) (hZ : Z.Warmed39 s.vm) (hw : ∀ d ∈ tables_1, d.before a0 Z = true) (hby : c.code = prog_89_method_13_code) (hml : c.maxLocals = 4) (hown : s.vm.findClass "com/example/fenceline/fenceline/util/PackedValues" = some m.cls) {a2 : Addr} {n0 : Nat} (g2 : n0 ≤ a2) {v : Int64} {pos : Int32} {f : Nat → Int32} {T0 : State} {locs : List Loc} {h0 : Heap} (X0 : Stand p l e R s m args below meth c T0 locs cells slots) (e0 : T0.heap = h0) (F : OAf Z h0 a2 .byte 18 f) (N0 : Fr n0 locs) (hN : v.toInt % 18446744073709551616 < 128) (hp0 : 0 ≤ pos.toInt) (hp1 : pos.toInt < 18) :
    ∃ (T' : State) (h' : Heap) (L' : List Loc) (f' : Nat → Int32) (Ls : Array Slot) (z : Int32), Stand p l e R s m args below meth c T' L' cells slots ∧ T'.heap = h' ∧ h'.size = h0.size ∧ OAf Z h' a2 .byte 18 f' ∧ Fr n0 L' ∧ (f' pos.toNatClampNeg).toInt = v.toInt % 18446744073709551616 ∧ (∀ i, i < pos.toNatClampNeg → f' i = f i) ∧ ∀ t, Steps p.tables e below (T'.setTop (mkF m 41 Ls [.int z])) t → Steps p.tables e below (T0.setTop (mkF m 0 #[.val (.long v), .second, .val (.ref a2), .val (.int pos)] [])) t := by
  have pre0 : ∀ tg_, Steps p.tables e below (T0.setTop (mkF m 0 #[.val (.long v), .second, .val (.ref a2), .val (.int pos)] [])) tg_ → Steps p.tables e below (T0.setTop (mkF m 0 #[.val (.long v), .second, .val (.ref a2), .val (.int pos)] [])) tg_ := fun _ kk_ => kk_
  have p_1 : ∀ tg_, Steps p.tables e below (T0.setTop (mkF m 39 #[.val (.long v), .second, .val (.ref a2), .val (.int (pos + (1 : Int32)))] [(.int ((v.toInt32).toInt8.toInt32)), (.int pos), (.ref a2)])) tg_ → Steps p.tables e below (T0.setTop (mkF m 0 #[.val (.long v), .second, .val (.ref a2), .val (.int pos)] [])) tg_ := by
    intro tg_ kk_
    refine pre0 tg_ ?_
    show Steps p.tables e below (T0.setTop (mkF m 0 #[.val (.long v), .second, .val (.ref a2), .val (.int pos)] [])) _
    refine XS.lloadN X0.here hx rfl (hb hby dpk_0) rfl ?_
    show Steps p.tables e below (T0.setTop (mkF m 1 #[.val (.long v), .second, .val (.ref a2), .val (.int pos)] [(.long v)])) _
    refine X0.ldc2Long hx hown (mvT hZ (hw _ (List.mem_of_getElem? (i := 5) rfl))) (g := (mkF m 1 #[.val (.long v), .second, .val (.ref a2), .val (.int pos)] [(.long v)])) rfl (hb hby dpk_1) _ ?_
    show Steps p.tables e below (T0.setTop (mkF m 4 #[.val (.long v), .second, .val (.ref a2), .val (.int pos)] [(.long (-128 : Int64)), (.long v)])) _
    refine XS.land X0.here hx rfl (hb hby dpk_4) rfl ?_
    show Steps p.tables e below (T0.setTop (mkF m 5 #[.val (.long v), .second, .val (.ref a2), .val (.int pos)] [(.long (v &&& (-128 : Int64)))])) _
    refine XS.lconst X0.here hx rfl (hb hby dpk_5) ?_
    show Steps p.tables e below (T0.setTop (mkF m 6 #[.val (.long v), .second, .val (.ref a2), .val (.int pos)] [(.long (0 : Int64)), (.long (v &&& (-128 : Int64)))])) _
    refine XS.lcmp X0.here hx rfl (hb hby dpk_6) rfl ?_
    show Steps p.tables e below (T0.setTop (mkF m 7 #[.val (.long v), .second, .val (.ref a2), .val (.int pos)] [(.int (lcmpW (v &&& (-128 : Int64)) (0 : Int64)))])) _
    refine XS.ifYes X0.here hx rfl (pc0 := 7) (pc' := 31) rfl (hb hby dpk_7) rfl ((if0 _ _).trans (teq (show (lcmpW (v &&& (-128 : Int64)) (0 : Int64)) = (0 : Int32) from ((own_cond v).mpr hN))).1) (by decide) (by decide) ?_
    show Steps p.tables e below (T0.setTop (mkF m 31 #[.val (.long v), .second, .val (.ref a2), .val (.int pos)] [])) _
    refine XS.aloadN X0.here hx rfl (hb hby dpk_31) rfl rfl ?_
    show Steps p.tables e below (T0.setTop (mkF m 32 #[.val (.long v), .second, .val (.ref a2), .val (.int pos)] [(.ref a2)])) _
    refine XS.iloadN X0.here hx rfl (hb hby dpk_32) rfl ?_
    show Steps p.tables e below (T0.setTop (mkF m 33 #[.val (.long v), .second, .val (.ref a2), .val (.int pos)] [(.int pos), (.ref a2)])) _
    refine XS.iinc X0.here hx rfl (hb hby dpk_33) rfl (l' := #[.val (.long v), .second, .val (.ref a2), .val (.int (pos + (1 : Int32)))]) rfl ?_
    show Steps p.tables e below (T0.setTop (mkF m 36 #[.val (.long v), .second, .val (.ref a2), .val (.int (pos + (1 : Int32)))] [(.int pos), (.ref a2)])) _
    refine XS.lloadN X0.here hx rfl (hb hby dpk_36) rfl ?_
    show Steps p.tables e below (T0.setTop (mkF m 37 #[.val (.long v), .second, .val (.ref a2), .val (.int (pos + (1 : Int32)))] [(.long v), (.int pos), (.ref a2)])) _
    refine XS.l2i X0.here hx rfl (hb hby dpk_37) rfl ?_
    show Steps p.tables e below (T0.setTop (mkF m 38 #[.val (.long v), .second, .val (.ref a2), .val (.int (pos + (1 : Int32)))] [(.int (v.toInt32)), (.int pos), (.ref a2)])) _
    refine XS.i2b X0.here hx rfl (hb hby dpk_38) rfl ?_
    exact kk_
  obtain ⟨T2, h2, X2, e2, W2, F2, st2⟩ := own_bastore X0 hx hZ e0 F (j := pos) (own_ix hp0 hp1).1 (own_ix hp0 hp1).2.1 (g := (mkF m 39 #[.val (.long v), .second, .val (.ref a2), .val (.int (pos + (1 : Int32)))] [(.int ((v.toInt32).toInt8.toInt32)), (.int pos), (.ref a2)])) rfl rfl (hb hby dpk_39)
  have N2 := Fr.snoc X2 N0 g2
  have p_3 : ∀ tg_, Steps p.tables e below (T2.setTop (mkF m 41 #[.val (.long v), .second, .val (.ref a2), .val (.int (pos + (1 : Int32)))] [(.int (pos + (1 : Int32)))])) tg_ → Steps p.tables e below (T0.setTop (mkF m 0 #[.val (.long v), .second, .val (.ref a2), .val (.int pos)] [])) tg_ := by
    intro tg_ kk_
    refine p_1 tg_ ?_
    refine st2 _ ?_
    show Steps p.tables e below (T2.setTop (mkF m 40 #[.val (.long v), .second, .val (.ref a2), .val (.int (pos + (1 : Int32)))] [])) _
    refine XS.iloadN X2.here hx rfl (hb hby dpk_40) rfl ?_
    exact kk_
  refine ⟨_, _, _, _, _, _, X2, e2, W2.size, F2, N2, ?_, fun i hi => ?_, p_3⟩
  · show (if pos.toNatClampNeg = pos.toNatClampNeg then _ else _ : Int32).toInt = _
    rw [if_pos rfl]; exact own_lo v hN
  · exact if_neg (Nat.ne_of_lt hi)
set_option maxRecDepth 65536 in
set_option maxHeartbeats 40000000 in
theorem tn_pk {p : Program} {l : Launch} {e : Env} {R : Room} {s : State} {m : MethodId} {args : Array Value} {below : List Frame} {meth : Method} {c : Code} {cells slots : Nat} {Z : State} {a0 : Array Value} (hx : p.tables.exec = Jvm.exec) (hZ : Z.Warmed39 s.vm) (hw : ∀ d ∈ tables_1, d.before a0 Z = true) (hby : c.code = prog_89_method_13_code) (hml : c.maxLocals = 4) (hown : s.vm.findClass "com/example/fenceline/fenceline/util/PackedValues" = some m.cls) {a2 : Addr} {n0 : Nat} (g2 : n0 ≤ a2) {v : Int64} {pos : Int32} {f : Nat → Int32} {T0 : State} {locs : List Loc} {h0 : Heap} (X0 : Stand p l e R s m args below meth c T0 locs cells slots) (e0 : T0.heap = h0) (F : OAf Z h0 a2 .byte 18 f) (N0 : Fr n0 locs) (hN : ¬ v.toInt % 18446744073709551616 < 128) (hp0 : 0 ≤ pos.toInt) (hp1 : pos.toInt < 18) :
    ∃ (T' : State) (h' : Heap) (L' : List Loc) (f' : Nat → Int32), Stand p l e R s m args below meth c T' L' cells slots ∧ T'.heap = h' ∧ h'.size = h0.size ∧ OAf Z h' a2 .byte 18 f' ∧ Fr n0 L' ∧ (f' pos.toNatClampNeg).toInt = (v.toInt % 18446744073709551616) % 128 - 128 ∧ (∀ i, i < pos.toNatClampNeg → f' i = f i) ∧ ∀ t, Steps p.tables e below (T'.setTop (mkF m 0 #[.val (.long ((v.toUInt64 >>> ((7 : Int32) &&& 0x3f).toInt64.toUInt64).toInt64)), .second, .val (.ref a2), .val (.int (pos + (1 : Int32)))] [])) t → Steps p.tables e below (T0.setTop (mkF m 0 #[.val (.long v), .second, .val (.ref a2), .val (.int pos)] [])) t := by
  have pre0 : ∀ tg_, Steps p.tables e below (T0.setTop (mkF m 0 #[.val (.long v), .second, .val (.ref a2), .val (.int pos)] [])) tg_ → Steps p.tables e below (T0.setTop (mkF m 0 #[.val (.long v), .second, .val (.ref a2), .val (.int pos)] [])) tg_ := fun _ kk_ => kk_
  have p_4 : ∀ tg_, Steps p.tables e below (T0.setTop (mkF m 22 #[.val (.long v), .second, .val (.ref a2), .val (.int (pos + (1 : Int32)))] [(.int (((v ||| (128 : Int64)).toInt32).toInt8.toInt32)), (.int pos), (.ref a2)])) tg_ → Steps p.tables e below (T0.setTop (mkF m 0 #[.val (.long v), .second, .val (.ref a2), .val (.int pos)] [])) tg_ := by
    intro tg_ kk_
    refine pre0 tg_ ?_
    show Steps p.tables e below (T0.setTop (mkF m 0 #[.val (.long v), .second, .val (.ref a2), .val (.int pos)] [])) _
    refine XS.lloadN X0.here hx rfl (hb hby dpk_0) rfl ?_
    show Steps p.tables e below (T0.setTop (mkF m 1 #[.val (.long v), .second, .val (.ref a2), .val (.int pos)] [(.long v)])) _
    refine X0.ldc2Long hx hown (mvT hZ (hw _ (List.mem_of_getElem? (i := 5) rfl))) (g := (mkF m 1 #[.val (.long v), .second, .val (.ref a2), .val (.int pos)] [(.long v)])) rfl (hb hby dpk_1) _ ?_
    show Steps p.tables e below (T0.setTop (mkF m 4 #[.val (.long v), .second, .val (.ref a2), .val (.int pos)] [(.long (-128 : Int64)), (.long v)])) _
    refine XS.land X0.here hx rfl (hb hby dpk_4) rfl ?_
    show Steps p.tables e below (T0.setTop (mkF m 5 #[.val (.long v), .second, .val (.ref a2), .val (.int pos)] [(.long (v &&& (-128 : Int64)))])) _
    refine XS.lconst X0.here hx rfl (hb hby dpk_5) ?_
    show Steps p.tables e below (T0.setTop (mkF m 6 #[.val (.long v), .second, .val (.ref a2), .val (.int pos)] [(.long (0 : Int64)), (.long (v &&& (-128 : Int64)))])) _
    refine XS.lcmp X0.here hx rfl (hb hby dpk_6) rfl ?_
    show Steps p.tables e below (T0.setTop (mkF m 7 #[.val (.long v), .second, .val (.ref a2), .val (.int pos)] [(.int (lcmpW (v &&& (-128 : Int64)) (0 : Int64)))])) _
    refine XS.ifNo X0.here hx rfl (hb hby dpk_7) rfl ((if0 _ _).trans (feq (show ¬ ((lcmpW (v &&& (-128 : Int64)) (0 : Int64)) = (0 : Int32)) from (fun q => hN ((own_cond v).mp q)))).1) ?_
    show Steps p.tables e below (T0.setTop (mkF m 10 #[.val (.long v), .second, .val (.ref a2), .val (.int pos)] [])) _
    refine XS.aloadN X0.here hx rfl (hb hby dpk_10) rfl rfl ?_
    show Steps p.tables e below (T0.setTop (mkF m 11 #[.val (.long v), .second, .val (.ref a2), .val (.int pos)] [(.ref a2)])) _
    refine XS.iloadN X0.here hx rfl (hb hby dpk_11) rfl ?_
    show Steps p.tables e below (T0.setTop (mkF m 12 #[.val (.long v), .second, .val (.ref a2), .val (.int pos)] [(.int pos), (.ref a2)])) _
    refine XS.iinc X0.here hx rfl (hb hby dpk_12) rfl (l' := #[.val (.long v), .second, .val (.ref a2), .val (.int (pos + (1 : Int32)))]) rfl ?_
    show Steps p.tables e below (T0.setTop (mkF m 15 #[.val (.long v), .second, .val (.ref a2), .val (.int (pos + (1 : Int32)))] [(.int pos), (.ref a2)])) _
    refine XS.lloadN X0.here hx rfl (hb hby dpk_15) rfl ?_
    show Steps p.tables e below (T0.setTop (mkF m 16 #[.val (.long v), .second, .val (.ref a2), .val (.int (pos + (1 : Int32)))] [(.long v), (.int pos), (.ref a2)])) _
    refine X0.ldc2Long hx hown (mvT hZ (hw _ (List.mem_of_getElem? (i := 9) rfl))) (g := (mkF m 16 #[.val (.long v), .second, .val (.ref a2), .val (.int (pos + (1 : Int32)))] [(.long v), (.int pos), (.ref a2)])) rfl (hb hby dpk_16) _ ?_
    show Steps p.tables e below (T0.setTop (mkF m 19 #[.val (.long v), .second, .val (.ref a2), .val (.int (pos + (1 : Int32)))] [(.long (128 : Int64)), (.long v), (.int pos), (.ref a2)])) _
    refine XS.lor X0.here hx rfl (hb hby dpk_19) rfl ?_
    show Steps p.tables e below (T0.setTop (mkF m 20 #[.val (.long v), .second, .val (.ref a2), .val (.int (pos + (1 : Int32)))] [(.long (v ||| (128 : Int64))), (.int pos), (.ref a2)])) _
    refine XS.l2i X0.here hx rfl (hb hby dpk_20) rfl ?_
    show Steps p.tables e below (T0.setTop (mkF m 21 #[.val (.long v), .second, .val (.ref a2), .val (.int (pos + (1 : Int32)))] [(.int ((v ||| (128 : Int64)).toInt32)), (.int pos), (.ref a2)])) _
    refine XS.i2b X0.here hx rfl (hb hby dpk_21) rfl ?_
    exact kk_
  obtain ⟨T5, h5, X5, e5, W5, F5, st5⟩ := own_bastore X0 hx hZ e0 F (j := pos) (own_ix hp0 hp1).1 (own_ix hp0 hp1).2.1 (g := (mkF m 22 #[.val (.long v), .second, .val (.ref a2), .val (.int (pos + (1 : Int32)))] [(.int (((v ||| (128 : Int64)).toInt32).toInt8.toInt32)), (.int pos), (.ref a2)])) rfl rfl (hb hby dpk_22)
  have N5 := Fr.snoc X5 N0 g2
  have p_6 : ∀ tg_, Steps p.tables e below (T5.setTop (mkF m 0 #[.val (.long ((v.toUInt64 >>> ((7 : Int32) &&& 0x3f).toInt64.toUInt64).toInt64)), .second, .val (.ref a2), .val (.int (pos + (1 : Int32)))] [])) tg_ → Steps p.tables e below (T0.setTop (mkF m 0 #[.val (.long v), .second, .val (.ref a2), .val (.int pos)] [])) tg_ := by
    intro tg_ kk_
    refine p_4 tg_ ?_
    refine st5 _ ?_
    show Steps p.tables e below (T5.setTop (mkF m 23 #[.val (.long v), .second, .val (.ref a2), .val (.int (pos + (1 : Int32)))] [])) _
    refine XS.lloadN X5.here hx rfl (hb hby dpk_23) rfl ?_
    show Steps p.tables e below (T5.setTop (mkF m 24 #[.val (.long v), .second, .val (.ref a2), .val (.int (pos + (1 : Int32)))] [(.long v)])) _
    refine XS.bipush X5.here hx rfl (hb hby dpk_24) ?_
    show Steps p.tables e below (T5.setTop (mkF m 26 #[.val (.long v), .second, .val (.ref a2), .val (.int (pos + (1 : Int32)))] [(.int (7 : Int32)), (.long v)])) _
    refine XS.lushr X5.here hx rfl (hb hby dpk_26) rfl ?_
    show Steps p.tables e below (T5.setTop (mkF m 27 #[.val (.long v), .second, .val (.ref a2), .val (.int (pos + (1 : Int32)))] [(.long ((v.toUInt64 >>> ((7 : Int32) &&& 0x3f).toInt64.toUInt64).toInt64))])) _
    refine XS.lstoreN X5.here hx rfl (hb hby dpk_27) rfl (l' := #[.val (.long ((v.toUInt64 >>> ((7 : Int32) &&& 0x3f).toInt64.toUInt64).toInt64)), .second, .val (.ref a2), .val (.int (pos + (1 : Int32)))]) rfl ?_
    show Steps p.tables e below (T5.setTop (mkF m 28 #[.val (.long ((v.toUInt64 >>> ((7 : Int32) &&& 0x3f).toInt64.toUInt64).toInt64)), .second, .val (.ref a2), .val (.int (pos + (1 : Int32)))] [])) _
    refine XS.goto X5.here hx rfl (pc0 := 28) (pc' := 0) rfl (hb hby dpk_28) (by decide) (by decide) ?_
    exact kk_
  refine ⟨_, _, _, _, X5, e5, W5.size, F5, N5, ?_, fun i hi => ?_, p_6⟩
  · show (if pos.toNatClampNeg = pos.toNatClampNeg then _ else _ : Int32).toInt = _
    rw [if_pos rfl]; exact own_hi v
  · exact if_neg (Nat.ne_of_lt hi)
set_option maxRecDepth 65536 in
set_option maxHeartbeats 40000000 in
theorem lp_pk {p : Program} {l : Launch} {e : Env} {R : Room} {s : State} {m : MethodId} {args : Array Value} {below : List Frame} {meth : Method} {c : Code} {cells slots : Nat} {Z : State} {a0 : Array Value} (hx : p.tables.exec = Jvm.exec) (hZ : Z.Warmed39 s.vm) (hw : ∀ d ∈ tables_1, d.before a0 Z = true) (hby : c.code = prog_89_method_13_code) (hml : c.maxLocals = 4) (hown : s.vm.findClass "com/example/fenceline/fenceline/util/PackedValues" = some m.cls) {a2 : Addr} {n0 : Nat} (g2 : n0 ≤ a2) : ∀ (k : Nat) {v : Int64} {pos : Int32} {f : Nat → Int32} {T0 : State} {locs : List Loc} {h0 : Heap} (X0 : Stand p l e R s m args below meth c T0 locs cells slots) (e0 : T0.heap = h0) (F : OAf Z h0 a2 .byte 18 f) (N0 : Fr n0 locs) (hN : v.toInt % 18446744073709551616 < 128 ^ (k + 1)) (hp0 : 0 ≤ pos.toInt) (hp1 : pos.toInt + k < 18),
    ∃ (T' : State) (h' : Heap) (L' : List Loc) (f' : Nat → Int32) (Ls : Array Slot) (z : Int32), Stand p l e R s m args below meth c T' L' cells slots ∧ T'.heap = h' ∧ h'.size = h0.size ∧ OAf Z h' a2 .byte 18 f' ∧ Fr n0 L' ∧ own_Enc (k + 1) f' pos.toNatClampNeg (v.toInt % 18446744073709551616) ∧ (∀ i, i < pos.toNatClampNeg → f' i = f i) ∧ ∀ t, Steps p.tables e below (T'.setTop (mkF m 41 Ls [.int z])) t → Steps p.tables e below (T0.setTop (mkF m 0 #[.val (.long v), .second, .val (.ref a2), .val (.int pos)] [])) t := by
  intro k
  induction k with
  | zero =>
    intro v pos f T0 locs h0 X0 e0 F N0 hN hp0 hp1
    obtain ⟨T', h', L', f', Ls, z, r1, r2, r3, r4, r5, r6, r7⟩ := lv_pk hx hZ hw hby hml hown g2 X0 e0 F N0 (by simpa using hN) hp0 (by omega)
    exact ⟨T', h', L', f', Ls, z, r1, r2, r3, r4, r5, Or.inl ⟨by simpa using hN, r6⟩, r7⟩
  | succ k ih =>
    intro v pos f T0 locs h0 X0 e0 F N0 hN hp0 hp1
    by_cases hb : v.toInt % 18446744073709551616 < 128
    · obtain ⟨T', h', L', f', Ls, z, r1, r2, r3, r4, r5, r6, r7⟩ := lv_pk hx hZ hw hby hml hown g2 X0 e0 F N0 hb hp0 (by omega)
      exact ⟨T', h', L', f', Ls, z, r1, r2, r3, r4, r5, Or.inl ⟨hb, r6⟩, r7⟩
    · obtain ⟨T1, h1, L1, f1, q1, q2, q3, q4, q5, q6, q7, q8⟩ := tn_pk hx hZ hw hby hml hown g2 X0 e0 F N0 hb hp0 (by omega)
      have hi := own_ix hp0 (show pos.toInt < 18 by omega)
      have hs := own_shr v
      have hpow : (128 : Int) ^ (k + 1 + 1) = 128 ^ (k + 1) * 128 := Int.pow_succ _ _
      obtain ⟨T', h', L', f', Ls, z, r1, r2, r3, r4, r5, r6, r7, r8⟩ := ih q1 q2 q4 q5 (by rw [hs]; rw [hpow] at hN; omega) (by rw [hi.2.2.1]; omega) (by rw [hi.2.2.1]; omega)
      rw [hs, hi.2.2.2.1] at r6
      rw [hi.2.2.2.1] at r7
      refine ⟨T', h', L', f', Ls, z, r1, r2, r3.trans q3, r4, r5, Or.inr ⟨by omega, ?_, r6⟩, fun i hi' => ?_, fun t kt => q8 t (r8 t kt)⟩
      · rw [r7 _ (Nat.lt_succ_self _)]; exact q6
      · rw [r7 i (by omega)]; exact q7 i hi'
theorem dpk_41 : decode prog_89_method_13_code 41 = .ok (.ireturn, 1) := by decide +kernel
theorem pn_pack : plainName "com/example/fenceline/fenceline/util/PackedValues" = true := by first | (simp [plainName, overriddenIn]; done) | decide +kernel
theorem ef_pack (m : MethodId) (x0 : Int64) (x1 : Addr) (x2 : Int32) : entryFrame m #[(.long x0), (.ref x1), (.int x2)] 4 = mkF m 0 #[.val (.long x0), .second, .val (.ref x1), .val (.int x2)] [] := by first | (simp [entryFrame, mkF, argsToLocals, Value.category]; done) | rfl
def Q_pack (Z : State) (q1 : Int64) (a2 : Addr) (p3 : Int32) (f : Nat → Int32) (h0 : Heap) (n0 : Nat) (v : Option Value) (h : Heap) (L : List Loc) : Prop := (∃ z : Int32, v = some (.int z)) ∧ Fr n0 L ∧ h.size = h0.size ∧ ∃ f' : Nat → Int32, OAf Z h a2 .byte 18 f' ∧ own_Enc 10 f' p3.toNatClampNeg (q1.toInt % 18446744073709551616)
set_option maxRecDepth 65536 in
set_option maxHeartbeats 40000000 in
theorem rm_pack (l : Launch) (Z : State) (a0 : Array Value) (hw : ∀ d ∈ tables_1, d.before a0 Z = true) (ws : List Jvm.Cond) (q1 : Int64) (a2 : Addr) (p3 : Int32) (f : Nat → Int32) (h0 : Heap) (n0 : Nat) (Z0 : n0 ≤ h0.size) (F : OAf Z h0 a2 .byte 18 f) (g2 : n0 ≤ a2) (hp0 : 0 ≤ p3.toInt) (hp1 : p3.toInt ≤ 7) :
    MetFree l (⟨"com/example/fenceline/fenceline/util/PackedValues", "pack", "(J[BI)I"⟩ : MethodName) (head1 (Jvm.Cond.code (⟨"com/example/fenceline/fenceline/util/PackedValues", "pack", "(J[BI)I"⟩ : MethodName) prog_89_method_13_code 4 (some .int) :: ws) ({ frames := 0, cells := 0, slots := 0, locals := 0 } : Room)) (fun a U => a = #[(.long q1), (.ref a2), (.int p3)] ∧ Z.Warmed39 U.vm ∧ U.heap = h0) (fun _ _ _ _ _ => True) (fun _ U o U' => ∃ v L, o = .returned v ∧ Q_pack Z q1 a2 p3 f h0 n0 v U'.heap L ∧ FrameEnd U o U' L ({ frames := 0, cells := 0, slots := 0, locals := 0 } : Room).cells ({ frames := 0, cells := 0, slots := 0, locals := 0 } : Room).slots) := by
  refine MetFree.of_bodySF (plainFor_of_name pn_pack) hisR ?_
  intro p e s m args below meth c s₁ Bd hml0 hP hK
  obtain ⟨rfl, hZ, hh⟩ := hP
  have hx := Bd.exec
  have hby := Bd.bytes
  have hml : c.maxLocals = 4 := hml0
  have hown : s.vm.findClass "com/example/fenceline/fenceline/util/PackedValues" = some m.cls := findClass_of_methodNamed Bd.named
  have hnm := (name_of_methodNamed Bd.named Bd.method).1
  have X0 : Stand p l e ({ frames := 0, cells := 0, slots := 0, locals := 0 } : Room) s m #[(.long q1), (.ref a2), (.int p3)] below meth c s₁ [] 0 0 := Stand.of_body Bd
  have e0 : s₁.heap = h0 := by rw [← hh, Bd.state]; rfl
  have N0 := Fr.nil n0
  have pre0 : ∀ tg_, Steps p.tables e below (s₁.setTop (mkF m 0 #[.val (.long q1), .second, .val (.ref a2), .val (.int p3)] [])) tg_ → Steps p.tables e below (s₁.setTop (entryFrame m #[(.long q1), (.ref a2), (.int p3)] 4)) tg_ := fun tg_ k => castTop (ef_pack m q1 a2 p3) k
  have hr64 := rng64 q1
  have own_pw : q1.toInt % 18446744073709551616 < 128 ^ (9 + 1) := by
    have : (128 : Int) ^ (9 + 1) = 1180591620717411303424 := by decide
    rw [this]; omega
  obtain ⟨T', h', L', f', Ls, z, r1, r2, r3, r4, r5, r6, r7, r8⟩ := lp_pk (a0 := a0) hx hZ hw hby hml hown g2 9 X0 e0 F N0 own_pw hp0 (by omega)
  obtain ⟨fs, hr, hrun, hended, hW, hsame⟩ := r1.leave (v := some (.int z)) (fun h => by rw [Bd.returns] at h; cases h)
  refine ⟨_, _, pre0 _ (r8 _ ?_), hrun, hended, _, _, rfl, ?_, ⟨_, rfl⟩, hW, hsame.mono (by decide) (by decide)⟩
  · exact retI r1 hx Bd.returns (hb hby dpk_41) hr
  · show Q_pack Z q1 a2 p3 f h0 n0 _ T'.heap _
    rw [r2]
    exact ⟨⟨z, rfl⟩, r5, r3, f', r4, r6⟩

theorem own_os {z0 z1 z2 z4 : Value} {s5 : Slot} {v : Int32} (h : One s5) : storeLocals #[.val z0, .val z1, .val z2, .second, .val z4, s5] 5 (.int v) = some #[.val z0, .val z1, .val z2, .second, .val z4, .val (.int v)] := by
  rcases h with rfl | ⟨w, rfl, hw⟩
  · rfl
  · cases w <;> first | rfl | (simp [Value.category] at hw)
theorem own_acc {acc : Int64} {b sh : Int32} {k : Nat} {N : Int} (hN : 0 ≤ N) (hb : b.toInt % 128 = N % 128) (hsh : sh.toInt = k) (hk : k ≤ 63) (h0 : 0 ≤ acc.toInt) (h1 : acc.toInt < (2 ^ k : Nat)) :
    ((acc ||| (((b &&& (127 : Int32)).toInt64) <<< (sh &&& 0x3f).toInt64)).toInt - (acc.toInt + (N % 128) * (2 ^ k : Nat))) % 18446744073709551616 = 0 := by
  have m := c_mask b (127 : Int32) 7 (by decide) (by decide)
  have m' : ((b &&& (127 : Int32)).toInt64).toInt = N % 128 := by rw [c_i2l, m]; omega
  have hq : sh.toBitVec.toNat % 64 = k := by
    have e1 : sh.toInt = sh.toBitVec.toInt := rfl
    rw [e1, BitVec.toInt_eq_toNat_cond] at hsh
    have := sh.toBitVec.isLt
    split at hsh <;> omega
  have s := c_lshl ((b &&& (127 : Int32)).toInt64) sh k hq
  rw [m'] at s
  have dvd : (18446744073709551616 : Int) = (2 ^ k : Nat) * (2 ^ (64 - k) : Nat) := by
    rw [← Int.natCast_mul, ← Nat.pow_add, Nat.add_sub_cancel' (by omega : k ≤ 64)]; rfl
  generalize hX : (((b &&& (127 : Int32)).toInt64) <<< (sh &&& 0x3f).toInt64) = X at *
  have hz : X.toInt % (2 ^ k : Nat) = 0 := by
    have hd : ((2 ^ k : Nat) : Int) ∣ (X.toInt - N % 128 * (2 ^ k : Nat)) := Int.dvd_trans ⟨_, dvd⟩ (Int.dvd_of_emod_eq_zero s)
    have hd2 : ((2 ^ k : Nat) : Int) ∣ N % 128 * (2 ^ k : Nat) := Int.dvd_mul_left _ _
    exact Int.emod_eq_zero_of_dvd (by have := Int.dvd_add hd hd2; rwa [Int.sub_add_cancel] at this)
  have o := c_orL' acc X k hk (2 ^ k : Nat) rfl hz h0 h1
  generalize (N % 128 * (2 ^ k : Nat) : Int) = Y at *
  omega
theorem own_step {acc N P : Int} : acc + N * P = (acc + (N % 128) * P) + (N / 128) * (P * 128) := by
  have h := Int.mul_ediv_add_emod N 128
  have e : N * P = (128 * (N / 128) + N % 128) * P := by rw [h]
  rw [e, Int.add_mul, Int.mul_comm 128 (N / 128), Int.mul_assoc (N / 128) 128 P, Int.mul_comm 128 P]
  omega
theorem dun_5 : decode prog_89_method_14_code 5 = .ok (.aload_n 0, 1) := by decide +kernel
theorem dun_6 : decode prog_89_method_14_code 6 = .ok (.iload_n 1, 1) := by decide +kernel
theorem dun_7 : decode prog_89_method_14_code 7 = .ok (.iinc 1 1, 3) := by decide +kernel
theorem dun_10 : decode prog_89_method_14_code 10 = .ok (.baload, 1) := by decide +kernel
theorem dun_11 : decode prog_89_method_14_code 11 = .ok (.istore 5, 2) := by decide +kernel
theorem dun_13 : decode prog_89_method_14_code 13 = .ok (.lload_n 2, 1) := by decide +kernel
theorem dun_14 : decode prog_89_method_14_code 14 = .ok (.iload 5, 2) := by decide +kernel
theorem dun_16 : decode prog_89_method_14_code 16 = .ok (.bipush 127, 2) := by decide +kernel
theorem dun_18 : decode prog_89_method_14_code 18 = .ok (.iand, 1) := by decide +kernel
theorem dun_19 : decode prog_89_method_14_code 19 = .ok (.i2l, 1) := by decide +kernel
theorem dun_20 : decode prog_89_method_14_code 20 = .ok (.iload 4, 2) := by decide +kernel
theorem dun_22 : decode prog_89_method_14_code 22 = .ok (.lshl, 1) := by decide +kernel
theorem dun_23 : decode prog_89_method_14_code 23 = .ok (.lor, 1) := by decide +kernel
theorem dun_24 : decode prog_89_method_14_code 24 = .ok (.lstore_n 2, 1) := by decide +kernel
theorem dun_25 : decode prog_89_method_14_code 25 = .ok (.iload 5, 2) := by decide +kernel
theorem dun_27 : decode prog_89_method_14_code 27 = .ok (.ifCond .lt 5, 3) := by decide +kernel
theorem dun_30 : decode prog_89_method_14_code 30 = .ok (.lload_n 2, 1) := by decide +kernel
theorem dun_32 : decode prog_89_method_14_code 32 = .ok (.iinc 4 7, 3) := by decide +kernel
theorem dun_35 : decode prog_89_method_14_code 35 = .ok (.goto (-30), 3) := by decide +kernel
set_option maxRecDepth 65536 in
set_option maxHeartbeats 40000000 in
theorem tn_un {p : Program} {l : Launch} {e : Env} {R : Room} {s : State} {m : MethodId} {args : Array Value} {below : List Frame} {meth : Method} {c : Code} {cells slots : Nat} {Z : State} {a0 : Array Value} (hx : p.tables.exec = Jvm.exec) (hZ : Z.Warmed39 s.vm) (hw : ∀ d ∈ tables_1, d.before a0 Z = true) (hby : c.code = prog_89_method_14_code) (hml : c.maxLocals = 6) (hown : s.vm.findClass "com/example/fenceline/fenceline/util/PackedValues" = some m.cls) {a1 : Addr} {pos sh : Int32} {acc : Int64} {s5 : Slot} {f : Nat → Int32} {T0 : State} {locs : List Loc} {h0 : Heap} (X0 : Stand p l e R s m args below meth c T0 locs cells slots) (e0 : T0.heap = h0) (F : OAf Z h0 a1 .byte 18 f) (hs5 : One s5) (hp0 : 0 ≤ pos.toInt) (hp1 : pos.toInt < 18) (hbb : (f pos.toNatClampNeg) < (0 : Int32)) :
    ∀ t, Steps p.tables e below (T0.setTop (mkF m 5 #[.val (.ref a1), .val (.int (pos + (1 : Int32))), .val (.long (acc ||| ((((f pos.toNatClampNeg) &&& (127 : Int32)).toInt64) <<< (sh &&& 0x3f).toInt64))), .second, .val (.int (sh + (7 : Int32))), .val (.int (f pos.toNatClampNeg))] [])) t → Steps p.tables e below (T0.setTop (mkF m 5 #[.val (.ref a1), .val (.int pos), .val (.long acc), .second, .val (.int sh), s5] [])) t := by
  have pre0 : ∀ tg_, Steps p.tables e below (T0.setTop (mkF m 5 #[.val (.ref a1), .val (.int pos), .val (.long acc), .second, .val (.int sh), s5] [])) tg_ → Steps p.tables e below (T0.setTop (mkF m 5 #[.val (.ref a1), .val (.int pos), .val (.long acc), .second, .val (.int sh), s5] [])) tg_ := fun _ kk_ => kk_
  have p_1 : ∀ tg_, Steps p.tables e below (T0.setTop (mkF m 5 #[.val (.ref a1), .val (.int (pos + (1 : Int32))), .val (.long (acc ||| ((((f pos.toNatClampNeg) &&& (127 : Int32)).toInt64) <<< (sh &&& 0x3f).toInt64))), .second, .val (.int (sh + (7 : Int32))), .val (.int (f pos.toNatClampNeg))] [])) tg_ → Steps p.tables e below (T0.setTop (mkF m 5 #[.val (.ref a1), .val (.int pos), .val (.long acc), .second, .val (.int sh), s5] [])) tg_ := by
    intro tg_ kk_
    refine pre0 tg_ ?_
    show Steps p.tables e below (T0.setTop (mkF m 5 #[.val (.ref a1), .val (.int pos), .val (.long acc), .second, .val (.int sh), s5] [])) _
    refine XS.aloadN X0.here hx rfl (hb hby dun_5) rfl rfl ?_
    show Steps p.tables e below (T0.setTop (mkF m 6 #[.val (.ref a1), .val (.int pos), .val (.long acc), .second, .val (.int sh), s5] [(.ref a1)])) _
    refine XS.iloadN X0.here hx rfl (hb hby dun_6) rfl ?_
    show Steps p.tables e below (T0.setTop (mkF m 7 #[.val (.ref a1), .val (.int pos), .val (.long acc), .second, .val (.int sh), s5] [(.int pos), (.ref a1)])) _
    refine XS.iinc X0.here hx rfl (hb hby dun_7) rfl (l' := #[.val (.ref a1), .val (.int (pos + (1 : Int32))), .val (.long acc), .second, .val (.int sh), s5]) rfl ?_
    show Steps p.tables e below (T0.setTop (mkF m 10 #[.val (.ref a1), .val (.int (pos + (1 : Int32))), .val (.long acc), .second, .val (.int sh), s5] [(.int pos), (.ref a1)])) _
    refine own_baload X0 hx hZ e0 F (j := pos) (own_ix hp0 hp1).1 (own_ix hp0 hp1).2.1 (g := (mkF m 10 #[.val (.ref a1), .val (.int (pos + (1 : Int32))), .val (.long acc), .second, .val (.int sh), s5] [(.int pos), (.ref a1)])) rfl rfl (hb hby dun_10) _ ?_
    show Steps p.tables e below (T0.setTop (mkF m 11 #[.val (.ref a1), .val (.int (pos + (1 : Int32))), .val (.long acc), .second, .val (.int sh), s5] [(.int (f pos.toNatClampNeg))])) _
    refine XS.istore X0.here hx rfl (hb hby dun_11) rfl (l' := #[.val (.ref a1), .val (.int (pos + (1 : Int32))), .val (.long acc), .second, .val (.int sh), .val (.int (f pos.toNatClampNeg))]) (own_os hs5) ?_
    show Steps p.tables e below (T0.setTop (mkF m 13 #[.val (.ref a1), .val (.int (pos + (1 : Int32))), .val (.long acc), .second, .val (.int sh), .val (.int (f pos.toNatClampNeg))] [])) _
    refine XS.lloadN X0.here hx rfl (hb hby dun_13) rfl ?_
    show Steps p.tables e below (T0.setTop (mkF m 14 #[.val (.ref a1), .val (.int (pos + (1 : Int32))), .val (.long acc), .second, .val (.int sh), .val (.int (f pos.toNatClampNeg))] [(.long acc)])) _
    refine XS.iload X0.here hx rfl (hb hby dun_14) rfl ?_
    show Steps p.tables e below (T0.setTop (mkF m 16 #[.val (.ref a1), .val (.int (pos + (1 : Int32))), .val (.long acc), .second, .val (.int sh), .val (.int (f pos.toNatClampNeg))] [(.int (f pos.toNatClampNeg)), (.long acc)])) _
    refine XS.bipush X0.here hx rfl (hb hby dun_16) ?_
    show Steps p.tables e below (T0.setTop (mkF m 18 #[.val (.ref a1), .val (.int (pos + (1 : Int32))), .val (.long acc), .second, .val (.int sh), .val (.int (f pos.toNatClampNeg))] [(.int (127 : Int32)), (.int (f pos.toNatClampNeg)), (.long acc)])) _
    refine XS.iand X0.here hx rfl (hb hby dun_18) rfl ?_
    show Steps p.tables e below (T0.setTop (mkF m 19 #[.val (.ref a1), .val (.int (pos + (1 : Int32))), .val (.long acc), .second, .val (.int sh), .val (.int (f pos.toNatClampNeg))] [(.int ((f pos.toNatClampNeg) &&& (127 : Int32))), (.long acc)])) _
    refine XS.i2l X0.here hx rfl (hb hby dun_19) rfl ?_
    show Steps p.tables e below (T0.setTop (mkF m 20 #[.val (.ref a1), .val (.int (pos + (1 : Int32))), .val (.long acc), .second, .val (.int sh), .val (.int (f pos.toNatClampNeg))] [(.long (((f pos.toNatClampNeg) &&& (127 : Int32)).toInt64)), (.long acc)])) _
    refine XS.iload X0.here hx rfl (hb hby dun_20) rfl ?_
    show Steps p.tables e below (T0.setTop (mkF m 22 #[.val (.ref a1), .val (.int (pos + (1 : Int32))), .val (.long acc), .second, .val (.int sh), .val (.int (f pos.toNatClampNeg))] [(.int sh), (.long (((f pos.toNatClampNeg) &&& (127 : Int32)).toInt64)), (.long acc)])) _
    refine XS.lshl X0.here hx rfl (hb hby dun_22) rfl ?_
    show Steps p.tables e below (T0.setTop (mkF m 23 #[.val (.ref a1), .val (.int (pos + (1 : Int32))), .val (.long acc), .second, .val (.int sh), .val (.int (f pos.toNatClampNeg))] [(.long ((((f pos.toNatClampNeg) &&& (127 : Int32)).toInt64) <<< (sh &&& 0x3f).toInt64)), (.long acc)])) _
    refine XS.lor X0.here hx rfl (hb hby dun_23) rfl ?_
    show Steps p.tables e below (T0.setTop (mkF m 24 #[.val (.ref a1), .val (.int (pos + (1 : Int32))), .val (.long acc), .second, .val (.int sh), .val (.int (f pos.toNatClampNeg))] [(.long (acc ||| ((((f pos.toNatClampNeg) &&& (127 : Int32)).toInt64) <<< (sh &&& 0x3f).toInt64)))])) _
    refine XS.lstoreN X0.here hx rfl (hb hby dun_24) rfl (l' := #[.val (.ref a1), .val (.int (pos + (1 : Int32))), .val (.long (acc ||| ((((f pos.toNatClampNeg) &&& (127 : Int32)).toInt64) <<< (sh &&& 0x3f).toInt64))), .second, .val (.int sh), .val (.int (f pos.toNatClampNeg))]) rfl ?_
    show Steps p.tables e below (T0.setTop (mkF m 25 #[.val (.ref a1), .val (.int (pos + (1 : Int32))), .val (.long (acc ||| ((((f pos.toNatClampNeg) &&& (127 : Int32)).toInt64) <<< (sh &&& 0x3f).toInt64))), .second, .val (.int sh), .val (.int (f pos.toNatClampNeg))] [])) _
    refine XS.iload X0.here hx rfl (hb hby dun_25) rfl ?_
    show Steps p.tables e below (T0.setTop (mkF m 27 #[.val (.ref a1), .val (.int (pos + (1 : Int32))), .val (.long (acc ||| ((((f pos.toNatClampNeg) &&& (127 : Int32)).toInt64) <<< (sh &&& 0x3f).toInt64))), .second, .val (.int sh), .val (.int (f pos.toNatClampNeg))] [(.int (f pos.toNatClampNeg))])) _
    refine XS.ifYes X0.here hx rfl (pc0 := 27) (pc' := 32) rfl (hb hby dun_27) rfl ((if0 _ _).trans (tlt (show (f pos.toNatClampNeg) < (0 : Int32) from hbb)).1) (by decide) (by decide) ?_
    show Steps p.tables e below (T0.setTop (mkF m 32 #[.val (.ref a1), .val (.int (pos + (1 : Int32))), .val (.long (acc ||| ((((f pos.toNatClampNeg) &&& (127 : Int32)).toInt64) <<< (sh &&& 0x3f).toInt64))), .second, .val (.int sh), .val (.int (f pos.toNatClampNeg))] [])) _
    refine XS.iinc X0.here hx rfl (hb hby dun_32) rfl (l' := #[.val (.ref a1), .val (.int (pos + (1 : Int32))), .val (.long (acc ||| ((((f pos.toNatClampNeg) &&& (127 : Int32)).toInt64) <<< (sh &&& 0x3f).toInt64))), .second, .val (.int (sh + (7 : Int32))), .val (.int (f pos.toNatClampNeg))]) rfl ?_
    show Steps p.tables e below (T0.setTop (mkF m 35 #[.val (.ref a1), .val (.int (pos + (1 : Int32))), .val (.long (acc ||| ((((f pos.toNatClampNeg) &&& (127 : Int32)).toInt64) <<< (sh &&& 0x3f).toInt64))), .second, .val (.int (sh + (7 : Int32))), .val (.int (f pos.toNatClampNeg))] [])) _
    refine XS.goto X0.here hx rfl (pc0 := 35) (pc' := 5) rfl (hb hby dun_35) (by decide) (by decide) ?_
    exact kk_
  exact p_1
set_option maxRecDepth 65536 in
set_option maxHeartbeats 40000000 in
theorem lv_un {p : Program} {l : Launch} {e : Env} {R : Room} {s : State} {m : MethodId} {args : Array Value} {below : List Frame} {meth : Method} {c : Code} {cells slots : Nat} {Z : State} {a0 : Array Value} (hx : p.tables.exec = Jvm.exec) (hZ : Z.Warmed39 s.vm) (hw : ∀ d ∈ tables_1, d.before a0 Z = true) (hby : c.code = prog_89_method_14_code) (hml : c.maxLocals = 6) (hown : s.vm.findClass "com/example/fenceline/fenceline/util/PackedValues" = some m.cls) {a1 : Addr} {pos sh : Int32} {acc : Int64} {s5 : Slot} {f : Nat → Int32} {T0 : State} {locs : List Loc} {h0 : Heap} (X0 : Stand p l e R s m args below meth c T0 locs cells slots) (e0 : T0.heap = h0) (F : OAf Z h0 a1 .byte 18 f) (hs5 : One s5) (hp0 : 0 ≤ pos.toInt) (hp1 : pos.toInt < 18) (hbb : ¬ ((f pos.toNatClampNeg) < (0 : Int32))) :
    ∀ t, Steps p.tables e below (T0.setTop (mkF m 31 #[.val (.ref a1), .val (.int (pos + (1 : Int32))), .val (.long (acc ||| ((((f pos.toNatClampNeg) &&& (127 : Int32)).toInt64) <<< (sh &&& 0x3f).toInt64))), .second, .val (.int sh), .val (.int (f pos.toNatClampNeg))] [(.long (acc ||| ((((f pos.toNatClampNeg) &&& (127 : Int32)).toInt64) <<< (sh &&& 0x3f).toInt64)))])) t → Steps p.tables e below (T0.setTop (mkF m 5 #[.val (.ref a1), .val (.int pos), .val (.long acc), .second, .val (.int sh), s5] [])) t := by
  have pre0 : ∀ tg_, Steps p.tables e below (T0.setTop (mkF m 5 #[.val (.ref a1), .val (.int pos), .val (.long acc), .second, .val (.int sh), s5] [])) tg_ → Steps p.tables e below (T0.setTop (mkF m 5 #[.val (.ref a1), .val (.int pos), .val (.long acc), .second, .val (.int sh), s5] [])) tg_ := fun _ kk_ => kk_
  have p_2 : ∀ tg_, Steps p.tables e below (T0.setTop (mkF m 31 #[.val (.ref a1), .val (.int (pos + (1 : Int32))), .val (.long (acc ||| ((((f pos.toNatClampNeg) &&& (127 : Int32)).toInt64) <<< (sh &&& 0x3f).toInt64))), .second, .val (.int sh), .val (.int (f pos.toNatClampNeg))] [(.long (acc ||| ((((f pos.toNatClampNeg) &&& (127 : Int32)).toInt64) <<< (sh &&& 0x3f).toInt64)))])) tg_ → Steps p.tables e below (T0.setTop (mkF m 5 #[.val (.ref a1), .val (.int pos), .val (.long acc), .second, .val (.int sh), s5] [])) tg_ := by
    intro tg_ kk_
    refine pre0 tg_ ?_
    show Steps p.tables e below (T0.setTop (mkF m 5 #[.val (.ref a1), .val (.int pos), .val (.long acc), .second, .val (.int sh), s5] [])) _
    refine XS.aloadN X0.here hx rfl (hb hby dun_5) rfl rfl ?_
    show Steps p.tables e below (T0.setTop (mkF m 6 #[.val (.ref a1), .val (.int pos), .val (.long acc), .second, .val (.int sh), s5] [(.ref a1)])) _
    refine XS.iloadN X0.here hx rfl (hb hby dun_6) rfl ?_
    show Steps p.tables e below (T0.setTop (mkF m 7 #[.val (.ref a1), .val (.int pos), .val (.long acc), .second, .val (.int sh), s5] [(.int pos), (.ref a1)])) _
    refine XS.iinc X0.here hx rfl (hb hby dun_7) rfl (l' := #[.val (.ref a1), .val (.int (pos + (1 : Int32))), .val (.long acc), .second, .val (.int sh), s5]) rfl ?_
    show Steps p.tables e below (T0.setTop (mkF m 10 #[.val (.ref a1), .val (.int (pos + (1 : Int32))), .val (.long acc), .second, .val (.int sh), s5] [(.int pos), (.ref a1)])) _
    refine own_baload X0 hx hZ e0 F (j := pos) (own_ix hp0 hp1).1 (own_ix hp0 hp1).2.1 (g := (mkF m 10 #[.val (.ref a1), .val (.int (pos + (1 : Int32))), .val (.long acc), .second, .val (.int sh), s5] [(.int pos), (.ref a1)])) rfl rfl (hb hby dun_10) _ ?_
    show Steps p.tables e below (T0.setTop (mkF m 11 #[.val (.ref a1), .val (.int (pos + (1 : Int32))), .val (.long acc), .second, .val (.int sh), s5] [(.int (f pos.toNatClampNeg))])) _
    refine XS.istore X0.here hx rfl (hb hby dun_11) rfl (l' := #[.val (.ref a1), .val (.int (pos + (1 : Int32))), .val (.long acc), .second, .val (.int sh), .val (.int (f pos.toNatClampNeg))]) (own_os hs5) ?_
    show Steps p.tables e below (T0.setTop (mkF m 13 #[.val (.ref a1), .val (.int (pos + (1 : Int32))), .val (.long acc), .second, .val (.int sh), .val (.int (f pos.toNatClampNeg))] [])) _
    refine XS.lloadN X0.here hx rfl (hb hby dun_13) rfl ?_
    show Steps p.tables e below (T0.setTop (mkF m 14 #[.val (.ref a1), .val (.int (pos + (1 : Int32))), .val (.long acc), .second, .val (.int sh), .val (.int (f pos.toNatClampNeg))] [(.long acc)])) _
    refine XS.iload X0.here hx rfl (hb hby dun_14) rfl ?_
    show Steps p.tables e below (T0.setTop (mkF m 16 #[.val (.ref a1), .val (.int (pos + (1 : Int32))), .val (.long acc), .second, .val (.int sh), .val (.int (f pos.toNatClampNeg))] [(.int (f pos.toNatClampNeg)), (.long acc)])) _
    refine XS.bipush X0.here hx rfl (hb hby dun_16) ?_
    show Steps p.tables e below (T0.setTop (mkF m 18 #[.val (.ref a1), .val (.int (pos + (1 : Int32))), .val (.long acc), .second, .val (.int sh), .val (.int (f pos.toNatClampNeg))] [(.int (127 : Int32)), (.int (f pos.toNatClampNeg)), (.long acc)])) _
    refine XS.iand X0.here hx rfl (hb hby dun_18) rfl ?_
    show Steps p.tables e below (T0.setTop (mkF m 19 #[.val (.ref a1), .val (.int (pos + (1 : Int32))), .val (.long acc), .second, .val (.int sh), .val (.int (f pos.toNatClampNeg))] [(.int ((f pos.toNatClampNeg) &&& (127 : Int32))), (.long acc)])) _
    refine XS.i2l X0.here hx rfl (hb hby dun_19) rfl ?_
    show Steps p.tables e below (T0.setTop (mkF m 20 #[.val (.ref a1), .val (.int (pos + (1 : Int32))), .val (.long acc), .second, .val (.int sh), .val (.int (f pos.toNatClampNeg))] [(.long (((f pos.toNatClampNeg) &&& (127 : Int32)).toInt64)), (.long acc)])) _
    refine XS.iload X0.here hx rfl (hb hby dun_20) rfl ?_
    show Steps p.tables e below (T0.setTop (mkF m 22 #[.val (.ref a1), .val (.int (pos + (1 : Int32))), .val (.long acc), .second, .val (.int sh), .val (.int (f pos.toNatClampNeg))] [(.int sh), (.long (((f pos.toNatClampNeg) &&& (127 : Int32)).toInt64)), (.long acc)])) _
    refine XS.lshl X0.here hx rfl (hb hby dun_22) rfl ?_
    show Steps p.tables e below (T0.setTop (mkF m 23 #[.val (.ref a1), .val (.int (pos + (1 : Int32))), .val (.long acc), .second, .val (.int sh), .val (.int (f pos.toNatClampNeg))] [(.long ((((f pos.toNatClampNeg) &&& (127 : Int32)).toInt64) <<< (sh &&& 0x3f).toInt64)), (.long acc)])) _
    refine XS.lor X0.here hx rfl (hb hby dun_23) rfl ?_
    show Steps p.tables e below (T0.setTop (mkF m 24 #[.val (.ref a1), .val (.int (pos + (1 : Int32))), .val (.long acc), .second, .val (.int sh), .val (.int (f pos.toNatClampNeg))] [(.long (acc ||| ((((f pos.toNatClampNeg) &&& (127 : Int32)).toInt64) <<< (sh &&& 0x3f).toInt64)))])) _
    refine XS.lstoreN X0.here hx rfl (hb hby dun_24) rfl (l' := #[.val (.ref a1), .val (.int (pos + (1 : Int32))), .val (.long (acc ||| ((((f pos.toNatClampNeg) &&& (127 : Int32)).toInt64) <<< (sh &&& 0x3f).toInt64))), .second, .val (.int sh), .val (.int (f pos.toNatClampNeg))]) rfl ?_
    show Steps p.tables e below (T0.setTop (mkF m 25 #[.val (.ref a1), .val (.int (pos + (1 : Int32))), .val (.long (acc ||| ((((f pos.toNatClampNeg) &&& (127 : Int32)).toInt64) <<< (sh &&& 0x3f).toInt64))), .second, .val (.int sh), .val (.int (f pos.toNatClampNeg))] [])) _
    refine XS.iload X0.here hx rfl (hb hby dun_25) rfl ?_
    show Steps p.tables e below (T0.setTop (mkF m 27 #[.val (.ref a1), .val (.int (pos + (1 : Int32))), .val (.long (acc ||| ((((f pos.toNatClampNeg) &&& (127 : Int32)).toInt64) <<< (sh &&& 0x3f).toInt64))), .second, .val (.int sh), .val (.int (f pos.toNatClampNeg))] [(.int (f pos.toNatClampNeg))])) _
    refine XS.ifNo X0.here hx rfl (hb hby dun_27) rfl ((if0 _ _).trans (flt (show ¬ ((f pos.toNatClampNeg) < (0 : Int32)) from hbb)).1) ?_
    show Steps p.tables e below (T0.setTop (mkF m 30 #[.val (.ref a1), .val (.int (pos + (1 : Int32))), .val (.long (acc ||| ((((f pos.toNatClampNeg) &&& (127 : Int32)).toInt64) <<< (sh &&& 0x3f).toInt64))), .second, .val (.int sh), .val (.int (f pos.toNatClampNeg))] [])) _
    refine XS.lloadN X0.here hx rfl (hb hby dun_30) rfl ?_
    exact kk_
  exact p_2
set_option maxRecDepth 65536 in
set_option maxHeartbeats 40000000 in
theorem lp_un {p : Program} {l : Launch} {e : Env} {R : Room} {s : State} {m : MethodId} {args : Array Value} {below : List Frame} {meth : Method} {c : Code} {cells slots : Nat} {Z : State} {a0 : Array Value} (hx : p.tables.exec = Jvm.exec) (hZ : Z.Warmed39 s.vm) (hw : ∀ d ∈ tables_1, d.before a0 Z = true) (hby : c.code = prog_89_method_14_code) (hml : c.maxLocals = 6) (hown : s.vm.findClass "com/example/fenceline/fenceline/util/PackedValues" = some m.cls) {a1 : Addr} {f : Nat → Int32} {T0 : State} {locs : List Loc} {h0 : Heap} {V : Int64} (X0 : Stand p l e R s m args below meth c T0 locs cells slots) (e0 : T0.heap = h0) (F : OAf Z h0 a1 .byte 18 f) : ∀ (j : Nat) {pos sh : Int32} {acc : Int64} {s5 : Slot} {k : Nat} {N : Int} (hE : own_Enc j f pos.toNatClampNeg N) (hs5 : One s5) (hp0 : 0 ≤ pos.toInt) (hp1 : pos.toInt + j ≤ 18) (hN : 0 ≤ N) (hsh : sh.toInt = k) (hk : k ≤ 63) (h0' : 0 ≤ acc.toInt) (h1' : acc.toInt < (2 ^ k : Nat)) (hV : acc.toInt + N * (2 ^ k : Nat) = V.toInt % 18446744073709551616),
    ∃ Ls : Array Slot, ∀ t, Steps p.tables e below (T0.setTop (mkF m 31 Ls [.long V])) t → Steps p.tables e below (T0.setTop (mkF m 5 #[.val (.ref a1), .val (.int pos), .val (.long acc), .second, .val (.int sh), s5] [])) t := by
  intro j
  induction j with
  | zero => intro pos sh acc s5 k N hE; exact absurd hE id
  | succ j ih =>
    intro pos sh acc s5 k N hE hs5 hp0 hp1 hN hsh hk h0' h1' hV
    have hi := own_ix hp0 (show pos.toInt < 18 by omega)
    have z0 : (0 : Int32).toInt = 0 := rfl
    rcases hE with ⟨hl, hf⟩ | ⟨hl, hf, hE⟩
    · have hb : ¬ ((f pos.toNatClampNeg) < (0 : Int32)) := by rw [Int32.lt_iff_toInt_lt]; omega
      have ha := own_acc (acc := acc) (b := f pos.toNatClampNeg) (sh := sh) (k := k) (N := N) hN (by omega) hsh hk h0' h1'
      have st := lv_un (acc := acc) (sh := sh) (s5 := s5) hx hZ hw hby hml hown X0 e0 F hs5 hp0 (by omega) hb
      have hm : N % 128 = N := by omega
      rw [hm, hV] at ha
      have hv : (acc ||| ((((f pos.toNatClampNeg) &&& (127 : Int32)).toInt64) <<< (sh &&& 0x3f).toInt64)) = V := by
        apply Int64.toInt_inj.mp
        have r1 := rng64 V
        have r2 := rng64 (acc ||| ((((f pos.toNatClampNeg) &&& (127 : Int32)).toInt64) <<< (sh &&& 0x3f).toInt64))
        omega
      rw [hv] at st
      exact ⟨_, st⟩
    · have hb : (f pos.toNatClampNeg) < (0 : Int32) := by rw [Int32.lt_iff_toInt_lt]; omega
      have ha := own_acc (acc := acc) (b := f pos.toNatClampNeg) (sh := sh) (k := k) (N := N) hN (by omega) hsh hk h0' h1'
      have st := tn_un (acc := acc) (sh := sh) (s5 := s5) hx hZ hw hby hml hown X0 e0 F hs5 hp0 (by omega) hb
      have hst := own_step (acc := acc.toInt) (N := N) (P := ((2 ^ k : Nat) : Int))
      have hP : ((2 ^ k : Nat) : Int) * 128 = ((2 ^ (k + 7) : Nat) : Int) := by rw [Nat.pow_add]; rfl
      rw [hP] at hst
      have hk7 : k + 7 ≤ 63 := by
        refine Nat.le_of_not_lt fun q => ?_
        have h1 : (18446744073709551616 : Int) ≤ 128 * ((2 ^ k : Nat) : Int) := by
          have : (2 : Nat) ^ 57 ≤ 2 ^ k := Nat.pow_le_pow_right (by decide) (by omega)
          omega
        have h2 : 128 * ((2 ^ k : Nat) : Int) ≤ N * ((2 ^ k : Nat) : Int) := Int.mul_le_mul_of_nonneg_right hl (by omega)
        omega
      have hsh7 : (sh + (7 : Int32)).toInt = ((k + 7 : Nat) : Int) := by
        have a := c_iadd sh (7 : Int32)
        have b : (7 : Int32).toInt = 7 := rfl
        have r := rng32 (sh + (7 : Int32))
        omega
      have hpos : (0 : Int) < ((2 ^ k : Nat) : Int) := by have := Nat.pow_pos (n := k) (show 0 < 2 by decide); omega
      have hu1 : (0 : Int) ≤ N % 128 * ((2 ^ k : Nat) : Int) := Int.mul_nonneg (by omega) (by omega)
      have hu2 : N % 128 * ((2 ^ k : Nat) : Int) ≤ 127 * ((2 ^ k : Nat) : Int) := Int.mul_le_mul_of_nonneg_right (by omega) (by omega)
      have hbd : ((2 ^ (k + 7) : Nat) : Int) ≤ 9223372036854775808 := by
        have : (2 : Nat) ^ (k + 7) ≤ 2 ^ 63 := Nat.pow_le_pow_right (by decide) hk7
        omega
      have hna : (acc ||| ((((f pos.toNatClampNeg) &&& (127 : Int32)).toInt64) <<< (sh &&& 0x3f).toInt64)).toInt = acc.toInt + N % 128 * ((2 ^ k : Nat) : Int) := by
        have r2 := rng64 (acc ||| ((((f pos.toNatClampNeg) &&& (127 : Int32)).toInt64) <<< (sh &&& 0x3f).toInt64))
        omega
      obtain ⟨Ls, st2⟩ := ih (pos := pos + (1 : Int32)) (sh := sh + (7 : Int32)) (acc := (acc ||| ((((f pos.toNatClampNeg) &&& (127 : Int32)).toInt64) <<< (sh &&& 0x3f).toInt64))) (s5 := .val (.int (f pos.toNatClampNeg))) (k := k + 7) (N := N / 128) (by rw [hi.2.2.2.1]; exact hE) (One.val rfl) (by rw [hi.2.2.1]; omega) (by rw [hi.2.2.1]; omega) (by omega) hsh7 hk7 (by omega) (by omega) (by rw [hna, ← hst]; exact hV)
      exact ⟨Ls, fun t kt => st t (st2 t kt)⟩
theorem dun_31 : decode prog_89_method_14_code 31 = .ok (.lreturn, 1) := by decide +kernel
theorem dunp_0 : decode prog_89_method_14_code 0 = .ok (.lconst 0, 1) := by decide +kernel
theorem dunp_1 : decode prog_89_method_14_code 1 = .ok (.lstore_n 2, 1) := by decide +kernel
theorem dunp_2 : decode prog_89_method_14_code 2 = .ok (.iconst 0, 1) := by decide +kernel
theorem dunp_3 : decode prog_89_method_14_code 3 = .ok (.istore 4, 2) := by decide +kernel
theorem pn_unp : plainName "com/example/fenceline/fenceline/util/PackedValues" = true := by first | (simp [plainName, overriddenIn]; done) | decide +kernel
theorem ef_unp (m : MethodId) (x0 : Addr) (x1 : Int32) : entryFrame m #[(.ref x0), (.int x1)] 6 = mkF m 0 #[.val (.ref x0), .val (.int x1), .unset, .unset, .unset, .unset] [] := by first | (simp [entryFrame, mkF, argsToLocals, Value.category]; done) | rfl
def Q_unp (Z : State) (a1 : Addr) (p2 : Int32) (f : Nat → Int32) (V : Int64) (h0 : Heap) (n0 : Nat) (v : Option Value) (h : Heap) (L : List Loc) : Prop := v = some (.long V) ∧ Fr n0 L ∧ h = h0
set_option maxRecDepth 65536 in
set_option maxHeartbeats 40000000 in
theorem rm_unp (l : Launch) (Z : State) (a0 : Array Value) (hw : ∀ d ∈ tables_1, d.before a0 Z = true) (ws : List Jvm.Cond) (a1 : Addr) (p2 : Int32) (f : Nat → Int32) (V : Int64) (h0 : Heap) (n0 : Nat) (Z0 : n0 ≤ h0.size) (F : OAf Z h0 a1 .byte 18 f) (hp0 : 0 ≤ p2.toInt) (hp1 : p2.toInt ≤ 7) (hE : own_Enc 10 f p2.toNatClampNeg (V.toInt % 18446744073709551616)) :
    MetFree l (⟨"com/example/fenceline/fenceline/util/PackedValues", "unpack", "([BI)J"⟩ : MethodName) (head1 (Jvm.Cond.code (⟨"com/example/fenceline/fenceline/util/PackedValues", "unpack", "([BI)J"⟩ : MethodName) prog_89_method_14_code 6 (some .long) :: ws) ({ frames := 0, cells := 0, slots := 0, locals := 0 } : Room)) (fun a U => a = #[(.ref a1), (.int p2)] ∧ Z.Warmed39 U.vm ∧ U.heap = h0) (fun _ _ _ _ _ => True) (fun _ U o U' => ∃ v L, o = .returned v ∧ Q_unp Z a1 p2 f V h0 n0 v U'.heap L ∧ FrameEnd U o U' L ({ frames := 0, cells := 0, slots := 0, locals := 0 } : Room).cells ({ frames := 0, cells := 0, slots := 0, locals := 0 } : Room).slots) := by
  refine MetFree.of_bodySF (plainFor_of_name pn_unp) hisR ?_
  intro p e s m args below meth c s₁ Bd hml0 hP hK
  obtain ⟨rfl, hZ, hh⟩ := hP
  have hx := Bd.exec
  have hby := Bd.bytes
  have hml : c.maxLocals = 6 := hml0
  have hown : s.vm.findClass "com/example/fenceline/fenceline/util/PackedValues" = some m.cls := findClass_of_methodNamed Bd.named
  have hnm := (name_of_methodNamed Bd.named Bd.method).1
  have X0 : Stand p l e ({ frames := 0, cells := 0, slots := 0, locals := 0 } : Room) s m #[(.ref a1), (.int p2)] below meth c s₁ [] 0 0 := Stand.of_body Bd
  have e0 : s₁.heap = h0 := by rw [← hh, Bd.state]; rfl
  have N0 := Fr.nil n0
  have pre0 : ∀ tg_, Steps p.tables e below (s₁.setTop (mkF m 0 #[.val (.ref a1), .val (.int p2), .unset, .unset, .unset, .unset] [])) tg_ → Steps p.tables e below (s₁.setTop (entryFrame m #[(.ref a1), (.int p2)] 6)) tg_ := fun tg_ k => castTop (ef_unp m a1 p2) k
  have p_1 : ∀ tg_, Steps p.tables e below (s₁.setTop (mkF m 5 #[.val (.ref a1), .val (.int p2), .val (.long (0 : Int64)), .second, .val (.int (0 : Int32)), .unset] [])) tg_ → Steps p.tables e below (s₁.setTop (entryFrame m #[(.ref a1), (.int p2)] 6)) tg_ := by
    intro tg_ kk_
    refine pre0 tg_ ?_
    show Steps p.tables e below (s₁.setTop (mkF m 0 #[.val (.ref a1), .val (.int p2), .unset, .unset, .unset, .unset] [])) _
    refine XS.lconst X0.here hx rfl (hb hby dunp_0) ?_
    show Steps p.tables e below (s₁.setTop (mkF m 1 #[.val (.ref a1), .val (.int p2), .unset, .unset, .unset, .unset] [(.long (0 : Int64))])) _
    refine XS.lstoreN X0.here hx rfl (hb hby dunp_1) rfl (l' := #[.val (.ref a1), .val (.int p2), .val (.long (0 : Int64)), .second, .unset, .unset]) rfl ?_
    show Steps p.tables e below (s₁.setTop (mkF m 2 #[.val (.ref a1), .val (.int p2), .val (.long (0 : Int64)), .second, .unset, .unset] [])) _
    refine XS.iconst X0.here hx rfl (hb hby dunp_2) ?_
    show Steps p.tables e below (s₁.setTop (mkF m 3 #[.val (.ref a1), .val (.int p2), .val (.long (0 : Int64)), .second, .unset, .unset] [(.int (0 : Int32))])) _
    refine XS.istore X0.here hx rfl (hb hby dunp_3) rfl (l' := #[.val (.ref a1), .val (.int p2), .val (.long (0 : Int64)), .second, .val (.int (0 : Int32)), .unset]) rfl ?_
    exact kk_
  have z64 : (0 : Int64).toInt = 0 := rfl
  obtain ⟨Ls, st⟩ := lp_un (a0 := a0) (V := V) hx hZ hw hby hml hown X0 e0 F 10 (acc := (0 : Int64)) (sh := (0 : Int32)) (s5 := .unset) (k := 0) hE One.u hp0 (by omega) (by omega) rfl (by omega) (by rw [z64]; decide) (by rw [z64]; decide) (by rw [z64]; omega)
  obtain ⟨fs, hr, hrun, hended, hW, hsame⟩ := X0.leave (v := some (.long V)) (fun h => by rw [Bd.returns] at h; cases h)
  refine ⟨_, _, p_1 _ (st _ ?_), hrun, hended, _, _, rfl, ?_, ⟨_, rfl⟩, hW, hsame.mono (by decide) (by decide)⟩
  · show Steps p.tables e below (s₁.setTop (mkF m 31 Ls [.long V])) _
    jvm_step X0.here [X0.here.top, hx, (hb hby dun_31), X0.method', Bd.returns, narrow]
    first | (intro acts; rw [hr _ acts rfl rfl rfl]) | rw [hr _ _ rfl rfl rfl]
    exact Steps.refl _
  · show Q_unp Z a1 p2 f V h0 n0 _ s₁.heap _
    rw [e0]
    exact ⟨rfl, N0, rfl⟩
theorem pd_law_0 : parseMethodDescriptor "(J[BI)I" = some ⟨[.long, (.array .byte), .int], some .int⟩ := by decide +kernel
theorem pd_law_1 : parseMethodDescriptor "([BI)J" = some ⟨[(.array .byte), .int], some .long⟩ := by decide +kernel
theorem pn_law : plainName "com/example/fenceline/fenceline/util/PackedValuesUnpackPinLaw" = true := by first | (simp [plainName, overriddenIn]; done) | decide +kernel
theorem ef_law (m : MethodId) (x0 : Int64) (x1 : Int32) (x2 : Int32) (x3 : Int32) : entryFrame m #[(.long x0), (.int x1), (.int x2), (.int x3)] maxLocals = mkF m 0 #[.val (.long x0), .second, .val (.int x1), .val (.int x2), .val (.int x3), .unset, .unset, .unset, .unset, .unset, .unset, .unset] [] := by first | (simp [entryFrame, mkF, argsToLocals, Value.category, maxLocals]; done) | rfl
def Q_law (Z : State) (p1 : Int64) (p2 p3 p4 : Int32) (h0 : Heap) (n0 : Nat) (v : Option Value) (h : Heap) (L : List Loc) : Prop := v = some (.int 1) ∧ Fr n0 L
set_option maxRecDepth 65536 in
set_option maxHeartbeats 40000000 in
theorem rm_law (l : Launch) (Z : State) (a0 : Array Value) (hw : ∀ d ∈ tables_1, d.before a0 Z = true) (ws : List Jvm.Cond) (p1 : Int64) (p2 p3 p4 : Int32) (h0 : Heap) (n0 : Nat) (Z0 : n0 ≤ h0.size)  :
    MetFree l x (head1 (Jvm.Cond.code x code maxLocals ret :: ws) room_1) (fun a U => a = #[(.long p1), (.int p2), (.int p3), (.int p4)] ∧ Z.Warmed39 U.vm ∧ U.heap = h0) (fun _ _ _ _ _ => True) (fun _ U o U' => ∃ v L, o = .returned v ∧ Q_law Z p1 p2 p3 p4 h0 n0 v U'.heap L ∧ FrameEnd U o U' L room_1.cells room_1.slots) := by
  refine MetFree.of_bodySF (plainFor_of_name pn_law) hisR ?_
  intro p e s m args below meth c s₁ Bd hml0 hP hK
  obtain ⟨rfl, hZ, hh⟩ := hP
  have hx := Bd.exec
  have hby := Bd.bytes
  have hml : c.maxLocals = 12 := hml0
  have hown : s.vm.findClass "com/example/fenceline/fenceline/util/PackedValuesUnpackPinLaw" = some m.cls := findClass_of_methodNamed Bd.named
  have hnm := (name_of_methodNamed Bd.named Bd.method).1
  have X0 : Stand p l e room_1 s m #[(.long p1), (.int p2), (.int p3), (.int p4)] below meth c s₁ [] 0 0 := Stand.of_body Bd
  have e0 : s₁.heap = h0 := by rw [← hh, Bd.state]; rfl
  have N0 := Fr.nil n0
  have pre0 : ∀ tg_, Steps p.tables e below (s₁.setTop (mkF m 0 #[.val (.long p1), .second, .val (.int p2), .val (.int p3), .val (.int p4), .unset, .unset, .unset, .unset, .unset, .unset, .unset] [])) tg_ → Steps p.tables e below (s₁.setTop (entryFrame m #[(.long p1), (.int p2), (.int p3), (.int p4)] maxLocals)) tg_ := fun tg_ k => castTop (ef_law m p1 p2 p3 p4) k
  have p_1 : ∀ tg_, Steps p.tables e below (s₁.setTop (mkF m 21 #[.val (.long p1), .second, .val (.int p2), .val (.int p3), .val (.int p4), .val (.long ((p1.toUInt64 >>> ((p2 &&& (63 : Int32)) &&& 0x3f).toInt64.toUInt64).toInt64)), .second, .val (.int (p3 &&& (7 : Int32))), .val (.int (p4.toInt8.toInt32)), .unset, .unset, .unset] [(.int (18 : Int32))])) tg_ → Steps p.tables e below (s₁.setTop (entryFrame m #[(.long p1), (.int p2), (.int p3), (.int p4)] maxLocals)) tg_ := by
    intro tg_ kk_
    refine pre0 tg_ ?_
    show Steps p.tables e below (s₁.setTop (mkF m 0 #[.val (.long p1), .second, .val (.int p2), .val (.int p3), .val (.int p4), .unset, .unset, .unset, .unset, .unset, .unset, .unset] [])) _
    refine XS.lloadN X0.here hx rfl (hb hby at_0) rfl ?_
    show Steps p.tables e below (s₁.setTop (mkF m 1 #[.val (.long p1), .second, .val (.int p2), .val (.int p3), .val (.int p4), .unset, .unset, .unset, .unset, .unset, .unset, .unset] [(.long p1)])) _
    refine XS.iloadN X0.here hx rfl (hb hby at_1) rfl ?_
    show Steps p.tables e below (s₁.setTop (mkF m 2 #[.val (.long p1), .second, .val (.int p2), .val (.int p3), .val (.int p4), .unset, .unset, .unset, .unset, .unset, .unset, .unset] [(.int p2), (.long p1)])) _
    refine XS.bipush X0.here hx rfl (hb hby at_2) ?_
    show Steps p.tables e below (s₁.setTop (mkF m 4 #[.val (.long p1), .second, .val (.int p2), .val (.int p3), .val (.int p4), .unset, .unset, .unset, .unset, .unset, .unset, .unset] [(.int (63 : Int32)), (.int p2), (.long p1)])) _
    refine XS.iand X0.here hx rfl (hb hby at_4) rfl ?_
    show Steps p.tables e below (s₁.setTop (mkF m 5 #[.val (.long p1), .second, .val (.int p2), .val (.int p3), .val (.int p4), .unset, .unset, .unset, .unset, .unset, .unset, .unset] [(.int (p2 &&& (63 : Int32))), (.long p1)])) _
    refine XS.lushr X0.here hx rfl (hb hby at_5) rfl ?_
    show Steps p.tables e below (s₁.setTop (mkF m 6 #[.val (.long p1), .second, .val (.int p2), .val (.int p3), .val (.int p4), .unset, .unset, .unset, .unset, .unset, .unset, .unset] [(.long ((p1.toUInt64 >>> ((p2 &&& (63 : Int32)) &&& 0x3f).toInt64.toUInt64).toInt64))])) _
    refine XS.lstore X0.here hx rfl (hb hby at_6) rfl (l' := #[.val (.long p1), .second, .val (.int p2), .val (.int p3), .val (.int p4), .val (.long ((p1.toUInt64 >>> ((p2 &&& (63 : Int32)) &&& 0x3f).toInt64.toUInt64).toInt64)), .second, .unset, .unset, .unset, .unset, .unset]) rfl ?_
    show Steps p.tables e below (s₁.setTop (mkF m 8 #[.val (.long p1), .second, .val (.int p2), .val (.int p3), .val (.int p4), .val (.long ((p1.toUInt64 >>> ((p2 &&& (63 : Int32)) &&& 0x3f).toInt64.toUInt64).toInt64)), .second, .unset, .unset, .unset, .unset, .unset] [])) _
    refine XS.iloadN X0.here hx rfl (hb hby at_8) rfl ?_
    show Steps p.tables e below (s₁.setTop (mkF m 9 #[.val (.long p1), .second, .val (.int p2), .val (.int p3), .val (.int p4), .val (.long ((p1.toUInt64 >>> ((p2 &&& (63 : Int32)) &&& 0x3f).toInt64.toUInt64).toInt64)), .second, .unset, .unset, .unset, .unset, .unset] [(.int p3)])) _
    refine XS.bipush X0.here hx rfl (hb hby at_9) ?_
    show Steps p.tables e below (s₁.setTop (mkF m 11 #[.val (.long p1), .second, .val (.int p2), .val (.int p3), .val (.int p4), .val (.long ((p1.toUInt64 >>> ((p2 &&& (63 : Int32)) &&& 0x3f).toInt64.toUInt64).toInt64)), .second, .unset, .unset, .unset, .unset, .unset] [(.int (7 : Int32)), (.int p3)])) _
    refine XS.iand X0.here hx rfl (hb hby at_11) rfl ?_
    show Steps p.tables e below (s₁.setTop (mkF m 12 #[.val (.long p1), .second, .val (.int p2), .val (.int p3), .val (.int p4), .val (.long ((p1.toUInt64 >>> ((p2 &&& (63 : Int32)) &&& 0x3f).toInt64.toUInt64).toInt64)), .second, .unset, .unset, .unset, .unset, .unset] [(.int (p3 &&& (7 : Int32)))])) _
    refine XS.istore X0.here hx rfl (hb hby at_12) rfl (l' := #[.val (.long p1), .second, .val (.int p2), .val (.int p3), .val (.int p4), .val (.long ((p1.toUInt64 >>> ((p2 &&& (63 : Int32)) &&& 0x3f).toInt64.toUInt64).toInt64)), .second, .val (.int (p3 &&& (7 : Int32))), .unset, .unset, .unset, .unset]) rfl ?_
    show Steps p.tables e below (s₁.setTop (mkF m 14 #[.val (.long p1), .second, .val (.int p2), .val (.int p3), .val (.int p4), .val (.long ((p1.toUInt64 >>> ((p2 &&& (63 : Int32)) &&& 0x3f).toInt64.toUInt64).toInt64)), .second, .val (.int (p3 &&& (7 : Int32))), .unset, .unset, .unset, .unset] [])) _
    refine XS.iload X0.here hx rfl (hb hby at_14) rfl ?_
    show Steps p.tables e below (s₁.setTop (mkF m 16 #[.val (.long p1), .second, .val (.int p2), .val (.int p3), .val (.int p4), .val (.long ((p1.toUInt64 >>> ((p2 &&& (63 : Int32)) &&& 0x3f).toInt64.toUInt64).toInt64)), .second, .val (.int (p3 &&& (7 : Int32))), .unset, .unset, .unset, .unset] [(.int p4)])) _
    refine XS.i2b X0.here hx rfl (hb hby at_16) rfl ?_
    show Steps p.tables e below (s₁.setTop (mkF m 17 #[.val (.long p1), .second, .val (.int p2), .val (.int p3), .val (.int p4), .val (.long ((p1.toUInt64 >>> ((p2 &&& (63 : Int32)) &&& 0x3f).toInt64.toUInt64).toInt64)), .second, .val (.int (p3 &&& (7 : Int32))), .unset, .unset, .unset, .unset] [(.int (p4.toInt8.toInt32))])) _
    refine XS.istore X0.here hx rfl (hb hby at_17) rfl (l' := #[.val (.long p1), .second, .val (.int p2), .val (.int p3), .val (.int p4), .val (.long ((p1.toUInt64 >>> ((p2 &&& (63 : Int32)) &&& 0x3f).toInt64.toUInt64).toInt64)), .second, .val (.int (p3 &&& (7 : Int32))), .val (.int (p4.toInt8.toInt32)), .unset, .unset, .unset]) rfl ?_
    show Steps p.tables e below (s₁.setTop (mkF m 19 #[.val (.long p1), .second, .val (.int p2), .val (.int p3), .val (.int p4), .val (.long ((p1.toUInt64 >>> ((p2 &&& (63 : Int32)) &&& 0x3f).toInt64.toUInt64).toInt64)), .second, .val (.int (p3 &&& (7 : Int32))), .val (.int (p4.toInt8.toInt32)), .unset, .unset, .unset] [])) _
    refine XS.bipush X0.here hx rfl (hb hby at_19) ?_
    exact kk_
  obtain ⟨T2, h2, k2, X2, e2, E2, A2, st2⟩ := newP X0 hx hZ (hw _ (List.mem_of_getElem? (i := 0) rfl)) e0 (g := (mkF m 21 #[.val (.long p1), .second, .val (.int p2), .val (.int p3), .val (.int p4), .val (.long ((p1.toUInt64 >>> ((p2 &&& (63 : Int32)) &&& 0x3f).toInt64.toUInt64).toInt64)), .second, .val (.int (p3 &&& (7 : Int32))), .val (.int (p4.toInt8.toInt32)), .unset, .unset, .unset] [(.int (18 : Int32))])) rfl (hb hby at_21) rfl (by decide) (cap := 18) (by decide) (by decide) (by decide) (by decide)
  obtain ⟨b2, g2⟩ : ∃ z, z = h0.size := ⟨_, rfl⟩
  rw [← g2] at A2 st2
  have F2 := OAf.new A2 rfl (n := 18) rfl
  have gb : n0 ≤ b2 := Nat.le_trans Z0 (Nat.le_of_eq g2.symm)
  have Zs2 : n0 ≤ h2.size := Nat.le_trans Z0 E2.1
  have p_3 : ∀ tg_, Steps p.tables e below (T2.setTop (mkF m 27 #[.val (.long p1), .second, .val (.int p2), .val (.int p3), .val (.int p4), .val (.long ((p1.toUInt64 >>> ((p2 &&& (63 : Int32)) &&& 0x3f).toInt64.toUInt64).toInt64)), .second, .val (.int (p3 &&& (7 : Int32))), .val (.int (p4.toInt8.toInt32)), .unset, .unset, .unset] [(.int (p4.toInt8.toInt32)), (.int (0 : Int32)), (.ref b2), (.ref b2)])) tg_ → Steps p.tables e below (s₁.setTop (entryFrame m #[(.long p1), (.int p2), (.int p3), (.int p4)] maxLocals)) tg_ := by
    intro tg_ kk_
    refine p_1 tg_ ?_
    refine st2 _ ?_
    show Steps p.tables e below (T2.setTop (mkF m 23 #[.val (.long p1), .second, .val (.int p2), .val (.int p3), .val (.int p4), .val (.long ((p1.toUInt64 >>> ((p2 &&& (63 : Int32)) &&& 0x3f).toInt64.toUInt64).toInt64)), .second, .val (.int (p3 &&& (7 : Int32))), .val (.int (p4.toInt8.toInt32)), .unset, .unset, .unset] [(.ref b2)])) _
    refine XS.dup X2.here hx rfl (hb hby at_23) rfl rfl ?_
    show Steps p.tables e below (T2.setTop (mkF m 24 #[.val (.long p1), .second, .val (.int p2), .val (.int p3), .val (.int p4), .val (.long ((p1.toUInt64 >>> ((p2 &&& (63 : Int32)) &&& 0x3f).toInt64.toUInt64).toInt64)), .second, .val (.int (p3 &&& (7 : Int32))), .val (.int (p4.toInt8.toInt32)), .unset, .unset, .unset] [(.ref b2), (.ref b2)])) _
    refine XS.iconst X2.here hx rfl (hb hby at_24) ?_
    show Steps p.tables e below (T2.setTop (mkF m 25 #[.val (.long p1), .second, .val (.int p2), .val (.int p3), .val (.int p4), .val (.long ((p1.toUInt64 >>> ((p2 &&& (63 : Int32)) &&& 0x3f).toInt64.toUInt64).toInt64)), .second, .val (.int (p3 &&& (7 : Int32))), .val (.int (p4.toInt8.toInt32)), .unset, .unset, .unset] [(.int (0 : Int32)), (.ref b2), (.ref b2)])) _
    refine XS.iload X2.here hx rfl (hb hby at_25) rfl ?_
    exact kk_
  obtain ⟨T4, h4, X4, e4, W4, F4, st4⟩ := own_bastore X2 hx hZ e2 F2 (j := (0 : Int32)) (by decide) (by decide) (g := (mkF m 27 #[.val (.long p1), .second, .val (.int p2), .val (.int p3), .val (.int p4), .val (.long ((p1.toUInt64 >>> ((p2 &&& (63 : Int32)) &&& 0x3f).toInt64.toUInt64).toInt64)), .second, .val (.int (p3 &&& (7 : Int32))), .val (.int (p4.toInt8.toInt32)), .unset, .unset, .unset] [(.int (p4.toInt8.toInt32)), (.int (0 : Int32)), (.ref b2), (.ref b2)])) rfl rfl (hb hby at_27)
  have N4 := Fr.snoc X4 N0 gb
  have Zs4 : n0 ≤ h4.size := by rw [W4.size]; exact Zs2
  have p_5 : ∀ tg_, Steps p.tables e below (T4.setTop (mkF m 32 #[.val (.long p1), .second, .val (.int p2), .val (.int p3), .val (.int p4), .val (.long ((p1.toUInt64 >>> ((p2 &&& (63 : Int32)) &&& 0x3f).toInt64.toUInt64).toInt64)), .second, .val (.int (p3 &&& (7 : Int32))), .val (.int (p4.toInt8.toInt32)), .unset, .unset, .unset] [(.int (p4.toInt8.toInt32)), (.int (1 : Int32)), (.ref b2), (.ref b2)])) tg_ → Steps p.tables e below (s₁.setTop (entryFrame m #[(.long p1), (.int p2), (.int p3), (.int p4)] maxLocals)) tg_ := by
    intro tg_ kk_
    refine p_3 tg_ ?_
    refine st4 _ ?_
    show Steps p.tables e below (T4.setTop (mkF m 28 #[.val (.long p1), .second, .val (.int p2), .val (.int p3), .val (.int p4), .val (.long ((p1.toUInt64 >>> ((p2 &&& (63 : Int32)) &&& 0x3f).toInt64.toUInt64).toInt64)), .second, .val (.int (p3 &&& (7 : Int32))), .val (.int (p4.toInt8.toInt32)), .unset, .unset, .unset] [(.ref b2)])) _
    refine XS.dup X4.here hx rfl (hb hby at_28) rfl rfl ?_
    show Steps p.tables e below (T4.setTop (mkF m 29 #[.val (.long p1), .second, .val (.int p2), .val (.int p3), .val (.int p4), .val (.long ((p1.toUInt64 >>> ((p2 &&& (63 : Int32)) &&& 0x3f).toInt64.toUInt64).toInt64)), .second, .val (.int (p3 &&& (7 : Int32))), .val (.int (p4.toInt8.toInt32)), .unset, .unset, .unset] [(.ref b2), (.ref b2)])) _
    refine XS.iconst X4.here hx rfl (hb hby at_29) ?_
    show Steps p.tables e below (T4.setTop (mkF m 30 #[.val (.long p1), .second, .val (.int p2), .val (.int p3), .val (.int p4), .val (.long ((p1.toUInt64 >>> ((p2 &&& (63 : Int32)) &&& 0x3f).toInt64.toUInt64).toInt64)), .second, .val (.int (p3 &&& (7 : Int32))), .val (.int (p4.toInt8.toInt32)), .unset, .unset, .unset] [(.int (1 : Int32)), (.ref b2), (.ref b2)])) _
    refine XS.iload X4.here hx rfl (hb hby at_30) rfl ?_
    exact kk_
  obtain ⟨T6, h6, X6, e6, W6, F6, st6⟩ := own_bastore X4 hx hZ e4 F4 (j := (1 : Int32)) (by decide) (by decide) (g := (mkF m 32 #[.val (.long p1), .second, .val (.int p2), .val (.int p3), .val (.int p4), .val (.long ((p1.toUInt64 >>> ((p2 &&& (63 : Int32)) &&& 0x3f).toInt64.toUInt64).toInt64)), .second, .val (.int (p3 &&& (7 : Int32))), .val (.int (p4.toInt8.toInt32)), .unset, .unset, .unset] [(.int (p4.toInt8.toInt32)), (.int (1 : Int32)), (.ref b2), (.ref b2)])) rfl rfl (hb hby at_32)
  have N6 := Fr.snoc X6 N4 gb
  have Zs6 : n0 ≤ h6.size := by rw [W6.size]; exact Zs4
  have p_7 : ∀ tg_, Steps p.tables e below (T6.setTop (mkF m 37 #[.val (.long p1), .second, .val (.int p2), .val (.int p3), .val (.int p4), .val (.long ((p1.toUInt64 >>> ((p2 &&& (63 : Int32)) &&& 0x3f).toInt64.toUInt64).toInt64)), .second, .val (.int (p3 &&& (7 : Int32))), .val (.int (p4.toInt8.toInt32)), .unset, .unset, .unset] [(.int (p4.toInt8.toInt32)), (.int (2 : Int32)), (.ref b2), (.ref b2)])) tg_ → Steps p.tables e below (s₁.setTop (entryFrame m #[(.long p1), (.int p2), (.int p3), (.int p4)] maxLocals)) tg_ := by
    intro tg_ kk_
    refine p_5 tg_ ?_
    refine st6 _ ?_
    show Steps p.tables e below (T6.setTop (mkF m 33 #[.val (.long p1), .second, .val (.int p2), .val (.int p3), .val (.int p4), .val (.long ((p1.toUInt64 >>> ((p2 &&& (63 : Int32)) &&& 0x3f).toInt64.toUInt64).toInt64)), .second, .val (.int (p3 &&& (7 : Int32))), .val (.int (p4.toInt8.toInt32)), .unset, .unset, .unset] [(.ref b2)])) _
    refine XS.dup X6.here hx rfl (hb hby at_33) rfl rfl ?_
    show Steps p.tables e below (T6.setTop (mkF m 34 #[.val (.long p1), .second, .val (.int p2), .val (.int p3), .val (.int p4), .val (.long ((p1.toUInt64 >>> ((p2 &&& (63 : Int32)) &&& 0x3f).toInt64.toUInt64).toInt64)), .second, .val (.int (p3 &&& (7 : Int32))), .val (.int (p4.toInt8.toInt32)), .unset, .unset, .unset] [(.ref b2), (.ref b2)])) _
    refine XS.iconst X6.here hx rfl (hb hby at_34) ?_
    show Steps p.tables e below (T6.setTop (mkF m 35 #[.val (.long p1), .second, .val (.int p2), .val (.int p3), .val (.int p4), .val (.long ((p1.toUInt64 >>> ((p2 &&& (63 : Int32)) &&& 0x3f).toInt64.toUInt64).toInt64)), .second, .val (.int (p3 &&& (7 : Int32))), .val (.int (p4.toInt8.toInt32)), .unset, .unset, .unset] [(.int (2 : Int32)), (.ref b2), (.ref b2)])) _
    refine XS.iload X6.here hx rfl (hb hby at_35) rfl ?_
    exact kk_
  obtain ⟨T8, h8, X8, e8, W8, F8, st8⟩ := own_bastore X6 hx hZ e6 F6 (j := (2 : Int32)) (by decide) (by decide) (g := (mkF m 37 #[.val (.long p1), .second, .val (.int p2), .val (.int p3), .val (.int p4), .val (.long ((p1.toUInt64 >>> ((p2 &&& (63 : Int32)) &&& 0x3f).toInt64.toUInt64).toInt64)), .second, .val (.int (p3 &&& (7 : Int32))), .val (.int (p4.toInt8.toInt32)), .unset, .unset, .unset] [(.int (p4.toInt8.toInt32)), (.int (2 : Int32)), (.ref b2), (.ref b2)])) rfl rfl (hb hby at_37)
  have N8 := Fr.snoc X8 N6 gb
  have Zs8 : n0 ≤ h8.size := by rw [W8.size]; exact Zs6
  have p_9 : ∀ tg_, Steps p.tables e below (T8.setTop (mkF m 42 #[.val (.long p1), .second, .val (.int p2), .val (.int p3), .val (.int p4), .val (.long ((p1.toUInt64 >>> ((p2 &&& (63 : Int32)) &&& 0x3f).toInt64.toUInt64).toInt64)), .second, .val (.int (p3 &&& (7 : Int32))), .val (.int (p4.toInt8.toInt32)), .unset, .unset, .unset] [(.int (p4.toInt8.toInt32)), (.int (3 : Int32)), (.ref b2), (.ref b2)])) tg_ → Steps p.tables e below (s₁.setTop (entryFrame m #[(.long p1), (.int p2), (.int p3), (.int p4)] maxLocals)) tg_ := by
    intro tg_ kk_
    refine p_7 tg_ ?_
    refine st8 _ ?_
    show Steps p.tables e below (T8.setTop (mkF m 38 #[.val (.long p1), .second, .val (.int p2), .val (.int p3), .val (.int p4), .val (.long ((p1.toUInt64 >>> ((p2 &&& (63 : Int32)) &&& 0x3f).toInt64.toUInt64).toInt64)), .second, .val (.int (p3 &&& (7 : Int32))), .val (.int (p4.toInt8.toInt32)), .unset, .unset, .unset] [(.ref b2)])) _
    refine XS.dup X8.here hx rfl (hb hby at_38) rfl rfl ?_
    show Steps p.tables e below (T8.setTop (mkF m 39 #[.val (.long p1), .second, .val (.int p2), .val (.int p3), .val (.int p4), .val (.long ((p1.toUInt64 >>> ((p2 &&& (63 : Int32)) &&& 0x3f).toInt64.toUInt64).toInt64)), .second, .val (.int (p3 &&& (7 : Int32))), .val (.int (p4.toInt8.toInt32)), .unset, .unset, .unset] [(.ref b2), (.ref b2)])) _
    refine XS.iconst X8.here hx rfl (hb hby at_39) ?_
    show Steps p.tables e below (T8.setTop (mkF m 40 #[.val (.long p1), .second, .val (.int p2), .val (.int p3), .val (.int p4), .val (.long ((p1.toUInt64 >>> ((p2 &&& (63 : Int32)) &&& 0x3f).toInt64.toUInt64).toInt64)), .second, .val (.int (p3 &&& (7 : Int32))), .val (.int (p4.toInt8.toInt32)), .unset, .unset, .unset] [(.int (3 : Int32)), (.ref b2), (.ref b2)])) _
    refine XS.iload X8.here hx rfl (hb hby at_40) rfl ?_
    exact kk_
  obtain ⟨T10, h10, X10, e10, W10, F10, st10⟩ := own_bastore X8 hx hZ e8 F8 (j := (3 : Int32)) (by decide) (by decide) (g := (mkF m 42 #[.val (.long p1), .second, .val (.int p2), .val (.int p3), .val (.int p4), .val (.long ((p1.toUInt64 >>> ((p2 &&& (63 : Int32)) &&& 0x3f).toInt64.toUInt64).toInt64)), .second, .val (.int (p3 &&& (7 : Int32))), .val (.int (p4.toInt8.toInt32)), .unset, .unset, .unset] [(.int (p4.toInt8.toInt32)), (.int (3 : Int32)), (.ref b2), (.ref b2)])) rfl rfl (hb hby at_42)
  have N10 := Fr.snoc X10 N8 gb
  have Zs10 : n0 ≤ h10.size := by rw [W10.size]; exact Zs8
  have p_11 : ∀ tg_, Steps p.tables e below (T10.setTop (mkF m 47 #[.val (.long p1), .second, .val (.int p2), .val (.int p3), .val (.int p4), .val (.long ((p1.toUInt64 >>> ((p2 &&& (63 : Int32)) &&& 0x3f).toInt64.toUInt64).toInt64)), .second, .val (.int (p3 &&& (7 : Int32))), .val (.int (p4.toInt8.toInt32)), .unset, .unset, .unset] [(.int (p4.toInt8.toInt32)), (.int (4 : Int32)), (.ref b2), (.ref b2)])) tg_ → Steps p.tables e below (s₁.setTop (entryFrame m #[(.long p1), (.int p2), (.int p3), (.int p4)] maxLocals)) tg_ := by
    intro tg_ kk_
    refine p_9 tg_ ?_
    refine st10 _ ?_
    show Steps p.tables e below (T10.setTop (mkF m 43 #[.val (.long p1), .second, .val (.int p2), .val (.int p3), .val (.int p4), .val (.long ((p1.toUInt64 >>> ((p2 &&& (63 : Int32)) &&& 0x3f).toInt64.toUInt64).toInt64)), .second, .val (.int (p3 &&& (7 : Int32))), .val (.int (p4.toInt8.toInt32)), .unset, .unset, .unset] [(.ref b2)])) _
    refine XS.dup X10.here hx rfl (hb hby at_43) rfl rfl ?_
    show Steps p.tables e below (T10.setTop (mkF m 44 #[.val (.long p1), .second, .val (.int p2), .val (.int p3), .val (.int p4), .val (.long ((p1.toUInt64 >>> ((p2 &&& (63 : Int32)) &&& 0x3f).toInt64.toUInt64).toInt64)), .second, .val (.int (p3 &&& (7 : Int32))), .val (.int (p4.toInt8.toInt32)), .unset, .unset, .unset] [(.ref b2), (.ref b2)])) _
    refine XS.iconst X10.here hx rfl (hb hby at_44) ?_
    show Steps p.tables e below (T10.setTop (mkF m 45 #[.val (.long p1), .second, .val (.int p2), .val (.int p3), .val (.int p4), .val (.long ((p1.toUInt64 >>> ((p2 &&& (63 : Int32)) &&& 0x3f).toInt64.toUInt64).toInt64)), .second, .val (.int (p3 &&& (7 : Int32))), .val (.int (p4.toInt8.toInt32)), .unset, .unset, .unset] [(.int (4 : Int32)), (.ref b2), (.ref b2)])) _
    refine XS.iload X10.here hx rfl (hb hby at_45) rfl ?_
    exact kk_
  obtain ⟨T12, h12, X12, e12, W12, F12, st12⟩ := own_bastore X10 hx hZ e10 F10 (j := (4 : Int32)) (by decide) (by decide) (g := (mkF m 47 #[.val (.long p1), .second, .val (.int p2), .val (.int p3), .val (.int p4), .val (.long ((p1.toUInt64 >>> ((p2 &&& (63 : Int32)) &&& 0x3f).toInt64.toUInt64).toInt64)), .second, .val (.int (p3 &&& (7 : Int32))), .val (.int (p4.toInt8.toInt32)), .unset, .unset, .unset] [(.int (p4.toInt8.toInt32)), (.int (4 : Int32)), (.ref b2), (.ref b2)])) rfl rfl (hb hby at_47)
  have N12 := Fr.snoc X12 N10 gb
  have Zs12 : n0 ≤ h12.size := by rw [W12.size]; exact Zs10
  have p_13 : ∀ tg_, Steps p.tables e below (T12.setTop (mkF m 52 #[.val (.long p1), .second, .val (.int p2), .val (.int p3), .val (.int p4), .val (.long ((p1.toUInt64 >>> ((p2 &&& (63 : Int32)) &&& 0x3f).toInt64.toUInt64).toInt64)), .second, .val (.int (p3 &&& (7 : Int32))), .val (.int (p4.toInt8.toInt32)), .unset, .unset, .unset] [(.int (p4.toInt8.toInt32)), (.int (5 : Int32)), (.ref b2), (.ref b2)])) tg_ → Steps p.tables e below (s₁.setTop (entryFrame m #[(.long p1), (.int p2), (.int p3), (.int p4)] maxLocals)) tg_ := by
    intro tg_ kk_
    refine p_11 tg_ ?_
    refine st12 _ ?_
    show Steps p.tables e below (T12.setTop (mkF m 48 #[.val (.long p1), .second, .val (.int p2), .val (.int p3), .val (.int p4), .val (.long ((p1.toUInt64 >>> ((p2 &&& (63 : Int32)) &&& 0x3f).toInt64.toUInt64).toInt64)), .second, .val (.int (p3 &&& (7 : Int32))), .val (.int (p4.toInt8.toInt32)), .unset, .unset, .unset] [(.ref b2)])) _
    refine XS.dup X12.here hx rfl (hb hby at_48) rfl rfl ?_
    show Steps p.tables e below (T12.setTop (mkF m 49 #[.val (.long p1), .second, .val (.int p2), .val (.int p3), .val (.int p4), .val (.long ((p1.toUInt64 >>> ((p2 &&& (63 : Int32)) &&& 0x3f).toInt64.toUInt64).toInt64)), .second, .val (.int (p3 &&& (7 : Int32))), .val (.int (p4.toInt8.toInt32)), .unset, .unset, .unset] [(.ref b2), (.ref b2)])) _
    refine XS.iconst X12.here hx rfl (hb hby at_49) ?_
    show Steps p.tables e below (T12.setTop (mkF m 50 #[.val (.long p1), .second, .val (.int p2), .val (.int p3), .val (.int p4), .val (.long ((p1.toUInt64 >>> ((p2 &&& (63 : Int32)) &&& 0x3f).toInt64.toUInt64).toInt64)), .second, .val (.int (p3 &&& (7 : Int32))), .val (.int (p4.toInt8.toInt32)), .unset, .unset, .unset] [(.int (5 : Int32)), (.ref b2), (.ref b2)])) _
    refine XS.iload X12.here hx rfl (hb hby at_50) rfl ?_
    exact kk_
  obtain ⟨T14, h14, X14, e14, W14, F14, st14⟩ := own_bastore X12 hx hZ e12 F12 (j := (5 : Int32)) (by decide) (by decide) (g := (mkF m 52 #[.val (.long p1), .second, .val (.int p2), .val (.int p3), .val (.int p4), .val (.long ((p1.toUInt64 >>> ((p2 &&& (63 : Int32)) &&& 0x3f).toInt64.toUInt64).toInt64)), .second, .val (.int (p3 &&& (7 : Int32))), .val (.int (p4.toInt8.toInt32)), .unset, .unset, .unset] [(.int (p4.toInt8.toInt32)), (.int (5 : Int32)), (.ref b2), (.ref b2)])) rfl rfl (hb hby at_52)
  have N14 := Fr.snoc X14 N12 gb
  have Zs14 : n0 ≤ h14.size := by rw [W14.size]; exact Zs12
  have p_15 : ∀ tg_, Steps p.tables e below (T14.setTop (mkF m 58 #[.val (.long p1), .second, .val (.int p2), .val (.int p3), .val (.int p4), .val (.long ((p1.toUInt64 >>> ((p2 &&& (63 : Int32)) &&& 0x3f).toInt64.toUInt64).toInt64)), .second, .val (.int (p3 &&& (7 : Int32))), .val (.int (p4.toInt8.toInt32)), .unset, .unset, .unset] [(.int (p4.toInt8.toInt32)), (.int (6 : Int32)), (.ref b2), (.ref b2)])) tg_ → Steps p.tables e below (s₁.setTop (entryFrame m #[(.long p1), (.int p2), (.int p3), (.int p4)] maxLocals)) tg_ := by
    intro tg_ kk_
    refine p_13 tg_ ?_
    refine st14 _ ?_
    show Steps p.tables e below (T14.setTop (mkF m 53 #[.val (.long p1), .second, .val (.int p2), .val (.int p3), .val (.int p4), .val (.long ((p1.toUInt64 >>> ((p2 &&& (63 : Int32)) &&& 0x3f).toInt64.toUInt64).toInt64)), .second, .val (.int (p3 &&& (7 : Int32))), .val (.int (p4.toInt8.toInt32)), .unset, .unset, .unset] [(.ref b2)])) _
    refine XS.dup X14.here hx rfl (hb hby at_53) rfl rfl ?_
    show Steps p.tables e below (T14.setTop (mkF m 54 #[.val (.long p1), .second, .val (.int p2), .val (.int p3), .val (.int p4), .val (.long ((p1.toUInt64 >>> ((p2 &&& (63 : Int32)) &&& 0x3f).toInt64.toUInt64).toInt64)), .second, .val (.int (p3 &&& (7 : Int32))), .val (.int (p4.toInt8.toInt32)), .unset, .unset, .unset] [(.ref b2), (.ref b2)])) _
    refine XS.bipush X14.here hx rfl (hb hby at_54) ?_
    show Steps p.tables e below (T14.setTop (mkF m 56 #[.val (.long p1), .second, .val (.int p2), .val (.int p3), .val (.int p4), .val (.long ((p1.toUInt64 >>> ((p2 &&& (63 : Int32)) &&& 0x3f).toInt64.toUInt64).toInt64)), .second, .val (.int (p3 &&& (7 : Int32))), .val (.int (p4.toInt8.toInt32)), .unset, .unset, .unset] [(.int (6 : Int32)), (.ref b2), (.ref b2)])) _
    refine XS.iload X14.here hx rfl (hb hby at_56) rfl ?_
    exact kk_
  obtain ⟨T16, h16, X16, e16, W16, F16, st16⟩ := own_bastore X14 hx hZ e14 F14 (j := (6 : Int32)) (by decide) (by decide) (g := (mkF m 58 #[.val (.long p1), .second, .val (.int p2), .val (.int p3), .val (.int p4), .val (.long ((p1.toUInt64 >>> ((p2 &&& (63 : Int32)) &&& 0x3f).toInt64.toUInt64).toInt64)), .second, .val (.int (p3 &&& (7 : Int32))), .val (.int (p4.toInt8.toInt32)), .unset, .unset, .unset] [(.int (p4.toInt8.toInt32)), (.int (6 : Int32)), (.ref b2), (.ref b2)])) rfl rfl (hb hby at_58)
  have N16 := Fr.snoc X16 N14 gb
  have Zs16 : n0 ≤ h16.size := by rw [W16.size]; exact Zs14
  have p_17 : ∀ tg_, Steps p.tables e below (T16.setTop (mkF m 64 #[.val (.long p1), .second, .val (.int p2), .val (.int p3), .val (.int p4), .val (.long ((p1.toUInt64 >>> ((p2 &&& (63 : Int32)) &&& 0x3f).toInt64.toUInt64).toInt64)), .second, .val (.int (p3 &&& (7 : Int32))), .val (.int (p4.toInt8.toInt32)), .unset, .unset, .unset] [(.int (p4.toInt8.toInt32)), (.int (7 : Int32)), (.ref b2), (.ref b2)])) tg_ → Steps p.tables e below (s₁.setTop (entryFrame m #[(.long p1), (.int p2), (.int p3), (.int p4)] maxLocals)) tg_ := by
    intro tg_ kk_
    refine p_15 tg_ ?_
    refine st16 _ ?_
    show Steps p.tables e below (T16.setTop (mkF m 59 #[.val (.long p1), .second, .val (.int p2), .val (.int p3), .val (.int p4), .val (.long ((p1.toUInt64 >>> ((p2 &&& (63 : Int32)) &&& 0x3f).toInt64.toUInt64).toInt64)), .second, .val (.int (p3 &&& (7 : Int32))), .val (.int (p4.toInt8.toInt32)), .unset, .unset, .unset] [(.ref b2)])) _
    refine XS.dup X16.here hx rfl (hb hby at_59) rfl rfl ?_
    show Steps p.tables e below (T16.setTop (mkF m 60 #[.val (.long p1), .second, .val (.int p2), .val (.int p3), .val (.int p4), .val (.long ((p1.toUInt64 >>> ((p2 &&& (63 : Int32)) &&& 0x3f).toInt64.toUInt64).toInt64)), .second, .val (.int (p3 &&& (7 : Int32))), .val (.int (p4.toInt8.toInt32)), .unset, .unset, .unset] [(.ref b2), (.ref b2)])) _
    refine XS.bipush X16.here hx rfl (hb hby at_60) ?_
    show Steps p.tables e below (T16.setTop (mkF m 62 #[.val (.long p1), .second, .val (.int p2), .val (.int p3), .val (.int p4), .val (.long ((p1.toUInt64 >>> ((p2 &&& (63 : Int32)) &&& 0x3f).toInt64.toUInt64).toInt64)), .second, .val (.int (p3 &&& (7 : Int32))), .val (.int (p4.toInt8.toInt32)), .unset, .unset, .unset] [(.int (7 : Int32)), (.ref b2), (.ref b2)])) _
    refine XS.iload X16.here hx rfl (hb hby at_62) rfl ?_
    exact kk_
  obtain ⟨T18, h18, X18, e18, W18, F18, st18⟩ := own_bastore X16 hx hZ e16 F16 (j := (7 : Int32)) (by decide) (by decide) (g := (mkF m 64 #[.val (.long p1), .second, .val (.int p2), .val (.int p3), .val (.int p4), .val (.long ((p1.toUInt64 >>> ((p2 &&& (63 : Int32)) &&& 0x3f).toInt64.toUInt64).toInt64)), .second, .val (.int (p3 &&& (7 : Int32))), .val (.int (p4.toInt8.toInt32)), .unset, .unset, .unset] [(.int (p4.toInt8.toInt32)), (.int (7 : Int32)), (.ref b2), (.ref b2)])) rfl rfl (hb hby at_64)
  have N18 := Fr.snoc X18 N16 gb
  have Zs18 : n0 ≤ h18.size := by rw [W18.size]; exact Zs16
  have p_19 : ∀ tg_, Steps p.tables e below (T18.setTop (mkF m 70 #[.val (.long p1), .second, .val (.int p2), .val (.int p3), .val (.int p4), .val (.long ((p1.toUInt64 >>> ((p2 &&& (63 : Int32)) &&& 0x3f).toInt64.toUInt64).toInt64)), .second, .val (.int (p3 &&& (7 : Int32))), .val (.int (p4.toInt8.toInt32)), .unset, .unset, .unset] [(.int (p4.toInt8.toInt32)), (.int (8 : Int32)), (.ref b2), (.ref b2)])) tg_ → Steps p.tables e below (s₁.setTop (entryFrame m #[(.long p1), (.int p2), (.int p3), (.int p4)] maxLocals)) tg_ := by
    intro tg_ kk_
    refine p_17 tg_ ?_
    refine st18 _ ?_
    show Steps p.tables e below (T18.setTop (mkF m 65 #[.val (.long p1), .second, .val (.int p2), .val (.int p3), .val (.int p4), .val (.long ((p1.toUInt64 >>> ((p2 &&& (63 : Int32)) &&& 0x3f).toInt64.toUInt64).toInt64)), .second, .val (.int (p3 &&& (7 : Int32))), .val (.int (p4.toInt8.toInt32)), .unset, .unset, .unset] [(.ref b2)])) _
    refine XS.dup X18.here hx rfl (hb hby at_65) rfl rfl ?_
    show Steps p.tables e below (T18.setTop (mkF m 66 #[.val (.long p1), .second, .val (.int p2), .val (.int p3), .val (.int p4), .val (.long ((p1.toUInt64 >>> ((p2 &&& (63 : Int32)) &&& 0x3f).toInt64.toUInt64).toInt64)), .second, .val (.int (p3 &&& (7 : Int32))), .val (.int (p4.toInt8.toInt32)), .unset, .unset, .unset] [(.ref b2), (.ref b2)])) _
    refine XS.bipush X18.here hx rfl (hb hby at_66) ?_
    show Steps p.tables e below (T18.setTop (mkF m 68 #[.val (.long p1), .second, .val (.int p2), .val (.int p3), .val (.int p4), .val (.long ((p1.toUInt64 >>> ((p2 &&& (63 : Int32)) &&& 0x3f).toInt64.toUInt64).toInt64)), .second, .val (.int (p3 &&& (7 : Int32))), .val (.int (p4.toInt8.toInt32)), .unset, .unset, .unset] [(.int (8 : Int32)), (.ref b2), (.ref b2)])) _
    refine XS.iload X18.here hx rfl (hb hby at_68) rfl ?_
    exact kk_
  obtain ⟨T20, h20, X20, e20, W20, F20, st20⟩ := own_bastore X18 hx hZ e18 F18 (j := (8 : Int32)) (by decide) (by decide) (g := (mkF m 70 #[.val (.long p1), .second, .val (.int p2), .val (.int p3), .val (.int p4), .val (.long ((p1.toUInt64 >>> ((p2 &&& (63 : Int32)) &&& 0x3f).toInt64.toUInt64).toInt64)), .second, .val (.int (p3 &&& (7 : Int32))), .val (.int (p4.toInt8.toInt32)), .unset, .unset, .unset] [(.int (p4.toInt8.toInt32)), (.int (8 : Int32)), (.ref b2), (.ref b2)])) rfl rfl (hb hby at_70)
  have N20 := Fr.snoc X20 N18 gb
  have Zs20 : n0 ≤ h20.size := by rw [W20.size]; exact Zs18
  have p_21 : ∀ tg_, Steps p.tables e below (T20.setTop (mkF m 76 #[.val (.long p1), .second, .val (.int p2), .val (.int p3), .val (.int p4), .val (.long ((p1.toUInt64 >>> ((p2 &&& (63 : Int32)) &&& 0x3f).toInt64.toUInt64).toInt64)), .second, .val (.int (p3 &&& (7 : Int32))), .val (.int (p4.toInt8.toInt32)), .unset, .unset, .unset] [(.int (p4.toInt8.toInt32)), (.int (9 : Int32)), (.ref b2), (.ref b2)])) tg_ → Steps p.tables e below (s₁.setTop (entryFrame m #[(.long p1), (.int p2), (.int p3), (.int p4)] maxLocals)) tg_ := by
    intro tg_ kk_
    refine p_19 tg_ ?_
    refine st20 _ ?_
    show Steps p.tables e below (T20.setTop (mkF m 71 #[.val (.long p1), .second, .val (.int p2), .val (.int p3), .val (.int p4), .val (.long ((p1.toUInt64 >>> ((p2 &&& (63 : Int32)) &&& 0x3f).toInt64.toUInt64).toInt64)), .second, .val (.int (p3 &&& (7 : Int32))), .val (.int (p4.toInt8.toInt32)), .unset, .unset, .unset] [(.ref b2)])) _
    refine XS.dup X20.here hx rfl (hb hby at_71) rfl rfl ?_
    show Steps p.tables e below (T20.setTop (mkF m 72 #[.val (.long p1), .second, .val (.int p2), .val (.int p3), .val (.int p4), .val (.long ((p1.toUInt64 >>> ((p2 &&& (63 : Int32)) &&& 0x3f).toInt64.toUInt64).toInt64)), .second, .val (.int (p3 &&& (7 : Int32))), .val (.int (p4.toInt8.toInt32)), .unset, .unset, .unset] [(.ref b2), (.ref b2)])) _
    refine XS.bipush X20.here hx rfl (hb hby at_72) ?_
    show Steps p.tables e below (T20.setTop (mkF m 74 #[.val (.long p1), .second, .val (.int p2), .val (.int p3), .val (.int p4), .val (.long ((p1.toUInt64 >>> ((p2 &&& (63 : Int32)) &&& 0x3f).toInt64.toUInt64).toInt64)), .second, .val (.int (p3 &&& (7 : Int32))), .val (.int (p4.toInt8.toInt32)), .unset, .unset, .unset] [(.int (9 : Int32)), (.ref b2), (.ref b2)])) _
    refine XS.iload X20.here hx rfl (hb hby at_74) rfl ?_
    exact kk_
  obtain ⟨T22, h22, X22, e22, W22, F22, st22⟩ := own_bastore X20 hx hZ e20 F20 (j := (9 : Int32)) (by decide) (by decide) (g := (mkF m 76 #[.val (.long p1), .second, .val (.int p2), .val (.int p3), .val (.int p4), .val (.long ((p1.toUInt64 >>> ((p2 &&& (63 : Int32)) &&& 0x3f).toInt64.toUInt64).toInt64)), .second, .val (.int (p3 &&& (7 : Int32))), .val (.int (p4.toInt8.toInt32)), .unset, .unset, .unset] [(.int (p4.toInt8.toInt32)), (.int (9 : Int32)), (.ref b2), (.ref b2)])) rfl rfl (hb hby at_76)
  have N22 := Fr.snoc X22 N20 gb
  have Zs22 : n0 ≤ h22.size := by rw [W22.size]; exact Zs20
  have p_23 : ∀ tg_, Steps p.tables e below (T22.setTop (mkF m 82 #[.val (.long p1), .second, .val (.int p2), .val (.int p3), .val (.int p4), .val (.long ((p1.toUInt64 >>> ((p2 &&& (63 : Int32)) &&& 0x3f).toInt64.toUInt64).toInt64)), .second, .val (.int (p3 &&& (7 : Int32))), .val (.int (p4.toInt8.toInt32)), .unset, .unset, .unset] [(.int (p4.toInt8.toInt32)), (.int (10 : Int32)), (.ref b2), (.ref b2)])) tg_ → Steps p.tables e below (s₁.setTop (entryFrame m #[(.long p1), (.int p2), (.int p3), (.int p4)] maxLocals)) tg_ := by
    intro tg_ kk_
    refine p_21 tg_ ?_
    refine st22 _ ?_
    show Steps p.tables e below (T22.setTop (mkF m 77 #[.val (.long p1), .second, .val (.int p2), .val (.int p3), .val (.int p4), .val (.long ((p1.toUInt64 >>> ((p2 &&& (63 : Int32)) &&& 0x3f).toInt64.toUInt64).toInt64)), .second, .val (.int (p3 &&& (7 : Int32))), .val (.int (p4.toInt8.toInt32)), .unset, .unset, .unset] [(.ref b2)])) _
    refine XS.dup X22.here hx rfl (hb hby at_77) rfl rfl ?_
    show Steps p.tables e below (T22.setTop (mkF m 78 #[.val (.long p1), .second, .val (.int p2), .val (.int p3), .val (.int p4), .val (.long ((p1.toUInt64 >>> ((p2 &&& (63 : Int32)) &&& 0x3f).toInt64.toUInt64).toInt64)), .second, .val (.int (p3 &&& (7 : Int32))), .val (.int (p4.toInt8.toInt32)), .unset, .unset, .unset] [(.ref b2), (.ref b2)])) _
    refine XS.bipush X22.here hx rfl (hb hby at_78) ?_
    show Steps p.tables e below (T22.setTop (mkF m 80 #[.val (.long p1), .second, .val (.int p2), .val (.int p3), .val (.int p4), .val (.long ((p1.toUInt64 >>> ((p2 &&& (63 : Int32)) &&& 0x3f).toInt64.toUInt64).toInt64)), .second, .val (.int (p3 &&& (7 : Int32))), .val (.int (p4.toInt8.toInt32)), .unset, .unset, .unset] [(.int (10 : Int32)), (.ref b2), (.ref b2)])) _
    refine XS.iload X22.here hx rfl (hb hby at_80) rfl ?_
    exact kk_
  obtain ⟨T24, h24, X24, e24, W24, F24, st24⟩ := own_bastore X22 hx hZ e22 F22 (j := (10 : Int32)) (by decide) (by decide) (g := (mkF m 82 #[.val (.long p1), .second, .val (.int p2), .val (.int p3), .val (.int p4), .val (.long ((p1.toUInt64 >>> ((p2 &&& (63 : Int32)) &&& 0x3f).toInt64.toUInt64).toInt64)), .second, .val (.int (p3 &&& (7 : Int32))), .val (.int (p4.toInt8.toInt32)), .unset, .unset, .unset] [(.int (p4.toInt8.toInt32)), (.int (10 : Int32)), (.ref b2), (.ref b2)])) rfl rfl (hb hby at_82)
  have N24 := Fr.snoc X24 N22 gb
  have Zs24 : n0 ≤ h24.size := by rw [W24.size]; exact Zs22
  have p_25 : ∀ tg_, Steps p.tables e below (T24.setTop (mkF m 88 #[.val (.long p1), .second, .val (.int p2), .val (.int p3), .val (.int p4), .val (.long ((p1.toUInt64 >>> ((p2 &&& (63 : Int32)) &&& 0x3f).toInt64.toUInt64).toInt64)), .second, .val (.int (p3 &&& (7 : Int32))), .val (.int (p4.toInt8.toInt32)), .unset, .unset, .unset] [(.int (p4.toInt8.toInt32)), (.int (11 : Int32)), (.ref b2), (.ref b2)])) tg_ → Steps p.tables e below (s₁.setTop (entryFrame m #[(.long p1), (.int p2), (.int p3), (.int p4)] maxLocals)) tg_ := by
    intro tg_ kk_
    refine p_23 tg_ ?_
    refine st24 _ ?_
    show Steps p.tables e below (T24.setTop (mkF m 83 #[.val (.long p1), .second, .val (.int p2), .val (.int p3), .val (.int p4), .val (.long ((p1.toUInt64 >>> ((p2 &&& (63 : Int32)) &&& 0x3f).toInt64.toUInt64).toInt64)), .second, .val (.int (p3 &&& (7 : Int32))), .val (.int (p4.toInt8.toInt32)), .unset, .unset, .unset] [(.ref b2)])) _
    refine XS.dup X24.here hx rfl (hb hby at_83) rfl rfl ?_
    show Steps p.tables e below (T24.setTop (mkF m 84 #[.val (.long p1), .second, .val (.int p2), .val (.int p3), .val (.int p4), .val (.long ((p1.toUInt64 >>> ((p2 &&& (63 : Int32)) &&& 0x3f).toInt64.toUInt64).toInt64)), .second, .val (.int (p3 &&& (7 : Int32))), .val (.int (p4.toInt8.toInt32)), .unset, .unset, .unset] [(.ref b2), (.ref b2)])) _
    refine XS.bipush X24.here hx rfl (hb hby at_84) ?_
    show Steps p.tables e below (T24.setTop (mkF m 86 #[.val (.long p1), .second, .val (.int p2), .val (.int p3), .val (.int p4), .val (.long ((p1.toUInt64 >>> ((p2 &&& (63 : Int32)) &&& 0x3f).toInt64.toUInt64).toInt64)), .second, .val (.int (p3 &&& (7 : Int32))), .val (.int (p4.toInt8.toInt32)), .unset, .unset, .unset] [(.int (11 : Int32)), (.ref b2), (.ref b2)])) _
    refine XS.iload X24.here hx rfl (hb hby at_86) rfl ?_
    exact kk_
  obtain ⟨T26, h26, X26, e26, W26, F26, st26⟩ := own_bastore X24 hx hZ e24 F24 (j := (11 : Int32)) (by decide) (by decide) (g := (mkF m 88 #[.val (.long p1), .second, .val (.int p2), .val (.int p3), .val (.int p4), .val (.long ((p1.toUInt64 >>> ((p2 &&& (63 : Int32)) &&& 0x3f).toInt64.toUInt64).toInt64)), .second, .val (.int (p3 &&& (7 : Int32))), .val (.int (p4.toInt8.toInt32)), .unset, .unset, .unset] [(.int (p4.toInt8.toInt32)), (.int (11 : Int32)), (.ref b2), (.ref b2)])) rfl rfl (hb hby at_88)
  have N26 := Fr.snoc X26 N24 gb
  have Zs26 : n0 ≤ h26.size := by rw [W26.size]; exact Zs24
  have p_27 : ∀ tg_, Steps p.tables e below (T26.setTop (mkF m 94 #[.val (.long p1), .second, .val (.int p2), .val (.int p3), .val (.int p4), .val (.long ((p1.toUInt64 >>> ((p2 &&& (63 : Int32)) &&& 0x3f).toInt64.toUInt64).toInt64)), .second, .val (.int (p3 &&& (7 : Int32))), .val (.int (p4.toInt8.toInt32)), .unset, .unset, .unset] [(.int (p4.toInt8.toInt32)), (.int (12 : Int32)), (.ref b2), (.ref b2)])) tg_ → Steps p.tables e below (s₁.setTop (entryFrame m #[(.long p1), (.int p2), (.int p3), (.int p4)] maxLocals)) tg_ := by
    intro tg_ kk_
    refine p_25 tg_ ?_
    refine st26 _ ?_
    show Steps p.tables e below (T26.setTop (mkF m 89 #[.val (.long p1), .second, .val (.int p2), .val (.int p3), .val (.int p4), .val (.long ((p1.toUInt64 >>> ((p2 &&& (63 : Int32)) &&& 0x3f).toInt64.toUInt64).toInt64)), .second, .val (.int (p3 &&& (7 : Int32))), .val (.int (p4.toInt8.toInt32)), .unset, .unset, .unset] [(.ref b2)])) _
    refine XS.dup X26.here hx rfl (hb hby at_89) rfl rfl ?_
    show Steps p.tables e below (T26.setTop (mkF m 90 #[.val (.long p1), .second, .val (.int p2), .val (.int p3), .val (.int p4), .val (.long ((p1.toUInt64 >>> ((p2 &&& (63 : Int32)) &&& 0x3f).toInt64.toUInt64).toInt64)), .second, .val (.int (p3 &&& (7 : Int32))), .val (.int (p4.toInt8.toInt32)), .unset, .unset, .unset] [(.ref b2), (.ref b2)])) _
    refine XS.bipush X26.here hx rfl (hb hby at_90) ?_
    show Steps p.tables e below (T26.setTop (mkF m 92 #[.val (.long p1), .second, .val (.int p2), .val (.int p3), .val (.int p4), .val (.long ((p1.toUInt64 >>> ((p2 &&& (63 : Int32)) &&& 0x3f).toInt64.toUInt64).toInt64)), .second, .val (.int (p3 &&& (7 : Int32))), .val (.int (p4.toInt8.toInt32)), .unset, .unset, .unset] [(.int (12 : Int32)), (.ref b2), (.ref b2)])) _
    refine XS.iload X26.here hx rfl (hb hby at_92) rfl ?_
    exact kk_
  obtain ⟨T28, h28, X28, e28, W28, F28, st28⟩ := own_bastore X26 hx hZ e26 F26 (j := (12 : Int32)) (by decide) (by decide) (g := (mkF m 94 #[.val (.long p1), .second, .val (.int p2), .val (.int p3), .val (.int p4), .val (.long ((p1.toUInt64 >>> ((p2 &&& (63 : Int32)) &&& 0x3f).toInt64.toUInt64).toInt64)), .second, .val (.int (p3 &&& (7 : Int32))), .val (.int (p4.toInt8.toInt32)), .unset, .unset, .unset] [(.int (p4.toInt8.toInt32)), (.int (12 : Int32)), (.ref b2), (.ref b2)])) rfl rfl (hb hby at_94)
  have N28 := Fr.snoc X28 N26 gb
  have Zs28 : n0 ≤ h28.size := by rw [W28.size]; exact Zs26
  have p_29 : ∀ tg_, Steps p.tables e below (T28.setTop (mkF m 100 #[.val (.long p1), .second, .val (.int p2), .val (.int p3), .val (.int p4), .val (.long ((p1.toUInt64 >>> ((p2 &&& (63 : Int32)) &&& 0x3f).toInt64.toUInt64).toInt64)), .second, .val (.int (p3 &&& (7 : Int32))), .val (.int (p4.toInt8.toInt32)), .unset, .unset, .unset] [(.int (p4.toInt8.toInt32)), (.int (13 : Int32)), (.ref b2), (.ref b2)])) tg_ → Steps p.tables e below (s₁.setTop (entryFrame m #[(.long p1), (.int p2), (.int p3), (.int p4)] maxLocals)) tg_ := by
    intro tg_ kk_
    refine p_27 tg_ ?_
    refine st28 _ ?_
    show Steps p.tables e below (T28.setTop (mkF m 95 #[.val (.long p1), .second, .val (.int p2), .val (.int p3), .val (.int p4), .val (.long ((p1.toUInt64 >>> ((p2 &&& (63 : Int32)) &&& 0x3f).toInt64.toUInt64).toInt64)), .second, .val (.int (p3 &&& (7 : Int32))), .val (.int (p4.toInt8.toInt32)), .unset, .unset, .unset] [(.ref b2)])) _
    refine XS.dup X28.here hx rfl (hb hby at_95) rfl rfl ?_
    show Steps p.tables e below (T28.setTop (mkF m 96 #[.val (.long p1), .second, .val (.int p2), .val (.int p3), .val (.int p4), .val (.long ((p1.toUInt64 >>> ((p2 &&& (63 : Int32)) &&& 0x3f).toInt64.toUInt64).toInt64)), .second, .val (.int (p3 &&& (7 : Int32))), .val (.int (p4.toInt8.toInt32)), .unset, .unset, .unset] [(.ref b2), (.ref b2)])) _
    refine XS.bipush X28.here hx rfl (hb hby at_96) ?_
    show Steps p.tables e below (T28.setTop (mkF m 98 #[.val (.long p1), .second, .val (.int p2), .val (.int p3), .val (.int p4), .val (.long ((p1.toUInt64 >>> ((p2 &&& (63 : Int32)) &&& 0x3f).toInt64.toUInt64).toInt64)), .second, .val (.int (p3 &&& (7 : Int32))), .val (.int (p4.toInt8.toInt32)), .unset, .unset, .unset] [(.int (13 : Int32)), (.ref b2), (.ref b2)])) _
    refine XS.iload X28.here hx rfl (hb hby at_98) rfl ?_
    exact kk_
  obtain ⟨T30, h30, X30, e30, W30, F30, st30⟩ := own_bastore X28 hx hZ e28 F28 (j := (13 : Int32)) (by decide) (by decide) (g := (mkF m 100 #[.val (.long p1), .second, .val (.int p2), .val (.int p3), .val (.int p4), .val (.long ((p1.toUInt64 >>> ((p2 &&& (63 : Int32)) &&& 0x3f).toInt64.toUInt64).toInt64)), .second, .val (.int (p3 &&& (7 : Int32))), .val (.int (p4.toInt8.toInt32)), .unset, .unset, .unset] [(.int (p4.toInt8.toInt32)), (.int (13 : Int32)), (.ref b2), (.ref b2)])) rfl rfl (hb hby at_100)
  have N30 := Fr.snoc X30 N28 gb
  have Zs30 : n0 ≤ h30.size := by rw [W30.size]; exact Zs28
  have p_31 : ∀ tg_, Steps p.tables e below (T30.setTop (mkF m 106 #[.val (.long p1), .second, .val (.int p2), .val (.int p3), .val (.int p4), .val (.long ((p1.toUInt64 >>> ((p2 &&& (63 : Int32)) &&& 0x3f).toInt64.toUInt64).toInt64)), .second, .val (.int (p3 &&& (7 : Int32))), .val (.int (p4.toInt8.toInt32)), .unset, .unset, .unset] [(.int (p4.toInt8.toInt32)), (.int (14 : Int32)), (.ref b2), (.ref b2)])) tg_ → Steps p.tables e below (s₁.setTop (entryFrame m #[(.long p1), (.int p2), (.int p3), (.int p4)] maxLocals)) tg_ := by
    intro tg_ kk_
    refine p_29 tg_ ?_
    refine st30 _ ?_
    show Steps p.tables e below (T30.setTop (mkF m 101 #[.val (.long p1), .second, .val (.int p2), .val (.int p3), .val (.int p4), .val (.long ((p1.toUInt64 >>> ((p2 &&& (63 : Int32)) &&& 0x3f).toInt64.toUInt64).toInt64)), .second, .val (.int (p3 &&& (7 : Int32))), .val (.int (p4.toInt8.toInt32)), .unset, .unset, .unset] [(.ref b2)])) _
    refine XS.dup X30.here hx rfl (hb hby at_101) rfl rfl ?_
    show Steps p.tables e below (T30.setTop (mkF m 102 #[.val (.long p1), .second, .val (.int p2), .val (.int p3), .val (.int p4), .val (.long ((p1.toUInt64 >>> ((p2 &&& (63 : Int32)) &&& 0x3f).toInt64.toUInt64).toInt64)), .second, .val (.int (p3 &&& (7 : Int32))), .val (.int (p4.toInt8.toInt32)), .unset, .unset, .unset] [(.ref b2), (.ref b2)])) _
    refine XS.bipush X30.here hx rfl (hb hby at_102) ?_
    show Steps p.tables e below (T30.setTop (mkF m 104 #[.val (.long p1), .second, .val (.int p2), .val (.int p3), .val (.int p4), .val (.long ((p1.toUInt64 >>> ((p2 &&& (63 : Int32)) &&& 0x3f).toInt64.toUInt64).toInt64)), .second, .val (.int (p3 &&& (7 : Int32))), .val (.int (p4.toInt8.toInt32)), .unset, .unset, .unset] [(.int (14 : Int32)), (.ref b2), (.ref b2)])) _
    refine XS.iload X30.here hx rfl (hb hby at_104) rfl ?_
    exact kk_
  obtain ⟨T32, h32, X32, e32, W32, F32, st32⟩ := own_bastore X30 hx hZ e30 F30 (j := (14 : Int32)) (by decide) (by decide) (g := (mkF m 106 #[.val (.long p1), .second, .val (.int p2), .val (.int p3), .val (.int p4), .val (.long ((p1.toUInt64 >>> ((p2 &&& (63 : Int32)) &&& 0x3f).toInt64.toUInt64).toInt64)), .second, .val (.int (p3 &&& (7 : Int32))), .val (.int (p4.toInt8.toInt32)), .unset, .unset, .unset] [(.int (p4.toInt8.toInt32)), (.int (14 : Int32)), (.ref b2), (.ref b2)])) rfl rfl (hb hby at_106)
  have N32 := Fr.snoc X32 N30 gb
  have Zs32 : n0 ≤ h32.size := by rw [W32.size]; exact Zs30
  have p_33 : ∀ tg_, Steps p.tables e below (T32.setTop (mkF m 112 #[.val (.long p1), .second, .val (.int p2), .val (.int p3), .val (.int p4), .val (.long ((p1.toUInt64 >>> ((p2 &&& (63 : Int32)) &&& 0x3f).toInt64.toUInt64).toInt64)), .second, .val (.int (p3 &&& (7 : Int32))), .val (.int (p4.toInt8.toInt32)), .unset, .unset, .unset] [(.int (p4.toInt8.toInt32)), (.int (15 : Int32)), (.ref b2), (.ref b2)])) tg_ → Steps p.tables e below (s₁.setTop (entryFrame m #[(.long p1), (.int p2), (.int p3), (.int p4)] maxLocals)) tg_ := by
    intro tg_ kk_
    refine p_31 tg_ ?_
    refine st32 _ ?_
    show Steps p.tables e below (T32.setTop (mkF m 107 #[.val (.long p1), .second, .val (.int p2), .val (.int p3), .val (.int p4), .val (.long ((p1.toUInt64 >>> ((p2 &&& (63 : Int32)) &&& 0x3f).toInt64.toUInt64).toInt64)), .second, .val (.int (p3 &&& (7 : Int32))), .val (.int (p4.toInt8.toInt32)), .unset, .unset, .unset] [(.ref b2)])) _
    refine XS.dup X32.here hx rfl (hb hby at_107) rfl rfl ?_
    show Steps p.tables e below (T32.setTop (mkF m 108 #[.val (.long p1), .second, .val (.int p2), .val (.int p3), .val (.int p4), .val (.long ((p1.toUInt64 >>> ((p2 &&& (63 : Int32)) &&& 0x3f).toInt64.toUInt64).toInt64)), .second, .val (.int (p3 &&& (7 : Int32))), .val (.int (p4.toInt8.toInt32)), .unset, .unset, .unset] [(.ref b2), (.ref b2)])) _
    refine XS.bipush X32.here hx rfl (hb hby at_108) ?_
    show Steps p.tables e below (T32.setTop (mkF m 110 #[.val (.long p1), .second, .val (.int p2), .val (.int p3), .val (.int p4), .val (.long ((p1.toUInt64 >>> ((p2 &&& (63 : Int32)) &&& 0x3f).toInt64.toUInt64).toInt64)), .second, .val (.int (p3 &&& (7 : Int32))), .val (.int (p4.toInt8.toInt32)), .unset, .unset, .unset] [(.int (15 : Int32)), (.ref b2), (.ref b2)])) _
    refine XS.iload X32.here hx rfl (hb hby at_110) rfl ?_
    exact kk_
  obtain ⟨T34, h34, X34, e34, W34, F34, st34⟩ := own_bastore X32 hx hZ e32 F32 (j := (15 : Int32)) (by decide) (by decide) (g := (mkF m 112 #[.val (.long p1), .second, .val (.int p2), .val (.int p3), .val (.int p4), .val (.long ((p1.toUInt64 >>> ((p2 &&& (63 : Int32)) &&& 0x3f).toInt64.toUInt64).toInt64)), .second, .val (.int (p3 &&& (7 : Int32))), .val (.int (p4.toInt8.toInt32)), .unset, .unset, .unset] [(.int (p4.toInt8.toInt32)), (.int (15 : Int32)), (.ref b2), (.ref b2)])) rfl rfl (hb hby at_112)
  have N34 := Fr.snoc X34 N32 gb
  have Zs34 : n0 ≤ h34.size := by rw [W34.size]; exact Zs32
  have p_35 : ∀ tg_, Steps p.tables e below (T34.setTop (mkF m 118 #[.val (.long p1), .second, .val (.int p2), .val (.int p3), .val (.int p4), .val (.long ((p1.toUInt64 >>> ((p2 &&& (63 : Int32)) &&& 0x3f).toInt64.toUInt64).toInt64)), .second, .val (.int (p3 &&& (7 : Int32))), .val (.int (p4.toInt8.toInt32)), .unset, .unset, .unset] [(.int (p4.toInt8.toInt32)), (.int (16 : Int32)), (.ref b2), (.ref b2)])) tg_ → Steps p.tables e below (s₁.setTop (entryFrame m #[(.long p1), (.int p2), (.int p3), (.int p4)] maxLocals)) tg_ := by
    intro tg_ kk_
    refine p_33 tg_ ?_
    refine st34 _ ?_
    show Steps p.tables e below (T34.setTop (mkF m 113 #[.val (.long p1), .second, .val (.int p2), .val (.int p3), .val (.int p4), .val (.long ((p1.toUInt64 >>> ((p2 &&& (63 : Int32)) &&& 0x3f).toInt64.toUInt64).toInt64)), .second, .val (.int (p3 &&& (7 : Int32))), .val (.int (p4.toInt8.toInt32)), .unset, .unset, .unset] [(.ref b2)])) _
    refine XS.dup X34.here hx rfl (hb hby at_113) rfl rfl ?_
    show Steps p.tables e below (T34.setTop (mkF m 114 #[.val (.long p1), .second, .val (.int p2), .val (.int p3), .val (.int p4), .val (.long ((p1.toUInt64 >>> ((p2 &&& (63 : Int32)) &&& 0x3f).toInt64.toUInt64).toInt64)), .second, .val (.int (p3 &&& (7 : Int32))), .val (.int (p4.toInt8.toInt32)), .unset, .unset, .unset] [(.ref b2), (.ref b2)])) _
    refine XS.bipush X34.here hx rfl (hb hby at_114) ?_
    show Steps p.tables e below (T34.setTop (mkF m 116 #[.val (.long p1), .second, .val (.int p2), .val (.int p3), .val (.int p4), .val (.long ((p1.toUInt64 >>> ((p2 &&& (63 : Int32)) &&& 0x3f).toInt64.toUInt64).toInt64)), .second, .val (.int (p3 &&& (7 : Int32))), .val (.int (p4.toInt8.toInt32)), .unset, .unset, .unset] [(.int (16 : Int32)), (.ref b2), (.ref b2)])) _
    refine XS.iload X34.here hx rfl (hb hby at_116) rfl ?_
    exact kk_
  obtain ⟨T36, h36, X36, e36, W36, F36, st36⟩ := own_bastore X34 hx hZ e34 F34 (j := (16 : Int32)) (by decide) (by decide) (g := (mkF m 118 #[.val (.long p1), .second, .val (.int p2), .val (.int p3), .val (.int p4), .val (.long ((p1.toUInt64 >>> ((p2 &&& (63 : Int32)) &&& 0x3f).toInt64.toUInt64).toInt64)), .second, .val (.int (p3 &&& (7 : Int32))), .val (.int (p4.toInt8.toInt32)), .unset, .unset, .unset] [(.int (p4.toInt8.toInt32)), (.int (16 : Int32)), (.ref b2), (.ref b2)])) rfl rfl (hb hby at_118)
  have N36 := Fr.snoc X36 N34 gb
  have Zs36 : n0 ≤ h36.size := by rw [W36.size]; exact Zs34
  have p_37 : ∀ tg_, Steps p.tables e below (T36.setTop (mkF m 124 #[.val (.long p1), .second, .val (.int p2), .val (.int p3), .val (.int p4), .val (.long ((p1.toUInt64 >>> ((p2 &&& (63 : Int32)) &&& 0x3f).toInt64.toUInt64).toInt64)), .second, .val (.int (p3 &&& (7 : Int32))), .val (.int (p4.toInt8.toInt32)), .unset, .unset, .unset] [(.int (p4.toInt8.toInt32)), (.int (17 : Int32)), (.ref b2), (.ref b2)])) tg_ → Steps p.tables e below (s₁.setTop (entryFrame m #[(.long p1), (.int p2), (.int p3), (.int p4)] maxLocals)) tg_ := by
    intro tg_ kk_
    refine p_35 tg_ ?_
    refine st36 _ ?_
    show Steps p.tables e below (T36.setTop (mkF m 119 #[.val (.long p1), .second, .val (.int p2), .val (.int p3), .val (.int p4), .val (.long ((p1.toUInt64 >>> ((p2 &&& (63 : Int32)) &&& 0x3f).toInt64.toUInt64).toInt64)), .second, .val (.int (p3 &&& (7 : Int32))), .val (.int (p4.toInt8.toInt32)), .unset, .unset, .unset] [(.ref b2)])) _
    refine XS.dup X36.here hx rfl (hb hby at_119) rfl rfl ?_
    show Steps p.tables e below (T36.setTop (mkF m 120 #[.val (.long p1), .second, .val (.int p2), .val (.int p3), .val (.int p4), .val (.long ((p1.toUInt64 >>> ((p2 &&& (63 : Int32)) &&& 0x3f).toInt64.toUInt64).toInt64)), .second, .val (.int (p3 &&& (7 : Int32))), .val (.int (p4.toInt8.toInt32)), .unset, .unset, .unset] [(.ref b2), (.ref b2)])) _
    refine XS.bipush X36.here hx rfl (hb hby at_120) ?_
    show Steps p.tables e below (T36.setTop (mkF m 122 #[.val (.long p1), .second, .val (.int p2), .val (.int p3), .val (.int p4), .val (.long ((p1.toUInt64 >>> ((p2 &&& (63 : Int32)) &&& 0x3f).toInt64.toUInt64).toInt64)), .second, .val (.int (p3 &&& (7 : Int32))), .val (.int (p4.toInt8.toInt32)), .unset, .unset, .unset] [(.int (17 : Int32)), (.ref b2), (.ref b2)])) _
    refine XS.iload X36.here hx rfl (hb hby at_122) rfl ?_
    exact kk_
  obtain ⟨T38, h38, X38, e38, W38, F38, st38⟩ := own_bastore X36 hx hZ e36 F36 (j := (17 : Int32)) (by decide) (by decide) (g := (mkF m 124 #[.val (.long p1), .second, .val (.int p2), .val (.int p3), .val (.int p4), .val (.long ((p1.toUInt64 >>> ((p2 &&& (63 : Int32)) &&& 0x3f).toInt64.toUInt64).toInt64)), .second, .val (.int (p3 &&& (7 : Int32))), .val (.int (p4.toInt8.toInt32)), .unset, .unset, .unset] [(.int (p4.toInt8.toInt32)), (.int (17 : Int32)), (.ref b2), (.ref b2)])) rfl rfl (hb hby at_124)
  have N38 := Fr.snoc X38 N36 gb
  have Zs38 : n0 ≤ h38.size := by rw [W38.size]; exact Zs36
  have p_39 : ∀ tg_, Steps p.tables e below (T38.setTop (mkF m 125 #[.val (.long p1), .second, .val (.int p2), .val (.int p3), .val (.int p4), .val (.long ((p1.toUInt64 >>> ((p2 &&& (63 : Int32)) &&& 0x3f).toInt64.toUInt64).toInt64)), .second, .val (.int (p3 &&& (7 : Int32))), .val (.int (p4.toInt8.toInt32)), .unset, .unset, .unset] [(.ref b2)])) tg_ → Steps p.tables e below (s₁.setTop (entryFrame m #[(.long p1), (.int p2), (.int p3), (.int p4)] maxLocals)) tg_ := by
    intro tg_ kk_
    refine p_37 tg_ ?_
    refine st38 _ ?_
    exact kk_
  obtain ⟨ff, FF⟩ : ∃ ff, OAf Z h38 b2 .byte 18 ff := ⟨_, F38⟩
  have hst : 0 ≤ (p3 &&& (7 : Int32)).toInt ∧ (p3 &&& (7 : Int32)).toInt ≤ 7 := c_and p3 (7 : Int32) (by decide)
  have p_40 : ∀ tg_, Steps p.tables e below (T38.setTop (mkF m 133 #[.val (.long p1), .second, .val (.int p2), .val (.int p3), .val (.int p4), .val (.long ((p1.toUInt64 >>> ((p2 &&& (63 : Int32)) &&& 0x3f).toInt64.toUInt64).toInt64)), .second, .val (.int (p3 &&& (7 : Int32))), .val (.int (p4.toInt8.toInt32)), .val (.ref b2), .unset, .unset] [(.int (p3 &&& (7 : Int32))), (.ref b2), (.long ((p1.toUInt64 >>> ((p2 &&& (63 : Int32)) &&& 0x3f).toInt64.toUInt64).toInt64))])) tg_ → Steps p.tables e below (s₁.setTop (entryFrame m #[(.long p1), (.int p2), (.int p3), (.int p4)] maxLocals)) tg_ := by
    intro tg_ kk_
    refine p_39 tg_ ?_
    show Steps p.tables e below (T38.setTop (mkF m 125 #[.val (.long p1), .second, .val (.int p2), .val (.int p3), .val (.int p4), .val (.long ((p1.toUInt64 >>> ((p2 &&& (63 : Int32)) &&& 0x3f).toInt64.toUInt64).toInt64)), .second, .val (.int (p3 &&& (7 : Int32))), .val (.int (p4.toInt8.toInt32)), .unset, .unset, .unset] [(.ref b2)])) _
    refine XS.astore X38.here hx rfl (hb hby at_125) rfl rfl (l' := #[.val (.long p1), .second, .val (.int p2), .val (.int p3), .val (.int p4), .val (.long ((p1.toUInt64 >>> ((p2 &&& (63 : Int32)) &&& 0x3f).toInt64.toUInt64).toInt64)), .second, .val (.int (p3 &&& (7 : Int32))), .val (.int (p4.toInt8.toInt32)), .val (.ref b2), .unset, .unset]) rfl ?_
    show Steps p.tables e below (T38.setTop (mkF m 127 #[.val (.long p1), .second, .val (.int p2), .val (.int p3), .val (.int p4), .val (.long ((p1.toUInt64 >>> ((p2 &&& (63 : Int32)) &&& 0x3f).toInt64.toUInt64).toInt64)), .second, .val (.int (p3 &&& (7 : Int32))), .val (.int (p4.toInt8.toInt32)), .val (.ref b2), .unset, .unset] [])) _
    refine XS.lload X38.here hx rfl (hb hby at_127) rfl ?_
    show Steps p.tables e below (T38.setTop (mkF m 129 #[.val (.long p1), .second, .val (.int p2), .val (.int p3), .val (.int p4), .val (.long ((p1.toUInt64 >>> ((p2 &&& (63 : Int32)) &&& 0x3f).toInt64.toUInt64).toInt64)), .second, .val (.int (p3 &&& (7 : Int32))), .val (.int (p4.toInt8.toInt32)), .val (.ref b2), .unset, .unset] [(.long ((p1.toUInt64 >>> ((p2 &&& (63 : Int32)) &&& 0x3f).toInt64.toUInt64).toInt64))])) _
    refine XS.aload X38.here hx rfl (hb hby at_129) rfl rfl ?_
    show Steps p.tables e below (T38.setTop (mkF m 131 #[.val (.long p1), .second, .val (.int p2), .val (.int p3), .val (.int p4), .val (.long ((p1.toUInt64 >>> ((p2 &&& (63 : Int32)) &&& 0x3f).toInt64.toUInt64).toInt64)), .second, .val (.int (p3 &&& (7 : Int32))), .val (.int (p4.toInt8.toInt32)), .val (.ref b2), .unset, .unset] [(.ref b2), (.long ((p1.toUInt64 >>> ((p2 &&& (63 : Int32)) &&& 0x3f).toInt64.toUInt64).toInt64))])) _
    refine XS.iload X38.here hx rfl (hb hby at_131) rfl ?_
    exact kk_
  obtain ⟨_, _, ⟨T41, L41, k41, n41⟩, -, X41, ⟨Lc41, hQ41, l41, y41, z41⟩, st41⟩ := Jvm.LawKit.callS X38 hx (y := (⟨"com/example/fenceline/fenceline/util/PackedValues", "pack", "(J[BI)I"⟩ : MethodName)) hown (mvT hZ (hw _ (List.mem_of_getElem? (i := 1) rfl))) (mvT hZ (hw _ (List.mem_of_getElem? (i := 2) rfl))) (mvT hZ (hw _ (List.mem_of_getElem? (i := 3) rfl))) (mvT hZ (hw _ (List.mem_of_getElem? (i := 4) rfl))) (by decide) (backOf (W := 0) (rm_pack l Z a0 hw [] ((p1.toUInt64 >>> ((p2 &&& (63 : Int32)) &&& 0x3f).toInt64.toUInt64).toInt64) b2 (p3 &&& (7 : Int32)) ff h38 n0 Zs38 FF gb hst.1 hst.2) hZ (hw _ (List.mem_of_getElem? (i := 4) rfl)) (hw _ (List.mem_of_getElem? (i := 3) rfl)) (by decide) (by decide)) (g := (mkF m 133 #[.val (.long p1), .second, .val (.int p2), .val (.int p3), .val (.int p4), .val (.long ((p1.toUInt64 >>> ((p2 &&& (63 : Int32)) &&& 0x3f).toInt64.toUInt64).toInt64)), .second, .val (.int (p3 &&& (7 : Int32))), .val (.int (p4.toInt8.toInt32)), .val (.ref b2), .unset, .unset] [(.int (p3 &&& (7 : Int32))), (.ref b2), (.long ((p1.toUInt64 >>> ((p2 &&& (63 : Int32)) &&& 0x3f).toInt64.toUInt64).toInt64))])) rfl (by rw [hml]; rfl) (argsL := [(.long ((p1.toUInt64 >>> ((p2 &&& (63 : Int32)) &&& 0x3f).toInt64.toUInt64).toInt64)), (.ref b2), (.int (p3 &&& (7 : Int32)))]) (rest := []) (lenOf pd_law_0 rfl) rfl (by show 2 * 0 + _ ≤ _; exact Nat.le_of_eq rfl) (hb hby at_133) (fun _ _ => ⟨rfl, e38, (by decide : 1 + 0 ≤ _), (by decide : 18 + 0 ≤ _)⟩)
  dsimp only [Pt.U, Pt.locs, Pt.cells, Pt.slots] at X41 l41 y41 z41 st41 hQ41
  subst l41 y41 z41
  obtain ⟨⟨zr, rfl⟩, N41q, hs41, f2, F2, hE⟩ := hQ41
  have N41 := Fr.app N38 N41q
  have p_42 : ∀ tg_, Steps p.tables e below (T41.setTop (mkF m 141 #[.val (.long p1), .second, .val (.int p2), .val (.int p3), .val (.int p4), .val (.long ((p1.toUInt64 >>> ((p2 &&& (63 : Int32)) &&& 0x3f).toInt64.toUInt64).toInt64)), .second, .val (.int (p3 &&& (7 : Int32))), .val (.int (p4.toInt8.toInt32)), .val (.ref b2), .unset, .unset] [(.int (p3 &&& (7 : Int32))), (.ref b2)])) tg_ → Steps p.tables e below (s₁.setTop (entryFrame m #[(.long p1), (.int p2), (.int p3), (.int p4)] maxLocals)) tg_ := by
    intro tg_ kk_
    refine p_40 tg_ ?_
    refine st41 _ ?_
    show Steps p.tables e below (T41.setTop (mkF m 136 #[.val (.long p1), .second, .val (.int p2), .val (.int p3), .val (.int p4), .val (.long ((p1.toUInt64 >>> ((p2 &&& (63 : Int32)) &&& 0x3f).toInt64.toUInt64).toInt64)), .second, .val (.int (p3 &&& (7 : Int32))), .val (.int (p4.toInt8.toInt32)), .val (.ref b2), .unset, .unset] [(.int zr)])) _
    refine XS.pop X41.here hx rfl (hb hby at_136) rfl rfl ?_
    show Steps p.tables e below (T41.setTop (mkF m 137 #[.val (.long p1), .second, .val (.int p2), .val (.int p3), .val (.int p4), .val (.long ((p1.toUInt64 >>> ((p2 &&& (63 : Int32)) &&& 0x3f).toInt64.toUInt64).toInt64)), .second, .val (.int (p3 &&& (7 : Int32))), .val (.int (p4.toInt8.toInt32)), .val (.ref b2), .unset, .unset] [])) _
    refine XS.aload X41.here hx rfl (hb hby at_137) rfl rfl ?_
    show Steps p.tables e below (T41.setTop (mkF m 139 #[.val (.long p1), .second, .val (.int p2), .val (.int p3), .val (.int p4), .val (.long ((p1.toUInt64 >>> ((p2 &&& (63 : Int32)) &&& 0x3f).toInt64.toUInt64).toInt64)), .second, .val (.int (p3 &&& (7 : Int32))), .val (.int (p4.toInt8.toInt32)), .val (.ref b2), .unset, .unset] [(.ref b2)])) _
    refine XS.iload X41.here hx rfl (hb hby at_139) rfl ?_
    exact kk_
  have Zc : n0 ≤ T41.heap.size := by rw [hs41]; exact Zs38
  obtain ⟨_, _, ⟨T43, L43, k43, n43⟩, -, X43, ⟨Lc43, hQ43, l43, y43, z43⟩, st43⟩ := Jvm.LawKit.callS X41 hx (y := (⟨"com/example/fenceline/fenceline/util/PackedValues", "unpack", "([BI)J"⟩ : MethodName)) hown (mvT hZ (hw _ (List.mem_of_getElem? (i := 6) rfl))) (mvT hZ (hw _ (List.mem_of_getElem? (i := 7) rfl))) (mvT hZ (hw _ (List.mem_of_getElem? (i := 3) rfl))) (mvT hZ (hw _ (List.mem_of_getElem? (i := 8) rfl))) (by decide) (backOf (W := 0) (rm_unp l Z a0 hw [] b2 (p3 &&& (7 : Int32)) f2 ((p1.toUInt64 >>> ((p2 &&& (63 : Int32)) &&& 0x3f).toInt64.toUInt64).toInt64) T41.heap n0 Zc F2 hst.1 hst.2 hE) hZ (hw _ (List.mem_of_getElem? (i := 8) rfl)) (hw _ (List.mem_of_getElem? (i := 3) rfl)) (by decide) (by decide)) (g := (mkF m 141 #[.val (.long p1), .second, .val (.int p2), .val (.int p3), .val (.int p4), .val (.long ((p1.toUInt64 >>> ((p2 &&& (63 : Int32)) &&& 0x3f).toInt64.toUInt64).toInt64)), .second, .val (.int (p3 &&& (7 : Int32))), .val (.int (p4.toInt8.toInt32)), .val (.ref b2), .unset, .unset] [(.int (p3 &&& (7 : Int32))), (.ref b2)])) rfl (by rw [hml]; rfl) (argsL := [(.ref b2), (.int (p3 &&& (7 : Int32)))]) (rest := []) (lenOf pd_law_1 rfl) rfl (by show 2 * 0 + _ ≤ _; exact Nat.le_of_eq rfl) (hb hby at_141) (fun _ _ => ⟨rfl, rfl, (by decide : 1 + 0 ≤ _), (by decide : 18 + 0 ≤ _)⟩)
  dsimp only [Pt.U, Pt.locs, Pt.cells, Pt.slots] at X43 l43 y43 z43 st43 hQ43
  subst l43 y43 z43
  obtain ⟨rfl, N43q, hh43⟩ := hQ43
  have N43 := Fr.app N41 N43q
  have p_44 : ∀ tg_, Steps p.tables e below (T43.setTop (mkF m 159 #[.val (.long p1), .second, .val (.int p2), .val (.int p3), .val (.int p4), .val (.long ((p1.toUInt64 >>> ((p2 &&& (63 : Int32)) &&& 0x3f).toInt64.toUInt64).toInt64)), .second, .val (.int (p3 &&& (7 : Int32))), .val (.int (p4.toInt8.toInt32)), .val (.ref b2), .val (.long ((p1.toUInt64 >>> ((p2 &&& (63 : Int32)) &&& 0x3f).toInt64.toUInt64).toInt64)), .second] [(.int (1 : Int32))])) tg_ → Steps p.tables e below (s₁.setTop (entryFrame m #[(.long p1), (.int p2), (.int p3), (.int p4)] maxLocals)) tg_ := by
    intro tg_ kk_
    refine p_42 tg_ ?_
    refine st43 _ ?_
    show Steps p.tables e below (T43.setTop (mkF m 144 #[.val (.long p1), .second, .val (.int p2), .val (.int p3), .val (.int p4), .val (.long ((p1.toUInt64 >>> ((p2 &&& (63 : Int32)) &&& 0x3f).toInt64.toUInt64).toInt64)), .second, .val (.int (p3 &&& (7 : Int32))), .val (.int (p4.toInt8.toInt32)), .val (.ref b2), .unset, .unset] [(.long ((p1.toUInt64 >>> ((p2 &&& (63 : Int32)) &&& 0x3f).toInt64.toUInt64).toInt64))])) _
    refine XS.lstore X43.here hx rfl (hb hby at_144) rfl (l' := #[.val (.long p1), .second, .val (.int p2), .val (.int p3), .val (.int p4), .val (.long ((p1.toUInt64 >>> ((p2 &&& (63 : Int32)) &&& 0x3f).toInt64.toUInt64).toInt64)), .second, .val (.int (p3 &&& (7 : Int32))), .val (.int (p4.toInt8.toInt32)), .val (.ref b2), .val (.long ((p1.toUInt64 >>> ((p2 &&& (63 : Int32)) &&& 0x3f).toInt64.toUInt64).toInt64)), .second]) rfl ?_
    show Steps p.tables e below (T43.setTop (mkF m 146 #[.val (.long p1), .second, .val (.int p2), .val (.int p3), .val (.int p4), .val (.long ((p1.toUInt64 >>> ((p2 &&& (63 : Int32)) &&& 0x3f).toInt64.toUInt64).toInt64)), .second, .val (.int (p3 &&& (7 : Int32))), .val (.int (p4.toInt8.toInt32)), .val (.ref b2), .val (.long ((p1.toUInt64 >>> ((p2 &&& (63 : Int32)) &&& 0x3f).toInt64.toUInt64).toInt64)), .second] [])) _
    refine XS.lload X43.here hx rfl (hb hby at_146) rfl ?_
    show Steps p.tables e below (T43.setTop (mkF m 148 #[.val (.long p1), .second, .val (.int p2), .val (.int p3), .val (.int p4), .val (.long ((p1.toUInt64 >>> ((p2 &&& (63 : Int32)) &&& 0x3f).toInt64.toUInt64).toInt64)), .second, .val (.int (p3 &&& (7 : Int32))), .val (.int (p4.toInt8.toInt32)), .val (.ref b2), .val (.long ((p1.toUInt64 >>> ((p2 &&& (63 : Int32)) &&& 0x3f).toInt64.toUInt64).toInt64)), .second] [(.long ((p1.toUInt64 >>> ((p2 &&& (63 : Int32)) &&& 0x3f).toInt64.toUInt64).toInt64))])) _
    refine XS.lload X43.here hx rfl (hb hby at_148) rfl ?_
    show Steps p.tables e below (T43.setTop (mkF m 150 #[.val (.long p1), .second, .val (.int p2), .val (.int p3), .val (.int p4), .val (.long ((p1.toUInt64 >>> ((p2 &&& (63 : Int32)) &&& 0x3f).toInt64.toUInt64).toInt64)), .second, .val (.int (p3 &&& (7 : Int32))), .val (.int (p4.toInt8.toInt32)), .val (.ref b2), .val (.long ((p1.toUInt64 >>> ((p2 &&& (63 : Int32)) &&& 0x3f).toInt64.toUInt64).toInt64)), .second] [(.long ((p1.toUInt64 >>> ((p2 &&& (63 : Int32)) &&& 0x3f).toInt64.toUInt64).toInt64)), (.long ((p1.toUInt64 >>> ((p2 &&& (63 : Int32)) &&& 0x3f).toInt64.toUInt64).toInt64))])) _
    refine XS.lcmp X43.here hx rfl (hb hby at_150) rfl ?_
    show Steps p.tables e below (T43.setTop (mkF m 151 #[.val (.long p1), .second, .val (.int p2), .val (.int p3), .val (.int p4), .val (.long ((p1.toUInt64 >>> ((p2 &&& (63 : Int32)) &&& 0x3f).toInt64.toUInt64).toInt64)), .second, .val (.int (p3 &&& (7 : Int32))), .val (.int (p4.toInt8.toInt32)), .val (.ref b2), .val (.long ((p1.toUInt64 >>> ((p2 &&& (63 : Int32)) &&& 0x3f).toInt64.toUInt64).toInt64)), .second] [(.int (lcmpW ((p1.toUInt64 >>> ((p2 &&& (63 : Int32)) &&& 0x3f).toInt64.toUInt64).toInt64) ((p1.toUInt64 >>> ((p2 &&& (63 : Int32)) &&& 0x3f).toInt64.toUInt64).toInt64)))])) _
    refine XS.ifNo X43.here hx rfl (hb hby at_151) rfl ((if0 _ _).trans (teq (show (lcmpW ((p1.toUInt64 >>> ((p2 &&& (63 : Int32)) &&& 0x3f).toInt64.toUInt64).toInt64) ((p1.toUInt64 >>> ((p2 &&& (63 : Int32)) &&& 0x3f).toInt64.toUInt64).toInt64)) = (0 : Int32) from ((lw_eq _ _).mpr rfl))).2) ?_
    show Steps p.tables e below (T43.setTop (mkF m 154 #[.val (.long p1), .second, .val (.int p2), .val (.int p3), .val (.int p4), .val (.long ((p1.toUInt64 >>> ((p2 &&& (63 : Int32)) &&& 0x3f).toInt64.toUInt64).toInt64)), .second, .val (.int (p3 &&& (7 : Int32))), .val (.int (p4.toInt8.toInt32)), .val (.ref b2), .val (.long ((p1.toUInt64 >>> ((p2 &&& (63 : Int32)) &&& 0x3f).toInt64.toUInt64).toInt64)), .second] [])) _
    refine XS.iconst X43.here hx rfl (hb hby at_154) ?_
    show Steps p.tables e below (T43.setTop (mkF m 155 #[.val (.long p1), .second, .val (.int p2), .val (.int p3), .val (.int p4), .val (.long ((p1.toUInt64 >>> ((p2 &&& (63 : Int32)) &&& 0x3f).toInt64.toUInt64).toInt64)), .second, .val (.int (p3 &&& (7 : Int32))), .val (.int (p4.toInt8.toInt32)), .val (.ref b2), .val (.long ((p1.toUInt64 >>> ((p2 &&& (63 : Int32)) &&& 0x3f).toInt64.toUInt64).toInt64)), .second] [(.int (1 : Int32))])) _
    refine XS.goto X43.here hx rfl (pc0 := 155) (pc' := 159) rfl (hb hby at_155) (by decide) (by decide) ?_
    exact kk_
  obtain ⟨fs, hr, hrun, hended, hW, hsame⟩ := X43.leave (v := some (.int (1 : Int32))) (fun h => by rw [Bd.returns] at h; cases h)
  refine ⟨_, _, p_44 _ ?_, hrun, hended, _, _, rfl, ?_, ⟨_, rfl⟩, hW, hsame.mono (by decide) (by decide)⟩
  · show Steps p.tables e below (T43.setTop (mkF m 159 #[.val (.long p1), .second, .val (.int p2), .val (.int p3), .val (.int p4), .val (.long ((p1.toUInt64 >>> ((p2 &&& (63 : Int32)) &&& 0x3f).toInt64.toUInt64).toInt64)), .second, .val (.int (p3 &&& (7 : Int32))), .val (.int (p4.toInt8.toInt32)), .val (.ref b2), .val (.long ((p1.toUInt64 >>> ((p2 &&& (63 : Int32)) &&& 0x3f).toInt64.toUInt64).toInt64)), .second] [(.int (1 : Int32))])) _
    exact retN X43 hx (t := .boolean) Bd.returns (by simp) (hb hby at_159) hr
  · show Q_law Z p1 p2 p3 p4 h0 n0 _ T43.heap _
    exact ⟨rfl, N43⟩
set_option maxRecDepth 65536 in
set_option maxHeartbeats 40000000 in
theorem comes_1 {Post : Tables → Env → Array Value → State → Outcome → State → Prop} (hpost : ∀ tb e args s v u, (limb_1_1.after args s (.returned v) u = true ∧ limb_1_2.after args s (.returned v) u = true ∧ True) → FrameEnd s (.returned v) u (Jvm.fieldLocs frame_1_writes args s ++ Jvm.arrayLocs frame_1_arrays args s ++ Jvm.staticLocs frame_1_statics s) 16 128 → Post tb e args s (.returned v) u) :
    ArmFor flags0 classFile x code maxLocals ret World_1 tables_1 room_1 Calls_1 rest_1 Pre_1 Post := by
  intro l hfl _ _ p e ha hc hk s m args below hf hA hF happ hP
  obtain ⟨hcalls, hrest, hpre⟩ := hP
  obtain ⟨-, -, -, hnamed, -, -, -, hat⟩ := (Spec.applies_iff hf).mp happ
  obtain ⟨hg, hn⟩ := and_e (Cond.before_iff.mp (show (Jvm.Cond.and given_1 narrow_1).before args s = true from hpre))
  obtain ⟨hcnt, hr0⟩ := and_e hg
  obtain ⟨ha0, hr1⟩ := and_e hr0
  obtain ⟨ha1, hr2⟩ := and_e hr1
  obtain ⟨ha2, hr3⟩ := and_e hr2
  have ha3 := hr3
  obtain ⟨w0, w1, w2, w3, rfl⟩ : ∃ w0 w1 w2 w3 : Value, args = #[w0, w1, w2, w3] := by
    have hs : args.size = 4 := by simpa [Cond.value, given_1] using hcnt
    obtain ⟨L⟩ := args
    match L, hs with
    | [w0, w1, w2, w3], _ => exact ⟨w0, w1, w2, w3, rfl⟩
  have hw := fun d (hd : d ∈ tables_1) => atoms_spec (ws := Jvm.Cond.code x code maxLocals ret :: tables_1) hat d (List.mem_cons_of_mem _ hd)
  have hfit : Fit s := fun {y c} hc i hi => by
    obtain ⟨ha, rfl⟩ := Array.getElem?_eq_some_iff.mp hc
    have q := List.all_eq_true.mp ((Array.all_eq_true_iff_forall_mem.mp hF) _ (Array.getElem_mem ha)) i (List.mem_range.mpr hi)
    simpa [Array.getElem?_eq_getElem hi] using q
  obtain ⟨i0, e0⟩ := isL_v ha0
  obtain rfl : w0 = (.long i0) := Option.some.inj e0
  obtain ⟨i1, e1⟩ := is_v ha1
  obtain rfl : w1 = (.int i1) := Option.some.inj e1
  obtain ⟨i2, e2⟩ := is_v ha2
  obtain rfl : w2 = (.int i2) := Option.some.inj e2
  obtain ⟨i3, e3⟩ := is_v ha3
  obtain rfl : w3 = (.int i3) := Option.some.inj e3
  obtain ⟨n, o, h1, h2, h3, _, L, rfl, ⟨rfl, N⟩, hq⟩ := rm_law l s _ hw tables_1 i0 i1 i2 i3 s.heap s.heap.size (Nat.le_refl _) p e ha hc hk s m _ below hf ((Spec.applies_iff_loose hf).mp happ).1 ⟨rfl, State.Warmed39.refl s, rfl⟩ trivial
  refine ⟨n, _, h1, h2, h3, hpost _ _ _ _ _ _ ⟨Cond.after_iff.mpr rfl, Cond.after_iff.mpr (eq_i res_at (Term.int_eval (1)) rfl), trivial⟩ ⟨hq.1, hq.2.1, (hq.2.2.sift fun y hy => Or.inr (N y hy)).mono (by decide) (by decide)⟩⟩
theorem main_1_1 : Claimed_1_1 := comes_1 fun _ _ _ _ _ _ h hF => ⟨h.1, hF⟩
theorem main_1_2 : Claimed_1_2 := comes_1 fun _ _ _ _ _ _ h hF => ⟨h.2.1, hF⟩
end Jvm.Pilot.@@N@@
namespace Jvm.Pilot.@@N@@
open Jvm Jvm.ClassFile Sem Op Lib Jvm.Free Jvm.Stand Jvm.Pilot.@@N@@.Jvm.D
/-! MADE BY PROGRAM (witnessworld.py) out of the Statement's table words and the real class files: 7 classes; the members and pool entries that the words name. The judged class is class 1, her method 1. -/
namespace start1
open Jvm.ClassFile
def u (s : String) : CpInfo := .utf8 (stringToUtf16 s)
/-- a pool by its gaps: so many unusable entries, then the entry; so many at the end -/
def gap : Nat → List CpInfo → List CpInfo
  | 0, r => r
  | n + 1, r => .unusable :: gap n r
def poolList (es : List (Nat × CpInfo)) (last : Nat) : List CpInfo := es.foldr (fun e r => gap e.1 (e.2 :: r)) (gap last [])
def pool (es : List (Nat × CpInfo)) (last : Nat) : Array CpInfo := ⟨poolList es last⟩
def fileOf (pool : Array CpInfo) (this : Nat) (attrs : Array Attribute := #[]) (ms : Array MethodInfo := #[]) (fl : Nat := 33) (sup : Nat := 0) (ifs : Array Nat := #[]) (fds : Array FieldInfo := #[]) : ClassFile where
  minorVersion := 0
  majorVersion := 65
  constantPool := pool
  accessFlags := fl
  thisClass := this
  superClass := sup
  interfaces := ifs
  fields := fds
  methods := ms
  attributes := attrs
def plain (name : String) (sup : Option ClassId) : Class where
  name := name
  kind := .ordinary
  loader := none
  accessFlags := 33
  super := sup
  interfaces := #[]
  cf := none
  fields := #[]
  methods := #[]
  instanceTypes := #[]
  staticTypes := #[]
  resolved := #[]
  callSites := []
  init := .initialized
  statics := none
  mirror := none

def pool0 : Array CpInfo := pool [(5, u "<init>"), (0, u "()V"), (1, .class_ 10), (1, u "java/lang/Object")] 113

def k0m0 : Method := { name := "<init>", desc := "()V", sig := { parameters := [], returnType := none }, accessFlags := 1, code := none }
/-- java/lang/Object -/
def k0 : Class := { plain "java/lang/Object" none with
  accessFlags := 33
  interfaces := #[]
  cf := some (fileOf pool0 8 #[] #[{ accessFlags := 1, nameIndex := 5, descriptorIndex := 6, attributes := #[] }] 33 0 #[] #[])
  fields := #[]
  methods := #[k0m0]
  instanceTypes := #[]
  staticTypes := #[]
  resolved := Array.replicate 124 none
  statics := none }

def pool1 : Array CpInfo := pool [(2, .class_ 4), (1, u "java/lang/Object"), (0, u "<init>"), (0, u "()V"), (0, .methodref 8 9), (0, .class_ 10), (0, .nameAndType 11 12), (0, u "com/example/fenceline/fenceline/util/PackedValues"), (0, u "pack"), (0, u "(J[BI)I"), (0, .methodref 8 14), (0, .nameAndType 15 16), (0, u "unpack"), (0, u "([BI)J"), (0, .class_ 18), (0, u "com/example/fenceline/fenceline/util/PackedValuesUnpackPinLaw"), (2, u "law"), (0, u "(JIII)Z")] 5

def k1m0 : Method := { name := "<init>", desc := "()V", sig := { parameters := [], returnType := none }, accessFlags := 1, code := none }
def k1c1 : Code := { maxStack := 4, maxLocals := 12, code := code, exceptionTable := #[], attributes := #[] }
def k1m1 : Method := { name := "law", desc := "(JIII)Z", sig := { parameters := [.long, .int, .int, .int], returnType := some .boolean }, accessFlags := 9, code := some k1c1 }
/-- com/example/fenceline/fenceline/util/PackedValuesUnpackPinLaw -/
def k1 : Class := { plain "com/example/fenceline/fenceline/util/PackedValuesUnpackPinLaw" (some 0) with
  accessFlags := 49
  interfaces := #[]
  cf := some (fileOf pool1 17 #[] #[{ accessFlags := 1, nameIndex := 5, descriptorIndex := 6, attributes := #[] }, { accessFlags := 9, nameIndex := 21, descriptorIndex := 22, attributes := #[] }] 49 2 #[] #[])
  fields := #[]
  methods := #[k1m0, k1m1]
  instanceTypes := #[]
  staticTypes := #[]
  resolved := Array.replicate 28 none
  statics := none }

def pool2 : Array CpInfo := pool [(2, .class_ 4), (1, u "java/lang/Object"), (0, u "<init>"), (0, u "()V"), (1, .class_ 10), (1, u "com/example/fenceline/fenceline/util/PackedValues"), (0, u "bytes"), (0, u "[B"), (2, u "length"), (0, u "I"), (2, u "cursor"), (6, u "pack"), (0, u "(J[BI)I"), (0, .long 18446744073709551488), (15, u "unpack"), (0, u "([BI)J"), (13, .long 128), (1, u "MOST_BYTES")] 17

def k2m0 : Method := { name := "<init>", desc := "()V", sig := { parameters := [], returnType := none }, accessFlags := 1, code := none }
def k2c1 : Code := { maxStack := 6, maxLocals := 4, code := prog_89_method_13_code, exceptionTable := #[], attributes := #[] }
def k2m1 : Method := { name := "pack", desc := "(J[BI)I", sig := { parameters := [.long, (.array .byte), .int], returnType := some .int }, accessFlags := 9, code := some k2c1 }
def k2c2 : Code := { maxStack := 5, maxLocals := 6, code := prog_89_method_14_code, exceptionTable := #[], attributes := #[] }
def k2m2 : Method := { name := "unpack", desc := "([BI)J", sig := { parameters := [(.array .byte), .int], returnType := some .long }, accessFlags := 9, code := some k2c2 }
/-- com/example/fenceline/fenceline/util/PackedValues -/
def k2 : Class := { plain "com/example/fenceline/fenceline/util/PackedValues" (some 0) with
  accessFlags := 49
  interfaces := #[]
  cf := some (fileOf pool2 8 #[] #[{ accessFlags := 1, nameIndex := 5, descriptorIndex := 6, attributes := #[] }, { accessFlags := 9, nameIndex := 26, descriptorIndex := 27, attributes := #[] }, { accessFlags := 9, nameIndex := 44, descriptorIndex := 45, attributes := #[] }] 49 2 #[] #[{ accessFlags := 25, nameIndex := 61, descriptorIndex := 16, attributes := #[] }, { accessFlags := 2, nameIndex := 11, descriptorIndex := 12, attributes := #[] }, { accessFlags := 2, nameIndex := 15, descriptorIndex := 16, attributes := #[] }, { accessFlags := 2, nameIndex := 19, descriptorIndex := 16, attributes := #[] }])
  fields := #[{ name := "MOST_BYTES", type := .int, accessFlags := 25, slot := 0, constantValue := 0 }, { name := "bytes", type := (.array .byte), accessFlags := 2, slot := 0, constantValue := 0 }, { name := "length", type := .int, accessFlags := 2, slot := 1, constantValue := 0 }, { name := "cursor", type := .int, accessFlags := 2, slot := 2, constantValue := 0 }]
  methods := #[k2m0, k2m1, k2m2]
  instanceTypes := #[(.array .byte), .int, .int]
  staticTypes := #[.int]
  resolved := Array.replicate 79 none
  statics := none }

def pool3 : Array CpInfo := pool [(1, u "java/lang/Cloneable"), (0, .class_ 1), (0, u "java/lang/Object"), (0, .class_ 3)] 3

/-- java/lang/Cloneable -/
def k3 : Class := { plain "java/lang/Cloneable" (some 0) with
  accessFlags := 1537
  interfaces := #[]
  cf := some (fileOf pool3 2 #[] #[] 1537 4 #[] #[])
  fields := #[]
  methods := #[]
  instanceTypes := #[]
  staticTypes := #[]
  resolved := Array.replicate 8 none
  statics := none }

def pool4 : Array CpInfo := pool [(1, u "java/io/Serializable"), (0, .class_ 1), (0, u "java/lang/Object"), (0, .class_ 3)] 3

/-- java/io/Serializable -/
def k4 : Class := { plain "java/io/Serializable" (some 0) with
  accessFlags := 1537
  interfaces := #[]
  cf := some (fileOf pool4 2 #[] #[] 1537 4 #[] #[])
  fields := #[]
  methods := #[]
  instanceTypes := #[]
  staticTypes := #[]
  resolved := Array.replicate 8 none
  statics := none }

/-- the primitive byte -/
def k5 : Class := { plain "byte" none with kind := .primitive 'B', accessFlags := 0x411 }
/-- [B -/
def k6 : Class := { plain "[B" (some 0) with kind := .array 5 .byte, interfaces := #[3, 4], accessFlags := 1041 }

def heap : Heap := #[]
def classes : Array Class := #[k0, k1, k2, k3, k4, k5, k6]
def interned : List (Array UInt16 × Addr) := []
def slotsUsed : Nat := 0
def theMethod : MethodId := ⟨1, 1⟩
def args0 : Array Value := #[.long 5, .int 7, .int 3, .int 1]
def aboutOver (below : List Frame) : State where
  vm := { classes := classes, interned := interned.toArray }
  heap := heap
  slotsUsed := slotsUsed
  threads := #[{ frames := .invoking theMethod args0 :: below }]
def below0 : List Frame := [.native { method := ⟨0, 0⟩, args := #[] }]
def about1 : State := aboutOver below0
def p0 : Program := .bare "" "" ""
def e0 : Env := launch0.env 0 0 0
theorem w_frames : about1.frames = Frame.invoking theMethod args0 :: below0 := rfl
set_option maxRecDepth 65536 in
theorem w_args : argsFit about1.vm theMethod args0 = true := by decide +kernel
set_option maxRecDepth 65536 in
theorem w_heap : heapFits about1 = true := by decide +kernel
set_option maxRecDepth 65536 in
theorem w_runnable : about1.curStatus? = some .runnable := by decide +kernel
set_option maxRecDepth 65536 in
theorem w_alone : about1.alone = true := by decide +kernel
set_option maxRecDepth 65536 in
theorem w_named : about1.methodNamed? x = some theMethod := by decide +kernel
set_option maxRecDepth 65536 in
theorem w_hears : about1.hears theMethod below0 = true := by decide +kernel
set_option maxRecDepth 65536 in
theorem w_ripe : about1.ripe theMethod args0 below0 = true := by decide +kernel
theorem w_running : about1.status = .running := rfl
set_option maxRecDepth 65536 in
theorem w_room : about1.hasRoom e0.platform room_1 = true :=
  launch0.hasRoom_least _ room_1 (by decide +kernel) (by decide +kernel) (by decide +kernel) (by decide +kernel) (by decide +kernel) (by decide +kernel)
theorem allAtoms_all (ts : List Jvm.Cond) (a : Array Jvm.Value) (st : Jvm.State) : (allAtoms ts).before a st = ts.all (fun c => c.before a st) := by
  induction ts with
  | nil => rfl
  | cons c t ih =>
    show (Jvm.Cond.and c (allAtoms t)).before a st = _
    rw [Jvm.Cond.before_and, ih, List.all_cons]
def words1 : List Jvm.Cond := Jvm.Cond.code x code maxLocals ret :: tables_1
/-- a 'code' word, met by the world's own term for the bytes: nothing is compared byte by byte -/
theorem code_word {y : MethodName} {bytes : ByteArray} {mx : Nat} {rt : Option FieldType} {a : Array Value} {s : State} {m : MethodId} {meth : Method} {c : Code} (h1 : s.methodNamed? y = some m) (h2 : s.vm.method? m = some meth) (h3 : meth.code = some c) (h4 : c.code = bytes)
    (h5 : (c.maxLocals == mx && c.exceptionTable.isEmpty && decide (c.maxStack ≤ mostOperands) && decide (meth.sig.returnType = rt) && !meth.locks && decide (parseMethodDescriptor y.desc = some meth.sig)) = true) : (Jvm.Cond.code y bytes mx rt).before a s = true := by
  simp only [Bool.and_eq_true, beq_iff_eq, Bool.not_eq_true', decide_eq_true_eq] at h5
  obtain ⟨⟨⟨⟨⟨g1, g2⟩, g3⟩, g4⟩, g5⟩, g6⟩ := h5
  simp [Cond.before, Cond.holds, Cond.value, h1, h2, h3, h4, g1, g2, g3, g4, g5, g6]
def isCode : Jvm.Cond → Bool
  | .code _ _ _ _ => true
  | _ => false
theorem all_split {L : List Jvm.Cond} {P : Jvm.Cond → Bool} (h1 : L.all (fun c => isCode c || P c) = true) (h2 : ∀ c ∈ L.filter isCode, P c = true) : L.all P = true := by
  refine List.all_eq_true.mpr fun c hc => ?_
  have h := List.all_eq_true.mp h1 c hc
  rcases Bool.eq_false_or_eq_true (isCode c) with hi | hi
  · exact h2 c (List.mem_filter.mpr ⟨hc, hi⟩)
  · simpa [hi] using h
set_option maxRecDepth 65536 in
theorem w_c0 : (Jvm.Cond.code x code maxLocals ret).before args0 about1 = true := code_word (m := ⟨1, 1⟩) (meth := k1m1) (c := k1c1) (by decide +kernel) rfl rfl rfl (by decide +kernel)
set_option maxRecDepth 65536 in
theorem w_c1 : (Jvm.Cond.code ({ cls := "com/example/fenceline/fenceline/util/PackedValues", name := "pack", desc := "(J[BI)I" } : Jvm.MethodName) prog_89_method_13_code (4 : Nat) (Option.some Jvm.ClassFile.FieldType.int)).before args0 about1 = true := code_word (m := ⟨2, 1⟩) (meth := k2m1) (c := k2c1) (by decide +kernel) rfl rfl rfl (by decide +kernel)
set_option maxRecDepth 65536 in
theorem w_c2 : (Jvm.Cond.code ({ cls := "com/example/fenceline/fenceline/util/PackedValues", name := "unpack", desc := "([BI)J" } : Jvm.MethodName) prog_89_method_14_code (6 : Nat) (Option.some Jvm.ClassFile.FieldType.long)).before args0 about1 = true := code_word (m := ⟨2, 2⟩) (meth := k2m2) (c := k2c2) (by decide +kernel) rfl rfl rfl (by decide +kernel)
def codes1 : List Jvm.Cond := [Jvm.Cond.code x code maxLocals ret, Jvm.Cond.code ({ cls := "com/example/fenceline/fenceline/util/PackedValues", name := "pack", desc := "(J[BI)I" } : Jvm.MethodName) prog_89_method_13_code (4 : Nat) (Option.some Jvm.ClassFile.FieldType.int), Jvm.Cond.code ({ cls := "com/example/fenceline/fenceline/util/PackedValues", name := "unpack", desc := "([BI)J" } : Jvm.MethodName) prog_89_method_14_code (6 : Nat) (Option.some Jvm.ClassFile.FieldType.long)]
set_option maxRecDepth 65536 in
theorem codes_eq : words1.filter isCode = codes1 := rfl
theorem w_codes : ∀ c ∈ words1.filter isCode, c.before args0 about1 = true := by
  rw [codes_eq]
  intro c hc
  simp only [codes1, List.mem_cons, List.not_mem_nil, or_false] at hc
  rcases hc with rfl | rfl | rfl
  · exact w_c0
  · exact w_c1
  · exact w_c2
set_option maxRecDepth 65536 in
theorem w_t1 : words1.all (fun c => isCode c || c.before args0 about1) = true := by decide +kernel
theorem w_tables : (allAtoms (Jvm.Cond.code x code maxLocals ret :: tables_1)).before args0 about1 = true := by
  rw [allAtoms_all]
  show words1.all (fun c => c.before args0 about1) = true
  refine all_split ?_ w_codes
  rw [w_t1]
set_option maxRecDepth 65536 in
theorem w_case : (Jvm.Cond.and given_1 narrow_1).before args0 about1 = true := by decide +kernel
theorem w_applies : (headSpec (Jvm.Cond.code x code maxLocals ret :: tables_1) room_1).applies x e0.platform about1 = true :=
  (Spec.applies_iff w_frames).mpr ⟨w_running, w_runnable, w_alone, w_named, w_hears, w_ripe, w_room, w_tables⟩
theorem atStart : AtStart classFile x code maxLocals ret World_1 tables_1 room_1 Calls_1 rest_1 Pre_1 launch0 p0 e0 about1 theMethod args0 below0 :=
  ⟨lists_1, trivial, launch0.admits_env _ _ _, launch0.least_env, fairChoices_fair.cas, fairChoices_fair.clock, w_frames, w_args, w_heap, w_applies, trivial, trivial, w_case⟩
end start1
theorem witness_1 : WitnessClaimed_1 := ⟨start1.p0, start1.e0, start1.about1, start1.theMethod, start1.args0, start1.below0, start1.atStart⟩
end Jvm.Pilot.@@N@@
