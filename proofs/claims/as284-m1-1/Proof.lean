import JvmDerived
import JvmDerived.Pilot.@@N@@Statement
import JvmDerived.Pilot.@@N@@Code
set_option linter.unusedVariables false
set_option linter.unusedSimpArgs false
namespace Jvm.RoadKit
open Sem ClassFile Op Lib Jvm.Stand Jvm.Free Jvm.LawKit
section New
variable {p : Program} {l : Launch} {e : Env} {R : Room} {s : State} {m : MethodId} {args : Array Value} {below : List Frame} {meth : Method} {c : Code} {T : State} {locs : List Loc} {cells slots : Nat}
theorem retI (X : Stand p l e R s m args below meth c T locs cells slots) (hx : p.tables.exec = Jvm.exec) {pc : Nat} {Ls : Array Slot} {z : Int32} {rest : List Value} (hret : meth.sig.returnType = some .int) (hd : decode c.code pc = .ok (.ireturn, 1)) {fs : List Frame}
    (hl : ∀ (f : JFrame) (acts : List Action), f.method = m → f.locked = none → f.entered = [] → (doReturn e (T.setTop f) acts (some (.int z))).1 = T.setFrames fs) : Steps p.tables e below (T.setTop (mkF m pc Ls (.int z :: rest))) (T.setFrames fs) := by
  have hm' : T.vm.method? m = some meth := X.method'
  have hn : narrow .int (.int z) = .int z := rfl
  show Steps p.tables e below (T.setTop { method := m, pc := pc, locals := Ls, stack := _ :: rest, locked := none }) _
  jvm_step X.here [X.here.top, hx, hd, hm', hret, hn]
  first | (intro acts; rw [hl _ acts rfl rfl rfl]) | rw [hl _ _ rfl rfl rfl]
  exact Steps.refl _
end New
end Jvm.RoadKit
namespace Jvm.Pilot.@@N@@
open Jvm Jvm.ClassFile Sem Op Lib Jvm.Free Jvm.Stand Jvm.LawKit Jvm.RoadKit Bundle Jvm.Pilot.@@N@@.Jvm.D
section OwnArr
variable {p : Program} {l : Launch} {e : Env} {R : Room} {s : State} {m : MethodId} {args : Array Value} {below : List Frame} {meth : Method} {c : Code} {T : State} {locs : List Loc} {cells slots : Nat} {Z : State} {h h' : Heap} {a b : Addr} {ty : FieldType} {n : Nat} {f : Nat → Int32}
def OAf (Z : State) (h : Heap) (a : Addr) (ty : FieldType) (n : Nat) (f : Nat → Int32) : Prop := ∃ c : Cell, Arr Z h a c ty ∧ c.slots.size = n ∧ ∀ i, i < n → c.slots[i]? = some (.int (f i))
theorem OAf.lt (F : OAf Z h a ty n f) : a < h.size := by obtain ⟨c, A, -⟩ := F; exact A.lt
theorem OAf.ext (F : OAf Z h a ty n f) (E : Ext h h') : OAf Z h' a ty n f := by obtain ⟨c, A, r⟩ := F; exact ⟨c, A.ext E, r⟩
theorem OAf.other {sl : Nat} {v : Value} (F : OAf Z h b ty n f) (W : Wr h h' a sl v) (q : b ≠ a) : OAf Z h' b ty n f := by obtain ⟨c, A, r⟩ := F; exact ⟨c, A.other W q, r⟩
theorem OAf.keep {ws : List Addr} (F : OAf Z h a ty n f) (K : Keep h h' ws) (q : a ∉ ws) : OAf Z h' a ty n f := by obtain ⟨c, A, r⟩ := F; exact ⟨c, ⟨K.2.1 a c A.1 q, A.2⟩, r⟩
theorem OAf.set {j : Nat} {v : Int32} (F : OAf Z h a ty n f) (W : Wr h h' a j (.int v)) : OAf Z h' a ty n (fun i => if i = j then v else f i) := by
  obtain ⟨c, A, S, H⟩ := F
  refine ⟨_, A.same W, by simpa [Cell.setSlot] using S, fun i hi => ?_⟩
  by_cases u : i = j
  · subst u; simp [Cell.setSlot, S, hi]
  · simp only [Cell.setSlot, if_neg u]
    rw [Array.getElem?_setIfInBounds_ne (Ne.symm u)]; exact H i hi
theorem OAf.new {k : ClassId} {z : Int32} (A : Arr Z h a (newA k ty z) ty) (hd : defaultValue ty = .int 0) (hz : z.toNatClampNeg = n) : OAf Z h a ty n (fun _ => 0) :=
  ⟨_, A, (sz_new _ _ _).trans hz, fun i hi => by simp [newA, hz, hi, hd]⟩
theorem OAf.congr {g : Nat → Int32} (F : OAf Z h a ty n f) (q : ∀ i, i < n → f i = g i) : OAf Z h a ty n g := by obtain ⟨c, A, S, H⟩ := F; exact ⟨c, A, S, fun i hi => by rw [← q i hi]; exact H i hi⟩
theorem own_iaload (X : Stand p l e R s m args below meth c T locs cells slots) (hx : p.tables.exec = Jvm.exec) (hZ : Z.Warmed39 s.vm) (eT : T.heap = h) (F : OAf Z h a .int n f) {j : Int32} (h1 : ¬ j < 0) (h2 : j.toNatClampNeg < n) {g : JFrame} (hg : g.method = m) {rest : List Value} (hs : g.stack = .int j :: .ref a :: rest) (hd : decode c.code g.pc = .ok (.iaload, 1)) (target : State)
    (hr : Steps p.tables e below (T.setTop { g with pc := g.pc + 1, stack := .int (f j.toNatClampNeg) :: rest }) target) : Steps p.tables e below (T.setTop g) target := by
  obtain ⟨cl, A, S, H⟩ := F
  exact X.iaload hx (by rw [eT]; exact A.1) (State.isArrayOf_alike hZ.alike A.2.1) A.2.2 (fun q => q.elim h1 fun q => absurd h2 (Nat.not_lt.mpr (S ▸ q))) (H _ h2) hg hs hd target hr
theorem own_baload (X : Stand p l e R s m args below meth c T locs cells slots) (hx : p.tables.exec = Jvm.exec) (hZ : Z.Warmed39 s.vm) (eT : T.heap = h) (F : OAf Z h a .byte n f) {j : Int32} (h1 : ¬ j < 0) (h2 : j.toNatClampNeg < n) {g : JFrame} (hg : g.method = m) {rest : List Value} (hs : g.stack = .int j :: .ref a :: rest) (hd : decode c.code g.pc = .ok (.baload, 1)) (target : State)
    (hr : Steps p.tables e below (T.setTop { g with pc := g.pc + 1, stack := .int (f j.toNatClampNeg) :: rest }) target) : Steps p.tables e below (T.setTop g) target := by
  obtain ⟨cl, A, S, H⟩ := F
  exact X.baloadBytes hx (by rw [eT]; exact A.1) (State.isArrayOf_alike hZ.alike A.2.1) A.2.2 (fun q => q.elim h1 fun q => absurd h2 (Nat.not_lt.mpr (S ▸ q))) (H _ h2) hg hs hd target hr
theorem own_caload (X : Stand p l e R s m args below meth c T locs cells slots) (hx : p.tables.exec = Jvm.exec) (hZ : Z.Warmed39 s.vm) (eT : T.heap = h) (F : OAf Z h a .char n f) {j : Int32} (h1 : ¬ j < 0) (h2 : j.toNatClampNeg < n) {g : JFrame} (hg : g.method = m) {rest : List Value} (hs : g.stack = .int j :: .ref a :: rest) (hd : decode c.code g.pc = .ok (.caload, 1)) (target : State)
    (hr : Steps p.tables e below (T.setTop { g with pc := g.pc + 1, stack := .int (f j.toNatClampNeg) :: rest }) target) : Steps p.tables e below (T.setTop g) target := by
  obtain ⟨cl, A, S, H⟩ := F
  exact X.caload hx (by rw [eT]; exact A.1) (State.isArrayOf_alike hZ.alike A.2.1) A.2.2 (fun q => q.elim h1 fun q => absurd h2 (Nat.not_lt.mpr (S ▸ q))) (H _ h2) hg hs hd target hr
theorem own_iastore (X : Stand p l e R s m args below meth c T locs cells slots) (hx : p.tables.exec = Jvm.exec) (hZ : Z.Warmed39 s.vm) (eT : T.heap = h) (F : OAf Z h a .int n f) {j x : Int32} (h1 : ¬ j < 0) (h2 : j.toNatClampNeg < n) {g : JFrame} (hg : g.method = m) {rest : List Value} (hs : g.stack = .int x :: .int j :: .ref a :: rest) (hd : decode c.code g.pc = .ok (.iastore, 1)) :
    ∃ T' h', Stand p l e R s m args below meth c T' (locs ++ [⟨a, j.toNatClampNeg⟩]) cells slots ∧ T'.heap = h' ∧ Wr h h' a j.toNatClampNeg (.int x) ∧ OAf Z h' a .int n (fun i => if i = j.toNatClampNeg then x else f i) ∧ ∀ target, Steps p.tables e below (T'.setTop { g with pc := g.pc + 1, stack := rest }) target → Steps p.tables e below (T.setTop g) target := by
  have F' := F
  obtain ⟨cl, A, S, H⟩ := F
  obtain ⟨T', h', X', e', W, st⟩ := stI X hx hZ eT A (j := j) (x := x) (fun q => q.elim h1 fun q => absurd h2 (Nat.not_lt.mpr (S ▸ q))) hg hs hd
  exact ⟨T', h', X', e', W, OAf.set F' W, st⟩
theorem own_bastore (X : Stand p l e R s m args below meth c T locs cells slots) (hx : p.tables.exec = Jvm.exec) (hZ : Z.Warmed39 s.vm) (eT : T.heap = h) (F : OAf Z h a .byte n f) {j x : Int32} (h1 : ¬ j < 0) (h2 : j.toNatClampNeg < n) {g : JFrame} (hg : g.method = m) {rest : List Value} (hs : g.stack = .int x :: .int j :: .ref a :: rest) (hd : decode c.code g.pc = .ok (.bastore, 1)) :
    ∃ T' h', Stand p l e R s m args below meth c T' (locs ++ [⟨a, j.toNatClampNeg⟩]) cells slots ∧ T'.heap = h' ∧ Wr h h' a j.toNatClampNeg (.int (x.toInt8.toInt32)) ∧ OAf Z h' a .byte n (fun i => if i = j.toNatClampNeg then (x.toInt8.toInt32) else f i) ∧ ∀ target, Steps p.tables e below (T'.setTop { g with pc := g.pc + 1, stack := rest }) target → Steps p.tables e below (T.setTop g) target := by
  have F' := F
  obtain ⟨cl, A, S, H⟩ := F
  obtain ⟨T', h', X', e', W, st⟩ := stB X hx hZ eT A (j := j) (x := x) (fun q => q.elim h1 fun q => absurd h2 (Nat.not_lt.mpr (S ▸ q))) hg hs hd
  exact ⟨T', h', X', e', W, OAf.set F' W, st⟩
theorem own_castore (X : Stand p l e R s m args below meth c T locs cells slots) (hx : p.tables.exec = Jvm.exec) (hZ : Z.Warmed39 s.vm) (eT : T.heap = h) (F : OAf Z h a .char n f) {j x : Int32} (h1 : ¬ j < 0) (h2 : j.toNatClampNeg < n) {g : JFrame} (hg : g.method = m) {rest : List Value} (hs : g.stack = .int x :: .int j :: .ref a :: rest) (hd : decode c.code g.pc = .ok (.castore, 1)) :
    ∃ T' h', Stand p l e R s m args below meth c T' (locs ++ [⟨a, j.toNatClampNeg⟩]) cells slots ∧ T'.heap = h' ∧ Wr h h' a j.toNatClampNeg (.int (x.toUInt32.toUInt16.toUInt32.toInt32)) ∧ OAf Z h' a .char n (fun i => if i = j.toNatClampNeg then (x.toUInt32.toUInt16.toUInt32.toInt32) else f i) ∧ ∀ target, Steps p.tables e below (T'.setTop { g with pc := g.pc + 1, stack := rest }) target → Steps p.tables e below (T.setTop g) target := by
  have F' := F
  obtain ⟨cl, A, S, H⟩ := F
  obtain ⟨T', h', X', e', W, st⟩ := stC X hx hZ eT A (j := j) (x := x) (fun q => q.elim h1 fun q => absurd h2 (Nat.not_lt.mpr (S ▸ q))) hg hs hd
  exact ⟨T', h', X', e', W, OAf.set F' W, st⟩
theorem own_len (X : Stand p l e R s m args below meth c T locs cells slots) (hx : p.tables.exec = Jvm.exec) (hZ : Z.Warmed39 s.vm) (eT : T.heap = h) (F : OAf Z h a ty n f) {z : Int32} (hz : n.toInt32 = z) {g : JFrame} (hg : g.method = m) {rest : List Value} (hs : g.stack = .ref a :: rest) (hd : decode c.code g.pc = .ok (.arraylength, 1)) (target : State)
    (hr : Steps p.tables e below (T.setTop { g with pc := g.pc + 1, stack := .int z :: rest }) target) : Steps p.tables e below (T.setTop g) target := by
  obtain ⟨cl, A, S, H⟩ := F
  refine X.arraylength hx (by rw [eT]; exact A.1) (State.isArrayOf_alike hZ.alike A.2.1) hg hs hd target ?_
  rw [S, hz]; exact hr
theorem own_clone (X : Stand p l e R s m args below meth c T locs cells slots) (hx : p.tables.exec = Jvm.exec) (hZ : Z.Warmed39 s.vm) (eT : T.heap = h) {a0 : Array Value} {own ad : String} {index : Nat} (hown : s.vm.findClass own = some m.cls)
    (w1 : (Cond.methodLink own index ⟨ad, "clone", "()Ljava/lang/Object;"⟩).before a0 Z = true) (w2 : (Cond.sameMethod ad "java/lang/Object" "clone" "()Ljava/lang/Object;").before a0 Z = true) (w3 : (Cond.native ⟨"java/lang/Object", "clone", "()Ljava/lang/Object;"⟩).before a0 Z = true)
    (w4 : (Cond.instanceMethod ⟨"java/lang/Object", "clone", "()Ljava/lang/Object;"⟩).before a0 Z = true) (w5 : (Cond.selects ad ⟨ad, "clone", "()Ljava/lang/Object;"⟩ ⟨"java/lang/Object", "clone", "()Ljava/lang/Object;"⟩).before a0 Z = true) (w6 : (Cond.castable ad "java/lang/Cloneable").before a0 Z = true)
    (F : OAf Z h a ty n f) (hfit : ∀ i, i < n → fits ty (.int (f i)) = true) (E : Exa Z h a ad) {g : JFrame} (hg : g.method = m) (hsize : g.locals.size = c.maxLocals) {rest : List Value} (hs : g.stack = .ref a :: rest) (hd : decode c.code g.pc = .ok (.invokevirtual index, 3))
    (hf : 1 ≤ R.frames) {W cap : Nat} (hW : 2 * g.monitorRoom + (rest.map fun v => v.category).sum ≤ W) (hl : W + 14 ≤ R.locals) (hcap : n ≤ cap) (hc : cells + 1 ≤ R.cells) (hsl : slots + cap ≤ R.slots) :
    ∃ T' h', Stand p l e R s m args below meth c T' locs (cells + 1) (slots + cap) ∧ T'.heap = h' ∧ Ext h h' ∧ OAf Z h' h.size ty n f ∧ Exa Z h' h.size ad ∧
      ∀ target, Steps p.tables e below (T'.setTop { g with pc := g.pc + 3, stack := .ref h.size :: rest }) target → Steps p.tables e below (T.setTop g) target := by
  obtain ⟨cl, A, S, H⟩ := F
  have FC : FitC Z cl := fitC_of A fun i hi v hv => by rw [H i (S ▸ hi)] at hv; cases hv; exact hfit i (S ▸ hi)
  obtain ⟨T', h', X', e', ex, A', E', st⟩ := cloneA X hx hZ hown w1 w2 w3 w4 w5 w6 eT A E FC hg hsize hs hd hf hW hl (by rw [S]; exact hcap) hc hsl
  exact ⟨T', h', X', e', ex, ⟨cloneOf cl, A', S, H⟩, E', st⟩
end OwnArr

def own_lo : List Int32 := [48, 49, 50, 51, 52, 53, 54, 55, 56, 57, 97, 98, 99, 100, 101, 102]
def own_up : List Int32 := [48, 49, 50, 51, 52, 53, 54, 55, 56, 57, 65, 66, 67, 68, 69, 70]
theorem own_lo_at : ∀ k : Nat, k < 16 → ((own_lo.getD k 0) &&& (255 : Int32)).toInt = if k < 10 then 48 + (k : Int) else 87 + (k : Int) := by decide +kernel
theorem own_up_at : ∀ k : Nat, k < 16 → ((own_up.getD k 0) &&& (255 : Int32)).toInt = if k < 10 then 48 + (k : Int) else 55 + (k : Int) := by decide +kernel
theorem OAf.ofArv {Z : State} {h : Heap} {b : Addr} {k : ClassId} {ty : FieldType} {z : Int32} {L : List Int32} {n : Nat} (F : Arv Z h b k ty z (L.map Value.int) (.int 0)) (hz : z.toNatClampNeg = n) : OAf Z h b ty n (fun i => L.getD i 0) := by
  obtain ⟨c, A, -, S, -, H, -⟩ := F
  refine ⟨c, A, S.trans hz, fun i hi => ?_⟩
  rw [H i (by rw [S, hz]; exact hi)]
  simp only [List.getD_eq_getElem?_getD, List.getElem?_map]
  cases L[i]? <;> rfl
def own_hexB (c : Int32) : Int32 := if c < (65 : Int32) then (-1 : Int32) else if (70 : Int32) < c then (-1 : Int32) else ((c - (65 : Int32)) + (10 : Int32))
def own_hexA (c : Int32) : Int32 := if c < (97 : Int32) then own_hexB c else if (102 : Int32) < c then own_hexB c else ((c - (97 : Int32)) + (10 : Int32))
def own_hex (c : Int32) : Int32 := if c < (48 : Int32) then own_hexA c else if (57 : Int32) < c then own_hexA c else (c - (48 : Int32))
theorem own_cases (c : Int32) : (48 ≤ c.toInt ∧ c.toInt ≤ 57 ∧ (own_hex c).toInt = c.toInt - 48) ∨ (97 ≤ c.toInt ∧ c.toInt ≤ 102 ∧ (own_hex c).toInt = c.toInt - 87) ∨ (65 ≤ c.toInt ∧ c.toInt ≤ 70 ∧ (own_hex c).toInt = c.toInt - 55) ∨ (own_hex c = (-1 : Int32) ∧ ¬ (48 ≤ c.toInt ∧ c.toInt ≤ 57) ∧ ¬ (97 ≤ c.toInt ∧ c.toInt ≤ 102) ∧ ¬ (65 ≤ c.toInt ∧ c.toInt ≤ 70)) := by
  have e1 : (48 : Int32).toInt = 48 := rfl
  have e2 : (57 : Int32).toInt = 57 := rfl
  have e3 : (97 : Int32).toInt = 97 := rfl
  have e4 : (102 : Int32).toInt = 102 := rfl
  have e5 : (65 : Int32).toInt = 65 := rfl
  have e6 : (70 : Int32).toInt = 70 := rfl
  have e7 : (10 : Int32).toInt = 10 := rfl
  have s1 := c_isub c (48 : Int32)
  have s2 := c_isub c (97 : Int32)
  have s3 := c_isub c (65 : Int32)
  have s4 := c_iadd (c - (97 : Int32)) (10 : Int32)
  have s5 := c_iadd (c - (65 : Int32)) (10 : Int32)
  have r1 := rng32 (c - (48 : Int32))
  have r2 := rng32 ((c - (97 : Int32)) + (10 : Int32))
  have r3 := rng32 ((c - (65 : Int32)) + (10 : Int32))
  have r0 := rng32 c
  by_cases a1 : 48 ≤ c.toInt ∧ c.toInt ≤ 57
  · refine Or.inl ⟨a1.1, a1.2, ?_⟩
    unfold own_hex
    rw [if_neg (by rw [Int32.lt_iff_toInt_lt]; omega), if_neg (by rw [Int32.lt_iff_toInt_lt]; omega)]; omega
  have h1 : own_hex c = own_hexA c := by
    unfold own_hex
    by_cases q : c < (48 : Int32)
    · rw [if_pos q]
    · rw [if_neg q, if_pos]; rw [Int32.lt_iff_toInt_lt] at q ⊢; omega
  by_cases a2 : 97 ≤ c.toInt ∧ c.toInt ≤ 102
  · refine Or.inr (Or.inl ⟨a2.1, a2.2, ?_⟩)
    rw [h1]; unfold own_hexA
    rw [if_neg (by rw [Int32.lt_iff_toInt_lt]; omega), if_neg (by rw [Int32.lt_iff_toInt_lt]; omega)]; omega
  have h2 : own_hexA c = own_hexB c := by
    unfold own_hexA
    by_cases q : c < (97 : Int32)
    · rw [if_pos q]
    · rw [if_neg q, if_pos]; rw [Int32.lt_iff_toInt_lt] at q ⊢; omega
  by_cases a3 : 65 ≤ c.toInt ∧ c.toInt ≤ 70
  · refine Or.inr (Or.inr (Or.inl ⟨a3.1, a3.2, ?_⟩))
    rw [h1, h2]; unfold own_hexB
    rw [if_neg (by rw [Int32.lt_iff_toInt_lt]; omega), if_neg (by rw [Int32.lt_iff_toInt_lt]; omega)]; omega
  refine Or.inr (Or.inr (Or.inr ⟨?_, a1, a2, a3⟩))
  rw [h1, h2]; unfold own_hexB
  by_cases q : c < (65 : Int32)
  · rw [if_pos q]
  · rw [if_neg q, if_pos]; rw [Int32.lt_iff_toInt_lt] at q ⊢; omega
theorem own_back {c d : Int32} {k : Nat} (hk : k < 16) (hd : d.toInt = k) (hc : c.toInt = (if k < 10 then 48 + (k : Int) else 87 + (k : Int)) ∨ c.toInt = (if k < 10 then 48 + (k : Int) else 55 + (k : Int))) : own_hex c = d := by
  have g := own_cases c
  apply Int32.toInt_inj.mp
  by_cases q : k < 10
  · simp only [if_pos q] at hc; omega
  · simp only [if_neg q] at hc; omega
theorem own_ix16 {x : Int32} (h0 : 0 ≤ x.toInt) (h1 : x.toInt ≤ 15) : ¬ (x < (0 : Int32)) ∧ x < (16 : Int32) ∧ x.toNatClampNeg < 16 ∧ x.toInt = (x.toNatClampNeg : Int) := by
  have z : (0 : Int32).toInt = 0 := rfl
  have o : (16 : Int32).toInt = 16 := rfl
  have q : ¬ (x < (0 : Int32)) := by rw [Int32.lt_iff_toInt_lt]; omega
  have a := nat_of q
  exact ⟨q, by rw [Int32.lt_iff_toInt_lt]; omega, by omega, a⟩

theorem own_b255 (b : Int32) : 0 ≤ (b &&& (255 : Int32)).toInt ∧ (b &&& (255 : Int32)).toInt ≤ 255 := c_and b (255 : Int32) (by decide)
theorem own_nc (b : Int32) : (b &&& (255 : Int32)) = nar .char (b &&& (255 : Int32)) := by
  have a := own_b255 b
  have c := c_i2c (b &&& (255 : Int32))
  exact Int32.toInt_inj.mp (by show _ = ((b &&& (255 : Int32)).toUInt32.toUInt16.toUInt32.toInt32).toInt; omega)
theorem own_nc2 (b : Int32) : (b &&& (255 : Int32)) = nar .char ((b &&& (255 : Int32)).toUInt32.toUInt16.toUInt32.toInt32) := by
  have e : ((b &&& (255 : Int32)).toUInt32.toUInt16.toUInt32.toInt32) = (b &&& (255 : Int32)) := (own_nc b).symm
  rw [e]; exact own_nc b
theorem dil_0 : decode jdk_42_method_154_code 0 = .ok (.getstatic 38, 3) := by decide +kernel
theorem dil_3 : decode jdk_42_method_154_code 3 = .ok (.ifCond .eq 14, 3) := by decide +kernel
theorem dil_6 : decode jdk_42_method_154_code 6 = .ok (.aload_n 0, 1) := by decide +kernel
theorem dil_7 : decode jdk_42_method_154_code 7 = .ok (.getfield 15, 3) := by decide +kernel
theorem dil_10 : decode jdk_42_method_154_code 10 = .ok (.ifCond .ne 7, 3) := by decide +kernel
theorem dil_13 : decode jdk_42_method_154_code 13 = .ok (.iconst 1, 1) := by decide +kernel
theorem dil_14 : decode jdk_42_method_154_code 14 = .ok (.goto 4, 3) := by decide +kernel
theorem dil_18 : decode jdk_42_method_154_code 18 = .ok (.ireturn, 1) := by decide +kernel
theorem pn_il : plainName "java/lang/String" = true := by first | (simp [plainName, overriddenIn]; done) | decide +kernel
theorem ef_il (m : MethodId) (x0 : Addr) : entryFrame m #[(.ref x0)] 1 = mkF m 0 #[.val (.ref x0)] [] := by first | (simp [entryFrame, mkF, argsToLocals, Value.category]; done) | rfl
def Q_il (Z : State) (a1 : Addr) (cs : Int32) (h0 : Heap) (n0 : Nat) (v : Option Value) (h : Heap) (L : List Loc) : Prop := v = some (.int (1 : Int32)) ∧ Fr n0 L ∧ h = h0
set_option maxRecDepth 65536 in
set_option maxHeartbeats 40000000 in
theorem rm_il (l : Launch) (Z : State) (a0 : Array Value) (hw : ∀ d ∈ tables_1, d.before a0 Z = true) (ws : List Jvm.Cond) (a1 : Addr) (cs : Int32) (h0 : Heap) (n0 : Nat) (Z0 : n0 ≤ h0.size) (SC : Sta Z h0 "java/lang/String" "COMPACT_STRINGS" "Z" (.int cs)) (hcs : ¬ (cs = (0 : Int32))) (FC : Fld Z h0 a1 "java/lang/String" "coder" "B" (.int (0 : Int32))) :
    MetFree l (⟨"java/lang/String", "isLatin1", "()Z"⟩ : MethodName) (head1 (Jvm.Cond.code (⟨"java/lang/String", "isLatin1", "()Z"⟩ : MethodName) jdk_42_method_154_code 1 (some .boolean) :: ws) ({ frames := 0, cells := 0, slots := 0, locals := 0 } : Room)) (fun a U => a = #[(.ref a1)] ∧ Z.Warmed39 U.vm ∧ U.heap = h0) (fun _ _ _ _ _ => True) (fun _ U o U' => ∃ v L, o = .returned v ∧ Q_il Z a1 cs h0 n0 v U'.heap L ∧ FrameEnd U o U' L ({ frames := 0, cells := 0, slots := 0, locals := 0 } : Room).cells ({ frames := 0, cells := 0, slots := 0, locals := 0 } : Room).slots) := by
  refine MetFree.of_bodySF (plainFor_of_name pn_il) hisR ?_
  intro p e s m args below meth c s₁ Bd hml0 hP hK
  obtain ⟨rfl, hZ, hh⟩ := hP
  have hx := Bd.exec
  have hby := Bd.bytes
  have hml : c.maxLocals = 1 := hml0
  have hown : s.vm.findClass "java/lang/String" = some m.cls := findClass_of_methodNamed Bd.named
  have hnm := (name_of_methodNamed Bd.named Bd.method).1
  have X0 : Stand p l e ({ frames := 0, cells := 0, slots := 0, locals := 0 } : Room) s m #[(.ref a1)] below meth c s₁ [] 0 0 := Stand.of_body Bd
  have e0 : s₁.heap = h0 := by rw [← hh, Bd.state]; rfl
  have N0 := Fr.nil n0
  have pre0 : ∀ tg_, Steps p.tables e below (s₁.setTop (mkF m 0 #[.val (.ref a1)] [])) tg_ → Steps p.tables e below (s₁.setTop (entryFrame m #[(.ref a1)] 1)) tg_ := fun tg_ k => castTop (ef_il m a1) k
  obtain ⟨T1, X1, e1, st1⟩ := getS2 X0 hx hZ hown (host := "") (Or.inl (hw _ (List.mem_of_getElem? (i := 23) rfl))) Via.refl e0 SC (g := (mkF m 0 #[.val (.ref a1)] [])) rfl (hb hby dil_0)
  have p_2 : ∀ tg_, Steps p.tables e below (T1.setTop (mkF m 7 #[.val (.ref a1)] [(.ref a1)])) tg_ → Steps p.tables e below (s₁.setTop (entryFrame m #[(.ref a1)] 1)) tg_ := by
    intro tg_ kk_
    refine pre0 tg_ ?_
    refine st1 _ ?_
    show Steps p.tables e below (T1.setTop (mkF m 3 #[.val (.ref a1)] [(.int cs)])) _
    refine XS.ifNo X1.here hx rfl (hb hby dil_3) rfl ((if0 _ _).trans (feq (show ¬ (cs = (0 : Int32)) from hcs)).1) ?_
    show Steps p.tables e below (T1.setTop (mkF m 6 #[.val (.ref a1)] [])) _
    refine XS.aloadN X1.here hx rfl (hb hby dil_6) rfl rfl ?_
    exact kk_
  obtain ⟨T3, X3, e3, st3⟩ := getF X1 hx hZ hown (host := "") (Or.inl (hw _ (List.mem_of_getElem? (i := 24) rfl))) Via.refl e1 FC (g := (mkF m 7 #[.val (.ref a1)] [(.ref a1)])) rfl rfl (hb hby dil_7)
  have p_4 : ∀ tg_, Steps p.tables e below (T3.setTop (mkF m 18 #[.val (.ref a1)] [(.int (1 : Int32))])) tg_ → Steps p.tables e below (s₁.setTop (entryFrame m #[(.ref a1)] 1)) tg_ := by
    intro tg_ kk_
    refine p_2 tg_ ?_
    refine st3 _ ?_
    show Steps p.tables e below (T3.setTop (mkF m 10 #[.val (.ref a1)] [(.int (0 : Int32))])) _
    refine XS.ifNo X3.here hx rfl (hb hby dil_10) rfl ((if0 _ _).trans (teq (show (0 : Int32) = (0 : Int32) from rfl)).2) ?_
    show Steps p.tables e below (T3.setTop (mkF m 13 #[.val (.ref a1)] [])) _
    refine XS.iconst X3.here hx rfl (hb hby dil_13) ?_
    show Steps p.tables e below (T3.setTop (mkF m 14 #[.val (.ref a1)] [(.int (1 : Int32))])) _
    refine XS.goto X3.here hx rfl (pc0 := 14) (pc' := 18) rfl (hb hby dil_14) (by decide) (by decide) ?_
    exact kk_
  obtain ⟨fs, hr, hrun, hended, hW, hsame⟩ := X3.leave (v := some (.int (1 : Int32))) (fun h => by rw [Bd.returns] at h; cases h)
  refine ⟨_, _, p_4 _ ?_, hrun, hended, _, _, rfl, ?_, ⟨_, rfl⟩, hW, hsame.mono (by decide) (by decide)⟩
  · show Steps p.tables e below (T3.setTop (mkF m 18 #[.val (.ref a1)] [(.int (1 : Int32))])) _
    exact retN X3 hx (t := .boolean) Bd.returns (by simp) (hb hby dil_18) hr
  · show Q_il Z a1 cs h0 n0 _ T3.heap _
    rw [e3]
    exact ⟨rfl, N0, rfl⟩
theorem dpc_0 : decode jdk_41_method_11_code 0 = .ok (.iload_n 0, 1) := by decide +kernel
theorem dpc_1 : decode jdk_41_method_11_code 1 = .ok (.ifCond .lt 8, 3) := by decide +kernel
theorem dpc_4 : decode jdk_41_method_11_code 4 = .ok (.iload_n 0, 1) := by decide +kernel
theorem dpc_5 : decode jdk_41_method_11_code 5 = .ok (.iload_n 1, 1) := by decide +kernel
theorem dpc_6 : decode jdk_41_method_11_code 6 = .ok (.if_icmp .lt 10, 3) := by decide +kernel
theorem dpc_16 : decode jdk_41_method_11_code 16 = .ok (.iload_n 0, 1) := by decide +kernel
theorem dpc_17 : decode jdk_41_method_11_code 17 = .ok (.ireturn, 1) := by decide +kernel
theorem pn_pc : plainName "jdk/internal/util/Preconditions" = true := by first | (simp [plainName, overriddenIn]; done) | decide +kernel
theorem ef_pc (m : MethodId) (x0 : Int32) (x1 : Int32) (x2 : Value) (hx2 : x2.isRef = true) : entryFrame m #[(.int x0), (.int x1), x2] 3 = mkF m 0 #[.val (.int x0), .val (.int x1), .val x2] [] := by rcases ref_cases hx2 with rfl | ⟨_, rfl⟩ <;> first | (simp [entryFrame, mkF, argsToLocals, Value.category]; done) | rfl
def Q_pc (Z : State) (p1 p2 : Int32) (fv : Value) (h0 : Heap) (n0 : Nat) (v : Option Value) (h : Heap) (L : List Loc) : Prop := v = some (.int p1) ∧ Fr n0 L ∧ h = h0
set_option maxRecDepth 65536 in
set_option maxHeartbeats 40000000 in
theorem rm_pc (l : Launch) (Z : State) (a0 : Array Value) (hw : ∀ d ∈ tables_1, d.before a0 Z = true) (ws : List Jvm.Cond) (p1 p2 : Int32) (fv : Value) (h0 : Heap) (n0 : Nat) (Z0 : n0 ≤ h0.size) (hfv : fv.isRef = true) (hi0 : ¬ (p1 < (0 : Int32))) (hi1 : p1 < p2) :
    MetFree l (⟨"jdk/internal/util/Preconditions", "checkIndex", "(IILjava/util/function/BiFunction;)I"⟩ : MethodName) (head1 (Jvm.Cond.code (⟨"jdk/internal/util/Preconditions", "checkIndex", "(IILjava/util/function/BiFunction;)I"⟩ : MethodName) jdk_41_method_11_code 3 (some .int) :: ws) ({ frames := 0, cells := 0, slots := 0, locals := 0 } : Room)) (fun a U => a = #[(.int p1), (.int p2), fv] ∧ Z.Warmed39 U.vm ∧ U.heap = h0) (fun _ _ _ _ _ => True) (fun _ U o U' => ∃ v L, o = .returned v ∧ Q_pc Z p1 p2 fv h0 n0 v U'.heap L ∧ FrameEnd U o U' L ({ frames := 0, cells := 0, slots := 0, locals := 0 } : Room).cells ({ frames := 0, cells := 0, slots := 0, locals := 0 } : Room).slots) := by
  refine MetFree.of_bodySF (plainFor_of_name pn_pc) hisR ?_
  intro p e s m args below meth c s₁ Bd hml0 hP hK
  obtain ⟨rfl, hZ, hh⟩ := hP
  have hx := Bd.exec
  have hby := Bd.bytes
  have hml : c.maxLocals = 3 := hml0
  have hown : s.vm.findClass "jdk/internal/util/Preconditions" = some m.cls := findClass_of_methodNamed Bd.named
  have hnm := (name_of_methodNamed Bd.named Bd.method).1
  have X0 : Stand p l e ({ frames := 0, cells := 0, slots := 0, locals := 0 } : Room) s m #[(.int p1), (.int p2), fv] below meth c s₁ [] 0 0 := Stand.of_body Bd
  have e0 : s₁.heap = h0 := by rw [← hh, Bd.state]; rfl
  have N0 := Fr.nil n0
  have pre0 : ∀ tg_, Steps p.tables e below (s₁.setTop (mkF m 0 #[.val (.int p1), .val (.int p2), .val fv] [])) tg_ → Steps p.tables e below (s₁.setTop (entryFrame m #[(.int p1), (.int p2), fv] 3)) tg_ := fun tg_ k => castTop (ef_pc m p1 p2 fv hfv) k
  have p_1 : ∀ tg_, Steps p.tables e below (s₁.setTop (mkF m 17 #[.val (.int p1), .val (.int p2), .val fv] [(.int p1)])) tg_ → Steps p.tables e below (s₁.setTop (entryFrame m #[(.int p1), (.int p2), fv] 3)) tg_ := by
    intro tg_ kk_
    refine pre0 tg_ ?_
    show Steps p.tables e below (s₁.setTop (mkF m 0 #[.val (.int p1), .val (.int p2), .val fv] [])) _
    refine XS.iloadN X0.here hx rfl (hb hby dpc_0) rfl ?_
    show Steps p.tables e below (s₁.setTop (mkF m 1 #[.val (.int p1), .val (.int p2), .val fv] [(.int p1)])) _
    refine XS.ifNo X0.here hx rfl (hb hby dpc_1) rfl ((if0 _ _).trans (flt (show ¬ (p1 < (0 : Int32)) from hi0)).1) ?_
    show Steps p.tables e below (s₁.setTop (mkF m 4 #[.val (.int p1), .val (.int p2), .val fv] [])) _
    refine XS.iloadN X0.here hx rfl (hb hby dpc_4) rfl ?_
    show Steps p.tables e below (s₁.setTop (mkF m 5 #[.val (.int p1), .val (.int p2), .val fv] [(.int p1)])) _
    refine XS.iloadN X0.here hx rfl (hb hby dpc_5) rfl ?_
    show Steps p.tables e below (s₁.setTop (mkF m 6 #[.val (.int p1), .val (.int p2), .val fv] [(.int p2), (.int p1)])) _
    refine XS.icmpYes X0.here hx rfl (pc0 := 6) (pc' := 16) rfl (hb hby dpc_6) rfl (tlt (show p1 < p2 from hi1)).1 (by decide) (by decide) ?_
    show Steps p.tables e below (s₁.setTop (mkF m 16 #[.val (.int p1), .val (.int p2), .val fv] [])) _
    refine XS.iloadN X0.here hx rfl (hb hby dpc_16) rfl ?_
    exact kk_
  obtain ⟨fs, hr, hrun, hended, hW, hsame⟩ := X0.leave (v := some (.int p1)) (fun h => by rw [Bd.returns] at h; cases h)
  refine ⟨_, _, p_1 _ ?_, hrun, hended, _, _, rfl, ?_, ⟨_, rfl⟩, hW, hsame.mono (by decide) (by decide)⟩
  · show Steps p.tables e below (s₁.setTop (mkF m 17 #[.val (.int p1), .val (.int p2), .val fv] [(.int p1)])) _
    exact retI X0 hx Bd.returns (hb hby dpc_17) hr
  · show Q_pc Z p1 p2 fv h0 n0 _ s₁.heap _
    rw [e0]
    exact ⟨rfl, N0, rfl⟩
theorem dsc_0 : decode jdk_42_method_155_code 0 = .ok (.iload_n 0, 1) := by decide +kernel
theorem dsc_1 : decode jdk_42_method_155_code 1 = .ok (.iload_n 1, 1) := by decide +kernel
theorem dsc_2 : decode jdk_42_method_155_code 2 = .ok (.getstatic 1053, 3) := by decide +kernel
theorem dsc_5 : decode jdk_42_method_155_code 5 = .ok (.invokestatic 1059, 3) := by decide +kernel
theorem dsc_8 : decode jdk_42_method_155_code 8 = .ok (.pop, 1) := by decide +kernel
theorem dsc_9 : decode jdk_42_method_155_code 9 = .ok (.return_, 1) := by decide +kernel
theorem pd_sc_0 : parseMethodDescriptor "(IILjava/util/function/BiFunction;)I" = some ⟨[.int, .int, (.object "java/util/function/BiFunction")], some .int⟩ := by decide +kernel
theorem pn_sc : plainName "java/lang/String" = true := by first | (simp [plainName, overriddenIn]; done) | decide +kernel
theorem ef_sc (m : MethodId) (x0 : Int32) (x1 : Int32) : entryFrame m #[(.int x0), (.int x1)] 2 = mkF m 0 #[.val (.int x0), .val (.int x1)] [] := by first | (simp [entryFrame, mkF, argsToLocals, Value.category]; done) | rfl
def Q_sc (Z : State) (p1 p2 : Int32) (fv : Value) (h0 : Heap) (n0 : Nat) (v : Option Value) (h : Heap) (L : List Loc) : Prop := v = none ∧ Fr n0 L ∧ h = h0
set_option maxRecDepth 65536 in
set_option maxHeartbeats 40000000 in
theorem rm_sc (l : Launch) (Z : State) (a0 : Array Value) (hw : ∀ d ∈ tables_1, d.before a0 Z = true) (ws : List Jvm.Cond) (p1 p2 : Int32) (fv : Value) (h0 : Heap) (n0 : Nat) (Z0 : n0 ≤ h0.size) (SF : Sta Z h0 "jdk/internal/util/Preconditions" "SIOOBE_FORMATTER" "Ljava/util/function/BiFunction;" fv) (hfv : fv.isRef = true) (hi0 : ¬ (p1 < (0 : Int32))) (hi1 : p1 < p2) :
    MetFree l (⟨"java/lang/String", "checkIndex", "(II)V"⟩ : MethodName) (head1 (Jvm.Cond.code (⟨"java/lang/String", "checkIndex", "(II)V"⟩ : MethodName) jdk_42_method_155_code 2 none :: ws) ({ frames := 1, cells := 0, slots := 0, locals := 14 } : Room)) (fun a U => a = #[(.int p1), (.int p2)] ∧ Z.Warmed39 U.vm ∧ U.heap = h0) (fun _ _ _ _ _ => True) (fun _ U o U' => ∃ v L, o = .returned v ∧ Q_sc Z p1 p2 fv h0 n0 v U'.heap L ∧ FrameEnd U o U' L ({ frames := 1, cells := 0, slots := 0, locals := 14 } : Room).cells ({ frames := 1, cells := 0, slots := 0, locals := 14 } : Room).slots) := by
  refine MetFree.of_bodySF (plainFor_of_name pn_sc) hisR ?_
  intro p e s m args below meth c s₁ Bd hml0 hP hK
  obtain ⟨rfl, hZ, hh⟩ := hP
  have hx := Bd.exec
  have hby := Bd.bytes
  have hml : c.maxLocals = 2 := hml0
  have hown : s.vm.findClass "java/lang/String" = some m.cls := findClass_of_methodNamed Bd.named
  have hnm := (name_of_methodNamed Bd.named Bd.method).1
  have X0 : Stand p l e ({ frames := 1, cells := 0, slots := 0, locals := 14 } : Room) s m #[(.int p1), (.int p2)] below meth c s₁ [] 0 0 := Stand.of_body Bd
  have e0 : s₁.heap = h0 := by rw [← hh, Bd.state]; rfl
  have N0 := Fr.nil n0
  have pre0 : ∀ tg_, Steps p.tables e below (s₁.setTop (mkF m 0 #[.val (.int p1), .val (.int p2)] [])) tg_ → Steps p.tables e below (s₁.setTop (entryFrame m #[(.int p1), (.int p2)] 2)) tg_ := fun tg_ k => castTop (ef_sc m p1 p2) k
  have p_1 : ∀ tg_, Steps p.tables e below (s₁.setTop (mkF m 2 #[.val (.int p1), .val (.int p2)] [(.int p2), (.int p1)])) tg_ → Steps p.tables e below (s₁.setTop (entryFrame m #[(.int p1), (.int p2)] 2)) tg_ := by
    intro tg_ kk_
    refine pre0 tg_ ?_
    show Steps p.tables e below (s₁.setTop (mkF m 0 #[.val (.int p1), .val (.int p2)] [])) _
    refine XS.iloadN X0.here hx rfl (hb hby dsc_0) rfl ?_
    show Steps p.tables e below (s₁.setTop (mkF m 1 #[.val (.int p1), .val (.int p2)] [(.int p1)])) _
    refine XS.iloadN X0.here hx rfl (hb hby dsc_1) rfl ?_
    exact kk_
  obtain ⟨T2, X2, e2, st2⟩ := getS2 X0 hx hZ hown (host := "") (Or.inl (hw _ (List.mem_of_getElem? (i := 33) rfl))) Via.refl e0 SF (g := (mkF m 2 #[.val (.int p1), .val (.int p2)] [(.int p2), (.int p1)])) rfl (hb hby dsc_2)
  have p_3 : ∀ tg_, Steps p.tables e below (T2.setTop (mkF m 5 #[.val (.int p1), .val (.int p2)] [fv, (.int p2), (.int p1)])) tg_ → Steps p.tables e below (s₁.setTop (entryFrame m #[(.int p1), (.int p2)] 2)) tg_ := by
    intro tg_ kk_
    refine p_1 tg_ ?_
    refine st2 _ ?_
    exact kk_
  obtain ⟨_, _, ⟨T4, L4, k4, n4⟩, -, X4, ⟨Lc4, hQ4, l4, y4, z4⟩, st4⟩ := Jvm.LawKit.callS X2 hx (y := (⟨"jdk/internal/util/Preconditions", "checkIndex", "(IILjava/util/function/BiFunction;)I"⟩ : MethodName)) hown (mvT hZ (hw _ (List.mem_of_getElem? (i := 35) rfl))) (mvT hZ (hw _ (List.mem_of_getElem? (i := 36) rfl))) (mvT hZ (hw _ (List.mem_of_getElem? (i := 34) rfl))) (mvT hZ (hw _ (List.mem_of_getElem? (i := 37) rfl))) (by decide) (backOf (W := 0) (rm_pc l Z a0 hw [] p1 p2 fv h0 n0 Z0 hfv hi0 hi1) hZ (hw _ (List.mem_of_getElem? (i := 37) rfl)) (hw _ (List.mem_of_getElem? (i := 34) rfl)) (by decide) (by decide)) (g := (mkF m 5 #[.val (.int p1), .val (.int p2)] [fv, (.int p2), (.int p1)])) rfl (by rw [hml]; rfl) (argsL := [(.int p1), (.int p2), fv]) (rest := []) (lenOf pd_sc_0 rfl) rfl (by show 2 * 0 + _ ≤ _; exact Nat.le_of_eq rfl) (hb hby dsc_5) (fun _ _ => ⟨rfl, e2, (by decide : 0 + 0 ≤ _), (by decide : 0 + 0 ≤ _)⟩)
  dsimp only [Pt.U, Pt.locs, Pt.cells, Pt.slots] at X4 l4 y4 z4 st4 hQ4
  subst l4 y4 z4
  obtain ⟨rfl, N4q, hh4⟩ := hQ4
  have N4 := Fr.app N0 N4q
  have p_5 : ∀ tg_, Steps p.tables e below (T4.setTop (mkF m 9 #[.val (.int p1), .val (.int p2)] [])) tg_ → Steps p.tables e below (s₁.setTop (entryFrame m #[(.int p1), (.int p2)] 2)) tg_ := by
    intro tg_ kk_
    refine p_3 tg_ ?_
    refine st4 _ ?_
    show Steps p.tables e below (T4.setTop (mkF m 8 #[.val (.int p1), .val (.int p2)] [(.int p1)])) _
    refine XS.pop X4.here hx rfl (hb hby dsc_8) rfl rfl ?_
    exact kk_
  obtain ⟨fs, hr, hrun, hended, hW, hsame⟩ := X4.leave (v := none) (fun _ => rfl)
  refine ⟨_, _, p_5 _ ?_, hrun, hended, _, _, rfl, ?_, ⟨_, rfl⟩, hW, hsame.mono (by decide) (by decide)⟩
  · show Steps p.tables e below (T4.setTop (mkF m 9 #[.val (.int p1), .val (.int p2)] [])) _
    exact X4.returnOut hx Bd.returns (hb hby dsc_9) hr
  · show Q_sc Z p1 p2 fv h0 n0 _ T4.heap _
    exact ⟨rfl, N4, hh4⟩
theorem dlc_0 : decode jdk_43_method_2_code 0 = .ok (.iload_n 1, 1) := by decide +kernel
theorem dlc_1 : decode jdk_43_method_2_code 1 = .ok (.aload_n 0, 1) := by decide +kernel
theorem dlc_2 : decode jdk_43_method_2_code 2 = .ok (.arraylength, 1) := by decide +kernel
theorem dlc_3 : decode jdk_43_method_2_code 3 = .ok (.invokestatic 9, 3) := by decide +kernel
theorem dlc_6 : decode jdk_43_method_2_code 6 = .ok (.aload_n 0, 1) := by decide +kernel
theorem dlc_7 : decode jdk_43_method_2_code 7 = .ok (.iload_n 1, 1) := by decide +kernel
theorem dlc_8 : decode jdk_43_method_2_code 8 = .ok (.baload, 1) := by decide +kernel
theorem dlc_9 : decode jdk_43_method_2_code 9 = .ok (.sipush 255, 3) := by decide +kernel
theorem dlc_12 : decode jdk_43_method_2_code 12 = .ok (.iand, 1) := by decide +kernel
theorem dlc_13 : decode jdk_43_method_2_code 13 = .ok (.i2c, 1) := by decide +kernel
theorem dlc_14 : decode jdk_43_method_2_code 14 = .ok (.ireturn, 1) := by decide +kernel
theorem pd_lc_0 : parseMethodDescriptor "(II)V" = some ⟨[.int, .int], none⟩ := by decide +kernel
theorem pn_lc : plainName "java/lang/StringLatin1" = true := by first | (simp [plainName, overriddenIn]; done) | decide +kernel
theorem ef_lc (m : MethodId) (x0 : Addr) (x1 : Int32) : entryFrame m #[(.ref x0), (.int x1)] 2 = mkF m 0 #[.val (.ref x0), .val (.int x1)] [] := by first | (simp [entryFrame, mkF, argsToLocals, Value.category]; done) | rfl
def Q_lc (Z : State) (t1 : Addr) (p2 : Int32) (fv : Value) (n : Nat) (f : Nat → Int32) (z : Int32) (h0 : Heap) (n0 : Nat) (v : Option Value) (h : Heap) (L : List Loc) : Prop := v = some (.int ((f p2.toNatClampNeg) &&& (255 : Int32))) ∧ Fr n0 L ∧ h = h0
set_option maxRecDepth 65536 in
set_option maxHeartbeats 40000000 in
theorem rm_lc (l : Launch) (Z : State) (a0 : Array Value) (hw : ∀ d ∈ tables_1, d.before a0 Z = true) (ws : List Jvm.Cond) (t1 : Addr) (p2 : Int32) (fv : Value) (n : Nat) (f : Nat → Int32) (z : Int32) (h0 : Heap) (n0 : Nat) (Z0 : n0 ≤ h0.size) (SF : Sta Z h0 "jdk/internal/util/Preconditions" "SIOOBE_FORMATTER" "Ljava/util/function/BiFunction;" fv) (hfv : fv.isRef = true) (F : OAf Z h0 t1 .byte n f) (hz : n.toInt32 = z) (hi0 : ¬ (p2 < (0 : Int32))) (hi1 : p2 < z) (hi2 : p2.toNatClampNeg < n) :
    MetFree l (⟨"java/lang/StringLatin1", "charAt", "([BI)C"⟩ : MethodName) (head1 (Jvm.Cond.code (⟨"java/lang/StringLatin1", "charAt", "([BI)C"⟩ : MethodName) jdk_43_method_2_code 2 (some .char) :: ws) ({ frames := 2, cells := 0, slots := 0, locals := 27 } : Room)) (fun a U => a = #[(.ref t1), (.int p2)] ∧ Z.Warmed39 U.vm ∧ U.heap = h0) (fun _ _ _ _ _ => True) (fun _ U o U' => ∃ v L, o = .returned v ∧ Q_lc Z t1 p2 fv n f z h0 n0 v U'.heap L ∧ FrameEnd U o U' L ({ frames := 2, cells := 0, slots := 0, locals := 27 } : Room).cells ({ frames := 2, cells := 0, slots := 0, locals := 27 } : Room).slots) := by
  refine MetFree.of_bodySF (plainFor_of_name pn_lc) hisR ?_
  intro p e s m args below meth c s₁ Bd hml0 hP hK
  obtain ⟨rfl, hZ, hh⟩ := hP
  have hx := Bd.exec
  have hby := Bd.bytes
  have hml : c.maxLocals = 2 := hml0
  have hown : s.vm.findClass "java/lang/StringLatin1" = some m.cls := findClass_of_methodNamed Bd.named
  have hnm := (name_of_methodNamed Bd.named Bd.method).1
  have X0 : Stand p l e ({ frames := 2, cells := 0, slots := 0, locals := 27 } : Room) s m #[(.ref t1), (.int p2)] below meth c s₁ [] 0 0 := Stand.of_body Bd
  have e0 : s₁.heap = h0 := by rw [← hh, Bd.state]; rfl
  have N0 := Fr.nil n0
  have pre0 : ∀ tg_, Steps p.tables e below (s₁.setTop (mkF m 0 #[.val (.ref t1), .val (.int p2)] [])) tg_ → Steps p.tables e below (s₁.setTop (entryFrame m #[(.ref t1), (.int p2)] 2)) tg_ := fun tg_ k => castTop (ef_lc m t1 p2) k
  have p_1 : ∀ tg_, Steps p.tables e below (s₁.setTop (mkF m 3 #[.val (.ref t1), .val (.int p2)] [(.int z), (.int p2)])) tg_ → Steps p.tables e below (s₁.setTop (entryFrame m #[(.ref t1), (.int p2)] 2)) tg_ := by
    intro tg_ kk_
    refine pre0 tg_ ?_
    show Steps p.tables e below (s₁.setTop (mkF m 0 #[.val (.ref t1), .val (.int p2)] [])) _
    refine XS.iloadN X0.here hx rfl (hb hby dlc_0) rfl ?_
    show Steps p.tables e below (s₁.setTop (mkF m 1 #[.val (.ref t1), .val (.int p2)] [(.int p2)])) _
    refine XS.aloadN X0.here hx rfl (hb hby dlc_1) rfl rfl ?_
    show Steps p.tables e below (s₁.setTop (mkF m 2 #[.val (.ref t1), .val (.int p2)] [(.ref t1), (.int p2)])) _
    refine own_len X0 hx hZ e0 F (z := z) hz (g := (mkF m 2 #[.val (.ref t1), .val (.int p2)] [(.ref t1), (.int p2)])) rfl rfl (hb hby dlc_2) _ ?_
    exact kk_
  obtain ⟨_, _, ⟨T2, L2, k2, n2⟩, -, X2, ⟨Lc2, hQ2, l2, y2, z2⟩, st2⟩ := Jvm.LawKit.callS X0 hx (y := (⟨"java/lang/String", "checkIndex", "(II)V"⟩ : MethodName)) hown (mvT hZ (hw _ (List.mem_of_getElem? (i := 30) rfl))) (mvT hZ (hw _ (List.mem_of_getElem? (i := 31) rfl))) (mvT hZ (hw _ (List.mem_of_getElem? (i := 1) rfl))) (mvT hZ (hw _ (List.mem_of_getElem? (i := 32) rfl))) (by decide) (backOf (W := 0) (rm_sc l Z a0 hw [] p2 z fv h0 n0 Z0 SF hfv hi0 hi1) hZ (hw _ (List.mem_of_getElem? (i := 32) rfl)) (hw _ (List.mem_of_getElem? (i := 1) rfl)) (by decide) (by decide)) (g := (mkF m 3 #[.val (.ref t1), .val (.int p2)] [(.int z), (.int p2)])) rfl (by rw [hml]; rfl) (argsL := [(.int p2), (.int z)]) (rest := []) (lenOf pd_lc_0 rfl) rfl (by show 2 * 0 + _ ≤ _; exact Nat.le_of_eq rfl) (hb hby dlc_3) (fun _ _ => ⟨rfl, e0, (by decide : 0 + 0 ≤ _), (by decide : 0 + 0 ≤ _)⟩)
  dsimp only [Pt.U, Pt.locs, Pt.cells, Pt.slots] at X2 l2 y2 z2 st2 hQ2
  subst l2 y2 z2
  obtain ⟨rfl, N2q, hh2⟩ := hQ2
  have N2 := Fr.app N0 N2q
  rw [← hh2] at F
  have p_3 : ∀ tg_, Steps p.tables e below (T2.setTop (mkF m 14 #[.val (.ref t1), .val (.int p2)] [(.int (((f p2.toNatClampNeg) &&& (255 : Int32)).toUInt32.toUInt16.toUInt32.toInt32))])) tg_ → Steps p.tables e below (s₁.setTop (entryFrame m #[(.ref t1), (.int p2)] 2)) tg_ := by
    intro tg_ kk_
    refine p_1 tg_ ?_
    refine st2 _ ?_
    show Steps p.tables e below (T2.setTop (mkF m 6 #[.val (.ref t1), .val (.int p2)] [])) _
    refine XS.aloadN X2.here hx rfl (hb hby dlc_6) rfl rfl ?_
    show Steps p.tables e below (T2.setTop (mkF m 7 #[.val (.ref t1), .val (.int p2)] [(.ref t1)])) _
    refine XS.iloadN X2.here hx rfl (hb hby dlc_7) rfl ?_
    show Steps p.tables e below (T2.setTop (mkF m 8 #[.val (.ref t1), .val (.int p2)] [(.int p2), (.ref t1)])) _
    refine own_baload X2 hx hZ rfl F (j := p2) hi0 hi2 (g := (mkF m 8 #[.val (.ref t1), .val (.int p2)] [(.int p2), (.ref t1)])) rfl rfl (hb hby dlc_8) _ ?_
    show Steps p.tables e below (T2.setTop (mkF m 9 #[.val (.ref t1), .val (.int p2)] [(.int (f p2.toNatClampNeg))])) _
    refine XS.sipush X2.here hx rfl (hb hby dlc_9) ?_
    show Steps p.tables e below (T2.setTop (mkF m 12 #[.val (.ref t1), .val (.int p2)] [(.int (255 : Int32)), (.int (f p2.toNatClampNeg))])) _
    refine XS.iand X2.here hx rfl (hb hby dlc_12) rfl ?_
    show Steps p.tables e below (T2.setTop (mkF m 13 #[.val (.ref t1), .val (.int p2)] [(.int ((f p2.toNatClampNeg) &&& (255 : Int32)))])) _
    refine XS.i2c X2.here hx rfl (hb hby dlc_13) rfl ?_
    exact kk_
  obtain ⟨fs, hr, hrun, hended, hW, hsame⟩ := X2.leave (v := some (.int ((f p2.toNatClampNeg) &&& (255 : Int32)))) (fun h => by rw [Bd.returns] at h; cases h)
  refine ⟨_, _, p_3 _ ?_, hrun, hended, _, _, rfl, ?_, ⟨_, rfl⟩, hW, hsame.mono (by decide) (by decide)⟩
  · show Steps p.tables e below (T2.setTop (mkF m 14 #[.val (.ref t1), .val (.int p2)] [(.int (((f p2.toNatClampNeg) &&& (255 : Int32)).toUInt32.toUInt16.toUInt32.toInt32))])) _
    have hval : ((f p2.toNatClampNeg) &&& (255 : Int32)) = (nar .char (((f p2.toNatClampNeg) &&& (255 : Int32)).toUInt32.toUInt16.toUInt32.toInt32)) := by
      exact own_nc2 _
    rw [hval] at hr
    exact retN X2 hx (t := .char) Bd.returns (by simp) (hb hby dlc_14) hr
  · show Q_lc Z t1 p2 fv n f z h0 n0 _ T2.heap _
    exact ⟨rfl, N2, hh2⟩
theorem dch_0 : decode jdk_42_method_56_code 0 = .ok (.aload_n 0, 1) := by decide +kernel
theorem dch_1 : decode jdk_42_method_56_code 1 = .ok (.invokevirtual 492, 3) := by decide +kernel
theorem dch_4 : decode jdk_42_method_56_code 4 = .ok (.ifCond .eq 12, 3) := by decide +kernel
theorem dch_7 : decode jdk_42_method_56_code 7 = .ok (.aload_n 0, 1) := by decide +kernel
theorem dch_8 : decode jdk_42_method_56_code 8 = .ok (.getfield 9, 3) := by decide +kernel
theorem dch_11 : decode jdk_42_method_56_code 11 = .ok (.iload_n 1, 1) := by decide +kernel
theorem dch_12 : decode jdk_42_method_56_code 12 = .ok (.invokestatic 495, 3) := by decide +kernel
theorem dch_15 : decode jdk_42_method_56_code 15 = .ok (.ireturn, 1) := by decide +kernel
theorem pd_ch_0 : parseMethodDescriptor "()Z" = some ⟨[], some .boolean⟩ := by decide +kernel
theorem pd_ch_1 : parseMethodDescriptor "([BI)C" = some ⟨[(.array .byte), .int], some .char⟩ := by decide +kernel
theorem pn_ch : plainName "java/lang/String" = true := by first | (simp [plainName, overriddenIn]; done) | decide +kernel
theorem ef_ch (m : MethodId) (x0 : Addr) (x1 : Int32) : entryFrame m #[(.ref x0), (.int x1)] 2 = mkF m 0 #[.val (.ref x0), .val (.int x1)] [] := by first | (simp [entryFrame, mkF, argsToLocals, Value.category]; done) | rfl
def Q_ch (Z : State) (a1 : Addr) (p2 cs : Int32) (fv : Value) (t1 : Addr) (n : Nat) (f : Nat → Int32) (z : Int32) (h0 : Heap) (n0 : Nat) (v : Option Value) (h : Heap) (L : List Loc) : Prop := v = some (.int ((f p2.toNatClampNeg) &&& (255 : Int32))) ∧ Fr n0 L ∧ h = h0
set_option maxRecDepth 65536 in
set_option maxHeartbeats 40000000 in
theorem rm_ch (l : Launch) (Z : State) (a0 : Array Value) (hw : ∀ d ∈ tables_1, d.before a0 Z = true) (ws : List Jvm.Cond) (a1 : Addr) (p2 cs : Int32) (fv : Value) (t1 : Addr) (n : Nat) (f : Nat → Int32) (z : Int32) (h0 : Heap) (n0 : Nat) (Z0 : n0 ≤ h0.size) (SC : Sta Z h0 "java/lang/String" "COMPACT_STRINGS" "Z" (.int cs)) (hcs : ¬ (cs = (0 : Int32))) (SF : Sta Z h0 "jdk/internal/util/Preconditions" "SIOOBE_FORMATTER" "Ljava/util/function/BiFunction;" fv) (hfv : fv.isRef = true) (E1 : Exa Z h0 a1 "java/lang/String") (FC : Fld Z h0 a1 "java/lang/String" "coder" "B" (.int (0 : Int32))) (FV : Fld Z h0 a1 "java/lang/String" "value" "[B" (.ref t1)) (F : OAf Z h0 t1 .byte n f) (hz : n.toInt32 = z) (hi0 : ¬ (p2 < (0 : Int32))) (hi1 : p2 < z) (hi2 : p2.toNatClampNeg < n) :
    MetFree l (⟨"java/lang/String", "charAt", "(I)C"⟩ : MethodName) (head1 (Jvm.Cond.code (⟨"java/lang/String", "charAt", "(I)C"⟩ : MethodName) jdk_42_method_56_code 2 (some .char) :: ws) ({ frames := 3, cells := 0, slots := 0, locals := 40 } : Room)) (fun a U => a = #[(.ref a1), (.int p2)] ∧ Z.Warmed39 U.vm ∧ U.heap = h0) (fun _ _ _ _ _ => True) (fun _ U o U' => ∃ v L, o = .returned v ∧ Q_ch Z a1 p2 cs fv t1 n f z h0 n0 v U'.heap L ∧ FrameEnd U o U' L ({ frames := 3, cells := 0, slots := 0, locals := 40 } : Room).cells ({ frames := 3, cells := 0, slots := 0, locals := 40 } : Room).slots) := by
  refine MetFree.of_bodySF (plainFor_of_name pn_ch) hisR ?_
  intro p e s m args below meth c s₁ Bd hml0 hP hK
  obtain ⟨rfl, hZ, hh⟩ := hP
  have hx := Bd.exec
  have hby := Bd.bytes
  have hml : c.maxLocals = 2 := hml0
  have hown : s.vm.findClass "java/lang/String" = some m.cls := findClass_of_methodNamed Bd.named
  have hnm := (name_of_methodNamed Bd.named Bd.method).1
  have X0 : Stand p l e ({ frames := 3, cells := 0, slots := 0, locals := 40 } : Room) s m #[(.ref a1), (.int p2)] below meth c s₁ [] 0 0 := Stand.of_body Bd
  have e0 : s₁.heap = h0 := by rw [← hh, Bd.state]; rfl
  have N0 := Fr.nil n0
  have pre0 : ∀ tg_, Steps p.tables e below (s₁.setTop (mkF m 0 #[.val (.ref a1), .val (.int p2)] [])) tg_ → Steps p.tables e below (s₁.setTop (entryFrame m #[(.ref a1), (.int p2)] 2)) tg_ := fun tg_ k => castTop (ef_ch m a1 p2) k
  have p_1 : ∀ tg_, Steps p.tables e below (s₁.setTop (mkF m 1 #[.val (.ref a1), .val (.int p2)] [(.ref a1)])) tg_ → Steps p.tables e below (s₁.setTop (entryFrame m #[(.ref a1), (.int p2)] 2)) tg_ := by
    intro tg_ kk_
    refine pre0 tg_ ?_
    show Steps p.tables e below (s₁.setTop (mkF m 0 #[.val (.ref a1), .val (.int p2)] [])) _
    refine XS.aloadN X0.here hx rfl (hb hby dch_0) rfl rfl ?_
    exact kk_
  obtain ⟨cq2, kq2, q2a, q2b, q2c⟩ := isOf hZ e0 E1
  obtain ⟨_, _, ⟨T2, L2, k2, n2⟩, -, X2, ⟨Lc2, hQ2, l2, y2, z2⟩, st2⟩ := X0.virtualBack hx (y := (⟨"java/lang/String", "isLatin1", "()Z"⟩ : MethodName)) (z := (⟨"java/lang/String", "isLatin1", "()Z"⟩ : MethodName)) hown (mvT hZ (hw _ (List.mem_of_getElem? (i := 18) rfl))) (mvT hZ (hw _ (List.mem_of_getElem? (i := 19) rfl))) (notFace_of_selects (args := #[]) (mvT hZ (hw _ (List.mem_of_getElem? (i := 21) rfl)))) (mvT hZ (hw _ (List.mem_of_getElem? (i := 21) rfl))) (mvT hZ (hw _ (List.mem_of_getElem? (i := 20) rfl))) (by decide) (backOf (W := 0) (rm_il l Z a0 hw [] a1 cs h0 n0 Z0 SC hcs FC) hZ (hw _ (List.mem_of_getElem? (i := 22) rfl)) (hw _ (List.mem_of_getElem? (i := 1) rfl)) (by decide) (by decide)) q2a q2c (g := (mkF m 1 #[.val (.ref a1), .val (.int p2)] [(.ref a1)])) rfl (by rw [hml]; rfl) (Steps.refl _) (argsL := []) (rest := []) (lenOf pd_ch_0 rfl) rfl (by show 2 * 0 + _ ≤ _; exact Nat.le_of_eq rfl) (hb hby dch_1) (fun _ _ => ⟨rfl, e0, (by decide : 0 + 0 ≤ _), (by decide : 0 + 0 ≤ _)⟩)
  dsimp only [Pt.U, Pt.locs, Pt.cells, Pt.slots] at X2 l2 y2 z2 st2 hQ2
  subst l2 y2 z2
  obtain ⟨rfl, N2q, hh2⟩ := hQ2
  have N2 := Fr.app N0 N2q
  rw [← hh2] at Z0 SF FV F
  have p_3 : ∀ tg_, Steps p.tables e below (T2.setTop (mkF m 8 #[.val (.ref a1), .val (.int p2)] [(.ref a1)])) tg_ → Steps p.tables e below (s₁.setTop (entryFrame m #[(.ref a1), (.int p2)] 2)) tg_ := by
    intro tg_ kk_
    refine p_1 tg_ ?_
    refine st2.trans ?_
    show Steps p.tables e below (T2.setTop (mkF m 4 #[.val (.ref a1), .val (.int p2)] [(.int (1 : Int32))])) _
    refine XS.ifNo X2.here hx rfl (hb hby dch_4) rfl ((if0 _ _).trans (feq (show ¬ ((1 : Int32) = (0 : Int32)) from (by decide))).1) ?_
    show Steps p.tables e below (T2.setTop (mkF m 7 #[.val (.ref a1), .val (.int p2)] [])) _
    refine XS.aloadN X2.here hx rfl (hb hby dch_7) rfl rfl ?_
    exact kk_
  obtain ⟨T4, X4, e4, st4⟩ := getF X2 hx hZ hown (host := "") (Or.inl (hw _ (List.mem_of_getElem? (i := 25) rfl))) Via.refl rfl FV (g := (mkF m 8 #[.val (.ref a1), .val (.int p2)] [(.ref a1)])) rfl rfl (hb hby dch_8)
  have p_5 : ∀ tg_, Steps p.tables e below (T4.setTop (mkF m 12 #[.val (.ref a1), .val (.int p2)] [(.int p2), (.ref t1)])) tg_ → Steps p.tables e below (s₁.setTop (entryFrame m #[(.ref a1), (.int p2)] 2)) tg_ := by
    intro tg_ kk_
    refine p_3 tg_ ?_
    refine st4 _ ?_
    show Steps p.tables e below (T4.setTop (mkF m 11 #[.val (.ref a1), .val (.int p2)] [(.ref t1)])) _
    refine XS.iloadN X4.here hx rfl (hb hby dch_11) rfl ?_
    exact kk_
  obtain ⟨_, _, ⟨T6, L6, k6, n6⟩, -, X6, ⟨Lc6, hQ6, l6, y6, z6⟩, st6⟩ := Jvm.LawKit.callS X4 hx (y := (⟨"java/lang/StringLatin1", "charAt", "([BI)C"⟩ : MethodName)) hown (mvT hZ (hw _ (List.mem_of_getElem? (i := 26) rfl))) (mvT hZ (hw _ (List.mem_of_getElem? (i := 27) rfl))) (mvT hZ (hw _ (List.mem_of_getElem? (i := 28) rfl))) (mvT hZ (hw _ (List.mem_of_getElem? (i := 29) rfl))) (by decide) (backOf (W := 0) (rm_lc l Z a0 hw [] t1 p2 fv n f z T2.heap n0 Z0 SF hfv F hz hi0 hi1 hi2) hZ (hw _ (List.mem_of_getElem? (i := 29) rfl)) (hw _ (List.mem_of_getElem? (i := 28) rfl)) (by decide) (by decide)) (g := (mkF m 12 #[.val (.ref a1), .val (.int p2)] [(.int p2), (.ref t1)])) rfl (by rw [hml]; rfl) (argsL := [(.ref t1), (.int p2)]) (rest := []) (lenOf pd_ch_1 rfl) rfl (by show 2 * 0 + _ ≤ _; exact Nat.le_of_eq rfl) (hb hby dch_12) (fun _ _ => ⟨rfl, e4, (by decide : 0 + 0 ≤ _), (by decide : 0 + 0 ≤ _)⟩)
  dsimp only [Pt.U, Pt.locs, Pt.cells, Pt.slots] at X6 l6 y6 z6 st6 hQ6
  subst l6 y6 z6
  obtain ⟨rfl, N6q, hh6⟩ := hQ6
  have N6 := Fr.app N2 N6q
  have p_7 : ∀ tg_, Steps p.tables e below (T6.setTop (mkF m 15 #[.val (.ref a1), .val (.int p2)] [(.int ((f p2.toNatClampNeg) &&& (255 : Int32)))])) tg_ → Steps p.tables e below (s₁.setTop (entryFrame m #[(.ref a1), (.int p2)] 2)) tg_ := by
    intro tg_ kk_
    refine p_5 tg_ ?_
    refine st6 _ ?_
    exact kk_
  obtain ⟨fs, hr, hrun, hended, hW, hsame⟩ := X6.leave (v := some (.int ((f p2.toNatClampNeg) &&& (255 : Int32)))) (fun h => by rw [Bd.returns] at h; cases h)
  refine ⟨_, _, p_7 _ ?_, hrun, hended, _, _, rfl, ?_, ⟨_, rfl⟩, hW, hsame.mono (by decide) (by decide)⟩
  · show Steps p.tables e below (T6.setTop (mkF m 15 #[.val (.ref a1), .val (.int p2)] [(.int ((f p2.toNatClampNeg) &&& (255 : Int32)))])) _
    have hval : ((f p2.toNatClampNeg) &&& (255 : Int32)) = (nar .char ((f p2.toNatClampNeg) &&& (255 : Int32))) := by
      exact own_nc _
    rw [hval] at hr
    exact retN X6 hx (t := .char) Bd.returns (by simp) (hb hby dch_15) hr
  · show Q_ch Z a1 p2 cs fv t1 n f z h0 n0 _ T6.heap _
    exact ⟨rfl, N6, hh6.trans hh2⟩
theorem dhex_0 : decode prog_45_method_4_code 0 = .ok (.iload_n 0, 1) := by decide +kernel
theorem dhex_1 : decode prog_45_method_4_code 1 = .ok (.bipush 48, 2) := by decide +kernel
theorem dhex_3 : decode prog_45_method_4_code 3 = .ok (.if_icmp .lt 14, 3) := by decide +kernel
theorem dhex_6 : decode prog_45_method_4_code 6 = .ok (.iload_n 0, 1) := by decide +kernel
theorem dhex_7 : decode prog_45_method_4_code 7 = .ok (.bipush 57, 2) := by decide +kernel
theorem dhex_9 : decode prog_45_method_4_code 9 = .ok (.if_icmp .gt 8, 3) := by decide +kernel
theorem dhex_12 : decode prog_45_method_4_code 12 = .ok (.iload_n 0, 1) := by decide +kernel
theorem dhex_13 : decode prog_45_method_4_code 13 = .ok (.bipush 48, 2) := by decide +kernel
theorem dhex_15 : decode prog_45_method_4_code 15 = .ok (.isub, 1) := by decide +kernel
theorem dhex_16 : decode prog_45_method_4_code 16 = .ok (.ireturn, 1) := by decide +kernel
theorem dhex_17 : decode prog_45_method_4_code 17 = .ok (.iload_n 0, 1) := by decide +kernel
theorem dhex_18 : decode prog_45_method_4_code 18 = .ok (.bipush 97, 2) := by decide +kernel
theorem dhex_20 : decode prog_45_method_4_code 20 = .ok (.if_icmp .lt 17, 3) := by decide +kernel
theorem dhex_23 : decode prog_45_method_4_code 23 = .ok (.iload_n 0, 1) := by decide +kernel
theorem dhex_24 : decode prog_45_method_4_code 24 = .ok (.bipush 102, 2) := by decide +kernel
theorem dhex_26 : decode prog_45_method_4_code 26 = .ok (.if_icmp .gt 11, 3) := by decide +kernel
theorem dhex_29 : decode prog_45_method_4_code 29 = .ok (.iload_n 0, 1) := by decide +kernel
theorem dhex_30 : decode prog_45_method_4_code 30 = .ok (.bipush 97, 2) := by decide +kernel
theorem dhex_32 : decode prog_45_method_4_code 32 = .ok (.isub, 1) := by decide +kernel
theorem dhex_33 : decode prog_45_method_4_code 33 = .ok (.bipush 10, 2) := by decide +kernel
theorem dhex_35 : decode prog_45_method_4_code 35 = .ok (.iadd, 1) := by decide +kernel
theorem dhex_36 : decode prog_45_method_4_code 36 = .ok (.ireturn, 1) := by decide +kernel
theorem dhex_37 : decode prog_45_method_4_code 37 = .ok (.iload_n 0, 1) := by decide +kernel
theorem dhex_38 : decode prog_45_method_4_code 38 = .ok (.bipush 65, 2) := by decide +kernel
theorem dhex_40 : decode prog_45_method_4_code 40 = .ok (.if_icmp .lt 17, 3) := by decide +kernel
theorem dhex_43 : decode prog_45_method_4_code 43 = .ok (.iload_n 0, 1) := by decide +kernel
theorem dhex_44 : decode prog_45_method_4_code 44 = .ok (.bipush 70, 2) := by decide +kernel
theorem dhex_46 : decode prog_45_method_4_code 46 = .ok (.if_icmp .gt 11, 3) := by decide +kernel
theorem dhex_49 : decode prog_45_method_4_code 49 = .ok (.iload_n 0, 1) := by decide +kernel
theorem dhex_50 : decode prog_45_method_4_code 50 = .ok (.bipush 65, 2) := by decide +kernel
theorem dhex_52 : decode prog_45_method_4_code 52 = .ok (.isub, 1) := by decide +kernel
theorem dhex_53 : decode prog_45_method_4_code 53 = .ok (.bipush 10, 2) := by decide +kernel
theorem dhex_55 : decode prog_45_method_4_code 55 = .ok (.iadd, 1) := by decide +kernel
theorem dhex_56 : decode prog_45_method_4_code 56 = .ok (.ireturn, 1) := by decide +kernel
theorem dhex_57 : decode prog_45_method_4_code 57 = .ok (.iconst (-1), 1) := by decide +kernel
theorem dhex_58 : decode prog_45_method_4_code 58 = .ok (.ireturn, 1) := by decide +kernel
theorem pn_hex : plainName "com/example/nodewright/nodewright/reader/EncodedNames" = true := by first | (simp [plainName, overriddenIn]; done) | decide +kernel
theorem ef_hex (m : MethodId) (x0 : Int32) : entryFrame m #[(.int x0)] 1 = mkF m 0 #[.val (.int x0)] [] := by first | (simp [entryFrame, mkF, argsToLocals, Value.category]; done) | rfl
def Q_hex (Z : State) (p1 : Int32) (h0 : Heap) (n0 : Nat) (v : Option Value) (h : Heap) (L : List Loc) : Prop := v = some (.int (own_hex p1)) ∧ Fr n0 L ∧ h = h0
set_option maxRecDepth 65536 in
set_option maxHeartbeats 40000000 in
theorem rm_hex (l : Launch) (Z : State) (a0 : Array Value) (hw : ∀ d ∈ tables_1, d.before a0 Z = true) (ws : List Jvm.Cond) (p1 : Int32) (h0 : Heap) (n0 : Nat) (Z0 : n0 ≤ h0.size)  :
    MetFree l (⟨"com/example/nodewright/nodewright/reader/EncodedNames", "hexDigit", "(C)I"⟩ : MethodName) (head1 (Jvm.Cond.code (⟨"com/example/nodewright/nodewright/reader/EncodedNames", "hexDigit", "(C)I"⟩ : MethodName) prog_45_method_4_code 1 (some .int) :: ws) ({ frames := 0, cells := 0, slots := 0, locals := 0 } : Room)) (fun a U => a = #[(.int p1)] ∧ Z.Warmed39 U.vm ∧ U.heap = h0) (fun _ _ _ _ _ => True) (fun _ U o U' => ∃ v L, o = .returned v ∧ Q_hex Z p1 h0 n0 v U'.heap L ∧ FrameEnd U o U' L ({ frames := 0, cells := 0, slots := 0, locals := 0 } : Room).cells ({ frames := 0, cells := 0, slots := 0, locals := 0 } : Room).slots) := by
  refine MetFree.of_bodySF (plainFor_of_name pn_hex) hisR ?_
  intro p e s m args below meth c s₁ Bd hml0 hP hK
  obtain ⟨rfl, hZ, hh⟩ := hP
  have hx := Bd.exec
  have hby := Bd.bytes
  have hml : c.maxLocals = 1 := hml0
  have hown : s.vm.findClass "com/example/nodewright/nodewright/reader/EncodedNames" = some m.cls := findClass_of_methodNamed Bd.named
  have hnm := (name_of_methodNamed Bd.named Bd.method).1
  have X0 : Stand p l e ({ frames := 0, cells := 0, slots := 0, locals := 0 } : Room) s m #[(.int p1)] below meth c s₁ [] 0 0 := Stand.of_body Bd
  have e0 : s₁.heap = h0 := by rw [← hh, Bd.state]; rfl
  have N0 := Fr.nil n0
  have pre0 : ∀ tg_, Steps p.tables e below (s₁.setTop (mkF m 0 #[.val (.int p1)] [])) tg_ → Steps p.tables e below (s₁.setTop (entryFrame m #[(.int p1)] 1)) tg_ := fun tg_ k => castTop (ef_hex m p1) k
  obtain ⟨fs, hr, hrun, hended, hW, hsame⟩ := X0.leave (v := some (.int (own_hex p1))) (fun h => by rw [Bd.returns] at h; cases h)
  refine ⟨_, _, pre0 _ ?_, hrun, hended, _, _, rfl, ?_, ⟨_, rfl⟩, hW, hsame.mono (by decide) (by decide)⟩
  · show Steps p.tables e below (s₁.setTop (mkF m 0 #[.val (.int p1)] [])) _
    refine XS.iloadN X0.here hx rfl (hb hby dhex_0) rfl ?_
    show Steps p.tables e below (s₁.setTop (mkF m 1 #[.val (.int p1)] [(.int p1)])) _
    refine XS.bipush X0.here hx rfl (hb hby dhex_1) ?_
    show Steps p.tables e below (s₁.setTop (mkF m 3 #[.val (.int p1)] [(.int (48 : Int32)), (.int p1)])) _
    by_cases hc3 : p1 < (48 : Int32)
    · show Steps p.tables e below (s₁.setTop (mkF m 3 #[.val (.int p1)] [(.int (48 : Int32)), (.int p1)])) _
      refine XS.icmpYes X0.here hx rfl (pc0 := 3) (pc' := 17) rfl (hb hby dhex_3) rfl (tlt (show p1 < (48 : Int32) from hc3)).1 (by decide) (by decide) ?_
      show Steps p.tables e below (s₁.setTop (mkF m 17 #[.val (.int p1)] [])) _
      refine XS.iloadN X0.here hx rfl (hb hby dhex_17) rfl ?_
      show Steps p.tables e below (s₁.setTop (mkF m 18 #[.val (.int p1)] [(.int p1)])) _
      refine XS.bipush X0.here hx rfl (hb hby dhex_18) ?_
      show Steps p.tables e below (s₁.setTop (mkF m 20 #[.val (.int p1)] [(.int (97 : Int32)), (.int p1)])) _
      by_cases hc20 : p1 < (97 : Int32)
      · show Steps p.tables e below (s₁.setTop (mkF m 20 #[.val (.int p1)] [(.int (97 : Int32)), (.int p1)])) _
        refine XS.icmpYes X0.here hx rfl (pc0 := 20) (pc' := 37) rfl (hb hby dhex_20) rfl (tlt (show p1 < (97 : Int32) from hc20)).1 (by decide) (by decide) ?_
        show Steps p.tables e below (s₁.setTop (mkF m 37 #[.val (.int p1)] [])) _
        refine XS.iloadN X0.here hx rfl (hb hby dhex_37) rfl ?_
        show Steps p.tables e below (s₁.setTop (mkF m 38 #[.val (.int p1)] [(.int p1)])) _
        refine XS.bipush X0.here hx rfl (hb hby dhex_38) ?_
        show Steps p.tables e below (s₁.setTop (mkF m 40 #[.val (.int p1)] [(.int (65 : Int32)), (.int p1)])) _
        by_cases hc40 : p1 < (65 : Int32)
        · show Steps p.tables e below (s₁.setTop (mkF m 40 #[.val (.int p1)] [(.int (65 : Int32)), (.int p1)])) _
          refine XS.icmpYes X0.here hx rfl (pc0 := 40) (pc' := 57) rfl (hb hby dhex_40) rfl (tlt (show p1 < (65 : Int32) from hc40)).1 (by decide) (by decide) ?_
          show Steps p.tables e below (s₁.setTop (mkF m 57 #[.val (.int p1)] [])) _
          refine XS.iconst X0.here hx rfl (hb hby dhex_57) ?_
          show Steps p.tables e below (s₁.setTop (mkF m 58 #[.val (.int p1)] [(.int (-1 : Int32))])) _
          have hval : (own_hex p1) = (-1 : Int32) := by
            simp only [own_hex, own_hexA, own_hexB, if_pos hc3, if_pos hc20, if_pos hc40]
          rw [hval] at hr
          exact retI X0 hx Bd.returns (hb hby dhex_58) hr
        · show Steps p.tables e below (s₁.setTop (mkF m 40 #[.val (.int p1)] [(.int (65 : Int32)), (.int p1)])) _
          refine XS.icmpNo X0.here hx rfl (hb hby dhex_40) rfl (flt (show ¬ (p1 < (65 : Int32)) from hc40)).1 ?_
          show Steps p.tables e below (s₁.setTop (mkF m 43 #[.val (.int p1)] [])) _
          refine XS.iloadN X0.here hx rfl (hb hby dhex_43) rfl ?_
          show Steps p.tables e below (s₁.setTop (mkF m 44 #[.val (.int p1)] [(.int p1)])) _
          refine XS.bipush X0.here hx rfl (hb hby dhex_44) ?_
          show Steps p.tables e below (s₁.setTop (mkF m 46 #[.val (.int p1)] [(.int (70 : Int32)), (.int p1)])) _
          by_cases hc46 : (70 : Int32) < p1
          · show Steps p.tables e below (s₁.setTop (mkF m 46 #[.val (.int p1)] [(.int (70 : Int32)), (.int p1)])) _
            refine XS.icmpYes X0.here hx rfl (pc0 := 46) (pc' := 57) rfl (hb hby dhex_46) rfl (tlt (show (70 : Int32) < p1 from hc46)).2.2.1 (by decide) (by decide) ?_
            show Steps p.tables e below (s₁.setTop (mkF m 57 #[.val (.int p1)] [])) _
            refine XS.iconst X0.here hx rfl (hb hby dhex_57) ?_
            show Steps p.tables e below (s₁.setTop (mkF m 58 #[.val (.int p1)] [(.int (-1 : Int32))])) _
            have hval : (own_hex p1) = (-1 : Int32) := by
              simp only [own_hex, own_hexA, own_hexB, if_pos hc3, if_pos hc20, if_neg hc40, if_pos hc46]
            rw [hval] at hr
            exact retI X0 hx Bd.returns (hb hby dhex_58) hr
          · show Steps p.tables e below (s₁.setTop (mkF m 46 #[.val (.int p1)] [(.int (70 : Int32)), (.int p1)])) _
            refine XS.icmpNo X0.here hx rfl (hb hby dhex_46) rfl (flt (show ¬ ((70 : Int32) < p1) from hc46)).2.2.1 ?_
            show Steps p.tables e below (s₁.setTop (mkF m 49 #[.val (.int p1)] [])) _
            refine XS.iloadN X0.here hx rfl (hb hby dhex_49) rfl ?_
            show Steps p.tables e below (s₁.setTop (mkF m 50 #[.val (.int p1)] [(.int p1)])) _
            refine XS.bipush X0.here hx rfl (hb hby dhex_50) ?_
            show Steps p.tables e below (s₁.setTop (mkF m 52 #[.val (.int p1)] [(.int (65 : Int32)), (.int p1)])) _
            refine XS.isub X0.here hx rfl (hb hby dhex_52) rfl ?_
            show Steps p.tables e below (s₁.setTop (mkF m 53 #[.val (.int p1)] [(.int (p1 - (65 : Int32)))])) _
            refine XS.bipush X0.here hx rfl (hb hby dhex_53) ?_
            show Steps p.tables e below (s₁.setTop (mkF m 55 #[.val (.int p1)] [(.int (10 : Int32)), (.int (p1 - (65 : Int32)))])) _
            refine XS.iadd X0.here hx rfl (hb hby dhex_55) rfl ?_
            show Steps p.tables e below (s₁.setTop (mkF m 56 #[.val (.int p1)] [(.int ((p1 - (65 : Int32)) + (10 : Int32)))])) _
            have hval : (own_hex p1) = ((p1 - (65 : Int32)) + (10 : Int32)) := by
              simp only [own_hex, own_hexA, own_hexB, if_pos hc3, if_pos hc20, if_neg hc40, if_neg hc46]
            rw [hval] at hr
            exact retI X0 hx Bd.returns (hb hby dhex_56) hr
      · show Steps p.tables e below (s₁.setTop (mkF m 20 #[.val (.int p1)] [(.int (97 : Int32)), (.int p1)])) _
        refine XS.icmpNo X0.here hx rfl (hb hby dhex_20) rfl (flt (show ¬ (p1 < (97 : Int32)) from hc20)).1 ?_
        show Steps p.tables e below (s₁.setTop (mkF m 23 #[.val (.int p1)] [])) _
        refine XS.iloadN X0.here hx rfl (hb hby dhex_23) rfl ?_
        show Steps p.tables e below (s₁.setTop (mkF m 24 #[.val (.int p1)] [(.int p1)])) _
        refine XS.bipush X0.here hx rfl (hb hby dhex_24) ?_
        show Steps p.tables e below (s₁.setTop (mkF m 26 #[.val (.int p1)] [(.int (102 : Int32)), (.int p1)])) _
        by_cases hc26 : (102 : Int32) < p1
        · show Steps p.tables e below (s₁.setTop (mkF m 26 #[.val (.int p1)] [(.int (102 : Int32)), (.int p1)])) _
          refine XS.icmpYes X0.here hx rfl (pc0 := 26) (pc' := 37) rfl (hb hby dhex_26) rfl (tlt (show (102 : Int32) < p1 from hc26)).2.2.1 (by decide) (by decide) ?_
          show Steps p.tables e below (s₁.setTop (mkF m 37 #[.val (.int p1)] [])) _
          refine XS.iloadN X0.here hx rfl (hb hby dhex_37) rfl ?_
          show Steps p.tables e below (s₁.setTop (mkF m 38 #[.val (.int p1)] [(.int p1)])) _
          refine XS.bipush X0.here hx rfl (hb hby dhex_38) ?_
          show Steps p.tables e below (s₁.setTop (mkF m 40 #[.val (.int p1)] [(.int (65 : Int32)), (.int p1)])) _
          by_cases hc40 : p1 < (65 : Int32)
          · show Steps p.tables e below (s₁.setTop (mkF m 40 #[.val (.int p1)] [(.int (65 : Int32)), (.int p1)])) _
            refine XS.icmpYes X0.here hx rfl (pc0 := 40) (pc' := 57) rfl (hb hby dhex_40) rfl (tlt (show p1 < (65 : Int32) from hc40)).1 (by decide) (by decide) ?_
            show Steps p.tables e below (s₁.setTop (mkF m 57 #[.val (.int p1)] [])) _
            refine XS.iconst X0.here hx rfl (hb hby dhex_57) ?_
            show Steps p.tables e below (s₁.setTop (mkF m 58 #[.val (.int p1)] [(.int (-1 : Int32))])) _
            have hval : (own_hex p1) = (-1 : Int32) := by
              simp only [own_hex, own_hexA, own_hexB, if_pos hc3, if_neg hc20, if_pos hc26, if_pos hc40]
            rw [hval] at hr
            exact retI X0 hx Bd.returns (hb hby dhex_58) hr
          · show Steps p.tables e below (s₁.setTop (mkF m 40 #[.val (.int p1)] [(.int (65 : Int32)), (.int p1)])) _
            refine XS.icmpNo X0.here hx rfl (hb hby dhex_40) rfl (flt (show ¬ (p1 < (65 : Int32)) from hc40)).1 ?_
            show Steps p.tables e below (s₁.setTop (mkF m 43 #[.val (.int p1)] [])) _
            refine XS.iloadN X0.here hx rfl (hb hby dhex_43) rfl ?_
            show Steps p.tables e below (s₁.setTop (mkF m 44 #[.val (.int p1)] [(.int p1)])) _
            refine XS.bipush X0.here hx rfl (hb hby dhex_44) ?_
            show Steps p.tables e below (s₁.setTop (mkF m 46 #[.val (.int p1)] [(.int (70 : Int32)), (.int p1)])) _
            by_cases hc46 : (70 : Int32) < p1
            · show Steps p.tables e below (s₁.setTop (mkF m 46 #[.val (.int p1)] [(.int (70 : Int32)), (.int p1)])) _
              refine XS.icmpYes X0.here hx rfl (pc0 := 46) (pc' := 57) rfl (hb hby dhex_46) rfl (tlt (show (70 : Int32) < p1 from hc46)).2.2.1 (by decide) (by decide) ?_
              show Steps p.tables e below (s₁.setTop (mkF m 57 #[.val (.int p1)] [])) _
              refine XS.iconst X0.here hx rfl (hb hby dhex_57) ?_
              show Steps p.tables e below (s₁.setTop (mkF m 58 #[.val (.int p1)] [(.int (-1 : Int32))])) _
              have hval : (own_hex p1) = (-1 : Int32) := by
                simp only [own_hex, own_hexA, own_hexB, if_pos hc3, if_neg hc20, if_pos hc26, if_neg hc40, if_pos hc46]
              rw [hval] at hr
              exact retI X0 hx Bd.returns (hb hby dhex_58) hr
            · show Steps p.tables e below (s₁.setTop (mkF m 46 #[.val (.int p1)] [(.int (70 : Int32)), (.int p1)])) _
              refine XS.icmpNo X0.here hx rfl (hb hby dhex_46) rfl (flt (show ¬ ((70 : Int32) < p1) from hc46)).2.2.1 ?_
              show Steps p.tables e below (s₁.setTop (mkF m 49 #[.val (.int p1)] [])) _
              refine XS.iloadN X0.here hx rfl (hb hby dhex_49) rfl ?_
              show Steps p.tables e below (s₁.setTop (mkF m 50 #[.val (.int p1)] [(.int p1)])) _
              refine XS.bipush X0.here hx rfl (hb hby dhex_50) ?_
              show Steps p.tables e below (s₁.setTop (mkF m 52 #[.val (.int p1)] [(.int (65 : Int32)), (.int p1)])) _
              refine XS.isub X0.here hx rfl (hb hby dhex_52) rfl ?_
              show Steps p.tables e below (s₁.setTop (mkF m 53 #[.val (.int p1)] [(.int (p1 - (65 : Int32)))])) _
              refine XS.bipush X0.here hx rfl (hb hby dhex_53) ?_
              show Steps p.tables e below (s₁.setTop (mkF m 55 #[.val (.int p1)] [(.int (10 : Int32)), (.int (p1 - (65 : Int32)))])) _
              refine XS.iadd X0.here hx rfl (hb hby dhex_55) rfl ?_
              show Steps p.tables e below (s₁.setTop (mkF m 56 #[.val (.int p1)] [(.int ((p1 - (65 : Int32)) + (10 : Int32)))])) _
              have hval : (own_hex p1) = ((p1 - (65 : Int32)) + (10 : Int32)) := by
                simp only [own_hex, own_hexA, own_hexB, if_pos hc3, if_neg hc20, if_pos hc26, if_neg hc40, if_neg hc46]
              rw [hval] at hr
              exact retI X0 hx Bd.returns (hb hby dhex_56) hr
        · show Steps p.tables e below (s₁.setTop (mkF m 26 #[.val (.int p1)] [(.int (102 : Int32)), (.int p1)])) _
          refine XS.icmpNo X0.here hx rfl (hb hby dhex_26) rfl (flt (show ¬ ((102 : Int32) < p1) from hc26)).2.2.1 ?_
          show Steps p.tables e below (s₁.setTop (mkF m 29 #[.val (.int p1)] [])) _
          refine XS.iloadN X0.here hx rfl (hb hby dhex_29) rfl ?_
          show Steps p.tables e below (s₁.setTop (mkF m 30 #[.val (.int p1)] [(.int p1)])) _
          refine XS.bipush X0.here hx rfl (hb hby dhex_30) ?_
          show Steps p.tables e below (s₁.setTop (mkF m 32 #[.val (.int p1)] [(.int (97 : Int32)), (.int p1)])) _
          refine XS.isub X0.here hx rfl (hb hby dhex_32) rfl ?_
          show Steps p.tables e below (s₁.setTop (mkF m 33 #[.val (.int p1)] [(.int (p1 - (97 : Int32)))])) _
          refine XS.bipush X0.here hx rfl (hb hby dhex_33) ?_
          show Steps p.tables e below (s₁.setTop (mkF m 35 #[.val (.int p1)] [(.int (10 : Int32)), (.int (p1 - (97 : Int32)))])) _
          refine XS.iadd X0.here hx rfl (hb hby dhex_35) rfl ?_
          show Steps p.tables e below (s₁.setTop (mkF m 36 #[.val (.int p1)] [(.int ((p1 - (97 : Int32)) + (10 : Int32)))])) _
          have hval : (own_hex p1) = ((p1 - (97 : Int32)) + (10 : Int32)) := by
            simp only [own_hex, own_hexA, own_hexB, if_pos hc3, if_neg hc20, if_neg hc26]
          rw [hval] at hr
          exact retI X0 hx Bd.returns (hb hby dhex_36) hr
    · show Steps p.tables e below (s₁.setTop (mkF m 3 #[.val (.int p1)] [(.int (48 : Int32)), (.int p1)])) _
      refine XS.icmpNo X0.here hx rfl (hb hby dhex_3) rfl (flt (show ¬ (p1 < (48 : Int32)) from hc3)).1 ?_
      show Steps p.tables e below (s₁.setTop (mkF m 6 #[.val (.int p1)] [])) _
      refine XS.iloadN X0.here hx rfl (hb hby dhex_6) rfl ?_
      show Steps p.tables e below (s₁.setTop (mkF m 7 #[.val (.int p1)] [(.int p1)])) _
      refine XS.bipush X0.here hx rfl (hb hby dhex_7) ?_
      show Steps p.tables e below (s₁.setTop (mkF m 9 #[.val (.int p1)] [(.int (57 : Int32)), (.int p1)])) _
      by_cases hc9 : (57 : Int32) < p1
      · show Steps p.tables e below (s₁.setTop (mkF m 9 #[.val (.int p1)] [(.int (57 : Int32)), (.int p1)])) _
        refine XS.icmpYes X0.here hx rfl (pc0 := 9) (pc' := 17) rfl (hb hby dhex_9) rfl (tlt (show (57 : Int32) < p1 from hc9)).2.2.1 (by decide) (by decide) ?_
        show Steps p.tables e below (s₁.setTop (mkF m 17 #[.val (.int p1)] [])) _
        refine XS.iloadN X0.here hx rfl (hb hby dhex_17) rfl ?_
        show Steps p.tables e below (s₁.setTop (mkF m 18 #[.val (.int p1)] [(.int p1)])) _
        refine XS.bipush X0.here hx rfl (hb hby dhex_18) ?_
        show Steps p.tables e below (s₁.setTop (mkF m 20 #[.val (.int p1)] [(.int (97 : Int32)), (.int p1)])) _
        by_cases hc20 : p1 < (97 : Int32)
        · show Steps p.tables e below (s₁.setTop (mkF m 20 #[.val (.int p1)] [(.int (97 : Int32)), (.int p1)])) _
          refine XS.icmpYes X0.here hx rfl (pc0 := 20) (pc' := 37) rfl (hb hby dhex_20) rfl (tlt (show p1 < (97 : Int32) from hc20)).1 (by decide) (by decide) ?_
          show Steps p.tables e below (s₁.setTop (mkF m 37 #[.val (.int p1)] [])) _
          refine XS.iloadN X0.here hx rfl (hb hby dhex_37) rfl ?_
          show Steps p.tables e below (s₁.setTop (mkF m 38 #[.val (.int p1)] [(.int p1)])) _
          refine XS.bipush X0.here hx rfl (hb hby dhex_38) ?_
          show Steps p.tables e below (s₁.setTop (mkF m 40 #[.val (.int p1)] [(.int (65 : Int32)), (.int p1)])) _
          by_cases hc40 : p1 < (65 : Int32)
          · show Steps p.tables e below (s₁.setTop (mkF m 40 #[.val (.int p1)] [(.int (65 : Int32)), (.int p1)])) _
            refine XS.icmpYes X0.here hx rfl (pc0 := 40) (pc' := 57) rfl (hb hby dhex_40) rfl (tlt (show p1 < (65 : Int32) from hc40)).1 (by decide) (by decide) ?_
            show Steps p.tables e below (s₁.setTop (mkF m 57 #[.val (.int p1)] [])) _
            refine XS.iconst X0.here hx rfl (hb hby dhex_57) ?_
            show Steps p.tables e below (s₁.setTop (mkF m 58 #[.val (.int p1)] [(.int (-1 : Int32))])) _
            have hval : (own_hex p1) = (-1 : Int32) := by
              simp only [own_hex, own_hexA, own_hexB, if_neg hc3, if_pos hc9, if_pos hc20, if_pos hc40]
            rw [hval] at hr
            exact retI X0 hx Bd.returns (hb hby dhex_58) hr
          · show Steps p.tables e below (s₁.setTop (mkF m 40 #[.val (.int p1)] [(.int (65 : Int32)), (.int p1)])) _
            refine XS.icmpNo X0.here hx rfl (hb hby dhex_40) rfl (flt (show ¬ (p1 < (65 : Int32)) from hc40)).1 ?_
            show Steps p.tables e below (s₁.setTop (mkF m 43 #[.val (.int p1)] [])) _
            refine XS.iloadN X0.here hx rfl (hb hby dhex_43) rfl ?_
            show Steps p.tables e below (s₁.setTop (mkF m 44 #[.val (.int p1)] [(.int p1)])) _
            refine XS.bipush X0.here hx rfl (hb hby dhex_44) ?_
            show Steps p.tables e below (s₁.setTop (mkF m 46 #[.val (.int p1)] [(.int (70 : Int32)), (.int p1)])) _
            by_cases hc46 : (70 : Int32) < p1
            · show Steps p.tables e below (s₁.setTop (mkF m 46 #[.val (.int p1)] [(.int (70 : Int32)), (.int p1)])) _
              refine XS.icmpYes X0.here hx rfl (pc0 := 46) (pc' := 57) rfl (hb hby dhex_46) rfl (tlt (show (70 : Int32) < p1 from hc46)).2.2.1 (by decide) (by decide) ?_
              show Steps p.tables e below (s₁.setTop (mkF m 57 #[.val (.int p1)] [])) _
              refine XS.iconst X0.here hx rfl (hb hby dhex_57) ?_
              show Steps p.tables e below (s₁.setTop (mkF m 58 #[.val (.int p1)] [(.int (-1 : Int32))])) _
              have hval : (own_hex p1) = (-1 : Int32) := by
                simp only [own_hex, own_hexA, own_hexB, if_neg hc3, if_pos hc9, if_pos hc20, if_neg hc40, if_pos hc46]
              rw [hval] at hr
              exact retI X0 hx Bd.returns (hb hby dhex_58) hr
            · show Steps p.tables e below (s₁.setTop (mkF m 46 #[.val (.int p1)] [(.int (70 : Int32)), (.int p1)])) _
              refine XS.icmpNo X0.here hx rfl (hb hby dhex_46) rfl (flt (show ¬ ((70 : Int32) < p1) from hc46)).2.2.1 ?_
              show Steps p.tables e below (s₁.setTop (mkF m 49 #[.val (.int p1)] [])) _
              refine XS.iloadN X0.here hx rfl (hb hby dhex_49) rfl ?_
              show Steps p.tables e below (s₁.setTop (mkF m 50 #[.val (.int p1)] [(.int p1)])) _
              refine XS.bipush X0.here hx rfl (hb hby dhex_50) ?_
              show Steps p.tables e below (s₁.setTop (mkF m 52 #[.val (.int p1)] [(.int (65 : Int32)), (.int p1)])) _
              refine XS.isub X0.here hx rfl (hb hby dhex_52) rfl ?_
              show Steps p.tables e below (s₁.setTop (mkF m 53 #[.val (.int p1)] [(.int (p1 - (65 : Int32)))])) _
              refine XS.bipush X0.here hx rfl (hb hby dhex_53) ?_
              show Steps p.tables e below (s₁.setTop (mkF m 55 #[.val (.int p1)] [(.int (10 : Int32)), (.int (p1 - (65 : Int32)))])) _
              refine XS.iadd X0.here hx rfl (hb hby dhex_55) rfl ?_
              show Steps p.tables e below (s₁.setTop (mkF m 56 #[.val (.int p1)] [(.int ((p1 - (65 : Int32)) + (10 : Int32)))])) _
              have hval : (own_hex p1) = ((p1 - (65 : Int32)) + (10 : Int32)) := by
                simp only [own_hex, own_hexA, own_hexB, if_neg hc3, if_pos hc9, if_pos hc20, if_neg hc40, if_neg hc46]
              rw [hval] at hr
              exact retI X0 hx Bd.returns (hb hby dhex_56) hr
        · show Steps p.tables e below (s₁.setTop (mkF m 20 #[.val (.int p1)] [(.int (97 : Int32)), (.int p1)])) _
          refine XS.icmpNo X0.here hx rfl (hb hby dhex_20) rfl (flt (show ¬ (p1 < (97 : Int32)) from hc20)).1 ?_
          show Steps p.tables e below (s₁.setTop (mkF m 23 #[.val (.int p1)] [])) _
          refine XS.iloadN X0.here hx rfl (hb hby dhex_23) rfl ?_
          show Steps p.tables e below (s₁.setTop (mkF m 24 #[.val (.int p1)] [(.int p1)])) _
          refine XS.bipush X0.here hx rfl (hb hby dhex_24) ?_
          show Steps p.tables e below (s₁.setTop (mkF m 26 #[.val (.int p1)] [(.int (102 : Int32)), (.int p1)])) _
          by_cases hc26 : (102 : Int32) < p1
          · show Steps p.tables e below (s₁.setTop (mkF m 26 #[.val (.int p1)] [(.int (102 : Int32)), (.int p1)])) _
            refine XS.icmpYes X0.here hx rfl (pc0 := 26) (pc' := 37) rfl (hb hby dhex_26) rfl (tlt (show (102 : Int32) < p1 from hc26)).2.2.1 (by decide) (by decide) ?_
            show Steps p.tables e below (s₁.setTop (mkF m 37 #[.val (.int p1)] [])) _
            refine XS.iloadN X0.here hx rfl (hb hby dhex_37) rfl ?_
            show Steps p.tables e below (s₁.setTop (mkF m 38 #[.val (.int p1)] [(.int p1)])) _
            refine XS.bipush X0.here hx rfl (hb hby dhex_38) ?_
            show Steps p.tables e below (s₁.setTop (mkF m 40 #[.val (.int p1)] [(.int (65 : Int32)), (.int p1)])) _
            by_cases hc40 : p1 < (65 : Int32)
            · show Steps p.tables e below (s₁.setTop (mkF m 40 #[.val (.int p1)] [(.int (65 : Int32)), (.int p1)])) _
              refine XS.icmpYes X0.here hx rfl (pc0 := 40) (pc' := 57) rfl (hb hby dhex_40) rfl (tlt (show p1 < (65 : Int32) from hc40)).1 (by decide) (by decide) ?_
              show Steps p.tables e below (s₁.setTop (mkF m 57 #[.val (.int p1)] [])) _
              refine XS.iconst X0.here hx rfl (hb hby dhex_57) ?_
              show Steps p.tables e below (s₁.setTop (mkF m 58 #[.val (.int p1)] [(.int (-1 : Int32))])) _
              have hval : (own_hex p1) = (-1 : Int32) := by
                simp only [own_hex, own_hexA, own_hexB, if_neg hc3, if_pos hc9, if_neg hc20, if_pos hc26, if_pos hc40]
              rw [hval] at hr
              exact retI X0 hx Bd.returns (hb hby dhex_58) hr
            · show Steps p.tables e below (s₁.setTop (mkF m 40 #[.val (.int p1)] [(.int (65 : Int32)), (.int p1)])) _
              refine XS.icmpNo X0.here hx rfl (hb hby dhex_40) rfl (flt (show ¬ (p1 < (65 : Int32)) from hc40)).1 ?_
              show Steps p.tables e below (s₁.setTop (mkF m 43 #[.val (.int p1)] [])) _
              refine XS.iloadN X0.here hx rfl (hb hby dhex_43) rfl ?_
              show Steps p.tables e below (s₁.setTop (mkF m 44 #[.val (.int p1)] [(.int p1)])) _
              refine XS.bipush X0.here hx rfl (hb hby dhex_44) ?_
              show Steps p.tables e below (s₁.setTop (mkF m 46 #[.val (.int p1)] [(.int (70 : Int32)), (.int p1)])) _
              by_cases hc46 : (70 : Int32) < p1
              · show Steps p.tables e below (s₁.setTop (mkF m 46 #[.val (.int p1)] [(.int (70 : Int32)), (.int p1)])) _
                refine XS.icmpYes X0.here hx rfl (pc0 := 46) (pc' := 57) rfl (hb hby dhex_46) rfl (tlt (show (70 : Int32) < p1 from hc46)).2.2.1 (by decide) (by decide) ?_
                show Steps p.tables e below (s₁.setTop (mkF m 57 #[.val (.int p1)] [])) _
                refine XS.iconst X0.here hx rfl (hb hby dhex_57) ?_
                show Steps p.tables e below (s₁.setTop (mkF m 58 #[.val (.int p1)] [(.int (-1 : Int32))])) _
                have hval : (own_hex p1) = (-1 : Int32) := by
                  simp only [own_hex, own_hexA, own_hexB, if_neg hc3, if_pos hc9, if_neg hc20, if_pos hc26, if_neg hc40, if_pos hc46]
                rw [hval] at hr
                exact retI X0 hx Bd.returns (hb hby dhex_58) hr
              · show Steps p.tables e below (s₁.setTop (mkF m 46 #[.val (.int p1)] [(.int (70 : Int32)), (.int p1)])) _
                refine XS.icmpNo X0.here hx rfl (hb hby dhex_46) rfl (flt (show ¬ ((70 : Int32) < p1) from hc46)).2.2.1 ?_
                show Steps p.tables e below (s₁.setTop (mkF m 49 #[.val (.int p1)] [])) _
                refine XS.iloadN X0.here hx rfl (hb hby dhex_49) rfl ?_
                show Steps p.tables e below (s₁.setTop (mkF m 50 #[.val (.int p1)] [(.int p1)])) _
                refine XS.bipush X0.here hx rfl (hb hby dhex_50) ?_
                show Steps p.tables e below (s₁.setTop (mkF m 52 #[.val (.int p1)] [(.int (65 : Int32)), (.int p1)])) _
                refine XS.isub X0.here hx rfl (hb hby dhex_52) rfl ?_
                show Steps p.tables e below (s₁.setTop (mkF m 53 #[.val (.int p1)] [(.int (p1 - (65 : Int32)))])) _
                refine XS.bipush X0.here hx rfl (hb hby dhex_53) ?_
                show Steps p.tables e below (s₁.setTop (mkF m 55 #[.val (.int p1)] [(.int (10 : Int32)), (.int (p1 - (65 : Int32)))])) _
                refine XS.iadd X0.here hx rfl (hb hby dhex_55) rfl ?_
                show Steps p.tables e below (s₁.setTop (mkF m 56 #[.val (.int p1)] [(.int ((p1 - (65 : Int32)) + (10 : Int32)))])) _
                have hval : (own_hex p1) = ((p1 - (65 : Int32)) + (10 : Int32)) := by
                  simp only [own_hex, own_hexA, own_hexB, if_neg hc3, if_pos hc9, if_neg hc20, if_pos hc26, if_neg hc40, if_neg hc46]
                rw [hval] at hr
                exact retI X0 hx Bd.returns (hb hby dhex_56) hr
          · show Steps p.tables e below (s₁.setTop (mkF m 26 #[.val (.int p1)] [(.int (102 : Int32)), (.int p1)])) _
            refine XS.icmpNo X0.here hx rfl (hb hby dhex_26) rfl (flt (show ¬ ((102 : Int32) < p1) from hc26)).2.2.1 ?_
            show Steps p.tables e below (s₁.setTop (mkF m 29 #[.val (.int p1)] [])) _
            refine XS.iloadN X0.here hx rfl (hb hby dhex_29) rfl ?_
            show Steps p.tables e below (s₁.setTop (mkF m 30 #[.val (.int p1)] [(.int p1)])) _
            refine XS.bipush X0.here hx rfl (hb hby dhex_30) ?_
            show Steps p.tables e below (s₁.setTop (mkF m 32 #[.val (.int p1)] [(.int (97 : Int32)), (.int p1)])) _
            refine XS.isub X0.here hx rfl (hb hby dhex_32) rfl ?_
            show Steps p.tables e below (s₁.setTop (mkF m 33 #[.val (.int p1)] [(.int (p1 - (97 : Int32)))])) _
            refine XS.bipush X0.here hx rfl (hb hby dhex_33) ?_
            show Steps p.tables e below (s₁.setTop (mkF m 35 #[.val (.int p1)] [(.int (10 : Int32)), (.int (p1 - (97 : Int32)))])) _
            refine XS.iadd X0.here hx rfl (hb hby dhex_35) rfl ?_
            show Steps p.tables e below (s₁.setTop (mkF m 36 #[.val (.int p1)] [(.int ((p1 - (97 : Int32)) + (10 : Int32)))])) _
            have hval : (own_hex p1) = ((p1 - (97 : Int32)) + (10 : Int32)) := by
              simp only [own_hex, own_hexA, own_hexB, if_neg hc3, if_pos hc9, if_neg hc20, if_neg hc26]
            rw [hval] at hr
            exact retI X0 hx Bd.returns (hb hby dhex_36) hr
      · show Steps p.tables e below (s₁.setTop (mkF m 9 #[.val (.int p1)] [(.int (57 : Int32)), (.int p1)])) _
        refine XS.icmpNo X0.here hx rfl (hb hby dhex_9) rfl (flt (show ¬ ((57 : Int32) < p1) from hc9)).2.2.1 ?_
        show Steps p.tables e below (s₁.setTop (mkF m 12 #[.val (.int p1)] [])) _
        refine XS.iloadN X0.here hx rfl (hb hby dhex_12) rfl ?_
        show Steps p.tables e below (s₁.setTop (mkF m 13 #[.val (.int p1)] [(.int p1)])) _
        refine XS.bipush X0.here hx rfl (hb hby dhex_13) ?_
        show Steps p.tables e below (s₁.setTop (mkF m 15 #[.val (.int p1)] [(.int (48 : Int32)), (.int p1)])) _
        refine XS.isub X0.here hx rfl (hb hby dhex_15) rfl ?_
        show Steps p.tables e below (s₁.setTop (mkF m 16 #[.val (.int p1)] [(.int (p1 - (48 : Int32)))])) _
        have hval : (own_hex p1) = (p1 - (48 : Int32)) := by
          simp only [own_hex, own_hexA, own_hexB, if_neg hc3, if_neg hc9]
        rw [hval] at hr
        exact retI X0 hx Bd.returns (hb hby dhex_16) hr
  · show Q_hex Z p1 h0 n0 _ s₁.heap _
    rw [e0]
    exact ⟨rfl, N0, rfl⟩
theorem pd_law_0 : parseMethodDescriptor "(C)I" = some ⟨[.char], some .int⟩ := by decide +kernel
theorem pd_law_1 : parseMethodDescriptor "(I)C" = some ⟨[.int], some .char⟩ := by decide +kernel
theorem pn_law : plainName "com/example/nodewright/nodewright/reader/EncodedNamesHexDigitPinLaw" = true := by first | (simp [plainName, overriddenIn]; done) | decide +kernel
theorem ef_law (m : MethodId) (x0 : Int32) (x1 : Int32) : entryFrame m #[(.int x0), (.int x1)] maxLocals = mkF m 0 #[.val (.int x0), .val (.int x1), .unset, .unset, .unset, .unset, .unset, .unset, .unset] [] := by first | (simp [entryFrame, mkF, argsToLocals, Value.category, maxLocals]; done) | rfl
def Q_law (Z : State) (p1 p2 cs : Int32) (fv : Value) (h0 : Heap) (n0 : Nat) (v : Option Value) (h : Heap) (L : List Loc) : Prop := v = some (.int 1) ∧ Fr n0 L
set_option maxRecDepth 65536 in
set_option maxHeartbeats 40000000 in
theorem rm_law (l : Launch) (Z : State) (a0 : Array Value) (hw : ∀ d ∈ tables_1, d.before a0 Z = true) (ws : List Jvm.Cond) (p1 p2 cs : Int32) (fv : Value) (h0 : Heap) (n0 : Nat) (Z0 : n0 ≤ h0.size) (SC : Sta Z h0 "java/lang/String" "COMPACT_STRINGS" "Z" (.int cs)) (hcs : ¬ (cs = (0 : Int32))) (SF : Sta Z h0 "jdk/internal/util/Preconditions" "SIOOBE_FORMATTER" "Ljava/util/function/BiFunction;" fv) (hfv : fv.isRef = true) (HC : Jvm.Lit.compactW.before a0 Z = true) (H7 : Jvm.Lit.constHeld Z "com/example/nodewright/nodewright/reader/EncodedNamesHexDigitPinLaw" 7) (H9 : Jvm.Lit.constHeld Z "com/example/nodewright/nodewright/reader/EncodedNamesHexDigitPinLaw" 9) :
    MetFree l x (head1 (Jvm.Cond.code x code maxLocals ret :: ws) room_1) (fun a U => a = #[(.int p1), (.int p2)] ∧ U = Z ∧ U.heap = h0) (fun _ _ _ _ _ => True) (fun _ U o U' => ∃ v L, o = .returned v ∧ Q_law Z p1 p2 cs fv h0 n0 v U'.heap L ∧ ReturnedEndW U o U' L room_1.cells room_1.slots) := by
  refine MetFree.of_bodySF (plainFor_of_name pn_law) hisR ?_
  intro p e s m args below meth c s₁ Bd hml0 hP hK
  obtain ⟨rfl, hUZ, hh⟩ := hP
  subst hUZ
  have hZ := State.Warmed39.refl s
  have hx := Bd.exec
  have hby := Bd.bytes
  have hml : c.maxLocals = 9 := hml0
  have hown : s.vm.findClass "com/example/nodewright/nodewright/reader/EncodedNamesHexDigitPinLaw" = some m.cls := findClass_of_methodNamed Bd.named
  have hnm := (name_of_methodNamed Bd.named Bd.method).1
  have X0 : Stand p l e room_1 s m #[(.int p1), (.int p2)] below meth c s₁ [] 0 0 := Stand.of_body Bd
  have e0 : s₁.heap = h0 := by rw [← hh, Bd.state]; rfl
  have N0 := Fr.nil n0
  have pre0 : ∀ tg_, Steps p.tables e below (s₁.setTop (mkF m 0 #[.val (.int p1), .val (.int p2), .unset, .unset, .unset, .unset, .unset, .unset, .unset] [])) tg_ → Steps p.tables e below (s₁.setTop (entryFrame m #[(.int p1), (.int p2)] maxLocals)) tg_ := fun tg_ k => castTop (ef_law m p1 p2) k
  have wS : ∀ d ∈ Bundle.stringAtoms, d.before a0 s = true := fun d hd => by
    simp only [Bundle.stringAtoms, List.mem_cons, List.not_mem_nil, or_false] at hd
    rcases hd with rfl | rfl | rfl | rfl | rfl | rfl | rfl
    · exact hw _ (List.mem_of_getElem? (i := 1) rfl)
    · exact hw _ (List.mem_of_getElem? (i := 2) rfl)
    · exact hw _ (List.mem_of_getElem? (i := 3) rfl)
    · exact hw _ (List.mem_of_getElem? (i := 4) rfl)
    · exact hw _ (List.mem_of_getElem? (i := 5) rfl)
    · exact hw _ (List.mem_of_getElem? (i := 6) rfl)
    · exact hw _ (List.mem_of_getElem? (i := 7) rfl)
  have X1 : Stand p l e room_1 (s.setVm s.vm) m #[(.int p1), (.int p2)] below meth c s₁ [] 0 0 := X0
  obtain ⟨a1, T1, h1, k1, b1, kc1, X1, e1, E1, S1, K1, hZ1, hown1, EA1, FC1, FV1, RV1, la1, lb1, I1, st1⟩ := ldcSV (s := s) (vm0 := s.vm) (a0 := a0) X1 hx hZ hown (hw _ (List.mem_of_getElem? (i := 0) rfl)) wS e0 ((State.WarmedH.refl s).since 0) (Nat.zero_le _) (Fr.nil _) (fun _ _ q => q) IB.start (by simp) H7 HC (vs := own_lo.map Value.int) (z := (16 : Int32)) ⟨by decide, by rfl⟩ (by decide) (by decide) (g := (mkF m 0 #[.val (.int p1), .val (.int p2), .unset, .unset, .unset, .unset, .unset, .unset, .unset] [])) rfl (hb hby at_0) (n := 64) (by decide) (by decide) (by decide) (by decide)
  have hZ := hZ1
  have hown := hown1
  have F1 := OAf.ofArv RV1 (n := 16) rfl
  have SC1 := SC.ext E1
  have SF1 := SF.ext E1
  have p_2 : ∀ tg_, Steps p.tables e below (T1.setTop (mkF m 3 #[.val (.int p1), .val (.int p2), .val (.ref a1), .unset, .unset, .unset, .unset, .unset, .unset] [])) tg_ → Steps p.tables e below (s₁.setTop (entryFrame m #[(.int p1), (.int p2)] maxLocals)) tg_ := by
    intro tg_ kk_
    refine pre0 tg_ ?_
    refine st1 _ ?_
    show Steps p.tables e below (T1.setTop (mkF m 2 #[.val (.int p1), .val (.int p2), .unset, .unset, .unset, .unset, .unset, .unset, .unset] [(.ref a1)])) _
    refine XS.astoreN X1.here hx rfl (hb hby at_2) rfl rfl (l' := #[.val (.int p1), .val (.int p2), .val (.ref a1), .unset, .unset, .unset, .unset, .unset, .unset]) rfl ?_
    exact kk_
  obtain ⟨a3, T3, h3, k3, b3, kc3, X3, e3, E3, S3, K3, hZ3, hown3, EA3, FC3, FV3, RV3, la3, lb3, I3, st3⟩ := ldcSV (s := s) (vm0 := T1.vm) (a0 := a0) X1 hx hZ hown (hw _ (List.mem_of_getElem? (i := 8) rfl)) wS e1 S1 K1 (Fr.nil _) (fun _ _ q => q) I1 (by decide) H9 HC (vs := own_up.map Value.int) (z := (16 : Int32)) ⟨by decide, by rfl⟩ (by decide) (by decide) (g := (mkF m 3 #[.val (.int p1), .val (.int p2), .val (.ref a1), .unset, .unset, .unset, .unset, .unset, .unset] [])) rfl (hb hby at_3) (n := 64) (by decide) (by decide) (by decide) (by decide)
  have hZ := hZ3
  have hown := hown3
  have F3 := OAf.ofArv RV3 (n := 16) rfl
  have SC2 := SC1.ext E3
  have SF2 := SF1.ext E3
  have EL := EA1.ext E3
  have CL := FC1.ext E3
  have VL := FV1.ext E3
  have FL := F1.ext E3
  have Zb : n0 ≤ h3.size := Nat.le_trans Z0 (Nat.le_trans E1.1 E3.1)
  have p_4 : ∀ tg_, Steps p.tables e below (T3.setTop (mkF m 8 #[.val (.int p1), .val (.int p2), .val (.ref a1), .val (.ref a3), .unset, .unset, .unset, .unset, .unset] [(.int (p1.toUInt32.toUInt16.toUInt32.toInt32))])) tg_ → Steps p.tables e below (s₁.setTop (entryFrame m #[(.int p1), (.int p2)] maxLocals)) tg_ := by
    intro tg_ kk_
    refine p_2 tg_ ?_
    refine st3 _ ?_
    show Steps p.tables e below (T3.setTop (mkF m 5 #[.val (.int p1), .val (.int p2), .val (.ref a1), .unset, .unset, .unset, .unset, .unset, .unset] [(.ref a3)])) _
    refine XS.astoreN X3.here hx rfl (hb hby at_5) rfl rfl (l' := #[.val (.int p1), .val (.int p2), .val (.ref a1), .val (.ref a3), .unset, .unset, .unset, .unset, .unset]) rfl ?_
    show Steps p.tables e below (T3.setTop (mkF m 6 #[.val (.int p1), .val (.int p2), .val (.ref a1), .val (.ref a3), .unset, .unset, .unset, .unset, .unset] [])) _
    refine XS.iloadN X3.here hx rfl (hb hby at_6) rfl ?_
    show Steps p.tables e below (T3.setTop (mkF m 7 #[.val (.int p1), .val (.int p2), .val (.ref a1), .val (.ref a3), .unset, .unset, .unset, .unset, .unset] [(.int p1)])) _
    refine XS.i2c X3.here hx rfl (hb hby at_7) rfl ?_
    exact kk_
  obtain ⟨cc, h_cc⟩ : ∃ z, z = (p1.toUInt32.toUInt16.toUInt32.toInt32) := ⟨_, rfl⟩
  rw [← h_cc] at p_4
  have p_5 : ∀ tg_, Steps p.tables e below (T3.setTop (mkF m 12 #[.val (.int p1), .val (.int p2), .val (.ref a1), .val (.ref a3), .val (.int cc), .unset, .unset, .unset, .unset] [(.int cc)])) tg_ → Steps p.tables e below (s₁.setTop (entryFrame m #[(.int p1), (.int p2)] maxLocals)) tg_ := by
    intro tg_ kk_
    refine p_4 tg_ ?_
    show Steps p.tables e below (T3.setTop (mkF m 8 #[.val (.int p1), .val (.int p2), .val (.ref a1), .val (.ref a3), .unset, .unset, .unset, .unset, .unset] [(.int cc)])) _
    refine XS.istore X3.here hx rfl (hb hby at_8) rfl (l' := #[.val (.int p1), .val (.int p2), .val (.ref a1), .val (.ref a3), .val (.int cc), .unset, .unset, .unset, .unset]) rfl ?_
    show Steps p.tables e below (T3.setTop (mkF m 10 #[.val (.int p1), .val (.int p2), .val (.ref a1), .val (.ref a3), .val (.int cc), .unset, .unset, .unset, .unset] [])) _
    refine XS.iload X3.here hx rfl (hb hby at_10) rfl ?_
    exact kk_
  obtain ⟨_, _, ⟨T6, L6, k6, n6⟩, -, X6, ⟨Lc6, hQ6, l6, y6, z6⟩, st6⟩ := Jvm.LawKit.callS X3 hx (y := (⟨"com/example/nodewright/nodewright/reader/EncodedNames", "hexDigit", "(C)I"⟩ : MethodName)) hown (mvT hZ (hw _ (List.mem_of_getElem? (i := 9) rfl))) (mvT hZ (hw _ (List.mem_of_getElem? (i := 10) rfl))) (mvT hZ (hw _ (List.mem_of_getElem? (i := 11) rfl))) (mvT hZ (hw _ (List.mem_of_getElem? (i := 12) rfl))) (by decide) (backOf (W := 0) (rm_hex l s a0 hw [] cc h3 n0 Zb) hZ (hw _ (List.mem_of_getElem? (i := 12) rfl)) (hw _ (List.mem_of_getElem? (i := 11) rfl)) (by decide) (by decide)) (g := (mkF m 12 #[.val (.int p1), .val (.int p2), .val (.ref a1), .val (.ref a3), .val (.int cc), .unset, .unset, .unset, .unset] [(.int cc)])) rfl (by rw [hml]; rfl) (argsL := [(.int cc)]) (rest := []) (lenOf pd_law_0 rfl) rfl (by show 2 * 0 + _ ≤ _; exact Nat.le_of_eq rfl) (hb hby at_12) (fun _ _ => ⟨rfl, e3, (by decide : 4 + 0 ≤ _), (by decide : 136 + 0 ≤ _)⟩)
  dsimp only [Pt.U, Pt.locs, Pt.cells, Pt.slots] at X6 l6 y6 z6 st6 hQ6
  subst l6 y6 z6
  obtain ⟨rfl, N6q, hh6⟩ := hQ6
  have N6 := Fr.app N0 N6q
  have eH6 : T6.heap = h3 := hh6
  have p_7 : ∀ tg_, Steps p.tables e below (T6.setTop (mkF m 20 #[.val (.int p1), .val (.int p2), .val (.ref a1), .val (.ref a3), .val (.int cc), .val (.int (own_hex cc)), .unset, .unset, .unset] [(.int (-1 : Int32)), (.int (own_hex cc))])) tg_ → Steps p.tables e below (s₁.setTop (entryFrame m #[(.int p1), (.int p2)] maxLocals)) tg_ := by
    intro tg_ kk_
    refine p_5 tg_ ?_
    refine st6 _ ?_
    show Steps p.tables e below (T6.setTop (mkF m 15 #[.val (.int p1), .val (.int p2), .val (.ref a1), .val (.ref a3), .val (.int cc), .unset, .unset, .unset, .unset] [(.int (own_hex cc))])) _
    refine XS.istore X6.here hx rfl (hb hby at_15) rfl (l' := #[.val (.int p1), .val (.int p2), .val (.ref a1), .val (.ref a3), .val (.int cc), .val (.int (own_hex cc)), .unset, .unset, .unset]) rfl ?_
    show Steps p.tables e below (T6.setTop (mkF m 17 #[.val (.int p1), .val (.int p2), .val (.ref a1), .val (.ref a3), .val (.int cc), .val (.int (own_hex cc)), .unset, .unset, .unset] [])) _
    refine XS.iload X6.here hx rfl (hb hby at_17) rfl ?_
    show Steps p.tables e below (T6.setTop (mkF m 19 #[.val (.int p1), .val (.int p2), .val (.ref a1), .val (.ref a3), .val (.int cc), .val (.int (own_hex cc)), .unset, .unset, .unset] [(.int (own_hex cc))])) _
    refine XS.iconst X6.here hx rfl (hb hby at_19) ?_
    exact kk_
  have hcas := own_cases cc
  obtain ⟨T9, L9, X9, e9, N9, p_8⟩ : ∃ (T9 : State) (L9 : List Loc), Stand p l e room_1 (s.setVm T3.vm) m #[(.int p1), (.int p2)] below meth c T9 L9 4 136 ∧ T9.heap = h3 ∧ Fr n0 L9 ∧ ∀ t, Steps p.tables e below (T9.setTop (mkF m 62 #[.val (.int p1), .val (.int p2), .val (.ref a1), .val (.ref a3), .val (.int cc), .val (.int (own_hex cc)), .unset, .unset, .unset] [(.int (1 : Int32))])) t → Steps p.tables e below (s₁.setTop (entryFrame m #[(.int p1), (.int p2)] maxLocals)) t := by
    rcases hcas with ⟨g1, g2, g3⟩ | ⟨g1, g2, g3⟩ | ⟨g1, g2, g3⟩ | ⟨g0, -⟩
    · have hk : True := trivial
      have z0 : (0 : Int32).toInt = 0 := rfl
      have z15 : (15 : Int32).toInt = 15 := rfl
      have hix := own_ix16 (x := (own_hex cc)) (by omega) (by omega)
      have hl := own_lo_at _ hix.2.2.1
      have hu := own_up_at _ hix.2.2.1
      have p_9 : ∀ tg_, Steps p.tables e below (T6.setTop (mkF m 38 #[.val (.int p1), .val (.int p2), .val (.ref a1), .val (.ref a3), .val (.int cc), .val (.int (own_hex cc)), .unset, .unset, .unset] [(.int (own_hex cc)), (.ref a1)])) tg_ → Steps p.tables e below (s₁.setTop (entryFrame m #[(.int p1), (.int p2)] maxLocals)) tg_ := by
        intro tg_ kk_
        refine p_7 tg_ ?_
        show Steps p.tables e below (T6.setTop (mkF m 20 #[.val (.int p1), .val (.int p2), .val (.ref a1), .val (.ref a3), .val (.int cc), .val (.int (own_hex cc)), .unset, .unset, .unset] [(.int (-1 : Int32)), (.int (own_hex cc))])) _
        refine XS.icmpNo X6.here hx rfl (hb hby at_20) rfl (feq (show ¬ ((own_hex cc) = (-1 : Int32)) from (fun q => by have q' := congrArg Int32.toInt q; have e : (-1 : Int32).toInt = -1 := rfl; omega))).1 ?_
        show Steps p.tables e below (T6.setTop (mkF m 23 #[.val (.int p1), .val (.int p2), .val (.ref a1), .val (.ref a3), .val (.int cc), .val (.int (own_hex cc)), .unset, .unset, .unset] [])) _
        refine XS.iload X6.here hx rfl (hb hby at_23) rfl ?_
        show Steps p.tables e below (T6.setTop (mkF m 25 #[.val (.int p1), .val (.int p2), .val (.ref a1), .val (.ref a3), .val (.int cc), .val (.int (own_hex cc)), .unset, .unset, .unset] [(.int (own_hex cc))])) _
        refine XS.ifNo X6.here hx rfl (hb hby at_25) rfl ((if0 _ _).trans (flt (show ¬ ((own_hex cc) < (0 : Int32)) from (by rw [Int32.lt_iff_toInt_lt]; omega))).1) ?_
        show Steps p.tables e below (T6.setTop (mkF m 28 #[.val (.int p1), .val (.int p2), .val (.ref a1), .val (.ref a3), .val (.int cc), .val (.int (own_hex cc)), .unset, .unset, .unset] [])) _
        refine XS.iload X6.here hx rfl (hb hby at_28) rfl ?_
        show Steps p.tables e below (T6.setTop (mkF m 30 #[.val (.int p1), .val (.int p2), .val (.ref a1), .val (.ref a3), .val (.int cc), .val (.int (own_hex cc)), .unset, .unset, .unset] [(.int (own_hex cc))])) _
        refine XS.bipush X6.here hx rfl (hb hby at_30) ?_
        show Steps p.tables e below (T6.setTop (mkF m 32 #[.val (.int p1), .val (.int p2), .val (.ref a1), .val (.ref a3), .val (.int cc), .val (.int (own_hex cc)), .unset, .unset, .unset] [(.int (15 : Int32)), (.int (own_hex cc))])) _
        refine XS.icmpNo X6.here hx rfl (hb hby at_32) rfl (flt (show ¬ ((15 : Int32) < (own_hex cc)) from (by rw [Int32.lt_iff_toInt_lt]; omega))).2.2.1 ?_
        show Steps p.tables e below (T6.setTop (mkF m 35 #[.val (.int p1), .val (.int p2), .val (.ref a1), .val (.ref a3), .val (.int cc), .val (.int (own_hex cc)), .unset, .unset, .unset] [])) _
        refine XS.aloadN X6.here hx rfl (hb hby at_35) rfl rfl ?_
        show Steps p.tables e below (T6.setTop (mkF m 36 #[.val (.int p1), .val (.int p2), .val (.ref a1), .val (.ref a3), .val (.int cc), .val (.int (own_hex cc)), .unset, .unset, .unset] [(.ref a1)])) _
        refine XS.iload X6.here hx rfl (hb hby at_36) rfl ?_
        exact kk_
      obtain ⟨cq10, kq10, q10a, q10b, q10c⟩ := isOf hZ eH6 EL
      obtain ⟨_, _, ⟨T10, L10, k10, n10⟩, -, X10, ⟨Lc10, hQ10, l10, y10, z10⟩, st10⟩ := X6.virtualBack hx (y := (⟨"java/lang/String", "charAt", "(I)C"⟩ : MethodName)) (z := (⟨"java/lang/String", "charAt", "(I)C"⟩ : MethodName)) hown (mvT hZ (hw _ (List.mem_of_getElem? (i := 13) rfl))) (mvT hZ (hw _ (List.mem_of_getElem? (i := 14) rfl))) (notFace_of_selects (args := #[]) (mvT hZ (hw _ (List.mem_of_getElem? (i := 16) rfl)))) (mvT hZ (hw _ (List.mem_of_getElem? (i := 16) rfl))) (mvT hZ (hw _ (List.mem_of_getElem? (i := 15) rfl))) (by decide) (backOf (W := 0) (rm_ch l s a0 hw [] a1 (own_hex cc) cs fv b1 16 _ (16 : Int32) h3 n0 Zb SC2 hcs SF2 hfv EL CL VL FL rfl hix.1 hix.2.1 hix.2.2.1) hZ (hw _ (List.mem_of_getElem? (i := 17) rfl)) (hw _ (List.mem_of_getElem? (i := 1) rfl)) (by decide) (by decide)) q10a q10c (g := (mkF m 38 #[.val (.int p1), .val (.int p2), .val (.ref a1), .val (.ref a3), .val (.int cc), .val (.int (own_hex cc)), .unset, .unset, .unset] [(.int (own_hex cc)), (.ref a1)])) rfl (by rw [hml]; rfl) (Steps.refl _) (argsL := [(.int (own_hex cc))]) (rest := []) (lenOf pd_law_1 rfl) rfl (by show 2 * 0 + _ ≤ _; exact Nat.le_of_eq rfl) (hb hby at_38) (fun _ _ => ⟨rfl, eH6, (by decide : 4 + 0 ≤ _), (by decide : 136 + 0 ≤ _)⟩)
      dsimp only [Pt.U, Pt.locs, Pt.cells, Pt.slots] at X10 l10 y10 z10 st10 hQ10
      subst l10 y10 z10
      obtain ⟨rfl, N10q, hh10⟩ := hQ10
      have N10 := Fr.app N6 N10q
      have eH10 : T10.heap = h3 := hh10
      have p_11 : ∀ tg_, Steps p.tables e below (T10.setTop (mkF m 62 #[.val (.int p1), .val (.int p2), .val (.ref a1), .val (.ref a3), .val (.int cc), .val (.int (own_hex cc)), .unset, .unset, .unset] [(.int (1 : Int32))])) tg_ → Steps p.tables e below (s₁.setTop (entryFrame m #[(.int p1), (.int p2)] maxLocals)) tg_ := by
        intro tg_ kk_
        refine p_9 tg_ ?_
        refine st10.trans ?_
        show Steps p.tables e below (T10.setTop (mkF m 41 #[.val (.int p1), .val (.int p2), .val (.ref a1), .val (.ref a3), .val (.int cc), .val (.int (own_hex cc)), .unset, .unset, .unset] [(.int ((own_lo.getD (own_hex cc).toNatClampNeg 0) &&& (255 : Int32)))])) _
        refine XS.iload X10.here hx rfl (hb hby at_41) rfl ?_
        show Steps p.tables e below (T10.setTop (mkF m 43 #[.val (.int p1), .val (.int p2), .val (.ref a1), .val (.ref a3), .val (.int cc), .val (.int (own_hex cc)), .unset, .unset, .unset] [(.int cc), (.int ((own_lo.getD (own_hex cc).toNatClampNeg 0) &&& (255 : Int32)))])) _
        refine XS.icmpYes X10.here hx rfl (pc0 := 43) (pc' := 57) rfl (hb hby at_43) rfl (teq (show ((own_lo.getD (own_hex cc).toNatClampNeg 0) &&& (255 : Int32)) = cc from (Int32.toInt_inj.mp (by by_cases u : (own_hex cc).toNatClampNeg < 10 <;> simp only [u, if_true, if_false, ite_true, ite_false] at hl <;> omega)))).1 (by decide) (by decide) ?_
        show Steps p.tables e below (T10.setTop (mkF m 57 #[.val (.int p1), .val (.int p2), .val (.ref a1), .val (.ref a3), .val (.int cc), .val (.int (own_hex cc)), .unset, .unset, .unset] [])) _
        refine XS.iconst X10.here hx rfl (hb hby at_57) ?_
        show Steps p.tables e below (T10.setTop (mkF m 58 #[.val (.int p1), .val (.int p2), .val (.ref a1), .val (.ref a3), .val (.int cc), .val (.int (own_hex cc)), .unset, .unset, .unset] [(.int (1 : Int32))])) _
        refine XS.goto X10.here hx rfl (pc0 := 58) (pc' := 62) rfl (hb hby at_58) (by decide) (by decide) ?_
        exact kk_
      exact ⟨_, _, X10, eH10, N10, p_11⟩
    · have hk : True := trivial
      have z0 : (0 : Int32).toInt = 0 := rfl
      have z15 : (15 : Int32).toInt = 15 := rfl
      have hix := own_ix16 (x := (own_hex cc)) (by omega) (by omega)
      have hl := own_lo_at _ hix.2.2.1
      have hu := own_up_at _ hix.2.2.1
      have p_12 : ∀ tg_, Steps p.tables e below (T6.setTop (mkF m 38 #[.val (.int p1), .val (.int p2), .val (.ref a1), .val (.ref a3), .val (.int cc), .val (.int (own_hex cc)), .unset, .unset, .unset] [(.int (own_hex cc)), (.ref a1)])) tg_ → Steps p.tables e below (s₁.setTop (entryFrame m #[(.int p1), (.int p2)] maxLocals)) tg_ := by
        intro tg_ kk_
        refine p_7 tg_ ?_
        show Steps p.tables e below (T6.setTop (mkF m 20 #[.val (.int p1), .val (.int p2), .val (.ref a1), .val (.ref a3), .val (.int cc), .val (.int (own_hex cc)), .unset, .unset, .unset] [(.int (-1 : Int32)), (.int (own_hex cc))])) _
        refine XS.icmpNo X6.here hx rfl (hb hby at_20) rfl (feq (show ¬ ((own_hex cc) = (-1 : Int32)) from (fun q => by have q' := congrArg Int32.toInt q; have e : (-1 : Int32).toInt = -1 := rfl; omega))).1 ?_
        show Steps p.tables e below (T6.setTop (mkF m 23 #[.val (.int p1), .val (.int p2), .val (.ref a1), .val (.ref a3), .val (.int cc), .val (.int (own_hex cc)), .unset, .unset, .unset] [])) _
        refine XS.iload X6.here hx rfl (hb hby at_23) rfl ?_
        show Steps p.tables e below (T6.setTop (mkF m 25 #[.val (.int p1), .val (.int p2), .val (.ref a1), .val (.ref a3), .val (.int cc), .val (.int (own_hex cc)), .unset, .unset, .unset] [(.int (own_hex cc))])) _
        refine XS.ifNo X6.here hx rfl (hb hby at_25) rfl ((if0 _ _).trans (flt (show ¬ ((own_hex cc) < (0 : Int32)) from (by rw [Int32.lt_iff_toInt_lt]; omega))).1) ?_
        show Steps p.tables e below (T6.setTop (mkF m 28 #[.val (.int p1), .val (.int p2), .val (.ref a1), .val (.ref a3), .val (.int cc), .val (.int (own_hex cc)), .unset, .unset, .unset] [])) _
        refine XS.iload X6.here hx rfl (hb hby at_28) rfl ?_
        show Steps p.tables e below (T6.setTop (mkF m 30 #[.val (.int p1), .val (.int p2), .val (.ref a1), .val (.ref a3), .val (.int cc), .val (.int (own_hex cc)), .unset, .unset, .unset] [(.int (own_hex cc))])) _
        refine XS.bipush X6.here hx rfl (hb hby at_30) ?_
        show Steps p.tables e below (T6.setTop (mkF m 32 #[.val (.int p1), .val (.int p2), .val (.ref a1), .val (.ref a3), .val (.int cc), .val (.int (own_hex cc)), .unset, .unset, .unset] [(.int (15 : Int32)), (.int (own_hex cc))])) _
        refine XS.icmpNo X6.here hx rfl (hb hby at_32) rfl (flt (show ¬ ((15 : Int32) < (own_hex cc)) from (by rw [Int32.lt_iff_toInt_lt]; omega))).2.2.1 ?_
        show Steps p.tables e below (T6.setTop (mkF m 35 #[.val (.int p1), .val (.int p2), .val (.ref a1), .val (.ref a3), .val (.int cc), .val (.int (own_hex cc)), .unset, .unset, .unset] [])) _
        refine XS.aloadN X6.here hx rfl (hb hby at_35) rfl rfl ?_
        show Steps p.tables e below (T6.setTop (mkF m 36 #[.val (.int p1), .val (.int p2), .val (.ref a1), .val (.ref a3), .val (.int cc), .val (.int (own_hex cc)), .unset, .unset, .unset] [(.ref a1)])) _
        refine XS.iload X6.here hx rfl (hb hby at_36) rfl ?_
        exact kk_
      obtain ⟨cq13, kq13, q13a, q13b, q13c⟩ := isOf hZ eH6 EL
      obtain ⟨_, _, ⟨T13, L13, k13, n13⟩, -, X13, ⟨Lc13, hQ13, l13, y13, z13⟩, st13⟩ := X6.virtualBack hx (y := (⟨"java/lang/String", "charAt", "(I)C"⟩ : MethodName)) (z := (⟨"java/lang/String", "charAt", "(I)C"⟩ : MethodName)) hown (mvT hZ (hw _ (List.mem_of_getElem? (i := 13) rfl))) (mvT hZ (hw _ (List.mem_of_getElem? (i := 14) rfl))) (notFace_of_selects (args := #[]) (mvT hZ (hw _ (List.mem_of_getElem? (i := 16) rfl)))) (mvT hZ (hw _ (List.mem_of_getElem? (i := 16) rfl))) (mvT hZ (hw _ (List.mem_of_getElem? (i := 15) rfl))) (by decide) (backOf (W := 0) (rm_ch l s a0 hw [] a1 (own_hex cc) cs fv b1 16 _ (16 : Int32) h3 n0 Zb SC2 hcs SF2 hfv EL CL VL FL rfl hix.1 hix.2.1 hix.2.2.1) hZ (hw _ (List.mem_of_getElem? (i := 17) rfl)) (hw _ (List.mem_of_getElem? (i := 1) rfl)) (by decide) (by decide)) q13a q13c (g := (mkF m 38 #[.val (.int p1), .val (.int p2), .val (.ref a1), .val (.ref a3), .val (.int cc), .val (.int (own_hex cc)), .unset, .unset, .unset] [(.int (own_hex cc)), (.ref a1)])) rfl (by rw [hml]; rfl) (Steps.refl _) (argsL := [(.int (own_hex cc))]) (rest := []) (lenOf pd_law_1 rfl) rfl (by show 2 * 0 + _ ≤ _; exact Nat.le_of_eq rfl) (hb hby at_38) (fun _ _ => ⟨rfl, eH6, (by decide : 4 + 0 ≤ _), (by decide : 136 + 0 ≤ _)⟩)
      dsimp only [Pt.U, Pt.locs, Pt.cells, Pt.slots] at X13 l13 y13 z13 st13 hQ13
      subst l13 y13 z13
      obtain ⟨rfl, N13q, hh13⟩ := hQ13
      have N13 := Fr.app N6 N13q
      have eH13 : T13.heap = h3 := hh13
      have p_14 : ∀ tg_, Steps p.tables e below (T13.setTop (mkF m 62 #[.val (.int p1), .val (.int p2), .val (.ref a1), .val (.ref a3), .val (.int cc), .val (.int (own_hex cc)), .unset, .unset, .unset] [(.int (1 : Int32))])) tg_ → Steps p.tables e below (s₁.setTop (entryFrame m #[(.int p1), (.int p2)] maxLocals)) tg_ := by
        intro tg_ kk_
        refine p_12 tg_ ?_
        refine st13.trans ?_
        show Steps p.tables e below (T13.setTop (mkF m 41 #[.val (.int p1), .val (.int p2), .val (.ref a1), .val (.ref a3), .val (.int cc), .val (.int (own_hex cc)), .unset, .unset, .unset] [(.int ((own_lo.getD (own_hex cc).toNatClampNeg 0) &&& (255 : Int32)))])) _
        refine XS.iload X13.here hx rfl (hb hby at_41) rfl ?_
        show Steps p.tables e below (T13.setTop (mkF m 43 #[.val (.int p1), .val (.int p2), .val (.ref a1), .val (.ref a3), .val (.int cc), .val (.int (own_hex cc)), .unset, .unset, .unset] [(.int cc), (.int ((own_lo.getD (own_hex cc).toNatClampNeg 0) &&& (255 : Int32)))])) _
        refine XS.icmpYes X13.here hx rfl (pc0 := 43) (pc' := 57) rfl (hb hby at_43) rfl (teq (show ((own_lo.getD (own_hex cc).toNatClampNeg 0) &&& (255 : Int32)) = cc from (Int32.toInt_inj.mp (by by_cases u : (own_hex cc).toNatClampNeg < 10 <;> simp only [u, if_true, if_false, ite_true, ite_false] at hl <;> omega)))).1 (by decide) (by decide) ?_
        show Steps p.tables e below (T13.setTop (mkF m 57 #[.val (.int p1), .val (.int p2), .val (.ref a1), .val (.ref a3), .val (.int cc), .val (.int (own_hex cc)), .unset, .unset, .unset] [])) _
        refine XS.iconst X13.here hx rfl (hb hby at_57) ?_
        show Steps p.tables e below (T13.setTop (mkF m 58 #[.val (.int p1), .val (.int p2), .val (.ref a1), .val (.ref a3), .val (.int cc), .val (.int (own_hex cc)), .unset, .unset, .unset] [(.int (1 : Int32))])) _
        refine XS.goto X13.here hx rfl (pc0 := 58) (pc' := 62) rfl (hb hby at_58) (by decide) (by decide) ?_
        exact kk_
      exact ⟨_, _, X13, eH13, N13, p_14⟩
    · have hk : True := trivial
      have z0 : (0 : Int32).toInt = 0 := rfl
      have z15 : (15 : Int32).toInt = 15 := rfl
      have hix := own_ix16 (x := (own_hex cc)) (by omega) (by omega)
      have hl := own_lo_at _ hix.2.2.1
      have hu := own_up_at _ hix.2.2.1
      have p_15 : ∀ tg_, Steps p.tables e below (T6.setTop (mkF m 38 #[.val (.int p1), .val (.int p2), .val (.ref a1), .val (.ref a3), .val (.int cc), .val (.int (own_hex cc)), .unset, .unset, .unset] [(.int (own_hex cc)), (.ref a1)])) tg_ → Steps p.tables e below (s₁.setTop (entryFrame m #[(.int p1), (.int p2)] maxLocals)) tg_ := by
        intro tg_ kk_
        refine p_7 tg_ ?_
        show Steps p.tables e below (T6.setTop (mkF m 20 #[.val (.int p1), .val (.int p2), .val (.ref a1), .val (.ref a3), .val (.int cc), .val (.int (own_hex cc)), .unset, .unset, .unset] [(.int (-1 : Int32)), (.int (own_hex cc))])) _
        refine XS.icmpNo X6.here hx rfl (hb hby at_20) rfl (feq (show ¬ ((own_hex cc) = (-1 : Int32)) from (fun q => by have q' := congrArg Int32.toInt q; have e : (-1 : Int32).toInt = -1 := rfl; omega))).1 ?_
        show Steps p.tables e below (T6.setTop (mkF m 23 #[.val (.int p1), .val (.int p2), .val (.ref a1), .val (.ref a3), .val (.int cc), .val (.int (own_hex cc)), .unset, .unset, .unset] [])) _
        refine XS.iload X6.here hx rfl (hb hby at_23) rfl ?_
        show Steps p.tables e below (T6.setTop (mkF m 25 #[.val (.int p1), .val (.int p2), .val (.ref a1), .val (.ref a3), .val (.int cc), .val (.int (own_hex cc)), .unset, .unset, .unset] [(.int (own_hex cc))])) _
        refine XS.ifNo X6.here hx rfl (hb hby at_25) rfl ((if0 _ _).trans (flt (show ¬ ((own_hex cc) < (0 : Int32)) from (by rw [Int32.lt_iff_toInt_lt]; omega))).1) ?_
        show Steps p.tables e below (T6.setTop (mkF m 28 #[.val (.int p1), .val (.int p2), .val (.ref a1), .val (.ref a3), .val (.int cc), .val (.int (own_hex cc)), .unset, .unset, .unset] [])) _
        refine XS.iload X6.here hx rfl (hb hby at_28) rfl ?_
        show Steps p.tables e below (T6.setTop (mkF m 30 #[.val (.int p1), .val (.int p2), .val (.ref a1), .val (.ref a3), .val (.int cc), .val (.int (own_hex cc)), .unset, .unset, .unset] [(.int (own_hex cc))])) _
        refine XS.bipush X6.here hx rfl (hb hby at_30) ?_
        show Steps p.tables e below (T6.setTop (mkF m 32 #[.val (.int p1), .val (.int p2), .val (.ref a1), .val (.ref a3), .val (.int cc), .val (.int (own_hex cc)), .unset, .unset, .unset] [(.int (15 : Int32)), (.int (own_hex cc))])) _
        refine XS.icmpNo X6.here hx rfl (hb hby at_32) rfl (flt (show ¬ ((15 : Int32) < (own_hex cc)) from (by rw [Int32.lt_iff_toInt_lt]; omega))).2.2.1 ?_
        show Steps p.tables e below (T6.setTop (mkF m 35 #[.val (.int p1), .val (.int p2), .val (.ref a1), .val (.ref a3), .val (.int cc), .val (.int (own_hex cc)), .unset, .unset, .unset] [])) _
        refine XS.aloadN X6.here hx rfl (hb hby at_35) rfl rfl ?_
        show Steps p.tables e below (T6.setTop (mkF m 36 #[.val (.int p1), .val (.int p2), .val (.ref a1), .val (.ref a3), .val (.int cc), .val (.int (own_hex cc)), .unset, .unset, .unset] [(.ref a1)])) _
        refine XS.iload X6.here hx rfl (hb hby at_36) rfl ?_
        exact kk_
      obtain ⟨cq16, kq16, q16a, q16b, q16c⟩ := isOf hZ eH6 EL
      obtain ⟨_, _, ⟨T16, L16, k16, n16⟩, -, X16, ⟨Lc16, hQ16, l16, y16, z16⟩, st16⟩ := X6.virtualBack hx (y := (⟨"java/lang/String", "charAt", "(I)C"⟩ : MethodName)) (z := (⟨"java/lang/String", "charAt", "(I)C"⟩ : MethodName)) hown (mvT hZ (hw _ (List.mem_of_getElem? (i := 13) rfl))) (mvT hZ (hw _ (List.mem_of_getElem? (i := 14) rfl))) (notFace_of_selects (args := #[]) (mvT hZ (hw _ (List.mem_of_getElem? (i := 16) rfl)))) (mvT hZ (hw _ (List.mem_of_getElem? (i := 16) rfl))) (mvT hZ (hw _ (List.mem_of_getElem? (i := 15) rfl))) (by decide) (backOf (W := 0) (rm_ch l s a0 hw [] a1 (own_hex cc) cs fv b1 16 _ (16 : Int32) h3 n0 Zb SC2 hcs SF2 hfv EL CL VL FL rfl hix.1 hix.2.1 hix.2.2.1) hZ (hw _ (List.mem_of_getElem? (i := 17) rfl)) (hw _ (List.mem_of_getElem? (i := 1) rfl)) (by decide) (by decide)) q16a q16c (g := (mkF m 38 #[.val (.int p1), .val (.int p2), .val (.ref a1), .val (.ref a3), .val (.int cc), .val (.int (own_hex cc)), .unset, .unset, .unset] [(.int (own_hex cc)), (.ref a1)])) rfl (by rw [hml]; rfl) (Steps.refl _) (argsL := [(.int (own_hex cc))]) (rest := []) (lenOf pd_law_1 rfl) rfl (by show 2 * 0 + _ ≤ _; exact Nat.le_of_eq rfl) (hb hby at_38) (fun _ _ => ⟨rfl, eH6, (by decide : 4 + 0 ≤ _), (by decide : 136 + 0 ≤ _)⟩)
      dsimp only [Pt.U, Pt.locs, Pt.cells, Pt.slots] at X16 l16 y16 z16 st16 hQ16
      subst l16 y16 z16
      obtain ⟨rfl, N16q, hh16⟩ := hQ16
      have N16 := Fr.app N6 N16q
      have eH16 : T16.heap = h3 := hh16
      have p_17 : ∀ tg_, Steps p.tables e below (T16.setTop (mkF m 49 #[.val (.int p1), .val (.int p2), .val (.ref a1), .val (.ref a3), .val (.int cc), .val (.int (own_hex cc)), .unset, .unset, .unset] [(.int (own_hex cc)), (.ref a3)])) tg_ → Steps p.tables e below (s₁.setTop (entryFrame m #[(.int p1), (.int p2)] maxLocals)) tg_ := by
        intro tg_ kk_
        refine p_15 tg_ ?_
        refine st16.trans ?_
        show Steps p.tables e below (T16.setTop (mkF m 41 #[.val (.int p1), .val (.int p2), .val (.ref a1), .val (.ref a3), .val (.int cc), .val (.int (own_hex cc)), .unset, .unset, .unset] [(.int ((own_lo.getD (own_hex cc).toNatClampNeg 0) &&& (255 : Int32)))])) _
        refine XS.iload X16.here hx rfl (hb hby at_41) rfl ?_
        show Steps p.tables e below (T16.setTop (mkF m 43 #[.val (.int p1), .val (.int p2), .val (.ref a1), .val (.ref a3), .val (.int cc), .val (.int (own_hex cc)), .unset, .unset, .unset] [(.int cc), (.int ((own_lo.getD (own_hex cc).toNatClampNeg 0) &&& (255 : Int32)))])) _
        refine XS.icmpNo X16.here hx rfl (hb hby at_43) rfl (feq (show ¬ (((own_lo.getD (own_hex cc).toNatClampNeg 0) &&& (255 : Int32)) = cc) from (fun q => by have q' := congrArg Int32.toInt q; by_cases u : (own_hex cc).toNatClampNeg < 10 <;> simp only [u, if_true, if_false, ite_true, ite_false] at hl <;> omega))).1 ?_
        show Steps p.tables e below (T16.setTop (mkF m 46 #[.val (.int p1), .val (.int p2), .val (.ref a1), .val (.ref a3), .val (.int cc), .val (.int (own_hex cc)), .unset, .unset, .unset] [])) _
        refine XS.aloadN X16.here hx rfl (hb hby at_46) rfl rfl ?_
        show Steps p.tables e below (T16.setTop (mkF m 47 #[.val (.int p1), .val (.int p2), .val (.ref a1), .val (.ref a3), .val (.int cc), .val (.int (own_hex cc)), .unset, .unset, .unset] [(.ref a3)])) _
        refine XS.iload X16.here hx rfl (hb hby at_47) rfl ?_
        exact kk_
      obtain ⟨cq18, kq18, q18a, q18b, q18c⟩ := isOf hZ eH16 EA3
      obtain ⟨_, _, ⟨T18, L18, k18, n18⟩, -, X18, ⟨Lc18, hQ18, l18, y18, z18⟩, st18⟩ := X16.virtualBack hx (y := (⟨"java/lang/String", "charAt", "(I)C"⟩ : MethodName)) (z := (⟨"java/lang/String", "charAt", "(I)C"⟩ : MethodName)) hown (mvT hZ (hw _ (List.mem_of_getElem? (i := 13) rfl))) (mvT hZ (hw _ (List.mem_of_getElem? (i := 14) rfl))) (notFace_of_selects (args := #[]) (mvT hZ (hw _ (List.mem_of_getElem? (i := 16) rfl)))) (mvT hZ (hw _ (List.mem_of_getElem? (i := 16) rfl))) (mvT hZ (hw _ (List.mem_of_getElem? (i := 15) rfl))) (by decide) (backOf (W := 0) (rm_ch l s a0 hw [] a3 (own_hex cc) cs fv b3 16 _ (16 : Int32) h3 n0 Zb SC2 hcs SF2 hfv EA3 FC3 FV3 F3 rfl hix.1 hix.2.1 hix.2.2.1) hZ (hw _ (List.mem_of_getElem? (i := 17) rfl)) (hw _ (List.mem_of_getElem? (i := 1) rfl)) (by decide) (by decide)) q18a q18c (g := (mkF m 49 #[.val (.int p1), .val (.int p2), .val (.ref a1), .val (.ref a3), .val (.int cc), .val (.int (own_hex cc)), .unset, .unset, .unset] [(.int (own_hex cc)), (.ref a3)])) rfl (by rw [hml]; rfl) (Steps.refl _) (argsL := [(.int (own_hex cc))]) (rest := []) (lenOf pd_law_1 rfl) rfl (by show 2 * 0 + _ ≤ _; exact Nat.le_of_eq rfl) (hb hby at_49) (fun _ _ => ⟨rfl, eH16, (by decide : 4 + 0 ≤ _), (by decide : 136 + 0 ≤ _)⟩)
      dsimp only [Pt.U, Pt.locs, Pt.cells, Pt.slots] at X18 l18 y18 z18 st18 hQ18
      subst l18 y18 z18
      obtain ⟨rfl, N18q, hh18⟩ := hQ18
      have N18 := Fr.app N16 N18q
      have eH18 : T18.heap = h3 := hh18
      have p_19 : ∀ tg_, Steps p.tables e below (T18.setTop (mkF m 62 #[.val (.int p1), .val (.int p2), .val (.ref a1), .val (.ref a3), .val (.int cc), .val (.int (own_hex cc)), .unset, .unset, .unset] [(.int (1 : Int32))])) tg_ → Steps p.tables e below (s₁.setTop (entryFrame m #[(.int p1), (.int p2)] maxLocals)) tg_ := by
        intro tg_ kk_
        refine p_17 tg_ ?_
        refine st18.trans ?_
        show Steps p.tables e below (T18.setTop (mkF m 52 #[.val (.int p1), .val (.int p2), .val (.ref a1), .val (.ref a3), .val (.int cc), .val (.int (own_hex cc)), .unset, .unset, .unset] [(.int ((own_up.getD (own_hex cc).toNatClampNeg 0) &&& (255 : Int32)))])) _
        refine XS.iload X18.here hx rfl (hb hby at_52) rfl ?_
        show Steps p.tables e below (T18.setTop (mkF m 54 #[.val (.int p1), .val (.int p2), .val (.ref a1), .val (.ref a3), .val (.int cc), .val (.int (own_hex cc)), .unset, .unset, .unset] [(.int cc), (.int ((own_up.getD (own_hex cc).toNatClampNeg 0) &&& (255 : Int32)))])) _
        refine XS.icmpNo X18.here hx rfl (hb hby at_54) rfl (teq (show ((own_up.getD (own_hex cc).toNatClampNeg 0) &&& (255 : Int32)) = cc from (Int32.toInt_inj.mp (by by_cases u : (own_hex cc).toNatClampNeg < 10 <;> simp only [u, if_true, if_false, ite_true, ite_false] at hu <;> omega)))).2 ?_
        show Steps p.tables e below (T18.setTop (mkF m 57 #[.val (.int p1), .val (.int p2), .val (.ref a1), .val (.ref a3), .val (.int cc), .val (.int (own_hex cc)), .unset, .unset, .unset] [])) _
        refine XS.iconst X18.here hx rfl (hb hby at_57) ?_
        show Steps p.tables e below (T18.setTop (mkF m 58 #[.val (.int p1), .val (.int p2), .val (.ref a1), .val (.ref a3), .val (.int cc), .val (.int (own_hex cc)), .unset, .unset, .unset] [(.int (1 : Int32))])) _
        refine XS.goto X18.here hx rfl (pc0 := 58) (pc' := 62) rfl (hb hby at_58) (by decide) (by decide) ?_
        exact kk_
      exact ⟨_, _, X18, eH18, N18, p_19⟩
    · have hk : True := trivial
      have p_20 : ∀ tg_, Steps p.tables e below (T6.setTop (mkF m 62 #[.val (.int p1), .val (.int p2), .val (.ref a1), .val (.ref a3), .val (.int cc), .val (.int (own_hex cc)), .unset, .unset, .unset] [(.int (1 : Int32))])) tg_ → Steps p.tables e below (s₁.setTop (entryFrame m #[(.int p1), (.int p2)] maxLocals)) tg_ := by
        intro tg_ kk_
        refine p_7 tg_ ?_
        show Steps p.tables e below (T6.setTop (mkF m 20 #[.val (.int p1), .val (.int p2), .val (.ref a1), .val (.ref a3), .val (.int cc), .val (.int (own_hex cc)), .unset, .unset, .unset] [(.int (-1 : Int32)), (.int (own_hex cc))])) _
        refine XS.icmpYes X6.here hx rfl (pc0 := 20) (pc' := 57) rfl (hb hby at_20) rfl (teq (show (own_hex cc) = (-1 : Int32) from g0)).1 (by decide) (by decide) ?_
        show Steps p.tables e below (T6.setTop (mkF m 57 #[.val (.int p1), .val (.int p2), .val (.ref a1), .val (.ref a3), .val (.int cc), .val (.int (own_hex cc)), .unset, .unset, .unset] [])) _
        refine XS.iconst X6.here hx rfl (hb hby at_57) ?_
        show Steps p.tables e below (T6.setTop (mkF m 58 #[.val (.int p1), .val (.int p2), .val (.ref a1), .val (.ref a3), .val (.int cc), .val (.int (own_hex cc)), .unset, .unset, .unset] [(.int (1 : Int32))])) _
        refine XS.goto X6.here hx rfl (pc0 := 58) (pc' := 62) rfl (hb hby at_58) (by decide) (by decide) ?_
        exact kk_
      exact ⟨_, _, X6, eH6, N6, p_20⟩
  have p_21 : ∀ tg_, Steps p.tables e below (T9.setTop (mkF m 68 #[.val (.int p1), .val (.int p2), .val (.ref a1), .val (.ref a3), .val (.int cc), .val (.int (own_hex cc)), .val (.int (1 : Int32)), .unset, .unset] [(.int (p2 &&& (15 : Int32)))])) tg_ → Steps p.tables e below (s₁.setTop (entryFrame m #[(.int p1), (.int p2)] maxLocals)) tg_ := by
    intro tg_ kk_
    refine p_8 tg_ ?_
    show Steps p.tables e below (T9.setTop (mkF m 62 #[.val (.int p1), .val (.int p2), .val (.ref a1), .val (.ref a3), .val (.int cc), .val (.int (own_hex cc)), .unset, .unset, .unset] [(.int (1 : Int32))])) _
    refine XS.istore X9.here hx rfl (hb hby at_62) rfl (l' := #[.val (.int p1), .val (.int p2), .val (.ref a1), .val (.ref a3), .val (.int cc), .val (.int (own_hex cc)), .val (.int (1 : Int32)), .unset, .unset]) rfl ?_
    show Steps p.tables e below (T9.setTop (mkF m 64 #[.val (.int p1), .val (.int p2), .val (.ref a1), .val (.ref a3), .val (.int cc), .val (.int (own_hex cc)), .val (.int (1 : Int32)), .unset, .unset] [])) _
    refine XS.iloadN X9.here hx rfl (hb hby at_64) rfl ?_
    show Steps p.tables e below (T9.setTop (mkF m 65 #[.val (.int p1), .val (.int p2), .val (.ref a1), .val (.ref a3), .val (.int cc), .val (.int (own_hex cc)), .val (.int (1 : Int32)), .unset, .unset] [(.int p2)])) _
    refine XS.bipush X9.here hx rfl (hb hby at_65) ?_
    show Steps p.tables e below (T9.setTop (mkF m 67 #[.val (.int p1), .val (.int p2), .val (.ref a1), .val (.ref a3), .val (.int cc), .val (.int (own_hex cc)), .val (.int (1 : Int32)), .unset, .unset] [(.int (15 : Int32)), (.int p2)])) _
    refine XS.iand X9.here hx rfl (hb hby at_67) rfl ?_
    exact kk_
  obtain ⟨dd, h_dd⟩ : ∃ z, z = (p2 &&& (15 : Int32)) := ⟨_, rfl⟩
  rw [← h_dd] at p_21
  have hd0 : 0 ≤ dd.toInt ∧ dd.toInt ≤ 15 := by rw [h_dd]; exact c_and p2 (15 : Int32) (by decide)
  have hix := own_ix16 hd0.1 hd0.2
  have hl := own_lo_at _ hix.2.2.1
  have hu := own_up_at _ hix.2.2.1
  have p_22 : ∀ tg_, Steps p.tables e below (T9.setTop (mkF m 73 #[.val (.int p1), .val (.int p2), .val (.ref a1), .val (.ref a3), .val (.int cc), .val (.int (own_hex cc)), .val (.int (1 : Int32)), .val (.int dd), .unset] [(.int dd), (.ref a1)])) tg_ → Steps p.tables e below (s₁.setTop (entryFrame m #[(.int p1), (.int p2)] maxLocals)) tg_ := by
    intro tg_ kk_
    refine p_21 tg_ ?_
    show Steps p.tables e below (T9.setTop (mkF m 68 #[.val (.int p1), .val (.int p2), .val (.ref a1), .val (.ref a3), .val (.int cc), .val (.int (own_hex cc)), .val (.int (1 : Int32)), .unset, .unset] [(.int dd)])) _
    refine XS.istore X9.here hx rfl (hb hby at_68) rfl (l' := #[.val (.int p1), .val (.int p2), .val (.ref a1), .val (.ref a3), .val (.int cc), .val (.int (own_hex cc)), .val (.int (1 : Int32)), .val (.int dd), .unset]) rfl ?_
    show Steps p.tables e below (T9.setTop (mkF m 70 #[.val (.int p1), .val (.int p2), .val (.ref a1), .val (.ref a3), .val (.int cc), .val (.int (own_hex cc)), .val (.int (1 : Int32)), .val (.int dd), .unset] [])) _
    refine XS.aloadN X9.here hx rfl (hb hby at_70) rfl rfl ?_
    show Steps p.tables e below (T9.setTop (mkF m 71 #[.val (.int p1), .val (.int p2), .val (.ref a1), .val (.ref a3), .val (.int cc), .val (.int (own_hex cc)), .val (.int (1 : Int32)), .val (.int dd), .unset] [(.ref a1)])) _
    refine XS.iload X9.here hx rfl (hb hby at_71) rfl ?_
    exact kk_
  obtain ⟨cq23, kq23, q23a, q23b, q23c⟩ := isOf hZ e9 EL
  obtain ⟨_, _, ⟨T23, L23, k23, n23⟩, -, X23, ⟨Lc23, hQ23, l23, y23, z23⟩, st23⟩ := X9.virtualBack hx (y := (⟨"java/lang/String", "charAt", "(I)C"⟩ : MethodName)) (z := (⟨"java/lang/String", "charAt", "(I)C"⟩ : MethodName)) hown (mvT hZ (hw _ (List.mem_of_getElem? (i := 13) rfl))) (mvT hZ (hw _ (List.mem_of_getElem? (i := 14) rfl))) (notFace_of_selects (args := #[]) (mvT hZ (hw _ (List.mem_of_getElem? (i := 16) rfl)))) (mvT hZ (hw _ (List.mem_of_getElem? (i := 16) rfl))) (mvT hZ (hw _ (List.mem_of_getElem? (i := 15) rfl))) (by decide) (backOf (W := 0) (rm_ch l s a0 hw [] a1 dd cs fv b1 16 _ (16 : Int32) h3 n0 Zb SC2 hcs SF2 hfv EL CL VL FL rfl hix.1 hix.2.1 hix.2.2.1) hZ (hw _ (List.mem_of_getElem? (i := 17) rfl)) (hw _ (List.mem_of_getElem? (i := 1) rfl)) (by decide) (by decide)) q23a q23c (g := (mkF m 73 #[.val (.int p1), .val (.int p2), .val (.ref a1), .val (.ref a3), .val (.int cc), .val (.int (own_hex cc)), .val (.int (1 : Int32)), .val (.int dd), .unset] [(.int dd), (.ref a1)])) rfl (by rw [hml]; rfl) (Steps.refl _) (argsL := [(.int dd)]) (rest := []) (lenOf pd_law_1 rfl) rfl (by show 2 * 0 + _ ≤ _; exact Nat.le_of_eq rfl) (hb hby at_73) (fun _ _ => ⟨rfl, e9, (by decide : 4 + 0 ≤ _), (by decide : 136 + 0 ≤ _)⟩)
  dsimp only [Pt.U, Pt.locs, Pt.cells, Pt.slots] at X23 l23 y23 z23 st23 hQ23
  subst l23 y23 z23
  obtain ⟨rfl, N23q, hh23⟩ := hQ23
  have N23 := Fr.app N9 N23q
  have eH23 : T23.heap = h3 := hh23
  have p_24 : ∀ tg_, Steps p.tables e below (T23.setTop (mkF m 76 #[.val (.int p1), .val (.int p2), .val (.ref a1), .val (.ref a3), .val (.int cc), .val (.int (own_hex cc)), .val (.int (1 : Int32)), .val (.int dd), .unset] [(.int ((own_lo.getD dd.toNatClampNeg 0) &&& (255 : Int32)))])) tg_ → Steps p.tables e below (s₁.setTop (entryFrame m #[(.int p1), (.int p2)] maxLocals)) tg_ := by
    intro tg_ kk_
    refine p_22 tg_ ?_
    refine st23.trans ?_
    exact kk_
  obtain ⟨_, _, ⟨T25, L25, k25, n25⟩, -, X25, ⟨Lc25, hQ25, l25, y25, z25⟩, st25⟩ := Jvm.LawKit.callS X23 hx (y := (⟨"com/example/nodewright/nodewright/reader/EncodedNames", "hexDigit", "(C)I"⟩ : MethodName)) hown (mvT hZ (hw _ (List.mem_of_getElem? (i := 9) rfl))) (mvT hZ (hw _ (List.mem_of_getElem? (i := 10) rfl))) (mvT hZ (hw _ (List.mem_of_getElem? (i := 11) rfl))) (mvT hZ (hw _ (List.mem_of_getElem? (i := 12) rfl))) (by decide) (backOf (W := 0) (rm_hex l s a0 hw [] ((own_lo.getD dd.toNatClampNeg 0) &&& (255 : Int32)) h3 n0 Zb) hZ (hw _ (List.mem_of_getElem? (i := 12) rfl)) (hw _ (List.mem_of_getElem? (i := 11) rfl)) (by decide) (by decide)) (g := (mkF m 76 #[.val (.int p1), .val (.int p2), .val (.ref a1), .val (.ref a3), .val (.int cc), .val (.int (own_hex cc)), .val (.int (1 : Int32)), .val (.int dd), .unset] [(.int ((own_lo.getD dd.toNatClampNeg 0) &&& (255 : Int32)))])) rfl (by rw [hml]; rfl) (argsL := [(.int ((own_lo.getD dd.toNatClampNeg 0) &&& (255 : Int32)))]) (rest := []) (lenOf pd_law_0 rfl) rfl (by show 2 * 0 + _ ≤ _; exact Nat.le_of_eq rfl) (hb hby at_76) (fun _ _ => ⟨rfl, eH23, (by decide : 4 + 0 ≤ _), (by decide : 136 + 0 ≤ _)⟩)
  dsimp only [Pt.U, Pt.locs, Pt.cells, Pt.slots] at X25 l25 y25 z25 st25 hQ25
  subst l25 y25 z25
  obtain ⟨rfl, N25q, hh25⟩ := hQ25
  have N25 := Fr.app N23 N25q
  have eH25 : T25.heap = h3 := hh25
  have p_26 : ∀ tg_, Steps p.tables e below (T25.setTop (mkF m 87 #[.val (.int p1), .val (.int p2), .val (.ref a1), .val (.ref a3), .val (.int cc), .val (.int (own_hex cc)), .val (.int (1 : Int32)), .val (.int dd), .unset] [(.int dd), (.ref a3)])) tg_ → Steps p.tables e below (s₁.setTop (entryFrame m #[(.int p1), (.int p2)] maxLocals)) tg_ := by
    intro tg_ kk_
    refine p_24 tg_ ?_
    refine st25 _ ?_
    show Steps p.tables e below (T25.setTop (mkF m 79 #[.val (.int p1), .val (.int p2), .val (.ref a1), .val (.ref a3), .val (.int cc), .val (.int (own_hex cc)), .val (.int (1 : Int32)), .val (.int dd), .unset] [(.int (own_hex ((own_lo.getD dd.toNatClampNeg 0) &&& (255 : Int32))))])) _
    refine XS.iload X25.here hx rfl (hb hby at_79) rfl ?_
    show Steps p.tables e below (T25.setTop (mkF m 81 #[.val (.int p1), .val (.int p2), .val (.ref a1), .val (.ref a3), .val (.int cc), .val (.int (own_hex cc)), .val (.int (1 : Int32)), .val (.int dd), .unset] [(.int dd), (.int (own_hex ((own_lo.getD dd.toNatClampNeg 0) &&& (255 : Int32))))])) _
    refine XS.icmpNo X25.here hx rfl (hb hby at_81) rfl (teq (show (own_hex ((own_lo.getD dd.toNatClampNeg 0) &&& (255 : Int32))) = dd from (own_back hix.2.2.1 hix.2.2.2 (Or.inl hl)))).2 ?_
    show Steps p.tables e below (T25.setTop (mkF m 84 #[.val (.int p1), .val (.int p2), .val (.ref a1), .val (.ref a3), .val (.int cc), .val (.int (own_hex cc)), .val (.int (1 : Int32)), .val (.int dd), .unset] [])) _
    refine XS.aloadN X25.here hx rfl (hb hby at_84) rfl rfl ?_
    show Steps p.tables e below (T25.setTop (mkF m 85 #[.val (.int p1), .val (.int p2), .val (.ref a1), .val (.ref a3), .val (.int cc), .val (.int (own_hex cc)), .val (.int (1 : Int32)), .val (.int dd), .unset] [(.ref a3)])) _
    refine XS.iload X25.here hx rfl (hb hby at_85) rfl ?_
    exact kk_
  obtain ⟨cq27, kq27, q27a, q27b, q27c⟩ := isOf hZ eH25 EA3
  obtain ⟨_, _, ⟨T27, L27, k27, n27⟩, -, X27, ⟨Lc27, hQ27, l27, y27, z27⟩, st27⟩ := X25.virtualBack hx (y := (⟨"java/lang/String", "charAt", "(I)C"⟩ : MethodName)) (z := (⟨"java/lang/String", "charAt", "(I)C"⟩ : MethodName)) hown (mvT hZ (hw _ (List.mem_of_getElem? (i := 13) rfl))) (mvT hZ (hw _ (List.mem_of_getElem? (i := 14) rfl))) (notFace_of_selects (args := #[]) (mvT hZ (hw _ (List.mem_of_getElem? (i := 16) rfl)))) (mvT hZ (hw _ (List.mem_of_getElem? (i := 16) rfl))) (mvT hZ (hw _ (List.mem_of_getElem? (i := 15) rfl))) (by decide) (backOf (W := 0) (rm_ch l s a0 hw [] a3 dd cs fv b3 16 _ (16 : Int32) h3 n0 Zb SC2 hcs SF2 hfv EA3 FC3 FV3 F3 rfl hix.1 hix.2.1 hix.2.2.1) hZ (hw _ (List.mem_of_getElem? (i := 17) rfl)) (hw _ (List.mem_of_getElem? (i := 1) rfl)) (by decide) (by decide)) q27a q27c (g := (mkF m 87 #[.val (.int p1), .val (.int p2), .val (.ref a1), .val (.ref a3), .val (.int cc), .val (.int (own_hex cc)), .val (.int (1 : Int32)), .val (.int dd), .unset] [(.int dd), (.ref a3)])) rfl (by rw [hml]; rfl) (Steps.refl _) (argsL := [(.int dd)]) (rest := []) (lenOf pd_law_1 rfl) rfl (by show 2 * 0 + _ ≤ _; exact Nat.le_of_eq rfl) (hb hby at_87) (fun _ _ => ⟨rfl, eH25, (by decide : 4 + 0 ≤ _), (by decide : 136 + 0 ≤ _)⟩)
  dsimp only [Pt.U, Pt.locs, Pt.cells, Pt.slots] at X27 l27 y27 z27 st27 hQ27
  subst l27 y27 z27
  obtain ⟨rfl, N27q, hh27⟩ := hQ27
  have N27 := Fr.app N25 N27q
  have eH27 : T27.heap = h3 := hh27
  have p_28 : ∀ tg_, Steps p.tables e below (T27.setTop (mkF m 90 #[.val (.int p1), .val (.int p2), .val (.ref a1), .val (.ref a3), .val (.int cc), .val (.int (own_hex cc)), .val (.int (1 : Int32)), .val (.int dd), .unset] [(.int ((own_up.getD dd.toNatClampNeg 0) &&& (255 : Int32)))])) tg_ → Steps p.tables e below (s₁.setTop (entryFrame m #[(.int p1), (.int p2)] maxLocals)) tg_ := by
    intro tg_ kk_
    refine p_26 tg_ ?_
    refine st27.trans ?_
    exact kk_
  obtain ⟨_, _, ⟨T29, L29, k29, n29⟩, -, X29, ⟨Lc29, hQ29, l29, y29, z29⟩, st29⟩ := Jvm.LawKit.callS X27 hx (y := (⟨"com/example/nodewright/nodewright/reader/EncodedNames", "hexDigit", "(C)I"⟩ : MethodName)) hown (mvT hZ (hw _ (List.mem_of_getElem? (i := 9) rfl))) (mvT hZ (hw _ (List.mem_of_getElem? (i := 10) rfl))) (mvT hZ (hw _ (List.mem_of_getElem? (i := 11) rfl))) (mvT hZ (hw _ (List.mem_of_getElem? (i := 12) rfl))) (by decide) (backOf (W := 0) (rm_hex l s a0 hw [] ((own_up.getD dd.toNatClampNeg 0) &&& (255 : Int32)) h3 n0 Zb) hZ (hw _ (List.mem_of_getElem? (i := 12) rfl)) (hw _ (List.mem_of_getElem? (i := 11) rfl)) (by decide) (by decide)) (g := (mkF m 90 #[.val (.int p1), .val (.int p2), .val (.ref a1), .val (.ref a3), .val (.int cc), .val (.int (own_hex cc)), .val (.int (1 : Int32)), .val (.int dd), .unset] [(.int ((own_up.getD dd.toNatClampNeg 0) &&& (255 : Int32)))])) rfl (by rw [hml]; rfl) (argsL := [(.int ((own_up.getD dd.toNatClampNeg 0) &&& (255 : Int32)))]) (rest := []) (lenOf pd_law_0 rfl) rfl (by show 2 * 0 + _ ≤ _; exact Nat.le_of_eq rfl) (hb hby at_90) (fun _ _ => ⟨rfl, eH27, (by decide : 4 + 0 ≤ _), (by decide : 136 + 0 ≤ _)⟩)
  dsimp only [Pt.U, Pt.locs, Pt.cells, Pt.slots] at X29 l29 y29 z29 st29 hQ29
  subst l29 y29 z29
  obtain ⟨rfl, N29q, hh29⟩ := hQ29
  have N29 := Fr.app N27 N29q
  have eH29 : T29.heap = h3 := hh29
  have p_30 : ∀ tg_, Steps p.tables e below (T29.setTop (mkF m 120 #[.val (.int p1), .val (.int p2), .val (.ref a1), .val (.ref a3), .val (.int cc), .val (.int (own_hex cc)), .val (.int (1 : Int32)), .val (.int dd), .val (.int (1 : Int32))] [(.int (1 : Int32))])) tg_ → Steps p.tables e below (s₁.setTop (entryFrame m #[(.int p1), (.int p2)] maxLocals)) tg_ := by
    intro tg_ kk_
    refine p_28 tg_ ?_
    refine st29 _ ?_
    show Steps p.tables e below (T29.setTop (mkF m 93 #[.val (.int p1), .val (.int p2), .val (.ref a1), .val (.ref a3), .val (.int cc), .val (.int (own_hex cc)), .val (.int (1 : Int32)), .val (.int dd), .unset] [(.int (own_hex ((own_up.getD dd.toNatClampNeg 0) &&& (255 : Int32))))])) _
    refine XS.iload X29.here hx rfl (hb hby at_93) rfl ?_
    show Steps p.tables e below (T29.setTop (mkF m 95 #[.val (.int p1), .val (.int p2), .val (.ref a1), .val (.ref a3), .val (.int cc), .val (.int (own_hex cc)), .val (.int (1 : Int32)), .val (.int dd), .unset] [(.int dd), (.int (own_hex ((own_up.getD dd.toNatClampNeg 0) &&& (255 : Int32))))])) _
    refine XS.icmpNo X29.here hx rfl (hb hby at_95) rfl (teq (show (own_hex ((own_up.getD dd.toNatClampNeg 0) &&& (255 : Int32))) = dd from (own_back hix.2.2.1 hix.2.2.2 (Or.inr hu)))).2 ?_
    show Steps p.tables e below (T29.setTop (mkF m 98 #[.val (.int p1), .val (.int p2), .val (.ref a1), .val (.ref a3), .val (.int cc), .val (.int (own_hex cc)), .val (.int (1 : Int32)), .val (.int dd), .unset] [])) _
    refine XS.iconst X29.here hx rfl (hb hby at_98) ?_
    show Steps p.tables e below (T29.setTop (mkF m 99 #[.val (.int p1), .val (.int p2), .val (.ref a1), .val (.ref a3), .val (.int cc), .val (.int (own_hex cc)), .val (.int (1 : Int32)), .val (.int dd), .unset] [(.int (1 : Int32))])) _
    refine XS.goto X29.here hx rfl (pc0 := 99) (pc' := 103) rfl (hb hby at_99) (by decide) (by decide) ?_
    show Steps p.tables e below (T29.setTop (mkF m 103 #[.val (.int p1), .val (.int p2), .val (.ref a1), .val (.ref a3), .val (.int cc), .val (.int (own_hex cc)), .val (.int (1 : Int32)), .val (.int dd), .unset] [(.int (1 : Int32))])) _
    refine XS.istore X29.here hx rfl (hb hby at_103) rfl (l' := #[.val (.int p1), .val (.int p2), .val (.ref a1), .val (.ref a3), .val (.int cc), .val (.int (own_hex cc)), .val (.int (1 : Int32)), .val (.int dd), .val (.int (1 : Int32))]) rfl ?_
    show Steps p.tables e below (T29.setTop (mkF m 105 #[.val (.int p1), .val (.int p2), .val (.ref a1), .val (.ref a3), .val (.int cc), .val (.int (own_hex cc)), .val (.int (1 : Int32)), .val (.int dd), .val (.int (1 : Int32))] [])) _
    refine XS.iload X29.here hx rfl (hb hby at_105) rfl ?_
    show Steps p.tables e below (T29.setTop (mkF m 107 #[.val (.int p1), .val (.int p2), .val (.ref a1), .val (.ref a3), .val (.int cc), .val (.int (own_hex cc)), .val (.int (1 : Int32)), .val (.int dd), .val (.int (1 : Int32))] [(.int (1 : Int32))])) _
    refine XS.ifNo X29.here hx rfl (hb hby at_107) rfl ((if0 _ _).trans (feq (show ¬ ((1 : Int32) = (0 : Int32)) from (by decide))).1) ?_
    show Steps p.tables e below (T29.setTop (mkF m 110 #[.val (.int p1), .val (.int p2), .val (.ref a1), .val (.ref a3), .val (.int cc), .val (.int (own_hex cc)), .val (.int (1 : Int32)), .val (.int dd), .val (.int (1 : Int32))] [])) _
    refine XS.iload X29.here hx rfl (hb hby at_110) rfl ?_
    show Steps p.tables e below (T29.setTop (mkF m 112 #[.val (.int p1), .val (.int p2), .val (.ref a1), .val (.ref a3), .val (.int cc), .val (.int (own_hex cc)), .val (.int (1 : Int32)), .val (.int dd), .val (.int (1 : Int32))] [(.int (1 : Int32))])) _
    refine XS.ifNo X29.here hx rfl (hb hby at_112) rfl ((if0 _ _).trans (feq (show ¬ ((1 : Int32) = (0 : Int32)) from (by decide))).1) ?_
    show Steps p.tables e below (T29.setTop (mkF m 115 #[.val (.int p1), .val (.int p2), .val (.ref a1), .val (.ref a3), .val (.int cc), .val (.int (own_hex cc)), .val (.int (1 : Int32)), .val (.int dd), .val (.int (1 : Int32))] [])) _
    refine XS.iconst X29.here hx rfl (hb hby at_115) ?_
    show Steps p.tables e below (T29.setTop (mkF m 116 #[.val (.int p1), .val (.int p2), .val (.ref a1), .val (.ref a3), .val (.int cc), .val (.int (own_hex cc)), .val (.int (1 : Int32)), .val (.int dd), .val (.int (1 : Int32))] [(.int (1 : Int32))])) _
    refine XS.goto X29.here hx rfl (pc0 := 116) (pc' := 120) rfl (hb hby at_116) (by decide) (by decide) ?_
    exact kk_
  obtain ⟨fs, hr, hrun, hended, hE1, hE2, hE3, hE4⟩ := X29.leaveW S3 (by rw [eH29]; exact K3) (v := some (.int (1 : Int32))) (fun h => by rw [Bd.returns] at h; cases h)
  refine ⟨_, _, p_30 _ ?_, hrun, hended, _, _, rfl, ?_, hE1, hE2, hE3, hE4.mono (by decide) (by decide)⟩
  · show Steps p.tables e below (T29.setTop (mkF m 120 #[.val (.int p1), .val (.int p2), .val (.ref a1), .val (.ref a3), .val (.int cc), .val (.int (own_hex cc)), .val (.int (1 : Int32)), .val (.int dd), .val (.int (1 : Int32))] [(.int (1 : Int32))])) _
    exact retN X29 hx (t := .boolean) Bd.returns (by simp) (hb hby at_120) hr
  · show Q_law s p1 p2 cs fv h0 n0 _ T29.heap _
    rw [eH29]
    exact ⟨rfl, N29⟩
set_option maxRecDepth 65536 in
set_option maxHeartbeats 40000000 in
theorem comes_1 {Post : Tables → Env → Array Value → State → Outcome → State → Prop} (hpost : ∀ tb e args s v u, (limb_1_1.after args s (.returned v) u = true ∧ limb_1_2.after args s (.returned v) u = true ∧ True) → ReturnedEndW s (.returned v) u (Jvm.fieldLocs frame_1_writes args s ++ Jvm.arrayLocs frame_1_arrays args s ++ Jvm.staticLocs frame_1_statics s) 8 2112 → Post tb e args s (.returned v) u) :
    ArmFor flags0 classFile x code maxLocals ret World_1 tables_1 room_1 Calls_1 rest_1 Pre_1 Post := by
  intro l hfl _ _ p e ha hc hk s m args below hf hA hF happ hP
  obtain ⟨hcalls, hrest, hpre⟩ := hP
  obtain ⟨-, -, -, hnamed, -, -, -, hat⟩ := (Spec.applies_iff hf).mp happ
  obtain ⟨hg, hn⟩ := and_e (Cond.before_iff.mp (show (Jvm.Cond.and given_1 narrow_1).before args s = true from hpre))
  obtain ⟨hcnt, hr0⟩ := and_e hg
  obtain ⟨ha0, hr1⟩ := and_e hr0
  have ha1 := hr1
  obtain ⟨w0, w1, rfl⟩ : ∃ w0 w1 : Value, args = #[w0, w1] := by
    have hs : args.size = 2 := by simpa [Cond.value, given_1] using hcnt
    obtain ⟨L⟩ := args
    match L, hs with
    | [w0, w1], _ => exact ⟨w0, w1, rfl⟩
  have hw := fun d (hd : d ∈ tables_1) => atoms_spec (ws := Jvm.Cond.code x code maxLocals ret :: tables_1) hat d (List.mem_cons_of_mem _ hd)
  have hfit : Fit s := fun {y c} hc i hi => by
    obtain ⟨ha, rfl⟩ := Array.getElem?_eq_some_iff.mp hc
    have q := List.all_eq_true.mp ((Array.all_eq_true_iff_forall_mem.mp hF) _ (Array.getElem_mem ha)) i (List.mem_range.mpr hi)
    simpa [Array.getElem?_eq_getElem hi] using q
  obtain ⟨i0, e0⟩ := is_v ha0
  obtain rfl : w0 = (.int i0) := Option.some.inj e0
  obtain ⟨i1, e1⟩ := is_v ha1
  obtain rfl : w1 = (.int i1) := Option.some.inj e1
  obtain ⟨hsets, -⟩ := atoms_of _ (rest_1_c_eq ▸ (show rest_1_c.before _ s = true from hrest))
  have n5 := not_v (Cond.before_iff.mp (hsets _ (List.mem_of_getElem? (i := 2) rfl)))
  obtain ⟨ics, e10⟩ := is_v (Cond.before_iff.mp (hsets _ (List.mem_of_getElem? (i := 1) rfl)))
  have SC : Sta s s.heap "java/lang/String" "COMPACT_STRINGS" "Z" (.int ics) := Sta.start e10 (Or.inl (hsets _ (List.mem_of_getElem? (i := 0) rfl)))
  obtain ⟨vfv, e14, hrf⟩ := isR_v (Cond.before_iff.mp (hsets _ (List.mem_of_getElem? (i := 8) rfl)))
  have SF : Sta s s.heap "jdk/internal/util/Preconditions" "SIOOBE_FORMATTER" "Ljava/util/function/BiFunction;" vfv := Sta.start e14 (Or.inl (hsets _ (List.mem_of_getElem? (i := 7) rfl)))
  have hcs : ¬ (ics = (0 : Int32)) := gotF (Cond.eq_ints e10 (Term.int_eval (0))) n5
  have HC : Jvm.Lit.compactW.before _ s = true := hsets _ (List.mem_of_getElem? (i := 2) rfl)
  have H7 : Jvm.Lit.constHeld s "com/example/nodewright/nodewright/reader/EncodedNamesHexDigitPinLaw" 7 := hcalls.1 _ (List.mem_of_getElem? (i := 0) rfl)
  have H9 : Jvm.Lit.constHeld s "com/example/nodewright/nodewright/reader/EncodedNamesHexDigitPinLaw" 9 := hcalls.1 _ (List.mem_of_getElem? (i := 1) rfl)
  obtain ⟨n, o, h1, h2, h3, _, L, rfl, ⟨rfl, N⟩, hq⟩ := rm_law l s _ hw tables_1 i0 i1 ics vfv s.heap s.heap.size (Nat.le_refl _) SC hcs SF hrf HC H7 H9 p e ha hc hk s m _ below hf ((Spec.applies_iff_loose hf).mp happ).1 ⟨rfl, rfl, rfl⟩ trivial
  refine ⟨n, _, h1, h2, h3, hpost _ _ _ _ _ _ ⟨Cond.after_iff.mpr rfl, Cond.after_iff.mpr (eq_i res_at (Term.int_eval (1)) rfl), trivial⟩ ⟨hq.1, hq.2.1, hq.2.2.1, (hq.2.2.2.sift fun y hy => Or.inr (N y hy)).mono (by decide) (by decide)⟩⟩
theorem main_1_1 : Claimed_1_1 := comes_1 fun _ _ _ _ _ _ h hF => ⟨h.1, hF⟩
theorem main_1_2 : Claimed_1_2 := comes_1 fun _ _ _ _ _ _ h hF => ⟨h.2.1, hF⟩
end Jvm.Pilot.@@N@@
namespace Jvm.Pilot.@@N@@
open Jvm Jvm.ClassFile Sem Op Lib Jvm.Free Jvm.Stand Jvm.Pilot.@@N@@.Jvm.D
/-! MADE BY PROGRAM (witnessworld.py) out of the Statement's table words and the real class files: 15 classes; the members and pool entries that the words name. The judged class is class 1, her method 1. -/
namespace start1
open Jvm.ClassFile
def u (s : String) : CpInfo := .utf8 (stringToUtf16 s)
/-- a pool by its gaps: so many unusable entries, then the entry; so many at the end -/
def gap : Nat → List CpInfo → List CpInfo
  | 0, r => r
  | n + 1, r => .unusable :: gap n r
def poolList (es : List (Nat × CpInfo)) (last : Nat) : List CpInfo := es.foldr (fun e r => gap e.1 (e.2 :: r)) (gap last [])
def pool (es : List (Nat × CpInfo)) (last : Nat) : Array CpInfo := ⟨poolList es last⟩
def fileOf (pool : Array CpInfo) (this : Nat) (attrs : Array Attribute := #[]) (ms : Array MethodInfo := #[]) (fl : Nat := 33) (sup : Nat := 0) (ifs : Array Nat := #[]) (fds : Array FieldInfo := #[]) : ClassFile where
  minorVersion := 0
  majorVersion := 65
  constantPool := pool
  accessFlags := fl
  thisClass := this
  superClass := sup
  interfaces := ifs
  fields := fds
  methods := ms
  attributes := attrs
def plain (name : String) (sup : Option ClassId) : Class where
  name := name
  kind := .ordinary
  loader := none
  accessFlags := 33
  super := sup
  interfaces := #[]
  cf := none
  fields := #[]
  methods := #[]
  instanceTypes := #[]
  staticTypes := #[]
  resolved := #[]
  callSites := []
  init := .initialized
  statics := none
  mirror := none

def pool0 : Array CpInfo := pool [(5, u "<init>"), (0, u "()V"), (1, .class_ 10), (1, u "java/lang/Object")] 113

def k0m0 : Method := { name := "<init>", desc := "()V", sig := { parameters := [], returnType := none }, accessFlags := 1, code := none }
/-- java/lang/Object -/
def k0 : Class := { plain "java/lang/Object" none with
  accessFlags := 33
  interfaces := #[]
  cf := some (fileOf pool0 8 #[] #[{ accessFlags := 1, nameIndex := 5, descriptorIndex := 6, attributes := #[] }] 33 0 #[] #[])
  fields := #[]
  methods := #[k0m0]
  instanceTypes := #[]
  staticTypes := #[]
  resolved := Array.replicate 124 none
  statics := none }

def pool1 : Array CpInfo := pool [(2, .class_ 4), (1, u "java/lang/Object"), (0, u "<init>"), (0, u "()V"), (0, .string 8), (0, u "0123456789abcdef"), (0, .string 10), (0, u "0123456789ABCDEF"), (0, .methodref 12 13), (0, .class_ 14), (0, .nameAndType 15 16), (0, u "com/example/nodewright/nodewright/reader/EncodedNames"), (0, u "hexDigit"), (0, u "(C)I"), (0, .methodref 18 19), (0, .class_ 20), (0, .nameAndType 21 22), (0, u "java/lang/String"), (0, u "charAt"), (0, u "(I)C"), (0, .class_ 24), (0, u "com/example/nodewright/nodewright/reader/EncodedNamesHexDigitPinLaw"), (2, u "law"), (0, u "(II)Z")] 3

def k1m0 : Method := { name := "<init>", desc := "()V", sig := { parameters := [], returnType := none }, accessFlags := 1, code := none }
def k1c1 : Code := { maxStack := 2, maxLocals := 9, code := code, exceptionTable := #[], attributes := #[] }
def k1m1 : Method := { name := "law", desc := "(II)Z", sig := { parameters := [.int, .int], returnType := some .boolean }, accessFlags := 9, code := some k1c1 }
/-- com/example/nodewright/nodewright/reader/EncodedNamesHexDigitPinLaw -/
def k1 : Class := { plain "com/example/nodewright/nodewright/reader/EncodedNamesHexDigitPinLaw" (some 0) with
  accessFlags := 49
  interfaces := #[]
  cf := some (fileOf pool1 23 #[] #[{ accessFlags := 1, nameIndex := 5, descriptorIndex := 6, attributes := #[] }, { accessFlags := 9, nameIndex := 27, descriptorIndex := 28, attributes := #[] }] 49 2 #[] #[])
  fields := #[]
  methods := #[k1m0, k1m1]
  instanceTypes := #[]
  staticTypes := #[]
  resolved := Array.replicate 32 none
  statics := none }

def pool2 : Array CpInfo := pool [(1, .class_ 2), (0, u "java/io/Serializable"), (0, .class_ 4), (0, u "java/lang/Object")] 2

/-- java/io/Serializable -/
def k2 : Class := { plain "java/io/Serializable" (some 0) with
  accessFlags := 1537
  interfaces := #[]
  cf := some (fileOf pool2 1 #[] #[] 1537 3 #[] #[])
  fields := #[]
  methods := #[]
  instanceTypes := #[]
  staticTypes := #[]
  resolved := Array.replicate 7 none
  statics := none }

def pool3 : Array CpInfo := pool [(1, .class_ 2), (0, u "java/lang/Comparable"), (0, .class_ 4), (0, u "java/lang/Object")] 7

/-- java/lang/Comparable -/
def k3 : Class := { plain "java/lang/Comparable" (some 0) with
  accessFlags := 1537
  interfaces := #[]
  cf := some (fileOf pool3 1 #[] #[] 1537 3 #[] #[])
  fields := #[]
  methods := #[]
  instanceTypes := #[]
  staticTypes := #[]
  resolved := Array.replicate 12 none
  statics := none }

def pool4 : Array CpInfo := pool [(2, .class_ 4), (1, u "java/lang/CharSequence"), (42, .class_ 48), (0, u "java/lang/CharSequence$1CodePointIterator"), (10, .class_ 60), (0, u "java/lang/CharSequence$1CharIterator"), (5, .class_ 67), (0, u "java/lang/Object")] 63

/-- java/lang/CharSequence -/
def k4 : Class := { plain "java/lang/CharSequence" (some 0) with
  accessFlags := 1537
  interfaces := #[]
  cf := some (fileOf pool4 2 #[.nestMembers #[47, 59]] #[] 1537 66 #[] #[])
  fields := #[]
  methods := #[]
  instanceTypes := #[]
  staticTypes := #[]
  resolved := Array.replicate 131 none
  statics := none }

def pool5 : Array CpInfo := pool [(1, .class_ 2), (0, u "java/lang/constant/Constable"), (0, .class_ 4), (0, u "java/lang/Object")] 6

/-- java/lang/constant/Constable -/
def k5 : Class := { plain "java/lang/constant/Constable" (some 0) with
  accessFlags := 1537
  interfaces := #[]
  cf := some (fileOf pool5 1 #[] #[] 1537 3 #[] #[])
  fields := #[]
  methods := #[]
  instanceTypes := #[]
  staticTypes := #[]
  resolved := Array.replicate 11 none
  statics := none }

def pool6 : Array CpInfo := pool [(1, .class_ 2), (0, u "java/lang/constant/ConstantDesc"), (0, .class_ 4), (0, u "java/lang/Object")] 32

/-- java/lang/constant/ConstantDesc -/
def k6 : Class := { plain "java/lang/constant/ConstantDesc" (some 0) with
  accessFlags := 1537
  interfaces := #[]
  cf := some (fileOf pool6 1 #[] #[] 1537 3 #[] #[])
  fields := #[]
  methods := #[]
  instanceTypes := #[]
  staticTypes := #[]
  resolved := Array.replicate 37 none
  statics := none }

def pool7 : Array CpInfo := pool [(2, .class_ 4), (1, u "java/lang/Object"), (0, u "<init>"), (0, u "()V"), (2, .fieldref 10 11), (0, .class_ 12), (0, .nameAndType 13 14), (0, u "java/lang/String"), (0, u "value"), (0, u "[B"), (0, .fieldref 10 16), (0, .nameAndType 17 18), (0, u "coder"), (0, u "B"), (2, u "hash"), (0, u "I"), (2, u "hashIsZero"), (0, u "Z"), (11, .fieldref 10 39), (0, .nameAndType 40 26), (0, u "COMPACT_STRINGS"), (66, .class_ 109), (1, u "java/lang/StringLatin1"), (32, u "()Z"), (220, u "([BI)C"), (27, u "(II)V"), (35, u "(I)C"), (64, .methodref 10 493), (0, .nameAndType 494 142), (0, u "isLatin1"), (0, .methodref 107 496), (0, .nameAndType 497 363), (0, u "charAt"), (3, u "checkIndex"), (73, .class_ 576), (0, u "java/lang/CharSequence"), (22, u "CASE_INSENSITIVE_ORDER"), (0, u "Ljava/util/Comparator;"), (452, .fieldref 1054 1055), (0, .class_ 1056), (0, .nameAndType 1057 1058), (0, u "jdk/internal/util/Preconditions"), (0, u "SIOOBE_FORMATTER"), (0, u "Ljava/util/function/BiFunction;"), (0, .methodref 1054 1060), (0, .nameAndType 501 1061), (0, u "(IILjava/util/function/BiFunction;)I"), (39, u "serialPersistentFields"), (0, u "[Ljava/io/ObjectStreamField;"), (0, .class_ 1104), (0, u "java/lang/String$CaseInsensitiveComparator"), (1, .class_ 1107), (0, u "java/io/Serializable"), (0, .class_ 1109), (0, u "java/lang/Comparable"), (0, .class_ 1111), (0, u "java/lang/constant/Constable"), (0, .class_ 1113), (0, u "java/lang/constant/ConstantDesc"), (2, u "serialVersionUID"), (0, u "J"), (3, u "REPL"), (0, u "C"), (2, u "LATIN1"), (1, u "UTF16")] 323

def k7m0 : Method := { name := "<init>", desc := "()V", sig := { parameters := [], returnType := none }, accessFlags := 1, code := none }
def k7c1 : Code := { maxStack := 2, maxLocals := 2, code := jdk_42_method_56_code, exceptionTable := #[], attributes := #[] }
def k7m1 : Method := { name := "charAt", desc := "(I)C", sig := { parameters := [.int], returnType := some .char }, accessFlags := 1, code := some k7c1 }
def k7c2 : Code := { maxStack := 1, maxLocals := 1, code := jdk_42_method_154_code, exceptionTable := #[], attributes := #[] }
def k7m2 : Method := { name := "isLatin1", desc := "()Z", sig := { parameters := [], returnType := some .boolean }, accessFlags := 0, code := some k7c2 }
def k7c3 : Code := { maxStack := 3, maxLocals := 2, code := jdk_42_method_155_code, exceptionTable := #[], attributes := #[] }
def k7m3 : Method := { name := "checkIndex", desc := "(II)V", sig := { parameters := [.int, .int], returnType := none }, accessFlags := 8, code := some k7c3 }
/-- java/lang/String -/
def k7 : Class := { plain "java/lang/String" (some 0) with
  accessFlags := 49
  interfaces := #[2, 3, 4, 5, 6]
  cf := some (fileOf pool7 10 #[.nestMembers #[1103]] #[{ accessFlags := 1, nameIndex := 5, descriptorIndex := 6, attributes := #[] }, { accessFlags := 1, nameIndex := 497, descriptorIndex := 427, attributes := #[] }, { accessFlags := 0, nameIndex := 494, descriptorIndex := 142, attributes := #[] }, { accessFlags := 8, nameIndex := 501, descriptorIndex := 391, attributes := #[] }] 49 2 #[1106, 1108, 575, 1110, 1112] #[{ accessFlags := 18, nameIndex := 13, descriptorIndex := 14, attributes := #[] }, { accessFlags := 18, nameIndex := 17, descriptorIndex := 18, attributes := #[] }, { accessFlags := 2, nameIndex := 21, descriptorIndex := 22, attributes := #[] }, { accessFlags := 2, nameIndex := 25, descriptorIndex := 26, attributes := #[] }, { accessFlags := 26, nameIndex := 1116, descriptorIndex := 1117, attributes := #[] }, { accessFlags := 24, nameIndex := 40, descriptorIndex := 26, attributes := #[] }, { accessFlags := 26, nameIndex := 1101, descriptorIndex := 1102, attributes := #[] }, { accessFlags := 26, nameIndex := 1121, descriptorIndex := 1122, attributes := #[] }, { accessFlags := 25, nameIndex := 599, descriptorIndex := 600, attributes := #[] }, { accessFlags := 24, nameIndex := 1125, descriptorIndex := 18, attributes := #[] }, { accessFlags := 24, nameIndex := 1127, descriptorIndex := 18, attributes := #[] }])
  fields := #[{ name := "value", type := (.array .byte), accessFlags := 18, slot := 0, constantValue := 0 }, { name := "coder", type := .byte, accessFlags := 18, slot := 1, constantValue := 0 }, { name := "hash", type := .int, accessFlags := 2, slot := 2, constantValue := 0 }, { name := "hashIsZero", type := .boolean, accessFlags := 2, slot := 3, constantValue := 0 }, { name := "serialVersionUID", type := .long, accessFlags := 26, slot := 0, constantValue := 0 }, { name := "COMPACT_STRINGS", type := .boolean, accessFlags := 24, slot := 1, constantValue := 0 }, { name := "serialPersistentFields", type := (.array (.object "java/io/ObjectStreamField")), accessFlags := 26, slot := 2, constantValue := 0 }, { name := "REPL", type := .char, accessFlags := 26, slot := 3, constantValue := 0 }, { name := "CASE_INSENSITIVE_ORDER", type := (.object "java/util/Comparator"), accessFlags := 25, slot := 4, constantValue := 0 }, { name := "LATIN1", type := .byte, accessFlags := 24, slot := 5, constantValue := 0 }, { name := "UTF16", type := .byte, accessFlags := 24, slot := 6, constantValue := 0 }]
  methods := #[k7m0, k7m1, k7m2, k7m3]
  instanceTypes := #[(.array .byte), .byte, .int, .boolean]
  staticTypes := #[.long, .boolean, (.array (.object "java/io/ObjectStreamField")), .char, (.object "java/util/Comparator"), .byte, .byte]
  resolved := Array.replicate 1451 none
  statics := some 0 }

def pool8 : Array CpInfo := pool [(2, .class_ 4), (1, u "java/lang/Object"), (0, u "<init>"), (0, u "()V"), (16, .class_ 25), (1, u "com/example/nodewright/nodewright/reader/EncodedNames"), (15, u "hexDigit"), (0, u "(C)I")] 35

def k8m0 : Method := { name := "<init>", desc := "()V", sig := { parameters := [], returnType := none }, accessFlags := 2, code := none }
def k8c1 : Code := { maxStack := 2, maxLocals := 1, code := prog_45_method_4_code, exceptionTable := #[], attributes := #[] }
def k8m1 : Method := { name := "hexDigit", desc := "(C)I", sig := { parameters := [.char], returnType := some .int }, accessFlags := 8, code := some k8c1 }
/-- com/example/nodewright/nodewright/reader/EncodedNames -/
def k8 : Class := { plain "com/example/nodewright/nodewright/reader/EncodedNames" (some 0) with
  accessFlags := 48
  interfaces := #[]
  cf := some (fileOf pool8 23 #[] #[{ accessFlags := 2, nameIndex := 5, descriptorIndex := 6, attributes := #[] }, { accessFlags := 8, nameIndex := 41, descriptorIndex := 42, attributes := #[] }] 48 2 #[] #[])
  fields := #[]
  methods := #[k8m0, k8m1]
  instanceTypes := #[]
  staticTypes := #[]
  resolved := Array.replicate 78 none
  statics := none }

def pool9 : Array CpInfo := pool [(1, .class_ 2), (0, u "java/lang/String"), (1, .class_ 6), (1, u "java/lang/Object"), (0, u "<init>"), (0, u "()V"), (0, .methodref 1 10), (0, .nameAndType 11 12), (0, u "checkIndex"), (0, u "(II)V"), (1, .class_ 16), (1, u "java/lang/StringLatin1"), (36, u "([BI)C"), (67, u "$assertionsDisabled"), (0, u "Z"), (98, .class_ 223), (1, u "java/lang/StringLatin1$LinesSpliterator"), (28, u "charAt"), (137, .class_ 391), (0, u "java/lang/StringLatin1$CharsSpliterator")] 3

def k9m0 : Method := { name := "<init>", desc := "()V", sig := { parameters := [], returnType := none }, accessFlags := 0, code := none }
def k9c1 : Code := { maxStack := 2, maxLocals := 2, code := jdk_43_method_2_code, exceptionTable := #[], attributes := #[] }
def k9m1 : Method := { name := "charAt", desc := "([BI)C", sig := { parameters := [(.array .byte), .int], returnType := some .char }, accessFlags := 9, code := some k9c1 }
/-- java/lang/StringLatin1 -/
def k9 : Class := { plain "java/lang/StringLatin1" (some 0) with
  accessFlags := 48
  interfaces := #[]
  cf := some (fileOf pool9 14 #[.nestMembers #[390, 221]] #[{ accessFlags := 0, nameIndex := 7, descriptorIndex := 8, attributes := #[] }, { accessFlags := 9, nameIndex := 252, descriptorIndex := 53, attributes := #[] }] 48 4 #[] #[{ accessFlags := 4120, nameIndex := 121, descriptorIndex := 122, attributes := #[] }])
  fields := #[{ name := "$assertionsDisabled", type := .boolean, accessFlags := 4120, slot := 0, constantValue := 0 }]
  methods := #[k9m0, k9m1]
  instanceTypes := #[]
  staticTypes := #[.boolean]
  resolved := Array.replicate 395 none
  statics := none }

def pool10 : Array CpInfo := pool [(2, .class_ 4), (1, u "java/lang/Object"), (0, u "<init>"), (0, u "()V"), (17, .class_ 26), (1, u "jdk/internal/util/Preconditions"), (6, u "checkIndex"), (21, .class_ 56), (0, u "jdk/internal/util/Preconditions$4"), (57, .class_ 115), (0, u "jdk/internal/util/Preconditions$1"), (7, u "SIOOBE_FORMATTER"), (0, u "Ljava/util/function/BiFunction;"), (0, .class_ 126), (0, u "jdk/internal/util/Preconditions$2"), (3, u "AIOOBE_FORMATTER"), (0, .class_ 132), (0, u "jdk/internal/util/Preconditions$3"), (3, u "IOOBE_FORMATTER"), (41, u "(IILjava/util/function/BiFunction;)I")] 15

def k10m0 : Method := { name := "<init>", desc := "()V", sig := { parameters := [], returnType := none }, accessFlags := 1, code := none }
def k10c1 : Code := { maxStack := 3, maxLocals := 3, code := jdk_41_method_11_code, exceptionTable := #[], attributes := #[] }
def k10m1 : Method := { name := "checkIndex", desc := "(IILjava/util/function/BiFunction;)I", sig := { parameters := [.int, .int, (.object "java/util/function/BiFunction")], returnType := some .int }, accessFlags := 9, code := some k10c1 }
/-- jdk/internal/util/Preconditions -/
def k10 : Class := { plain "jdk/internal/util/Preconditions" (some 0) with
  accessFlags := 33
  interfaces := #[]
  cf := some (fileOf pool10 24 #[.nestMembers #[55, 131, 125, 114]] #[{ accessFlags := 1, nameIndex := 5, descriptorIndex := 6, attributes := #[] }, { accessFlags := 9, nameIndex := 33, descriptorIndex := 178, attributes := #[] }] 33 2 #[] #[{ accessFlags := 25, nameIndex := 123, descriptorIndex := 124, attributes := #[] }, { accessFlags := 25, nameIndex := 130, descriptorIndex := 124, attributes := #[] }, { accessFlags := 25, nameIndex := 136, descriptorIndex := 124, attributes := #[] }])
  fields := #[{ name := "SIOOBE_FORMATTER", type := (.object "java/util/function/BiFunction"), accessFlags := 25, slot := 0, constantValue := 0 }, { name := "AIOOBE_FORMATTER", type := (.object "java/util/function/BiFunction"), accessFlags := 25, slot := 1, constantValue := 0 }, { name := "IOOBE_FORMATTER", type := (.object "java/util/function/BiFunction"), accessFlags := 25, slot := 2, constantValue := 0 }]
  methods := #[k10m0, k10m1]
  instanceTypes := #[]
  staticTypes := #[(.object "java/util/function/BiFunction"), (.object "java/util/function/BiFunction"), (.object "java/util/function/BiFunction")]
  resolved := Array.replicate 194 none
  statics := some 1 }

def pool11 : Array CpInfo := pool [(9, u "<init>"), (6, .class_ 18), (1, u "java/lang/Object"), (0, u "()V"), (1, .class_ 23), (1, u "jdk/internal/util/ArraysSupport"), (0, u "LOG2_ARRAY_LONG_INDEX_SCALE"), (0, u "I"), (2, u "U"), (0, u "Ljdk/internal/misc/Unsafe;"), (8, u "BIG_ENDIAN"), (0, u "Z"), (8, u "LOG2_BYTE_BIT_SIZE"), (4, u "LOG2_ARRAY_INT_INDEX_SCALE"), (54, u "JLA"), (0, u "Ljdk/internal/access/JavaLangAccess;"), (11, u "LOG2_ARRAY_BOOLEAN_INDEX_SCALE"), (9, u "LOG2_ARRAY_BYTE_INDEX_SCALE"), (5, u "LOG2_ARRAY_CHAR_INDEX_SCALE"), (5, u "LOG2_ARRAY_SHORT_INDEX_SCALE"), (18, u "LOG2_ARRAY_FLOAT_INDEX_SCALE"), (24, u "LOG2_ARRAY_DOUBLE_INDEX_SCALE"), (89, u "T_BOOLEAN"), (2, u "T_CHAR"), (1, u "T_FLOAT"), (1, u "T_DOUBLE"), (1, u "T_BYTE"), (1, u "T_SHORT"), (1, u "T_INT"), (1, u "T_LONG"), (1, u "SOFT_MAX_ARRAY_LENGTH")] 83

def k11m0 : Method := { name := "<init>", desc := "()V", sig := { parameters := [], returnType := none }, accessFlags := 2, code := none }
/-- jdk/internal/util/ArraysSupport -/
def k11 : Class := { plain "jdk/internal/util/ArraysSupport" (some 0) with
  accessFlags := 33
  interfaces := #[]
  cf := some (fileOf pool11 21 #[] #[{ accessFlags := 2, nameIndex := 9, descriptorIndex := 19, attributes := #[] }] 33 16 #[] #[{ accessFlags := 24, nameIndex := 28, descriptorIndex := 29, attributes := #[] }, { accessFlags := 26, nameIndex := 38, descriptorIndex := 39, attributes := #[] }, { accessFlags := 25, nameIndex := 121, descriptorIndex := 25, attributes := #[] }, { accessFlags := 25, nameIndex := 131, descriptorIndex := 25, attributes := #[] }, { accessFlags := 25, nameIndex := 137, descriptorIndex := 25, attributes := #[] }, { accessFlags := 25, nameIndex := 143, descriptorIndex := 25, attributes := #[] }, { accessFlags := 25, nameIndex := 53, descriptorIndex := 25, attributes := #[] }, { accessFlags := 25, nameIndex := 24, descriptorIndex := 25, attributes := #[] }, { accessFlags := 25, nameIndex := 162, descriptorIndex := 25, attributes := #[] }, { accessFlags := 25, nameIndex := 187, descriptorIndex := 25, attributes := #[] }, { accessFlags := 26, nameIndex := 48, descriptorIndex := 25, attributes := #[] }, { accessFlags := 25, nameIndex := 277, descriptorIndex := 25, attributes := #[] }, { accessFlags := 25, nameIndex := 280, descriptorIndex := 25, attributes := #[] }, { accessFlags := 25, nameIndex := 282, descriptorIndex := 25, attributes := #[] }, { accessFlags := 25, nameIndex := 284, descriptorIndex := 25, attributes := #[] }, { accessFlags := 25, nameIndex := 286, descriptorIndex := 25, attributes := #[] }, { accessFlags := 25, nameIndex := 288, descriptorIndex := 25, attributes := #[] }, { accessFlags := 25, nameIndex := 290, descriptorIndex := 25, attributes := #[] }, { accessFlags := 25, nameIndex := 292, descriptorIndex := 25, attributes := #[] }, { accessFlags := 26, nameIndex := 108, descriptorIndex := 109, attributes := #[] }, { accessFlags := 25, nameIndex := 294, descriptorIndex := 25, attributes := #[] }])
  fields := #[{ name := "U", type := (.object "jdk/internal/misc/Unsafe"), accessFlags := 24, slot := 0, constantValue := 0 }, { name := "BIG_ENDIAN", type := .boolean, accessFlags := 26, slot := 1, constantValue := 0 }, { name := "LOG2_ARRAY_BOOLEAN_INDEX_SCALE", type := .int, accessFlags := 25, slot := 2, constantValue := 0 }, { name := "LOG2_ARRAY_BYTE_INDEX_SCALE", type := .int, accessFlags := 25, slot := 3, constantValue := 0 }, { name := "LOG2_ARRAY_CHAR_INDEX_SCALE", type := .int, accessFlags := 25, slot := 4, constantValue := 0 }, { name := "LOG2_ARRAY_SHORT_INDEX_SCALE", type := .int, accessFlags := 25, slot := 5, constantValue := 0 }, { name := "LOG2_ARRAY_INT_INDEX_SCALE", type := .int, accessFlags := 25, slot := 6, constantValue := 0 }, { name := "LOG2_ARRAY_LONG_INDEX_SCALE", type := .int, accessFlags := 25, slot := 7, constantValue := 0 }, { name := "LOG2_ARRAY_FLOAT_INDEX_SCALE", type := .int, accessFlags := 25, slot := 8, constantValue := 0 }, { name := "LOG2_ARRAY_DOUBLE_INDEX_SCALE", type := .int, accessFlags := 25, slot := 9, constantValue := 0 }, { name := "LOG2_BYTE_BIT_SIZE", type := .int, accessFlags := 26, slot := 10, constantValue := 0 }, { name := "T_BOOLEAN", type := .int, accessFlags := 25, slot := 11, constantValue := 0 }, { name := "T_CHAR", type := .int, accessFlags := 25, slot := 12, constantValue := 0 }, { name := "T_FLOAT", type := .int, accessFlags := 25, slot := 13, constantValue := 0 }, { name := "T_DOUBLE", type := .int, accessFlags := 25, slot := 14, constantValue := 0 }, { name := "T_BYTE", type := .int, accessFlags := 25, slot := 15, constantValue := 0 }, { name := "T_SHORT", type := .int, accessFlags := 25, slot := 16, constantValue := 0 }, { name := "T_INT", type := .int, accessFlags := 25, slot := 17, constantValue := 0 }, { name := "T_LONG", type := .int, accessFlags := 25, slot := 18, constantValue := 0 }, { name := "JLA", type := (.object "jdk/internal/access/JavaLangAccess"), accessFlags := 26, slot := 19, constantValue := 0 }, { name := "SOFT_MAX_ARRAY_LENGTH", type := .int, accessFlags := 25, slot := 20, constantValue := 0 }]
  methods := #[k11m0]
  instanceTypes := #[]
  staticTypes := #[(.object "jdk/internal/misc/Unsafe"), .boolean, .int, .int, .int, .int, .int, .int, .int, .int, .int, .int, .int, .int, .int, .int, .int, .int, .int, (.object "jdk/internal/access/JavaLangAccess"), .int]
  resolved := Array.replicate 378 none
  statics := none }

def pool12 : Array CpInfo := pool [(1, u "java/lang/Cloneable"), (0, .class_ 1), (0, u "java/lang/Object"), (0, .class_ 3)] 3

/-- java/lang/Cloneable -/
def k12 : Class := { plain "java/lang/Cloneable" (some 0) with
  accessFlags := 1537
  interfaces := #[]
  cf := some (fileOf pool12 2 #[] #[] 1537 4 #[] #[])
  fields := #[]
  methods := #[]
  instanceTypes := #[]
  staticTypes := #[]
  resolved := Array.replicate 8 none
  statics := none }

/-- the primitive byte -/
def k13 : Class := { plain "byte" none with kind := .primitive 'B', accessFlags := 0x411 }
/-- [B -/
def k14 : Class := { plain "[B" (some 0) with kind := .array 13 .byte, interfaces := #[12, 2], accessFlags := 1041 }

def heap : Heap := #[{ cls := 7, slots := #[.long 0, .int 1, .null, .int 0, .null, .int 0, .int 0], vm := .statics 7 },
  { cls := 10, slots := #[.null, .null, .null], vm := .statics 10 }]
def classes : Array Class := #[k0, k1, k2, k3, k4, k5, k6, k7, k8, k9, k10, k11, k12, k13, k14]
def interned : List (Array UInt16 × Addr) := []
def slotsUsed : Nat := 10
def theMethod : MethodId := ⟨1, 1⟩
def args0 : Array Value := #[.int 5, .int 7]
def aboutOver (below : List Frame) : State where
  vm := { classes := classes, interned := interned.toArray }
  heap := heap
  slotsUsed := slotsUsed
  threads := #[{ frames := .invoking theMethod args0 :: below }]
def below0 : List Frame := [.native { method := ⟨0, 0⟩, args := #[] }]
def about1 : State := aboutOver below0
def p0 : Program := .bare "" "" ""
def e0 : Env := launch0.env 0 0 0
theorem w_frames : about1.frames = Frame.invoking theMethod args0 :: below0 := rfl
set_option maxRecDepth 65536 in
theorem w_args : argsFit about1.vm theMethod args0 = true := by decide +kernel
set_option maxRecDepth 65536 in
theorem w_heap : heapFits about1 = true := by decide +kernel
set_option maxRecDepth 65536 in
theorem w_runnable : about1.curStatus? = some .runnable := by decide +kernel
set_option maxRecDepth 65536 in
theorem w_alone : about1.alone = true := by decide +kernel
set_option maxRecDepth 65536 in
theorem w_named : about1.methodNamed? x = some theMethod := by decide +kernel
set_option maxRecDepth 65536 in
theorem w_hears : about1.hears theMethod below0 = true := by decide +kernel
set_option maxRecDepth 65536 in
theorem w_ripe : about1.ripe theMethod args0 below0 = true := by decide +kernel
theorem w_running : about1.status = .running := rfl
set_option maxRecDepth 65536 in
theorem w_room : about1.hasRoom e0.platform room_1 = true :=
  launch0.hasRoom_least _ room_1 (by decide +kernel) (by decide +kernel) (by decide +kernel) (by decide +kernel) (by decide +kernel) (by decide +kernel)
theorem allAtoms_all (ts : List Jvm.Cond) (a : Array Jvm.Value) (st : Jvm.State) : (allAtoms ts).before a st = ts.all (fun c => c.before a st) := by
  induction ts with
  | nil => rfl
  | cons c t ih =>
    show (Jvm.Cond.and c (allAtoms t)).before a st = _
    rw [Jvm.Cond.before_and, ih, List.all_cons]
def words1 : List Jvm.Cond := Jvm.Cond.code x code maxLocals ret :: tables_1
/-- a 'code' word, met by the world's own term for the bytes: nothing is compared byte by byte -/
theorem code_word {y : MethodName} {bytes : ByteArray} {mx : Nat} {rt : Option FieldType} {a : Array Value} {s : State} {m : MethodId} {meth : Method} {c : Code} (h1 : s.methodNamed? y = some m) (h2 : s.vm.method? m = some meth) (h3 : meth.code = some c) (h4 : c.code = bytes)
    (h5 : (c.maxLocals == mx && c.exceptionTable.isEmpty && decide (c.maxStack ≤ mostOperands) && decide (meth.sig.returnType = rt) && !meth.locks && decide (parseMethodDescriptor y.desc = some meth.sig)) = true) : (Jvm.Cond.code y bytes mx rt).before a s = true := by
  simp only [Bool.and_eq_true, beq_iff_eq, Bool.not_eq_true', decide_eq_true_eq] at h5
  obtain ⟨⟨⟨⟨⟨g1, g2⟩, g3⟩, g4⟩, g5⟩, g6⟩ := h5
  simp [Cond.before, Cond.holds, Cond.value, h1, h2, h3, h4, g1, g2, g3, g4, g5, g6]
def isCode : Jvm.Cond → Bool
  | .code _ _ _ _ => true
  | _ => false
theorem all_split {L : List Jvm.Cond} {P : Jvm.Cond → Bool} (h1 : L.all (fun c => isCode c || P c) = true) (h2 : ∀ c ∈ L.filter isCode, P c = true) : L.all P = true := by
  refine List.all_eq_true.mpr fun c hc => ?_
  have h := List.all_eq_true.mp h1 c hc
  rcases Bool.eq_false_or_eq_true (isCode c) with hi | hi
  · exact h2 c (List.mem_filter.mpr ⟨hc, hi⟩)
  · simpa [hi] using h
set_option maxRecDepth 65536 in
theorem w_c0 : (Jvm.Cond.code x code maxLocals ret).before args0 about1 = true := code_word (m := ⟨1, 1⟩) (meth := k1m1) (c := k1c1) (by decide +kernel) rfl rfl rfl (by decide +kernel)
set_option maxRecDepth 65536 in
theorem w_c1 : (Jvm.Cond.code ({ cls := "com/example/nodewright/nodewright/reader/EncodedNames", name := "hexDigit", desc := "(C)I" } : Jvm.MethodName) prog_45_method_4_code (1 : Nat) (Option.some Jvm.ClassFile.FieldType.int)).before args0 about1 = true := code_word (m := ⟨8, 1⟩) (meth := k8m1) (c := k8c1) (by decide +kernel) rfl rfl rfl (by decide +kernel)
set_option maxRecDepth 65536 in
theorem w_c2 : (Jvm.Cond.code ({ cls := "java/lang/String", name := "charAt", desc := "(I)C" } : Jvm.MethodName) jdk_42_method_56_code (2 : Nat) (Option.some Jvm.ClassFile.FieldType.char)).before args0 about1 = true := code_word (m := ⟨7, 1⟩) (meth := k7m1) (c := k7c1) (by decide +kernel) rfl rfl rfl (by decide +kernel)
set_option maxRecDepth 65536 in
theorem w_c3 : (Jvm.Cond.code ({ cls := "java/lang/String", name := "isLatin1", desc := "()Z" } : Jvm.MethodName) jdk_42_method_154_code (1 : Nat) (Option.some Jvm.ClassFile.FieldType.boolean)).before args0 about1 = true := code_word (m := ⟨7, 2⟩) (meth := k7m2) (c := k7c2) (by decide +kernel) rfl rfl rfl (by decide +kernel)
set_option maxRecDepth 65536 in
theorem w_c4 : (Jvm.Cond.code ({ cls := "java/lang/StringLatin1", name := "charAt", desc := "([BI)C" } : Jvm.MethodName) jdk_43_method_2_code (2 : Nat) (Option.some Jvm.ClassFile.FieldType.char)).before args0 about1 = true := code_word (m := ⟨9, 1⟩) (meth := k9m1) (c := k9c1) (by decide +kernel) rfl rfl rfl (by decide +kernel)
set_option maxRecDepth 65536 in
theorem w_c5 : (Jvm.Cond.code ({ cls := "java/lang/String", name := "checkIndex", desc := "(II)V" } : Jvm.MethodName) jdk_42_method_155_code (2 : Nat) (Option.none : Option Jvm.ClassFile.FieldType)).before args0 about1 = true := code_word (m := ⟨7, 3⟩) (meth := k7m3) (c := k7c3) (by decide +kernel) rfl rfl rfl (by decide +kernel)
set_option maxRecDepth 65536 in
theorem w_c6 : (Jvm.Cond.code ({ cls := "jdk/internal/util/Preconditions", name := "checkIndex", desc := "(IILjava/util/function/BiFunction;)I" } : Jvm.MethodName) jdk_41_method_11_code (3 : Nat) (Option.some Jvm.ClassFile.FieldType.int)).before args0 about1 = true := code_word (m := ⟨10, 1⟩) (meth := k10m1) (c := k10c1) (by decide +kernel) rfl rfl rfl (by decide +kernel)
def codes1 : List Jvm.Cond := [Jvm.Cond.code x code maxLocals ret, Jvm.Cond.code ({ cls := "com/example/nodewright/nodewright/reader/EncodedNames", name := "hexDigit", desc := "(C)I" } : Jvm.MethodName) prog_45_method_4_code (1 : Nat) (Option.some Jvm.ClassFile.FieldType.int), Jvm.Cond.code ({ cls := "java/lang/String", name := "charAt", desc := "(I)C" } : Jvm.MethodName) jdk_42_method_56_code (2 : Nat) (Option.some Jvm.ClassFile.FieldType.char), Jvm.Cond.code ({ cls := "java/lang/String", name := "isLatin1", desc := "()Z" } : Jvm.MethodName) jdk_42_method_154_code (1 : Nat) (Option.some Jvm.ClassFile.FieldType.boolean), Jvm.Cond.code ({ cls := "java/lang/StringLatin1", name := "charAt", desc := "([BI)C" } : Jvm.MethodName) jdk_43_method_2_code (2 : Nat) (Option.some Jvm.ClassFile.FieldType.char), Jvm.Cond.code ({ cls := "java/lang/String", name := "checkIndex", desc := "(II)V" } : Jvm.MethodName) jdk_42_method_155_code (2 : Nat) (Option.none : Option Jvm.ClassFile.FieldType), Jvm.Cond.code ({ cls := "jdk/internal/util/Preconditions", name := "checkIndex", desc := "(IILjava/util/function/BiFunction;)I" } : Jvm.MethodName) jdk_41_method_11_code (3 : Nat) (Option.some Jvm.ClassFile.FieldType.int)]
set_option maxRecDepth 65536 in
theorem codes_eq : words1.filter isCode = codes1 := rfl
theorem w_codes : ∀ c ∈ words1.filter isCode, c.before args0 about1 = true := by
  rw [codes_eq]
  intro c hc
  simp only [codes1, List.mem_cons, List.not_mem_nil, or_false] at hc
  rcases hc with rfl | rfl | rfl | rfl | rfl | rfl | rfl
  · exact w_c0
  · exact w_c1
  · exact w_c2
  · exact w_c3
  · exact w_c4
  · exact w_c5
  · exact w_c6
set_option maxRecDepth 65536 in
theorem w_t1 : (words1.take 24).all (fun c => isCode c || c.before args0 about1) = true := by decide +kernel
set_option maxRecDepth 65536 in
theorem w_t2 : (words1.drop 24).all (fun c => isCode c || c.before args0 about1) = true := by decide +kernel
theorem w_tables : (allAtoms (Jvm.Cond.code x code maxLocals ret :: tables_1)).before args0 about1 = true := by
  rw [allAtoms_all]
  show words1.all (fun c => c.before args0 about1) = true
  refine all_split ?_ w_codes
  rw [← List.take_append_drop 24 words1, List.all_append, w_t1, w_t2]
  rfl
set_option maxRecDepth 65536 in
theorem w_rest : rest_1_c.before args0 about1 = true := by decide +kernel
set_option maxRecDepth 65536 in
theorem w_case : (Jvm.Cond.and given_1 narrow_1).before args0 about1 = true := by decide +kernel
set_option maxRecDepth 65536 in
theorem w_consts : constsHeld consts_1 about1 := Jvm.Lit.constsHeldB_iff.mp (by decide +kernel)
theorem w_applies : (headSpec (Jvm.Cond.code x code maxLocals ret :: tables_1) room_1).applies x e0.platform about1 = true :=
  (Spec.applies_iff w_frames).mpr ⟨w_running, w_runnable, w_alone, w_named, w_hears, w_ripe, w_room, w_tables⟩
theorem atStart : AtStart classFile x code maxLocals ret World_1 tables_1 room_1 Calls_1 rest_1 Pre_1 launch0 p0 e0 about1 theMethod args0 below0 :=
  ⟨lists_1, trivial, launch0.admits_env _ _ _, launch0.least_env, fairChoices_fair.cas, fairChoices_fair.clock, w_frames, w_args, w_heap, w_applies, ⟨w_consts, trivial⟩, w_rest, w_case⟩
end start1
theorem witness_1 : WitnessClaimed_1 := ⟨start1.p0, start1.e0, start1.about1, start1.theMethod, start1.args0, start1.below0, start1.atStart⟩
end Jvm.Pilot.@@N@@
