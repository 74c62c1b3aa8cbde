import JvmDerived
import JvmDerived.Pilot.@@N@@Statement
import JvmDerived.Pilot.@@N@@Code
set_option linter.unusedVariables false
set_option linter.unusedSimpArgs false
namespace Jvm.RoadKit
open Sem ClassFile Op Lib Jvm.Stand Jvm.Free Jvm.LawKit
section New
variable {p : Program} {l : Launch} {e : Env} {R : Room} {s : State} {m : MethodId} {args : Array Value} {below : List Frame} {meth : Method} {c : Code} {T : State} {locs : List Loc} {cells slots : Nat}
theorem retI (X : Stand p l e R s m args below meth c T locs cells slots) (hx : p.tables.exec = Jvm.exec) {pc : Nat} {Ls : Array Slot} {z : Int32} {rest : List Value} (hret : meth.sig.returnType = some .int) (hd : decode c.code pc = .ok (.ireturn, 1)) {fs : List Frame}
    (hl : ∀ (f : JFrame) (acts : List Action), f.method = m → f.locked = none → f.entered = [] → (doReturn e (T.setTop f) acts (some (.int z))).1 = T.setFrames fs) : Steps p.tables e below (T.setTop (mkF m pc Ls (.int z :: rest))) (T.setFrames fs) := by
  have hm' : T.vm.method? m = some meth := X.method'
  have hn : narrow .int (.int z) = .int z := rfl
  show Steps p.tables e below (T.setTop { method := m, pc := pc, locals := Ls, stack := _ :: rest, locked := none }) _
  jvm_step X.here [X.here.top, hx, hd, hm', hret, hn]
  first | (intro acts; rw [hl _ acts rfl rfl rfl]) | rw [hl _ _ rfl rfl rfl]
  exact Steps.refl _
end New
end Jvm.RoadKit
namespace Jvm.Pilot.@@N@@
open Jvm Jvm.ClassFile Sem Op Lib Jvm.Free Jvm.Stand Jvm.LawKit Jvm.RoadKit Bundle Jvm.Pilot.@@N@@.Jvm.D
theorem own_irem (x y : Int32) : x - (x / y) * y = x % y := Jvm.irem_eq_mod x y
section OwnArr
variable {p : Program} {l : Launch} {e : Env} {R : Room} {s : State} {m : MethodId} {args : Array Value} {below : List Frame} {meth : Method} {c : Code} {T : State} {locs : List Loc} {cells slots : Nat} {Z : State} {h h' : Heap} {a b : Addr} {ty : FieldType} {n : Nat} {f : Nat → Int32}
def OAf (Z : State) (h : Heap) (a : Addr) (ty : FieldType) (n : Nat) (f : Nat → Int32) : Prop := ∃ c : Cell, Arr Z h a c ty ∧ c.slots.size = n ∧ ∀ i, i < n → c.slots[i]? = some (.int (f i))
theorem OAf.lt (F : OAf Z h a ty n f) : a < h.size := by obtain ⟨c, A, -⟩ := F; exact A.lt
theorem OAf.ext (F : OAf Z h a ty n f) (E : Ext h h') : OAf Z h' a ty n f := by obtain ⟨c, A, r⟩ := F; exact ⟨c, A.ext E, r⟩
theorem OAf.other {sl : Nat} {v : Value} (F : OAf Z h b ty n f) (W : Wr h h' a sl v) (q : b ≠ a) : OAf Z h' b ty n f := by obtain ⟨c, A, r⟩ := F; exact ⟨c, A.other W q, r⟩
theorem OAf.keep {ws : List Addr} (F : OAf Z h a ty n f) (K : Keep h h' ws) (q : a ∉ ws) : OAf Z h' a ty n f := by obtain ⟨c, A, r⟩ := F; exact ⟨c, ⟨K.2.1 a c A.1 q, A.2⟩, r⟩
theorem OAf.set {j : Nat} {v : Int32} (F : OAf Z h a ty n f) (W : Wr h h' a j (.int v)) : OAf Z h' a ty n (fun i => if i = j then v else f i) := by
  obtain ⟨c, A, S, H⟩ := F
  refine ⟨_, A.same W, by simpa [Cell.setSlot] using S, fun i hi => ?_⟩
  by_cases u : i = j
  · subst u; simp [Cell.setSlot, S, hi]
  · simp only [Cell.setSlot, if_neg u]
    rw [Array.getElem?_setIfInBounds_ne (Ne.symm u)]; exact H i hi
theorem OAf.new {k : ClassId} {z : Int32} (A : Arr Z h a (newA k ty z) ty) (hd : defaultValue ty = .int 0) (hz : z.toNatClampNeg = n) : OAf Z h a ty n (fun _ => 0) :=
  ⟨_, A, (sz_new _ _ _).trans hz, fun i hi => by simp [newA, hz, hi, hd]⟩
theorem OAf.congr {g : Nat → Int32} (F : OAf Z h a ty n f) (q : ∀ i, i < n → f i = g i) : OAf Z h a ty n g := by obtain ⟨c, A, S, H⟩ := F; exact ⟨c, A, S, fun i hi => by rw [← q i hi]; exact H i hi⟩
theorem own_iaload (X : Stand p l e R s m args below meth c T locs cells slots) (hx : p.tables.exec = Jvm.exec) (hZ : Z.Warmed39 s.vm) (eT : T.heap = h) (F : OAf Z h a .int n f) {j : Int32} (h1 : ¬ j < 0) (h2 : j.toNatClampNeg < n) {g : JFrame} (hg : g.method = m) {rest : List Value} (hs : g.stack = .int j :: .ref a :: rest) (hd : decode c.code g.pc = .ok (.iaload, 1)) (target : State)
    (hr : Steps p.tables e below (T.setTop { g with pc := g.pc + 1, stack := .int (f j.toNatClampNeg) :: rest }) target) : Steps p.tables e below (T.setTop g) target := by
  obtain ⟨cl, A, S, H⟩ := F
  exact X.iaload hx (by rw [eT]; exact A.1) (State.isArrayOf_alike hZ.alike A.2.1) A.2.2 (fun q => q.elim h1 fun q => absurd h2 (Nat.not_lt.mpr (S ▸ q))) (H _ h2) hg hs hd target hr
theorem own_baload (X : Stand p l e R s m args below meth c T locs cells slots) (hx : p.tables.exec = Jvm.exec) (hZ : Z.Warmed39 s.vm) (eT : T.heap = h) (F : OAf Z h a .byte n f) {j : Int32} (h1 : ¬ j < 0) (h2 : j.toNatClampNeg < n) {g : JFrame} (hg : g.method = m) {rest : List Value} (hs : g.stack = .int j :: .ref a :: rest) (hd : decode c.code g.pc = .ok (.baload, 1)) (target : State)
    (hr : Steps p.tables e below (T.setTop { g with pc := g.pc + 1, stack := .int (f j.toNatClampNeg) :: rest }) target) : Steps p.tables e below (T.setTop g) target := by
  obtain ⟨cl, A, S, H⟩ := F
  exact X.baloadBytes hx (by rw [eT]; exact A.1) (State.isArrayOf_alike hZ.alike A.2.1) A.2.2 (fun q => q.elim h1 fun q => absurd h2 (Nat.not_lt.mpr (S ▸ q))) (H _ h2) hg hs hd target hr
theorem own_caload (X : Stand p l e R s m args below meth c T locs cells slots) (hx : p.tables.exec = Jvm.exec) (hZ : Z.Warmed39 s.vm) (eT : T.heap = h) (F : OAf Z h a .char n f) {j : Int32} (h1 : ¬ j < 0) (h2 : j.toNatClampNeg < n) {g : JFrame} (hg : g.method = m) {rest : List Value} (hs : g.stack = .int j :: .ref a :: rest) (hd : decode c.code g.pc = .ok (.caload, 1)) (target : State)
    (hr : Steps p.tables e below (T.setTop { g with pc := g.pc + 1, stack := .int (f j.toNatClampNeg) :: rest }) target) : Steps p.tables e below (T.setTop g) target := by
  obtain ⟨cl, A, S, H⟩ := F
  exact X.caload hx (by rw [eT]; exact A.1) (State.isArrayOf_alike hZ.alike A.2.1) A.2.2 (fun q => q.elim h1 fun q => absurd h2 (Nat.not_lt.mpr (S ▸ q))) (H _ h2) hg hs hd target hr
theorem own_iastore (X : Stand p l e R s m args below meth c T locs cells slots) (hx : p.tables.exec = Jvm.exec) (hZ : Z.Warmed39 s.vm) (eT : T.heap = h) (F : OAf Z h a .int n f) {j x : Int32} (h1 : ¬ j < 0) (h2 : j.toNatClampNeg < n) {g : JFrame} (hg : g.method = m) {rest : List Value} (hs : g.stack = .int x :: .int j :: .ref a :: rest) (hd : decode c.code g.pc = .ok (.iastore, 1)) :
    ∃ T' h', Stand p l e R s m args below meth c T' (locs ++ [⟨a, j.toNatClampNeg⟩]) cells slots ∧ T'.heap = h' ∧ Wr h h' a j.toNatClampNeg (.int x) ∧ OAf Z h' a .int n (fun i => if i = j.toNatClampNeg then x else f i) ∧ ∀ target, Steps p.tables e below (T'.setTop { g with pc := g.pc + 1, stack := rest }) target → Steps p.tables e below (T.setTop g) target := by
  have F' := F
  obtain ⟨cl, A, S, H⟩ := F
  obtain ⟨T', h', X', e', W, st⟩ := stI X hx hZ eT A (j := j) (x := x) (fun q => q.elim h1 fun q => absurd h2 (Nat.not_lt.mpr (S ▸ q))) hg hs hd
  exact ⟨T', h', X', e', W, OAf.set F' W, st⟩
theorem own_bastore (X : Stand p l e R s m args below meth c T locs cells slots) (hx : p.tables.exec = Jvm.exec) (hZ : Z.Warmed39 s.vm) (eT : T.heap = h) (F : OAf Z h a .byte n f) {j x : Int32} (h1 : ¬ j < 0) (h2 : j.toNatClampNeg < n) {g : JFrame} (hg : g.method = m) {rest : List Value} (hs : g.stack = .int x :: .int j :: .ref a :: rest) (hd : decode c.code g.pc = .ok (.bastore, 1)) :
    ∃ T' h', Stand p l e R s m args below meth c T' (locs ++ [⟨a, j.toNatClampNeg⟩]) cells slots ∧ T'.heap = h' ∧ Wr h h' a j.toNatClampNeg (.int (x.toInt8.toInt32)) ∧ OAf Z h' a .byte n (fun i => if i = j.toNatClampNeg then (x.toInt8.toInt32) else f i) ∧ ∀ target, Steps p.tables e below (T'.setTop { g with pc := g.pc + 1, stack := rest }) target → Steps p.tables e below (T.setTop g) target := by
  have F' := F
  obtain ⟨cl, A, S, H⟩ := F
  obtain ⟨T', h', X', e', W, st⟩ := stB X hx hZ eT A (j := j) (x := x) (fun q => q.elim h1 fun q => absurd h2 (Nat.not_lt.mpr (S ▸ q))) hg hs hd
  exact ⟨T', h', X', e', W, OAf.set F' W, st⟩
theorem own_castore (X : Stand p l e R s m args below meth c T locs cells slots) (hx : p.tables.exec = Jvm.exec) (hZ : Z.Warmed39 s.vm) (eT : T.heap = h) (F : OAf Z h a .char n f) {j x : Int32} (h1 : ¬ j < 0) (h2 : j.toNatClampNeg < n) {g : JFrame} (hg : g.method = m) {rest : List Value} (hs : g.stack = .int x :: .int j :: .ref a :: rest) (hd : decode c.code g.pc = .ok (.castore, 1)) :
    ∃ T' h', Stand p l e R s m args below meth c T' (locs ++ [⟨a, j.toNatClampNeg⟩]) cells slots ∧ T'.heap = h' ∧ Wr h h' a j.toNatClampNeg (.int (x.toUInt32.toUInt16.toUInt32.toInt32)) ∧ OAf Z h' a .char n (fun i => if i = j.toNatClampNeg then (x.toUInt32.toUInt16.toUInt32.toInt32) else f i) ∧ ∀ target, Steps p.tables e below (T'.setTop { g with pc := g.pc + 1, stack := rest }) target → Steps p.tables e below (T.setTop g) target := by
  have F' := F
  obtain ⟨cl, A, S, H⟩ := F
  obtain ⟨T', h', X', e', W, st⟩ := stC X hx hZ eT A (j := j) (x := x) (fun q => q.elim h1 fun q => absurd h2 (Nat.not_lt.mpr (S ▸ q))) hg hs hd
  exact ⟨T', h', X', e', W, OAf.set F' W, st⟩
theorem own_len (X : Stand p l e R s m args below meth c T locs cells slots) (hx : p.tables.exec = Jvm.exec) (hZ : Z.Warmed39 s.vm) (eT : T.heap = h) (F : OAf Z h a ty n f) {z : Int32} (hz : n.toInt32 = z) {g : JFrame} (hg : g.method = m) {rest : List Value} (hs : g.stack = .ref a :: rest) (hd : decode c.code g.pc = .ok (.arraylength, 1)) (target : State)
    (hr : Steps p.tables e below (T.setTop { g with pc := g.pc + 1, stack := .int z :: rest }) target) : Steps p.tables e below (T.setTop g) target := by
  obtain ⟨cl, A, S, H⟩ := F
  refine X.arraylength hx (by rw [eT]; exact A.1) (State.isArrayOf_alike hZ.alike A.2.1) hg hs hd target ?_
  rw [S, hz]; exact hr
theorem own_clone (X : Stand p l e R s m args below meth c T locs cells slots) (hx : p.tables.exec = Jvm.exec) (hZ : Z.Warmed39 s.vm) (eT : T.heap = h) {a0 : Array Value} {own ad : String} {index : Nat} (hown : s.vm.findClass own = some m.cls)
    (w1 : (Cond.methodLink own index ⟨ad, "clone", "()Ljava/lang/Object;"⟩).before a0 Z = true) (w2 : (Cond.sameMethod ad "java/lang/Object" "clone" "()Ljava/lang/Object;").before a0 Z = true) (w3 : (Cond.native ⟨"java/lang/Object", "clone", "()Ljava/lang/Object;"⟩).before a0 Z = true)
    (w4 : (Cond.instanceMethod ⟨"java/lang/Object", "clone", "()Ljava/lang/Object;"⟩).before a0 Z = true) (w5 : (Cond.selects ad ⟨ad, "clone", "()Ljava/lang/Object;"⟩ ⟨"java/lang/Object", "clone", "()Ljava/lang/Object;"⟩).before a0 Z = true) (w6 : (Cond.castable ad "java/lang/Cloneable").before a0 Z = true)
    (F : OAf Z h a ty n f) (hfit : ∀ i, i < n → fits ty (.int (f i)) = true) (E : Exa Z h a ad) {g : JFrame} (hg : g.method = m) (hsize : g.locals.size = c.maxLocals) {rest : List Value} (hs : g.stack = .ref a :: rest) (hd : decode c.code g.pc = .ok (.invokevirtual index, 3))
    (hf : 1 ≤ R.frames) {W cap : Nat} (hW : 2 * g.monitorRoom + (rest.map fun v => v.category).sum ≤ W) (hl : W + 14 ≤ R.locals) (hcap : n ≤ cap) (hc : cells + 1 ≤ R.cells) (hsl : slots + cap ≤ R.slots) :
    ∃ T' h', Stand p l e R s m args below meth c T' locs (cells + 1) (slots + cap) ∧ T'.heap = h' ∧ Ext h h' ∧ OAf Z h' h.size ty n f ∧ Exa Z h' h.size ad ∧
      ∀ target, Steps p.tables e below (T'.setTop { g with pc := g.pc + 3, stack := .ref h.size :: rest }) target → Steps p.tables e below (T.setTop g) target := by
  obtain ⟨cl, A, S, H⟩ := F
  have FC : FitC Z cl := fitC_of A fun i hi v hv => by rw [H i (S ▸ hi)] at hv; cases hv; exact hfit i (S ▸ hi)
  obtain ⟨T', h', X', e', ex, A', E', st⟩ := cloneA X hx hZ hown w1 w2 w3 w4 w5 w6 eT A E FC hg hsize hs hd hf hW hl (by rw [S]; exact hcap) hc hsl
  exact ⟨T', h', X', e', ex, ⟨cloneOf cl, A', S, H⟩, E', st⟩
end OwnArr

theorem own_b255 (b : Int32) : 0 ≤ (b &&& (255 : Int32)).toInt ∧ (b &&& (255 : Int32)).toInt ≤ 255 := c_and b (255 : Int32) (by decide)
theorem own_nc (b : Int32) : (b &&& (255 : Int32)) = nar .char (b &&& (255 : Int32)) := by
  have a := own_b255 b
  have c := c_i2c (b &&& (255 : Int32))
  exact Int32.toInt_inj.mp (by show _ = ((b &&& (255 : Int32)).toUInt32.toUInt16.toUInt32.toInt32).toInt; omega)
theorem own_nc2 (b : Int32) : (b &&& (255 : Int32)) = nar .char ((b &&& (255 : Int32)).toUInt32.toUInt16.toUInt32.toInt32) := by
  have e : ((b &&& (255 : Int32)).toUInt32.toUInt16.toUInt32.toInt32) = (b &&& (255 : Int32)) := (own_nc b).symm
  rw [e]; exact own_nc b

abbrev own_i (k : Nat) : Int32 := Int32.ofNat k
abbrev own_l (k : Nat) : Int64 := Int64.ofNat k
theorem own_i_int {k : Nat} (h : k ≤ 100) : (own_i k).toInt = (k : Int) := Int32.toInt_ofNat_small (by omega)
theorem own_l_int {k : Nat} (h : k ≤ 100) : (own_l k).toInt = (k : Int) := by
  show (Int64.ofNat k).toInt = _
  rw [Int64.toInt_ofNat_of_lt (by omega)]
theorem own_i_nat {k : Nat} (h : k ≤ 100) : (own_i k).toNatClampNeg = k := by
  have a := own_i_int h
  show (own_i k).toInt.toNat = k
  rw [a]; rfl
theorem own_i_nn {k : Nat} (h : k ≤ 100) : ¬ (own_i k < (0 : Int32)) := by
  have z : (0 : Int32).toInt = 0 := rfl
  rw [Int32.lt_iff_toInt_lt, own_i_int h]; omega
theorem own_i_lt {j k : Nat} (h1 : j ≤ 100) (h2 : k ≤ 100) : own_i j < own_i k ↔ j < k := by
  rw [Int32.lt_iff_toInt_lt, own_i_int h1, own_i_int h2]; omega
theorem own_i_succ (k : Nat) : own_i k + (1 : Int32) = own_i (k + 1) := (Int32.ofNat_add k 1).symm
theorem own_l_succ (k : Nat) : own_l k + (1 : Int64) = own_l (k + 1) := (Int64.ofNat_add k 1).symm
theorem own_i_pred {k : Nat} (h : k + 1 ≤ 100) : own_i (k + 1) - (1 : Int32) = own_i k := by
  rw [← own_i_succ]
  exact Int32.toInt_inj.mp (by
    have a := c_isub (own_i k + (1 : Int32)) (1 : Int32)
    have b := c_iadd (own_i k) (1 : Int32)
    have o : (1 : Int32).toInt = 1 := rfl
    have r := rng32 (own_i k + (1 : Int32) - (1 : Int32))
    have r2 := rng32 (own_i k + (1 : Int32))
    have r3 := rng32 (own_i k)
    have i1 := own_i_int (k := k) (by omega)
    omega)
def own_kmp (c : Nat → Int32) (n : Nat) : Nat → Nat → Nat → Nat → (Nat → Nat) → Nat × (Nat → Nat)
  | 0, _, _, q, t => (q, t)
  | f + 1, i, j, q, t => if i < n then (if c i = c j then own_kmp c n f (i + 1) (j + 1) (q + 1) (fun x => if x = i then j + 1 else t x) else if 0 < j then own_kmp c n f i (t (j - 1)) (q + 1) t else own_kmp c n f (i + 1) j (q + 1) t) else (q, t)
theorem dun_0 : decode prog_13_method_2_code 0 = .ok (.iload_n 0, 1) := by decide +kernel
theorem dun_1 : decode prog_13_method_2_code 1 = .ok (.sipush 255, 3) := by decide +kernel
theorem dun_4 : decode prog_13_method_2_code 4 = .ok (.iand, 1) := by decide +kernel
theorem dun_5 : decode prog_13_method_2_code 5 = .ok (.i2c, 1) := by decide +kernel
theorem dun_6 : decode prog_13_method_2_code 6 = .ok (.ireturn, 1) := by decide +kernel
theorem pn_un : plainName "prefixshift/Units$Bytes" = true := by first | (simp [plainName, overriddenIn]; done) | decide +kernel
theorem ef_un (m : MethodId) (x0 : Int32) : entryFrame m #[(.int x0)] 1 = mkF m 0 #[.val (.int x0)] [] := by first | (simp [entryFrame, mkF, argsToLocals, Value.category]; done) | rfl
def Q_un (Z : State) (p1 : Int32) (h0 : Heap) (n0 : Nat) (v : Option Value) (h : Heap) (L : List Loc) : Prop := v = some (.int (p1 &&& (255 : Int32))) ∧ Fr n0 L ∧ h = h0
set_option maxRecDepth 65536 in
set_option maxHeartbeats 40000000 in
theorem rm_un (l : Launch) (Z : State) (a0 : Array Value) (hw : ∀ d ∈ tables_1, d.before a0 Z = true) (ws : List Jvm.Cond) (p1 : Int32) (h0 : Heap) (n0 : Nat) (Z0 : n0 ≤ h0.size)  :
    MetFree l (⟨"prefixshift/Units$Bytes", "unit", "(B)C"⟩ : MethodName) (head1 (Jvm.Cond.code (⟨"prefixshift/Units$Bytes", "unit", "(B)C"⟩ : MethodName) prog_13_method_2_code 1 (some .char) :: ws) ({ frames := 0, cells := 0, slots := 0, locals := 0 } : Room)) (fun a U => a = #[(.int p1)] ∧ Z.Warmed39 U.vm ∧ U.heap = h0) (fun _ _ _ _ _ => True) (fun _ U o U' => ∃ v L, o = .returned v ∧ Q_un Z p1 h0 n0 v U'.heap L ∧ FrameEnd U o U' L ({ frames := 0, cells := 0, slots := 0, locals := 0 } : Room).cells ({ frames := 0, cells := 0, slots := 0, locals := 0 } : Room).slots) := by
  refine MetFree.of_bodySF (plainFor_of_name pn_un) hisR ?_
  intro p e s m args below meth c s₁ Bd hml0 hP hK
  obtain ⟨rfl, hZ, hh⟩ := hP
  have hx := Bd.exec
  have hby := Bd.bytes
  have hml : c.maxLocals = 1 := hml0
  have hown : s.vm.findClass "prefixshift/Units$Bytes" = some m.cls := findClass_of_methodNamed Bd.named
  have hnm := (name_of_methodNamed Bd.named Bd.method).1
  have X0 : Stand p l e ({ frames := 0, cells := 0, slots := 0, locals := 0 } : Room) s m #[(.int p1)] below meth c s₁ [] 0 0 := Stand.of_body Bd
  have e0 : s₁.heap = h0 := by rw [← hh, Bd.state]; rfl
  have N0 := Fr.nil n0
  have pre0 : ∀ tg_, Steps p.tables e below (s₁.setTop (mkF m 0 #[.val (.int p1)] [])) tg_ → Steps p.tables e below (s₁.setTop (entryFrame m #[(.int p1)] 1)) tg_ := fun tg_ k => castTop (ef_un m p1) k
  have p_1 : ∀ tg_, Steps p.tables e below (s₁.setTop (mkF m 6 #[.val (.int p1)] [(.int ((p1 &&& (255 : Int32)).toUInt32.toUInt16.toUInt32.toInt32))])) tg_ → Steps p.tables e below (s₁.setTop (entryFrame m #[(.int p1)] 1)) tg_ := by
    intro tg_ kk_
    refine pre0 tg_ ?_
    show Steps p.tables e below (s₁.setTop (mkF m 0 #[.val (.int p1)] [])) _
    refine XS.iloadN X0.here hx rfl (hb hby dun_0) rfl ?_
    show Steps p.tables e below (s₁.setTop (mkF m 1 #[.val (.int p1)] [(.int p1)])) _
    refine XS.sipush X0.here hx rfl (hb hby dun_1) ?_
    show Steps p.tables e below (s₁.setTop (mkF m 4 #[.val (.int p1)] [(.int (255 : Int32)), (.int p1)])) _
    refine XS.iand X0.here hx rfl (hb hby dun_4) rfl ?_
    show Steps p.tables e below (s₁.setTop (mkF m 5 #[.val (.int p1)] [(.int (p1 &&& (255 : Int32)))])) _
    refine XS.i2c X0.here hx rfl (hb hby dun_5) rfl ?_
    exact kk_
  obtain ⟨fs, hr, hrun, hended, hW, hsame⟩ := X0.leave (v := some (.int (p1 &&& (255 : Int32)))) (fun h => by rw [Bd.returns] at h; cases h)
  refine ⟨_, _, p_1 _ ?_, hrun, hended, _, _, rfl, ?_, ⟨_, rfl⟩, hW, hsame.mono (by decide) (by decide)⟩
  · show Steps p.tables e below (s₁.setTop (mkF m 6 #[.val (.int p1)] [(.int ((p1 &&& (255 : Int32)).toUInt32.toUInt16.toUInt32.toInt32))])) _
    have hval : (p1 &&& (255 : Int32)) = (nar .char ((p1 &&& (255 : Int32)).toUInt32.toUInt16.toUInt32.toInt32)) := by
      exact own_nc2 _
    rw [hval] at hr
    exact retN X0 hx (t := .char) Bd.returns (by simp) (hb hby dun_6) hr
  · show Q_un Z p1 h0 n0 _ s₁.heap _
    rw [e0]
    exact ⟨rfl, N0, rfl⟩
theorem drn_0 : decode jdk_31_method_11_code 0 = .ok (.aload_n 0, 1) := by decide +kernel
theorem drn_1 : decode jdk_31_method_11_code 1 = .ok (.ifnonnull 12, 3) := by decide +kernel
theorem drn_13 : decode jdk_31_method_11_code 13 = .ok (.aload_n 0, 1) := by decide +kernel
theorem drn_14 : decode jdk_31_method_11_code 14 = .ok (.areturn, 1) := by decide +kernel
theorem pn_rn : plainName "java/util/Objects" = true := by first | (simp [plainName, overriddenIn]; done) | decide +kernel
theorem ef_rn (m : MethodId) (x0 : Addr) (x1 : Addr) : entryFrame m #[(.ref x0), (.ref x1)] 2 = mkF m 0 #[.val (.ref x0), .val (.ref x1)] [] := by first | (simp [entryFrame, mkF, argsToLocals, Value.category]; done) | rfl
def Q_rn (Z : State) (a1 a2 : Addr) (h0 : Heap) (n0 : Nat) (v : Option Value) (h : Heap) (L : List Loc) : Prop := v = some (.ref a1) ∧ Fr n0 L ∧ h = h0
set_option maxRecDepth 65536 in
set_option maxHeartbeats 40000000 in
theorem rm_rn (l : Launch) (Z : State) (a0 : Array Value) (hw : ∀ d ∈ tables_1, d.before a0 Z = true) (ws : List Jvm.Cond) (a1 a2 : Addr) (h0 : Heap) (n0 : Nat) (Z0 : n0 ≤ h0.size)  :
    MetFree l (⟨"java/util/Objects", "requireNonNull", "(Ljava/lang/Object;Ljava/lang/String;)Ljava/lang/Object;"⟩ : MethodName) (head1 (Jvm.Cond.code (⟨"java/util/Objects", "requireNonNull", "(Ljava/lang/Object;Ljava/lang/String;)Ljava/lang/Object;"⟩ : MethodName) jdk_31_method_11_code 2 (some (.object "java/lang/Object")) :: ws) ({ frames := 0, cells := 0, slots := 0, locals := 0 } : Room)) (fun a U => a = #[(.ref a1), (.ref a2)] ∧ Z.Warmed39 U.vm ∧ U.heap = h0) (fun _ _ _ _ _ => True) (fun _ U o U' => ∃ v L, o = .returned v ∧ Q_rn Z a1 a2 h0 n0 v U'.heap L ∧ FrameEnd U o U' L ({ frames := 0, cells := 0, slots := 0, locals := 0 } : Room).cells ({ frames := 0, cells := 0, slots := 0, locals := 0 } : Room).slots) := by
  refine MetFree.of_bodySF (plainFor_of_name pn_rn) hisR ?_
  intro p e s m args below meth c s₁ Bd hml0 hP hK
  obtain ⟨rfl, hZ, hh⟩ := hP
  have hx := Bd.exec
  have hby := Bd.bytes
  have hml : c.maxLocals = 2 := hml0
  have hown : s.vm.findClass "java/util/Objects" = some m.cls := findClass_of_methodNamed Bd.named
  have hnm := (name_of_methodNamed Bd.named Bd.method).1
  have X0 : Stand p l e ({ frames := 0, cells := 0, slots := 0, locals := 0 } : Room) s m #[(.ref a1), (.ref a2)] below meth c s₁ [] 0 0 := Stand.of_body Bd
  have e0 : s₁.heap = h0 := by rw [← hh, Bd.state]; rfl
  have N0 := Fr.nil n0
  have pre0 : ∀ tg_, Steps p.tables e below (s₁.setTop (mkF m 0 #[.val (.ref a1), .val (.ref a2)] [])) tg_ → Steps p.tables e below (s₁.setTop (entryFrame m #[(.ref a1), (.ref a2)] 2)) tg_ := fun tg_ k => castTop (ef_rn m a1 a2) k
  have p_1 : ∀ tg_, Steps p.tables e below (s₁.setTop (mkF m 14 #[.val (.ref a1), .val (.ref a2)] [(.ref a1)])) tg_ → Steps p.tables e below (s₁.setTop (entryFrame m #[(.ref a1), (.ref a2)] 2)) tg_ := by
    intro tg_ kk_
    refine pre0 tg_ ?_
    show Steps p.tables e below (s₁.setTop (mkF m 0 #[.val (.ref a1), .val (.ref a2)] [])) _
    refine XS.aloadN X0.here hx rfl (hb hby drn_0) rfl rfl ?_
    show Steps p.tables e below (s₁.setTop (mkF m 1 #[.val (.ref a1), .val (.ref a2)] [(.ref a1)])) _
    refine XS.ifnonnullYes X0.here hx rfl (pc0 := 1) (pc' := 13) rfl (hb hby drn_1) rfl (by decide) (by decide) ?_
    show Steps p.tables e below (s₁.setTop (mkF m 13 #[.val (.ref a1), .val (.ref a2)] [])) _
    refine XS.aloadN X0.here hx rfl (hb hby drn_13) rfl rfl ?_
    exact kk_
  obtain ⟨fs, hr, hrun, hended, hW, hsame⟩ := X0.leave (v := some (.ref a1)) (fun h => by rw [Bd.returns] at h; cases h)
  refine ⟨_, _, p_1 _ ?_, hrun, hended, _, _, rfl, ?_, ⟨_, rfl⟩, hW, hsame.mono (by decide) (by decide)⟩
  · show Steps p.tables e below (s₁.setTop (mkF m 14 #[.val (.ref a1), .val (.ref a2)] [(.ref a1)])) _
    jvm_step X0.here [X0.here.top, hx, (hb hby drn_14), X0.method', Bd.returns, Value.isRef, FieldType.isReference]
    first | (intro acts; rw [hr _ acts rfl rfl rfl]) | rw [hr _ _ rfl rfl rfl]
    exact Steps.refl _
  · show Q_rn Z a1 a2 h0 n0 _ s₁.heap _
    rw [e0]
    exact ⟨rfl, N0, rfl⟩
theorem dbt_8 : decode prog_9_method_19_code 8 = .ok (.iload 4, 2) := by decide +kernel
theorem dbt_10 : decode prog_9_method_19_code 10 = .ok (.aload_n 0, 1) := by decide +kernel
theorem dbt_11 : decode prog_9_method_19_code 11 = .ok (.arraylength, 1) := by decide +kernel
theorem dbt_12 : decode prog_9_method_19_code 12 = .ok (.if_icmp .ge 55, 3) := by decide +kernel
theorem dbt_15 : decode prog_9_method_19_code 15 = .ok (.lload_n 2, 1) := by decide +kernel
theorem dbt_16 : decode prog_9_method_19_code 16 = .ok (.lconst 1, 1) := by decide +kernel
theorem dbt_17 : decode prog_9_method_19_code 17 = .ok (.ladd, 1) := by decide +kernel
theorem dbt_18 : decode prog_9_method_19_code 18 = .ok (.lstore_n 2, 1) := by decide +kernel
theorem dbt_19 : decode prog_9_method_19_code 19 = .ok (.aload_n 0, 1) := by decide +kernel
theorem dbt_20 : decode prog_9_method_19_code 20 = .ok (.iload 4, 2) := by decide +kernel
theorem dbt_22 : decode prog_9_method_19_code 22 = .ok (.caload, 1) := by decide +kernel
theorem dbt_23 : decode prog_9_method_19_code 23 = .ok (.aload_n 0, 1) := by decide +kernel
theorem dbt_24 : decode prog_9_method_19_code 24 = .ok (.iload 5, 2) := by decide +kernel
theorem dbt_26 : decode prog_9_method_19_code 26 = .ok (.caload, 1) := by decide +kernel
theorem dbt_27 : decode prog_9_method_19_code 27 = .ok (.if_icmp .ne 18, 3) := by decide +kernel
theorem dbt_30 : decode prog_9_method_19_code 30 = .ok (.iinc 5 1, 3) := by decide +kernel
theorem dbt_33 : decode prog_9_method_19_code 33 = .ok (.aload_n 1, 1) := by decide +kernel
theorem dbt_34 : decode prog_9_method_19_code 34 = .ok (.iload 4, 2) := by decide +kernel
theorem dbt_36 : decode prog_9_method_19_code 36 = .ok (.iload 5, 2) := by decide +kernel
theorem dbt_38 : decode prog_9_method_19_code 38 = .ok (.iastore, 1) := by decide +kernel
theorem dbt_39 : decode prog_9_method_19_code 39 = .ok (.iinc 4 1, 3) := by decide +kernel
theorem dbt_42 : decode prog_9_method_19_code 42 = .ok (.goto (-34), 3) := by decide +kernel
theorem dbt_45 : decode prog_9_method_19_code 45 = .ok (.iload 5, 2) := by decide +kernel
theorem dbt_47 : decode prog_9_method_19_code 47 = .ok (.ifCond .le 14, 3) := by decide +kernel
theorem dbt_50 : decode prog_9_method_19_code 50 = .ok (.aload_n 1, 1) := by decide +kernel
theorem dbt_51 : decode prog_9_method_19_code 51 = .ok (.iload 5, 2) := by decide +kernel
theorem dbt_53 : decode prog_9_method_19_code 53 = .ok (.iconst 1, 1) := by decide +kernel
theorem dbt_54 : decode prog_9_method_19_code 54 = .ok (.isub, 1) := by decide +kernel
theorem dbt_55 : decode prog_9_method_19_code 55 = .ok (.iaload, 1) := by decide +kernel
theorem dbt_56 : decode prog_9_method_19_code 56 = .ok (.istore 5, 2) := by decide +kernel
theorem dbt_58 : decode prog_9_method_19_code 58 = .ok (.goto (-50), 3) := by decide +kernel
theorem dbt_61 : decode prog_9_method_19_code 61 = .ok (.iinc 4 1, 3) := by decide +kernel
theorem dbt_64 : decode prog_9_method_19_code 64 = .ok (.goto (-56), 3) := by decide +kernel
theorem dbt_67 : decode prog_9_method_19_code 67 = .ok (.lload_n 2, 1) := by decide +kernel
set_option maxRecDepth 65536 in
set_option maxHeartbeats 40000000 in
theorem bt_lv {p : Program} {l : Launch} {e : Env} {R : Room} {s : State} {m : MethodId} {args : Array Value} {below : List Frame} {meth : Method} {c : Code} {cells slots : Nat} {Z : State} {a0 : Array Value} (hx : p.tables.exec = Jvm.exec) (hZ : Z.Warmed39 s.vm) (hw : ∀ d ∈ tables_1, d.before a0 Z = true) (hby : c.code = prog_9_method_19_code) (hml : c.maxLocals = 6) (hown : s.vm.findClass "prefixshift/Pattern" = some m.cls) {a1 a2 : Addr} {n : Nat} {c' t : Nat → Int32} {q : Int64} {i j : Int32} {T0 : State} {locs : List Loc} {h0 : Heap} (X0 : Stand p l e R s m args below meth c T0 locs cells slots) (e0 : T0.heap = h0) (FC : OAf Z h0 a1 .char n c') (FT : OAf Z h0 a2 .int n t) (hge : ¬ (i < n.toInt32)) :
    ∀ u, Steps p.tables e below (T0.setTop (mkF m 68 #[.val (.ref a1), .val (.ref a2), .val (.long q), .second, .val (.int i), .val (.int j)] [(.long q)])) u → Steps p.tables e below (T0.setTop (mkF m 8 #[.val (.ref a1), .val (.ref a2), .val (.long q), .second, .val (.int i), .val (.int j)] [])) u := by
  have pre0 : ∀ tg_, Steps p.tables e below (T0.setTop (mkF m 8 #[.val (.ref a1), .val (.ref a2), .val (.long q), .second, .val (.int i), .val (.int j)] [])) tg_ → Steps p.tables e below (T0.setTop (mkF m 8 #[.val (.ref a1), .val (.ref a2), .val (.long q), .second, .val (.int i), .val (.int j)] [])) tg_ := fun _ kk_ => kk_
  have p_1 : ∀ tg_, Steps p.tables e below (T0.setTop (mkF m 68 #[.val (.ref a1), .val (.ref a2), .val (.long q), .second, .val (.int i), .val (.int j)] [(.long q)])) tg_ → Steps p.tables e below (T0.setTop (mkF m 8 #[.val (.ref a1), .val (.ref a2), .val (.long q), .second, .val (.int i), .val (.int j)] [])) tg_ := by
    intro tg_ kk_
    refine pre0 tg_ ?_
    show Steps p.tables e below (T0.setTop (mkF m 8 #[.val (.ref a1), .val (.ref a2), .val (.long q), .second, .val (.int i), .val (.int j)] [])) _
    refine XS.iload X0.here hx rfl (hb hby dbt_8) rfl ?_
    show Steps p.tables e below (T0.setTop (mkF m 10 #[.val (.ref a1), .val (.ref a2), .val (.long q), .second, .val (.int i), .val (.int j)] [(.int i)])) _
    refine XS.aloadN X0.here hx rfl (hb hby dbt_10) rfl rfl ?_
    show Steps p.tables e below (T0.setTop (mkF m 11 #[.val (.ref a1), .val (.ref a2), .val (.long q), .second, .val (.int i), .val (.int j)] [(.ref a1), (.int i)])) _
    refine own_len X0 hx hZ e0 FC (z := n.toInt32) rfl (g := (mkF m 11 #[.val (.ref a1), .val (.ref a2), .val (.long q), .second, .val (.int i), .val (.int j)] [(.ref a1), (.int i)])) rfl rfl (hb hby dbt_11) _ ?_
    show Steps p.tables e below (T0.setTop (mkF m 12 #[.val (.ref a1), .val (.ref a2), .val (.long q), .second, .val (.int i), .val (.int j)] [(.int n.toInt32), (.int i)])) _
    refine XS.icmpYes X0.here hx rfl (pc0 := 12) (pc' := 67) rfl (hb hby dbt_12) rfl (flt (show ¬ (i < n.toInt32) from hge)).2.1 (by decide) (by decide) ?_
    show Steps p.tables e below (T0.setTop (mkF m 67 #[.val (.ref a1), .val (.ref a2), .val (.long q), .second, .val (.int i), .val (.int j)] [])) _
    refine XS.lloadN X0.here hx rfl (hb hby dbt_67) rfl ?_
    exact kk_
  exact p_1
set_option maxRecDepth 65536 in
set_option maxHeartbeats 40000000 in
theorem bt_n0 {p : Program} {l : Launch} {e : Env} {R : Room} {s : State} {m : MethodId} {args : Array Value} {below : List Frame} {meth : Method} {c : Code} {cells slots : Nat} {Z : State} {a0 : Array Value} (hx : p.tables.exec = Jvm.exec) (hZ : Z.Warmed39 s.vm) (hw : ∀ d ∈ tables_1, d.before a0 Z = true) (hby : c.code = prog_9_method_19_code) (hml : c.maxLocals = 6) (hown : s.vm.findClass "prefixshift/Pattern" = some m.cls) {a1 a2 : Addr} {n : Nat} {c' t : Nat → Int32} {q : Int64} {i j : Int32} {T0 : State} {locs : List Loc} {h0 : Heap} (X0 : Stand p l e R s m args below meth c T0 locs cells slots) (e0 : T0.heap = h0) (FC : OAf Z h0 a1 .char n c') (FT : OAf Z h0 a2 .int n t) (hi0 : ¬ (i < (0 : Int32))) (hi1 : i.toNatClampNeg < n) (hlt : i < n.toInt32) (hj0 : ¬ (j < (0 : Int32))) (hj1 : j.toNatClampNeg < n) (hne : ¬ (c' i.toNatClampNeg = c' j.toNatClampNeg)) (hjn : ¬ ((0 : Int32) < j)) :
    ∀ u, Steps p.tables e below (T0.setTop (mkF m 8 #[.val (.ref a1), .val (.ref a2), .val (.long (q + (1 : Int64))), .second, .val (.int (i + (1 : Int32))), .val (.int j)] [])) u → Steps p.tables e below (T0.setTop (mkF m 8 #[.val (.ref a1), .val (.ref a2), .val (.long q), .second, .val (.int i), .val (.int j)] [])) u := by
  have pre0 : ∀ tg_, Steps p.tables e below (T0.setTop (mkF m 8 #[.val (.ref a1), .val (.ref a2), .val (.long q), .second, .val (.int i), .val (.int j)] [])) tg_ → Steps p.tables e below (T0.setTop (mkF m 8 #[.val (.ref a1), .val (.ref a2), .val (.long q), .second, .val (.int i), .val (.int j)] [])) tg_ := fun _ kk_ => kk_
  have p_2 : ∀ tg_, Steps p.tables e below (T0.setTop (mkF m 8 #[.val (.ref a1), .val (.ref a2), .val (.long (q + (1 : Int64))), .second, .val (.int (i + (1 : Int32))), .val (.int j)] [])) tg_ → Steps p.tables e below (T0.setTop (mkF m 8 #[.val (.ref a1), .val (.ref a2), .val (.long q), .second, .val (.int i), .val (.int j)] [])) tg_ := by
    intro tg_ kk_
    refine pre0 tg_ ?_
    show Steps p.tables e below (T0.setTop (mkF m 8 #[.val (.ref a1), .val (.ref a2), .val (.long q), .second, .val (.int i), .val (.int j)] [])) _
    refine XS.iload X0.here hx rfl (hb hby dbt_8) rfl ?_
    show Steps p.tables e below (T0.setTop (mkF m 10 #[.val (.ref a1), .val (.ref a2), .val (.long q), .second, .val (.int i), .val (.int j)] [(.int i)])) _
    refine XS.aloadN X0.here hx rfl (hb hby dbt_10) rfl rfl ?_
    show Steps p.tables e below (T0.setTop (mkF m 11 #[.val (.ref a1), .val (.ref a2), .val (.long q), .second, .val (.int i), .val (.int j)] [(.ref a1), (.int i)])) _
    refine own_len X0 hx hZ e0 FC (z := n.toInt32) rfl (g := (mkF m 11 #[.val (.ref a1), .val (.ref a2), .val (.long q), .second, .val (.int i), .val (.int j)] [(.ref a1), (.int i)])) rfl rfl (hb hby dbt_11) _ ?_
    show Steps p.tables e below (T0.setTop (mkF m 12 #[.val (.ref a1), .val (.ref a2), .val (.long q), .second, .val (.int i), .val (.int j)] [(.int n.toInt32), (.int i)])) _
    refine XS.icmpNo X0.here hx rfl (hb hby dbt_12) rfl (tlt (show i < n.toInt32 from hlt)).2.1 ?_
    show Steps p.tables e below (T0.setTop (mkF m 15 #[.val (.ref a1), .val (.ref a2), .val (.long q), .second, .val (.int i), .val (.int j)] [])) _
    refine XS.lloadN X0.here hx rfl (hb hby dbt_15) rfl ?_
    show Steps p.tables e below (T0.setTop (mkF m 16 #[.val (.ref a1), .val (.ref a2), .val (.long q), .second, .val (.int i), .val (.int j)] [(.long q)])) _
    refine XS.lconst X0.here hx rfl (hb hby dbt_16) ?_
    show Steps p.tables e below (T0.setTop (mkF m 17 #[.val (.ref a1), .val (.ref a2), .val (.long q), .second, .val (.int i), .val (.int j)] [(.long (1 : Int64)), (.long q)])) _
    refine XS.ladd X0.here hx rfl (hb hby dbt_17) rfl ?_
    show Steps p.tables e below (T0.setTop (mkF m 18 #[.val (.ref a1), .val (.ref a2), .val (.long q), .second, .val (.int i), .val (.int j)] [(.long (q + (1 : Int64)))])) _
    refine XS.lstoreN X0.here hx rfl (hb hby dbt_18) rfl (l' := #[.val (.ref a1), .val (.ref a2), .val (.long (q + (1 : Int64))), .second, .val (.int i), .val (.int j)]) rfl ?_
    show Steps p.tables e below (T0.setTop (mkF m 19 #[.val (.ref a1), .val (.ref a2), .val (.long (q + (1 : Int64))), .second, .val (.int i), .val (.int j)] [])) _
    refine XS.aloadN X0.here hx rfl (hb hby dbt_19) rfl rfl ?_
    show Steps p.tables e below (T0.setTop (mkF m 20 #[.val (.ref a1), .val (.ref a2), .val (.long (q + (1 : Int64))), .second, .val (.int i), .val (.int j)] [(.ref a1)])) _
    refine XS.iload X0.here hx rfl (hb hby dbt_20) rfl ?_
    show Steps p.tables e below (T0.setTop (mkF m 22 #[.val (.ref a1), .val (.ref a2), .val (.long (q + (1 : Int64))), .second, .val (.int i), .val (.int j)] [(.int i), (.ref a1)])) _
    refine own_caload X0 hx hZ e0 FC (j := i) hi0 hi1 (g := (mkF m 22 #[.val (.ref a1), .val (.ref a2), .val (.long (q + (1 : Int64))), .second, .val (.int i), .val (.int j)] [(.int i), (.ref a1)])) rfl rfl (hb hby dbt_22) _ ?_
    show Steps p.tables e below (T0.setTop (mkF m 23 #[.val (.ref a1), .val (.ref a2), .val (.long (q + (1 : Int64))), .second, .val (.int i), .val (.int j)] [(.int (c' i.toNatClampNeg))])) _
    refine XS.aloadN X0.here hx rfl (hb hby dbt_23) rfl rfl ?_
    show Steps p.tables e below (T0.setTop (mkF m 24 #[.val (.ref a1), .val (.ref a2), .val (.long (q + (1 : Int64))), .second, .val (.int i), .val (.int j)] [(.ref a1), (.int (c' i.toNatClampNeg))])) _
    refine XS.iload X0.here hx rfl (hb hby dbt_24) rfl ?_
    show Steps p.tables e below (T0.setTop (mkF m 26 #[.val (.ref a1), .val (.ref a2), .val (.long (q + (1 : Int64))), .second, .val (.int i), .val (.int j)] [(.int j), (.ref a1), (.int (c' i.toNatClampNeg))])) _
    refine own_caload X0 hx hZ e0 FC (j := j) hj0 hj1 (g := (mkF m 26 #[.val (.ref a1), .val (.ref a2), .val (.long (q + (1 : Int64))), .second, .val (.int i), .val (.int j)] [(.int j), (.ref a1), (.int (c' i.toNatClampNeg))])) rfl rfl (hb hby dbt_26) _ ?_
    show Steps p.tables e below (T0.setTop (mkF m 27 #[.val (.ref a1), .val (.ref a2), .val (.long (q + (1 : Int64))), .second, .val (.int i), .val (.int j)] [(.int (c' j.toNatClampNeg)), (.int (c' i.toNatClampNeg))])) _
    refine XS.icmpYes X0.here hx rfl (pc0 := 27) (pc' := 45) rfl (hb hby dbt_27) rfl (feq (show ¬ ((c' i.toNatClampNeg) = (c' j.toNatClampNeg)) from hne)).2 (by decide) (by decide) ?_
    show Steps p.tables e below (T0.setTop (mkF m 45 #[.val (.ref a1), .val (.ref a2), .val (.long (q + (1 : Int64))), .second, .val (.int i), .val (.int j)] [])) _
    refine XS.iload X0.here hx rfl (hb hby dbt_45) rfl ?_
    show Steps p.tables e below (T0.setTop (mkF m 47 #[.val (.ref a1), .val (.ref a2), .val (.long (q + (1 : Int64))), .second, .val (.int i), .val (.int j)] [(.int j)])) _
    refine XS.ifYes X0.here hx rfl (pc0 := 47) (pc' := 61) rfl (hb hby dbt_47) rfl ((if0 _ _).trans (flt (show ¬ ((0 : Int32) < j) from hjn)).2.2.2) (by decide) (by decide) ?_
    show Steps p.tables e below (T0.setTop (mkF m 61 #[.val (.ref a1), .val (.ref a2), .val (.long (q + (1 : Int64))), .second, .val (.int i), .val (.int j)] [])) _
    refine XS.iinc X0.here hx rfl (hb hby dbt_61) rfl (l' := #[.val (.ref a1), .val (.ref a2), .val (.long (q + (1 : Int64))), .second, .val (.int (i + (1 : Int32))), .val (.int j)]) rfl ?_
    show Steps p.tables e below (T0.setTop (mkF m 64 #[.val (.ref a1), .val (.ref a2), .val (.long (q + (1 : Int64))), .second, .val (.int (i + (1 : Int32))), .val (.int j)] [])) _
    refine XS.goto X0.here hx rfl (pc0 := 64) (pc' := 8) rfl (hb hby dbt_64) (by decide) (by decide) ?_
    exact kk_
  exact p_2
set_option maxRecDepth 65536 in
set_option maxHeartbeats 40000000 in
theorem bt_n1 {p : Program} {l : Launch} {e : Env} {R : Room} {s : State} {m : MethodId} {args : Array Value} {below : List Frame} {meth : Method} {c : Code} {cells slots : Nat} {Z : State} {a0 : Array Value} (hx : p.tables.exec = Jvm.exec) (hZ : Z.Warmed39 s.vm) (hw : ∀ d ∈ tables_1, d.before a0 Z = true) (hby : c.code = prog_9_method_19_code) (hml : c.maxLocals = 6) (hown : s.vm.findClass "prefixshift/Pattern" = some m.cls) {a1 a2 : Addr} {n : Nat} {c' t : Nat → Int32} {q : Int64} {i j : Int32} {T0 : State} {locs : List Loc} {h0 : Heap} (X0 : Stand p l e R s m args below meth c T0 locs cells slots) (e0 : T0.heap = h0) (FC : OAf Z h0 a1 .char n c') (FT : OAf Z h0 a2 .int n t) (hi0 : ¬ (i < (0 : Int32))) (hi1 : i.toNatClampNeg < n) (hlt : i < n.toInt32) (hj0 : ¬ (j < (0 : Int32))) (hj1 : j.toNatClampNeg < n) (hne : ¬ (c' i.toNatClampNeg = c' j.toNatClampNeg)) (hjp : (0 : Int32) < j) (hk0 : ¬ ((j - (1 : Int32)) < (0 : Int32))) (hk1 : (j - (1 : Int32)).toNatClampNeg < n) :
    ∀ u, Steps p.tables e below (T0.setTop (mkF m 8 #[.val (.ref a1), .val (.ref a2), .val (.long (q + (1 : Int64))), .second, .val (.int i), .val (.int (t (j - (1 : Int32)).toNatClampNeg))] [])) u → Steps p.tables e below (T0.setTop (mkF m 8 #[.val (.ref a1), .val (.ref a2), .val (.long q), .second, .val (.int i), .val (.int j)] [])) u := by
  have pre0 : ∀ tg_, Steps p.tables e below (T0.setTop (mkF m 8 #[.val (.ref a1), .val (.ref a2), .val (.long q), .second, .val (.int i), .val (.int j)] [])) tg_ → Steps p.tables e below (T0.setTop (mkF m 8 #[.val (.ref a1), .val (.ref a2), .val (.long q), .second, .val (.int i), .val (.int j)] [])) tg_ := fun _ kk_ => kk_
  have p_3 : ∀ tg_, Steps p.tables e below (T0.setTop (mkF m 8 #[.val (.ref a1), .val (.ref a2), .val (.long (q + (1 : Int64))), .second, .val (.int i), .val (.int (t (j - (1 : Int32)).toNatClampNeg))] [])) tg_ → Steps p.tables e below (T0.setTop (mkF m 8 #[.val (.ref a1), .val (.ref a2), .val (.long q), .second, .val (.int i), .val (.int j)] [])) tg_ := by
    intro tg_ kk_
    refine pre0 tg_ ?_
    show Steps p.tables e below (T0.setTop (mkF m 8 #[.val (.ref a1), .val (.ref a2), .val (.long q), .second, .val (.int i), .val (.int j)] [])) _
    refine XS.iload X0.here hx rfl (hb hby dbt_8) rfl ?_
    show Steps p.tables e below (T0.setTop (mkF m 10 #[.val (.ref a1), .val (.ref a2), .val (.long q), .second, .val (.int i), .val (.int j)] [(.int i)])) _
    refine XS.aloadN X0.here hx rfl (hb hby dbt_10) rfl rfl ?_
    show Steps p.tables e below (T0.setTop (mkF m 11 #[.val (.ref a1), .val (.ref a2), .val (.long q), .second, .val (.int i), .val (.int j)] [(.ref a1), (.int i)])) _
    refine own_len X0 hx hZ e0 FC (z := n.toInt32) rfl (g := (mkF m 11 #[.val (.ref a1), .val (.ref a2), .val (.long q), .second, .val (.int i), .val (.int j)] [(.ref a1), (.int i)])) rfl rfl (hb hby dbt_11) _ ?_
    show Steps p.tables e below (T0.setTop (mkF m 12 #[.val (.ref a1), .val (.ref a2), .val (.long q), .second, .val (.int i), .val (.int j)] [(.int n.toInt32), (.int i)])) _
    refine XS.icmpNo X0.here hx rfl (hb hby dbt_12) rfl (tlt (show i < n.toInt32 from hlt)).2.1 ?_
    show Steps p.tables e below (T0.setTop (mkF m 15 #[.val (.ref a1), .val (.ref a2), .val (.long q), .second, .val (.int i), .val (.int j)] [])) _
    refine XS.lloadN X0.here hx rfl (hb hby dbt_15) rfl ?_
    show Steps p.tables e below (T0.setTop (mkF m 16 #[.val (.ref a1), .val (.ref a2), .val (.long q), .second, .val (.int i), .val (.int j)] [(.long q)])) _
    refine XS.lconst X0.here hx rfl (hb hby dbt_16) ?_
    show Steps p.tables e below (T0.setTop (mkF m 17 #[.val (.ref a1), .val (.ref a2), .val (.long q), .second, .val (.int i), .val (.int j)] [(.long (1 : Int64)), (.long q)])) _
    refine XS.ladd X0.here hx rfl (hb hby dbt_17) rfl ?_
    show Steps p.tables e below (T0.setTop (mkF m 18 #[.val (.ref a1), .val (.ref a2), .val (.long q), .second, .val (.int i), .val (.int j)] [(.long (q + (1 : Int64)))])) _
    refine XS.lstoreN X0.here hx rfl (hb hby dbt_18) rfl (l' := #[.val (.ref a1), .val (.ref a2), .val (.long (q + (1 : Int64))), .second, .val (.int i), .val (.int j)]) rfl ?_
    show Steps p.tables e below (T0.setTop (mkF m 19 #[.val (.ref a1), .val (.ref a2), .val (.long (q + (1 : Int64))), .second, .val (.int i), .val (.int j)] [])) _
    refine XS.aloadN X0.here hx rfl (hb hby dbt_19) rfl rfl ?_
    show Steps p.tables e below (T0.setTop (mkF m 20 #[.val (.ref a1), .val (.ref a2), .val (.long (q + (1 : Int64))), .second, .val (.int i), .val (.int j)] [(.ref a1)])) _
    refine XS.iload X0.here hx rfl (hb hby dbt_20) rfl ?_
    show Steps p.tables e below (T0.setTop (mkF m 22 #[.val (.ref a1), .val (.ref a2), .val (.long (q + (1 : Int64))), .second, .val (.int i), .val (.int j)] [(.int i), (.ref a1)])) _
    refine own_caload X0 hx hZ e0 FC (j := i) hi0 hi1 (g := (mkF m 22 #[.val (.ref a1), .val (.ref a2), .val (.long (q + (1 : Int64))), .second, .val (.int i), .val (.int j)] [(.int i), (.ref a1)])) rfl rfl (hb hby dbt_22) _ ?_
    show Steps p.tables e below (T0.setTop (mkF m 23 #[.val (.ref a1), .val (.ref a2), .val (.long (q + (1 : Int64))), .second, .val (.int i), .val (.int j)] [(.int (c' i.toNatClampNeg))])) _
    refine XS.aloadN X0.here hx rfl (hb hby dbt_23) rfl rfl ?_
    show Steps p.tables e below (T0.setTop (mkF m 24 #[.val (.ref a1), .val (.ref a2), .val (.long (q + (1 : Int64))), .second, .val (.int i), .val (.int j)] [(.ref a1), (.int (c' i.toNatClampNeg))])) _
    refine XS.iload X0.here hx rfl (hb hby dbt_24) rfl ?_
    show Steps p.tables e below (T0.setTop (mkF m 26 #[.val (.ref a1), .val (.ref a2), .val (.long (q + (1 : Int64))), .second, .val (.int i), .val (.int j)] [(.int j), (.ref a1), (.int (c' i.toNatClampNeg))])) _
    refine own_caload X0 hx hZ e0 FC (j := j) hj0 hj1 (g := (mkF m 26 #[.val (.ref a1), .val (.ref a2), .val (.long (q + (1 : Int64))), .second, .val (.int i), .val (.int j)] [(.int j), (.ref a1), (.int (c' i.toNatClampNeg))])) rfl rfl (hb hby dbt_26) _ ?_
    show Steps p.tables e below (T0.setTop (mkF m 27 #[.val (.ref a1), .val (.ref a2), .val (.long (q + (1 : Int64))), .second, .val (.int i), .val (.int j)] [(.int (c' j.toNatClampNeg)), (.int (c' i.toNatClampNeg))])) _
    refine XS.icmpYes X0.here hx rfl (pc0 := 27) (pc' := 45) rfl (hb hby dbt_27) rfl (feq (show ¬ ((c' i.toNatClampNeg) = (c' j.toNatClampNeg)) from hne)).2 (by decide) (by decide) ?_
    show Steps p.tables e below (T0.setTop (mkF m 45 #[.val (.ref a1), .val (.ref a2), .val (.long (q + (1 : Int64))), .second, .val (.int i), .val (.int j)] [])) _
    refine XS.iload X0.here hx rfl (hb hby dbt_45) rfl ?_
    show Steps p.tables e below (T0.setTop (mkF m 47 #[.val (.ref a1), .val (.ref a2), .val (.long (q + (1 : Int64))), .second, .val (.int i), .val (.int j)] [(.int j)])) _
    refine XS.ifNo X0.here hx rfl (hb hby dbt_47) rfl ((if0 _ _).trans (tlt (show (0 : Int32) < j from hjp)).2.2.2) ?_
    show Steps p.tables e below (T0.setTop (mkF m 50 #[.val (.ref a1), .val (.ref a2), .val (.long (q + (1 : Int64))), .second, .val (.int i), .val (.int j)] [])) _
    refine XS.aloadN X0.here hx rfl (hb hby dbt_50) rfl rfl ?_
    show Steps p.tables e below (T0.setTop (mkF m 51 #[.val (.ref a1), .val (.ref a2), .val (.long (q + (1 : Int64))), .second, .val (.int i), .val (.int j)] [(.ref a2)])) _
    refine XS.iload X0.here hx rfl (hb hby dbt_51) rfl ?_
    show Steps p.tables e below (T0.setTop (mkF m 53 #[.val (.ref a1), .val (.ref a2), .val (.long (q + (1 : Int64))), .second, .val (.int i), .val (.int j)] [(.int j), (.ref a2)])) _
    refine XS.iconst X0.here hx rfl (hb hby dbt_53) ?_
    show Steps p.tables e below (T0.setTop (mkF m 54 #[.val (.ref a1), .val (.ref a2), .val (.long (q + (1 : Int64))), .second, .val (.int i), .val (.int j)] [(.int (1 : Int32)), (.int j), (.ref a2)])) _
    refine XS.isub X0.here hx rfl (hb hby dbt_54) rfl ?_
    show Steps p.tables e below (T0.setTop (mkF m 55 #[.val (.ref a1), .val (.ref a2), .val (.long (q + (1 : Int64))), .second, .val (.int i), .val (.int j)] [(.int (j - (1 : Int32))), (.ref a2)])) _
    refine own_iaload X0 hx hZ e0 FT (j := (j - (1 : Int32))) hk0 hk1 (g := (mkF m 55 #[.val (.ref a1), .val (.ref a2), .val (.long (q + (1 : Int64))), .second, .val (.int i), .val (.int j)] [(.int (j - (1 : Int32))), (.ref a2)])) rfl rfl (hb hby dbt_55) _ ?_
    show Steps p.tables e below (T0.setTop (mkF m 56 #[.val (.ref a1), .val (.ref a2), .val (.long (q + (1 : Int64))), .second, .val (.int i), .val (.int j)] [(.int (t (j - (1 : Int32)).toNatClampNeg))])) _
    refine XS.istore X0.here hx rfl (hb hby dbt_56) rfl (l' := #[.val (.ref a1), .val (.ref a2), .val (.long (q + (1 : Int64))), .second, .val (.int i), .val (.int (t (j - (1 : Int32)).toNatClampNeg))]) rfl ?_
    show Steps p.tables e below (T0.setTop (mkF m 58 #[.val (.ref a1), .val (.ref a2), .val (.long (q + (1 : Int64))), .second, .val (.int i), .val (.int (t (j - (1 : Int32)).toNatClampNeg))] [])) _
    refine XS.goto X0.here hx rfl (pc0 := 58) (pc' := 8) rfl (hb hby dbt_58) (by decide) (by decide) ?_
    exact kk_
  exact p_3
set_option maxRecDepth 65536 in
set_option maxHeartbeats 40000000 in
theorem bt_eq {p : Program} {l : Launch} {e : Env} {R : Room} {s : State} {m : MethodId} {args : Array Value} {below : List Frame} {meth : Method} {c : Code} {cells slots : Nat} {Z : State} {a0 : Array Value} (hx : p.tables.exec = Jvm.exec) (hZ : Z.Warmed39 s.vm) (hw : ∀ d ∈ tables_1, d.before a0 Z = true) (hby : c.code = prog_9_method_19_code) (hml : c.maxLocals = 6) (hown : s.vm.findClass "prefixshift/Pattern" = some m.cls) {a1 a2 : Addr} {n : Nat} {c' t : Nat → Int32} {q : Int64} {i j : Int32} {T0 : State} {locs : List Loc} {h0 : Heap} (X0 : Stand p l e R s m args below meth c T0 locs cells slots) (e0 : T0.heap = h0) (FC : OAf Z h0 a1 .char n c') (FT : OAf Z h0 a2 .int n t) (hi0 : ¬ (i < (0 : Int32))) (hi1 : i.toNatClampNeg < n) (hlt : i < n.toInt32) (hj0 : ¬ (j < (0 : Int32))) (hj1 : j.toNatClampNeg < n) (heq : c' i.toNatClampNeg = c' j.toNatClampNeg) :
    ∃ (T' : State) (h' : Heap), Stand p l e R s m args below meth c T' (locs ++ [⟨a2, i.toNatClampNeg⟩]) cells slots ∧ T'.heap = h' ∧ Wr h0 h' a2 i.toNatClampNeg (.int (j + (1 : Int32))) ∧ OAf Z h' a2 .int n (fun x => if x = i.toNatClampNeg then (j + (1 : Int32)) else t x) ∧ ∀ u, Steps p.tables e below (T'.setTop (mkF m 8 #[.val (.ref a1), .val (.ref a2), .val (.long (q + (1 : Int64))), .second, .val (.int (i + (1 : Int32))), .val (.int (j + (1 : Int32)))] [])) u → Steps p.tables e below (T0.setTop (mkF m 8 #[.val (.ref a1), .val (.ref a2), .val (.long q), .second, .val (.int i), .val (.int j)] [])) u := by
  have pre0 : ∀ tg_, Steps p.tables e below (T0.setTop (mkF m 8 #[.val (.ref a1), .val (.ref a2), .val (.long q), .second, .val (.int i), .val (.int j)] [])) tg_ → Steps p.tables e below (T0.setTop (mkF m 8 #[.val (.ref a1), .val (.ref a2), .val (.long q), .second, .val (.int i), .val (.int j)] [])) tg_ := fun _ kk_ => kk_
  have p_4 : ∀ tg_, Steps p.tables e below (T0.setTop (mkF m 38 #[.val (.ref a1), .val (.ref a2), .val (.long (q + (1 : Int64))), .second, .val (.int i), .val (.int (j + (1 : Int32)))] [(.int (j + (1 : Int32))), (.int i), (.ref a2)])) tg_ → Steps p.tables e below (T0.setTop (mkF m 8 #[.val (.ref a1), .val (.ref a2), .val (.long q), .second, .val (.int i), .val (.int j)] [])) tg_ := by
    intro tg_ kk_
    refine pre0 tg_ ?_
    show Steps p.tables e below (T0.setTop (mkF m 8 #[.val (.ref a1), .val (.ref a2), .val (.long q), .second, .val (.int i), .val (.int j)] [])) _
    refine XS.iload X0.here hx rfl (hb hby dbt_8) rfl ?_
    show Steps p.tables e below (T0.setTop (mkF m 10 #[.val (.ref a1), .val (.ref a2), .val (.long q), .second, .val (.int i), .val (.int j)] [(.int i)])) _
    refine XS.aloadN X0.here hx rfl (hb hby dbt_10) rfl rfl ?_
    show Steps p.tables e below (T0.setTop (mkF m 11 #[.val (.ref a1), .val (.ref a2), .val (.long q), .second, .val (.int i), .val (.int j)] [(.ref a1), (.int i)])) _
    refine own_len X0 hx hZ e0 FC (z := n.toInt32) rfl (g := (mkF m 11 #[.val (.ref a1), .val (.ref a2), .val (.long q), .second, .val (.int i), .val (.int j)] [(.ref a1), (.int i)])) rfl rfl (hb hby dbt_11) _ ?_
    show Steps p.tables e below (T0.setTop (mkF m 12 #[.val (.ref a1), .val (.ref a2), .val (.long q), .second, .val (.int i), .val (.int j)] [(.int n.toInt32), (.int i)])) _
    refine XS.icmpNo X0.here hx rfl (hb hby dbt_12) rfl (tlt (show i < n.toInt32 from hlt)).2.1 ?_
    show Steps p.tables e below (T0.setTop (mkF m 15 #[.val (.ref a1), .val (.ref a2), .val (.long q), .second, .val (.int i), .val (.int j)] [])) _
    refine XS.lloadN X0.here hx rfl (hb hby dbt_15) rfl ?_
    show Steps p.tables e below (T0.setTop (mkF m 16 #[.val (.ref a1), .val (.ref a2), .val (.long q), .second, .val (.int i), .val (.int j)] [(.long q)])) _
    refine XS.lconst X0.here hx rfl (hb hby dbt_16) ?_
    show Steps p.tables e below (T0.setTop (mkF m 17 #[.val (.ref a1), .val (.ref a2), .val (.long q), .second, .val (.int i), .val (.int j)] [(.long (1 : Int64)), (.long q)])) _
    refine XS.ladd X0.here hx rfl (hb hby dbt_17) rfl ?_
    show Steps p.tables e below (T0.setTop (mkF m 18 #[.val (.ref a1), .val (.ref a2), .val (.long q), .second, .val (.int i), .val (.int j)] [(.long (q + (1 : Int64)))])) _
    refine XS.lstoreN X0.here hx rfl (hb hby dbt_18) rfl (l' := #[.val (.ref a1), .val (.ref a2), .val (.long (q + (1 : Int64))), .second, .val (.int i), .val (.int j)]) rfl ?_
    show Steps p.tables e below (T0.setTop (mkF m 19 #[.val (.ref a1), .val (.ref a2), .val (.long (q + (1 : Int64))), .second, .val (.int i), .val (.int j)] [])) _
    refine XS.aloadN X0.here hx rfl (hb hby dbt_19) rfl rfl ?_
    show Steps p.tables e below (T0.setTop (mkF m 20 #[.val (.ref a1), .val (.ref a2), .val (.long (q + (1 : Int64))), .second, .val (.int i), .val (.int j)] [(.ref a1)])) _
    refine XS.iload X0.here hx rfl (hb hby dbt_20) rfl ?_
    show Steps p.tables e below (T0.setTop (mkF m 22 #[.val (.ref a1), .val (.ref a2), .val (.long (q + (1 : Int64))), .second, .val (.int i), .val (.int j)] [(.int i), (.ref a1)])) _
    refine own_caload X0 hx hZ e0 FC (j := i) hi0 hi1 (g := (mkF m 22 #[.val (.ref a1), .val (.ref a2), .val (.long (q + (1 : Int64))), .second, .val (.int i), .val (.int j)] [(.int i), (.ref a1)])) rfl rfl (hb hby dbt_22) _ ?_
    show Steps p.tables e below (T0.setTop (mkF m 23 #[.val (.ref a1), .val (.ref a2), .val (.long (q + (1 : Int64))), .second, .val (.int i), .val (.int j)] [(.int (c' i.toNatClampNeg))])) _
    refine XS.aloadN X0.here hx rfl (hb hby dbt_23) rfl rfl ?_
    show Steps p.tables e below (T0.setTop (mkF m 24 #[.val (.ref a1), .val (.ref a2), .val (.long (q + (1 : Int64))), .second, .val (.int i), .val (.int j)] [(.ref a1), (.int (c' i.toNatClampNeg))])) _
    refine XS.iload X0.here hx rfl (hb hby dbt_24) rfl ?_
    show Steps p.tables e below (T0.setTop (mkF m 26 #[.val (.ref a1), .val (.ref a2), .val (.long (q + (1 : Int64))), .second, .val (.int i), .val (.int j)] [(.int j), (.ref a1), (.int (c' i.toNatClampNeg))])) _
    refine own_caload X0 hx hZ e0 FC (j := j) hj0 hj1 (g := (mkF m 26 #[.val (.ref a1), .val (.ref a2), .val (.long (q + (1 : Int64))), .second, .val (.int i), .val (.int j)] [(.int j), (.ref a1), (.int (c' i.toNatClampNeg))])) rfl rfl (hb hby dbt_26) _ ?_
    show Steps p.tables e below (T0.setTop (mkF m 27 #[.val (.ref a1), .val (.ref a2), .val (.long (q + (1 : Int64))), .second, .val (.int i), .val (.int j)] [(.int (c' j.toNatClampNeg)), (.int (c' i.toNatClampNeg))])) _
    refine XS.icmpNo X0.here hx rfl (hb hby dbt_27) rfl (teq (show (c' i.toNatClampNeg) = (c' j.toNatClampNeg) from heq)).2 ?_
    show Steps p.tables e below (T0.setTop (mkF m 30 #[.val (.ref a1), .val (.ref a2), .val (.long (q + (1 : Int64))), .second, .val (.int i), .val (.int j)] [])) _
    refine XS.iinc X0.here hx rfl (hb hby dbt_30) rfl (l' := #[.val (.ref a1), .val (.ref a2), .val (.long (q + (1 : Int64))), .second, .val (.int i), .val (.int (j + (1 : Int32)))]) rfl ?_
    show Steps p.tables e below (T0.setTop (mkF m 33 #[.val (.ref a1), .val (.ref a2), .val (.long (q + (1 : Int64))), .second, .val (.int i), .val (.int (j + (1 : Int32)))] [])) _
    refine XS.aloadN X0.here hx rfl (hb hby dbt_33) rfl rfl ?_
    show Steps p.tables e below (T0.setTop (mkF m 34 #[.val (.ref a1), .val (.ref a2), .val (.long (q + (1 : Int64))), .second, .val (.int i), .val (.int (j + (1 : Int32)))] [(.ref a2)])) _
    refine XS.iload X0.here hx rfl (hb hby dbt_34) rfl ?_
    show Steps p.tables e below (T0.setTop (mkF m 36 #[.val (.ref a1), .val (.ref a2), .val (.long (q + (1 : Int64))), .second, .val (.int i), .val (.int (j + (1 : Int32)))] [(.int i), (.ref a2)])) _
    refine XS.iload X0.here hx rfl (hb hby dbt_36) rfl ?_
    exact kk_
  obtain ⟨T5, h5, X5, e5, W5, F5, st5⟩ := own_iastore X0 hx hZ e0 FT (j := i) hi0 hi1 (g := (mkF m 38 #[.val (.ref a1), .val (.ref a2), .val (.long (q + (1 : Int64))), .second, .val (.int i), .val (.int (j + (1 : Int32)))] [(.int (j + (1 : Int32))), (.int i), (.ref a2)])) rfl rfl (hb hby dbt_38)
  have p_6 : ∀ tg_, Steps p.tables e below (T5.setTop (mkF m 8 #[.val (.ref a1), .val (.ref a2), .val (.long (q + (1 : Int64))), .second, .val (.int (i + (1 : Int32))), .val (.int (j + (1 : Int32)))] [])) tg_ → Steps p.tables e below (T0.setTop (mkF m 8 #[.val (.ref a1), .val (.ref a2), .val (.long q), .second, .val (.int i), .val (.int j)] [])) tg_ := by
    intro tg_ kk_
    refine p_4 tg_ ?_
    refine st5 _ ?_
    show Steps p.tables e below (T5.setTop (mkF m 39 #[.val (.ref a1), .val (.ref a2), .val (.long (q + (1 : Int64))), .second, .val (.int i), .val (.int (j + (1 : Int32)))] [])) _
    refine XS.iinc X5.here hx rfl (hb hby dbt_39) rfl (l' := #[.val (.ref a1), .val (.ref a2), .val (.long (q + (1 : Int64))), .second, .val (.int (i + (1 : Int32))), .val (.int (j + (1 : Int32)))]) rfl ?_
    show Steps p.tables e below (T5.setTop (mkF m 42 #[.val (.ref a1), .val (.ref a2), .val (.long (q + (1 : Int64))), .second, .val (.int (i + (1 : Int32))), .val (.int (j + (1 : Int32)))] [])) _
    refine XS.goto X5.here hx rfl (pc0 := 42) (pc' := 8) rfl (hb hby dbt_42) (by decide) (by decide) ?_
    exact kk_
  exact ⟨_, _, X5, e5, W5, F5, p_6⟩
set_option maxRecDepth 65536 in
set_option maxHeartbeats 40000000 in
theorem bt_lp {p : Program} {l : Launch} {e : Env} {R : Room} {s : State} {m : MethodId} {args : Array Value} {below : List Frame} {meth : Method} {c : Code} {cells slots : Nat} {Z : State} {a0 : Array Value} (hx : p.tables.exec = Jvm.exec) (hZ : Z.Warmed39 s.vm) (hw : ∀ d ∈ tables_1, d.before a0 Z = true) (hby : c.code = prog_9_method_19_code) (hml : c.maxLocals = 6) (hown : s.vm.findClass "prefixshift/Pattern" = some m.cls) {a1 a2 : Addr} {n0 n : Nat} {c' : Nat → Int32} (hne : a1 ≠ a2) (g2 : n0 ≤ a2) (hn : n ≤ 4) : ∀ (fuel i j q : Nat) (t : Nat → Nat) {T0 : State} {locs : List Loc} {h0 : Heap} (X0 : Stand p l e R s m args below meth c T0 locs cells slots) (e0 : T0.heap = h0) (FC : OAf Z h0 a1 .char n c') (FT : OAf Z h0 a2 .int n (fun x => own_i (t x))) (N0 : Fr n0 locs) (hj : j < i) (hi : i ≤ n + 1) (ht : ∀ x, t x ≤ x) (hf : 2 * (n - i) + j ≤ fuel),
    ∃ (T' : State) (h' : Heap) (L' : List Loc) (Ls : Array Slot), Stand p l e R s m args below meth c T' L' cells slots ∧ T'.heap = h' ∧ Keep h0 h' [a2] ∧ OAf Z h' a1 .char n c' ∧ OAf Z h' a2 .int n (fun x => own_i ((own_kmp c' n fuel i j q t).2 x)) ∧ Fr n0 L' ∧ ∀ u, Steps p.tables e below (T'.setTop (mkF m 68 Ls [.long (own_l (own_kmp c' n fuel i j q t).1)])) u → Steps p.tables e below (T0.setTop (mkF m 8 #[.val (.ref a1), .val (.ref a2), .val (.long (own_l q)), .second, .val (.int (own_i i)), .val (.int (own_i j))] [])) u := by
  intro fuel
  induction fuel with
  | zero =>
    intro i j q t T0 locs h0 X0 e0 FC FT N0 hj hi ht hf
    exact ⟨T0, h0, locs, _, X0, e0, Keep.refl _ _, FC, FT, N0, bt_lv hx hZ hw hby hml hown X0 e0 FC FT (fun q => by rw [show n.toInt32 = own_i n from rfl, own_i_lt (by omega) (by omega)] at q; omega)⟩
  | succ fuel ih =>
    intro i j q t T0 locs h0 X0 e0 FC FT N0 hj hi ht hf
    by_cases hin : i < n
    · have hlt : own_i i < n.toInt32 := (own_i_lt (by omega) (by omega)).mpr hin
      have ei := own_i_nat (k := i) (by omega)
      have ej := own_i_nat (k := j) (by omega)
      have a1' := own_i_nn (k := i) (by omega)
      have a2' := own_i_nn (k := j) (by omega)
      by_cases heq : c' i = c' j
      · obtain ⟨T1, h1, X1, e1, W1, F1, st⟩ := bt_eq (q := own_l q) hx hZ hw hby hml hown X0 e0 FC FT a1' (by rw [ei]; exact hin) hlt a2' (by rw [ej]; omega) (by rw [ei, ej]; exact heq)
        have F2 : OAf Z h1 a2 .int n (fun x => own_i ((fun x => if x = i then j + 1 else t x) x)) := F1.congr fun x hx => by
          show (if x = (own_i i).toNatClampNeg then own_i j + (1 : Int32) else own_i (t x)) = own_i (if x = i then j + 1 else t x)
          rw [ei]
          by_cases u : x = i
          · rw [if_pos u, if_pos u, own_i_succ]
          · rw [if_neg u, if_neg u]
        rw [own_i_succ, own_i_succ, own_l_succ] at st
        obtain ⟨T2, h2, L2, Ls, r1, r2, r3, r4, r5, r6, r7⟩ := ih (i + 1) (j + 1) (q + 1) _ X1 e1 (FC.other W1 hne) F2 (Fr.snoc X1 N0 g2) (by omega) (by omega) (fun x => by
          show (if x = i then j + 1 else t x) ≤ x
          by_cases u : x = i
          · rw [if_pos u]; omega
          · rw [if_neg u]; exact ht x) (by omega)
        have ek : own_kmp c' n (fuel + 1) i j q t = own_kmp c' n fuel (i + 1) (j + 1) (q + 1) (fun x => if x = i then j + 1 else t x) := by rw [own_kmp, if_pos hin, if_pos heq]
        rw [ek]
        exact ⟨T2, h2, L2, Ls, r1, r2, (Keep.of_wr W1).trans r3 (fun x hx => Or.inl hx), r4, r5, r6, fun u k => st u (r7 u k)⟩
      · have hne' : ¬ (c' (own_i i).toNatClampNeg = c' (own_i j).toNatClampNeg) := by rw [ei, ej]; exact heq
        by_cases hj0 : 0 < j
        · obtain ⟨j', rfl⟩ : ∃ j', j = j' + 1 := ⟨j - 1, by omega⟩
          have ep := own_i_pred (k := j') (by omega)
          have en := own_i_nat (k := j') (by omega)
          have st := bt_n1 (q := own_l q) hx hZ hw hby hml hown X0 e0 FC FT a1' (by rw [ei]; exact hin) hlt a2' (by rw [ej]; omega) hne' ((own_i_lt (j := 0) (by omega) (by omega)).mpr hj0) (by rw [ep]; exact own_i_nn (by omega)) (by rw [ep, en]; omega)
          rw [ep, en, own_l_succ] at st
          have ht' := ht j'
          obtain ⟨T2, h2, L2, Ls, r1, r2, r3, r4, r5, r6, r7⟩ := ih i (t j') (q + 1) t X0 e0 FC FT N0 (by omega) hi ht (by omega)
          have ek : own_kmp c' n (fuel + 1) i (j' + 1) q t = own_kmp c' n fuel i (t j') (q + 1) t := by rw [own_kmp, if_pos hin, if_neg heq, if_pos hj0]; rfl
          rw [ek]
          exact ⟨T2, h2, L2, Ls, r1, r2, r3, r4, r5, r6, fun u k => st u (r7 u k)⟩
        · have st := bt_n0 (q := own_l q) hx hZ hw hby hml hown X0 e0 FC FT a1' (by rw [ei]; exact hin) hlt a2' (by rw [ej]; omega) hne' (fun q => hj0 ((own_i_lt (j := 0) (by omega) (by omega)).mp q))
          rw [own_i_succ, own_l_succ] at st
          obtain ⟨T2, h2, L2, Ls, r1, r2, r3, r4, r5, r6, r7⟩ := ih (i + 1) j (q + 1) t X0 e0 FC FT N0 (by omega) (by omega) ht (by omega)
          have ek : own_kmp c' n (fuel + 1) i j q t = own_kmp c' n fuel (i + 1) j (q + 1) t := by rw [own_kmp, if_pos hin, if_neg heq, if_neg hj0]
          rw [ek]
          exact ⟨T2, h2, L2, Ls, r1, r2, r3, r4, r5, r6, fun u k => st u (r7 u k)⟩
    · have ek : own_kmp c' n (fuel + 1) i j q t = (q, t) := by rw [own_kmp, if_neg hin]
      rw [ek]
      exact ⟨T0, h0, locs, _, X0, e0, Keep.refl _ _, FC, FT, N0, bt_lv hx hZ hw hby hml hown X0 e0 FC FT (fun q => by rw [show n.toInt32 = own_i n from rfl, own_i_lt (by omega) (by omega)] at q; omega)⟩
theorem dbt_68 : decode prog_9_method_19_code 68 = .ok (.lreturn, 1) := by decide +kernel
theorem dbp_0 : decode prog_9_method_19_code 0 = .ok (.lconst 0, 1) := by decide +kernel
theorem dbp_1 : decode prog_9_method_19_code 1 = .ok (.lstore_n 2, 1) := by decide +kernel
theorem dbp_2 : decode prog_9_method_19_code 2 = .ok (.iconst 1, 1) := by decide +kernel
theorem dbp_3 : decode prog_9_method_19_code 3 = .ok (.istore 4, 2) := by decide +kernel
theorem dbp_5 : decode prog_9_method_19_code 5 = .ok (.iconst 0, 1) := by decide +kernel
theorem dbp_6 : decode prog_9_method_19_code 6 = .ok (.istore 5, 2) := by decide +kernel
theorem pn_bp : plainName "prefixshift/Pattern" = true := by first | (simp [plainName, overriddenIn]; done) | decide +kernel
theorem ef_bp (m : MethodId) (x0 : Addr) (x1 : Addr) : entryFrame m #[(.ref x0), (.ref x1)] 6 = mkF m 0 #[.val (.ref x0), .val (.ref x1), .unset, .unset, .unset, .unset] [] := by first | (simp [entryFrame, mkF, argsToLocals, Value.category]; done) | rfl
def Q_bp (Z : State) (a1 a2 : Addr) (n : Nat) (c' : Nat → Int32) (h0 : Heap) (n0 : Nat) (v : Option Value) (h : Heap) (L : List Loc) : Prop := v = some (.long (own_l (own_kmp c' n (2 * n) 1 0 0 (fun _ => 0)).1)) ∧ Fr n0 L ∧ Keep h0 h [a2] ∧ OAf Z h a1 .char n c' ∧ OAf Z h a2 .int n (fun x => own_i ((own_kmp c' n (2 * n) 1 0 0 (fun _ => 0)).2 x))
set_option maxRecDepth 65536 in
set_option maxHeartbeats 40000000 in
theorem rm_bp (l : Launch) (Z : State) (a0 : Array Value) (hw : ∀ d ∈ tables_1, d.before a0 Z = true) (ws : List Jvm.Cond) (a1 a2 : Addr) (n : Nat) (c' : Nat → Int32) (h0 : Heap) (n0 : Nat) (Z0 : n0 ≤ h0.size) (hn : n ≤ 4) (hne : a1 ≠ a2) (g2 : n0 ≤ a2) (FC : OAf Z h0 a1 .char n c') (FT : OAf Z h0 a2 .int n (fun _ => 0)) :
    MetFree l (⟨"prefixshift/Pattern", "buildPrefixTable", "([C[I)J"⟩ : MethodName) (head1 (Jvm.Cond.code (⟨"prefixshift/Pattern", "buildPrefixTable", "([C[I)J"⟩ : MethodName) prog_9_method_19_code 6 (some .long) :: ws) ({ frames := 0, cells := 0, slots := 0, locals := 0 } : Room)) (fun a U => a = #[(.ref a1), (.ref a2)] ∧ Z.Warmed39 U.vm ∧ U.heap = h0) (fun _ _ _ _ _ => True) (fun _ U o U' => ∃ v L, o = .returned v ∧ Q_bp Z a1 a2 n c' h0 n0 v U'.heap L ∧ FrameEnd U o U' L ({ frames := 0, cells := 0, slots := 0, locals := 0 } : Room).cells ({ frames := 0, cells := 0, slots := 0, locals := 0 } : Room).slots) := by
  refine MetFree.of_bodySF (plainFor_of_name pn_bp) hisR ?_
  intro p e s m args below meth c s₁ Bd hml0 hP hK
  obtain ⟨rfl, hZ, hh⟩ := hP
  have hx := Bd.exec
  have hby := Bd.bytes
  have hml : c.maxLocals = 6 := hml0
  have hown : s.vm.findClass "prefixshift/Pattern" = some m.cls := findClass_of_methodNamed Bd.named
  have hnm := (name_of_methodNamed Bd.named Bd.method).1
  have X0 : Stand p l e ({ frames := 0, cells := 0, slots := 0, locals := 0 } : Room) s m #[(.ref a1), (.ref a2)] below meth c s₁ [] 0 0 := Stand.of_body Bd
  have e0 : s₁.heap = h0 := by rw [← hh, Bd.state]; rfl
  have N0 := Fr.nil n0
  have pre0 : ∀ tg_, Steps p.tables e below (s₁.setTop (mkF m 0 #[.val (.ref a1), .val (.ref a2), .unset, .unset, .unset, .unset] [])) tg_ → Steps p.tables e below (s₁.setTop (entryFrame m #[(.ref a1), (.ref a2)] 6)) tg_ := fun tg_ k => castTop (ef_bp m a1 a2) k
  have p_1 : ∀ tg_, Steps p.tables e below (s₁.setTop (mkF m 8 #[.val (.ref a1), .val (.ref a2), .val (.long (0 : Int64)), .second, .val (.int (1 : Int32)), .val (.int (0 : Int32))] [])) tg_ → Steps p.tables e below (s₁.setTop (entryFrame m #[(.ref a1), (.ref a2)] 6)) tg_ := by
    intro tg_ kk_
    refine pre0 tg_ ?_
    show Steps p.tables e below (s₁.setTop (mkF m 0 #[.val (.ref a1), .val (.ref a2), .unset, .unset, .unset, .unset] [])) _
    refine XS.lconst X0.here hx rfl (hb hby dbp_0) ?_
    show Steps p.tables e below (s₁.setTop (mkF m 1 #[.val (.ref a1), .val (.ref a2), .unset, .unset, .unset, .unset] [(.long (0 : Int64))])) _
    refine XS.lstoreN X0.here hx rfl (hb hby dbp_1) rfl (l' := #[.val (.ref a1), .val (.ref a2), .val (.long (0 : Int64)), .second, .unset, .unset]) rfl ?_
    show Steps p.tables e below (s₁.setTop (mkF m 2 #[.val (.ref a1), .val (.ref a2), .val (.long (0 : Int64)), .second, .unset, .unset] [])) _
    refine XS.iconst X0.here hx rfl (hb hby dbp_2) ?_
    show Steps p.tables e below (s₁.setTop (mkF m 3 #[.val (.ref a1), .val (.ref a2), .val (.long (0 : Int64)), .second, .unset, .unset] [(.int (1 : Int32))])) _
    refine XS.istore X0.here hx rfl (hb hby dbp_3) rfl (l' := #[.val (.ref a1), .val (.ref a2), .val (.long (0 : Int64)), .second, .val (.int (1 : Int32)), .unset]) rfl ?_
    show Steps p.tables e below (s₁.setTop (mkF m 5 #[.val (.ref a1), .val (.ref a2), .val (.long (0 : Int64)), .second, .val (.int (1 : Int32)), .unset] [])) _
    refine XS.iconst X0.here hx rfl (hb hby dbp_5) ?_
    show Steps p.tables e below (s₁.setTop (mkF m 6 #[.val (.ref a1), .val (.ref a2), .val (.long (0 : Int64)), .second, .val (.int (1 : Int32)), .unset] [(.int (0 : Int32))])) _
    refine XS.istore X0.here hx rfl (hb hby dbp_6) rfl (l' := #[.val (.ref a1), .val (.ref a2), .val (.long (0 : Int64)), .second, .val (.int (1 : Int32)), .val (.int (0 : Int32))]) rfl ?_
    exact kk_
  obtain ⟨T', h', L', Ls, r1, r2, r3, r4, r5, r6, r7⟩ := bt_lp (a0 := a0) hx hZ hw hby hml hown hne g2 hn (2 * n) 1 0 0 (fun _ => 0) X0 e0 FC FT N0 (by omega) (by omega) (fun x => Nat.zero_le _) (by omega)
  obtain ⟨fs, hr, hrun, hended, hW, hsame⟩ := r1.leave (v := some (.long (own_l (own_kmp c' n (2 * n) 1 0 0 (fun _ => 0)).1))) (fun h => by rw [Bd.returns] at h; cases h)
  refine ⟨_, _, p_1 _ (r7 _ ?_), hrun, hended, _, _, rfl, ?_, ⟨_, rfl⟩, hW, hsame.mono (by decide) (by decide)⟩
  · jvm_step r1.here [r1.here.top, hx, (hb hby dbt_68), r1.method', Bd.returns, narrow]
    first | (intro acts; rw [hr _ acts rfl rfl rfl]) | rw [hr _ _ rfl rfl rfl]
    exact Steps.refl _
  · show Q_bp Z a1 a2 n c' h0 n0 _ T'.heap _
    rw [r2]
    exact ⟨rfl, r6, r3, r4, r5⟩
theorem din_0 : decode prog_9_method_1_code 0 = .ok (.aload_n 0, 1) := by decide +kernel
theorem din_1 : decode prog_9_method_1_code 1 = .ok (.invokespecial 1, 3) := by decide +kernel
theorem din_4 : decode prog_9_method_1_code 4 = .ok (.aload_n 0, 1) := by decide +kernel
theorem din_5 : decode prog_9_method_1_code 5 = .ok (.aload_n 1, 1) := by decide +kernel
theorem din_6 : decode prog_9_method_1_code 6 = .ok (.putfield 7, 3) := by decide +kernel
theorem din_9 : decode prog_9_method_1_code 9 = .ok (.aload_n 0, 1) := by decide +kernel
theorem din_10 : decode prog_9_method_1_code 10 = .ok (.iload_n 2, 1) := by decide +kernel
theorem din_11 : decode prog_9_method_1_code 11 = .ok (.putfield 13, 3) := by decide +kernel
theorem din_14 : decode prog_9_method_1_code 14 = .ok (.aload_n 0, 1) := by decide +kernel
theorem din_15 : decode prog_9_method_1_code 15 = .ok (.aload_n 1, 1) := by decide +kernel
theorem din_16 : decode prog_9_method_1_code 16 = .ok (.arraylength, 1) := by decide +kernel
theorem din_17 : decode prog_9_method_1_code 17 = .ok (.newarray .int, 2) := by decide +kernel
theorem din_19 : decode prog_9_method_1_code 19 = .ok (.putfield 17, 3) := by decide +kernel
theorem din_22 : decode prog_9_method_1_code 22 = .ok (.aload_n 0, 1) := by decide +kernel
theorem din_23 : decode prog_9_method_1_code 23 = .ok (.aload_n 1, 1) := by decide +kernel
theorem din_24 : decode prog_9_method_1_code 24 = .ok (.aload_n 0, 1) := by decide +kernel
theorem din_25 : decode prog_9_method_1_code 25 = .ok (.getfield 17, 3) := by decide +kernel
theorem din_28 : decode prog_9_method_1_code 28 = .ok (.invokestatic 21, 3) := by decide +kernel
theorem din_31 : decode prog_9_method_1_code 31 = .ok (.putfield 25, 3) := by decide +kernel
theorem din_34 : decode prog_9_method_1_code 34 = .ok (.return_, 1) := by decide +kernel
theorem pd_in_0 : parseMethodDescriptor "([C[I)J" = some ⟨[(.array .char), (.array .int)], some .long⟩ := by decide +kernel
theorem pn_in : plainName "prefixshift/Pattern" = true := by first | (simp [plainName, overriddenIn]; done) | decide +kernel
theorem ef_in (m : MethodId) (x0 : Addr) (x1 : Addr) (x2 : Int32) : entryFrame m #[(.ref x0), (.ref x1), (.int x2)] 3 = mkF m 0 #[.val (.ref x0), .val (.ref x1), .val (.int x2)] [] := by first | (simp [entryFrame, mkF, argsToLocals, Value.category]; done) | rfl
def Q_in (Z : State) (a1 u2 : Addr) (p3 : Int32) (n : Nat) (c' : Nat → Int32) (h0 : Heap) (n0 : Nat) (v : Option Value) (h : Heap) (L : List Loc) : Prop := v = none ∧ Fr n0 L ∧ h0.size ≤ h.size ∧ ∃ tb : Addr, Exa Z h a1 "prefixshift/Pattern" ∧ Fld Z h a1 "prefixshift/Pattern" "units" "[C" (.ref u2) ∧ Fld Z h a1 "prefixshift/Pattern" "prefixTable" "[I" (.ref tb) ∧ Fld Z h a1 "prefixshift/Pattern" "tableComparisons" "J" (.long (own_l (own_kmp c' n (2 * n) 1 0 0 (fun _ => 0)).1)) ∧ OAf Z h u2 .char n c' ∧ OAf Z h tb .int n (fun x => own_i ((own_kmp c' n (2 * n) 1 0 0 (fun _ => 0)).2 x)) ∧ Exa Z h tb "[I"
set_option maxRecDepth 65536 in
set_option maxHeartbeats 40000000 in
theorem rm_in (l : Launch) (Z : State) (a0 : Array Value) (hw : ∀ d ∈ tables_1, d.before a0 Z = true) (ws : List Jvm.Cond) (a1 u2 : Addr) (p3 : Int32) (n : Nat) (c' : Nat → Int32) (h0 : Heap) (n0 : Nat) (Z0 : n0 ≤ h0.size) (hn : n ≤ 4) (E1 : Exa Z h0 a1 "prefixshift/Pattern") (F1 : Fld Z h0 a1 "prefixshift/Pattern" "units" "[C" .null) (F2 : Fld Z h0 a1 "prefixshift/Pattern" "ofChars" "Z" (.int (0 : Int32))) (F3 : Fld Z h0 a1 "prefixshift/Pattern" "prefixTable" "[I" .null) (F4 : Fld Z h0 a1 "prefixshift/Pattern" "tableComparisons" "J" (.long (0 : Int64))) (FC : OAf Z h0 u2 .char n c') (hau : u2 ≠ a1) (g1 : n0 ≤ a1) :
    MetFree l (⟨"prefixshift/Pattern", "<init>", "([CZ)V"⟩ : MethodName) (head1 (Jvm.Cond.code (⟨"prefixshift/Pattern", "<init>", "([CZ)V"⟩ : MethodName) prog_9_method_1_code 3 none :: ws) ({ frames := 1, cells := 1, slots := 4, locals := 18 } : Room)) (fun a U => a = #[(.ref a1), (.ref u2), (.int p3)] ∧ Z.Warmed39 U.vm ∧ U.heap = h0) (fun _ _ _ _ _ => True) (fun _ U o U' => ∃ v L, o = .returned v ∧ Q_in Z a1 u2 p3 n c' h0 n0 v U'.heap L ∧ FrameEnd U o U' L ({ frames := 1, cells := 1, slots := 4, locals := 18 } : Room).cells ({ frames := 1, cells := 1, slots := 4, locals := 18 } : Room).slots) := by
  refine MetFree.of_bodySF (plainFor_of_name pn_in) hisR ?_
  intro p e s m args below meth c s₁ Bd hml0 hP hK
  obtain ⟨rfl, hZ, hh⟩ := hP
  have hx := Bd.exec
  have hby := Bd.bytes
  have hml : c.maxLocals = 3 := hml0
  have hown : s.vm.findClass "prefixshift/Pattern" = some m.cls := findClass_of_methodNamed Bd.named
  have hnm := (name_of_methodNamed Bd.named Bd.method).1
  have X0 : Stand p l e ({ frames := 1, cells := 1, slots := 4, locals := 18 } : Room) s m #[(.ref a1), (.ref u2), (.int p3)] below meth c s₁ [] 0 0 := Stand.of_body Bd
  have e0 : s₁.heap = h0 := by rw [← hh, Bd.state]; rfl
  have N0 := Fr.nil n0
  have pre0 : ∀ tg_, Steps p.tables e below (s₁.setTop (mkF m 0 #[.val (.ref a1), .val (.ref u2), .val (.int p3)] [])) tg_ → Steps p.tables e below (s₁.setTop (entryFrame m #[(.ref a1), (.ref u2), (.int p3)] 3)) tg_ := fun tg_ k => castTop (ef_in m a1 u2 p3) k
  have p_1 : ∀ tg_, Steps p.tables e below (s₁.setTop (mkF m 1 #[.val (.ref a1), .val (.ref u2), .val (.int p3)] [(.ref a1)])) tg_ → Steps p.tables e below (s₁.setTop (entryFrame m #[(.ref a1), (.ref u2), (.int p3)] 3)) tg_ := by
    intro tg_ kk_
    refine pre0 tg_ ?_
    show Steps p.tables e below (s₁.setTop (mkF m 0 #[.val (.ref a1), .val (.ref u2), .val (.int p3)] [])) _
    refine XS.aloadN X0.here hx rfl (hb hby din_0) rfl rfl ?_
    exact kk_
  obtain ⟨T2, X2, e2, st2⟩ := initO X0 hx hZ hown (hw _ (List.mem_of_getElem? (i := 25) rfl)) (hw _ (List.mem_of_getElem? (i := 26) rfl)) (hw _ (List.mem_of_getElem? (i := 27) rfl)) e0 (g := (mkF m 1 #[.val (.ref a1), .val (.ref u2), .val (.int p3)] [(.ref a1)])) rfl (by rw [hml]; rfl) rfl (hb hby din_1) (by decide) (W := 0) (by show 2 * 0 + _ ≤ _; exact Nat.le_of_eq rfl) (by decide)
  have p_3 : ∀ tg_, Steps p.tables e below (T2.setTop (mkF m 6 #[.val (.ref a1), .val (.ref u2), .val (.int p3)] [(.ref u2), (.ref a1)])) tg_ → Steps p.tables e below (s₁.setTop (entryFrame m #[(.ref a1), (.ref u2), (.int p3)] 3)) tg_ := by
    intro tg_ kk_
    refine p_1 tg_ ?_
    refine st2 _ ?_
    show Steps p.tables e below (T2.setTop (mkF m 4 #[.val (.ref a1), .val (.ref u2), .val (.int p3)] [])) _
    refine XS.aloadN X2.here hx rfl (hb hby din_4) rfl rfl ?_
    show Steps p.tables e below (T2.setTop (mkF m 5 #[.val (.ref a1), .val (.ref u2), .val (.int p3)] [(.ref a1)])) _
    refine XS.aloadN X2.here hx rfl (hb hby din_5) rfl rfl ?_
    exact kk_
  obtain ⟨T4, h4, X4, e4, W4, st4⟩ := putF X2 hx hZ hown (host := "") (Or.inl (hw _ (List.mem_of_getElem? (i := 28) rfl))) Via.refl e2 F1 E1 (Or.inr ⟨(hw _ (List.mem_of_getElem? (i := 29) rfl)), rfl, hnm⟩) (hw _ (List.mem_of_getElem? (i := 21) rfl)) (ty := (.array .char)) (by decide) rfl rfl (g := (mkF m 6 #[.val (.ref a1), .val (.ref u2), .val (.int p3)] [(.ref u2), (.ref a1)])) rfl rfl (hb hby din_6)
  have U1 := F1.same W4
  have U2 := F2.other W4 (Or.inr (slot_ne (Or.inr (hw _ (List.mem_of_getElem? (i := 31) rfl))) (Or.inr (hw _ (List.mem_of_getElem? (i := 29) rfl))) (by decide) (t := .boolean) (t' := (.array .char)) (by decide) (by decide)))
  have U3 := F3.other W4 (Or.inr (slot_ne (Or.inr (hw _ (List.mem_of_getElem? (i := 34) rfl))) (Or.inr (hw _ (List.mem_of_getElem? (i := 29) rfl))) (by decide) (t := (.array .int)) (t' := (.array .char)) (by decide) (by decide)))
  have U4 := F4.other W4 (Or.inr (slot_ne (Or.inr (hw _ (List.mem_of_getElem? (i := 39) rfl))) (Or.inr (hw _ (List.mem_of_getElem? (i := 29) rfl))) (by decide) (t := .long) (t' := (.array .char)) (by decide) (by decide)))
  have UE := E1.wr W4
  have UC := FC.other W4 hau
  have N4 := Fr.snoc X4 N0 g1
  have p_5 : ∀ tg_, Steps p.tables e below (T4.setTop (mkF m 11 #[.val (.ref a1), .val (.ref u2), .val (.int p3)] [(.int p3), (.ref a1)])) tg_ → Steps p.tables e below (s₁.setTop (entryFrame m #[(.ref a1), (.ref u2), (.int p3)] 3)) tg_ := by
    intro tg_ kk_
    refine p_3 tg_ ?_
    refine st4 _ ?_
    show Steps p.tables e below (T4.setTop (mkF m 9 #[.val (.ref a1), .val (.ref u2), .val (.int p3)] [])) _
    refine XS.aloadN X4.here hx rfl (hb hby din_9) rfl rfl ?_
    show Steps p.tables e below (T4.setTop (mkF m 10 #[.val (.ref a1), .val (.ref u2), .val (.int p3)] [(.ref a1)])) _
    refine XS.iloadN X4.here hx rfl (hb hby din_10) rfl ?_
    exact kk_
  obtain ⟨T6, h6, X6, e6, W6, st6⟩ := putFN X4 hx hZ hown (hw _ (List.mem_of_getElem? (i := 30) rfl)) Via.refl e4 U2 UE (Or.inr ⟨(hw _ (List.mem_of_getElem? (i := 31) rfl)), rfl, hnm⟩) (hw _ (List.mem_of_getElem? (i := 21) rfl)) (ty := .boolean) (v' := (.int (p3 &&& (1 : Int32)))) (by decide) rfl (fits_nar_bool _) (g := (mkF m 11 #[.val (.ref a1), .val (.ref u2), .val (.int p3)] [(.int p3), (.ref a1)])) rfl rfl (hb hby din_11)
  have V1 := U1.other W6 (Or.inr (slot_ne (Or.inr (hw _ (List.mem_of_getElem? (i := 29) rfl))) (Or.inr (hw _ (List.mem_of_getElem? (i := 31) rfl))) (by decide) (t := (.array .char)) (t' := .boolean) (by decide) (by decide)))
  have V3 := U3.other W6 (Or.inr (slot_ne (Or.inr (hw _ (List.mem_of_getElem? (i := 34) rfl))) (Or.inr (hw _ (List.mem_of_getElem? (i := 31) rfl))) (by decide) (t := (.array .int)) (t' := .boolean) (by decide) (by decide)))
  have V4 := U4.other W6 (Or.inr (slot_ne (Or.inr (hw _ (List.mem_of_getElem? (i := 39) rfl))) (Or.inr (hw _ (List.mem_of_getElem? (i := 31) rfl))) (by decide) (t := .long) (t' := .boolean) (by decide) (by decide)))
  have VE := UE.wr W6
  have VC := UC.other W6 hau
  have N6 := Fr.snoc X6 N4 g1
  have p_7 : ∀ tg_, Steps p.tables e below (T6.setTop (mkF m 17 #[.val (.ref a1), .val (.ref u2), .val (.int p3)] [(.int (own_i n)), (.ref a1)])) tg_ → Steps p.tables e below (s₁.setTop (entryFrame m #[(.ref a1), (.ref u2), (.int p3)] 3)) tg_ := by
    intro tg_ kk_
    refine p_5 tg_ ?_
    refine st6 _ ?_
    show Steps p.tables e below (T6.setTop (mkF m 14 #[.val (.ref a1), .val (.ref u2), .val (.int p3)] [])) _
    refine XS.aloadN X6.here hx rfl (hb hby din_14) rfl rfl ?_
    show Steps p.tables e below (T6.setTop (mkF m 15 #[.val (.ref a1), .val (.ref u2), .val (.int p3)] [(.ref a1)])) _
    refine XS.aloadN X6.here hx rfl (hb hby din_15) rfl rfl ?_
    show Steps p.tables e below (T6.setTop (mkF m 16 #[.val (.ref a1), .val (.ref u2), .val (.int p3)] [(.ref u2), (.ref a1)])) _
    refine own_len X6 hx hZ e6 VC (z := (own_i n)) rfl (g := (mkF m 16 #[.val (.ref a1), .val (.ref u2), .val (.int p3)] [(.ref u2), (.ref a1)])) rfl rfl (hb hby din_16) _ ?_
    exact kk_
  obtain ⟨T8, h8, k8, X8, e8, E8, A8, EX8, st8⟩ := newPE X6 hx hZ (hw _ (List.mem_of_getElem? (i := 32) rfl)) e6 (g := (mkF m 17 #[.val (.ref a1), .val (.ref u2), .val (.int p3)] [(.int (own_i n)), (.ref a1)])) rfl (hb hby din_17) rfl (own_i_nn (by omega)) (cap := 4) (by rw [own_i_nat (by omega)]; exact hn) (by decide) (by decide) (by decide) (ad := "[I") (by first | rfl | decide)
  obtain ⟨b8, g8⟩ : ∃ z, z = h6.size := ⟨_, rfl⟩
  rw [← g8] at A8 EX8 st8
  have F8 := OAf.new A8 rfl (n := n) (own_i_nat (by omega))
  have sz1 : h0.size ≤ b8 := by rw [g8, W6.size, W4.size]; exact Nat.le_refl _
  have gt : n0 ≤ b8 := Nat.le_trans Z0 sz1
  have ha1 : a1 ≠ b8 := Nat.ne_of_lt (Nat.lt_of_lt_of_le E1.lt sz1)
  have hu2 : u2 ≠ b8 := Nat.ne_of_lt (Nat.lt_of_lt_of_le FC.lt sz1)
  have p_9 : ∀ tg_, Steps p.tables e below (T8.setTop (mkF m 19 #[.val (.ref a1), .val (.ref u2), .val (.int p3)] [(.ref b8), (.ref a1)])) tg_ → Steps p.tables e below (s₁.setTop (entryFrame m #[(.ref a1), (.ref u2), (.int p3)] 3)) tg_ := by
    intro tg_ kk_
    refine p_7 tg_ ?_
    refine st8 _ ?_
    exact kk_
  obtain ⟨T10, h10, X10, e10, W10, st10⟩ := putF X8 hx hZ hown (host := "") (Or.inl (hw _ (List.mem_of_getElem? (i := 33) rfl))) Via.refl e8 (V3.ext E8) (VE.ext E8) (Or.inr ⟨(hw _ (List.mem_of_getElem? (i := 34) rfl)), rfl, hnm⟩) (hw _ (List.mem_of_getElem? (i := 21) rfl)) (ty := (.array .int)) (by decide) rfl rfl (g := (mkF m 19 #[.val (.ref a1), .val (.ref u2), .val (.int p3)] [(.ref b8), (.ref a1)])) rfl rfl (hb hby din_19)
  have Y3 := (V3.ext E8).same W10
  have Y1 := (V1.ext E8).other W10 (Or.inr (slot_ne (Or.inr (hw _ (List.mem_of_getElem? (i := 29) rfl))) (Or.inr (hw _ (List.mem_of_getElem? (i := 34) rfl))) (by decide) (t := (.array .char)) (t' := (.array .int)) (by decide) (by decide)))
  have Y4 := (V4.ext E8).other W10 (Or.inr (slot_ne (Or.inr (hw _ (List.mem_of_getElem? (i := 39) rfl))) (Or.inr (hw _ (List.mem_of_getElem? (i := 34) rfl))) (by decide) (t := .long) (t' := (.array .int)) (by decide) (by decide)))
  have YE := (VE.ext E8).wr W10
  have YC := (VC.ext E8).other W10 hau
  have YT := F8.other W10 (Ne.symm ha1)
  have YX := EX8.wr W10
  have N10 := Fr.snoc X10 N6 g1
  have p_11 : ∀ tg_, Steps p.tables e below (T10.setTop (mkF m 25 #[.val (.ref a1), .val (.ref u2), .val (.int p3)] [(.ref a1), (.ref u2), (.ref a1)])) tg_ → Steps p.tables e below (s₁.setTop (entryFrame m #[(.ref a1), (.ref u2), (.int p3)] 3)) tg_ := by
    intro tg_ kk_
    refine p_9 tg_ ?_
    refine st10 _ ?_
    show Steps p.tables e below (T10.setTop (mkF m 22 #[.val (.ref a1), .val (.ref u2), .val (.int p3)] [])) _
    refine XS.aloadN X10.here hx rfl (hb hby din_22) rfl rfl ?_
    show Steps p.tables e below (T10.setTop (mkF m 23 #[.val (.ref a1), .val (.ref u2), .val (.int p3)] [(.ref a1)])) _
    refine XS.aloadN X10.here hx rfl (hb hby din_23) rfl rfl ?_
    show Steps p.tables e below (T10.setTop (mkF m 24 #[.val (.ref a1), .val (.ref u2), .val (.int p3)] [(.ref u2), (.ref a1)])) _
    refine XS.aloadN X10.here hx rfl (hb hby din_24) rfl rfl ?_
    exact kk_
  obtain ⟨T12, X12, e12, st12⟩ := getF X10 hx hZ hown (host := "") (Or.inl (hw _ (List.mem_of_getElem? (i := 33) rfl))) Via.refl e10 Y3 (g := (mkF m 25 #[.val (.ref a1), .val (.ref u2), .val (.int p3)] [(.ref a1), (.ref u2), (.ref a1)])) rfl rfl (hb hby din_25)
  have p_13 : ∀ tg_, Steps p.tables e below (T12.setTop (mkF m 28 #[.val (.ref a1), .val (.ref u2), .val (.int p3)] [(.ref b8), (.ref u2), (.ref a1)])) tg_ → Steps p.tables e below (s₁.setTop (entryFrame m #[(.ref a1), (.ref u2), (.int p3)] 3)) tg_ := by
    intro tg_ kk_
    refine p_11 tg_ ?_
    refine st12 _ ?_
    exact kk_
  have Zc : n0 ≤ h10.size := by rw [W10.size]; exact Nat.le_trans gt (Nat.le_of_lt F8.lt)
  obtain ⟨_, _, ⟨T14, L14, k14, n14⟩, -, X14, ⟨Lc14, hQ14, l14, y14, z14⟩, st14⟩ := Jvm.LawKit.callS X12 hx (y := (⟨"prefixshift/Pattern", "buildPrefixTable", "([C[I)J"⟩ : MethodName)) hown (mvT hZ (hw _ (List.mem_of_getElem? (i := 35) rfl))) (mvT hZ (hw _ (List.mem_of_getElem? (i := 36) rfl))) (mvT hZ (hw _ (List.mem_of_getElem? (i := 4) rfl))) (mvT hZ (hw _ (List.mem_of_getElem? (i := 37) rfl))) (by decide) (backOf (W := 1) (rm_bp l Z a0 hw [] u2 b8 n c' h10 n0 Zc hn hu2 gt YC YT) hZ (hw _ (List.mem_of_getElem? (i := 37) rfl)) (hw _ (List.mem_of_getElem? (i := 4) rfl)) (by decide) (by decide)) (g := (mkF m 28 #[.val (.ref a1), .val (.ref u2), .val (.int p3)] [(.ref b8), (.ref u2), (.ref a1)])) rfl (by rw [hml]; rfl) (argsL := [(.ref u2), (.ref b8)]) (rest := [(.ref a1)]) (lenOf pd_in_0 rfl) rfl (by show 2 * 0 + _ ≤ _; exact Nat.le_of_eq rfl) (hb hby din_28) (fun _ _ => ⟨rfl, e12, (by decide : 1 + 0 ≤ _), (by decide : 4 + 0 ≤ _)⟩)
  dsimp only [Pt.U, Pt.locs, Pt.cells, Pt.slots] at X14 l14 y14 z14 st14 hQ14
  subst l14 y14 z14
  obtain ⟨rfl, N14q, K14, QC, QT⟩ := hQ14
  have N14 := Fr.app N10 N14q
  have nin : a1 ∉ [b8] := ninS ha1 nin0
  have Q1 := Y1.keep K14 nin
  have Q3 := Y3.keep K14 nin
  have Q4 := Y4.keep K14 nin
  have QE := YE.keep K14
  have QX := YX.keep K14
  have p_15 : ∀ tg_, Steps p.tables e below (T14.setTop (mkF m 31 #[.val (.ref a1), .val (.ref u2), .val (.int p3)] [(.long (own_l (own_kmp c' n (2 * n) 1 0 0 (fun _ => 0)).1)), (.ref a1)])) tg_ → Steps p.tables e below (s₁.setTop (entryFrame m #[(.ref a1), (.ref u2), (.int p3)] 3)) tg_ := by
    intro tg_ kk_
    refine p_13 tg_ ?_
    refine st14 _ ?_
    exact kk_
  obtain ⟨T16, h16, X16, e16, W16, st16⟩ := putF X14 hx hZ hown (host := "") (Or.inl (hw _ (List.mem_of_getElem? (i := 38) rfl))) Via.refl rfl Q4 QE (Or.inr ⟨(hw _ (List.mem_of_getElem? (i := 39) rfl)), rfl, hnm⟩) (hw _ (List.mem_of_getElem? (i := 21) rfl)) (ty := .long) (by decide) rfl rfl (g := (mkF m 31 #[.val (.ref a1), .val (.ref u2), .val (.int p3)] [(.long (own_l (own_kmp c' n (2 * n) 1 0 0 (fun _ => 0)).1)), (.ref a1)])) rfl rfl (hb hby din_31)
  have R4 := Q4.same W16
  have R1 := Q1.other W16 (Or.inr (slot_ne (Or.inr (hw _ (List.mem_of_getElem? (i := 29) rfl))) (Or.inr (hw _ (List.mem_of_getElem? (i := 39) rfl))) (by decide) (t := (.array .char)) (t' := .long) (by decide) (by decide)))
  have R3 := Q3.other W16 (Or.inr (slot_ne (Or.inr (hw _ (List.mem_of_getElem? (i := 34) rfl))) (Or.inr (hw _ (List.mem_of_getElem? (i := 39) rfl))) (by decide) (t := (.array .int)) (t' := .long) (by decide) (by decide)))
  have RE := QE.wr W16
  have RC := QC.other W16 hau
  have RT := QT.other W16 (Ne.symm ha1)
  have RX := QX.wr W16
  have N16 := Fr.snoc X16 N14 g1
  have szf : h0.size ≤ h16.size := by rw [W16.size]; exact Nat.le_trans (by rw [W10.size]; exact Nat.le_trans sz1 (Nat.le_of_lt F8.lt)) K14.1
  have p_17 : ∀ tg_, Steps p.tables e below (T16.setTop (mkF m 34 #[.val (.ref a1), .val (.ref u2), .val (.int p3)] [])) tg_ → Steps p.tables e below (s₁.setTop (entryFrame m #[(.ref a1), (.ref u2), (.int p3)] 3)) tg_ := by
    intro tg_ kk_
    refine p_15 tg_ ?_
    refine st16 _ ?_
    exact kk_
  obtain ⟨fs, hr, hrun, hended, hW, hsame⟩ := X16.leave (v := none) (fun _ => rfl)
  refine ⟨_, _, p_17 _ ?_, hrun, hended, _, _, rfl, ?_, ⟨_, rfl⟩, hW, hsame.mono (by decide) (by decide)⟩
  · show Steps p.tables e below (T16.setTop (mkF m 34 #[.val (.ref a1), .val (.ref u2), .val (.int p3)] [])) _
    exact X16.returnOut hx Bd.returns (hb hby din_34) hr
  · show Q_in Z a1 u2 p3 n c' h0 n0 _ T16.heap _
    rw [e16]
    exact ⟨rfl, N16, szf, b8, RE, R1, R3, R4, RC, RT, RX⟩
theorem dof_15 : decode prog_9_method_2_code 15 = .ok (.iload_n 2, 1) := by decide +kernel
theorem dof_16 : decode prog_9_method_2_code 16 = .ok (.aload_n 1, 1) := by decide +kernel
theorem dof_17 : decode prog_9_method_2_code 17 = .ok (.arraylength, 1) := by decide +kernel
theorem dof_18 : decode prog_9_method_2_code 18 = .ok (.if_icmp .ge 18, 3) := by decide +kernel
theorem dof_21 : decode prog_9_method_2_code 21 = .ok (.aload_n 1, 1) := by decide +kernel
theorem dof_22 : decode prog_9_method_2_code 22 = .ok (.iload_n 2, 1) := by decide +kernel
theorem dof_23 : decode prog_9_method_2_code 23 = .ok (.aload_n 0, 1) := by decide +kernel
theorem dof_24 : decode prog_9_method_2_code 24 = .ok (.iload_n 2, 1) := by decide +kernel
theorem dof_25 : decode prog_9_method_2_code 25 = .ok (.baload, 1) := by decide +kernel
theorem dof_26 : decode prog_9_method_2_code 26 = .ok (.invokestatic 39, 3) := by decide +kernel
theorem dof_29 : decode prog_9_method_2_code 29 = .ok (.castore, 1) := by decide +kernel
theorem dof_30 : decode prog_9_method_2_code 30 = .ok (.iinc 2 1, 3) := by decide +kernel
theorem dof_33 : decode prog_9_method_2_code 33 = .ok (.goto (-18), 3) := by decide +kernel
theorem pd_of_0 : parseMethodDescriptor "(B)C" = some ⟨[.byte], some .char⟩ := by decide +kernel
set_option maxRecDepth 65536 in
set_option maxHeartbeats 40000000 in
theorem of_tn {p : Program} {l : Launch} {e : Env} {s : State} {m : MethodId} {args : Array Value} {below : List Frame} {meth : Method} {c : Code} {Z : State} {a0 : Array Value} (hx : p.tables.exec = Jvm.exec) (hZ : Z.Warmed39 s.vm) (hw : ∀ d ∈ tables_1, d.before a0 Z = true) (hby : c.code = prog_9_method_2_code) (hml : c.maxLocals = 3) (hown : s.vm.findClass "prefixshift/Pattern" = some m.cls) {a0' b1 : Addr} {n n0 : Nat} {f g' : Nat → Int32} {i : Int32} {T0 : State} {locs : List Loc} {h0 : Heap} (X0 : Stand p l e ({ frames := 2, cells := 5, slots := 44, locals := 33 } : Room) s m args below meth c T0 locs 3 36) (e0 : T0.heap = h0) (Z0 : n0 ≤ h0.size) (FA : OAf Z h0 a0' .byte n f) (FB : OAf Z h0 b1 .char n g') (N0 : Fr n0 locs) (gb : n0 ≤ b1) (hi0 : ¬ (i < (0 : Int32))) (hi1 : i.toNatClampNeg < n) (hlt : i < n.toInt32) :
    ∃ (T' : State) (h' : Heap) (L' : List Loc), Stand p l e ({ frames := 2, cells := 5, slots := 44, locals := 33 } : Room) s m args below meth c T' L' 3 36 ∧ T'.heap = h' ∧ Wr h0 h' b1 i.toNatClampNeg (.int ((f i.toNatClampNeg &&& (255 : Int32)).toUInt32.toUInt16.toUInt32.toInt32)) ∧ OAf Z h' b1 .char n (fun x => if x = i.toNatClampNeg then ((f i.toNatClampNeg &&& (255 : Int32)).toUInt32.toUInt16.toUInt32.toInt32) else g' x) ∧ Fr n0 L' ∧ ∀ u, Steps p.tables e below (T'.setTop (mkF m 15 #[.val (.ref a0'), .val (.ref b1), .val (.int (i + (1 : Int32)))] [])) u → Steps p.tables e below (T0.setTop (mkF m 15 #[.val (.ref a0'), .val (.ref b1), .val (.int i)] [])) u := by
  have pre0 : ∀ tg_, Steps p.tables e below (T0.setTop (mkF m 15 #[.val (.ref a0'), .val (.ref b1), .val (.int i)] [])) tg_ → Steps p.tables e below (T0.setTop (mkF m 15 #[.val (.ref a0'), .val (.ref b1), .val (.int i)] [])) tg_ := fun _ kk_ => kk_
  have p_1 : ∀ tg_, Steps p.tables e below (T0.setTop (mkF m 26 #[.val (.ref a0'), .val (.ref b1), .val (.int i)] [(.int (f i.toNatClampNeg)), (.int i), (.ref b1)])) tg_ → Steps p.tables e below (T0.setTop (mkF m 15 #[.val (.ref a0'), .val (.ref b1), .val (.int i)] [])) tg_ := by
    intro tg_ kk_
    refine pre0 tg_ ?_
    show Steps p.tables e below (T0.setTop (mkF m 15 #[.val (.ref a0'), .val (.ref b1), .val (.int i)] [])) _
    refine XS.iloadN X0.here hx rfl (hb hby dof_15) rfl ?_
    show Steps p.tables e below (T0.setTop (mkF m 16 #[.val (.ref a0'), .val (.ref b1), .val (.int i)] [(.int i)])) _
    refine XS.aloadN X0.here hx rfl (hb hby dof_16) rfl rfl ?_
    show Steps p.tables e below (T0.setTop (mkF m 17 #[.val (.ref a0'), .val (.ref b1), .val (.int i)] [(.ref b1), (.int i)])) _
    refine own_len X0 hx hZ e0 FB (z := n.toInt32) rfl (g := (mkF m 17 #[.val (.ref a0'), .val (.ref b1), .val (.int i)] [(.ref b1), (.int i)])) rfl rfl (hb hby dof_17) _ ?_
    show Steps p.tables e below (T0.setTop (mkF m 18 #[.val (.ref a0'), .val (.ref b1), .val (.int i)] [(.int n.toInt32), (.int i)])) _
    refine XS.icmpNo X0.here hx rfl (hb hby dof_18) rfl (tlt (show i < n.toInt32 from hlt)).2.1 ?_
    show Steps p.tables e below (T0.setTop (mkF m 21 #[.val (.ref a0'), .val (.ref b1), .val (.int i)] [])) _
    refine XS.aloadN X0.here hx rfl (hb hby dof_21) rfl rfl ?_
    show Steps p.tables e below (T0.setTop (mkF m 22 #[.val (.ref a0'), .val (.ref b1), .val (.int i)] [(.ref b1)])) _
    refine XS.iloadN X0.here hx rfl (hb hby dof_22) rfl ?_
    show Steps p.tables e below (T0.setTop (mkF m 23 #[.val (.ref a0'), .val (.ref b1), .val (.int i)] [(.int i), (.ref b1)])) _
    refine XS.aloadN X0.here hx rfl (hb hby dof_23) rfl rfl ?_
    show Steps p.tables e below (T0.setTop (mkF m 24 #[.val (.ref a0'), .val (.ref b1), .val (.int i)] [(.ref a0'), (.int i), (.ref b1)])) _
    refine XS.iloadN X0.here hx rfl (hb hby dof_24) rfl ?_
    show Steps p.tables e below (T0.setTop (mkF m 25 #[.val (.ref a0'), .val (.ref b1), .val (.int i)] [(.int i), (.ref a0'), (.int i), (.ref b1)])) _
    refine own_baload X0 hx hZ e0 FA (j := i) hi0 hi1 (g := (mkF m 25 #[.val (.ref a0'), .val (.ref b1), .val (.int i)] [(.int i), (.ref a0'), (.int i), (.ref b1)])) rfl rfl (hb hby dof_25) _ ?_
    exact kk_
  obtain ⟨_, _, ⟨T2, L2, k2, n2⟩, -, X2, ⟨Lc2, hQ2, l2, y2, z2⟩, st2⟩ := Jvm.LawKit.callS X0 hx (y := (⟨"prefixshift/Units$Bytes", "unit", "(B)C"⟩ : MethodName)) hown (mvT hZ (hw _ (List.mem_of_getElem? (i := 64) rfl))) (mvT hZ (hw _ (List.mem_of_getElem? (i := 65) rfl))) (mvT hZ (hw _ (List.mem_of_getElem? (i := 66) rfl))) (mvT hZ (hw _ (List.mem_of_getElem? (i := 67) rfl))) (by decide) (backOf (W := 2) (rm_un l Z a0 hw [] (f i.toNatClampNeg) h0 n0 Z0) hZ (hw _ (List.mem_of_getElem? (i := 67) rfl)) (hw _ (List.mem_of_getElem? (i := 66) rfl)) (by decide) (by decide)) (g := (mkF m 26 #[.val (.ref a0'), .val (.ref b1), .val (.int i)] [(.int (f i.toNatClampNeg)), (.int i), (.ref b1)])) rfl (by rw [hml]; rfl) (argsL := [(.int (f i.toNatClampNeg))]) (rest := [(.int i), (.ref b1)]) (lenOf pd_of_0 rfl) rfl (by show 2 * 0 + _ ≤ _; exact Nat.le_of_eq rfl) (hb hby dof_26) (fun _ _ => ⟨rfl, e0, (by decide : 3 + 0 ≤ _), (by decide : 36 + 0 ≤ _)⟩)
  dsimp only [Pt.U, Pt.locs, Pt.cells, Pt.slots] at X2 l2 y2 z2 st2 hQ2
  subst l2 y2 z2
  obtain ⟨rfl, N2q, hh2⟩ := hQ2
  have N2 := Fr.app N0 N2q
  have eH : T2.heap = h0 := hh2
  have p_3 : ∀ tg_, Steps p.tables e below (T2.setTop (mkF m 29 #[.val (.ref a0'), .val (.ref b1), .val (.int i)] [(.int ((f i.toNatClampNeg) &&& (255 : Int32))), (.int i), (.ref b1)])) tg_ → Steps p.tables e below (T0.setTop (mkF m 15 #[.val (.ref a0'), .val (.ref b1), .val (.int i)] [])) tg_ := by
    intro tg_ kk_
    refine p_1 tg_ ?_
    refine st2 _ ?_
    exact kk_
  obtain ⟨T4, h4, X4, e4, W4, F4, st4⟩ := own_castore X2 hx hZ eH FB (j := i) hi0 hi1 (g := (mkF m 29 #[.val (.ref a0'), .val (.ref b1), .val (.int i)] [(.int ((f i.toNatClampNeg) &&& (255 : Int32))), (.int i), (.ref b1)])) rfl rfl (hb hby dof_29)
  have N4 := Fr.snoc X4 N2 gb
  have p_5 : ∀ tg_, Steps p.tables e below (T4.setTop (mkF m 15 #[.val (.ref a0'), .val (.ref b1), .val (.int (i + (1 : Int32)))] [])) tg_ → Steps p.tables e below (T0.setTop (mkF m 15 #[.val (.ref a0'), .val (.ref b1), .val (.int i)] [])) tg_ := by
    intro tg_ kk_
    refine p_3 tg_ ?_
    refine st4 _ ?_
    show Steps p.tables e below (T4.setTop (mkF m 30 #[.val (.ref a0'), .val (.ref b1), .val (.int i)] [])) _
    refine XS.iinc X4.here hx rfl (hb hby dof_30) rfl (l' := #[.val (.ref a0'), .val (.ref b1), .val (.int (i + (1 : Int32)))]) rfl ?_
    show Steps p.tables e below (T4.setTop (mkF m 33 #[.val (.ref a0'), .val (.ref b1), .val (.int (i + (1 : Int32)))] [])) _
    refine XS.goto X4.here hx rfl (pc0 := 33) (pc' := 15) rfl (hb hby dof_33) (by decide) (by decide) ?_
    exact kk_
  exact ⟨_, _, _, X4, e4, W4, F4, N4, p_5⟩
set_option maxRecDepth 65536 in
set_option maxHeartbeats 40000000 in
theorem of_lv {p : Program} {l : Launch} {e : Env} {s : State} {m : MethodId} {args : Array Value} {below : List Frame} {meth : Method} {c : Code} {Z : State} {a0 : Array Value} (hx : p.tables.exec = Jvm.exec) (hZ : Z.Warmed39 s.vm) (hw : ∀ d ∈ tables_1, d.before a0 Z = true) (hby : c.code = prog_9_method_2_code) (hml : c.maxLocals = 3) (hown : s.vm.findClass "prefixshift/Pattern" = some m.cls) {a0' b1 : Addr} {n : Nat} {g' : Nat → Int32} {i : Int32} {T0 : State} {locs : List Loc} {h0 : Heap} (X0 : Stand p l e ({ frames := 2, cells := 5, slots := 44, locals := 33 } : Room) s m args below meth c T0 locs 3 36) (e0 : T0.heap = h0) (FB : OAf Z h0 b1 .char n g') (hge : ¬ (i < n.toInt32)) :
    ∀ u, Steps p.tables e below (T0.setTop (mkF m 36 #[.val (.ref a0'), .val (.ref b1), .val (.int i)] [])) u → Steps p.tables e below (T0.setTop (mkF m 15 #[.val (.ref a0'), .val (.ref b1), .val (.int i)] [])) u := by
  have pre0 : ∀ tg_, Steps p.tables e below (T0.setTop (mkF m 15 #[.val (.ref a0'), .val (.ref b1), .val (.int i)] [])) tg_ → Steps p.tables e below (T0.setTop (mkF m 15 #[.val (.ref a0'), .val (.ref b1), .val (.int i)] [])) tg_ := fun _ kk_ => kk_
  have p_6 : ∀ tg_, Steps p.tables e below (T0.setTop (mkF m 36 #[.val (.ref a0'), .val (.ref b1), .val (.int i)] [])) tg_ → Steps p.tables e below (T0.setTop (mkF m 15 #[.val (.ref a0'), .val (.ref b1), .val (.int i)] [])) tg_ := by
    intro tg_ kk_
    refine pre0 tg_ ?_
    show Steps p.tables e below (T0.setTop (mkF m 15 #[.val (.ref a0'), .val (.ref b1), .val (.int i)] [])) _
    refine XS.iloadN X0.here hx rfl (hb hby dof_15) rfl ?_
    show Steps p.tables e below (T0.setTop (mkF m 16 #[.val (.ref a0'), .val (.ref b1), .val (.int i)] [(.int i)])) _
    refine XS.aloadN X0.here hx rfl (hb hby dof_16) rfl rfl ?_
    show Steps p.tables e below (T0.setTop (mkF m 17 #[.val (.ref a0'), .val (.ref b1), .val (.int i)] [(.ref b1), (.int i)])) _
    refine own_len X0 hx hZ e0 FB (z := n.toInt32) rfl (g := (mkF m 17 #[.val (.ref a0'), .val (.ref b1), .val (.int i)] [(.ref b1), (.int i)])) rfl rfl (hb hby dof_17) _ ?_
    show Steps p.tables e below (T0.setTop (mkF m 18 #[.val (.ref a0'), .val (.ref b1), .val (.int i)] [(.int n.toInt32), (.int i)])) _
    refine XS.icmpYes X0.here hx rfl (pc0 := 18) (pc' := 36) rfl (hb hby dof_18) rfl (flt (show ¬ (i < n.toInt32) from hge)).2.1 (by decide) (by decide) ?_
    exact kk_
  exact p_6
set_option maxRecDepth 65536 in
set_option maxHeartbeats 40000000 in
theorem of_lp {p : Program} {l : Launch} {e : Env} {s : State} {m : MethodId} {args : Array Value} {below : List Frame} {meth : Method} {c : Code} {Z : State} {a0 : Array Value} (hx : p.tables.exec = Jvm.exec) (hZ : Z.Warmed39 s.vm) (hw : ∀ d ∈ tables_1, d.before a0 Z = true) (hby : c.code = prog_9_method_2_code) (hml : c.maxLocals = 3) (hown : s.vm.findClass "prefixshift/Pattern" = some m.cls) {a0' b1 : Addr} {n n0 : Nat} {f : Nat → Int32} (hne : a0' ≠ b1) (gb : n0 ≤ b1) (hn : n ≤ 4) : ∀ (k i : Nat) {g' : Nat → Int32} {T0 : State} {locs : List Loc} {h0 : Heap} (X0 : Stand p l e ({ frames := 2, cells := 5, slots := 44, locals := 33 } : Room) s m args below meth c T0 locs 3 36) (e0 : T0.heap = h0) (Z0 : n0 ≤ h0.size) (FA : OAf Z h0 a0' .byte n f) (FB : OAf Z h0 b1 .char n g') (N0 : Fr n0 locs) (hik : i + k = n) (hg : ∀ x, x < i → g' x = (f x &&& (255 : Int32))),
    ∃ (T' : State) (h' : Heap) (L' : List Loc) (zi : Int32), Stand p l e ({ frames := 2, cells := 5, slots := 44, locals := 33 } : Room) s m args below meth c T' L' 3 36 ∧ T'.heap = h' ∧ Keep h0 h' [b1] ∧ OAf Z h' b1 .char n (fun x => f x &&& (255 : Int32)) ∧ Fr n0 L' ∧ ∀ u, Steps p.tables e below (T'.setTop (mkF m 36 #[.val (.ref a0'), .val (.ref b1), .val (.int zi)] [])) u → Steps p.tables e below (T0.setTop (mkF m 15 #[.val (.ref a0'), .val (.ref b1), .val (.int (own_i i))] [])) u := by
  intro k
  induction k with
  | zero =>
    intro i g' T0 locs h0 X0 e0 Z0 FA FB N0 hik hg
    exact ⟨T0, h0, locs, _, X0, e0, Keep.refl _ _, FB.congr fun x hx => hg x (by omega), N0, of_lv hx hZ hw hby hml hown X0 e0 FB (fun q => by rw [show n.toInt32 = own_i n from rfl, own_i_lt (by omega) (by omega)] at q; omega)⟩
  | succ k ih =>
    intro i g' T0 locs h0 X0 e0 Z0 FA FB N0 hik hg
    have ei := own_i_nat (k := i) (by omega)
    obtain ⟨T1, h1, L1, X1, e1, W1, F1, N1, st⟩ := of_tn hx hZ hw hby hml hown X0 e0 Z0 FA FB N0 gb (own_i_nn (k := i) (by omega)) (by rw [ei]; omega) ((own_i_lt (by omega) (by omega)).mpr (by omega))
    rw [own_i_succ] at st
    have F2 : OAf Z h1 b1 .char n (fun x => if x = i then (f i &&& (255 : Int32)) else g' x) := F1.congr fun x hx => by
      show (if x = (own_i i).toNatClampNeg then _ else g' x) = _
      rw [ei]
      by_cases u : x = i
      · rw [if_pos u, if_pos u]; exact (own_nc (f i)).symm
      · rw [if_neg u, if_neg u]
    obtain ⟨T2, h2, L2, zi, r1, r2, r3, r4, r5, r6⟩ := ih (i + 1) X1 e1 (by rw [W1.size]; exact Z0) (FA.other W1 hne) F2 N1 (by omega) (fun x hx => by
      show (if x = i then (f i &&& (255 : Int32)) else g' x) = _
      by_cases u : x = i
      · rw [if_pos u, u]
      · rw [if_neg u]; exact hg x (by omega))
    exact ⟨T2, h2, L2, zi, r1, r2, (Keep.of_wr W1).trans r3 (fun x hx => Or.inl hx), r4, r5, fun u k => st u (r6 u k)⟩
theorem dpof_0 : decode prog_9_method_2_code 0 = .ok (.aload_n 0, 1) := by decide +kernel
theorem dpof_1 : decode prog_9_method_2_code 1 = .ok (.ldc 29, 2) := by decide +kernel
theorem dpof_3 : decode prog_9_method_2_code 3 = .ok (.invokestatic 31, 3) := by decide +kernel
theorem dpof_6 : decode prog_9_method_2_code 6 = .ok (.checkcast 37, 3) := by decide +kernel
theorem dpof_9 : decode prog_9_method_2_code 9 = .ok (.arraylength, 1) := by decide +kernel
theorem dpof_10 : decode prog_9_method_2_code 10 = .ok (.newarray .char, 2) := by decide +kernel
theorem dpof_12 : decode prog_9_method_2_code 12 = .ok (.astore_n 1, 1) := by decide +kernel
theorem dpof_13 : decode prog_9_method_2_code 13 = .ok (.iconst 0, 1) := by decide +kernel
theorem dpof_14 : decode prog_9_method_2_code 14 = .ok (.istore_n 2, 1) := by decide +kernel
theorem dpof_36 : decode prog_9_method_2_code 36 = .ok (.new 8, 3) := by decide +kernel
theorem dpof_39 : decode prog_9_method_2_code 39 = .ok (.dup, 1) := by decide +kernel
theorem dpof_40 : decode prog_9_method_2_code 40 = .ok (.aload_n 1, 1) := by decide +kernel
theorem dpof_41 : decode prog_9_method_2_code 41 = .ok (.iconst 0, 1) := by decide +kernel
theorem dpof_42 : decode prog_9_method_2_code 42 = .ok (.invokespecial 45, 3) := by decide +kernel
theorem dpof_45 : decode prog_9_method_2_code 45 = .ok (.areturn, 1) := by decide +kernel
theorem pd_pof_0 : parseMethodDescriptor "(Ljava/lang/Object;Ljava/lang/String;)Ljava/lang/Object;" = some ⟨[(.object "java/lang/Object"), (.object "java/lang/String")], some (.object "java/lang/Object")⟩ := by decide +kernel
theorem pd_pof_1 : parseMethodDescriptor "([CZ)V" = some ⟨[(.array .char), .boolean], none⟩ := by decide +kernel
theorem pn_pof : plainName "prefixshift/Pattern" = true := by first | (simp [plainName, overriddenIn]; done) | decide +kernel
theorem ef_pof (m : MethodId) (x0 : Addr) : entryFrame m #[(.ref x0)] 3 = mkF m 0 #[.val (.ref x0), .unset, .unset] [] := by first | (simp [entryFrame, mkF, argsToLocals, Value.category]; done) | rfl
def Q_pof (Z : State) (a1 : Addr) (n : Nat) (f : Nat → Int32) (h0 : Heap) (n0 : Nat) (v : Option Value) (h : Heap) (L : List Loc) : Prop := (∃ pa tb u2 : Addr, v = some (.ref pa) ∧ Fr n0 L ∧ h0.size ≤ h.size ∧ Exa Z h pa "prefixshift/Pattern" ∧ Fld Z h pa "prefixshift/Pattern" "units" "[C" (.ref u2) ∧ Fld Z h pa "prefixshift/Pattern" "prefixTable" "[I" (.ref tb) ∧ Fld Z h pa "prefixshift/Pattern" "tableComparisons" "J" (.long (own_l (own_kmp (fun x => f x &&& (255 : Int32)) n (2 * n) 1 0 0 (fun _ => 0)).1)) ∧ OAf Z h u2 .char n (fun x => f x &&& (255 : Int32)) ∧ OAf Z h tb .int n (fun x => own_i ((own_kmp (fun x => f x &&& (255 : Int32)) n (2 * n) 1 0 0 (fun _ => 0)).2 x)) ∧ Exa Z h tb "[I")
set_option maxRecDepth 65536 in
set_option maxHeartbeats 40000000 in
theorem rm_pof (l : Launch) (Z : State) (a0 : Array Value) (hw : ∀ d ∈ tables_1, d.before a0 Z = true) (ws : List Jvm.Cond) (a1 : Addr) (n : Nat) (f : Nat → Int32) (h0 : Heap) (n0 : Nat) (Z0 : n0 ≤ h0.size) (hn : n ≤ 4) (FA : OAf Z h0 a1 .byte n f) (EA : Exa Z h0 a1 "[B") :
    MetFree l (⟨"prefixshift/Pattern", "of", "([B)Lprefixshift/Pattern;"⟩ : MethodName) (head1 (Jvm.Cond.code (⟨"prefixshift/Pattern", "of", "([B)Lprefixshift/Pattern;"⟩ : MethodName) prog_9_method_2_code 3 (some (.object "prefixshift/Pattern")) :: ws) ({ frames := 2, cells := 5, slots := 44, locals := 33 } : Room)) (fun a U => a = #[(.ref a1)] ∧ Z.Warmed39 U.vm ∧ U.heap = h0) (fun _ _ _ _ _ => True) (fun _ U o U' => ∃ v L, o = .returned v ∧ Q_pof Z a1 n f h0 n0 v U'.heap L ∧ ReturnedEndW U o U' L ({ frames := 2, cells := 5, slots := 44, locals := 33 } : Room).cells ({ frames := 2, cells := 5, slots := 44, locals := 33 } : Room).slots) := by
  refine MetFree.of_bodySF (plainFor_of_name pn_pof) hisR ?_
  intro p e s m args below meth c s₁ Bd hml0 hP hK
  obtain ⟨rfl, hZ, hh⟩ := hP
  have hx := Bd.exec
  have hby := Bd.bytes
  have hml : c.maxLocals = 3 := hml0
  have hown : s.vm.findClass "prefixshift/Pattern" = some m.cls := findClass_of_methodNamed Bd.named
  have hnm := (name_of_methodNamed Bd.named Bd.method).1
  have X0 : Stand p l e ({ frames := 2, cells := 5, slots := 44, locals := 33 } : Room) s m #[(.ref a1)] below meth c s₁ [] 0 0 := Stand.of_body Bd
  have e0 : s₁.heap = h0 := by rw [← hh, Bd.state]; rfl
  have N0 := Fr.nil n0
  have pre0 : ∀ tg_, Steps p.tables e below (s₁.setTop (mkF m 0 #[.val (.ref a1), .unset, .unset] [])) tg_ → Steps p.tables e below (s₁.setTop (entryFrame m #[(.ref a1)] 3)) tg_ := fun tg_ k => castTop (ef_pof m a1) k
  have wS : ∀ d ∈ Bundle.stringAtoms, d.before a0 Z = true := fun d hd => by
    simp only [Bundle.stringAtoms, List.mem_cons, List.not_mem_nil, or_false] at hd
    rcases hd with rfl | rfl | rfl | rfl | rfl | rfl | rfl
    · exact hw _ (List.mem_of_getElem? (i := 7) rfl)
    · exact hw _ (List.mem_of_getElem? (i := 8) rfl)
    · exact hw _ (List.mem_of_getElem? (i := 1) rfl)
    · exact hw _ (List.mem_of_getElem? (i := 9) rfl)
    · exact hw _ (List.mem_of_getElem? (i := 10) rfl)
    · exact hw _ (List.mem_of_getElem? (i := 11) rfl)
    · exact hw _ (List.mem_of_getElem? (i := 12) rfl)
  have X1 : Stand p l e ({ frames := 2, cells := 5, slots := 44, locals := 33 } : Room) (s.setVm s.vm) m #[(.ref a1)] below meth c s₁ [] 0 0 := X0
  have p_1 : ∀ tg_, Steps p.tables e below (s₁.setTop (mkF m 1 #[.val (.ref a1), .unset, .unset] [(.ref a1)])) tg_ → Steps p.tables e below (s₁.setTop (entryFrame m #[(.ref a1)] 3)) tg_ := by
    intro tg_ kk_
    refine pre0 tg_ ?_
    show Steps p.tables e below (s₁.setTop (mkF m 0 #[.val (.ref a1), .unset, .unset] [])) _
    refine XS.aloadN X1.here hx rfl (hb hby dpof_0) rfl rfl ?_
    exact kk_
  obtain ⟨a2, T2, h2, k2, X2, e2, E2, S2, K2, hZ2, hown2, st2⟩ := ldcS (s := s) (vm0 := s.vm) (a0 := a0) X1 hx hZ hown (hw _ (List.mem_of_getElem? (i := 6) rfl)) wS e0 ((State.WarmedH.refl s).since 0) (Nat.zero_le _) (g := (mkF m 1 #[.val (.ref a1), .unset, .unset] [(.ref a1)])) rfl (hb hby dpof_1) (n := 28) (by decide) (by decide) (by decide) (by decide)
  have hZ := hZ2
  have hown := hown2
  have FA1 := FA.ext E2
  have EA1 := EA.ext E2
  have Zn : n0 ≤ h2.size := Nat.le_trans Z0 E2.1
  have p_3 : ∀ tg_, Steps p.tables e below (T2.setTop (mkF m 3 #[.val (.ref a1), .unset, .unset] [(.ref a2), (.ref a1)])) tg_ → Steps p.tables e below (s₁.setTop (entryFrame m #[(.ref a1)] 3)) tg_ := by
    intro tg_ kk_
    refine p_1 tg_ ?_
    refine st2 _ ?_
    exact kk_
  obtain ⟨_, _, ⟨T4, L4, k4, n4⟩, -, X4, ⟨Lc4, hQ4, l4, y4, z4⟩, st4⟩ := Jvm.LawKit.callS X2 hx (y := (⟨"java/util/Objects", "requireNonNull", "(Ljava/lang/Object;Ljava/lang/String;)Ljava/lang/Object;"⟩ : MethodName)) hown (mvT hZ (hw _ (List.mem_of_getElem? (i := 13) rfl))) (mvT hZ (hw _ (List.mem_of_getElem? (i := 14) rfl))) (mvT hZ (hw _ (List.mem_of_getElem? (i := 15) rfl))) (mvT hZ (hw _ (List.mem_of_getElem? (i := 16) rfl))) (by decide) (backOf (W := 0) (rm_rn l Z a0 hw [] a1 a2 h2 n0 Zn) hZ (hw _ (List.mem_of_getElem? (i := 16) rfl)) (hw _ (List.mem_of_getElem? (i := 15) rfl)) (by decide) (by decide)) (g := (mkF m 3 #[.val (.ref a1), .unset, .unset] [(.ref a2), (.ref a1)])) rfl (by rw [hml]; rfl) (argsL := [(.ref a1), (.ref a2)]) (rest := []) (lenOf pd_pof_0 rfl) rfl (by show 2 * 0 + _ ≤ _; exact Nat.le_of_eq rfl) (hb hby dpof_3) (fun _ _ => ⟨rfl, e2, (by decide : 2 + 0 ≤ _), (by decide : 32 + 0 ≤ _)⟩)
  dsimp only [Pt.U, Pt.locs, Pt.cells, Pt.slots] at X4 l4 y4 z4 st4 hQ4
  subst l4 y4 z4
  obtain ⟨rfl, N4q, hh4⟩ := hQ4
  have N4 := Fr.app N0 N4q
  have eH4 : T4.heap = h2 := hh4
  have p_5 : ∀ tg_, Steps p.tables e below (T4.setTop (mkF m 6 #[.val (.ref a1), .unset, .unset] [(.ref a1)])) tg_ → Steps p.tables e below (s₁.setTop (entryFrame m #[(.ref a1)] 3)) tg_ := by
    intro tg_ kk_
    refine p_3 tg_ ?_
    refine st4 _ ?_
    exact kk_
  obtain ⟨T6, X6, e6, st6⟩ := castY X4 hx hZ hown (hw _ (List.mem_of_getElem? (i := 17) rfl)) eH4 (Ins.self EA1) (g := (mkF m 6 #[.val (.ref a1), .unset, .unset] [(.ref a1)])) rfl rfl (hb hby dpof_6)
  have p_7 : ∀ tg_, Steps p.tables e below (T6.setTop (mkF m 10 #[.val (.ref a1), .unset, .unset] [(.int (own_i n))])) tg_ → Steps p.tables e below (s₁.setTop (entryFrame m #[(.ref a1)] 3)) tg_ := by
    intro tg_ kk_
    refine p_5 tg_ ?_
    refine st6 _ ?_
    show Steps p.tables e below (T6.setTop (mkF m 9 #[.val (.ref a1), .unset, .unset] [(.ref a1)])) _
    refine own_len X6 hx hZ e6 FA1 (z := (own_i n)) rfl (g := (mkF m 9 #[.val (.ref a1), .unset, .unset] [(.ref a1)])) rfl rfl (hb hby dpof_9) _ ?_
    exact kk_
  obtain ⟨T8, h8, k8, X8, e8, E8, A8, st8⟩ := newP X6 hx hZ (hw _ (List.mem_of_getElem? (i := 19) rfl)) e6 (g := (mkF m 10 #[.val (.ref a1), .unset, .unset] [(.int (own_i n))])) rfl (hb hby dpof_10) rfl (own_i_nn (by omega)) (cap := 4) (by rw [own_i_nat (by omega)]; exact hn) (by decide) (by decide) (by decide)
  obtain ⟨b8, g8⟩ : ∃ z, z = h2.size := ⟨_, rfl⟩
  rw [← g8] at A8 st8
  have F8 := OAf.new A8 rfl (n := n) (own_i_nat (by omega))
  have gb : n0 ≤ b8 := Nat.le_trans Zn (Nat.le_of_eq g8.symm)
  have hab : a1 ≠ b8 := Nat.ne_of_lt (Nat.lt_of_lt_of_le FA1.lt (Nat.le_of_eq g8.symm))
  have Zk : n0 ≤ h8.size := Nat.le_trans Zn E8.1
  have p_9 : ∀ tg_, Steps p.tables e below (T8.setTop (mkF m 15 #[.val (.ref a1), .val (.ref b8), .val (.int (0 : Int32))] [])) tg_ → Steps p.tables e below (s₁.setTop (entryFrame m #[(.ref a1)] 3)) tg_ := by
    intro tg_ kk_
    refine p_7 tg_ ?_
    refine st8 _ ?_
    show Steps p.tables e below (T8.setTop (mkF m 12 #[.val (.ref a1), .unset, .unset] [(.ref b8)])) _
    refine XS.astoreN X8.here hx rfl (hb hby dpof_12) rfl rfl (l' := #[.val (.ref a1), .val (.ref b8), .unset]) rfl ?_
    show Steps p.tables e below (T8.setTop (mkF m 13 #[.val (.ref a1), .val (.ref b8), .unset] [])) _
    refine XS.iconst X8.here hx rfl (hb hby dpof_13) ?_
    show Steps p.tables e below (T8.setTop (mkF m 14 #[.val (.ref a1), .val (.ref b8), .unset] [(.int (0 : Int32))])) _
    refine XS.istoreN X8.here hx rfl (hb hby dpof_14) rfl (l' := #[.val (.ref a1), .val (.ref b8), .val (.int (0 : Int32))]) rfl ?_
    exact kk_
  obtain ⟨T3, h3, L3, zi, X3, e3, K3, F3, N3, st3⟩ := of_lp (a0 := a0) (p := p) (l := l) (e := e) (below := below) hx hZ hw hby hml hown hab gb hn n 0 X8 e8 Zk (FA1.ext E8) F8 N4 (by omega) (fun x hx => absurd hx (Nat.not_lt_zero _))
  have p3 : ∀ t, Steps p.tables e below (T3.setTop (mkF m 36 #[.val (.ref a1), .val (.ref b8), .val (.int zi)] [])) t → Steps p.tables e below (s₁.setTop (entryFrame m #[(.ref a1)] 3)) t := fun t k => p_9 t (st3 t k)
  obtain ⟨T10, h10, X10, e10, E10, A10, D10, -, st10⟩ := newO X3 hx hZ hown (hw _ (List.mem_of_getElem? (i := 20) rfl)) (hw _ (List.mem_of_getElem? (i := 21) rfl)) (hw _ (List.mem_of_getElem? (i := 4) rfl)) e3 (g := (mkF m 36 #[.val (.ref a1), .val (.ref b8), .val (.int zi)] [])) rfl (hb hby dpof_36) (by decide) (by decide)
  obtain ⟨b10, g10⟩ : ∃ z, z = h3.size := ⟨_, rfl⟩
  rw [← g10] at A10 D10 st10
  have G1 : Fld Z h10 b10 "prefixshift/Pattern" "units" "[C" .null := D10 (Or.inr (hw _ (List.mem_of_getElem? (i := 29) rfl))) (ty := (.array .char)) (by decide)
  have G2 : Fld Z h10 b10 "prefixshift/Pattern" "ofChars" "Z" (.int (0 : Int32)) := D10 (Or.inr (hw _ (List.mem_of_getElem? (i := 31) rfl))) (ty := .boolean) (by decide)
  have G3 : Fld Z h10 b10 "prefixshift/Pattern" "prefixTable" "[I" .null := D10 (Or.inr (hw _ (List.mem_of_getElem? (i := 34) rfl))) (ty := (.array .int)) (by decide)
  have G4 : Fld Z h10 b10 "prefixshift/Pattern" "tableComparisons" "J" (.long (0 : Int64)) := D10 (Or.inr (hw _ (List.mem_of_getElem? (i := 39) rfl))) (ty := .long) (by decide)
  have Z3 : n0 ≤ h3.size := Nat.le_trans Zk K3.1
  have gq : n0 ≤ b10 := Nat.le_trans Z3 (Nat.le_of_eq g10.symm)
  have hub : b8 ≠ b10 := Nat.ne_of_lt (Nat.lt_of_lt_of_le F3.lt (Nat.le_of_eq g10.symm))
  have Zq : n0 ≤ h10.size := Nat.le_trans Z3 E10.1
  have p_11 : ∀ tg_, Steps p.tables e below (T10.setTop (mkF m 42 #[.val (.ref a1), .val (.ref b8), .val (.int zi)] [(.int (0 : Int32)), (.ref b8), (.ref b10), (.ref b10)])) tg_ → Steps p.tables e below (s₁.setTop (entryFrame m #[(.ref a1)] 3)) tg_ := by
    intro tg_ kk_
    refine p3 tg_ ?_
    refine st10 _ ?_
    show Steps p.tables e below (T10.setTop (mkF m 39 #[.val (.ref a1), .val (.ref b8), .val (.int zi)] [(.ref b10)])) _
    refine XS.dup X10.here hx rfl (hb hby dpof_39) rfl rfl ?_
    show Steps p.tables e below (T10.setTop (mkF m 40 #[.val (.ref a1), .val (.ref b8), .val (.int zi)] [(.ref b10), (.ref b10)])) _
    refine XS.aloadN X10.here hx rfl (hb hby dpof_40) rfl rfl ?_
    show Steps p.tables e below (T10.setTop (mkF m 41 #[.val (.ref a1), .val (.ref b8), .val (.int zi)] [(.ref b8), (.ref b10), (.ref b10)])) _
    refine XS.iconst X10.here hx rfl (hb hby dpof_41) ?_
    exact kk_
  obtain ⟨_, _, ⟨T12, L12, k12, n12⟩, -, X12, ⟨Lc12, hQ12, l12, y12, z12⟩, st12⟩ := X10.specialBack hx (y := (⟨"prefixshift/Pattern", "<init>", "([CZ)V"⟩ : MethodName)) rfl hown (mvT hZ (hw _ (List.mem_of_getElem? (i := 22) rfl))) (mvT hZ (hw _ (List.mem_of_getElem? (i := 23) rfl))) (mvT hZ (hw _ (List.mem_of_getElem? (i := 24) rfl))) (by decide) (backOf (W := 1) (rm_in l Z a0 hw [] b10 b8 (0 : Int32) n (fun x => f x &&& (255 : Int32)) h10 n0 Zq hn A10 G1 G2 G3 G4 (F3.ext E10) hub gq) hZ (hw _ (List.mem_of_getElem? (i := 24) rfl)) (hw _ (List.mem_of_getElem? (i := 4) rfl)) (by decide) (by decide)) (g := (mkF m 42 #[.val (.ref a1), .val (.ref b8), .val (.int zi)] [(.int (0 : Int32)), (.ref b8), (.ref b10), (.ref b10)])) rfl (by rw [hml]; rfl) (Steps.refl _) (a := b10) (argsL := [(.ref b8), (.int (0 : Int32))]) (rest := [(.ref b10)]) (lenOf pd_pof_1 rfl) rfl (by show 2 * 0 + _ ≤ _; exact Nat.le_of_eq rfl) (hb hby dpof_42) (fun _ _ => ⟨rfl, e10, (by decide : 4 + 1 ≤ _), (by decide : 40 + 4 ≤ _)⟩)
  dsimp only [Pt.U, Pt.locs, Pt.cells, Pt.slots] at X12 l12 y12 z12 st12 hQ12
  subst l12 y12 z12
  obtain ⟨rfl, N12q, sz12, tb, I1, I2, I3, I4, I5, I6, I7⟩ := hQ12
  have N12 := Fr.app N3 N12q
  have p_13 : ∀ tg_, Steps p.tables e below (T12.setTop (mkF m 45 #[.val (.ref a1), .val (.ref b8), .val (.int zi)] [(.ref b10)])) tg_ → Steps p.tables e below (s₁.setTop (entryFrame m #[(.ref a1)] 3)) tg_ := by
    intro tg_ kk_
    refine p_11 tg_ ?_
    refine st12.trans ?_
    exact kk_
  have szz : h0.size ≤ T12.heap.size := Nat.le_trans (Nat.le_trans E2.1 (Nat.le_trans E8.1 K3.1)) (Nat.le_trans E10.1 sz12)
  obtain ⟨fs, hr, hrun, hended, hE1, hE2, hE3, hE4⟩ := X12.leaveW S2 (Nat.le_trans K2 (Nat.le_trans (Nat.le_trans E8.1 K3.1) (Nat.le_trans E10.1 sz12))) (v := some (.ref b10)) (fun h => by rw [Bd.returns] at h; cases h)
  refine ⟨_, _, p_13 _ ?_, hrun, hended, _, _, rfl, ?_, hE1, hE2, hE3, hE4.mono (by decide) (by decide)⟩
  · jvm_step X12.here [X12.here.top, hx, (hb hby dpof_45), X12.method', Bd.returns, Value.isRef, FieldType.isReference]
    first | (intro acts; rw [hr _ acts rfl rfl rfl]) | rw [hr _ _ rfl rfl rfl]
    exact Steps.refl _
  · exact ⟨b10, tb, b8, rfl, N12, szz, I1, I2, I3, I4, I5, I6, I7⟩
theorem dptb_0 : decode prog_9_method_6_code 0 = .ok (.aload_n 0, 1) := by decide +kernel
theorem dptb_1 : decode prog_9_method_6_code 1 = .ok (.getfield 17, 3) := by decide +kernel
theorem dptb_4 : decode prog_9_method_6_code 4 = .ok (.invokevirtual 60, 3) := by decide +kernel
theorem dptb_7 : decode prog_9_method_6_code 7 = .ok (.checkcast 61, 3) := by decide +kernel
theorem dptb_10 : decode prog_9_method_6_code 10 = .ok (.areturn, 1) := by decide +kernel
theorem pn_ptb : plainName "prefixshift/Pattern" = true := by first | (simp [plainName, overriddenIn]; done) | decide +kernel
theorem ef_ptb (m : MethodId) (x0 : Addr) : entryFrame m #[(.ref x0)] 1 = mkF m 0 #[.val (.ref x0)] [] := by first | (simp [entryFrame, mkF, argsToLocals, Value.category]; done) | rfl
def Q_ptb (Z : State) (a1 tb : Addr) (n : Nat) (t : Nat → Int32) (h0 : Heap) (n0 : Nat) (v : Option Value) (h : Heap) (L : List Loc) : Prop := (∃ cb : Addr, v = some (.ref cb) ∧ Fr n0 L ∧ n0 ≤ cb ∧ OAf Z h cb .int n t ∧ Ext h0 h)
set_option maxRecDepth 65536 in
set_option maxHeartbeats 40000000 in
theorem rm_ptb (l : Launch) (Z : State) (a0 : Array Value) (hw : ∀ d ∈ tables_1, d.before a0 Z = true) (ws : List Jvm.Cond) (a1 tb : Addr) (n : Nat) (t : Nat → Int32) (h0 : Heap) (n0 : Nat) (Z0 : n0 ≤ h0.size) (hn : n ≤ 4) (F3 : Fld Z h0 a1 "prefixshift/Pattern" "prefixTable" "[I" (.ref tb)) (FT : OAf Z h0 tb .int n t) (EX : Exa Z h0 tb "[I") :
    MetFree l (⟨"prefixshift/Pattern", "prefixTable", "()[I"⟩ : MethodName) (head1 (Jvm.Cond.code (⟨"prefixshift/Pattern", "prefixTable", "()[I"⟩ : MethodName) prog_9_method_6_code 1 (some (.array .int)) :: ws) ({ frames := 1, cells := 1, slots := 4, locals := 14 } : Room)) (fun a U => a = #[(.ref a1)] ∧ Z.Warmed39 U.vm ∧ U.heap = h0) (fun _ _ _ _ _ => True) (fun _ U o U' => ∃ v L, o = .returned v ∧ Q_ptb Z a1 tb n t h0 n0 v U'.heap L ∧ FrameEnd U o U' L ({ frames := 1, cells := 1, slots := 4, locals := 14 } : Room).cells ({ frames := 1, cells := 1, slots := 4, locals := 14 } : Room).slots) := by
  refine MetFree.of_bodySF (plainFor_of_name pn_ptb) hisR ?_
  intro p e s m args below meth c s₁ Bd hml0 hP hK
  obtain ⟨rfl, hZ, hh⟩ := hP
  have hx := Bd.exec
  have hby := Bd.bytes
  have hml : c.maxLocals = 1 := hml0
  have hown : s.vm.findClass "prefixshift/Pattern" = some m.cls := findClass_of_methodNamed Bd.named
  have hnm := (name_of_methodNamed Bd.named Bd.method).1
  have X0 : Stand p l e ({ frames := 1, cells := 1, slots := 4, locals := 14 } : Room) s m #[(.ref a1)] below meth c s₁ [] 0 0 := Stand.of_body Bd
  have e0 : s₁.heap = h0 := by rw [← hh, Bd.state]; rfl
  have N0 := Fr.nil n0
  have pre0 : ∀ tg_, Steps p.tables e below (s₁.setTop (mkF m 0 #[.val (.ref a1)] [])) tg_ → Steps p.tables e below (s₁.setTop (entryFrame m #[(.ref a1)] 1)) tg_ := fun tg_ k => castTop (ef_ptb m a1) k
  have p_1 : ∀ tg_, Steps p.tables e below (s₁.setTop (mkF m 1 #[.val (.ref a1)] [(.ref a1)])) tg_ → Steps p.tables e below (s₁.setTop (entryFrame m #[(.ref a1)] 1)) tg_ := by
    intro tg_ kk_
    refine pre0 tg_ ?_
    show Steps p.tables e below (s₁.setTop (mkF m 0 #[.val (.ref a1)] [])) _
    refine XS.aloadN X0.here hx rfl (hb hby dptb_0) rfl rfl ?_
    exact kk_
  obtain ⟨T2, X2, e2, st2⟩ := getF X0 hx hZ hown (host := "") (Or.inl (hw _ (List.mem_of_getElem? (i := 33) rfl))) Via.refl e0 F3 (g := (mkF m 1 #[.val (.ref a1)] [(.ref a1)])) rfl rfl (hb hby dptb_1)
  have p_3 : ∀ tg_, Steps p.tables e below (T2.setTop (mkF m 4 #[.val (.ref a1)] [(.ref tb)])) tg_ → Steps p.tables e below (s₁.setTop (entryFrame m #[(.ref a1)] 1)) tg_ := by
    intro tg_ kk_
    refine p_1 tg_ ?_
    refine st2 _ ?_
    exact kk_
  obtain ⟨T4, h4, X4, e4, E4, F4, EX4, st4⟩ := own_clone X2 hx hZ e2 hown (hw _ (List.mem_of_getElem? (i := 45) rfl)) (hw _ (List.mem_of_getElem? (i := 46) rfl)) (hw _ (List.mem_of_getElem? (i := 50) rfl)) (hw _ (List.mem_of_getElem? (i := 48) rfl)) (hw _ (List.mem_of_getElem? (i := 49) rfl)) (hw _ (List.mem_of_getElem? (i := 51) rfl)) FT (fun _ _ => rfl) EX (g := (mkF m 4 #[.val (.ref a1)] [(.ref tb)])) rfl (by rw [hml]; rfl) rfl (hb hby dptb_4) (by decide) (W := 0) (cap := 4) (by show 2 * 0 + _ ≤ _; exact Nat.le_of_eq rfl) (by decide) hn (by decide) (by decide)
  obtain ⟨b4, g4⟩ : ∃ z, z = h0.size := ⟨_, rfl⟩
  rw [← g4] at F4 EX4 st4
  have p_5 : ∀ tg_, Steps p.tables e below (T4.setTop (mkF m 7 #[.val (.ref a1)] [(.ref b4)])) tg_ → Steps p.tables e below (s₁.setTop (entryFrame m #[(.ref a1)] 1)) tg_ := by
    intro tg_ kk_
    refine p_3 tg_ ?_
    refine st4 _ ?_
    exact kk_
  obtain ⟨T6, X6, e6, st6⟩ := castY X4 hx hZ hown (hw _ (List.mem_of_getElem? (i := 52) rfl)) e4 (Ins.self EX4) (g := (mkF m 7 #[.val (.ref a1)] [(.ref b4)])) rfl rfl (hb hby dptb_7)
  have p_7 : ∀ tg_, Steps p.tables e below (T6.setTop (mkF m 10 #[.val (.ref a1)] [(.ref b4)])) tg_ → Steps p.tables e below (s₁.setTop (entryFrame m #[(.ref a1)] 1)) tg_ := by
    intro tg_ kk_
    refine p_5 tg_ ?_
    refine st6 _ ?_
    exact kk_
  obtain ⟨fs, hr, hrun, hended, hW, hsame⟩ := X6.leave (v := some (.ref b4)) (fun h => by rw [Bd.returns] at h; cases h)
  refine ⟨_, _, p_7 _ ?_, hrun, hended, _, _, rfl, ?_, ⟨_, rfl⟩, hW, hsame.mono (by decide) (by decide)⟩
  · show Steps p.tables e below (T6.setTop (mkF m 10 #[.val (.ref a1)] [(.ref b4)])) _
    jvm_step X6.here [X6.here.top, hx, (hb hby dptb_10), X6.method', Bd.returns, Value.isRef, FieldType.isReference]
    first | (intro acts; rw [hr _ acts rfl rfl rfl]) | rw [hr _ _ rfl rfl rfl]
    exact Steps.refl _
  · show Q_ptb Z a1 tb n t h0 n0 _ T6.heap _
    rw [e6]
    exact ⟨b4, rfl, N0, Nat.le_trans Z0 (Nat.le_of_eq g4.symm), F4, E4⟩
theorem dlen_0 : decode prog_9_method_4_code 0 = .ok (.aload_n 0, 1) := by decide +kernel
theorem dlen_1 : decode prog_9_method_4_code 1 = .ok (.getfield 7, 3) := by decide +kernel
theorem dlen_4 : decode prog_9_method_4_code 4 = .ok (.arraylength, 1) := by decide +kernel
theorem dlen_5 : decode prog_9_method_4_code 5 = .ok (.ireturn, 1) := by decide +kernel
theorem pn_len : plainName "prefixshift/Pattern" = true := by first | (simp [plainName, overriddenIn]; done) | decide +kernel
theorem ef_len (m : MethodId) (x0 : Addr) : entryFrame m #[(.ref x0)] 1 = mkF m 0 #[.val (.ref x0)] [] := by first | (simp [entryFrame, mkF, argsToLocals, Value.category]; done) | rfl
def Q_len (Z : State) (a1 u2 : Addr) (n : Nat) (c' : Nat → Int32) (h0 : Heap) (n0 : Nat) (v : Option Value) (h : Heap) (L : List Loc) : Prop := v = some (.int (own_i n)) ∧ Fr n0 L ∧ h = h0
set_option maxRecDepth 65536 in
set_option maxHeartbeats 40000000 in
theorem rm_len (l : Launch) (Z : State) (a0 : Array Value) (hw : ∀ d ∈ tables_1, d.before a0 Z = true) (ws : List Jvm.Cond) (a1 u2 : Addr) (n : Nat) (c' : Nat → Int32) (h0 : Heap) (n0 : Nat) (Z0 : n0 ≤ h0.size) (F1 : Fld Z h0 a1 "prefixshift/Pattern" "units" "[C" (.ref u2)) (FC : OAf Z h0 u2 .char n c') :
    MetFree l (⟨"prefixshift/Pattern", "length", "()I"⟩ : MethodName) (head1 (Jvm.Cond.code (⟨"prefixshift/Pattern", "length", "()I"⟩ : MethodName) prog_9_method_4_code 1 (some .int) :: ws) ({ frames := 0, cells := 0, slots := 0, locals := 0 } : Room)) (fun a U => a = #[(.ref a1)] ∧ Z.Warmed39 U.vm ∧ U.heap = h0) (fun _ _ _ _ _ => True) (fun _ U o U' => ∃ v L, o = .returned v ∧ Q_len Z a1 u2 n c' h0 n0 v U'.heap L ∧ FrameEnd U o U' L ({ frames := 0, cells := 0, slots := 0, locals := 0 } : Room).cells ({ frames := 0, cells := 0, slots := 0, locals := 0 } : Room).slots) := by
  refine MetFree.of_bodySF (plainFor_of_name pn_len) hisR ?_
  intro p e s m args below meth c s₁ Bd hml0 hP hK
  obtain ⟨rfl, hZ, hh⟩ := hP
  have hx := Bd.exec
  have hby := Bd.bytes
  have hml : c.maxLocals = 1 := hml0
  have hown : s.vm.findClass "prefixshift/Pattern" = some m.cls := findClass_of_methodNamed Bd.named
  have hnm := (name_of_methodNamed Bd.named Bd.method).1
  have X0 : Stand p l e ({ frames := 0, cells := 0, slots := 0, locals := 0 } : Room) s m #[(.ref a1)] below meth c s₁ [] 0 0 := Stand.of_body Bd
  have e0 : s₁.heap = h0 := by rw [← hh, Bd.state]; rfl
  have N0 := Fr.nil n0
  have pre0 : ∀ tg_, Steps p.tables e below (s₁.setTop (mkF m 0 #[.val (.ref a1)] [])) tg_ → Steps p.tables e below (s₁.setTop (entryFrame m #[(.ref a1)] 1)) tg_ := fun tg_ k => castTop (ef_len m a1) k
  have p_1 : ∀ tg_, Steps p.tables e below (s₁.setTop (mkF m 1 #[.val (.ref a1)] [(.ref a1)])) tg_ → Steps p.tables e below (s₁.setTop (entryFrame m #[(.ref a1)] 1)) tg_ := by
    intro tg_ kk_
    refine pre0 tg_ ?_
    show Steps p.tables e below (s₁.setTop (mkF m 0 #[.val (.ref a1)] [])) _
    refine XS.aloadN X0.here hx rfl (hb hby dlen_0) rfl rfl ?_
    exact kk_
  obtain ⟨T2, X2, e2, st2⟩ := getF X0 hx hZ hown (host := "") (Or.inl (hw _ (List.mem_of_getElem? (i := 28) rfl))) Via.refl e0 F1 (g := (mkF m 1 #[.val (.ref a1)] [(.ref a1)])) rfl rfl (hb hby dlen_1)
  have p_3 : ∀ tg_, Steps p.tables e below (T2.setTop (mkF m 5 #[.val (.ref a1)] [(.int (own_i n))])) tg_ → Steps p.tables e below (s₁.setTop (entryFrame m #[(.ref a1)] 1)) tg_ := by
    intro tg_ kk_
    refine p_1 tg_ ?_
    refine st2 _ ?_
    show Steps p.tables e below (T2.setTop (mkF m 4 #[.val (.ref a1)] [(.ref u2)])) _
    refine own_len X2 hx hZ e2 FC (z := (own_i n)) rfl (g := (mkF m 4 #[.val (.ref a1)] [(.ref u2)])) rfl rfl (hb hby dlen_4) _ ?_
    exact kk_
  obtain ⟨fs, hr, hrun, hended, hW, hsame⟩ := X2.leave (v := some (.int (own_i n))) (fun h => by rw [Bd.returns] at h; cases h)
  refine ⟨_, _, p_3 _ ?_, hrun, hended, _, _, rfl, ?_, ⟨_, rfl⟩, hW, hsame.mono (by decide) (by decide)⟩
  · show Steps p.tables e below (T2.setTop (mkF m 5 #[.val (.ref a1)] [(.int (own_i n))])) _
    exact retI X2 hx Bd.returns (hb hby dlen_5) hr
  · show Q_len Z a1 u2 n c' h0 n0 _ T2.heap _
    rw [e2]
    exact ⟨rfl, N0, rfl⟩
theorem dtc_0 : decode prog_9_method_5_code 0 = .ok (.aload_n 0, 1) := by decide +kernel
theorem dtc_1 : decode prog_9_method_5_code 1 = .ok (.getfield 25, 3) := by decide +kernel
theorem dtc_4 : decode prog_9_method_5_code 4 = .ok (.lreturn, 1) := by decide +kernel
theorem pn_tc : plainName "prefixshift/Pattern" = true := by first | (simp [plainName, overriddenIn]; done) | decide +kernel
theorem ef_tc (m : MethodId) (x0 : Addr) : entryFrame m #[(.ref x0)] 1 = mkF m 0 #[.val (.ref x0)] [] := by first | (simp [entryFrame, mkF, argsToLocals, Value.category]; done) | rfl
def Q_tc (Z : State) (a1 : Addr) (q : Int64) (h0 : Heap) (n0 : Nat) (v : Option Value) (h : Heap) (L : List Loc) : Prop := v = some (.long q) ∧ Fr n0 L ∧ h = h0
set_option maxRecDepth 65536 in
set_option maxHeartbeats 40000000 in
theorem rm_tc (l : Launch) (Z : State) (a0 : Array Value) (hw : ∀ d ∈ tables_1, d.before a0 Z = true) (ws : List Jvm.Cond) (a1 : Addr) (q : Int64) (h0 : Heap) (n0 : Nat) (Z0 : n0 ≤ h0.size) (F4 : Fld Z h0 a1 "prefixshift/Pattern" "tableComparisons" "J" (.long q)) :
    MetFree l (⟨"prefixshift/Pattern", "tableComparisons", "()J"⟩ : MethodName) (head1 (Jvm.Cond.code (⟨"prefixshift/Pattern", "tableComparisons", "()J"⟩ : MethodName) prog_9_method_5_code 1 (some .long) :: ws) ({ frames := 0, cells := 0, slots := 0, locals := 0 } : Room)) (fun a U => a = #[(.ref a1)] ∧ Z.Warmed39 U.vm ∧ U.heap = h0) (fun _ _ _ _ _ => True) (fun _ U o U' => ∃ v L, o = .returned v ∧ Q_tc Z a1 q h0 n0 v U'.heap L ∧ FrameEnd U o U' L ({ frames := 0, cells := 0, slots := 0, locals := 0 } : Room).cells ({ frames := 0, cells := 0, slots := 0, locals := 0 } : Room).slots) := by
  refine MetFree.of_bodySF (plainFor_of_name pn_tc) hisR ?_
  intro p e s m args below meth c s₁ Bd hml0 hP hK
  obtain ⟨rfl, hZ, hh⟩ := hP
  have hx := Bd.exec
  have hby := Bd.bytes
  have hml : c.maxLocals = 1 := hml0
  have hown : s.vm.findClass "prefixshift/Pattern" = some m.cls := findClass_of_methodNamed Bd.named
  have hnm := (name_of_methodNamed Bd.named Bd.method).1
  have X0 : Stand p l e ({ frames := 0, cells := 0, slots := 0, locals := 0 } : Room) s m #[(.ref a1)] below meth c s₁ [] 0 0 := Stand.of_body Bd
  have e0 : s₁.heap = h0 := by rw [← hh, Bd.state]; rfl
  have N0 := Fr.nil n0
  have pre0 : ∀ tg_, Steps p.tables e below (s₁.setTop (mkF m 0 #[.val (.ref a1)] [])) tg_ → Steps p.tables e below (s₁.setTop (entryFrame m #[(.ref a1)] 1)) tg_ := fun tg_ k => castTop (ef_tc m a1) k
  have p_1 : ∀ tg_, Steps p.tables e below (s₁.setTop (mkF m 1 #[.val (.ref a1)] [(.ref a1)])) tg_ → Steps p.tables e below (s₁.setTop (entryFrame m #[(.ref a1)] 1)) tg_ := by
    intro tg_ kk_
    refine pre0 tg_ ?_
    show Steps p.tables e below (s₁.setTop (mkF m 0 #[.val (.ref a1)] [])) _
    refine XS.aloadN X0.here hx rfl (hb hby dtc_0) rfl rfl ?_
    exact kk_
  obtain ⟨T2, X2, e2, st2⟩ := getF X0 hx hZ hown (host := "") (Or.inl (hw _ (List.mem_of_getElem? (i := 38) rfl))) Via.refl e0 F4 (g := (mkF m 1 #[.val (.ref a1)] [(.ref a1)])) rfl rfl (hb hby dtc_1)
  have p_3 : ∀ tg_, Steps p.tables e below (T2.setTop (mkF m 4 #[.val (.ref a1)] [(.long q)])) tg_ → Steps p.tables e below (s₁.setTop (entryFrame m #[(.ref a1)] 1)) tg_ := by
    intro tg_ kk_
    refine p_1 tg_ ?_
    refine st2 _ ?_
    exact kk_
  obtain ⟨fs, hr, hrun, hended, hW, hsame⟩ := X2.leave (v := some (.long q)) (fun h => by rw [Bd.returns] at h; cases h)
  refine ⟨_, _, p_3 _ ?_, hrun, hended, _, _, rfl, ?_, ⟨_, rfl⟩, hW, hsame.mono (by decide) (by decide)⟩
  · show Steps p.tables e below (T2.setTop (mkF m 4 #[.val (.ref a1)] [(.long q)])) _
    jvm_step X2.here [X2.here.top, hx, (hb hby dtc_4), X2.method', Bd.returns, narrow]
    first | (intro acts; rw [hr _ acts rfl rfl rfl]) | rw [hr _ _ rfl rfl rfl]
    exact Steps.refl _
  · show Q_tc Z a1 q h0 n0 _ T2.heap _
    rw [e2]
    exact ⟨rfl, N0, rfl⟩
theorem own_len5 (p : Int32) : ∃ n : Nat, n ≤ 4 ∧ ((p &&& (2147483647 : Int32)) % (5 : Int32)) = own_i n := by
  have a := c_and p (2147483647 : Int32) (by decide)
  have b := (c_irem (p &&& (2147483647 : Int32)) (5 : Int32) 5 rfl).1 a.1
  refine ⟨((p &&& (2147483647 : Int32)) % (5 : Int32)).toInt.toNat, by omega, Int32.toInt_inj.mp ?_⟩
  rw [own_i_int (by omega)]; omega
theorem own_byte (p : Int32) : -128 ≤ (p.toInt8.toInt32).toInt ∧ (p.toInt8.toInt32).toInt < 128 ∧ (p.toInt8.toInt32).toInt8.toInt32 = p.toInt8.toInt32 := by
  have a := c_i2b p
  have b := c_i2b (p.toInt8.toInt32)
  exact ⟨a.2.1, a.2.2, Int32.toInt_inj.mp (by omega)⟩
theorem own_inj {x y : Int32} (hx : -128 ≤ x.toInt ∧ x.toInt < 128 ∧ x.toInt8.toInt32 = x) (hy : -128 ≤ y.toInt ∧ y.toInt < 128 ∧ y.toInt8.toInt32 = y) : (x &&& (255 : Int32)) = (y &&& (255 : Int32)) ↔ x = y := by
  constructor
  · intro h
    have a := c_mask x (255 : Int32) 8 (by decide) (by decide)
    have b := c_mask y (255 : Int32) 8 (by decide) (by decide)
    rw [h] at a
    exact Int32.toInt_inj.mp (by omega)
  · intro h; rw [h]
def own_lov (z : Int32) : Int64 := if z = (0 : Int32) then (0 : Int64) else ((z - (1 : Int32)).toInt64)
def own_hiv (z : Int32) : Int64 := if z = (0 : Int32) then (0 : Int64) else ((2 : Int64) * ((z - (1 : Int32)).toInt64))
def own_e1 (a b : Int32) : Int32 := if a = b then 1 else 0
def own_e2 (a b c : Int32) : Int32 := if a = b then (if b = c then 2 else if a = c then 1 else 0) else if a = c then 1 else 0
def own_e3 (a b c d : Int32) : Int32 := if a = b then (if b = c then (if c = d then 3 else if a = c then (if b = d then 2 else if a = d then 1 else 0) else if a = d then 1 else 0) else if a = c then (if b = d then 2 else if a = d then 1 else 0) else if a = d then 1 else 0) else if a = c then (if b = d then 2 else if a = d then 1 else 0) else if a = d then 1 else 0
theorem own_kmp_congr {c c' : Nat → Int32} {n : Nat} (h : ∀ i j, i < n → j < n → (c i = c j ↔ c' i = c' j)) : ∀ (fuel i j q : Nat) (t : Nat → Nat), j < i → (∀ x, t x ≤ x) → own_kmp c n fuel i j q t = own_kmp c' n fuel i j q t := by
  intro fuel
  induction fuel with
  | zero => intros; rfl
  | succ fuel ih =>
    intro i j q t hj ht
    simp only [own_kmp]
    by_cases hi : i < n
    · simp only [if_pos hi]
      by_cases he : c i = c j
      · simp only [if_pos he, if_pos ((h i j hi (by omega)).mp he)]
        exact ih _ _ _ _ (by omega) (fun x => by
          show (if x = i then j + 1 else t x) ≤ x
          by_cases u : x = i
          · rw [if_pos u]; omega
          · rw [if_neg u]; exact ht x)
      · simp only [if_neg he, if_neg (fun q => he ((h i j hi (by omega)).mpr q))]
        by_cases h0 : 0 < j
        · simp only [if_pos h0]
          exact ih _ _ _ _ (by have := ht (j - 1); omega) ht
        · simp only [if_neg h0]
          exact ih _ _ _ _ (by omega) ht
    · simp only [if_neg hi]
def own_sel (a b c d : Int32) (x : Nat) : Int32 := if x = 0 then a else if x = 1 then b else if x = 2 then c else d
theorem own_tabs (a b c d : Int32) (n : Nat) (hn : n ≤ 4) : let K := own_kmp (own_sel a b c d) n (2 * n) 1 0 0 (fun _ => 0)
    n - 1 ≤ K.1 ∧ K.1 ≤ 2 * (n - 1) ∧ (0 < n → own_i (K.2 0) = 0) ∧ (1 < n → own_i (K.2 1) = own_e1 a b) ∧ (2 < n → own_i (K.2 2) = own_e2 a b c) ∧ (3 < n → own_i (K.2 3) = own_e3 a b c d) := by
  have hcases : n = 0 ∨ n = 1 ∨ n = 2 ∨ n = 3 ∨ n = 4 := by omega
  have s0 : own_sel a b c d 0 = a := rfl
  have s1 : own_sel a b c d 1 = b := rfl
  have s2 : own_sel a b c d 2 = c := rfl
  have s3 : own_sel a b c d 3 = d := rfl
  rcases hcases with rfl | rfl | rfl | rfl | rfl
  · simp [own_kmp]
  · simp [own_kmp]; rfl
  · by_cases h1 : b = a
    · subst h1; simp [own_kmp, s0, s1, own_e1]; decide
    · have h1' : ¬ a = b := fun q => h1 q.symm
      simp [own_kmp, s0, s1, own_e1, h1, h1']; decide
  · by_cases h1 : b = a
    · subst h1
      by_cases h2 : c = b
      · subst h2; simp [own_kmp, s0, s1, s2, own_e1, own_e2]; decide
      · have h2' : ¬ b = c := fun q => h2 q.symm
        simp [own_kmp, s0, s1, s2, own_e1, own_e2, h2, h2']; decide
    · have h1' : ¬ a = b := fun q => h1 q.symm
      by_cases h2 : c = a
      · subst h2; simp [own_kmp, s0, s1, s2, own_e1, own_e2, h1, h1']; decide
      · have h2' : ¬ a = c := fun q => h2 q.symm
        simp [own_kmp, s0, s1, s2, own_e1, own_e2, h1, h1', h2, h2']; decide
  · by_cases h1 : b = a
    · subst h1
      by_cases h2 : c = b
      · subst h2
        by_cases h3 : d = c
        · subst h3; simp [own_kmp, s0, s1, s2, s3, own_e1, own_e2, own_e3]; decide
        · have h3' : ¬ c = d := fun q => h3 q.symm
          simp [own_kmp, s0, s1, s2, s3, own_e1, own_e2, own_e3, h3, h3']; decide
      · have h2' : ¬ b = c := fun q => h2 q.symm
        by_cases h3 : d = b
        · subst h3; simp [own_kmp, s0, s1, s2, s3, own_e1, own_e2, own_e3, h2, h2']; decide
        · have h3' : ¬ b = d := fun q => h3 q.symm
          simp [own_kmp, s0, s1, s2, s3, own_e1, own_e2, own_e3, h2, h2', h3, h3']; decide
    · have h1' : ¬ a = b := fun q => h1 q.symm
      by_cases h2 : c = a
      · subst h2
        by_cases h3 : d = b
        · subst h3; simp [own_kmp, s0, s1, s2, s3, own_e1, own_e2, own_e3, h1, h1']; decide
        · have h3' : ¬ b = d := fun q => h3 q.symm
          by_cases h4 : d = c
          · subst h4; simp [own_kmp, s0, s1, s2, s3, own_e1, own_e2, own_e3, h1, h1', h3, h3']; decide
          · have h4' : ¬ c = d := fun q => h4 q.symm
            simp [own_kmp, s0, s1, s2, s3, own_e1, own_e2, own_e3, h1, h1', h3, h3', h4, h4']; decide
      · have h2' : ¬ a = c := fun q => h2 q.symm
        by_cases h3 : d = a
        · subst h3; simp [own_kmp, s0, s1, s2, s3, own_e1, own_e2, own_e3, h1, h1', h2, h2']; decide
        · have h3' : ¬ a = d := fun q => h3 q.symm
          simp [own_kmp, s0, s1, s2, s3, own_e1, own_e2, own_e3, h1, h1', h2, h2', h3, h3']; decide
theorem own_plain {n : Nat} {c0 c1 c2 c3 : Int32} {f : Nat → Int32} (hn : n ≤ 4)
    (b0 : -128 ≤ c0.toInt ∧ c0.toInt < 128 ∧ c0.toInt8.toInt32 = c0) (b1 : -128 ≤ c1.toInt ∧ c1.toInt < 128 ∧ c1.toInt8.toInt32 = c1) (b2 : -128 ≤ c2.toInt ∧ c2.toInt < 128 ∧ c2.toInt8.toInt32 = c2) (b3 : -128 ≤ c3.toInt ∧ c3.toInt < 128 ∧ c3.toInt8.toInt32 = c3)
    (h0 : 0 < n → f 0 = c0) (h1 : 1 < n → f 1 = c1) (h2 : 2 < n → f 2 = c2) (h3 : 3 < n → f 3 = c3) : let K := own_kmp (fun x => f x &&& (255 : Int32)) n (2 * n) 1 0 0 (fun _ => 0)
    ¬ (lcmpW (own_l K.1) (own_lov (own_i n)) < (0 : Int32)) ∧ ¬ ((0 : Int32) < lcmpW (own_l K.1) (own_hiv (own_i n))) ∧ (0 < n → own_i (K.2 0) = (0 : Int32)) ∧ (1 < n → own_i (K.2 1) = own_e1 c0 c1) ∧ (2 < n → own_i (K.2 2) = own_e2 c0 c1 c2) ∧ (3 < n → own_i (K.2 3) = own_e3 c0 c1 c2 c3) := by
  intro K
  have hK : K = own_kmp (own_sel c0 c1 c2 c3) n (2 * n) 1 0 0 (fun _ => 0) := by
    refine own_kmp_congr ?_ _ _ _ _ _ (by decide) (fun x => Nat.zero_le _)
    have e : ∀ i, i < n → f i = own_sel c0 c1 c2 c3 i ∧ (-128 ≤ (own_sel c0 c1 c2 c3 i).toInt ∧ (own_sel c0 c1 c2 c3 i).toInt < 128 ∧ (own_sel c0 c1 c2 c3 i).toInt8.toInt32 = own_sel c0 c1 c2 c3 i) := by
      intro i hi
      have hc : i = 0 ∨ i = 1 ∨ i = 2 ∨ i = 3 := by omega
      rcases hc with rfl | rfl | rfl | rfl
      · exact ⟨h0 hi, b0⟩
      · exact ⟨h1 hi, b1⟩
      · exact ⟨h2 hi, b2⟩
      · exact ⟨h3 hi, b3⟩
    intro i j hi hj
    show (f i &&& (255 : Int32)) = (f j &&& (255 : Int32)) ↔ _
    rw [(e i hi).1, (e j hj).1]
    exact own_inj (e i hi).2 (e j hj).2
  obtain ⟨t1, t2, t3, t4, t5, t6⟩ := own_tabs c0 c1 c2 c3 n hn
  rw [← hK] at t1 t2 t3 t4 t5 t6
  have il := own_l_int (k := K.1) (by omega)
  have z0 : (0 : Int32).toInt = 0 := rfl
  have o1 : (1 : Int32).toInt = 1 := rfl
  have w2 : (2 : Int64).toInt = 2 := rfl
  have y0 : (0 : Int64).toInt = 0 := rfl
  have ii := own_i_int (k := n) (by omega)
  have lo : (own_lov (own_i n)).toInt = ((n - 1 : Nat) : Int) ∧ (own_hiv (own_i n)).toInt = 2 * ((n - 1 : Nat) : Int) := by
    unfold own_lov own_hiv
    by_cases q : own_i n = (0 : Int32)
    · have q' := congrArg Int32.toInt q
      rw [if_pos q, if_pos q]; omega
    · have q' : n ≠ 0 := fun u => q (by rw [u]; rfl)
      rw [if_neg q, if_neg q]
      have a := c_isub (own_i n) (1 : Int32)
      have b := rng32 (own_i n - (1 : Int32))
      have c := c_i2l (own_i n - (1 : Int32))
      have d := c_lmul (2 : Int64) (own_i n - (1 : Int32)).toInt64
      have r := rng64 ((2 : Int64) * (own_i n - (1 : Int32)).toInt64)
      rw [w2] at d
      constructor <;> omega
  refine ⟨?_, ?_, t3, t4, t5, t6⟩
  · rw [lw_lt, Int64.lt_iff_toInt_lt]; omega
  · rw [lw_gt, Int64.lt_iff_toInt_lt]; omega
theorem pd_law_0 : parseMethodDescriptor "([B)Lprefixshift/Pattern;" = some ⟨[(.array .byte)], some (.object "prefixshift/Pattern")⟩ := by decide +kernel
theorem pd_law_1 : parseMethodDescriptor "()[I" = some ⟨[], some (.array .int)⟩ := by decide +kernel
theorem pd_law_2 : parseMethodDescriptor "()I" = some ⟨[], some .int⟩ := by decide +kernel
theorem pd_law_3 : parseMethodDescriptor "()J" = some ⟨[], some .long⟩ := by decide +kernel
theorem pn_law : plainName "prefixshift/PatternOf328PinLaw" = true := by first | (simp [plainName, overriddenIn]; done) | decide +kernel
theorem ef_law (m : MethodId) (x0 : Int32) (x1 : Int32) (x2 : Int32) (x3 : Int32) (x4 : Int32) : entryFrame m #[(.int x0), (.int x1), (.int x2), (.int x3), (.int x4)] maxLocals = mkF m 0 #[.val (.int x0), .val (.int x1), .val (.int x2), .val (.int x3), .val (.int x4), .unset, .unset, .unset, .unset, .unset, .unset, .unset, .unset, .unset, .unset, .unset, .unset, .unset, .unset, .unset, .unset, .unset, .unset] [] := by first | (simp [entryFrame, mkF, argsToLocals, Value.category, maxLocals]; done) | rfl
def Q_law (Z : State) (p0 p1 p2 p3 p4 : Int32) (h0 : Heap) (n0 : Nat) (v : Option Value) (h : Heap) (L : List Loc) : Prop := v = some (.int 1) ∧ Fr n0 L
set_option maxRecDepth 65536 in
set_option maxHeartbeats 40000000 in
theorem rm_law (l : Launch) (Z : State) (a0 : Array Value) (hw : ∀ d ∈ tables_1, d.before a0 Z = true) (ws : List Jvm.Cond) (p0 p1 p2 p3 p4 : Int32) (h0 : Heap) (n0 : Nat) (Z0 : n0 ≤ h0.size)  :
    MetFree l x (head1 (Jvm.Cond.code x code maxLocals ret :: ws) room_1) (fun a U => a = #[(.int p0), (.int p1), (.int p2), (.int p3), (.int p4)] ∧ Z.Warmed39 U.vm ∧ U.heap = h0) (fun _ _ _ _ _ => True) (fun _ U o U' => ∃ v L, o = .returned v ∧ Q_law Z p0 p1 p2 p3 p4 h0 n0 v U'.heap L ∧ ReturnedEndW U o U' L room_1.cells room_1.slots) := by
  refine MetFree.of_bodySF (plainFor_of_name pn_law) hisR ?_
  intro p e s m args below meth c s₁ Bd hml0 hP hK
  obtain ⟨rfl, hZ, hh⟩ := hP
  have hx := Bd.exec
  have hby := Bd.bytes
  have hml : c.maxLocals = 23 := hml0
  have hown : s.vm.findClass "prefixshift/PatternOf328PinLaw" = some m.cls := findClass_of_methodNamed Bd.named
  have hnm := (name_of_methodNamed Bd.named Bd.method).1
  have X0 : Stand p l e room_1 s m #[(.int p0), (.int p1), (.int p2), (.int p3), (.int p4)] below meth c s₁ [] 0 0 := Stand.of_body Bd
  have e0 : s₁.heap = h0 := by rw [← hh, Bd.state]; rfl
  have N0 := Fr.nil n0
  have pre0 : ∀ tg_, Steps p.tables e below (s₁.setTop (mkF m 0 #[.val (.int p0), .val (.int p1), .val (.int p2), .val (.int p3), .val (.int p4), .unset, .unset, .unset, .unset, .unset, .unset, .unset, .unset, .unset, .unset, .unset, .unset, .unset, .unset, .unset, .unset, .unset, .unset] [])) tg_ → Steps p.tables e below (s₁.setTop (entryFrame m #[(.int p0), (.int p1), (.int p2), (.int p3), (.int p4)] maxLocals)) tg_ := fun tg_ k => castTop (ef_law m p0 p1 p2 p3 p4) k
  have p_1 : ∀ tg_, Steps p.tables e below (s₁.setTop (mkF m 6 #[.val (.int p0), .val (.int p1), .val (.int p2), .val (.int p3), .val (.int p4), .unset, .unset, .unset, .unset, .unset, .unset, .unset, .unset, .unset, .unset, .unset, .unset, .unset, .unset, .unset, .unset, .unset, .unset] [(.int ((p0 &&& (2147483647 : Int32)) % (5 : Int32)))])) tg_ → Steps p.tables e below (s₁.setTop (entryFrame m #[(.int p0), (.int p1), (.int p2), (.int p3), (.int p4)] maxLocals)) tg_ := by
    intro tg_ kk_
    refine pre0 tg_ ?_
    show Steps p.tables e below (s₁.setTop (mkF m 0 #[.val (.int p0), .val (.int p1), .val (.int p2), .val (.int p3), .val (.int p4), .unset, .unset, .unset, .unset, .unset, .unset, .unset, .unset, .unset, .unset, .unset, .unset, .unset, .unset, .unset, .unset, .unset, .unset] [])) _
    refine XS.iloadN X0.here hx rfl (hb hby at_0) rfl ?_
    show Steps p.tables e below (s₁.setTop (mkF m 1 #[.val (.int p0), .val (.int p1), .val (.int p2), .val (.int p3), .val (.int p4), .unset, .unset, .unset, .unset, .unset, .unset, .unset, .unset, .unset, .unset, .unset, .unset, .unset, .unset, .unset, .unset, .unset, .unset] [(.int p0)])) _
    refine X0.ldcInt hx hown (mvT hZ (hw _ (List.mem_of_getElem? (i := 0) rfl))) (g := (mkF m 1 #[.val (.int p0), .val (.int p1), .val (.int p2), .val (.int p3), .val (.int p4), .unset, .unset, .unset, .unset, .unset, .unset, .unset, .unset, .unset, .unset, .unset, .unset, .unset, .unset, .unset, .unset, .unset, .unset] [(.int p0)])) rfl (hb hby at_1) _ ?_
    show Steps p.tables e below (s₁.setTop (mkF m 3 #[.val (.int p0), .val (.int p1), .val (.int p2), .val (.int p3), .val (.int p4), .unset, .unset, .unset, .unset, .unset, .unset, .unset, .unset, .unset, .unset, .unset, .unset, .unset, .unset, .unset, .unset, .unset, .unset] [(.int (2147483647 : Int32)), (.int p0)])) _
    refine XS.iand X0.here hx rfl (hb hby at_3) rfl ?_
    show Steps p.tables e below (s₁.setTop (mkF m 4 #[.val (.int p0), .val (.int p1), .val (.int p2), .val (.int p3), .val (.int p4), .unset, .unset, .unset, .unset, .unset, .unset, .unset, .unset, .unset, .unset, .unset, .unset, .unset, .unset, .unset, .unset, .unset, .unset] [(.int (p0 &&& (2147483647 : Int32)))])) _
    refine XS.iconst X0.here hx rfl (hb hby at_4) ?_
    show Steps p.tables e below (s₁.setTop (mkF m 5 #[.val (.int p0), .val (.int p1), .val (.int p2), .val (.int p3), .val (.int p4), .unset, .unset, .unset, .unset, .unset, .unset, .unset, .unset, .unset, .unset, .unset, .unset, .unset, .unset, .unset, .unset, .unset, .unset] [(.int (5 : Int32)), (.int (p0 &&& (2147483647 : Int32)))])) _
    refine XS.irem X0.here hx rfl (hb hby at_5) rfl (by decide) ?_
    rw [own_irem (p0 &&& (2147483647 : Int32)) (5 : Int32)]
    exact kk_
  obtain ⟨n, hn, hlen⟩ := own_len5 p0
  rw [hlen] at p_1
  have p_2 : ∀ tg_, Steps p.tables e below (s₁.setTop (mkF m 25 #[.val (.int p0), .val (.int p1), .val (.int p2), .val (.int p3), .val (.int p4), .val (.int (own_i n)), .val (.int (p1.toInt8.toInt32)), .val (.int (p2.toInt8.toInt32)), .val (.int (p3.toInt8.toInt32)), .val (.int (p4.toInt8.toInt32)), .unset, .unset, .unset, .unset, .unset, .unset, .unset, .unset, .unset, .unset, .unset, .unset, .unset] [])) tg_ → Steps p.tables e below (s₁.setTop (entryFrame m #[(.int p0), (.int p1), (.int p2), (.int p3), (.int p4)] maxLocals)) tg_ := by
    intro tg_ kk_
    refine p_1 tg_ ?_
    show Steps p.tables e below (s₁.setTop (mkF m 6 #[.val (.int p0), .val (.int p1), .val (.int p2), .val (.int p3), .val (.int p4), .unset, .unset, .unset, .unset, .unset, .unset, .unset, .unset, .unset, .unset, .unset, .unset, .unset, .unset, .unset, .unset, .unset, .unset] [(.int (own_i n))])) _
    refine XS.istore X0.here hx rfl (hb hby at_6) rfl (l' := #[.val (.int p0), .val (.int p1), .val (.int p2), .val (.int p3), .val (.int p4), .val (.int (own_i n)), .unset, .unset, .unset, .unset, .unset, .unset, .unset, .unset, .unset, .unset, .unset, .unset, .unset, .unset, .unset, .unset, .unset]) rfl ?_
    show Steps p.tables e below (s₁.setTop (mkF m 8 #[.val (.int p0), .val (.int p1), .val (.int p2), .val (.int p3), .val (.int p4), .val (.int (own_i n)), .unset, .unset, .unset, .unset, .unset, .unset, .unset, .unset, .unset, .unset, .unset, .unset, .unset, .unset, .unset, .unset, .unset] [])) _
    refine XS.iloadN X0.here hx rfl (hb hby at_8) rfl ?_
    show Steps p.tables e below (s₁.setTop (mkF m 9 #[.val (.int p0), .val (.int p1), .val (.int p2), .val (.int p3), .val (.int p4), .val (.int (own_i n)), .unset, .unset, .unset, .unset, .unset, .unset, .unset, .unset, .unset, .unset, .unset, .unset, .unset, .unset, .unset, .unset, .unset] [(.int p1)])) _
    refine XS.i2b X0.here hx rfl (hb hby at_9) rfl ?_
    show Steps p.tables e below (s₁.setTop (mkF m 10 #[.val (.int p0), .val (.int p1), .val (.int p2), .val (.int p3), .val (.int p4), .val (.int (own_i n)), .unset, .unset, .unset, .unset, .unset, .unset, .unset, .unset, .unset, .unset, .unset, .unset, .unset, .unset, .unset, .unset, .unset] [(.int (p1.toInt8.toInt32))])) _
    refine XS.istore X0.here hx rfl (hb hby at_10) rfl (l' := #[.val (.int p0), .val (.int p1), .val (.int p2), .val (.int p3), .val (.int p4), .val (.int (own_i n)), .val (.int (p1.toInt8.toInt32)), .unset, .unset, .unset, .unset, .unset, .unset, .unset, .unset, .unset, .unset, .unset, .unset, .unset, .unset, .unset, .unset]) rfl ?_
    show Steps p.tables e below (s₁.setTop (mkF m 12 #[.val (.int p0), .val (.int p1), .val (.int p2), .val (.int p3), .val (.int p4), .val (.int (own_i n)), .val (.int (p1.toInt8.toInt32)), .unset, .unset, .unset, .unset, .unset, .unset, .unset, .unset, .unset, .unset, .unset, .unset, .unset, .unset, .unset, .unset] [])) _
    refine XS.iloadN X0.here hx rfl (hb hby at_12) rfl ?_
    show Steps p.tables e below (s₁.setTop (mkF m 13 #[.val (.int p0), .val (.int p1), .val (.int p2), .val (.int p3), .val (.int p4), .val (.int (own_i n)), .val (.int (p1.toInt8.toInt32)), .unset, .unset, .unset, .unset, .unset, .unset, .unset, .unset, .unset, .unset, .unset, .unset, .unset, .unset, .unset, .unset] [(.int p2)])) _
    refine XS.i2b X0.here hx rfl (hb hby at_13) rfl ?_
    show Steps p.tables e below (s₁.setTop (mkF m 14 #[.val (.int p0), .val (.int p1), .val (.int p2), .val (.int p3), .val (.int p4), .val (.int (own_i n)), .val (.int (p1.toInt8.toInt32)), .unset, .unset, .unset, .unset, .unset, .unset, .unset, .unset, .unset, .unset, .unset, .unset, .unset, .unset, .unset, .unset] [(.int (p2.toInt8.toInt32))])) _
    refine XS.istore X0.here hx rfl (hb hby at_14) rfl (l' := #[.val (.int p0), .val (.int p1), .val (.int p2), .val (.int p3), .val (.int p4), .val (.int (own_i n)), .val (.int (p1.toInt8.toInt32)), .val (.int (p2.toInt8.toInt32)), .unset, .unset, .unset, .unset, .unset, .unset, .unset, .unset, .unset, .unset, .unset, .unset, .unset, .unset, .unset]) rfl ?_
    show Steps p.tables e below (s₁.setTop (mkF m 16 #[.val (.int p0), .val (.int p1), .val (.int p2), .val (.int p3), .val (.int p4), .val (.int (own_i n)), .val (.int (p1.toInt8.toInt32)), .val (.int (p2.toInt8.toInt32)), .unset, .unset, .unset, .unset, .unset, .unset, .unset, .unset, .unset, .unset, .unset, .unset, .unset, .unset, .unset] [])) _
    refine XS.iloadN X0.here hx rfl (hb hby at_16) rfl ?_
    show Steps p.tables e below (s₁.setTop (mkF m 17 #[.val (.int p0), .val (.int p1), .val (.int p2), .val (.int p3), .val (.int p4), .val (.int (own_i n)), .val (.int (p1.toInt8.toInt32)), .val (.int (p2.toInt8.toInt32)), .unset, .unset, .unset, .unset, .unset, .unset, .unset, .unset, .unset, .unset, .unset, .unset, .unset, .unset, .unset] [(.int p3)])) _
    refine XS.i2b X0.here hx rfl (hb hby at_17) rfl ?_
    show Steps p.tables e below (s₁.setTop (mkF m 18 #[.val (.int p0), .val (.int p1), .val (.int p2), .val (.int p3), .val (.int p4), .val (.int (own_i n)), .val (.int (p1.toInt8.toInt32)), .val (.int (p2.toInt8.toInt32)), .unset, .unset, .unset, .unset, .unset, .unset, .unset, .unset, .unset, .unset, .unset, .unset, .unset, .unset, .unset] [(.int (p3.toInt8.toInt32))])) _
    refine XS.istore X0.here hx rfl (hb hby at_18) rfl (l' := #[.val (.int p0), .val (.int p1), .val (.int p2), .val (.int p3), .val (.int p4), .val (.int (own_i n)), .val (.int (p1.toInt8.toInt32)), .val (.int (p2.toInt8.toInt32)), .val (.int (p3.toInt8.toInt32)), .unset, .unset, .unset, .unset, .unset, .unset, .unset, .unset, .unset, .unset, .unset, .unset, .unset, .unset]) rfl ?_
    show Steps p.tables e below (s₁.setTop (mkF m 20 #[.val (.int p0), .val (.int p1), .val (.int p2), .val (.int p3), .val (.int p4), .val (.int (own_i n)), .val (.int (p1.toInt8.toInt32)), .val (.int (p2.toInt8.toInt32)), .val (.int (p3.toInt8.toInt32)), .unset, .unset, .unset, .unset, .unset, .unset, .unset, .unset, .unset, .unset, .unset, .unset, .unset, .unset] [])) _
    refine XS.iload X0.here hx rfl (hb hby at_20) rfl ?_
    show Steps p.tables e below (s₁.setTop (mkF m 22 #[.val (.int p0), .val (.int p1), .val (.int p2), .val (.int p3), .val (.int p4), .val (.int (own_i n)), .val (.int (p1.toInt8.toInt32)), .val (.int (p2.toInt8.toInt32)), .val (.int (p3.toInt8.toInt32)), .unset, .unset, .unset, .unset, .unset, .unset, .unset, .unset, .unset, .unset, .unset, .unset, .unset, .unset] [(.int p4)])) _
    refine XS.i2b X0.here hx rfl (hb hby at_22) rfl ?_
    show Steps p.tables e below (s₁.setTop (mkF m 23 #[.val (.int p0), .val (.int p1), .val (.int p2), .val (.int p3), .val (.int p4), .val (.int (own_i n)), .val (.int (p1.toInt8.toInt32)), .val (.int (p2.toInt8.toInt32)), .val (.int (p3.toInt8.toInt32)), .unset, .unset, .unset, .unset, .unset, .unset, .unset, .unset, .unset, .unset, .unset, .unset, .unset, .unset] [(.int (p4.toInt8.toInt32))])) _
    refine XS.istore X0.here hx rfl (hb hby at_23) rfl (l' := #[.val (.int p0), .val (.int p1), .val (.int p2), .val (.int p3), .val (.int p4), .val (.int (own_i n)), .val (.int (p1.toInt8.toInt32)), .val (.int (p2.toInt8.toInt32)), .val (.int (p3.toInt8.toInt32)), .val (.int (p4.toInt8.toInt32)), .unset, .unset, .unset, .unset, .unset, .unset, .unset, .unset, .unset, .unset, .unset, .unset, .unset]) rfl ?_
    exact kk_
  obtain ⟨c0, h_c0⟩ : ∃ z, z = (p1.toInt8.toInt32) := ⟨_, rfl⟩
  rw [← h_c0] at p_2
  obtain ⟨c1, h_c1⟩ : ∃ z, z = (p2.toInt8.toInt32) := ⟨_, rfl⟩
  rw [← h_c1] at p_2
  obtain ⟨c2, h_c2⟩ : ∃ z, z = (p3.toInt8.toInt32) := ⟨_, rfl⟩
  rw [← h_c2] at p_2
  obtain ⟨c3, h_c3⟩ : ∃ z, z = (p4.toInt8.toInt32) := ⟨_, rfl⟩
  rw [← h_c3] at p_2
  have bc0 := own_byte p1
  rw [← h_c0] at bc0
  have bc1 := own_byte p2
  rw [← h_c1] at bc1
  have bc2 := own_byte p3
  rw [← h_c2] at bc2
  have bc3 := own_byte p4
  rw [← h_c3] at bc3
  have p_3 : ∀ tg_, Steps p.tables e below (s₁.setTop (mkF m 27 #[.val (.int p0), .val (.int p1), .val (.int p2), .val (.int p3), .val (.int p4), .val (.int (own_i n)), .val (.int c0), .val (.int c1), .val (.int c2), .val (.int c3), .unset, .unset, .unset, .unset, .unset, .unset, .unset, .unset, .unset, .unset, .unset, .unset, .unset] [(.int (own_i n))])) tg_ → Steps p.tables e below (s₁.setTop (entryFrame m #[(.int p0), (.int p1), (.int p2), (.int p3), (.int p4)] maxLocals)) tg_ := by
    intro tg_ kk_
    refine p_2 tg_ ?_
    show Steps p.tables e below (s₁.setTop (mkF m 25 #[.val (.int p0), .val (.int p1), .val (.int p2), .val (.int p3), .val (.int p4), .val (.int (own_i n)), .val (.int c0), .val (.int c1), .val (.int c2), .val (.int c3), .unset, .unset, .unset, .unset, .unset, .unset, .unset, .unset, .unset, .unset, .unset, .unset, .unset] [])) _
    refine XS.iload X0.here hx rfl (hb hby at_25) rfl ?_
    exact kk_
  obtain ⟨T4, h4, k4, X4, e4, E4, A4, EX4, st4⟩ := newPE X0 hx hZ (hw _ (List.mem_of_getElem? (i := 1) rfl)) e0 (g := (mkF m 27 #[.val (.int p0), .val (.int p1), .val (.int p2), .val (.int p3), .val (.int p4), .val (.int (own_i n)), .val (.int c0), .val (.int c1), .val (.int c2), .val (.int c3), .unset, .unset, .unset, .unset, .unset, .unset, .unset, .unset, .unset, .unset, .unset, .unset, .unset] [(.int (own_i n))])) rfl (hb hby at_27) rfl (own_i_nn (by omega)) (cap := 4) (by rw [own_i_nat (by omega)]; exact hn) (by decide) (by decide) (by decide) (ad := "[B") (by first | rfl | decide)
  obtain ⟨b4, g4⟩ : ∃ z, z = h0.size := ⟨_, rfl⟩
  rw [← g4] at A4 EX4 st4
  have F4 := OAf.new A4 rfl (n := n) (own_i_nat (by omega))
  have gb : n0 ≤ b4 := Nat.le_trans Z0 (Nat.le_of_eq g4.symm)
  have Zk : n0 ≤ h4.size := Nat.le_trans Z0 E4.1
  have p_5 : ∀ tg_, Steps p.tables e below (T4.setTop (mkF m 33 #[.val (.int p0), .val (.int p1), .val (.int p2), .val (.int p3), .val (.int p4), .val (.int (own_i n)), .val (.int c0), .val (.int c1), .val (.int c2), .val (.int c3), .val (.ref b4), .unset, .unset, .unset, .unset, .unset, .unset, .unset, .unset, .unset, .unset, .unset, .unset] [(.int (own_i n))])) tg_ → Steps p.tables e below (s₁.setTop (entryFrame m #[(.int p0), (.int p1), (.int p2), (.int p3), (.int p4)] maxLocals)) tg_ := by
    intro tg_ kk_
    refine p_3 tg_ ?_
    refine st4 _ ?_
    show Steps p.tables e below (T4.setTop (mkF m 29 #[.val (.int p0), .val (.int p1), .val (.int p2), .val (.int p3), .val (.int p4), .val (.int (own_i n)), .val (.int c0), .val (.int c1), .val (.int c2), .val (.int c3), .unset, .unset, .unset, .unset, .unset, .unset, .unset, .unset, .unset, .unset, .unset, .unset, .unset] [(.ref b4)])) _
    refine XS.astore X4.here hx rfl (hb hby at_29) rfl rfl (l' := #[.val (.int p0), .val (.int p1), .val (.int p2), .val (.int p3), .val (.int p4), .val (.int (own_i n)), .val (.int c0), .val (.int c1), .val (.int c2), .val (.int c3), .val (.ref b4), .unset, .unset, .unset, .unset, .unset, .unset, .unset, .unset, .unset, .unset, .unset, .unset]) rfl ?_
    show Steps p.tables e below (T4.setTop (mkF m 31 #[.val (.int p0), .val (.int p1), .val (.int p2), .val (.int p3), .val (.int p4), .val (.int (own_i n)), .val (.int c0), .val (.int c1), .val (.int c2), .val (.int c3), .val (.ref b4), .unset, .unset, .unset, .unset, .unset, .unset, .unset, .unset, .unset, .unset, .unset, .unset] [])) _
    refine XS.iload X4.here hx rfl (hb hby at_31) rfl ?_
    exact kk_
  obtain ⟨TS0, hS0, LS0, f0, XS0, eS0, FS0, ES0, NS0, ZS0, hf0, p_6⟩ : ∃ (TS0 : State) (hS0 : Heap) (LS0 : List Loc) (f0 : Nat → Int32), Stand p l e room_1 s m #[(.int p0), (.int p1), (.int p2), (.int p3), (.int p4)] below meth c TS0 LS0 1 4 ∧ TS0.heap = hS0 ∧ OAf Z hS0 b4 .byte n f0 ∧ Exa Z hS0 b4 "[B" ∧ Fr n0 LS0 ∧ n0 ≤ hS0.size ∧ ((0 < n → f0 0 = c0)) ∧ ∀ t, Steps p.tables e below (TS0.setTop (mkF m 45 #[.val (.int p0), .val (.int p1), .val (.int p2), .val (.int p3), .val (.int p4), .val (.int (own_i n)), .val (.int c0), .val (.int c1), .val (.int c2), .val (.int c3), .val (.ref b4), .unset, .unset, .unset, .unset, .unset, .unset, .unset, .unset, .unset, .unset, .unset, .unset] [(.int (1 : Int32)), (.int (own_i n))])) t → Steps p.tables e below (s₁.setTop (entryFrame m #[(.int p0), (.int p1), (.int p2), (.int p3), (.int p4)] maxLocals)) t := by
    by_cases hl : 0 < n
    · have hk : True := trivial
      have p_7 : ∀ tg_, Steps p.tables e below (T4.setTop (mkF m 41 #[.val (.int p0), .val (.int p1), .val (.int p2), .val (.int p3), .val (.int p4), .val (.int (own_i n)), .val (.int c0), .val (.int c1), .val (.int c2), .val (.int c3), .val (.ref b4), .unset, .unset, .unset, .unset, .unset, .unset, .unset, .unset, .unset, .unset, .unset, .unset] [(.int c0), (.int (0 : Int32)), (.ref b4)])) tg_ → Steps p.tables e below (s₁.setTop (entryFrame m #[(.int p0), (.int p1), (.int p2), (.int p3), (.int p4)] maxLocals)) tg_ := by
        intro tg_ kk_
        refine p_5 tg_ ?_
        show Steps p.tables e below (T4.setTop (mkF m 33 #[.val (.int p0), .val (.int p1), .val (.int p2), .val (.int p3), .val (.int p4), .val (.int (own_i n)), .val (.int c0), .val (.int c1), .val (.int c2), .val (.int c3), .val (.ref b4), .unset, .unset, .unset, .unset, .unset, .unset, .unset, .unset, .unset, .unset, .unset, .unset] [(.int (own_i n))])) _
        refine XS.ifNo X4.here hx rfl (hb hby at_33) rfl ((if0 _ _).trans (tlt (show (0 : Int32) < (own_i n) from ((own_i_lt (j := 0) (by omega) (by omega)).mpr hl))).2.2.2) ?_
        show Steps p.tables e below (T4.setTop (mkF m 36 #[.val (.int p0), .val (.int p1), .val (.int p2), .val (.int p3), .val (.int p4), .val (.int (own_i n)), .val (.int c0), .val (.int c1), .val (.int c2), .val (.int c3), .val (.ref b4), .unset, .unset, .unset, .unset, .unset, .unset, .unset, .unset, .unset, .unset, .unset, .unset] [])) _
        refine XS.aload X4.here hx rfl (hb hby at_36) rfl rfl ?_
        show Steps p.tables e below (T4.setTop (mkF m 38 #[.val (.int p0), .val (.int p1), .val (.int p2), .val (.int p3), .val (.int p4), .val (.int (own_i n)), .val (.int c0), .val (.int c1), .val (.int c2), .val (.int c3), .val (.ref b4), .unset, .unset, .unset, .unset, .unset, .unset, .unset, .unset, .unset, .unset, .unset, .unset] [(.ref b4)])) _
        refine XS.iconst X4.here hx rfl (hb hby at_38) ?_
        show Steps p.tables e below (T4.setTop (mkF m 39 #[.val (.int p0), .val (.int p1), .val (.int p2), .val (.int p3), .val (.int p4), .val (.int (own_i n)), .val (.int c0), .val (.int c1), .val (.int c2), .val (.int c3), .val (.ref b4), .unset, .unset, .unset, .unset, .unset, .unset, .unset, .unset, .unset, .unset, .unset, .unset] [(.int (0 : Int32)), (.ref b4)])) _
        refine XS.iload X4.here hx rfl (hb hby at_39) rfl ?_
        exact kk_
      obtain ⟨T8, h8, X8, e8, W8, F8, st8⟩ := own_bastore X4 hx hZ e4 F4 (j := (0 : Int32)) (by decide) (show 0 < n from hl) (g := (mkF m 41 #[.val (.int p0), .val (.int p1), .val (.int p2), .val (.int p3), .val (.int p4), .val (.int (own_i n)), .val (.int c0), .val (.int c1), .val (.int c2), .val (.int c3), .val (.ref b4), .unset, .unset, .unset, .unset, .unset, .unset, .unset, .unset, .unset, .unset, .unset, .unset] [(.int c0), (.int (0 : Int32)), (.ref b4)])) rfl rfl (hb hby at_41)
      have N8 := Fr.snoc X8 N0 gb
      have p_9 : ∀ tg_, Steps p.tables e below (T8.setTop (mkF m 45 #[.val (.int p0), .val (.int p1), .val (.int p2), .val (.int p3), .val (.int p4), .val (.int (own_i n)), .val (.int c0), .val (.int c1), .val (.int c2), .val (.int c3), .val (.ref b4), .unset, .unset, .unset, .unset, .unset, .unset, .unset, .unset, .unset, .unset, .unset, .unset] [(.int (1 : Int32)), (.int (own_i n))])) tg_ → Steps p.tables e below (s₁.setTop (entryFrame m #[(.int p0), (.int p1), (.int p2), (.int p3), (.int p4)] maxLocals)) tg_ := by
        intro tg_ kk_
        refine p_7 tg_ ?_
        refine st8 _ ?_
        show Steps p.tables e below (T8.setTop (mkF m 42 #[.val (.int p0), .val (.int p1), .val (.int p2), .val (.int p3), .val (.int p4), .val (.int (own_i n)), .val (.int c0), .val (.int c1), .val (.int c2), .val (.int c3), .val (.ref b4), .unset, .unset, .unset, .unset, .unset, .unset, .unset, .unset, .unset, .unset, .unset, .unset] [])) _
        refine XS.iload X8.here hx rfl (hb hby at_42) rfl ?_
        show Steps p.tables e below (T8.setTop (mkF m 44 #[.val (.int p0), .val (.int p1), .val (.int p2), .val (.int p3), .val (.int p4), .val (.int (own_i n)), .val (.int c0), .val (.int c1), .val (.int c2), .val (.int c3), .val (.ref b4), .unset, .unset, .unset, .unset, .unset, .unset, .unset, .unset, .unset, .unset, .unset, .unset] [(.int (own_i n))])) _
        refine XS.iconst X8.here hx rfl (hb hby at_44) ?_
        exact kk_
      exact ⟨_, _, _, _, X8, e8, F8, EX4.wr W8, N8, by rw [W8.size]; exact Zk, fun _ => (if_pos rfl).trans bc0.2.2, p_9⟩
    have p_10 : ∀ tg_, Steps p.tables e below (T4.setTop (mkF m 45 #[.val (.int p0), .val (.int p1), .val (.int p2), .val (.int p3), .val (.int p4), .val (.int (own_i n)), .val (.int c0), .val (.int c1), .val (.int c2), .val (.int c3), .val (.ref b4), .unset, .unset, .unset, .unset, .unset, .unset, .unset, .unset, .unset, .unset, .unset, .unset] [(.int (1 : Int32)), (.int (own_i n))])) tg_ → Steps p.tables e below (s₁.setTop (entryFrame m #[(.int p0), (.int p1), (.int p2), (.int p3), (.int p4)] maxLocals)) tg_ := by
      intro tg_ kk_
      refine p_5 tg_ ?_
      show Steps p.tables e below (T4.setTop (mkF m 33 #[.val (.int p0), .val (.int p1), .val (.int p2), .val (.int p3), .val (.int p4), .val (.int (own_i n)), .val (.int c0), .val (.int c1), .val (.int c2), .val (.int c3), .val (.ref b4), .unset, .unset, .unset, .unset, .unset, .unset, .unset, .unset, .unset, .unset, .unset, .unset] [(.int (own_i n))])) _
      refine XS.ifYes X4.here hx rfl (pc0 := 33) (pc' := 42) rfl (hb hby at_33) rfl ((if0 _ _).trans (flt (show ¬ ((0 : Int32) < (own_i n)) from (fun q => hl ((own_i_lt (j := 0) (by omega) (by omega)).mp q)))).2.2.2) (by decide) (by decide) ?_
      show Steps p.tables e below (T4.setTop (mkF m 42 #[.val (.int p0), .val (.int p1), .val (.int p2), .val (.int p3), .val (.int p4), .val (.int (own_i n)), .val (.int c0), .val (.int c1), .val (.int c2), .val (.int c3), .val (.ref b4), .unset, .unset, .unset, .unset, .unset, .unset, .unset, .unset, .unset, .unset, .unset, .unset] [])) _
      refine XS.iload X4.here hx rfl (hb hby at_42) rfl ?_
      show Steps p.tables e below (T4.setTop (mkF m 44 #[.val (.int p0), .val (.int p1), .val (.int p2), .val (.int p3), .val (.int p4), .val (.int (own_i n)), .val (.int c0), .val (.int c1), .val (.int c2), .val (.int c3), .val (.ref b4), .unset, .unset, .unset, .unset, .unset, .unset, .unset, .unset, .unset, .unset, .unset, .unset] [(.int (own_i n))])) _
      refine XS.iconst X4.here hx rfl (hb hby at_44) ?_
      exact kk_
    exact ⟨_, _, _, _, X4, e4, F4, EX4, N0, Zk, fun u => absurd u hl, p_10⟩
  obtain ⟨TS1, hS1, LS1, f1, XS1, eS1, FS1, ES1, NS1, ZS1, hf1, p_11⟩ : ∃ (TS1 : State) (hS1 : Heap) (LS1 : List Loc) (f1 : Nat → Int32), Stand p l e room_1 s m #[(.int p0), (.int p1), (.int p2), (.int p3), (.int p4)] below meth c TS1 LS1 1 4 ∧ TS1.heap = hS1 ∧ OAf Z hS1 b4 .byte n f1 ∧ Exa Z hS1 b4 "[B" ∧ Fr n0 LS1 ∧ n0 ≤ hS1.size ∧ ((0 < n → f1 0 = c0) ∧ (1 < n → f1 1 = c1)) ∧ ∀ t, Steps p.tables e below (TS1.setTop (mkF m 57 #[.val (.int p0), .val (.int p1), .val (.int p2), .val (.int p3), .val (.int p4), .val (.int (own_i n)), .val (.int c0), .val (.int c1), .val (.int c2), .val (.int c3), .val (.ref b4), .unset, .unset, .unset, .unset, .unset, .unset, .unset, .unset, .unset, .unset, .unset, .unset] [(.int (2 : Int32)), (.int (own_i n))])) t → Steps p.tables e below (s₁.setTop (entryFrame m #[(.int p0), (.int p1), (.int p2), (.int p3), (.int p4)] maxLocals)) t := by
    by_cases hl : 1 < n
    · have hk : True := trivial
      have p_12 : ∀ tg_, Steps p.tables e below (TS0.setTop (mkF m 53 #[.val (.int p0), .val (.int p1), .val (.int p2), .val (.int p3), .val (.int p4), .val (.int (own_i n)), .val (.int c0), .val (.int c1), .val (.int c2), .val (.int c3), .val (.ref b4), .unset, .unset, .unset, .unset, .unset, .unset, .unset, .unset, .unset, .unset, .unset, .unset] [(.int c1), (.int (1 : Int32)), (.ref b4)])) tg_ → Steps p.tables e below (s₁.setTop (entryFrame m #[(.int p0), (.int p1), (.int p2), (.int p3), (.int p4)] maxLocals)) tg_ := by
        intro tg_ kk_
        refine p_6 tg_ ?_
        show Steps p.tables e below (TS0.setTop (mkF m 45 #[.val (.int p0), .val (.int p1), .val (.int p2), .val (.int p3), .val (.int p4), .val (.int (own_i n)), .val (.int c0), .val (.int c1), .val (.int c2), .val (.int c3), .val (.ref b4), .unset, .unset, .unset, .unset, .unset, .unset, .unset, .unset, .unset, .unset, .unset, .unset] [(.int (1 : Int32)), (.int (own_i n))])) _
        refine XS.icmpNo XS0.here hx rfl (hb hby at_45) rfl (tlt (show (1 : Int32) < (own_i n) from ((own_i_lt (j := 1) (by omega) (by omega)).mpr hl))).2.2.2 ?_
        show Steps p.tables e below (TS0.setTop (mkF m 48 #[.val (.int p0), .val (.int p1), .val (.int p2), .val (.int p3), .val (.int p4), .val (.int (own_i n)), .val (.int c0), .val (.int c1), .val (.int c2), .val (.int c3), .val (.ref b4), .unset, .unset, .unset, .unset, .unset, .unset, .unset, .unset, .unset, .unset, .unset, .unset] [])) _
        refine XS.aload XS0.here hx rfl (hb hby at_48) rfl rfl ?_
        show Steps p.tables e below (TS0.setTop (mkF m 50 #[.val (.int p0), .val (.int p1), .val (.int p2), .val (.int p3), .val (.int p4), .val (.int (own_i n)), .val (.int c0), .val (.int c1), .val (.int c2), .val (.int c3), .val (.ref b4), .unset, .unset, .unset, .unset, .unset, .unset, .unset, .unset, .unset, .unset, .unset, .unset] [(.ref b4)])) _
        refine XS.iconst XS0.here hx rfl (hb hby at_50) ?_
        show Steps p.tables e below (TS0.setTop (mkF m 51 #[.val (.int p0), .val (.int p1), .val (.int p2), .val (.int p3), .val (.int p4), .val (.int (own_i n)), .val (.int c0), .val (.int c1), .val (.int c2), .val (.int c3), .val (.ref b4), .unset, .unset, .unset, .unset, .unset, .unset, .unset, .unset, .unset, .unset, .unset, .unset] [(.int (1 : Int32)), (.ref b4)])) _
        refine XS.iload XS0.here hx rfl (hb hby at_51) rfl ?_
        exact kk_
      obtain ⟨T13, h13, X13, e13, W13, F13, st13⟩ := own_bastore XS0 hx hZ eS0 FS0 (j := (1 : Int32)) (by decide) (show 1 < n from hl) (g := (mkF m 53 #[.val (.int p0), .val (.int p1), .val (.int p2), .val (.int p3), .val (.int p4), .val (.int (own_i n)), .val (.int c0), .val (.int c1), .val (.int c2), .val (.int c3), .val (.ref b4), .unset, .unset, .unset, .unset, .unset, .unset, .unset, .unset, .unset, .unset, .unset, .unset] [(.int c1), (.int (1 : Int32)), (.ref b4)])) rfl rfl (hb hby at_53)
      have N13 := Fr.snoc X13 NS0 gb
      have p_14 : ∀ tg_, Steps p.tables e below (T13.setTop (mkF m 57 #[.val (.int p0), .val (.int p1), .val (.int p2), .val (.int p3), .val (.int p4), .val (.int (own_i n)), .val (.int c0), .val (.int c1), .val (.int c2), .val (.int c3), .val (.ref b4), .unset, .unset, .unset, .unset, .unset, .unset, .unset, .unset, .unset, .unset, .unset, .unset] [(.int (2 : Int32)), (.int (own_i n))])) tg_ → Steps p.tables e below (s₁.setTop (entryFrame m #[(.int p0), (.int p1), (.int p2), (.int p3), (.int p4)] maxLocals)) tg_ := by
        intro tg_ kk_
        refine p_12 tg_ ?_
        refine st13 _ ?_
        show Steps p.tables e below (T13.setTop (mkF m 54 #[.val (.int p0), .val (.int p1), .val (.int p2), .val (.int p3), .val (.int p4), .val (.int (own_i n)), .val (.int c0), .val (.int c1), .val (.int c2), .val (.int c3), .val (.ref b4), .unset, .unset, .unset, .unset, .unset, .unset, .unset, .unset, .unset, .unset, .unset, .unset] [])) _
        refine XS.iload X13.here hx rfl (hb hby at_54) rfl ?_
        show Steps p.tables e below (T13.setTop (mkF m 56 #[.val (.int p0), .val (.int p1), .val (.int p2), .val (.int p3), .val (.int p4), .val (.int (own_i n)), .val (.int c0), .val (.int c1), .val (.int c2), .val (.int c3), .val (.ref b4), .unset, .unset, .unset, .unset, .unset, .unset, .unset, .unset, .unset, .unset, .unset, .unset] [(.int (own_i n))])) _
        refine XS.iconst X13.here hx rfl (hb hby at_56) ?_
        exact kk_
      exact ⟨_, _, _, _, X13, e13, F13, ES0.wr W13, N13, by rw [W13.size]; exact ZS0, ⟨fun u => (if_neg (by decide)).trans (hf0 u), fun _ => (if_pos rfl).trans bc1.2.2⟩, p_14⟩
    have p_15 : ∀ tg_, Steps p.tables e below (TS0.setTop (mkF m 57 #[.val (.int p0), .val (.int p1), .val (.int p2), .val (.int p3), .val (.int p4), .val (.int (own_i n)), .val (.int c0), .val (.int c1), .val (.int c2), .val (.int c3), .val (.ref b4), .unset, .unset, .unset, .unset, .unset, .unset, .unset, .unset, .unset, .unset, .unset, .unset] [(.int (2 : Int32)), (.int (own_i n))])) tg_ → Steps p.tables e below (s₁.setTop (entryFrame m #[(.int p0), (.int p1), (.int p2), (.int p3), (.int p4)] maxLocals)) tg_ := by
      intro tg_ kk_
      refine p_6 tg_ ?_
      show Steps p.tables e below (TS0.setTop (mkF m 45 #[.val (.int p0), .val (.int p1), .val (.int p2), .val (.int p3), .val (.int p4), .val (.int (own_i n)), .val (.int c0), .val (.int c1), .val (.int c2), .val (.int c3), .val (.ref b4), .unset, .unset, .unset, .unset, .unset, .unset, .unset, .unset, .unset, .unset, .unset, .unset] [(.int (1 : Int32)), (.int (own_i n))])) _
      refine XS.icmpYes XS0.here hx rfl (pc0 := 45) (pc' := 54) rfl (hb hby at_45) rfl (flt (show ¬ ((1 : Int32) < (own_i n)) from (fun q => hl ((own_i_lt (j := 1) (by omega) (by omega)).mp q)))).2.2.2 (by decide) (by decide) ?_
      show Steps p.tables e below (TS0.setTop (mkF m 54 #[.val (.int p0), .val (.int p1), .val (.int p2), .val (.int p3), .val (.int p4), .val (.int (own_i n)), .val (.int c0), .val (.int c1), .val (.int c2), .val (.int c3), .val (.ref b4), .unset, .unset, .unset, .unset, .unset, .unset, .unset, .unset, .unset, .unset, .unset, .unset] [])) _
      refine XS.iload XS0.here hx rfl (hb hby at_54) rfl ?_
      show Steps p.tables e below (TS0.setTop (mkF m 56 #[.val (.int p0), .val (.int p1), .val (.int p2), .val (.int p3), .val (.int p4), .val (.int (own_i n)), .val (.int c0), .val (.int c1), .val (.int c2), .val (.int c3), .val (.ref b4), .unset, .unset, .unset, .unset, .unset, .unset, .unset, .unset, .unset, .unset, .unset, .unset] [(.int (own_i n))])) _
      refine XS.iconst XS0.here hx rfl (hb hby at_56) ?_
      exact kk_
    exact ⟨_, _, _, _, XS0, eS0, FS0, ES0, NS0, ZS0, ⟨hf0, fun u => absurd u hl⟩, p_15⟩
  obtain ⟨TS2, hS2, LS2, f2, XS2, eS2, FS2, ES2, NS2, ZS2, hf2, p_16⟩ : ∃ (TS2 : State) (hS2 : Heap) (LS2 : List Loc) (f2 : Nat → Int32), Stand p l e room_1 s m #[(.int p0), (.int p1), (.int p2), (.int p3), (.int p4)] below meth c TS2 LS2 1 4 ∧ TS2.heap = hS2 ∧ OAf Z hS2 b4 .byte n f2 ∧ Exa Z hS2 b4 "[B" ∧ Fr n0 LS2 ∧ n0 ≤ hS2.size ∧ ((0 < n → f2 0 = c0) ∧ (1 < n → f2 1 = c1) ∧ (2 < n → f2 2 = c2)) ∧ ∀ t, Steps p.tables e below (TS2.setTop (mkF m 69 #[.val (.int p0), .val (.int p1), .val (.int p2), .val (.int p3), .val (.int p4), .val (.int (own_i n)), .val (.int c0), .val (.int c1), .val (.int c2), .val (.int c3), .val (.ref b4), .unset, .unset, .unset, .unset, .unset, .unset, .unset, .unset, .unset, .unset, .unset, .unset] [(.int (3 : Int32)), (.int (own_i n))])) t → Steps p.tables e below (s₁.setTop (entryFrame m #[(.int p0), (.int p1), (.int p2), (.int p3), (.int p4)] maxLocals)) t := by
    by_cases hl : 2 < n
    · have hk : True := trivial
      have p_17 : ∀ tg_, Steps p.tables e below (TS1.setTop (mkF m 65 #[.val (.int p0), .val (.int p1), .val (.int p2), .val (.int p3), .val (.int p4), .val (.int (own_i n)), .val (.int c0), .val (.int c1), .val (.int c2), .val (.int c3), .val (.ref b4), .unset, .unset, .unset, .unset, .unset, .unset, .unset, .unset, .unset, .unset, .unset, .unset] [(.int c2), (.int (2 : Int32)), (.ref b4)])) tg_ → Steps p.tables e below (s₁.setTop (entryFrame m #[(.int p0), (.int p1), (.int p2), (.int p3), (.int p4)] maxLocals)) tg_ := by
        intro tg_ kk_
        refine p_11 tg_ ?_
        show Steps p.tables e below (TS1.setTop (mkF m 57 #[.val (.int p0), .val (.int p1), .val (.int p2), .val (.int p3), .val (.int p4), .val (.int (own_i n)), .val (.int c0), .val (.int c1), .val (.int c2), .val (.int c3), .val (.ref b4), .unset, .unset, .unset, .unset, .unset, .unset, .unset, .unset, .unset, .unset, .unset, .unset] [(.int (2 : Int32)), (.int (own_i n))])) _
        refine XS.icmpNo XS1.here hx rfl (hb hby at_57) rfl (tlt (show (2 : Int32) < (own_i n) from ((own_i_lt (j := 2) (by omega) (by omega)).mpr hl))).2.2.2 ?_
        show Steps p.tables e below (TS1.setTop (mkF m 60 #[.val (.int p0), .val (.int p1), .val (.int p2), .val (.int p3), .val (.int p4), .val (.int (own_i n)), .val (.int c0), .val (.int c1), .val (.int c2), .val (.int c3), .val (.ref b4), .unset, .unset, .unset, .unset, .unset, .unset, .unset, .unset, .unset, .unset, .unset, .unset] [])) _
        refine XS.aload XS1.here hx rfl (hb hby at_60) rfl rfl ?_
        show Steps p.tables e below (TS1.setTop (mkF m 62 #[.val (.int p0), .val (.int p1), .val (.int p2), .val (.int p3), .val (.int p4), .val (.int (own_i n)), .val (.int c0), .val (.int c1), .val (.int c2), .val (.int c3), .val (.ref b4), .unset, .unset, .unset, .unset, .unset, .unset, .unset, .unset, .unset, .unset, .unset, .unset] [(.ref b4)])) _
        refine XS.iconst XS1.here hx rfl (hb hby at_62) ?_
        show Steps p.tables e below (TS1.setTop (mkF m 63 #[.val (.int p0), .val (.int p1), .val (.int p2), .val (.int p3), .val (.int p4), .val (.int (own_i n)), .val (.int c0), .val (.int c1), .val (.int c2), .val (.int c3), .val (.ref b4), .unset, .unset, .unset, .unset, .unset, .unset, .unset, .unset, .unset, .unset, .unset, .unset] [(.int (2 : Int32)), (.ref b4)])) _
        refine XS.iload XS1.here hx rfl (hb hby at_63) rfl ?_
        exact kk_
      obtain ⟨T18, h18, X18, e18, W18, F18, st18⟩ := own_bastore XS1 hx hZ eS1 FS1 (j := (2 : Int32)) (by decide) (show 2 < n from hl) (g := (mkF m 65 #[.val (.int p0), .val (.int p1), .val (.int p2), .val (.int p3), .val (.int p4), .val (.int (own_i n)), .val (.int c0), .val (.int c1), .val (.int c2), .val (.int c3), .val (.ref b4), .unset, .unset, .unset, .unset, .unset, .unset, .unset, .unset, .unset, .unset, .unset, .unset] [(.int c2), (.int (2 : Int32)), (.ref b4)])) rfl rfl (hb hby at_65)
      have N18 := Fr.snoc X18 NS1 gb
      have p_19 : ∀ tg_, Steps p.tables e below (T18.setTop (mkF m 69 #[.val (.int p0), .val (.int p1), .val (.int p2), .val (.int p3), .val (.int p4), .val (.int (own_i n)), .val (.int c0), .val (.int c1), .val (.int c2), .val (.int c3), .val (.ref b4), .unset, .unset, .unset, .unset, .unset, .unset, .unset, .unset, .unset, .unset, .unset, .unset] [(.int (3 : Int32)), (.int (own_i n))])) tg_ → Steps p.tables e below (s₁.setTop (entryFrame m #[(.int p0), (.int p1), (.int p2), (.int p3), (.int p4)] maxLocals)) tg_ := by
        intro tg_ kk_
        refine p_17 tg_ ?_
        refine st18 _ ?_
        show Steps p.tables e below (T18.setTop (mkF m 66 #[.val (.int p0), .val (.int p1), .val (.int p2), .val (.int p3), .val (.int p4), .val (.int (own_i n)), .val (.int c0), .val (.int c1), .val (.int c2), .val (.int c3), .val (.ref b4), .unset, .unset, .unset, .unset, .unset, .unset, .unset, .unset, .unset, .unset, .unset, .unset] [])) _
        refine XS.iload X18.here hx rfl (hb hby at_66) rfl ?_
        show Steps p.tables e below (T18.setTop (mkF m 68 #[.val (.int p0), .val (.int p1), .val (.int p2), .val (.int p3), .val (.int p4), .val (.int (own_i n)), .val (.int c0), .val (.int c1), .val (.int c2), .val (.int c3), .val (.ref b4), .unset, .unset, .unset, .unset, .unset, .unset, .unset, .unset, .unset, .unset, .unset, .unset] [(.int (own_i n))])) _
        refine XS.iconst X18.here hx rfl (hb hby at_68) ?_
        exact kk_
      exact ⟨_, _, _, _, X18, e18, F18, ES1.wr W18, N18, by rw [W18.size]; exact ZS1, ⟨fun u => (if_neg (by decide)).trans (hf1.1 u), fun u => (if_neg (by decide)).trans (hf1.2 u), fun _ => (if_pos rfl).trans bc2.2.2⟩, p_19⟩
    have p_20 : ∀ tg_, Steps p.tables e below (TS1.setTop (mkF m 69 #[.val (.int p0), .val (.int p1), .val (.int p2), .val (.int p3), .val (.int p4), .val (.int (own_i n)), .val (.int c0), .val (.int c1), .val (.int c2), .val (.int c3), .val (.ref b4), .unset, .unset, .unset, .unset, .unset, .unset, .unset, .unset, .unset, .unset, .unset, .unset] [(.int (3 : Int32)), (.int (own_i n))])) tg_ → Steps p.tables e below (s₁.setTop (entryFrame m #[(.int p0), (.int p1), (.int p2), (.int p3), (.int p4)] maxLocals)) tg_ := by
      intro tg_ kk_
      refine p_11 tg_ ?_
      show Steps p.tables e below (TS1.setTop (mkF m 57 #[.val (.int p0), .val (.int p1), .val (.int p2), .val (.int p3), .val (.int p4), .val (.int (own_i n)), .val (.int c0), .val (.int c1), .val (.int c2), .val (.int c3), .val (.ref b4), .unset, .unset, .unset, .unset, .unset, .unset, .unset, .unset, .unset, .unset, .unset, .unset] [(.int (2 : Int32)), (.int (own_i n))])) _
      refine XS.icmpYes XS1.here hx rfl (pc0 := 57) (pc' := 66) rfl (hb hby at_57) rfl (flt (show ¬ ((2 : Int32) < (own_i n)) from (fun q => hl ((own_i_lt (j := 2) (by omega) (by omega)).mp q)))).2.2.2 (by decide) (by decide) ?_
      show Steps p.tables e below (TS1.setTop (mkF m 66 #[.val (.int p0), .val (.int p1), .val (.int p2), .val (.int p3), .val (.int p4), .val (.int (own_i n)), .val (.int c0), .val (.int c1), .val (.int c2), .val (.int c3), .val (.ref b4), .unset, .unset, .unset, .unset, .unset, .unset, .unset, .unset, .unset, .unset, .unset, .unset] [])) _
      refine XS.iload XS1.here hx rfl (hb hby at_66) rfl ?_
      show Steps p.tables e below (TS1.setTop (mkF m 68 #[.val (.int p0), .val (.int p1), .val (.int p2), .val (.int p3), .val (.int p4), .val (.int (own_i n)), .val (.int c0), .val (.int c1), .val (.int c2), .val (.int c3), .val (.ref b4), .unset, .unset, .unset, .unset, .unset, .unset, .unset, .unset, .unset, .unset, .unset, .unset] [(.int (own_i n))])) _
      refine XS.iconst XS1.here hx rfl (hb hby at_68) ?_
      exact kk_
    exact ⟨_, _, _, _, XS1, eS1, FS1, ES1, NS1, ZS1, ⟨hf1.1, hf1.2, fun u => absurd u hl⟩, p_20⟩
  obtain ⟨TS3, hS3, LS3, f3, XS3, eS3, FS3, ES3, NS3, ZS3, hf3, p_21⟩ : ∃ (TS3 : State) (hS3 : Heap) (LS3 : List Loc) (f3 : Nat → Int32), Stand p l e room_1 s m #[(.int p0), (.int p1), (.int p2), (.int p3), (.int p4)] below meth c TS3 LS3 1 4 ∧ TS3.heap = hS3 ∧ OAf Z hS3 b4 .byte n f3 ∧ Exa Z hS3 b4 "[B" ∧ Fr n0 LS3 ∧ n0 ≤ hS3.size ∧ ((0 < n → f3 0 = c0) ∧ (1 < n → f3 1 = c1) ∧ (2 < n → f3 2 = c2) ∧ (3 < n → f3 3 = c3)) ∧ ∀ t, Steps p.tables e below (TS3.setTop (mkF m 80 #[.val (.int p0), .val (.int p1), .val (.int p2), .val (.int p3), .val (.int p4), .val (.int (own_i n)), .val (.int c0), .val (.int c1), .val (.int c2), .val (.int c3), .val (.ref b4), .unset, .unset, .unset, .unset, .unset, .unset, .unset, .unset, .unset, .unset, .unset, .unset] [(.ref b4)])) t → Steps p.tables e below (s₁.setTop (entryFrame m #[(.int p0), (.int p1), (.int p2), (.int p3), (.int p4)] maxLocals)) t := by
    by_cases hl : 3 < n
    · have hk : True := trivial
      have p_22 : ∀ tg_, Steps p.tables e below (TS2.setTop (mkF m 77 #[.val (.int p0), .val (.int p1), .val (.int p2), .val (.int p3), .val (.int p4), .val (.int (own_i n)), .val (.int c0), .val (.int c1), .val (.int c2), .val (.int c3), .val (.ref b4), .unset, .unset, .unset, .unset, .unset, .unset, .unset, .unset, .unset, .unset, .unset, .unset] [(.int c3), (.int (3 : Int32)), (.ref b4)])) tg_ → Steps p.tables e below (s₁.setTop (entryFrame m #[(.int p0), (.int p1), (.int p2), (.int p3), (.int p4)] maxLocals)) tg_ := by
        intro tg_ kk_
        refine p_16 tg_ ?_
        show Steps p.tables e below (TS2.setTop (mkF m 69 #[.val (.int p0), .val (.int p1), .val (.int p2), .val (.int p3), .val (.int p4), .val (.int (own_i n)), .val (.int c0), .val (.int c1), .val (.int c2), .val (.int c3), .val (.ref b4), .unset, .unset, .unset, .unset, .unset, .unset, .unset, .unset, .unset, .unset, .unset, .unset] [(.int (3 : Int32)), (.int (own_i n))])) _
        refine XS.icmpNo XS2.here hx rfl (hb hby at_69) rfl (tlt (show (3 : Int32) < (own_i n) from ((own_i_lt (j := 3) (by omega) (by omega)).mpr hl))).2.2.2 ?_
        show Steps p.tables e below (TS2.setTop (mkF m 72 #[.val (.int p0), .val (.int p1), .val (.int p2), .val (.int p3), .val (.int p4), .val (.int (own_i n)), .val (.int c0), .val (.int c1), .val (.int c2), .val (.int c3), .val (.ref b4), .unset, .unset, .unset, .unset, .unset, .unset, .unset, .unset, .unset, .unset, .unset, .unset] [])) _
        refine XS.aload XS2.here hx rfl (hb hby at_72) rfl rfl ?_
        show Steps p.tables e below (TS2.setTop (mkF m 74 #[.val (.int p0), .val (.int p1), .val (.int p2), .val (.int p3), .val (.int p4), .val (.int (own_i n)), .val (.int c0), .val (.int c1), .val (.int c2), .val (.int c3), .val (.ref b4), .unset, .unset, .unset, .unset, .unset, .unset, .unset, .unset, .unset, .unset, .unset, .unset] [(.ref b4)])) _
        refine XS.iconst XS2.here hx rfl (hb hby at_74) ?_
        show Steps p.tables e below (TS2.setTop (mkF m 75 #[.val (.int p0), .val (.int p1), .val (.int p2), .val (.int p3), .val (.int p4), .val (.int (own_i n)), .val (.int c0), .val (.int c1), .val (.int c2), .val (.int c3), .val (.ref b4), .unset, .unset, .unset, .unset, .unset, .unset, .unset, .unset, .unset, .unset, .unset, .unset] [(.int (3 : Int32)), (.ref b4)])) _
        refine XS.iload XS2.here hx rfl (hb hby at_75) rfl ?_
        exact kk_
      obtain ⟨T23, h23, X23, e23, W23, F23, st23⟩ := own_bastore XS2 hx hZ eS2 FS2 (j := (3 : Int32)) (by decide) (show 3 < n from hl) (g := (mkF m 77 #[.val (.int p0), .val (.int p1), .val (.int p2), .val (.int p3), .val (.int p4), .val (.int (own_i n)), .val (.int c0), .val (.int c1), .val (.int c2), .val (.int c3), .val (.ref b4), .unset, .unset, .unset, .unset, .unset, .unset, .unset, .unset, .unset, .unset, .unset, .unset] [(.int c3), (.int (3 : Int32)), (.ref b4)])) rfl rfl (hb hby at_77)
      have N23 := Fr.snoc X23 NS2 gb
      have p_24 : ∀ tg_, Steps p.tables e below (T23.setTop (mkF m 80 #[.val (.int p0), .val (.int p1), .val (.int p2), .val (.int p3), .val (.int p4), .val (.int (own_i n)), .val (.int c0), .val (.int c1), .val (.int c2), .val (.int c3), .val (.ref b4), .unset, .unset, .unset, .unset, .unset, .unset, .unset, .unset, .unset, .unset, .unset, .unset] [(.ref b4)])) tg_ → Steps p.tables e below (s₁.setTop (entryFrame m #[(.int p0), (.int p1), (.int p2), (.int p3), (.int p4)] maxLocals)) tg_ := by
        intro tg_ kk_
        refine p_22 tg_ ?_
        refine st23 _ ?_
        show Steps p.tables e below (T23.setTop (mkF m 78 #[.val (.int p0), .val (.int p1), .val (.int p2), .val (.int p3), .val (.int p4), .val (.int (own_i n)), .val (.int c0), .val (.int c1), .val (.int c2), .val (.int c3), .val (.ref b4), .unset, .unset, .unset, .unset, .unset, .unset, .unset, .unset, .unset, .unset, .unset, .unset] [])) _
        refine XS.aload X23.here hx rfl (hb hby at_78) rfl rfl ?_
        exact kk_
      exact ⟨_, _, _, _, X23, e23, F23, ES2.wr W23, N23, by rw [W23.size]; exact ZS2, ⟨fun u => (if_neg (by decide)).trans (hf2.1 u), fun u => (if_neg (by decide)).trans (hf2.2.1 u), fun u => (if_neg (by decide)).trans (hf2.2.2 u), fun _ => (if_pos rfl).trans bc3.2.2⟩, p_24⟩
    have p_25 : ∀ tg_, Steps p.tables e below (TS2.setTop (mkF m 80 #[.val (.int p0), .val (.int p1), .val (.int p2), .val (.int p3), .val (.int p4), .val (.int (own_i n)), .val (.int c0), .val (.int c1), .val (.int c2), .val (.int c3), .val (.ref b4), .unset, .unset, .unset, .unset, .unset, .unset, .unset, .unset, .unset, .unset, .unset, .unset] [(.ref b4)])) tg_ → Steps p.tables e below (s₁.setTop (entryFrame m #[(.int p0), (.int p1), (.int p2), (.int p3), (.int p4)] maxLocals)) tg_ := by
      intro tg_ kk_
      refine p_16 tg_ ?_
      show Steps p.tables e below (TS2.setTop (mkF m 69 #[.val (.int p0), .val (.int p1), .val (.int p2), .val (.int p3), .val (.int p4), .val (.int (own_i n)), .val (.int c0), .val (.int c1), .val (.int c2), .val (.int c3), .val (.ref b4), .unset, .unset, .unset, .unset, .unset, .unset, .unset, .unset, .unset, .unset, .unset, .unset] [(.int (3 : Int32)), (.int (own_i n))])) _
      refine XS.icmpYes XS2.here hx rfl (pc0 := 69) (pc' := 78) rfl (hb hby at_69) rfl (flt (show ¬ ((3 : Int32) < (own_i n)) from (fun q => hl ((own_i_lt (j := 3) (by omega) (by omega)).mp q)))).2.2.2 (by decide) (by decide) ?_
      show Steps p.tables e below (TS2.setTop (mkF m 78 #[.val (.int p0), .val (.int p1), .val (.int p2), .val (.int p3), .val (.int p4), .val (.int (own_i n)), .val (.int c0), .val (.int c1), .val (.int c2), .val (.int c3), .val (.ref b4), .unset, .unset, .unset, .unset, .unset, .unset, .unset, .unset, .unset, .unset, .unset, .unset] [])) _
      refine XS.aload XS2.here hx rfl (hb hby at_78) rfl rfl ?_
      exact kk_
    exact ⟨_, _, _, _, XS2, eS2, FS2, ES2, NS2, ZS2, ⟨hf2.1, hf2.2.1, hf2.2.2, fun u => absurd u hl⟩, p_25⟩
  obtain ⟨_, _, ⟨T26, L26, k26, n26⟩, -, X26, SN26, hgr26, ⟨Lc26, hQ26, l26, y26, z26⟩, st26⟩ := callSS XS3 hx (y := (⟨"prefixshift/Pattern", "of", "([B)Lprefixshift/Pattern;"⟩ : MethodName)) hown (mvT hZ (hw _ (List.mem_of_getElem? (i := 2) rfl))) (mvT hZ (hw _ (List.mem_of_getElem? (i := 3) rfl))) (mvT hZ (hw _ (List.mem_of_getElem? (i := 4) rfl))) (mvT hZ (hw _ (List.mem_of_getElem? (i := 5) rfl))) (by decide) (backOfS (W := 0) (rm_pof l Z a0 hw [] b4 n f3 hS3 n0 ZS3 hn FS3 ES3) hZ (hw _ (List.mem_of_getElem? (i := 5) rfl)) (hw _ (List.mem_of_getElem? (i := 4) rfl)) (by decide) (by decide)) (g := (mkF m 80 #[.val (.int p0), .val (.int p1), .val (.int p2), .val (.int p3), .val (.int p4), .val (.int (own_i n)), .val (.int c0), .val (.int c1), .val (.int c2), .val (.int c3), .val (.ref b4), .unset, .unset, .unset, .unset, .unset, .unset, .unset, .unset, .unset, .unset, .unset, .unset] [(.ref b4)])) rfl (by rw [hml]; rfl) (argsL := [(.ref b4)]) (rest := []) (lenOf pd_law_0 rfl) rfl (by show 2 * 0 + _ ≤ _; exact Nat.le_of_eq rfl) (hb hby at_80) (fun _ _ => ⟨rfl, eS3, (by decide : 1 + 5 ≤ _), (by decide : 4 + 44 ≤ _)⟩)
  dsimp only [Pt.U, Pt.locs, Pt.cells, Pt.slots] at X26 SN26 hgr26 l26 y26 z26 st26 hQ26
  subst l26 y26 z26
  obtain ⟨pt, tb, u2, rfl, Nq, szq, J1, J2, J3, J4, J5, J6, J7⟩ := hQ26
  have N26 := Fr.app NS3 Nq
  have hZ1 : Z.Warmed39 (s.setVm T26.vm).vm := State.Warmed39.trans (t := s) hZ SN26.1
  have hown1 : (s.setVm T26.vm).vm.findClass "prefixshift/PatternOf328PinLaw" = some m.cls := by rw [show (s.setVm T26.vm).vm = T26.vm from rfl, SN26.1.alike.findClass]; exact hown
  have hZ := hZ1
  have hown := hown1
  have Zq : n0 ≤ T26.heap.size := Nat.le_trans ZS3 szq
  have p_27 : ∀ tg_, Steps p.tables e below (T26.setTop (mkF m 87 #[.val (.int p0), .val (.int p1), .val (.int p2), .val (.int p3), .val (.int p4), .val (.int (own_i n)), .val (.int c0), .val (.int c1), .val (.int c2), .val (.int c3), .val (.ref b4), .val (.ref pt), .unset, .unset, .unset, .unset, .unset, .unset, .unset, .unset, .unset, .unset, .unset] [(.ref pt)])) tg_ → Steps p.tables e below (s₁.setTop (entryFrame m #[(.int p0), (.int p1), (.int p2), (.int p3), (.int p4)] maxLocals)) tg_ := by
    intro tg_ kk_
    refine p_21 tg_ ?_
    refine st26.trans ?_
    show Steps p.tables e below (T26.setTop (mkF m 83 #[.val (.int p0), .val (.int p1), .val (.int p2), .val (.int p3), .val (.int p4), .val (.int (own_i n)), .val (.int c0), .val (.int c1), .val (.int c2), .val (.int c3), .val (.ref b4), .unset, .unset, .unset, .unset, .unset, .unset, .unset, .unset, .unset, .unset, .unset, .unset] [(.ref pt)])) _
    refine XS.astore X26.here hx rfl (hb hby at_83) rfl rfl (l' := #[.val (.int p0), .val (.int p1), .val (.int p2), .val (.int p3), .val (.int p4), .val (.int (own_i n)), .val (.int c0), .val (.int c1), .val (.int c2), .val (.int c3), .val (.ref b4), .val (.ref pt), .unset, .unset, .unset, .unset, .unset, .unset, .unset, .unset, .unset, .unset, .unset]) rfl ?_
    show Steps p.tables e below (T26.setTop (mkF m 85 #[.val (.int p0), .val (.int p1), .val (.int p2), .val (.int p3), .val (.int p4), .val (.int (own_i n)), .val (.int c0), .val (.int c1), .val (.int c2), .val (.int c3), .val (.ref b4), .val (.ref pt), .unset, .unset, .unset, .unset, .unset, .unset, .unset, .unset, .unset, .unset, .unset] [])) _
    refine XS.aload X26.here hx rfl (hb hby at_85) rfl rfl ?_
    exact kk_
  obtain ⟨cq28, kq28, q28a, q28b, q28c⟩ := isOf hZ rfl J1
  obtain ⟨_, _, ⟨T28, L28, k28, n28⟩, -, X28, ⟨Lc28, hQ28, l28, y28, z28⟩, st28⟩ := X26.virtualBack hx (y := (⟨"prefixshift/Pattern", "prefixTable", "()[I"⟩ : MethodName)) (z := (⟨"prefixshift/Pattern", "prefixTable", "()[I"⟩ : MethodName)) hown (mvT hZ (hw _ (List.mem_of_getElem? (i := 40) rfl))) (mvT hZ (hw _ (List.mem_of_getElem? (i := 41) rfl))) (notFace_of_selects (args := #[]) (mvT hZ (hw _ (List.mem_of_getElem? (i := 43) rfl)))) (mvT hZ (hw _ (List.mem_of_getElem? (i := 43) rfl))) (mvT hZ (hw _ (List.mem_of_getElem? (i := 42) rfl))) (by decide) (backOf (W := 0) (rm_ptb l Z a0 hw [] pt tb n _ T26.heap n0 Zq hn J3 J6 J7) hZ (hw _ (List.mem_of_getElem? (i := 44) rfl)) (hw _ (List.mem_of_getElem? (i := 4) rfl)) (by decide) (by decide)) q28a q28c (g := (mkF m 87 #[.val (.int p0), .val (.int p1), .val (.int p2), .val (.int p3), .val (.int p4), .val (.int (own_i n)), .val (.int c0), .val (.int c1), .val (.int c2), .val (.int c3), .val (.ref b4), .val (.ref pt), .unset, .unset, .unset, .unset, .unset, .unset, .unset, .unset, .unset, .unset, .unset] [(.ref pt)])) rfl (by rw [hml]; rfl) (Steps.refl _) (argsL := []) (rest := []) (lenOf pd_law_1 rfl) rfl (by show 2 * 0 + _ ≤ _; exact Nat.le_of_eq rfl) (hb hby at_87) (fun _ _ => ⟨rfl, rfl, (by decide : 6 + 1 ≤ _), (by decide : 48 + 4 ≤ _)⟩)
  dsimp only [Pt.U, Pt.locs, Pt.cells, Pt.slots] at X28 l28 y28 z28 st28 hQ28
  subst l28 y28 z28
  obtain ⟨cb, rfl, N28q, gcb, FCB, XE⟩ := hQ28
  have N28 := Fr.app N26 N28q
  have p_29 : ∀ tg_, Steps p.tables e below (T28.setTop (mkF m 102 #[.val (.int p0), .val (.int p1), .val (.int p2), .val (.int p3), .val (.int p4), .val (.int (own_i n)), .val (.int c0), .val (.int c1), .val (.int c2), .val (.int c3), .val (.ref b4), .val (.ref pt), .val (.ref cb), .unset, .unset, .unset, .unset, .unset, .unset, .unset, .unset, .unset, .unset] [])) tg_ → Steps p.tables e below (s₁.setTop (entryFrame m #[(.int p0), (.int p1), (.int p2), (.int p3), (.int p4)] maxLocals)) tg_ := by
    intro tg_ kk_
    refine p_27 tg_ ?_
    refine st28.trans ?_
    show Steps p.tables e below (T28.setTop (mkF m 90 #[.val (.int p0), .val (.int p1), .val (.int p2), .val (.int p3), .val (.int p4), .val (.int (own_i n)), .val (.int c0), .val (.int c1), .val (.int c2), .val (.int c3), .val (.ref b4), .val (.ref pt), .unset, .unset, .unset, .unset, .unset, .unset, .unset, .unset, .unset, .unset, .unset] [(.ref cb)])) _
    refine XS.astore X28.here hx rfl (hb hby at_90) rfl rfl (l' := #[.val (.int p0), .val (.int p1), .val (.int p2), .val (.int p3), .val (.int p4), .val (.int (own_i n)), .val (.int c0), .val (.int c1), .val (.int c2), .val (.int c3), .val (.ref b4), .val (.ref pt), .val (.ref cb), .unset, .unset, .unset, .unset, .unset, .unset, .unset, .unset, .unset, .unset]) rfl ?_
    show Steps p.tables e below (T28.setTop (mkF m 92 #[.val (.int p0), .val (.int p1), .val (.int p2), .val (.int p3), .val (.int p4), .val (.int (own_i n)), .val (.int c0), .val (.int c1), .val (.int c2), .val (.int c3), .val (.ref b4), .val (.ref pt), .val (.ref cb), .unset, .unset, .unset, .unset, .unset, .unset, .unset, .unset, .unset, .unset] [])) _
    refine XS.aload X28.here hx rfl (hb hby at_92) rfl rfl ?_
    show Steps p.tables e below (T28.setTop (mkF m 94 #[.val (.int p0), .val (.int p1), .val (.int p2), .val (.int p3), .val (.int p4), .val (.int (own_i n)), .val (.int c0), .val (.int c1), .val (.int c2), .val (.int c3), .val (.ref b4), .val (.ref pt), .val (.ref cb), .unset, .unset, .unset, .unset, .unset, .unset, .unset, .unset, .unset, .unset] [(.ref cb)])) _
    refine own_len X28 hx hZ rfl FCB (z := (own_i n)) rfl (g := (mkF m 94 #[.val (.int p0), .val (.int p1), .val (.int p2), .val (.int p3), .val (.int p4), .val (.int (own_i n)), .val (.int c0), .val (.int c1), .val (.int c2), .val (.int c3), .val (.ref b4), .val (.ref pt), .val (.ref cb), .unset, .unset, .unset, .unset, .unset, .unset, .unset, .unset, .unset, .unset] [(.ref cb)])) rfl rfl (hb hby at_94) _ ?_
    show Steps p.tables e below (T28.setTop (mkF m 95 #[.val (.int p0), .val (.int p1), .val (.int p2), .val (.int p3), .val (.int p4), .val (.int (own_i n)), .val (.int c0), .val (.int c1), .val (.int c2), .val (.int c3), .val (.ref b4), .val (.ref pt), .val (.ref cb), .unset, .unset, .unset, .unset, .unset, .unset, .unset, .unset, .unset, .unset] [(.int (own_i n))])) _
    refine XS.iload X28.here hx rfl (hb hby at_95) rfl ?_
    show Steps p.tables e below (T28.setTop (mkF m 97 #[.val (.int p0), .val (.int p1), .val (.int p2), .val (.int p3), .val (.int p4), .val (.int (own_i n)), .val (.int c0), .val (.int c1), .val (.int c2), .val (.int c3), .val (.ref b4), .val (.ref pt), .val (.ref cb), .unset, .unset, .unset, .unset, .unset, .unset, .unset, .unset, .unset, .unset] [(.int (own_i n)), (.int (own_i n))])) _
    refine XS.icmpYes X28.here hx rfl (pc0 := 97) (pc' := 102) rfl (hb hby at_97) rfl (teq (show (own_i n) = (own_i n) from rfl)).1 (by decide) (by decide) ?_
    exact kk_
  have Zr : n0 ≤ T28.heap.size := Nat.le_trans Zq XE.1
  have p_30 : ∀ tg_, Steps p.tables e below (T28.setTop (mkF m 104 #[.val (.int p0), .val (.int p1), .val (.int p2), .val (.int p3), .val (.int p4), .val (.int (own_i n)), .val (.int c0), .val (.int c1), .val (.int c2), .val (.int c3), .val (.ref b4), .val (.ref pt), .val (.ref cb), .unset, .unset, .unset, .unset, .unset, .unset, .unset, .unset, .unset, .unset] [(.ref pt)])) tg_ → Steps p.tables e below (s₁.setTop (entryFrame m #[(.int p0), (.int p1), (.int p2), (.int p3), (.int p4)] maxLocals)) tg_ := by
    intro tg_ kk_
    refine p_29 tg_ ?_
    show Steps p.tables e below (T28.setTop (mkF m 102 #[.val (.int p0), .val (.int p1), .val (.int p2), .val (.int p3), .val (.int p4), .val (.int (own_i n)), .val (.int c0), .val (.int c1), .val (.int c2), .val (.int c3), .val (.ref b4), .val (.ref pt), .val (.ref cb), .unset, .unset, .unset, .unset, .unset, .unset, .unset, .unset, .unset, .unset] [])) _
    refine XS.aload X28.here hx rfl (hb hby at_102) rfl rfl ?_
    exact kk_
  obtain ⟨cq31, kq31, q31a, q31b, q31c⟩ := isOf hZ rfl (J1.ext XE)
  obtain ⟨_, _, ⟨T31, L31, k31, n31⟩, -, X31, ⟨Lc31, hQ31, l31, y31, z31⟩, st31⟩ := X28.virtualBack hx (y := (⟨"prefixshift/Pattern", "length", "()I"⟩ : MethodName)) (z := (⟨"prefixshift/Pattern", "length", "()I"⟩ : MethodName)) hown (mvT hZ (hw _ (List.mem_of_getElem? (i := 54) rfl))) (mvT hZ (hw _ (List.mem_of_getElem? (i := 55) rfl))) (notFace_of_selects (args := #[]) (mvT hZ (hw _ (List.mem_of_getElem? (i := 57) rfl)))) (mvT hZ (hw _ (List.mem_of_getElem? (i := 57) rfl))) (mvT hZ (hw _ (List.mem_of_getElem? (i := 56) rfl))) (by decide) (backOf (W := 0) (rm_len l Z a0 hw [] pt u2 n _ T28.heap n0 Zr (J2.ext XE) (J5.ext XE)) hZ (hw _ (List.mem_of_getElem? (i := 58) rfl)) (hw _ (List.mem_of_getElem? (i := 4) rfl)) (by decide) (by decide)) q31a q31c (g := (mkF m 104 #[.val (.int p0), .val (.int p1), .val (.int p2), .val (.int p3), .val (.int p4), .val (.int (own_i n)), .val (.int c0), .val (.int c1), .val (.int c2), .val (.int c3), .val (.ref b4), .val (.ref pt), .val (.ref cb), .unset, .unset, .unset, .unset, .unset, .unset, .unset, .unset, .unset, .unset] [(.ref pt)])) rfl (by rw [hml]; rfl) (Steps.refl _) (argsL := []) (rest := []) (lenOf pd_law_2 rfl) rfl (by show 2 * 0 + _ ≤ _; exact Nat.le_of_eq rfl) (hb hby at_104) (fun _ _ => ⟨rfl, rfl, (by decide : 7 + 0 ≤ _), (by decide : 52 + 0 ≤ _)⟩)
  dsimp only [Pt.U, Pt.locs, Pt.cells, Pt.slots] at X31 l31 y31 z31 st31 hQ31
  subst l31 y31 z31
  obtain ⟨rfl, N31q, hh31⟩ := hQ31
  have N31 := Fr.app N28 N31q
  have eR : T31.heap = T28.heap := hh31
  have p_32 : ∀ tg_, Steps p.tables e below (T31.setTop (mkF m 116 #[.val (.int p0), .val (.int p1), .val (.int p2), .val (.int p3), .val (.int p4), .val (.int (own_i n)), .val (.int c0), .val (.int c1), .val (.int c2), .val (.int c3), .val (.ref b4), .val (.ref pt), .val (.ref cb), .unset, .unset, .unset, .unset, .unset, .unset, .unset, .unset, .unset, .unset] [(.ref pt)])) tg_ → Steps p.tables e below (s₁.setTop (entryFrame m #[(.int p0), (.int p1), (.int p2), (.int p3), (.int p4)] maxLocals)) tg_ := by
    intro tg_ kk_
    refine p_30 tg_ ?_
    refine st31.trans ?_
    show Steps p.tables e below (T31.setTop (mkF m 107 #[.val (.int p0), .val (.int p1), .val (.int p2), .val (.int p3), .val (.int p4), .val (.int (own_i n)), .val (.int c0), .val (.int c1), .val (.int c2), .val (.int c3), .val (.ref b4), .val (.ref pt), .val (.ref cb), .unset, .unset, .unset, .unset, .unset, .unset, .unset, .unset, .unset, .unset] [(.int (own_i n))])) _
    refine XS.iload X31.here hx rfl (hb hby at_107) rfl ?_
    show Steps p.tables e below (T31.setTop (mkF m 109 #[.val (.int p0), .val (.int p1), .val (.int p2), .val (.int p3), .val (.int p4), .val (.int (own_i n)), .val (.int c0), .val (.int c1), .val (.int c2), .val (.int c3), .val (.ref b4), .val (.ref pt), .val (.ref cb), .unset, .unset, .unset, .unset, .unset, .unset, .unset, .unset, .unset, .unset] [(.int (own_i n)), (.int (own_i n))])) _
    refine XS.icmpYes X31.here hx rfl (pc0 := 109) (pc' := 114) rfl (hb hby at_109) rfl (teq (show (own_i n) = (own_i n) from rfl)).1 (by decide) (by decide) ?_
    show Steps p.tables e below (T31.setTop (mkF m 114 #[.val (.int p0), .val (.int p1), .val (.int p2), .val (.int p3), .val (.int p4), .val (.int (own_i n)), .val (.int c0), .val (.int c1), .val (.int c2), .val (.int c3), .val (.ref b4), .val (.ref pt), .val (.ref cb), .unset, .unset, .unset, .unset, .unset, .unset, .unset, .unset, .unset, .unset] [])) _
    refine XS.aload X31.here hx rfl (hb hby at_114) rfl rfl ?_
    exact kk_
  obtain ⟨cq33, kq33, q33a, q33b, q33c⟩ := isOf hZ eR (J1.ext XE)
  obtain ⟨_, _, ⟨T33, L33, k33, n33⟩, -, X33, ⟨Lc33, hQ33, l33, y33, z33⟩, st33⟩ := X31.virtualBack hx (y := (⟨"prefixshift/Pattern", "tableComparisons", "()J"⟩ : MethodName)) (z := (⟨"prefixshift/Pattern", "tableComparisons", "()J"⟩ : MethodName)) hown (mvT hZ (hw _ (List.mem_of_getElem? (i := 59) rfl))) (mvT hZ (hw _ (List.mem_of_getElem? (i := 60) rfl))) (notFace_of_selects (args := #[]) (mvT hZ (hw _ (List.mem_of_getElem? (i := 62) rfl)))) (mvT hZ (hw _ (List.mem_of_getElem? (i := 62) rfl))) (mvT hZ (hw _ (List.mem_of_getElem? (i := 61) rfl))) (by decide) (backOf (W := 0) (rm_tc l Z a0 hw [] pt _ T28.heap n0 Zr (J4.ext XE)) hZ (hw _ (List.mem_of_getElem? (i := 63) rfl)) (hw _ (List.mem_of_getElem? (i := 4) rfl)) (by decide) (by decide)) q33a q33c (g := (mkF m 116 #[.val (.int p0), .val (.int p1), .val (.int p2), .val (.int p3), .val (.int p4), .val (.int (own_i n)), .val (.int c0), .val (.int c1), .val (.int c2), .val (.int c3), .val (.ref b4), .val (.ref pt), .val (.ref cb), .unset, .unset, .unset, .unset, .unset, .unset, .unset, .unset, .unset, .unset] [(.ref pt)])) rfl (by rw [hml]; rfl) (Steps.refl _) (argsL := []) (rest := []) (lenOf pd_law_3 rfl) rfl (by show 2 * 0 + _ ≤ _; exact Nat.le_of_eq rfl) (hb hby at_116) (fun _ _ => ⟨rfl, eR, (by decide : 7 + 0 ≤ _), (by decide : 52 + 0 ≤ _)⟩)
  dsimp only [Pt.U, Pt.locs, Pt.cells, Pt.slots] at X33 l33 y33 z33 st33 hQ33
  subst l33 y33 z33
  obtain ⟨rfl, N33q, hh33⟩ := hQ33
  have N33 := Fr.app N31 N33q
  have eR2 : T33.heap = T28.heap := hh33
  have hpl := own_plain (n := n) (c0 := c0) (c1 := c1) (c2 := c2) (c3 := c3) (f := f3) hn bc0 bc1 bc2 bc3 hf3.1 hf3.2.1 hf3.2.2.1 hf3.2.2.2
  have p_34 : ∀ tg_, Steps p.tables e below (T33.setTop (mkF m 119 #[.val (.int p0), .val (.int p1), .val (.int p2), .val (.int p3), .val (.int p4), .val (.int (own_i n)), .val (.int c0), .val (.int c1), .val (.int c2), .val (.int c3), .val (.ref b4), .val (.ref pt), .val (.ref cb), .unset, .unset, .unset, .unset, .unset, .unset, .unset, .unset, .unset, .unset] [(.long (own_l (own_kmp (fun x => f3 x &&& (255 : Int32)) n (2 * n) 1 0 0 (fun _ => 0)).1))])) tg_ → Steps p.tables e below (s₁.setTop (entryFrame m #[(.int p0), (.int p1), (.int p2), (.int p3), (.int p4)] maxLocals)) tg_ := by
    intro tg_ kk_
    refine p_32 tg_ ?_
    refine st33.trans ?_
    exact kk_
  obtain ⟨KK, h_KK⟩ : ∃ z, z = (own_kmp (fun x => f3 x &&& (255 : Int32)) n (2 * n) 1 0 0 (fun _ => 0)) := ⟨_, rfl⟩
  rw [← h_KK] at p_34
  rw [← h_KK] at hpl
  have p_35 : ∀ tg_, Steps p.tables e below (T33.setTop (mkF m 123 #[.val (.int p0), .val (.int p1), .val (.int p2), .val (.int p3), .val (.int p4), .val (.int (own_i n)), .val (.int c0), .val (.int c1), .val (.int c2), .val (.int c3), .val (.ref b4), .val (.ref pt), .val (.ref cb), .val (.long (own_l KK.1)), .second, .unset, .unset, .unset, .unset, .unset, .unset, .unset, .unset] [(.int (own_i n))])) tg_ → Steps p.tables e below (s₁.setTop (entryFrame m #[(.int p0), (.int p1), (.int p2), (.int p3), (.int p4)] maxLocals)) tg_ := by
    intro tg_ kk_
    refine p_34 tg_ ?_
    show Steps p.tables e below (T33.setTop (mkF m 119 #[.val (.int p0), .val (.int p1), .val (.int p2), .val (.int p3), .val (.int p4), .val (.int (own_i n)), .val (.int c0), .val (.int c1), .val (.int c2), .val (.int c3), .val (.ref b4), .val (.ref pt), .val (.ref cb), .unset, .unset, .unset, .unset, .unset, .unset, .unset, .unset, .unset, .unset] [(.long (own_l KK.1))])) _
    refine XS.lstore X33.here hx rfl (hb hby at_119) rfl (l' := #[.val (.int p0), .val (.int p1), .val (.int p2), .val (.int p3), .val (.int p4), .val (.int (own_i n)), .val (.int c0), .val (.int c1), .val (.int c2), .val (.int c3), .val (.ref b4), .val (.ref pt), .val (.ref cb), .val (.long (own_l KK.1)), .second, .unset, .unset, .unset, .unset, .unset, .unset, .unset, .unset]) rfl ?_
    show Steps p.tables e below (T33.setTop (mkF m 121 #[.val (.int p0), .val (.int p1), .val (.int p2), .val (.int p3), .val (.int p4), .val (.int (own_i n)), .val (.int c0), .val (.int c1), .val (.int c2), .val (.int c3), .val (.ref b4), .val (.ref pt), .val (.ref cb), .val (.long (own_l KK.1)), .second, .unset, .unset, .unset, .unset, .unset, .unset, .unset, .unset] [])) _
    refine XS.iload X33.here hx rfl (hb hby at_121) rfl ?_
    exact kk_
  have p_36 : ∀ lo : Int64, (lo = (own_lov (own_i n))) → ∀ tg_, Steps p.tables e below (T33.setTop (mkF m 135 #[.val (.int p0), .val (.int p1), .val (.int p2), .val (.int p3), .val (.int p4), .val (.int (own_i n)), .val (.int c0), .val (.int c1), .val (.int c2), .val (.int c3), .val (.ref b4), .val (.ref pt), .val (.ref cb), .val (.long (own_l KK.1)), .second, .unset, .unset, .unset, .unset, .unset, .unset, .unset, .unset] [(.long lo)])) tg_ → Steps p.tables e below (s₁.setTop (entryFrame m #[(.int p0), (.int p1), (.int p2), (.int p3), (.int p4)] maxLocals)) tg_ := by
    intro lo hlo tg_ kk_
    refine p_35 tg_ ?_
    show Steps p.tables e below (T33.setTop (mkF m 123 #[.val (.int p0), .val (.int p1), .val (.int p2), .val (.int p3), .val (.int p4), .val (.int (own_i n)), .val (.int c0), .val (.int c1), .val (.int c2), .val (.int c3), .val (.ref b4), .val (.ref pt), .val (.ref cb), .val (.long (own_l KK.1)), .second, .unset, .unset, .unset, .unset, .unset, .unset, .unset, .unset] [(.int (own_i n))])) _
    by_cases hc123 : (own_i n) = (0 : Int32)
    · show Steps p.tables e below (T33.setTop (mkF m 123 #[.val (.int p0), .val (.int p1), .val (.int p2), .val (.int p3), .val (.int p4), .val (.int (own_i n)), .val (.int c0), .val (.int c1), .val (.int c2), .val (.int c3), .val (.ref b4), .val (.ref pt), .val (.ref cb), .val (.long (own_l KK.1)), .second, .unset, .unset, .unset, .unset, .unset, .unset, .unset, .unset] [(.int (own_i n))])) _
      refine XS.ifNo X33.here hx rfl (hb hby at_123) rfl ((if0 _ _).trans (teq (show (own_i n) = (0 : Int32) from hc123)).2) ?_
      show Steps p.tables e below (T33.setTop (mkF m 126 #[.val (.int p0), .val (.int p1), .val (.int p2), .val (.int p3), .val (.int p4), .val (.int (own_i n)), .val (.int c0), .val (.int c1), .val (.int c2), .val (.int c3), .val (.ref b4), .val (.ref pt), .val (.ref cb), .val (.long (own_l KK.1)), .second, .unset, .unset, .unset, .unset, .unset, .unset, .unset, .unset] [])) _
      refine XS.lconst X33.here hx rfl (hb hby at_126) ?_
      show Steps p.tables e below (T33.setTop (mkF m 127 #[.val (.int p0), .val (.int p1), .val (.int p2), .val (.int p3), .val (.int p4), .val (.int (own_i n)), .val (.int c0), .val (.int c1), .val (.int c2), .val (.int c3), .val (.ref b4), .val (.ref pt), .val (.ref cb), .val (.long (own_l KK.1)), .second, .unset, .unset, .unset, .unset, .unset, .unset, .unset, .unset] [(.long (0 : Int64))])) _
      refine XS.goto X33.here hx rfl (pc0 := 127) (pc' := 135) rfl (hb hby at_127) (by decide) (by decide) ?_
      have hval : lo = (0 : Int64) := by
        rw [hlo]
        simp only [own_lov, if_pos hc123]
      subst hval
      exact kk_
    · show Steps p.tables e below (T33.setTop (mkF m 123 #[.val (.int p0), .val (.int p1), .val (.int p2), .val (.int p3), .val (.int p4), .val (.int (own_i n)), .val (.int c0), .val (.int c1), .val (.int c2), .val (.int c3), .val (.ref b4), .val (.ref pt), .val (.ref cb), .val (.long (own_l KK.1)), .second, .unset, .unset, .unset, .unset, .unset, .unset, .unset, .unset] [(.int (own_i n))])) _
      refine XS.ifYes X33.here hx rfl (pc0 := 123) (pc' := 130) rfl (hb hby at_123) rfl ((if0 _ _).trans (feq (show ¬ ((own_i n) = (0 : Int32)) from hc123)).2) (by decide) (by decide) ?_
      show Steps p.tables e below (T33.setTop (mkF m 130 #[.val (.int p0), .val (.int p1), .val (.int p2), .val (.int p3), .val (.int p4), .val (.int (own_i n)), .val (.int c0), .val (.int c1), .val (.int c2), .val (.int c3), .val (.ref b4), .val (.ref pt), .val (.ref cb), .val (.long (own_l KK.1)), .second, .unset, .unset, .unset, .unset, .unset, .unset, .unset, .unset] [])) _
      refine XS.iload X33.here hx rfl (hb hby at_130) rfl ?_
      show Steps p.tables e below (T33.setTop (mkF m 132 #[.val (.int p0), .val (.int p1), .val (.int p2), .val (.int p3), .val (.int p4), .val (.int (own_i n)), .val (.int c0), .val (.int c1), .val (.int c2), .val (.int c3), .val (.ref b4), .val (.ref pt), .val (.ref cb), .val (.long (own_l KK.1)), .second, .unset, .unset, .unset, .unset, .unset, .unset, .unset, .unset] [(.int (own_i n))])) _
      refine XS.iconst X33.here hx rfl (hb hby at_132) ?_
      show Steps p.tables e below (T33.setTop (mkF m 133 #[.val (.int p0), .val (.int p1), .val (.int p2), .val (.int p3), .val (.int p4), .val (.int (own_i n)), .val (.int c0), .val (.int c1), .val (.int c2), .val (.int c3), .val (.ref b4), .val (.ref pt), .val (.ref cb), .val (.long (own_l KK.1)), .second, .unset, .unset, .unset, .unset, .unset, .unset, .unset, .unset] [(.int (1 : Int32)), (.int (own_i n))])) _
      refine XS.isub X33.here hx rfl (hb hby at_133) rfl ?_
      show Steps p.tables e below (T33.setTop (mkF m 134 #[.val (.int p0), .val (.int p1), .val (.int p2), .val (.int p3), .val (.int p4), .val (.int (own_i n)), .val (.int c0), .val (.int c1), .val (.int c2), .val (.int c3), .val (.ref b4), .val (.ref pt), .val (.ref cb), .val (.long (own_l KK.1)), .second, .unset, .unset, .unset, .unset, .unset, .unset, .unset, .unset] [(.int ((own_i n) - (1 : Int32)))])) _
      refine XS.i2l X33.here hx rfl (hb hby at_134) rfl ?_
      have hval : lo = (((own_i n) - (1 : Int32)).toInt64) := by
        rw [hlo]
        simp only [own_lov, if_neg hc123]
      subst hval
      exact kk_
  have p_36' := p_36 (own_lov (own_i n)) rfl
  have p_37 : ∀ tg_, Steps p.tables e below (T33.setTop (mkF m 139 #[.val (.int p0), .val (.int p1), .val (.int p2), .val (.int p3), .val (.int p4), .val (.int (own_i n)), .val (.int c0), .val (.int c1), .val (.int c2), .val (.int c3), .val (.ref b4), .val (.ref pt), .val (.ref cb), .val (.long (own_l KK.1)), .second, .val (.long (own_lov (own_i n))), .second, .unset, .unset, .unset, .unset, .unset, .unset] [(.int (own_i n))])) tg_ → Steps p.tables e below (s₁.setTop (entryFrame m #[(.int p0), (.int p1), (.int p2), (.int p3), (.int p4)] maxLocals)) tg_ := by
    intro tg_ kk_
    refine p_36' tg_ ?_
    show Steps p.tables e below (T33.setTop (mkF m 135 #[.val (.int p0), .val (.int p1), .val (.int p2), .val (.int p3), .val (.int p4), .val (.int (own_i n)), .val (.int c0), .val (.int c1), .val (.int c2), .val (.int c3), .val (.ref b4), .val (.ref pt), .val (.ref cb), .val (.long (own_l KK.1)), .second, .unset, .unset, .unset, .unset, .unset, .unset, .unset, .unset] [(.long (own_lov (own_i n)))])) _
    refine XS.lstore X33.here hx rfl (hb hby at_135) rfl (l' := #[.val (.int p0), .val (.int p1), .val (.int p2), .val (.int p3), .val (.int p4), .val (.int (own_i n)), .val (.int c0), .val (.int c1), .val (.int c2), .val (.int c3), .val (.ref b4), .val (.ref pt), .val (.ref cb), .val (.long (own_l KK.1)), .second, .val (.long (own_lov (own_i n))), .second, .unset, .unset, .unset, .unset, .unset, .unset]) rfl ?_
    show Steps p.tables e below (T33.setTop (mkF m 137 #[.val (.int p0), .val (.int p1), .val (.int p2), .val (.int p3), .val (.int p4), .val (.int (own_i n)), .val (.int c0), .val (.int c1), .val (.int c2), .val (.int c3), .val (.ref b4), .val (.ref pt), .val (.ref cb), .val (.long (own_l KK.1)), .second, .val (.long (own_lov (own_i n))), .second, .unset, .unset, .unset, .unset, .unset, .unset] [])) _
    refine XS.iload X33.here hx rfl (hb hby at_137) rfl ?_
    exact kk_
  have p_38 : ∀ hi : Int64, (hi = (own_hiv (own_i n))) → ∀ tg_, Steps p.tables e below (T33.setTop (mkF m 155 #[.val (.int p0), .val (.int p1), .val (.int p2), .val (.int p3), .val (.int p4), .val (.int (own_i n)), .val (.int c0), .val (.int c1), .val (.int c2), .val (.int c3), .val (.ref b4), .val (.ref pt), .val (.ref cb), .val (.long (own_l KK.1)), .second, .val (.long (own_lov (own_i n))), .second, .unset, .unset, .unset, .unset, .unset, .unset] [(.long hi)])) tg_ → Steps p.tables e below (s₁.setTop (entryFrame m #[(.int p0), (.int p1), (.int p2), (.int p3), (.int p4)] maxLocals)) tg_ := by
    intro hi hhi tg_ kk_
    refine p_37 tg_ ?_
    show Steps p.tables e below (T33.setTop (mkF m 139 #[.val (.int p0), .val (.int p1), .val (.int p2), .val (.int p3), .val (.int p4), .val (.int (own_i n)), .val (.int c0), .val (.int c1), .val (.int c2), .val (.int c3), .val (.ref b4), .val (.ref pt), .val (.ref cb), .val (.long (own_l KK.1)), .second, .val (.long (own_lov (own_i n))), .second, .unset, .unset, .unset, .unset, .unset, .unset] [(.int (own_i n))])) _
    by_cases hc139 : (own_i n) = (0 : Int32)
    · show Steps p.tables e below (T33.setTop (mkF m 139 #[.val (.int p0), .val (.int p1), .val (.int p2), .val (.int p3), .val (.int p4), .val (.int (own_i n)), .val (.int c0), .val (.int c1), .val (.int c2), .val (.int c3), .val (.ref b4), .val (.ref pt), .val (.ref cb), .val (.long (own_l KK.1)), .second, .val (.long (own_lov (own_i n))), .second, .unset, .unset, .unset, .unset, .unset, .unset] [(.int (own_i n))])) _
      refine XS.ifNo X33.here hx rfl (hb hby at_139) rfl ((if0 _ _).trans (teq (show (own_i n) = (0 : Int32) from hc139)).2) ?_
      show Steps p.tables e below (T33.setTop (mkF m 142 #[.val (.int p0), .val (.int p1), .val (.int p2), .val (.int p3), .val (.int p4), .val (.int (own_i n)), .val (.int c0), .val (.int c1), .val (.int c2), .val (.int c3), .val (.ref b4), .val (.ref pt), .val (.ref cb), .val (.long (own_l KK.1)), .second, .val (.long (own_lov (own_i n))), .second, .unset, .unset, .unset, .unset, .unset, .unset] [])) _
      refine XS.lconst X33.here hx rfl (hb hby at_142) ?_
      show Steps p.tables e below (T33.setTop (mkF m 143 #[.val (.int p0), .val (.int p1), .val (.int p2), .val (.int p3), .val (.int p4), .val (.int (own_i n)), .val (.int c0), .val (.int c1), .val (.int c2), .val (.int c3), .val (.ref b4), .val (.ref pt), .val (.ref cb), .val (.long (own_l KK.1)), .second, .val (.long (own_lov (own_i n))), .second, .unset, .unset, .unset, .unset, .unset, .unset] [(.long (0 : Int64))])) _
      refine XS.goto X33.here hx rfl (pc0 := 143) (pc' := 155) rfl (hb hby at_143) (by decide) (by decide) ?_
      have hval : hi = (0 : Int64) := by
        rw [hhi]
        simp only [own_hiv, if_pos hc139]
      subst hval
      exact kk_
    · show Steps p.tables e below (T33.setTop (mkF m 139 #[.val (.int p0), .val (.int p1), .val (.int p2), .val (.int p3), .val (.int p4), .val (.int (own_i n)), .val (.int c0), .val (.int c1), .val (.int c2), .val (.int c3), .val (.ref b4), .val (.ref pt), .val (.ref cb), .val (.long (own_l KK.1)), .second, .val (.long (own_lov (own_i n))), .second, .unset, .unset, .unset, .unset, .unset, .unset] [(.int (own_i n))])) _
      refine XS.ifYes X33.here hx rfl (pc0 := 139) (pc' := 146) rfl (hb hby at_139) rfl ((if0 _ _).trans (feq (show ¬ ((own_i n) = (0 : Int32)) from hc139)).2) (by decide) (by decide) ?_
      show Steps p.tables e below (T33.setTop (mkF m 146 #[.val (.int p0), .val (.int p1), .val (.int p2), .val (.int p3), .val (.int p4), .val (.int (own_i n)), .val (.int c0), .val (.int c1), .val (.int c2), .val (.int c3), .val (.ref b4), .val (.ref pt), .val (.ref cb), .val (.long (own_l KK.1)), .second, .val (.long (own_lov (own_i n))), .second, .unset, .unset, .unset, .unset, .unset, .unset] [])) _
      refine X33.ldc2Long hx hown (mvT hZ (hw _ (List.mem_of_getElem? (i := 68) rfl))) (g := (mkF m 146 #[.val (.int p0), .val (.int p1), .val (.int p2), .val (.int p3), .val (.int p4), .val (.int (own_i n)), .val (.int c0), .val (.int c1), .val (.int c2), .val (.int c3), .val (.ref b4), .val (.ref pt), .val (.ref cb), .val (.long (own_l KK.1)), .second, .val (.long (own_lov (own_i n))), .second, .unset, .unset, .unset, .unset, .unset, .unset] [])) rfl (hb hby at_146) _ ?_
      show Steps p.tables e below (T33.setTop (mkF m 149 #[.val (.int p0), .val (.int p1), .val (.int p2), .val (.int p3), .val (.int p4), .val (.int (own_i n)), .val (.int c0), .val (.int c1), .val (.int c2), .val (.int c3), .val (.ref b4), .val (.ref pt), .val (.ref cb), .val (.long (own_l KK.1)), .second, .val (.long (own_lov (own_i n))), .second, .unset, .unset, .unset, .unset, .unset, .unset] [(.long (2 : Int64))])) _
      refine XS.iload X33.here hx rfl (hb hby at_149) rfl ?_
      show Steps p.tables e below (T33.setTop (mkF m 151 #[.val (.int p0), .val (.int p1), .val (.int p2), .val (.int p3), .val (.int p4), .val (.int (own_i n)), .val (.int c0), .val (.int c1), .val (.int c2), .val (.int c3), .val (.ref b4), .val (.ref pt), .val (.ref cb), .val (.long (own_l KK.1)), .second, .val (.long (own_lov (own_i n))), .second, .unset, .unset, .unset, .unset, .unset, .unset] [(.int (own_i n)), (.long (2 : Int64))])) _
      refine XS.iconst X33.here hx rfl (hb hby at_151) ?_
      show Steps p.tables e below (T33.setTop (mkF m 152 #[.val (.int p0), .val (.int p1), .val (.int p2), .val (.int p3), .val (.int p4), .val (.int (own_i n)), .val (.int c0), .val (.int c1), .val (.int c2), .val (.int c3), .val (.ref b4), .val (.ref pt), .val (.ref cb), .val (.long (own_l KK.1)), .second, .val (.long (own_lov (own_i n))), .second, .unset, .unset, .unset, .unset, .unset, .unset] [(.int (1 : Int32)), (.int (own_i n)), (.long (2 : Int64))])) _
      refine XS.isub X33.here hx rfl (hb hby at_152) rfl ?_
      show Steps p.tables e below (T33.setTop (mkF m 153 #[.val (.int p0), .val (.int p1), .val (.int p2), .val (.int p3), .val (.int p4), .val (.int (own_i n)), .val (.int c0), .val (.int c1), .val (.int c2), .val (.int c3), .val (.ref b4), .val (.ref pt), .val (.ref cb), .val (.long (own_l KK.1)), .second, .val (.long (own_lov (own_i n))), .second, .unset, .unset, .unset, .unset, .unset, .unset] [(.int ((own_i n) - (1 : Int32))), (.long (2 : Int64))])) _
      refine XS.i2l X33.here hx rfl (hb hby at_153) rfl ?_
      show Steps p.tables e below (T33.setTop (mkF m 154 #[.val (.int p0), .val (.int p1), .val (.int p2), .val (.int p3), .val (.int p4), .val (.int (own_i n)), .val (.int c0), .val (.int c1), .val (.int c2), .val (.int c3), .val (.ref b4), .val (.ref pt), .val (.ref cb), .val (.long (own_l KK.1)), .second, .val (.long (own_lov (own_i n))), .second, .unset, .unset, .unset, .unset, .unset, .unset] [(.long (((own_i n) - (1 : Int32)).toInt64)), (.long (2 : Int64))])) _
      refine XS.lmul X33.here hx rfl (hb hby at_154) rfl ?_
      have hval : hi = ((2 : Int64) * (((own_i n) - (1 : Int32)).toInt64)) := by
        rw [hhi]
        simp only [own_hiv, if_neg hc139]
      subst hval
      exact kk_
  have p_38' := p_38 (own_hiv (own_i n)) rfl
  have p_39 : ∀ tg_, Steps p.tables e below (T33.setTop (mkF m 179 #[.val (.int p0), .val (.int p1), .val (.int p2), .val (.int p3), .val (.int p4), .val (.int (own_i n)), .val (.int c0), .val (.int c1), .val (.int c2), .val (.int c3), .val (.ref b4), .val (.ref pt), .val (.ref cb), .val (.long (own_l KK.1)), .second, .val (.long (own_lov (own_i n))), .second, .val (.long (own_hiv (own_i n))), .second, .unset, .unset, .unset, .unset] [(.int c1), (.int c0)])) tg_ → Steps p.tables e below (s₁.setTop (entryFrame m #[(.int p0), (.int p1), (.int p2), (.int p3), (.int p4)] maxLocals)) tg_ := by
    intro tg_ kk_
    refine p_38' tg_ ?_
    show Steps p.tables e below (T33.setTop (mkF m 155 #[.val (.int p0), .val (.int p1), .val (.int p2), .val (.int p3), .val (.int p4), .val (.int (own_i n)), .val (.int c0), .val (.int c1), .val (.int c2), .val (.int c3), .val (.ref b4), .val (.ref pt), .val (.ref cb), .val (.long (own_l KK.1)), .second, .val (.long (own_lov (own_i n))), .second, .unset, .unset, .unset, .unset, .unset, .unset] [(.long (own_hiv (own_i n)))])) _
    refine XS.lstore X33.here hx rfl (hb hby at_155) rfl (l' := #[.val (.int p0), .val (.int p1), .val (.int p2), .val (.int p3), .val (.int p4), .val (.int (own_i n)), .val (.int c0), .val (.int c1), .val (.int c2), .val (.int c3), .val (.ref b4), .val (.ref pt), .val (.ref cb), .val (.long (own_l KK.1)), .second, .val (.long (own_lov (own_i n))), .second, .val (.long (own_hiv (own_i n))), .second, .unset, .unset, .unset, .unset]) rfl ?_
    show Steps p.tables e below (T33.setTop (mkF m 157 #[.val (.int p0), .val (.int p1), .val (.int p2), .val (.int p3), .val (.int p4), .val (.int (own_i n)), .val (.int c0), .val (.int c1), .val (.int c2), .val (.int c3), .val (.ref b4), .val (.ref pt), .val (.ref cb), .val (.long (own_l KK.1)), .second, .val (.long (own_lov (own_i n))), .second, .val (.long (own_hiv (own_i n))), .second, .unset, .unset, .unset, .unset] [])) _
    refine XS.lload X33.here hx rfl (hb hby at_157) rfl ?_
    show Steps p.tables e below (T33.setTop (mkF m 159 #[.val (.int p0), .val (.int p1), .val (.int p2), .val (.int p3), .val (.int p4), .val (.int (own_i n)), .val (.int c0), .val (.int c1), .val (.int c2), .val (.int c3), .val (.ref b4), .val (.ref pt), .val (.ref cb), .val (.long (own_l KK.1)), .second, .val (.long (own_lov (own_i n))), .second, .val (.long (own_hiv (own_i n))), .second, .unset, .unset, .unset, .unset] [(.long (own_l KK.1))])) _
    refine XS.lload X33.here hx rfl (hb hby at_159) rfl ?_
    show Steps p.tables e below (T33.setTop (mkF m 161 #[.val (.int p0), .val (.int p1), .val (.int p2), .val (.int p3), .val (.int p4), .val (.int (own_i n)), .val (.int c0), .val (.int c1), .val (.int c2), .val (.int c3), .val (.ref b4), .val (.ref pt), .val (.ref cb), .val (.long (own_l KK.1)), .second, .val (.long (own_lov (own_i n))), .second, .val (.long (own_hiv (own_i n))), .second, .unset, .unset, .unset, .unset] [(.long (own_lov (own_i n))), (.long (own_l KK.1))])) _
    refine XS.lcmp X33.here hx rfl (hb hby at_161) rfl ?_
    show Steps p.tables e below (T33.setTop (mkF m 162 #[.val (.int p0), .val (.int p1), .val (.int p2), .val (.int p3), .val (.int p4), .val (.int (own_i n)), .val (.int c0), .val (.int c1), .val (.int c2), .val (.int c3), .val (.ref b4), .val (.ref pt), .val (.ref cb), .val (.long (own_l KK.1)), .second, .val (.long (own_lov (own_i n))), .second, .val (.long (own_hiv (own_i n))), .second, .unset, .unset, .unset, .unset] [(.int (lcmpW (own_l KK.1) (own_lov (own_i n))))])) _
    refine XS.ifNo X33.here hx rfl (hb hby at_162) rfl ((if0 _ _).trans (flt (show ¬ ((lcmpW (own_l KK.1) (own_lov (own_i n))) < (0 : Int32)) from hpl.1)).1) ?_
    show Steps p.tables e below (T33.setTop (mkF m 165 #[.val (.int p0), .val (.int p1), .val (.int p2), .val (.int p3), .val (.int p4), .val (.int (own_i n)), .val (.int c0), .val (.int c1), .val (.int c2), .val (.int c3), .val (.ref b4), .val (.ref pt), .val (.ref cb), .val (.long (own_l KK.1)), .second, .val (.long (own_lov (own_i n))), .second, .val (.long (own_hiv (own_i n))), .second, .unset, .unset, .unset, .unset] [])) _
    refine XS.lload X33.here hx rfl (hb hby at_165) rfl ?_
    show Steps p.tables e below (T33.setTop (mkF m 167 #[.val (.int p0), .val (.int p1), .val (.int p2), .val (.int p3), .val (.int p4), .val (.int (own_i n)), .val (.int c0), .val (.int c1), .val (.int c2), .val (.int c3), .val (.ref b4), .val (.ref pt), .val (.ref cb), .val (.long (own_l KK.1)), .second, .val (.long (own_lov (own_i n))), .second, .val (.long (own_hiv (own_i n))), .second, .unset, .unset, .unset, .unset] [(.long (own_l KK.1))])) _
    refine XS.lload X33.here hx rfl (hb hby at_167) rfl ?_
    show Steps p.tables e below (T33.setTop (mkF m 169 #[.val (.int p0), .val (.int p1), .val (.int p2), .val (.int p3), .val (.int p4), .val (.int (own_i n)), .val (.int c0), .val (.int c1), .val (.int c2), .val (.int c3), .val (.ref b4), .val (.ref pt), .val (.ref cb), .val (.long (own_l KK.1)), .second, .val (.long (own_lov (own_i n))), .second, .val (.long (own_hiv (own_i n))), .second, .unset, .unset, .unset, .unset] [(.long (own_hiv (own_i n))), (.long (own_l KK.1))])) _
    refine XS.lcmp X33.here hx rfl (hb hby at_169) rfl ?_
    show Steps p.tables e below (T33.setTop (mkF m 170 #[.val (.int p0), .val (.int p1), .val (.int p2), .val (.int p3), .val (.int p4), .val (.int (own_i n)), .val (.int c0), .val (.int c1), .val (.int c2), .val (.int c3), .val (.ref b4), .val (.ref pt), .val (.ref cb), .val (.long (own_l KK.1)), .second, .val (.long (own_lov (own_i n))), .second, .val (.long (own_hiv (own_i n))), .second, .unset, .unset, .unset, .unset] [(.int (lcmpW (own_l KK.1) (own_hiv (own_i n))))])) _
    refine XS.ifYes X33.here hx rfl (pc0 := 170) (pc' := 175) rfl (hb hby at_170) rfl ((if0 _ _).trans (flt (show ¬ ((0 : Int32) < (lcmpW (own_l KK.1) (own_hiv (own_i n)))) from hpl.2.1)).2.2.2) (by decide) (by decide) ?_
    show Steps p.tables e below (T33.setTop (mkF m 175 #[.val (.int p0), .val (.int p1), .val (.int p2), .val (.int p3), .val (.int p4), .val (.int (own_i n)), .val (.int c0), .val (.int c1), .val (.int c2), .val (.int c3), .val (.ref b4), .val (.ref pt), .val (.ref cb), .val (.long (own_l KK.1)), .second, .val (.long (own_lov (own_i n))), .second, .val (.long (own_hiv (own_i n))), .second, .unset, .unset, .unset, .unset] [])) _
    refine XS.iload X33.here hx rfl (hb hby at_175) rfl ?_
    show Steps p.tables e below (T33.setTop (mkF m 177 #[.val (.int p0), .val (.int p1), .val (.int p2), .val (.int p3), .val (.int p4), .val (.int (own_i n)), .val (.int c0), .val (.int c1), .val (.int c2), .val (.int c3), .val (.ref b4), .val (.ref pt), .val (.ref cb), .val (.long (own_l KK.1)), .second, .val (.long (own_lov (own_i n))), .second, .val (.long (own_hiv (own_i n))), .second, .unset, .unset, .unset, .unset] [(.int c0)])) _
    refine XS.iload X33.here hx rfl (hb hby at_177) rfl ?_
    exact kk_
  have p_40 : ∀ e1 : Int32, (e1 = (own_e1 c0 c1)) → ∀ tg_, Steps p.tables e below (T33.setTop (mkF m 187 #[.val (.int p0), .val (.int p1), .val (.int p2), .val (.int p3), .val (.int p4), .val (.int (own_i n)), .val (.int c0), .val (.int c1), .val (.int c2), .val (.int c3), .val (.ref b4), .val (.ref pt), .val (.ref cb), .val (.long (own_l KK.1)), .second, .val (.long (own_lov (own_i n))), .second, .val (.long (own_hiv (own_i n))), .second, .unset, .unset, .unset, .unset] [(.int e1)])) tg_ → Steps p.tables e below (s₁.setTop (entryFrame m #[(.int p0), (.int p1), (.int p2), (.int p3), (.int p4)] maxLocals)) tg_ := by
    intro e1 he1 tg_ kk_
    refine p_39 tg_ ?_
    show Steps p.tables e below (T33.setTop (mkF m 179 #[.val (.int p0), .val (.int p1), .val (.int p2), .val (.int p3), .val (.int p4), .val (.int (own_i n)), .val (.int c0), .val (.int c1), .val (.int c2), .val (.int c3), .val (.ref b4), .val (.ref pt), .val (.ref cb), .val (.long (own_l KK.1)), .second, .val (.long (own_lov (own_i n))), .second, .val (.long (own_hiv (own_i n))), .second, .unset, .unset, .unset, .unset] [(.int c1), (.int c0)])) _
    by_cases hc179 : c0 = c1
    · show Steps p.tables e below (T33.setTop (mkF m 179 #[.val (.int p0), .val (.int p1), .val (.int p2), .val (.int p3), .val (.int p4), .val (.int (own_i n)), .val (.int c0), .val (.int c1), .val (.int c2), .val (.int c3), .val (.ref b4), .val (.ref pt), .val (.ref cb), .val (.long (own_l KK.1)), .second, .val (.long (own_lov (own_i n))), .second, .val (.long (own_hiv (own_i n))), .second, .unset, .unset, .unset, .unset] [(.int c1), (.int c0)])) _
      refine XS.icmpNo X33.here hx rfl (hb hby at_179) rfl (teq (show c0 = c1 from hc179)).2 ?_
      show Steps p.tables e below (T33.setTop (mkF m 182 #[.val (.int p0), .val (.int p1), .val (.int p2), .val (.int p3), .val (.int p4), .val (.int (own_i n)), .val (.int c0), .val (.int c1), .val (.int c2), .val (.int c3), .val (.ref b4), .val (.ref pt), .val (.ref cb), .val (.long (own_l KK.1)), .second, .val (.long (own_lov (own_i n))), .second, .val (.long (own_hiv (own_i n))), .second, .unset, .unset, .unset, .unset] [])) _
      refine XS.iconst X33.here hx rfl (hb hby at_182) ?_
      show Steps p.tables e below (T33.setTop (mkF m 183 #[.val (.int p0), .val (.int p1), .val (.int p2), .val (.int p3), .val (.int p4), .val (.int (own_i n)), .val (.int c0), .val (.int c1), .val (.int c2), .val (.int c3), .val (.ref b4), .val (.ref pt), .val (.ref cb), .val (.long (own_l KK.1)), .second, .val (.long (own_lov (own_i n))), .second, .val (.long (own_hiv (own_i n))), .second, .unset, .unset, .unset, .unset] [(.int (1 : Int32))])) _
      refine XS.goto X33.here hx rfl (pc0 := 183) (pc' := 187) rfl (hb hby at_183) (by decide) (by decide) ?_
      have hval : e1 = (1 : Int32) := by
        rw [he1]
        simp only [own_e1, if_pos hc179]
      subst hval
      exact kk_
    · show Steps p.tables e below (T33.setTop (mkF m 179 #[.val (.int p0), .val (.int p1), .val (.int p2), .val (.int p3), .val (.int p4), .val (.int (own_i n)), .val (.int c0), .val (.int c1), .val (.int c2), .val (.int c3), .val (.ref b4), .val (.ref pt), .val (.ref cb), .val (.long (own_l KK.1)), .second, .val (.long (own_lov (own_i n))), .second, .val (.long (own_hiv (own_i n))), .second, .unset, .unset, .unset, .unset] [(.int c1), (.int c0)])) _
      refine XS.icmpYes X33.here hx rfl (pc0 := 179) (pc' := 186) rfl (hb hby at_179) rfl (feq (show ¬ (c0 = c1) from hc179)).2 (by decide) (by decide) ?_
      show Steps p.tables e below (T33.setTop (mkF m 186 #[.val (.int p0), .val (.int p1), .val (.int p2), .val (.int p3), .val (.int p4), .val (.int (own_i n)), .val (.int c0), .val (.int c1), .val (.int c2), .val (.int c3), .val (.ref b4), .val (.ref pt), .val (.ref cb), .val (.long (own_l KK.1)), .second, .val (.long (own_lov (own_i n))), .second, .val (.long (own_hiv (own_i n))), .second, .unset, .unset, .unset, .unset] [])) _
      refine XS.iconst X33.here hx rfl (hb hby at_186) ?_
      have hval : e1 = (0 : Int32) := by
        rw [he1]
        simp only [own_e1, if_neg hc179]
      subst hval
      exact kk_
  have p_40' := p_40 (own_e1 c0 c1) rfl
  have p_41 : ∀ tg_, Steps p.tables e below (T33.setTop (mkF m 193 #[.val (.int p0), .val (.int p1), .val (.int p2), .val (.int p3), .val (.int p4), .val (.int (own_i n)), .val (.int c0), .val (.int c1), .val (.int c2), .val (.int c3), .val (.ref b4), .val (.ref pt), .val (.ref cb), .val (.long (own_l KK.1)), .second, .val (.long (own_lov (own_i n))), .second, .val (.long (own_hiv (own_i n))), .second, .val (.int (own_e1 c0 c1)), .unset, .unset, .unset] [(.int c1), (.int c0)])) tg_ → Steps p.tables e below (s₁.setTop (entryFrame m #[(.int p0), (.int p1), (.int p2), (.int p3), (.int p4)] maxLocals)) tg_ := by
    intro tg_ kk_
    refine p_40' tg_ ?_
    show Steps p.tables e below (T33.setTop (mkF m 187 #[.val (.int p0), .val (.int p1), .val (.int p2), .val (.int p3), .val (.int p4), .val (.int (own_i n)), .val (.int c0), .val (.int c1), .val (.int c2), .val (.int c3), .val (.ref b4), .val (.ref pt), .val (.ref cb), .val (.long (own_l KK.1)), .second, .val (.long (own_lov (own_i n))), .second, .val (.long (own_hiv (own_i n))), .second, .unset, .unset, .unset, .unset] [(.int (own_e1 c0 c1))])) _
    refine XS.istore X33.here hx rfl (hb hby at_187) rfl (l' := #[.val (.int p0), .val (.int p1), .val (.int p2), .val (.int p3), .val (.int p4), .val (.int (own_i n)), .val (.int c0), .val (.int c1), .val (.int c2), .val (.int c3), .val (.ref b4), .val (.ref pt), .val (.ref cb), .val (.long (own_l KK.1)), .second, .val (.long (own_lov (own_i n))), .second, .val (.long (own_hiv (own_i n))), .second, .val (.int (own_e1 c0 c1)), .unset, .unset, .unset]) rfl ?_
    show Steps p.tables e below (T33.setTop (mkF m 189 #[.val (.int p0), .val (.int p1), .val (.int p2), .val (.int p3), .val (.int p4), .val (.int (own_i n)), .val (.int c0), .val (.int c1), .val (.int c2), .val (.int c3), .val (.ref b4), .val (.ref pt), .val (.ref cb), .val (.long (own_l KK.1)), .second, .val (.long (own_lov (own_i n))), .second, .val (.long (own_hiv (own_i n))), .second, .val (.int (own_e1 c0 c1)), .unset, .unset, .unset] [])) _
    refine XS.iload X33.here hx rfl (hb hby at_189) rfl ?_
    show Steps p.tables e below (T33.setTop (mkF m 191 #[.val (.int p0), .val (.int p1), .val (.int p2), .val (.int p3), .val (.int p4), .val (.int (own_i n)), .val (.int c0), .val (.int c1), .val (.int c2), .val (.int c3), .val (.ref b4), .val (.ref pt), .val (.ref cb), .val (.long (own_l KK.1)), .second, .val (.long (own_lov (own_i n))), .second, .val (.long (own_hiv (own_i n))), .second, .val (.int (own_e1 c0 c1)), .unset, .unset, .unset] [(.int c0)])) _
    refine XS.iload X33.here hx rfl (hb hby at_191) rfl ?_
    exact kk_
  have p_42 : ∀ e2 : Int32, (e2 = (own_e2 c0 c1 c2)) → ∀ tg_, Steps p.tables e below (T33.setTop (mkF m 219 #[.val (.int p0), .val (.int p1), .val (.int p2), .val (.int p3), .val (.int p4), .val (.int (own_i n)), .val (.int c0), .val (.int c1), .val (.int c2), .val (.int c3), .val (.ref b4), .val (.ref pt), .val (.ref cb), .val (.long (own_l KK.1)), .second, .val (.long (own_lov (own_i n))), .second, .val (.long (own_hiv (own_i n))), .second, .val (.int (own_e1 c0 c1)), .unset, .unset, .unset] [(.int e2)])) tg_ → Steps p.tables e below (s₁.setTop (entryFrame m #[(.int p0), (.int p1), (.int p2), (.int p3), (.int p4)] maxLocals)) tg_ := by
    intro e2 he2 tg_ kk_
    refine p_41 tg_ ?_
    show Steps p.tables e below (T33.setTop (mkF m 193 #[.val (.int p0), .val (.int p1), .val (.int p2), .val (.int p3), .val (.int p4), .val (.int (own_i n)), .val (.int c0), .val (.int c1), .val (.int c2), .val (.int c3), .val (.ref b4), .val (.ref pt), .val (.ref cb), .val (.long (own_l KK.1)), .second, .val (.long (own_lov (own_i n))), .second, .val (.long (own_hiv (own_i n))), .second, .val (.int (own_e1 c0 c1)), .unset, .unset, .unset] [(.int c1), (.int c0)])) _
    by_cases hc193 : c0 = c1
    · show Steps p.tables e below (T33.setTop (mkF m 193 #[.val (.int p0), .val (.int p1), .val (.int p2), .val (.int p3), .val (.int p4), .val (.int (own_i n)), .val (.int c0), .val (.int c1), .val (.int c2), .val (.int c3), .val (.ref b4), .val (.ref pt), .val (.ref cb), .val (.long (own_l KK.1)), .second, .val (.long (own_lov (own_i n))), .second, .val (.long (own_hiv (own_i n))), .second, .val (.int (own_e1 c0 c1)), .unset, .unset, .unset] [(.int c1), (.int c0)])) _
      refine XS.icmpNo X33.here hx rfl (hb hby at_193) rfl (teq (show c0 = c1 from hc193)).2 ?_
      show Steps p.tables e below (T33.setTop (mkF m 196 #[.val (.int p0), .val (.int p1), .val (.int p2), .val (.int p3), .val (.int p4), .val (.int (own_i n)), .val (.int c0), .val (.int c1), .val (.int c2), .val (.int c3), .val (.ref b4), .val (.ref pt), .val (.ref cb), .val (.long (own_l KK.1)), .second, .val (.long (own_lov (own_i n))), .second, .val (.long (own_hiv (own_i n))), .second, .val (.int (own_e1 c0 c1)), .unset, .unset, .unset] [])) _
      refine XS.iload X33.here hx rfl (hb hby at_196) rfl ?_
      show Steps p.tables e below (T33.setTop (mkF m 198 #[.val (.int p0), .val (.int p1), .val (.int p2), .val (.int p3), .val (.int p4), .val (.int (own_i n)), .val (.int c0), .val (.int c1), .val (.int c2), .val (.int c3), .val (.ref b4), .val (.ref pt), .val (.ref cb), .val (.long (own_l KK.1)), .second, .val (.long (own_lov (own_i n))), .second, .val (.long (own_hiv (own_i n))), .second, .val (.int (own_e1 c0 c1)), .unset, .unset, .unset] [(.int c1)])) _
      refine XS.iload X33.here hx rfl (hb hby at_198) rfl ?_
      show Steps p.tables e below (T33.setTop (mkF m 200 #[.val (.int p0), .val (.int p1), .val (.int p2), .val (.int p3), .val (.int p4), .val (.int (own_i n)), .val (.int c0), .val (.int c1), .val (.int c2), .val (.int c3), .val (.ref b4), .val (.ref pt), .val (.ref cb), .val (.long (own_l KK.1)), .second, .val (.long (own_lov (own_i n))), .second, .val (.long (own_hiv (own_i n))), .second, .val (.int (own_e1 c0 c1)), .unset, .unset, .unset] [(.int c2), (.int c1)])) _
      by_cases hc200 : c1 = c2
      · show Steps p.tables e below (T33.setTop (mkF m 200 #[.val (.int p0), .val (.int p1), .val (.int p2), .val (.int p3), .val (.int p4), .val (.int (own_i n)), .val (.int c0), .val (.int c1), .val (.int c2), .val (.int c3), .val (.ref b4), .val (.ref pt), .val (.ref cb), .val (.long (own_l KK.1)), .second, .val (.long (own_lov (own_i n))), .second, .val (.long (own_hiv (own_i n))), .second, .val (.int (own_e1 c0 c1)), .unset, .unset, .unset] [(.int c2), (.int c1)])) _
        refine XS.icmpNo X33.here hx rfl (hb hby at_200) rfl (teq (show c1 = c2 from hc200)).2 ?_
        show Steps p.tables e below (T33.setTop (mkF m 203 #[.val (.int p0), .val (.int p1), .val (.int p2), .val (.int p3), .val (.int p4), .val (.int (own_i n)), .val (.int c0), .val (.int c1), .val (.int c2), .val (.int c3), .val (.ref b4), .val (.ref pt), .val (.ref cb), .val (.long (own_l KK.1)), .second, .val (.long (own_lov (own_i n))), .second, .val (.long (own_hiv (own_i n))), .second, .val (.int (own_e1 c0 c1)), .unset, .unset, .unset] [])) _
        refine XS.iconst X33.here hx rfl (hb hby at_203) ?_
        show Steps p.tables e below (T33.setTop (mkF m 204 #[.val (.int p0), .val (.int p1), .val (.int p2), .val (.int p3), .val (.int p4), .val (.int (own_i n)), .val (.int c0), .val (.int c1), .val (.int c2), .val (.int c3), .val (.ref b4), .val (.ref pt), .val (.ref cb), .val (.long (own_l KK.1)), .second, .val (.long (own_lov (own_i n))), .second, .val (.long (own_hiv (own_i n))), .second, .val (.int (own_e1 c0 c1)), .unset, .unset, .unset] [(.int (2 : Int32))])) _
        refine XS.goto X33.here hx rfl (pc0 := 204) (pc' := 219) rfl (hb hby at_204) (by decide) (by decide) ?_
        have hval : e2 = (2 : Int32) := by
          rw [he2]
          simp only [own_e2, if_pos hc193, if_pos hc200]
        subst hval
        exact kk_
      · show Steps p.tables e below (T33.setTop (mkF m 200 #[.val (.int p0), .val (.int p1), .val (.int p2), .val (.int p3), .val (.int p4), .val (.int (own_i n)), .val (.int c0), .val (.int c1), .val (.int c2), .val (.int c3), .val (.ref b4), .val (.ref pt), .val (.ref cb), .val (.long (own_l KK.1)), .second, .val (.long (own_lov (own_i n))), .second, .val (.long (own_hiv (own_i n))), .second, .val (.int (own_e1 c0 c1)), .unset, .unset, .unset] [(.int c2), (.int c1)])) _
        refine XS.icmpYes X33.here hx rfl (pc0 := 200) (pc' := 207) rfl (hb hby at_200) rfl (feq (show ¬ (c1 = c2) from hc200)).2 (by decide) (by decide) ?_
        show Steps p.tables e below (T33.setTop (mkF m 207 #[.val (.int p0), .val (.int p1), .val (.int p2), .val (.int p3), .val (.int p4), .val (.int (own_i n)), .val (.int c0), .val (.int c1), .val (.int c2), .val (.int c3), .val (.ref b4), .val (.ref pt), .val (.ref cb), .val (.long (own_l KK.1)), .second, .val (.long (own_lov (own_i n))), .second, .val (.long (own_hiv (own_i n))), .second, .val (.int (own_e1 c0 c1)), .unset, .unset, .unset] [])) _
        refine XS.iload X33.here hx rfl (hb hby at_207) rfl ?_
        show Steps p.tables e below (T33.setTop (mkF m 209 #[.val (.int p0), .val (.int p1), .val (.int p2), .val (.int p3), .val (.int p4), .val (.int (own_i n)), .val (.int c0), .val (.int c1), .val (.int c2), .val (.int c3), .val (.ref b4), .val (.ref pt), .val (.ref cb), .val (.long (own_l KK.1)), .second, .val (.long (own_lov (own_i n))), .second, .val (.long (own_hiv (own_i n))), .second, .val (.int (own_e1 c0 c1)), .unset, .unset, .unset] [(.int c0)])) _
        refine XS.iload X33.here hx rfl (hb hby at_209) rfl ?_
        show Steps p.tables e below (T33.setTop (mkF m 211 #[.val (.int p0), .val (.int p1), .val (.int p2), .val (.int p3), .val (.int p4), .val (.int (own_i n)), .val (.int c0), .val (.int c1), .val (.int c2), .val (.int c3), .val (.ref b4), .val (.ref pt), .val (.ref cb), .val (.long (own_l KK.1)), .second, .val (.long (own_lov (own_i n))), .second, .val (.long (own_hiv (own_i n))), .second, .val (.int (own_e1 c0 c1)), .unset, .unset, .unset] [(.int c2), (.int c0)])) _
        by_cases hc211 : c0 = c2
        · show Steps p.tables e below (T33.setTop (mkF m 211 #[.val (.int p0), .val (.int p1), .val (.int p2), .val (.int p3), .val (.int p4), .val (.int (own_i n)), .val (.int c0), .val (.int c1), .val (.int c2), .val (.int c3), .val (.ref b4), .val (.ref pt), .val (.ref cb), .val (.long (own_l KK.1)), .second, .val (.long (own_lov (own_i n))), .second, .val (.long (own_hiv (own_i n))), .second, .val (.int (own_e1 c0 c1)), .unset, .unset, .unset] [(.int c2), (.int c0)])) _
          refine XS.icmpNo X33.here hx rfl (hb hby at_211) rfl (teq (show c0 = c2 from hc211)).2 ?_
          show Steps p.tables e below (T33.setTop (mkF m 214 #[.val (.int p0), .val (.int p1), .val (.int p2), .val (.int p3), .val (.int p4), .val (.int (own_i n)), .val (.int c0), .val (.int c1), .val (.int c2), .val (.int c3), .val (.ref b4), .val (.ref pt), .val (.ref cb), .val (.long (own_l KK.1)), .second, .val (.long (own_lov (own_i n))), .second, .val (.long (own_hiv (own_i n))), .second, .val (.int (own_e1 c0 c1)), .unset, .unset, .unset] [])) _
          refine XS.iconst X33.here hx rfl (hb hby at_214) ?_
          show Steps p.tables e below (T33.setTop (mkF m 215 #[.val (.int p0), .val (.int p1), .val (.int p2), .val (.int p3), .val (.int p4), .val (.int (own_i n)), .val (.int c0), .val (.int c1), .val (.int c2), .val (.int c3), .val (.ref b4), .val (.ref pt), .val (.ref cb), .val (.long (own_l KK.1)), .second, .val (.long (own_lov (own_i n))), .second, .val (.long (own_hiv (own_i n))), .second, .val (.int (own_e1 c0 c1)), .unset, .unset, .unset] [(.int (1 : Int32))])) _
          refine XS.goto X33.here hx rfl (pc0 := 215) (pc' := 219) rfl (hb hby at_215) (by decide) (by decide) ?_
          have hval : e2 = (1 : Int32) := by
            rw [he2]
            simp only [own_e2, if_pos hc193, if_neg hc200, if_pos hc211]
          subst hval
          exact kk_
        · show Steps p.tables e below (T33.setTop (mkF m 211 #[.val (.int p0), .val (.int p1), .val (.int p2), .val (.int p3), .val (.int p4), .val (.int (own_i n)), .val (.int c0), .val (.int c1), .val (.int c2), .val (.int c3), .val (.ref b4), .val (.ref pt), .val (.ref cb), .val (.long (own_l KK.1)), .second, .val (.long (own_lov (own_i n))), .second, .val (.long (own_hiv (own_i n))), .second, .val (.int (own_e1 c0 c1)), .unset, .unset, .unset] [(.int c2), (.int c0)])) _
          refine XS.icmpYes X33.here hx rfl (pc0 := 211) (pc' := 218) rfl (hb hby at_211) rfl (feq (show ¬ (c0 = c2) from hc211)).2 (by decide) (by decide) ?_
          show Steps p.tables e below (T33.setTop (mkF m 218 #[.val (.int p0), .val (.int p1), .val (.int p2), .val (.int p3), .val (.int p4), .val (.int (own_i n)), .val (.int c0), .val (.int c1), .val (.int c2), .val (.int c3), .val (.ref b4), .val (.ref pt), .val (.ref cb), .val (.long (own_l KK.1)), .second, .val (.long (own_lov (own_i n))), .second, .val (.long (own_hiv (own_i n))), .second, .val (.int (own_e1 c0 c1)), .unset, .unset, .unset] [])) _
          refine XS.iconst X33.here hx rfl (hb hby at_218) ?_
          have hval : e2 = (0 : Int32) := by
            rw [he2]
            simp only [own_e2, if_pos hc193, if_neg hc200, if_neg hc211]
          subst hval
          exact kk_
    · show Steps p.tables e below (T33.setTop (mkF m 193 #[.val (.int p0), .val (.int p1), .val (.int p2), .val (.int p3), .val (.int p4), .val (.int (own_i n)), .val (.int c0), .val (.int c1), .val (.int c2), .val (.int c3), .val (.ref b4), .val (.ref pt), .val (.ref cb), .val (.long (own_l KK.1)), .second, .val (.long (own_lov (own_i n))), .second, .val (.long (own_hiv (own_i n))), .second, .val (.int (own_e1 c0 c1)), .unset, .unset, .unset] [(.int c1), (.int c0)])) _
      refine XS.icmpYes X33.here hx rfl (pc0 := 193) (pc' := 207) rfl (hb hby at_193) rfl (feq (show ¬ (c0 = c1) from hc193)).2 (by decide) (by decide) ?_
      show Steps p.tables e below (T33.setTop (mkF m 207 #[.val (.int p0), .val (.int p1), .val (.int p2), .val (.int p3), .val (.int p4), .val (.int (own_i n)), .val (.int c0), .val (.int c1), .val (.int c2), .val (.int c3), .val (.ref b4), .val (.ref pt), .val (.ref cb), .val (.long (own_l KK.1)), .second, .val (.long (own_lov (own_i n))), .second, .val (.long (own_hiv (own_i n))), .second, .val (.int (own_e1 c0 c1)), .unset, .unset, .unset] [])) _
      refine XS.iload X33.here hx rfl (hb hby at_207) rfl ?_
      show Steps p.tables e below (T33.setTop (mkF m 209 #[.val (.int p0), .val (.int p1), .val (.int p2), .val (.int p3), .val (.int p4), .val (.int (own_i n)), .val (.int c0), .val (.int c1), .val (.int c2), .val (.int c3), .val (.ref b4), .val (.ref pt), .val (.ref cb), .val (.long (own_l KK.1)), .second, .val (.long (own_lov (own_i n))), .second, .val (.long (own_hiv (own_i n))), .second, .val (.int (own_e1 c0 c1)), .unset, .unset, .unset] [(.int c0)])) _
      refine XS.iload X33.here hx rfl (hb hby at_209) rfl ?_
      show Steps p.tables e below (T33.setTop (mkF m 211 #[.val (.int p0), .val (.int p1), .val (.int p2), .val (.int p3), .val (.int p4), .val (.int (own_i n)), .val (.int c0), .val (.int c1), .val (.int c2), .val (.int c3), .val (.ref b4), .val (.ref pt), .val (.ref cb), .val (.long (own_l KK.1)), .second, .val (.long (own_lov (own_i n))), .second, .val (.long (own_hiv (own_i n))), .second, .val (.int (own_e1 c0 c1)), .unset, .unset, .unset] [(.int c2), (.int c0)])) _
      by_cases hc211 : c0 = c2
      · show Steps p.tables e below (T33.setTop (mkF m 211 #[.val (.int p0), .val (.int p1), .val (.int p2), .val (.int p3), .val (.int p4), .val (.int (own_i n)), .val (.int c0), .val (.int c1), .val (.int c2), .val (.int c3), .val (.ref b4), .val (.ref pt), .val (.ref cb), .val (.long (own_l KK.1)), .second, .val (.long (own_lov (own_i n))), .second, .val (.long (own_hiv (own_i n))), .second, .val (.int (own_e1 c0 c1)), .unset, .unset, .unset] [(.int c2), (.int c0)])) _
        refine XS.icmpNo X33.here hx rfl (hb hby at_211) rfl (teq (show c0 = c2 from hc211)).2 ?_
        show Steps p.tables e below (T33.setTop (mkF m 214 #[.val (.int p0), .val (.int p1), .val (.int p2), .val (.int p3), .val (.int p4), .val (.int (own_i n)), .val (.int c0), .val (.int c1), .val (.int c2), .val (.int c3), .val (.ref b4), .val (.ref pt), .val (.ref cb), .val (.long (own_l KK.1)), .second, .val (.long (own_lov (own_i n))), .second, .val (.long (own_hiv (own_i n))), .second, .val (.int (own_e1 c0 c1)), .unset, .unset, .unset] [])) _
        refine XS.iconst X33.here hx rfl (hb hby at_214) ?_
        show Steps p.tables e below (T33.setTop (mkF m 215 #[.val (.int p0), .val (.int p1), .val (.int p2), .val (.int p3), .val (.int p4), .val (.int (own_i n)), .val (.int c0), .val (.int c1), .val (.int c2), .val (.int c3), .val (.ref b4), .val (.ref pt), .val (.ref cb), .val (.long (own_l KK.1)), .second, .val (.long (own_lov (own_i n))), .second, .val (.long (own_hiv (own_i n))), .second, .val (.int (own_e1 c0 c1)), .unset, .unset, .unset] [(.int (1 : Int32))])) _
        refine XS.goto X33.here hx rfl (pc0 := 215) (pc' := 219) rfl (hb hby at_215) (by decide) (by decide) ?_
        have hval : e2 = (1 : Int32) := by
          rw [he2]
          simp only [own_e2, if_neg hc193, if_pos hc211]
        subst hval
        exact kk_
      · show Steps p.tables e below (T33.setTop (mkF m 211 #[.val (.int p0), .val (.int p1), .val (.int p2), .val (.int p3), .val (.int p4), .val (.int (own_i n)), .val (.int c0), .val (.int c1), .val (.int c2), .val (.int c3), .val (.ref b4), .val (.ref pt), .val (.ref cb), .val (.long (own_l KK.1)), .second, .val (.long (own_lov (own_i n))), .second, .val (.long (own_hiv (own_i n))), .second, .val (.int (own_e1 c0 c1)), .unset, .unset, .unset] [(.int c2), (.int c0)])) _
        refine XS.icmpYes X33.here hx rfl (pc0 := 211) (pc' := 218) rfl (hb hby at_211) rfl (feq (show ¬ (c0 = c2) from hc211)).2 (by decide) (by decide) ?_
        show Steps p.tables e below (T33.setTop (mkF m 218 #[.val (.int p0), .val (.int p1), .val (.int p2), .val (.int p3), .val (.int p4), .val (.int (own_i n)), .val (.int c0), .val (.int c1), .val (.int c2), .val (.int c3), .val (.ref b4), .val (.ref pt), .val (.ref cb), .val (.long (own_l KK.1)), .second, .val (.long (own_lov (own_i n))), .second, .val (.long (own_hiv (own_i n))), .second, .val (.int (own_e1 c0 c1)), .unset, .unset, .unset] [])) _
        refine XS.iconst X33.here hx rfl (hb hby at_218) ?_
        have hval : e2 = (0 : Int32) := by
          rw [he2]
          simp only [own_e2, if_neg hc193, if_neg hc211]
        subst hval
        exact kk_
  have p_42' := p_42 (own_e2 c0 c1 c2) rfl
  have p_43 : ∀ tg_, Steps p.tables e below (T33.setTop (mkF m 225 #[.val (.int p0), .val (.int p1), .val (.int p2), .val (.int p3), .val (.int p4), .val (.int (own_i n)), .val (.int c0), .val (.int c1), .val (.int c2), .val (.int c3), .val (.ref b4), .val (.ref pt), .val (.ref cb), .val (.long (own_l KK.1)), .second, .val (.long (own_lov (own_i n))), .second, .val (.long (own_hiv (own_i n))), .second, .val (.int (own_e1 c0 c1)), .val (.int (own_e2 c0 c1 c2)), .unset, .unset] [(.int c1), (.int c0)])) tg_ → Steps p.tables e below (s₁.setTop (entryFrame m #[(.int p0), (.int p1), (.int p2), (.int p3), (.int p4)] maxLocals)) tg_ := by
    intro tg_ kk_
    refine p_42' tg_ ?_
    show Steps p.tables e below (T33.setTop (mkF m 219 #[.val (.int p0), .val (.int p1), .val (.int p2), .val (.int p3), .val (.int p4), .val (.int (own_i n)), .val (.int c0), .val (.int c1), .val (.int c2), .val (.int c3), .val (.ref b4), .val (.ref pt), .val (.ref cb), .val (.long (own_l KK.1)), .second, .val (.long (own_lov (own_i n))), .second, .val (.long (own_hiv (own_i n))), .second, .val (.int (own_e1 c0 c1)), .unset, .unset, .unset] [(.int (own_e2 c0 c1 c2))])) _
    refine XS.istore X33.here hx rfl (hb hby at_219) rfl (l' := #[.val (.int p0), .val (.int p1), .val (.int p2), .val (.int p3), .val (.int p4), .val (.int (own_i n)), .val (.int c0), .val (.int c1), .val (.int c2), .val (.int c3), .val (.ref b4), .val (.ref pt), .val (.ref cb), .val (.long (own_l KK.1)), .second, .val (.long (own_lov (own_i n))), .second, .val (.long (own_hiv (own_i n))), .second, .val (.int (own_e1 c0 c1)), .val (.int (own_e2 c0 c1 c2)), .unset, .unset]) rfl ?_
    show Steps p.tables e below (T33.setTop (mkF m 221 #[.val (.int p0), .val (.int p1), .val (.int p2), .val (.int p3), .val (.int p4), .val (.int (own_i n)), .val (.int c0), .val (.int c1), .val (.int c2), .val (.int c3), .val (.ref b4), .val (.ref pt), .val (.ref cb), .val (.long (own_l KK.1)), .second, .val (.long (own_lov (own_i n))), .second, .val (.long (own_hiv (own_i n))), .second, .val (.int (own_e1 c0 c1)), .val (.int (own_e2 c0 c1 c2)), .unset, .unset] [])) _
    refine XS.iload X33.here hx rfl (hb hby at_221) rfl ?_
    show Steps p.tables e below (T33.setTop (mkF m 223 #[.val (.int p0), .val (.int p1), .val (.int p2), .val (.int p3), .val (.int p4), .val (.int (own_i n)), .val (.int c0), .val (.int c1), .val (.int c2), .val (.int c3), .val (.ref b4), .val (.ref pt), .val (.ref cb), .val (.long (own_l KK.1)), .second, .val (.long (own_lov (own_i n))), .second, .val (.long (own_hiv (own_i n))), .second, .val (.int (own_e1 c0 c1)), .val (.int (own_e2 c0 c1 c2)), .unset, .unset] [(.int c0)])) _
    refine XS.iload X33.here hx rfl (hb hby at_223) rfl ?_
    exact kk_
  have p_44 : ∀ e3 : Int32, (e3 = (own_e3 c0 c1 c2 c3)) → ∀ tg_, Steps p.tables e below (T33.setTop (mkF m 276 #[.val (.int p0), .val (.int p1), .val (.int p2), .val (.int p3), .val (.int p4), .val (.int (own_i n)), .val (.int c0), .val (.int c1), .val (.int c2), .val (.int c3), .val (.ref b4), .val (.ref pt), .val (.ref cb), .val (.long (own_l KK.1)), .second, .val (.long (own_lov (own_i n))), .second, .val (.long (own_hiv (own_i n))), .second, .val (.int (own_e1 c0 c1)), .val (.int (own_e2 c0 c1 c2)), .unset, .unset] [(.int e3)])) tg_ → Steps p.tables e below (s₁.setTop (entryFrame m #[(.int p0), (.int p1), (.int p2), (.int p3), (.int p4)] maxLocals)) tg_ := by
    intro e3 he3 tg_ kk_
    refine p_43 tg_ ?_
    show Steps p.tables e below (T33.setTop (mkF m 225 #[.val (.int p0), .val (.int p1), .val (.int p2), .val (.int p3), .val (.int p4), .val (.int (own_i n)), .val (.int c0), .val (.int c1), .val (.int c2), .val (.int c3), .val (.ref b4), .val (.ref pt), .val (.ref cb), .val (.long (own_l KK.1)), .second, .val (.long (own_lov (own_i n))), .second, .val (.long (own_hiv (own_i n))), .second, .val (.int (own_e1 c0 c1)), .val (.int (own_e2 c0 c1 c2)), .unset, .unset] [(.int c1), (.int c0)])) _
    by_cases hc225 : c0 = c1
    · show Steps p.tables e below (T33.setTop (mkF m 225 #[.val (.int p0), .val (.int p1), .val (.int p2), .val (.int p3), .val (.int p4), .val (.int (own_i n)), .val (.int c0), .val (.int c1), .val (.int c2), .val (.int c3), .val (.ref b4), .val (.ref pt), .val (.ref cb), .val (.long (own_l KK.1)), .second, .val (.long (own_lov (own_i n))), .second, .val (.long (own_hiv (own_i n))), .second, .val (.int (own_e1 c0 c1)), .val (.int (own_e2 c0 c1 c2)), .unset, .unset] [(.int c1), (.int c0)])) _
      refine XS.icmpNo X33.here hx rfl (hb hby at_225) rfl (teq (show c0 = c1 from hc225)).2 ?_
      show Steps p.tables e below (T33.setTop (mkF m 228 #[.val (.int p0), .val (.int p1), .val (.int p2), .val (.int p3), .val (.int p4), .val (.int (own_i n)), .val (.int c0), .val (.int c1), .val (.int c2), .val (.int c3), .val (.ref b4), .val (.ref pt), .val (.ref cb), .val (.long (own_l KK.1)), .second, .val (.long (own_lov (own_i n))), .second, .val (.long (own_hiv (own_i n))), .second, .val (.int (own_e1 c0 c1)), .val (.int (own_e2 c0 c1 c2)), .unset, .unset] [])) _
      refine XS.iload X33.here hx rfl (hb hby at_228) rfl ?_
      show Steps p.tables e below (T33.setTop (mkF m 230 #[.val (.int p0), .val (.int p1), .val (.int p2), .val (.int p3), .val (.int p4), .val (.int (own_i n)), .val (.int c0), .val (.int c1), .val (.int c2), .val (.int c3), .val (.ref b4), .val (.ref pt), .val (.ref cb), .val (.long (own_l KK.1)), .second, .val (.long (own_lov (own_i n))), .second, .val (.long (own_hiv (own_i n))), .second, .val (.int (own_e1 c0 c1)), .val (.int (own_e2 c0 c1 c2)), .unset, .unset] [(.int c1)])) _
      refine XS.iload X33.here hx rfl (hb hby at_230) rfl ?_
      show Steps p.tables e below (T33.setTop (mkF m 232 #[.val (.int p0), .val (.int p1), .val (.int p2), .val (.int p3), .val (.int p4), .val (.int (own_i n)), .val (.int c0), .val (.int c1), .val (.int c2), .val (.int c3), .val (.ref b4), .val (.ref pt), .val (.ref cb), .val (.long (own_l KK.1)), .second, .val (.long (own_lov (own_i n))), .second, .val (.long (own_hiv (own_i n))), .second, .val (.int (own_e1 c0 c1)), .val (.int (own_e2 c0 c1 c2)), .unset, .unset] [(.int c2), (.int c1)])) _
      by_cases hc232 : c1 = c2
      · show Steps p.tables e below (T33.setTop (mkF m 232 #[.val (.int p0), .val (.int p1), .val (.int p2), .val (.int p3), .val (.int p4), .val (.int (own_i n)), .val (.int c0), .val (.int c1), .val (.int c2), .val (.int c3), .val (.ref b4), .val (.ref pt), .val (.ref cb), .val (.long (own_l KK.1)), .second, .val (.long (own_lov (own_i n))), .second, .val (.long (own_hiv (own_i n))), .second, .val (.int (own_e1 c0 c1)), .val (.int (own_e2 c0 c1 c2)), .unset, .unset] [(.int c2), (.int c1)])) _
        refine XS.icmpNo X33.here hx rfl (hb hby at_232) rfl (teq (show c1 = c2 from hc232)).2 ?_
        show Steps p.tables e below (T33.setTop (mkF m 235 #[.val (.int p0), .val (.int p1), .val (.int p2), .val (.int p3), .val (.int p4), .val (.int (own_i n)), .val (.int c0), .val (.int c1), .val (.int c2), .val (.int c3), .val (.ref b4), .val (.ref pt), .val (.ref cb), .val (.long (own_l KK.1)), .second, .val (.long (own_lov (own_i n))), .second, .val (.long (own_hiv (own_i n))), .second, .val (.int (own_e1 c0 c1)), .val (.int (own_e2 c0 c1 c2)), .unset, .unset] [])) _
        refine XS.iload X33.here hx rfl (hb hby at_235) rfl ?_
        show Steps p.tables e below (T33.setTop (mkF m 237 #[.val (.int p0), .val (.int p1), .val (.int p2), .val (.int p3), .val (.int p4), .val (.int (own_i n)), .val (.int c0), .val (.int c1), .val (.int c2), .val (.int c3), .val (.ref b4), .val (.ref pt), .val (.ref cb), .val (.long (own_l KK.1)), .second, .val (.long (own_lov (own_i n))), .second, .val (.long (own_hiv (own_i n))), .second, .val (.int (own_e1 c0 c1)), .val (.int (own_e2 c0 c1 c2)), .unset, .unset] [(.int c2)])) _
        refine XS.iload X33.here hx rfl (hb hby at_237) rfl ?_
        show Steps p.tables e below (T33.setTop (mkF m 239 #[.val (.int p0), .val (.int p1), .val (.int p2), .val (.int p3), .val (.int p4), .val (.int (own_i n)), .val (.int c0), .val (.int c1), .val (.int c2), .val (.int c3), .val (.ref b4), .val (.ref pt), .val (.ref cb), .val (.long (own_l KK.1)), .second, .val (.long (own_lov (own_i n))), .second, .val (.long (own_hiv (own_i n))), .second, .val (.int (own_e1 c0 c1)), .val (.int (own_e2 c0 c1 c2)), .unset, .unset] [(.int c3), (.int c2)])) _
        by_cases hc239 : c2 = c3
        · show Steps p.tables e below (T33.setTop (mkF m 239 #[.val (.int p0), .val (.int p1), .val (.int p2), .val (.int p3), .val (.int p4), .val (.int (own_i n)), .val (.int c0), .val (.int c1), .val (.int c2), .val (.int c3), .val (.ref b4), .val (.ref pt), .val (.ref cb), .val (.long (own_l KK.1)), .second, .val (.long (own_lov (own_i n))), .second, .val (.long (own_hiv (own_i n))), .second, .val (.int (own_e1 c0 c1)), .val (.int (own_e2 c0 c1 c2)), .unset, .unset] [(.int c3), (.int c2)])) _
          refine XS.icmpNo X33.here hx rfl (hb hby at_239) rfl (teq (show c2 = c3 from hc239)).2 ?_
          show Steps p.tables e below (T33.setTop (mkF m 242 #[.val (.int p0), .val (.int p1), .val (.int p2), .val (.int p3), .val (.int p4), .val (.int (own_i n)), .val (.int c0), .val (.int c1), .val (.int c2), .val (.int c3), .val (.ref b4), .val (.ref pt), .val (.ref cb), .val (.long (own_l KK.1)), .second, .val (.long (own_lov (own_i n))), .second, .val (.long (own_hiv (own_i n))), .second, .val (.int (own_e1 c0 c1)), .val (.int (own_e2 c0 c1 c2)), .unset, .unset] [])) _
          refine XS.iconst X33.here hx rfl (hb hby at_242) ?_
          show Steps p.tables e below (T33.setTop (mkF m 243 #[.val (.int p0), .val (.int p1), .val (.int p2), .val (.int p3), .val (.int p4), .val (.int (own_i n)), .val (.int c0), .val (.int c1), .val (.int c2), .val (.int c3), .val (.ref b4), .val (.ref pt), .val (.ref cb), .val (.long (own_l KK.1)), .second, .val (.long (own_lov (own_i n))), .second, .val (.long (own_hiv (own_i n))), .second, .val (.int (own_e1 c0 c1)), .val (.int (own_e2 c0 c1 c2)), .unset, .unset] [(.int (3 : Int32))])) _
          refine XS.goto X33.here hx rfl (pc0 := 243) (pc' := 276) rfl (hb hby at_243) (by decide) (by decide) ?_
          have hval : e3 = (3 : Int32) := by
            rw [he3]
            simp only [own_e3, if_pos hc225, if_pos hc232, if_pos hc239]
          subst hval
          exact kk_
        · show Steps p.tables e below (T33.setTop (mkF m 239 #[.val (.int p0), .val (.int p1), .val (.int p2), .val (.int p3), .val (.int p4), .val (.int (own_i n)), .val (.int c0), .val (.int c1), .val (.int c2), .val (.int c3), .val (.ref b4), .val (.ref pt), .val (.ref cb), .val (.long (own_l KK.1)), .second, .val (.long (own_lov (own_i n))), .second, .val (.long (own_hiv (own_i n))), .second, .val (.int (own_e1 c0 c1)), .val (.int (own_e2 c0 c1 c2)), .unset, .unset] [(.int c3), (.int c2)])) _
          refine XS.icmpYes X33.here hx rfl (pc0 := 239) (pc' := 246) rfl (hb hby at_239) rfl (feq (show ¬ (c2 = c3) from hc239)).2 (by decide) (by decide) ?_
          show Steps p.tables e below (T33.setTop (mkF m 246 #[.val (.int p0), .val (.int p1), .val (.int p2), .val (.int p3), .val (.int p4), .val (.int (own_i n)), .val (.int c0), .val (.int c1), .val (.int c2), .val (.int c3), .val (.ref b4), .val (.ref pt), .val (.ref cb), .val (.long (own_l KK.1)), .second, .val (.long (own_lov (own_i n))), .second, .val (.long (own_hiv (own_i n))), .second, .val (.int (own_e1 c0 c1)), .val (.int (own_e2 c0 c1 c2)), .unset, .unset] [])) _
          refine XS.iload X33.here hx rfl (hb hby at_246) rfl ?_
          show Steps p.tables e below (T33.setTop (mkF m 248 #[.val (.int p0), .val (.int p1), .val (.int p2), .val (.int p3), .val (.int p4), .val (.int (own_i n)), .val (.int c0), .val (.int c1), .val (.int c2), .val (.int c3), .val (.ref b4), .val (.ref pt), .val (.ref cb), .val (.long (own_l KK.1)), .second, .val (.long (own_lov (own_i n))), .second, .val (.long (own_hiv (own_i n))), .second, .val (.int (own_e1 c0 c1)), .val (.int (own_e2 c0 c1 c2)), .unset, .unset] [(.int c0)])) _
          refine XS.iload X33.here hx rfl (hb hby at_248) rfl ?_
          show Steps p.tables e below (T33.setTop (mkF m 250 #[.val (.int p0), .val (.int p1), .val (.int p2), .val (.int p3), .val (.int p4), .val (.int (own_i n)), .val (.int c0), .val (.int c1), .val (.int c2), .val (.int c3), .val (.ref b4), .val (.ref pt), .val (.ref cb), .val (.long (own_l KK.1)), .second, .val (.long (own_lov (own_i n))), .second, .val (.long (own_hiv (own_i n))), .second, .val (.int (own_e1 c0 c1)), .val (.int (own_e2 c0 c1 c2)), .unset, .unset] [(.int c2), (.int c0)])) _
          by_cases hc250 : c0 = c2
          · show Steps p.tables e below (T33.setTop (mkF m 250 #[.val (.int p0), .val (.int p1), .val (.int p2), .val (.int p3), .val (.int p4), .val (.int (own_i n)), .val (.int c0), .val (.int c1), .val (.int c2), .val (.int c3), .val (.ref b4), .val (.ref pt), .val (.ref cb), .val (.long (own_l KK.1)), .second, .val (.long (own_lov (own_i n))), .second, .val (.long (own_hiv (own_i n))), .second, .val (.int (own_e1 c0 c1)), .val (.int (own_e2 c0 c1 c2)), .unset, .unset] [(.int c2), (.int c0)])) _
            refine XS.icmpNo X33.here hx rfl (hb hby at_250) rfl (teq (show c0 = c2 from hc250)).2 ?_
            show Steps p.tables e below (T33.setTop (mkF m 253 #[.val (.int p0), .val (.int p1), .val (.int p2), .val (.int p3), .val (.int p4), .val (.int (own_i n)), .val (.int c0), .val (.int c1), .val (.int c2), .val (.int c3), .val (.ref b4), .val (.ref pt), .val (.ref cb), .val (.long (own_l KK.1)), .second, .val (.long (own_lov (own_i n))), .second, .val (.long (own_hiv (own_i n))), .second, .val (.int (own_e1 c0 c1)), .val (.int (own_e2 c0 c1 c2)), .unset, .unset] [])) _
            refine XS.iload X33.here hx rfl (hb hby at_253) rfl ?_
            show Steps p.tables e below (T33.setTop (mkF m 255 #[.val (.int p0), .val (.int p1), .val (.int p2), .val (.int p3), .val (.int p4), .val (.int (own_i n)), .val (.int c0), .val (.int c1), .val (.int c2), .val (.int c3), .val (.ref b4), .val (.ref pt), .val (.ref cb), .val (.long (own_l KK.1)), .second, .val (.long (own_lov (own_i n))), .second, .val (.long (own_hiv (own_i n))), .second, .val (.int (own_e1 c0 c1)), .val (.int (own_e2 c0 c1 c2)), .unset, .unset] [(.int c1)])) _
            refine XS.iload X33.here hx rfl (hb hby at_255) rfl ?_
            show Steps p.tables e below (T33.setTop (mkF m 257 #[.val (.int p0), .val (.int p1), .val (.int p2), .val (.int p3), .val (.int p4), .val (.int (own_i n)), .val (.int c0), .val (.int c1), .val (.int c2), .val (.int c3), .val (.ref b4), .val (.ref pt), .val (.ref cb), .val (.long (own_l KK.1)), .second, .val (.long (own_lov (own_i n))), .second, .val (.long (own_hiv (own_i n))), .second, .val (.int (own_e1 c0 c1)), .val (.int (own_e2 c0 c1 c2)), .unset, .unset] [(.int c3), (.int c1)])) _
            by_cases hc257 : c1 = c3
            · show Steps p.tables e below (T33.setTop (mkF m 257 #[.val (.int p0), .val (.int p1), .val (.int p2), .val (.int p3), .val (.int p4), .val (.int (own_i n)), .val (.int c0), .val (.int c1), .val (.int c2), .val (.int c3), .val (.ref b4), .val (.ref pt), .val (.ref cb), .val (.long (own_l KK.1)), .second, .val (.long (own_lov (own_i n))), .second, .val (.long (own_hiv (own_i n))), .second, .val (.int (own_e1 c0 c1)), .val (.int (own_e2 c0 c1 c2)), .unset, .unset] [(.int c3), (.int c1)])) _
              refine XS.icmpNo X33.here hx rfl (hb hby at_257) rfl (teq (show c1 = c3 from hc257)).2 ?_
              show Steps p.tables e below (T33.setTop (mkF m 260 #[.val (.int p0), .val (.int p1), .val (.int p2), .val (.int p3), .val (.int p4), .val (.int (own_i n)), .val (.int c0), .val (.int c1), .val (.int c2), .val (.int c3), .val (.ref b4), .val (.ref pt), .val (.ref cb), .val (.long (own_l KK.1)), .second, .val (.long (own_lov (own_i n))), .second, .val (.long (own_hiv (own_i n))), .second, .val (.int (own_e1 c0 c1)), .val (.int (own_e2 c0 c1 c2)), .unset, .unset] [])) _
              refine XS.iconst X33.here hx rfl (hb hby at_260) ?_
              show Steps p.tables e below (T33.setTop (mkF m 261 #[.val (.int p0), .val (.int p1), .val (.int p2), .val (.int p3), .val (.int p4), .val (.int (own_i n)), .val (.int c0), .val (.int c1), .val (.int c2), .val (.int c3), .val (.ref b4), .val (.ref pt), .val (.ref cb), .val (.long (own_l KK.1)), .second, .val (.long (own_lov (own_i n))), .second, .val (.long (own_hiv (own_i n))), .second, .val (.int (own_e1 c0 c1)), .val (.int (own_e2 c0 c1 c2)), .unset, .unset] [(.int (2 : Int32))])) _
              refine XS.goto X33.here hx rfl (pc0 := 261) (pc' := 276) rfl (hb hby at_261) (by decide) (by decide) ?_
              have hval : e3 = (2 : Int32) := by
                rw [he3]
                simp only [own_e3, if_pos hc225, if_pos hc232, if_neg hc239, if_pos hc250, if_pos hc257]
              subst hval
              exact kk_
            · show Steps p.tables e below (T33.setTop (mkF m 257 #[.val (.int p0), .val (.int p1), .val (.int p2), .val (.int p3), .val (.int p4), .val (.int (own_i n)), .val (.int c0), .val (.int c1), .val (.int c2), .val (.int c3), .val (.ref b4), .val (.ref pt), .val (.ref cb), .val (.long (own_l KK.1)), .second, .val (.long (own_lov (own_i n))), .second, .val (.long (own_hiv (own_i n))), .second, .val (.int (own_e1 c0 c1)), .val (.int (own_e2 c0 c1 c2)), .unset, .unset] [(.int c3), (.int c1)])) _
              refine XS.icmpYes X33.here hx rfl (pc0 := 257) (pc' := 264) rfl (hb hby at_257) rfl (feq (show ¬ (c1 = c3) from hc257)).2 (by decide) (by decide) ?_
              show Steps p.tables e below (T33.setTop (mkF m 264 #[.val (.int p0), .val (.int p1), .val (.int p2), .val (.int p3), .val (.int p4), .val (.int (own_i n)), .val (.int c0), .val (.int c1), .val (.int c2), .val (.int c3), .val (.ref b4), .val (.ref pt), .val (.ref cb), .val (.long (own_l KK.1)), .second, .val (.long (own_lov (own_i n))), .second, .val (.long (own_hiv (own_i n))), .second, .val (.int (own_e1 c0 c1)), .val (.int (own_e2 c0 c1 c2)), .unset, .unset] [])) _
              refine XS.iload X33.here hx rfl (hb hby at_264) rfl ?_
              show Steps p.tables e below (T33.setTop (mkF m 266 #[.val (.int p0), .val (.int p1), .val (.int p2), .val (.int p3), .val (.int p4), .val (.int (own_i n)), .val (.int c0), .val (.int c1), .val (.int c2), .val (.int c3), .val (.ref b4), .val (.ref pt), .val (.ref cb), .val (.long (own_l KK.1)), .second, .val (.long (own_lov (own_i n))), .second, .val (.long (own_hiv (own_i n))), .second, .val (.int (own_e1 c0 c1)), .val (.int (own_e2 c0 c1 c2)), .unset, .unset] [(.int c0)])) _
              refine XS.iload X33.here hx rfl (hb hby at_266) rfl ?_
              show Steps p.tables e below (T33.setTop (mkF m 268 #[.val (.int p0), .val (.int p1), .val (.int p2), .val (.int p3), .val (.int p4), .val (.int (own_i n)), .val (.int c0), .val (.int c1), .val (.int c2), .val (.int c3), .val (.ref b4), .val (.ref pt), .val (.ref cb), .val (.long (own_l KK.1)), .second, .val (.long (own_lov (own_i n))), .second, .val (.long (own_hiv (own_i n))), .second, .val (.int (own_e1 c0 c1)), .val (.int (own_e2 c0 c1 c2)), .unset, .unset] [(.int c3), (.int c0)])) _
              by_cases hc268 : c0 = c3
              · show Steps p.tables e below (T33.setTop (mkF m 268 #[.val (.int p0), .val (.int p1), .val (.int p2), .val (.int p3), .val (.int p4), .val (.int (own_i n)), .val (.int c0), .val (.int c1), .val (.int c2), .val (.int c3), .val (.ref b4), .val (.ref pt), .val (.ref cb), .val (.long (own_l KK.1)), .second, .val (.long (own_lov (own_i n))), .second, .val (.long (own_hiv (own_i n))), .second, .val (.int (own_e1 c0 c1)), .val (.int (own_e2 c0 c1 c2)), .unset, .unset] [(.int c3), (.int c0)])) _
                refine XS.icmpNo X33.here hx rfl (hb hby at_268) rfl (teq (show c0 = c3 from hc268)).2 ?_
                show Steps p.tables e below (T33.setTop (mkF m 271 #[.val (.int p0), .val (.int p1), .val (.int p2), .val (.int p3), .val (.int p4), .val (.int (own_i n)), .val (.int c0), .val (.int c1), .val (.int c2), .val (.int c3), .val (.ref b4), .val (.ref pt), .val (.ref cb), .val (.long (own_l KK.1)), .second, .val (.long (own_lov (own_i n))), .second, .val (.long (own_hiv (own_i n))), .second, .val (.int (own_e1 c0 c1)), .val (.int (own_e2 c0 c1 c2)), .unset, .unset] [])) _
                refine XS.iconst X33.here hx rfl (hb hby at_271) ?_
                show Steps p.tables e below (T33.setTop (mkF m 272 #[.val (.int p0), .val (.int p1), .val (.int p2), .val (.int p3), .val (.int p4), .val (.int (own_i n)), .val (.int c0), .val (.int c1), .val (.int c2), .val (.int c3), .val (.ref b4), .val (.ref pt), .val (.ref cb), .val (.long (own_l KK.1)), .second, .val (.long (own_lov (own_i n))), .second, .val (.long (own_hiv (own_i n))), .second, .val (.int (own_e1 c0 c1)), .val (.int (own_e2 c0 c1 c2)), .unset, .unset] [(.int (1 : Int32))])) _
                refine XS.goto X33.here hx rfl (pc0 := 272) (pc' := 276) rfl (hb hby at_272) (by decide) (by decide) ?_
                have hval : e3 = (1 : Int32) := by
                  rw [he3]
                  simp only [own_e3, if_pos hc225, if_pos hc232, if_neg hc239, if_pos hc250, if_neg hc257, if_pos hc268]
                subst hval
                exact kk_
              · show Steps p.tables e below (T33.setTop (mkF m 268 #[.val (.int p0), .val (.int p1), .val (.int p2), .val (.int p3), .val (.int p4), .val (.int (own_i n)), .val (.int c0), .val (.int c1), .val (.int c2), .val (.int c3), .val (.ref b4), .val (.ref pt), .val (.ref cb), .val (.long (own_l KK.1)), .second, .val (.long (own_lov (own_i n))), .second, .val (.long (own_hiv (own_i n))), .second, .val (.int (own_e1 c0 c1)), .val (.int (own_e2 c0 c1 c2)), .unset, .unset] [(.int c3), (.int c0)])) _
                refine XS.icmpYes X33.here hx rfl (pc0 := 268) (pc' := 275) rfl (hb hby at_268) rfl (feq (show ¬ (c0 = c3) from hc268)).2 (by decide) (by decide) ?_
                show Steps p.tables e below (T33.setTop (mkF m 275 #[.val (.int p0), .val (.int p1), .val (.int p2), .val (.int p3), .val (.int p4), .val (.int (own_i n)), .val (.int c0), .val (.int c1), .val (.int c2), .val (.int c3), .val (.ref b4), .val (.ref pt), .val (.ref cb), .val (.long (own_l KK.1)), .second, .val (.long (own_lov (own_i n))), .second, .val (.long (own_hiv (own_i n))), .second, .val (.int (own_e1 c0 c1)), .val (.int (own_e2 c0 c1 c2)), .unset, .unset] [])) _
                refine XS.iconst X33.here hx rfl (hb hby at_275) ?_
                have hval : e3 = (0 : Int32) := by
                  rw [he3]
                  simp only [own_e3, if_pos hc225, if_pos hc232, if_neg hc239, if_pos hc250, if_neg hc257, if_neg hc268]
                subst hval
                exact kk_
          · show Steps p.tables e below (T33.setTop (mkF m 250 #[.val (.int p0), .val (.int p1), .val (.int p2), .val (.int p3), .val (.int p4), .val (.int (own_i n)), .val (.int c0), .val (.int c1), .val (.int c2), .val (.int c3), .val (.ref b4), .val (.ref pt), .val (.ref cb), .val (.long (own_l KK.1)), .second, .val (.long (own_lov (own_i n))), .second, .val (.long (own_hiv (own_i n))), .second, .val (.int (own_e1 c0 c1)), .val (.int (own_e2 c0 c1 c2)), .unset, .unset] [(.int c2), (.int c0)])) _
            refine XS.icmpYes X33.here hx rfl (pc0 := 250) (pc' := 264) rfl (hb hby at_250) rfl (feq (show ¬ (c0 = c2) from hc250)).2 (by decide) (by decide) ?_
            show Steps p.tables e below (T33.setTop (mkF m 264 #[.val (.int p0), .val (.int p1), .val (.int p2), .val (.int p3), .val (.int p4), .val (.int (own_i n)), .val (.int c0), .val (.int c1), .val (.int c2), .val (.int c3), .val (.ref b4), .val (.ref pt), .val (.ref cb), .val (.long (own_l KK.1)), .second, .val (.long (own_lov (own_i n))), .second, .val (.long (own_hiv (own_i n))), .second, .val (.int (own_e1 c0 c1)), .val (.int (own_e2 c0 c1 c2)), .unset, .unset] [])) _
            refine XS.iload X33.here hx rfl (hb hby at_264) rfl ?_
            show Steps p.tables e below (T33.setTop (mkF m 266 #[.val (.int p0), .val (.int p1), .val (.int p2), .val (.int p3), .val (.int p4), .val (.int (own_i n)), .val (.int c0), .val (.int c1), .val (.int c2), .val (.int c3), .val (.ref b4), .val (.ref pt), .val (.ref cb), .val (.long (own_l KK.1)), .second, .val (.long (own_lov (own_i n))), .second, .val (.long (own_hiv (own_i n))), .second, .val (.int (own_e1 c0 c1)), .val (.int (own_e2 c0 c1 c2)), .unset, .unset] [(.int c0)])) _
            refine XS.iload X33.here hx rfl (hb hby at_266) rfl ?_
            show Steps p.tables e below (T33.setTop (mkF m 268 #[.val (.int p0), .val (.int p1), .val (.int p2), .val (.int p3), .val (.int p4), .val (.int (own_i n)), .val (.int c0), .val (.int c1), .val (.int c2), .val (.int c3), .val (.ref b4), .val (.ref pt), .val (.ref cb), .val (.long (own_l KK.1)), .second, .val (.long (own_lov (own_i n))), .second, .val (.long (own_hiv (own_i n))), .second, .val (.int (own_e1 c0 c1)), .val (.int (own_e2 c0 c1 c2)), .unset, .unset] [(.int c3), (.int c0)])) _
            by_cases hc268 : c0 = c3
            · show Steps p.tables e below (T33.setTop (mkF m 268 #[.val (.int p0), .val (.int p1), .val (.int p2), .val (.int p3), .val (.int p4), .val (.int (own_i n)), .val (.int c0), .val (.int c1), .val (.int c2), .val (.int c3), .val (.ref b4), .val (.ref pt), .val (.ref cb), .val (.long (own_l KK.1)), .second, .val (.long (own_lov (own_i n))), .second, .val (.long (own_hiv (own_i n))), .second, .val (.int (own_e1 c0 c1)), .val (.int (own_e2 c0 c1 c2)), .unset, .unset] [(.int c3), (.int c0)])) _
              refine XS.icmpNo X33.here hx rfl (hb hby at_268) rfl (teq (show c0 = c3 from hc268)).2 ?_
              show Steps p.tables e below (T33.setTop (mkF m 271 #[.val (.int p0), .val (.int p1), .val (.int p2), .val (.int p3), .val (.int p4), .val (.int (own_i n)), .val (.int c0), .val (.int c1), .val (.int c2), .val (.int c3), .val (.ref b4), .val (.ref pt), .val (.ref cb), .val (.long (own_l KK.1)), .second, .val (.long (own_lov (own_i n))), .second, .val (.long (own_hiv (own_i n))), .second, .val (.int (own_e1 c0 c1)), .val (.int (own_e2 c0 c1 c2)), .unset, .unset] [])) _
              refine XS.iconst X33.here hx rfl (hb hby at_271) ?_
              show Steps p.tables e below (T33.setTop (mkF m 272 #[.val (.int p0), .val (.int p1), .val (.int p2), .val (.int p3), .val (.int p4), .val (.int (own_i n)), .val (.int c0), .val (.int c1), .val (.int c2), .val (.int c3), .val (.ref b4), .val (.ref pt), .val (.ref cb), .val (.long (own_l KK.1)), .second, .val (.long (own_lov (own_i n))), .second, .val (.long (own_hiv (own_i n))), .second, .val (.int (own_e1 c0 c1)), .val (.int (own_e2 c0 c1 c2)), .unset, .unset] [(.int (1 : Int32))])) _
              refine XS.goto X33.here hx rfl (pc0 := 272) (pc' := 276) rfl (hb hby at_272) (by decide) (by decide) ?_
              have hval : e3 = (1 : Int32) := by
                rw [he3]
                simp only [own_e3, if_pos hc225, if_pos hc232, if_neg hc239, if_neg hc250, if_pos hc268]
              subst hval
              exact kk_
            · show Steps p.tables e below (T33.setTop (mkF m 268 #[.val (.int p0), .val (.int p1), .val (.int p2), .val (.int p3), .val (.int p4), .val (.int (own_i n)), .val (.int c0), .val (.int c1), .val (.int c2), .val (.int c3), .val (.ref b4), .val (.ref pt), .val (.ref cb), .val (.long (own_l KK.1)), .second, .val (.long (own_lov (own_i n))), .second, .val (.long (own_hiv (own_i n))), .second, .val (.int (own_e1 c0 c1)), .val (.int (own_e2 c0 c1 c2)), .unset, .unset] [(.int c3), (.int c0)])) _
              refine XS.icmpYes X33.here hx rfl (pc0 := 268) (pc' := 275) rfl (hb hby at_268) rfl (feq (show ¬ (c0 = c3) from hc268)).2 (by decide) (by decide) ?_
              show Steps p.tables e below (T33.setTop (mkF m 275 #[.val (.int p0), .val (.int p1), .val (.int p2), .val (.int p3), .val (.int p4), .val (.int (own_i n)), .val (.int c0), .val (.int c1), .val (.int c2), .val (.int c3), .val (.ref b4), .val (.ref pt), .val (.ref cb), .val (.long (own_l KK.1)), .second, .val (.long (own_lov (own_i n))), .second, .val (.long (own_hiv (own_i n))), .second, .val (.int (own_e1 c0 c1)), .val (.int (own_e2 c0 c1 c2)), .unset, .unset] [])) _
              refine XS.iconst X33.here hx rfl (hb hby at_275) ?_
              have hval : e3 = (0 : Int32) := by
                rw [he3]
                simp only [own_e3, if_pos hc225, if_pos hc232, if_neg hc239, if_neg hc250, if_neg hc268]
              subst hval
              exact kk_
      · show Steps p.tables e below (T33.setTop (mkF m 232 #[.val (.int p0), .val (.int p1), .val (.int p2), .val (.int p3), .val (.int p4), .val (.int (own_i n)), .val (.int c0), .val (.int c1), .val (.int c2), .val (.int c3), .val (.ref b4), .val (.ref pt), .val (.ref cb), .val (.long (own_l KK.1)), .second, .val (.long (own_lov (own_i n))), .second, .val (.long (own_hiv (own_i n))), .second, .val (.int (own_e1 c0 c1)), .val (.int (own_e2 c0 c1 c2)), .unset, .unset] [(.int c2), (.int c1)])) _
        refine XS.icmpYes X33.here hx rfl (pc0 := 232) (pc' := 246) rfl (hb hby at_232) rfl (feq (show ¬ (c1 = c2) from hc232)).2 (by decide) (by decide) ?_
        show Steps p.tables e below (T33.setTop (mkF m 246 #[.val (.int p0), .val (.int p1), .val (.int p2), .val (.int p3), .val (.int p4), .val (.int (own_i n)), .val (.int c0), .val (.int c1), .val (.int c2), .val (.int c3), .val (.ref b4), .val (.ref pt), .val (.ref cb), .val (.long (own_l KK.1)), .second, .val (.long (own_lov (own_i n))), .second, .val (.long (own_hiv (own_i n))), .second, .val (.int (own_e1 c0 c1)), .val (.int (own_e2 c0 c1 c2)), .unset, .unset] [])) _
        refine XS.iload X33.here hx rfl (hb hby at_246) rfl ?_
        show Steps p.tables e below (T33.setTop (mkF m 248 #[.val (.int p0), .val (.int p1), .val (.int p2), .val (.int p3), .val (.int p4), .val (.int (own_i n)), .val (.int c0), .val (.int c1), .val (.int c2), .val (.int c3), .val (.ref b4), .val (.ref pt), .val (.ref cb), .val (.long (own_l KK.1)), .second, .val (.long (own_lov (own_i n))), .second, .val (.long (own_hiv (own_i n))), .second, .val (.int (own_e1 c0 c1)), .val (.int (own_e2 c0 c1 c2)), .unset, .unset] [(.int c0)])) _
        refine XS.iload X33.here hx rfl (hb hby at_248) rfl ?_
        show Steps p.tables e below (T33.setTop (mkF m 250 #[.val (.int p0), .val (.int p1), .val (.int p2), .val (.int p3), .val (.int p4), .val (.int (own_i n)), .val (.int c0), .val (.int c1), .val (.int c2), .val (.int c3), .val (.ref b4), .val (.ref pt), .val (.ref cb), .val (.long (own_l KK.1)), .second, .val (.long (own_lov (own_i n))), .second, .val (.long (own_hiv (own_i n))), .second, .val (.int (own_e1 c0 c1)), .val (.int (own_e2 c0 c1 c2)), .unset, .unset] [(.int c2), (.int c0)])) _
        by_cases hc250 : c0 = c2
        · show Steps p.tables e below (T33.setTop (mkF m 250 #[.val (.int p0), .val (.int p1), .val (.int p2), .val (.int p3), .val (.int p4), .val (.int (own_i n)), .val (.int c0), .val (.int c1), .val (.int c2), .val (.int c3), .val (.ref b4), .val (.ref pt), .val (.ref cb), .val (.long (own_l KK.1)), .second, .val (.long (own_lov (own_i n))), .second, .val (.long (own_hiv (own_i n))), .second, .val (.int (own_e1 c0 c1)), .val (.int (own_e2 c0 c1 c2)), .unset, .unset] [(.int c2), (.int c0)])) _
          refine XS.icmpNo X33.here hx rfl (hb hby at_250) rfl (teq (show c0 = c2 from hc250)).2 ?_
          show Steps p.tables e below (T33.setTop (mkF m 253 #[.val (.int p0), .val (.int p1), .val (.int p2), .val (.int p3), .val (.int p4), .val (.int (own_i n)), .val (.int c0), .val (.int c1), .val (.int c2), .val (.int c3), .val (.ref b4), .val (.ref pt), .val (.ref cb), .val (.long (own_l KK.1)), .second, .val (.long (own_lov (own_i n))), .second, .val (.long (own_hiv (own_i n))), .second, .val (.int (own_e1 c0 c1)), .val (.int (own_e2 c0 c1 c2)), .unset, .unset] [])) _
          refine XS.iload X33.here hx rfl (hb hby at_253) rfl ?_
          show Steps p.tables e below (T33.setTop (mkF m 255 #[.val (.int p0), .val (.int p1), .val (.int p2), .val (.int p3), .val (.int p4), .val (.int (own_i n)), .val (.int c0), .val (.int c1), .val (.int c2), .val (.int c3), .val (.ref b4), .val (.ref pt), .val (.ref cb), .val (.long (own_l KK.1)), .second, .val (.long (own_lov (own_i n))), .second, .val (.long (own_hiv (own_i n))), .second, .val (.int (own_e1 c0 c1)), .val (.int (own_e2 c0 c1 c2)), .unset, .unset] [(.int c1)])) _
          refine XS.iload X33.here hx rfl (hb hby at_255) rfl ?_
          show Steps p.tables e below (T33.setTop (mkF m 257 #[.val (.int p0), .val (.int p1), .val (.int p2), .val (.int p3), .val (.int p4), .val (.int (own_i n)), .val (.int c0), .val (.int c1), .val (.int c2), .val (.int c3), .val (.ref b4), .val (.ref pt), .val (.ref cb), .val (.long (own_l KK.1)), .second, .val (.long (own_lov (own_i n))), .second, .val (.long (own_hiv (own_i n))), .second, .val (.int (own_e1 c0 c1)), .val (.int (own_e2 c0 c1 c2)), .unset, .unset] [(.int c3), (.int c1)])) _
          by_cases hc257 : c1 = c3
          · show Steps p.tables e below (T33.setTop (mkF m 257 #[.val (.int p0), .val (.int p1), .val (.int p2), .val (.int p3), .val (.int p4), .val (.int (own_i n)), .val (.int c0), .val (.int c1), .val (.int c2), .val (.int c3), .val (.ref b4), .val (.ref pt), .val (.ref cb), .val (.long (own_l KK.1)), .second, .val (.long (own_lov (own_i n))), .second, .val (.long (own_hiv (own_i n))), .second, .val (.int (own_e1 c0 c1)), .val (.int (own_e2 c0 c1 c2)), .unset, .unset] [(.int c3), (.int c1)])) _
            refine XS.icmpNo X33.here hx rfl (hb hby at_257) rfl (teq (show c1 = c3 from hc257)).2 ?_
            show Steps p.tables e below (T33.setTop (mkF m 260 #[.val (.int p0), .val (.int p1), .val (.int p2), .val (.int p3), .val (.int p4), .val (.int (own_i n)), .val (.int c0), .val (.int c1), .val (.int c2), .val (.int c3), .val (.ref b4), .val (.ref pt), .val (.ref cb), .val (.long (own_l KK.1)), .second, .val (.long (own_lov (own_i n))), .second, .val (.long (own_hiv (own_i n))), .second, .val (.int (own_e1 c0 c1)), .val (.int (own_e2 c0 c1 c2)), .unset, .unset] [])) _
            refine XS.iconst X33.here hx rfl (hb hby at_260) ?_
            show Steps p.tables e below (T33.setTop (mkF m 261 #[.val (.int p0), .val (.int p1), .val (.int p2), .val (.int p3), .val (.int p4), .val (.int (own_i n)), .val (.int c0), .val (.int c1), .val (.int c2), .val (.int c3), .val (.ref b4), .val (.ref pt), .val (.ref cb), .val (.long (own_l KK.1)), .second, .val (.long (own_lov (own_i n))), .second, .val (.long (own_hiv (own_i n))), .second, .val (.int (own_e1 c0 c1)), .val (.int (own_e2 c0 c1 c2)), .unset, .unset] [(.int (2 : Int32))])) _
            refine XS.goto X33.here hx rfl (pc0 := 261) (pc' := 276) rfl (hb hby at_261) (by decide) (by decide) ?_
            have hval : e3 = (2 : Int32) := by
              rw [he3]
              simp only [own_e3, if_pos hc225, if_neg hc232, if_pos hc250, if_pos hc257]
            subst hval
            exact kk_
          · show Steps p.tables e below (T33.setTop (mkF m 257 #[.val (.int p0), .val (.int p1), .val (.int p2), .val (.int p3), .val (.int p4), .val (.int (own_i n)), .val (.int c0), .val (.int c1), .val (.int c2), .val (.int c3), .val (.ref b4), .val (.ref pt), .val (.ref cb), .val (.long (own_l KK.1)), .second, .val (.long (own_lov (own_i n))), .second, .val (.long (own_hiv (own_i n))), .second, .val (.int (own_e1 c0 c1)), .val (.int (own_e2 c0 c1 c2)), .unset, .unset] [(.int c3), (.int c1)])) _
            refine XS.icmpYes X33.here hx rfl (pc0 := 257) (pc' := 264) rfl (hb hby at_257) rfl (feq (show ¬ (c1 = c3) from hc257)).2 (by decide) (by decide) ?_
            show Steps p.tables e below (T33.setTop (mkF m 264 #[.val (.int p0), .val (.int p1), .val (.int p2), .val (.int p3), .val (.int p4), .val (.int (own_i n)), .val (.int c0), .val (.int c1), .val (.int c2), .val (.int c3), .val (.ref b4), .val (.ref pt), .val (.ref cb), .val (.long (own_l KK.1)), .second, .val (.long (own_lov (own_i n))), .second, .val (.long (own_hiv (own_i n))), .second, .val (.int (own_e1 c0 c1)), .val (.int (own_e2 c0 c1 c2)), .unset, .unset] [])) _
            refine XS.iload X33.here hx rfl (hb hby at_264) rfl ?_
            show Steps p.tables e below (T33.setTop (mkF m 266 #[.val (.int p0), .val (.int p1), .val (.int p2), .val (.int p3), .val (.int p4), .val (.int (own_i n)), .val (.int c0), .val (.int c1), .val (.int c2), .val (.int c3), .val (.ref b4), .val (.ref pt), .val (.ref cb), .val (.long (own_l KK.1)), .second, .val (.long (own_lov (own_i n))), .second, .val (.long (own_hiv (own_i n))), .second, .val (.int (own_e1 c0 c1)), .val (.int (own_e2 c0 c1 c2)), .unset, .unset] [(.int c0)])) _
            refine XS.iload X33.here hx rfl (hb hby at_266) rfl ?_
            show Steps p.tables e below (T33.setTop (mkF m 268 #[.val (.int p0), .val (.int p1), .val (.int p2), .val (.int p3), .val (.int p4), .val (.int (own_i n)), .val (.int c0), .val (.int c1), .val (.int c2), .val (.int c3), .val (.ref b4), .val (.ref pt), .val (.ref cb), .val (.long (own_l KK.1)), .second, .val (.long (own_lov (own_i n))), .second, .val (.long (own_hiv (own_i n))), .second, .val (.int (own_e1 c0 c1)), .val (.int (own_e2 c0 c1 c2)), .unset, .unset] [(.int c3), (.int c0)])) _
            by_cases hc268 : c0 = c3
            · show Steps p.tables e below (T33.setTop (mkF m 268 #[.val (.int p0), .val (.int p1), .val (.int p2), .val (.int p3), .val (.int p4), .val (.int (own_i n)), .val (.int c0), .val (.int c1), .val (.int c2), .val (.int c3), .val (.ref b4), .val (.ref pt), .val (.ref cb), .val (.long (own_l KK.1)), .second, .val (.long (own_lov (own_i n))), .second, .val (.long (own_hiv (own_i n))), .second, .val (.int (own_e1 c0 c1)), .val (.int (own_e2 c0 c1 c2)), .unset, .unset] [(.int c3), (.int c0)])) _
              refine XS.icmpNo X33.here hx rfl (hb hby at_268) rfl (teq (show c0 = c3 from hc268)).2 ?_
              show Steps p.tables e below (T33.setTop (mkF m 271 #[.val (.int p0), .val (.int p1), .val (.int p2), .val (.int p3), .val (.int p4), .val (.int (own_i n)), .val (.int c0), .val (.int c1), .val (.int c2), .val (.int c3), .val (.ref b4), .val (.ref pt), .val (.ref cb), .val (.long (own_l KK.1)), .second, .val (.long (own_lov (own_i n))), .second, .val (.long (own_hiv (own_i n))), .second, .val (.int (own_e1 c0 c1)), .val (.int (own_e2 c0 c1 c2)), .unset, .unset] [])) _
              refine XS.iconst X33.here hx rfl (hb hby at_271) ?_
              show Steps p.tables e below (T33.setTop (mkF m 272 #[.val (.int p0), .val (.int p1), .val (.int p2), .val (.int p3), .val (.int p4), .val (.int (own_i n)), .val (.int c0), .val (.int c1), .val (.int c2), .val (.int c3), .val (.ref b4), .val (.ref pt), .val (.ref cb), .val (.long (own_l KK.1)), .second, .val (.long (own_lov (own_i n))), .second, .val (.long (own_hiv (own_i n))), .second, .val (.int (own_e1 c0 c1)), .val (.int (own_e2 c0 c1 c2)), .unset, .unset] [(.int (1 : Int32))])) _
              refine XS.goto X33.here hx rfl (pc0 := 272) (pc' := 276) rfl (hb hby at_272) (by decide) (by decide) ?_
              have hval : e3 = (1 : Int32) := by
                rw [he3]
                simp only [own_e3, if_pos hc225, if_neg hc232, if_pos hc250, if_neg hc257, if_pos hc268]
              subst hval
              exact kk_
            · show Steps p.tables e below (T33.setTop (mkF m 268 #[.val (.int p0), .val (.int p1), .val (.int p2), .val (.int p3), .val (.int p4), .val (.int (own_i n)), .val (.int c0), .val (.int c1), .val (.int c2), .val (.int c3), .val (.ref b4), .val (.ref pt), .val (.ref cb), .val (.long (own_l KK.1)), .second, .val (.long (own_lov (own_i n))), .second, .val (.long (own_hiv (own_i n))), .second, .val (.int (own_e1 c0 c1)), .val (.int (own_e2 c0 c1 c2)), .unset, .unset] [(.int c3), (.int c0)])) _
              refine XS.icmpYes X33.here hx rfl (pc0 := 268) (pc' := 275) rfl (hb hby at_268) rfl (feq (show ¬ (c0 = c3) from hc268)).2 (by decide) (by decide) ?_
              show Steps p.tables e below (T33.setTop (mkF m 275 #[.val (.int p0), .val (.int p1), .val (.int p2), .val (.int p3), .val (.int p4), .val (.int (own_i n)), .val (.int c0), .val (.int c1), .val (.int c2), .val (.int c3), .val (.ref b4), .val (.ref pt), .val (.ref cb), .val (.long (own_l KK.1)), .second, .val (.long (own_lov (own_i n))), .second, .val (.long (own_hiv (own_i n))), .second, .val (.int (own_e1 c0 c1)), .val (.int (own_e2 c0 c1 c2)), .unset, .unset] [])) _
              refine XS.iconst X33.here hx rfl (hb hby at_275) ?_
              have hval : e3 = (0 : Int32) := by
                rw [he3]
                simp only [own_e3, if_pos hc225, if_neg hc232, if_pos hc250, if_neg hc257, if_neg hc268]
              subst hval
              exact kk_
        · show Steps p.tables e below (T33.setTop (mkF m 250 #[.val (.int p0), .val (.int p1), .val (.int p2), .val (.int p3), .val (.int p4), .val (.int (own_i n)), .val (.int c0), .val (.int c1), .val (.int c2), .val (.int c3), .val (.ref b4), .val (.ref pt), .val (.ref cb), .val (.long (own_l KK.1)), .second, .val (.long (own_lov (own_i n))), .second, .val (.long (own_hiv (own_i n))), .second, .val (.int (own_e1 c0 c1)), .val (.int (own_e2 c0 c1 c2)), .unset, .unset] [(.int c2), (.int c0)])) _
          refine XS.icmpYes X33.here hx rfl (pc0 := 250) (pc' := 264) rfl (hb hby at_250) rfl (feq (show ¬ (c0 = c2) from hc250)).2 (by decide) (by decide) ?_
          show Steps p.tables e below (T33.setTop (mkF m 264 #[.val (.int p0), .val (.int p1), .val (.int p2), .val (.int p3), .val (.int p4), .val (.int (own_i n)), .val (.int c0), .val (.int c1), .val (.int c2), .val (.int c3), .val (.ref b4), .val (.ref pt), .val (.ref cb), .val (.long (own_l KK.1)), .second, .val (.long (own_lov (own_i n))), .second, .val (.long (own_hiv (own_i n))), .second, .val (.int (own_e1 c0 c1)), .val (.int (own_e2 c0 c1 c2)), .unset, .unset] [])) _
          refine XS.iload X33.here hx rfl (hb hby at_264) rfl ?_
          show Steps p.tables e below (T33.setTop (mkF m 266 #[.val (.int p0), .val (.int p1), .val (.int p2), .val (.int p3), .val (.int p4), .val (.int (own_i n)), .val (.int c0), .val (.int c1), .val (.int c2), .val (.int c3), .val (.ref b4), .val (.ref pt), .val (.ref cb), .val (.long (own_l KK.1)), .second, .val (.long (own_lov (own_i n))), .second, .val (.long (own_hiv (own_i n))), .second, .val (.int (own_e1 c0 c1)), .val (.int (own_e2 c0 c1 c2)), .unset, .unset] [(.int c0)])) _
          refine XS.iload X33.here hx rfl (hb hby at_266) rfl ?_
          show Steps p.tables e below (T33.setTop (mkF m 268 #[.val (.int p0), .val (.int p1), .val (.int p2), .val (.int p3), .val (.int p4), .val (.int (own_i n)), .val (.int c0), .val (.int c1), .val (.int c2), .val (.int c3), .val (.ref b4), .val (.ref pt), .val (.ref cb), .val (.long (own_l KK.1)), .second, .val (.long (own_lov (own_i n))), .second, .val (.long (own_hiv (own_i n))), .second, .val (.int (own_e1 c0 c1)), .val (.int (own_e2 c0 c1 c2)), .unset, .unset] [(.int c3), (.int c0)])) _
          by_cases hc268 : c0 = c3
          · show Steps p.tables e below (T33.setTop (mkF m 268 #[.val (.int p0), .val (.int p1), .val (.int p2), .val (.int p3), .val (.int p4), .val (.int (own_i n)), .val (.int c0), .val (.int c1), .val (.int c2), .val (.int c3), .val (.ref b4), .val (.ref pt), .val (.ref cb), .val (.long (own_l KK.1)), .second, .val (.long (own_lov (own_i n))), .second, .val (.long (own_hiv (own_i n))), .second, .val (.int (own_e1 c0 c1)), .val (.int (own_e2 c0 c1 c2)), .unset, .unset] [(.int c3), (.int c0)])) _
            refine XS.icmpNo X33.here hx rfl (hb hby at_268) rfl (teq (show c0 = c3 from hc268)).2 ?_
            show Steps p.tables e below (T33.setTop (mkF m 271 #[.val (.int p0), .val (.int p1), .val (.int p2), .val (.int p3), .val (.int p4), .val (.int (own_i n)), .val (.int c0), .val (.int c1), .val (.int c2), .val (.int c3), .val (.ref b4), .val (.ref pt), .val (.ref cb), .val (.long (own_l KK.1)), .second, .val (.long (own_lov (own_i n))), .second, .val (.long (own_hiv (own_i n))), .second, .val (.int (own_e1 c0 c1)), .val (.int (own_e2 c0 c1 c2)), .unset, .unset] [])) _
            refine XS.iconst X33.here hx rfl (hb hby at_271) ?_
            show Steps p.tables e below (T33.setTop (mkF m 272 #[.val (.int p0), .val (.int p1), .val (.int p2), .val (.int p3), .val (.int p4), .val (.int (own_i n)), .val (.int c0), .val (.int c1), .val (.int c2), .val (.int c3), .val (.ref b4), .val (.ref pt), .val (.ref cb), .val (.long (own_l KK.1)), .second, .val (.long (own_lov (own_i n))), .second, .val (.long (own_hiv (own_i n))), .second, .val (.int (own_e1 c0 c1)), .val (.int (own_e2 c0 c1 c2)), .unset, .unset] [(.int (1 : Int32))])) _
            refine XS.goto X33.here hx rfl (pc0 := 272) (pc' := 276) rfl (hb hby at_272) (by decide) (by decide) ?_
            have hval : e3 = (1 : Int32) := by
              rw [he3]
              simp only [own_e3, if_pos hc225, if_neg hc232, if_neg hc250, if_pos hc268]
            subst hval
            exact kk_
          · show Steps p.tables e below (T33.setTop (mkF m 268 #[.val (.int p0), .val (.int p1), .val (.int p2), .val (.int p3), .val (.int p4), .val (.int (own_i n)), .val (.int c0), .val (.int c1), .val (.int c2), .val (.int c3), .val (.ref b4), .val (.ref pt), .val (.ref cb), .val (.long (own_l KK.1)), .second, .val (.long (own_lov (own_i n))), .second, .val (.long (own_hiv (own_i n))), .second, .val (.int (own_e1 c0 c1)), .val (.int (own_e2 c0 c1 c2)), .unset, .unset] [(.int c3), (.int c0)])) _
            refine XS.icmpYes X33.here hx rfl (pc0 := 268) (pc' := 275) rfl (hb hby at_268) rfl (feq (show ¬ (c0 = c3) from hc268)).2 (by decide) (by decide) ?_
            show Steps p.tables e below (T33.setTop (mkF m 275 #[.val (.int p0), .val (.int p1), .val (.int p2), .val (.int p3), .val (.int p4), .val (.int (own_i n)), .val (.int c0), .val (.int c1), .val (.int c2), .val (.int c3), .val (.ref b4), .val (.ref pt), .val (.ref cb), .val (.long (own_l KK.1)), .second, .val (.long (own_lov (own_i n))), .second, .val (.long (own_hiv (own_i n))), .second, .val (.int (own_e1 c0 c1)), .val (.int (own_e2 c0 c1 c2)), .unset, .unset] [])) _
            refine XS.iconst X33.here hx rfl (hb hby at_275) ?_
            have hval : e3 = (0 : Int32) := by
              rw [he3]
              simp only [own_e3, if_pos hc225, if_neg hc232, if_neg hc250, if_neg hc268]
            subst hval
            exact kk_
    · show Steps p.tables e below (T33.setTop (mkF m 225 #[.val (.int p0), .val (.int p1), .val (.int p2), .val (.int p3), .val (.int p4), .val (.int (own_i n)), .val (.int c0), .val (.int c1), .val (.int c2), .val (.int c3), .val (.ref b4), .val (.ref pt), .val (.ref cb), .val (.long (own_l KK.1)), .second, .val (.long (own_lov (own_i n))), .second, .val (.long (own_hiv (own_i n))), .second, .val (.int (own_e1 c0 c1)), .val (.int (own_e2 c0 c1 c2)), .unset, .unset] [(.int c1), (.int c0)])) _
      refine XS.icmpYes X33.here hx rfl (pc0 := 225) (pc' := 246) rfl (hb hby at_225) rfl (feq (show ¬ (c0 = c1) from hc225)).2 (by decide) (by decide) ?_
      show Steps p.tables e below (T33.setTop (mkF m 246 #[.val (.int p0), .val (.int p1), .val (.int p2), .val (.int p3), .val (.int p4), .val (.int (own_i n)), .val (.int c0), .val (.int c1), .val (.int c2), .val (.int c3), .val (.ref b4), .val (.ref pt), .val (.ref cb), .val (.long (own_l KK.1)), .second, .val (.long (own_lov (own_i n))), .second, .val (.long (own_hiv (own_i n))), .second, .val (.int (own_e1 c0 c1)), .val (.int (own_e2 c0 c1 c2)), .unset, .unset] [])) _
      refine XS.iload X33.here hx rfl (hb hby at_246) rfl ?_
      show Steps p.tables e below (T33.setTop (mkF m 248 #[.val (.int p0), .val (.int p1), .val (.int p2), .val (.int p3), .val (.int p4), .val (.int (own_i n)), .val (.int c0), .val (.int c1), .val (.int c2), .val (.int c3), .val (.ref b4), .val (.ref pt), .val (.ref cb), .val (.long (own_l KK.1)), .second, .val (.long (own_lov (own_i n))), .second, .val (.long (own_hiv (own_i n))), .second, .val (.int (own_e1 c0 c1)), .val (.int (own_e2 c0 c1 c2)), .unset, .unset] [(.int c0)])) _
      refine XS.iload X33.here hx rfl (hb hby at_248) rfl ?_
      show Steps p.tables e below (T33.setTop (mkF m 250 #[.val (.int p0), .val (.int p1), .val (.int p2), .val (.int p3), .val (.int p4), .val (.int (own_i n)), .val (.int c0), .val (.int c1), .val (.int c2), .val (.int c3), .val (.ref b4), .val (.ref pt), .val (.ref cb), .val (.long (own_l KK.1)), .second, .val (.long (own_lov (own_i n))), .second, .val (.long (own_hiv (own_i n))), .second, .val (.int (own_e1 c0 c1)), .val (.int (own_e2 c0 c1 c2)), .unset, .unset] [(.int c2), (.int c0)])) _
      by_cases hc250 : c0 = c2
      · show Steps p.tables e below (T33.setTop (mkF m 250 #[.val (.int p0), .val (.int p1), .val (.int p2), .val (.int p3), .val (.int p4), .val (.int (own_i n)), .val (.int c0), .val (.int c1), .val (.int c2), .val (.int c3), .val (.ref b4), .val (.ref pt), .val (.ref cb), .val (.long (own_l KK.1)), .second, .val (.long (own_lov (own_i n))), .second, .val (.long (own_hiv (own_i n))), .second, .val (.int (own_e1 c0 c1)), .val (.int (own_e2 c0 c1 c2)), .unset, .unset] [(.int c2), (.int c0)])) _
        refine XS.icmpNo X33.here hx rfl (hb hby at_250) rfl (teq (show c0 = c2 from hc250)).2 ?_
        show Steps p.tables e below (T33.setTop (mkF m 253 #[.val (.int p0), .val (.int p1), .val (.int p2), .val (.int p3), .val (.int p4), .val (.int (own_i n)), .val (.int c0), .val (.int c1), .val (.int c2), .val (.int c3), .val (.ref b4), .val (.ref pt), .val (.ref cb), .val (.long (own_l KK.1)), .second, .val (.long (own_lov (own_i n))), .second, .val (.long (own_hiv (own_i n))), .second, .val (.int (own_e1 c0 c1)), .val (.int (own_e2 c0 c1 c2)), .unset, .unset] [])) _
        refine XS.iload X33.here hx rfl (hb hby at_253) rfl ?_
        show Steps p.tables e below (T33.setTop (mkF m 255 #[.val (.int p0), .val (.int p1), .val (.int p2), .val (.int p3), .val (.int p4), .val (.int (own_i n)), .val (.int c0), .val (.int c1), .val (.int c2), .val (.int c3), .val (.ref b4), .val (.ref pt), .val (.ref cb), .val (.long (own_l KK.1)), .second, .val (.long (own_lov (own_i n))), .second, .val (.long (own_hiv (own_i n))), .second, .val (.int (own_e1 c0 c1)), .val (.int (own_e2 c0 c1 c2)), .unset, .unset] [(.int c1)])) _
        refine XS.iload X33.here hx rfl (hb hby at_255) rfl ?_
        show Steps p.tables e below (T33.setTop (mkF m 257 #[.val (.int p0), .val (.int p1), .val (.int p2), .val (.int p3), .val (.int p4), .val (.int (own_i n)), .val (.int c0), .val (.int c1), .val (.int c2), .val (.int c3), .val (.ref b4), .val (.ref pt), .val (.ref cb), .val (.long (own_l KK.1)), .second, .val (.long (own_lov (own_i n))), .second, .val (.long (own_hiv (own_i n))), .second, .val (.int (own_e1 c0 c1)), .val (.int (own_e2 c0 c1 c2)), .unset, .unset] [(.int c3), (.int c1)])) _
        by_cases hc257 : c1 = c3
        · show Steps p.tables e below (T33.setTop (mkF m 257 #[.val (.int p0), .val (.int p1), .val (.int p2), .val (.int p3), .val (.int p4), .val (.int (own_i n)), .val (.int c0), .val (.int c1), .val (.int c2), .val (.int c3), .val (.ref b4), .val (.ref pt), .val (.ref cb), .val (.long (own_l KK.1)), .second, .val (.long (own_lov (own_i n))), .second, .val (.long (own_hiv (own_i n))), .second, .val (.int (own_e1 c0 c1)), .val (.int (own_e2 c0 c1 c2)), .unset, .unset] [(.int c3), (.int c1)])) _
          refine XS.icmpNo X33.here hx rfl (hb hby at_257) rfl (teq (show c1 = c3 from hc257)).2 ?_
          show Steps p.tables e below (T33.setTop (mkF m 260 #[.val (.int p0), .val (.int p1), .val (.int p2), .val (.int p3), .val (.int p4), .val (.int (own_i n)), .val (.int c0), .val (.int c1), .val (.int c2), .val (.int c3), .val (.ref b4), .val (.ref pt), .val (.ref cb), .val (.long (own_l KK.1)), .second, .val (.long (own_lov (own_i n))), .second, .val (.long (own_hiv (own_i n))), .second, .val (.int (own_e1 c0 c1)), .val (.int (own_e2 c0 c1 c2)), .unset, .unset] [])) _
          refine XS.iconst X33.here hx rfl (hb hby at_260) ?_
          show Steps p.tables e below (T33.setTop (mkF m 261 #[.val (.int p0), .val (.int p1), .val (.int p2), .val (.int p3), .val (.int p4), .val (.int (own_i n)), .val (.int c0), .val (.int c1), .val (.int c2), .val (.int c3), .val (.ref b4), .val (.ref pt), .val (.ref cb), .val (.long (own_l KK.1)), .second, .val (.long (own_lov (own_i n))), .second, .val (.long (own_hiv (own_i n))), .second, .val (.int (own_e1 c0 c1)), .val (.int (own_e2 c0 c1 c2)), .unset, .unset] [(.int (2 : Int32))])) _
          refine XS.goto X33.here hx rfl (pc0 := 261) (pc' := 276) rfl (hb hby at_261) (by decide) (by decide) ?_
          have hval : e3 = (2 : Int32) := by
            rw [he3]
            simp only [own_e3, if_neg hc225, if_pos hc250, if_pos hc257]
          subst hval
          exact kk_
        · show Steps p.tables e below (T33.setTop (mkF m 257 #[.val (.int p0), .val (.int p1), .val (.int p2), .val (.int p3), .val (.int p4), .val (.int (own_i n)), .val (.int c0), .val (.int c1), .val (.int c2), .val (.int c3), .val (.ref b4), .val (.ref pt), .val (.ref cb), .val (.long (own_l KK.1)), .second, .val (.long (own_lov (own_i n))), .second, .val (.long (own_hiv (own_i n))), .second, .val (.int (own_e1 c0 c1)), .val (.int (own_e2 c0 c1 c2)), .unset, .unset] [(.int c3), (.int c1)])) _
          refine XS.icmpYes X33.here hx rfl (pc0 := 257) (pc' := 264) rfl (hb hby at_257) rfl (feq (show ¬ (c1 = c3) from hc257)).2 (by decide) (by decide) ?_
          show Steps p.tables e below (T33.setTop (mkF m 264 #[.val (.int p0), .val (.int p1), .val (.int p2), .val (.int p3), .val (.int p4), .val (.int (own_i n)), .val (.int c0), .val (.int c1), .val (.int c2), .val (.int c3), .val (.ref b4), .val (.ref pt), .val (.ref cb), .val (.long (own_l KK.1)), .second, .val (.long (own_lov (own_i n))), .second, .val (.long (own_hiv (own_i n))), .second, .val (.int (own_e1 c0 c1)), .val (.int (own_e2 c0 c1 c2)), .unset, .unset] [])) _
          refine XS.iload X33.here hx rfl (hb hby at_264) rfl ?_
          show Steps p.tables e below (T33.setTop (mkF m 266 #[.val (.int p0), .val (.int p1), .val (.int p2), .val (.int p3), .val (.int p4), .val (.int (own_i n)), .val (.int c0), .val (.int c1), .val (.int c2), .val (.int c3), .val (.ref b4), .val (.ref pt), .val (.ref cb), .val (.long (own_l KK.1)), .second, .val (.long (own_lov (own_i n))), .second, .val (.long (own_hiv (own_i n))), .second, .val (.int (own_e1 c0 c1)), .val (.int (own_e2 c0 c1 c2)), .unset, .unset] [(.int c0)])) _
          refine XS.iload X33.here hx rfl (hb hby at_266) rfl ?_
          show Steps p.tables e below (T33.setTop (mkF m 268 #[.val (.int p0), .val (.int p1), .val (.int p2), .val (.int p3), .val (.int p4), .val (.int (own_i n)), .val (.int c0), .val (.int c1), .val (.int c2), .val (.int c3), .val (.ref b4), .val (.ref pt), .val (.ref cb), .val (.long (own_l KK.1)), .second, .val (.long (own_lov (own_i n))), .second, .val (.long (own_hiv (own_i n))), .second, .val (.int (own_e1 c0 c1)), .val (.int (own_e2 c0 c1 c2)), .unset, .unset] [(.int c3), (.int c0)])) _
          by_cases hc268 : c0 = c3
          · show Steps p.tables e below (T33.setTop (mkF m 268 #[.val (.int p0), .val (.int p1), .val (.int p2), .val (.int p3), .val (.int p4), .val (.int (own_i n)), .val (.int c0), .val (.int c1), .val (.int c2), .val (.int c3), .val (.ref b4), .val (.ref pt), .val (.ref cb), .val (.long (own_l KK.1)), .second, .val (.long (own_lov (own_i n))), .second, .val (.long (own_hiv (own_i n))), .second, .val (.int (own_e1 c0 c1)), .val (.int (own_e2 c0 c1 c2)), .unset, .unset] [(.int c3), (.int c0)])) _
            refine XS.icmpNo X33.here hx rfl (hb hby at_268) rfl (teq (show c0 = c3 from hc268)).2 ?_
            show Steps p.tables e below (T33.setTop (mkF m 271 #[.val (.int p0), .val (.int p1), .val (.int p2), .val (.int p3), .val (.int p4), .val (.int (own_i n)), .val (.int c0), .val (.int c1), .val (.int c2), .val (.int c3), .val (.ref b4), .val (.ref pt), .val (.ref cb), .val (.long (own_l KK.1)), .second, .val (.long (own_lov (own_i n))), .second, .val (.long (own_hiv (own_i n))), .second, .val (.int (own_e1 c0 c1)), .val (.int (own_e2 c0 c1 c2)), .unset, .unset] [])) _
            refine XS.iconst X33.here hx rfl (hb hby at_271) ?_
            show Steps p.tables e below (T33.setTop (mkF m 272 #[.val (.int p0), .val (.int p1), .val (.int p2), .val (.int p3), .val (.int p4), .val (.int (own_i n)), .val (.int c0), .val (.int c1), .val (.int c2), .val (.int c3), .val (.ref b4), .val (.ref pt), .val (.ref cb), .val (.long (own_l KK.1)), .second, .val (.long (own_lov (own_i n))), .second, .val (.long (own_hiv (own_i n))), .second, .val (.int (own_e1 c0 c1)), .val (.int (own_e2 c0 c1 c2)), .unset, .unset] [(.int (1 : Int32))])) _
            refine XS.goto X33.here hx rfl (pc0 := 272) (pc' := 276) rfl (hb hby at_272) (by decide) (by decide) ?_
            have hval : e3 = (1 : Int32) := by
              rw [he3]
              simp only [own_e3, if_neg hc225, if_pos hc250, if_neg hc257, if_pos hc268]
            subst hval
            exact kk_
          · show Steps p.tables e below (T33.setTop (mkF m 268 #[.val (.int p0), .val (.int p1), .val (.int p2), .val (.int p3), .val (.int p4), .val (.int (own_i n)), .val (.int c0), .val (.int c1), .val (.int c2), .val (.int c3), .val (.ref b4), .val (.ref pt), .val (.ref cb), .val (.long (own_l KK.1)), .second, .val (.long (own_lov (own_i n))), .second, .val (.long (own_hiv (own_i n))), .second, .val (.int (own_e1 c0 c1)), .val (.int (own_e2 c0 c1 c2)), .unset, .unset] [(.int c3), (.int c0)])) _
            refine XS.icmpYes X33.here hx rfl (pc0 := 268) (pc' := 275) rfl (hb hby at_268) rfl (feq (show ¬ (c0 = c3) from hc268)).2 (by decide) (by decide) ?_
            show Steps p.tables e below (T33.setTop (mkF m 275 #[.val (.int p0), .val (.int p1), .val (.int p2), .val (.int p3), .val (.int p4), .val (.int (own_i n)), .val (.int c0), .val (.int c1), .val (.int c2), .val (.int c3), .val (.ref b4), .val (.ref pt), .val (.ref cb), .val (.long (own_l KK.1)), .second, .val (.long (own_lov (own_i n))), .second, .val (.long (own_hiv (own_i n))), .second, .val (.int (own_e1 c0 c1)), .val (.int (own_e2 c0 c1 c2)), .unset, .unset] [])) _
            refine XS.iconst X33.here hx rfl (hb hby at_275) ?_
            have hval : e3 = (0 : Int32) := by
              rw [he3]
              simp only [own_e3, if_neg hc225, if_pos hc250, if_neg hc257, if_neg hc268]
            subst hval
            exact kk_
      · show Steps p.tables e below (T33.setTop (mkF m 250 #[.val (.int p0), .val (.int p1), .val (.int p2), .val (.int p3), .val (.int p4), .val (.int (own_i n)), .val (.int c0), .val (.int c1), .val (.int c2), .val (.int c3), .val (.ref b4), .val (.ref pt), .val (.ref cb), .val (.long (own_l KK.1)), .second, .val (.long (own_lov (own_i n))), .second, .val (.long (own_hiv (own_i n))), .second, .val (.int (own_e1 c0 c1)), .val (.int (own_e2 c0 c1 c2)), .unset, .unset] [(.int c2), (.int c0)])) _
        refine XS.icmpYes X33.here hx rfl (pc0 := 250) (pc' := 264) rfl (hb hby at_250) rfl (feq (show ¬ (c0 = c2) from hc250)).2 (by decide) (by decide) ?_
        show Steps p.tables e below (T33.setTop (mkF m 264 #[.val (.int p0), .val (.int p1), .val (.int p2), .val (.int p3), .val (.int p4), .val (.int (own_i n)), .val (.int c0), .val (.int c1), .val (.int c2), .val (.int c3), .val (.ref b4), .val (.ref pt), .val (.ref cb), .val (.long (own_l KK.1)), .second, .val (.long (own_lov (own_i n))), .second, .val (.long (own_hiv (own_i n))), .second, .val (.int (own_e1 c0 c1)), .val (.int (own_e2 c0 c1 c2)), .unset, .unset] [])) _
        refine XS.iload X33.here hx rfl (hb hby at_264) rfl ?_
        show Steps p.tables e below (T33.setTop (mkF m 266 #[.val (.int p0), .val (.int p1), .val (.int p2), .val (.int p3), .val (.int p4), .val (.int (own_i n)), .val (.int c0), .val (.int c1), .val (.int c2), .val (.int c3), .val (.ref b4), .val (.ref pt), .val (.ref cb), .val (.long (own_l KK.1)), .second, .val (.long (own_lov (own_i n))), .second, .val (.long (own_hiv (own_i n))), .second, .val (.int (own_e1 c0 c1)), .val (.int (own_e2 c0 c1 c2)), .unset, .unset] [(.int c0)])) _
        refine XS.iload X33.here hx rfl (hb hby at_266) rfl ?_
        show Steps p.tables e below (T33.setTop (mkF m 268 #[.val (.int p0), .val (.int p1), .val (.int p2), .val (.int p3), .val (.int p4), .val (.int (own_i n)), .val (.int c0), .val (.int c1), .val (.int c2), .val (.int c3), .val (.ref b4), .val (.ref pt), .val (.ref cb), .val (.long (own_l KK.1)), .second, .val (.long (own_lov (own_i n))), .second, .val (.long (own_hiv (own_i n))), .second, .val (.int (own_e1 c0 c1)), .val (.int (own_e2 c0 c1 c2)), .unset, .unset] [(.int c3), (.int c0)])) _
        by_cases hc268 : c0 = c3
        · show Steps p.tables e below (T33.setTop (mkF m 268 #[.val (.int p0), .val (.int p1), .val (.int p2), .val (.int p3), .val (.int p4), .val (.int (own_i n)), .val (.int c0), .val (.int c1), .val (.int c2), .val (.int c3), .val (.ref b4), .val (.ref pt), .val (.ref cb), .val (.long (own_l KK.1)), .second, .val (.long (own_lov (own_i n))), .second, .val (.long (own_hiv (own_i n))), .second, .val (.int (own_e1 c0 c1)), .val (.int (own_e2 c0 c1 c2)), .unset, .unset] [(.int c3), (.int c0)])) _
          refine XS.icmpNo X33.here hx rfl (hb hby at_268) rfl (teq (show c0 = c3 from hc268)).2 ?_
          show Steps p.tables e below (T33.setTop (mkF m 271 #[.val (.int p0), .val (.int p1), .val (.int p2), .val (.int p3), .val (.int p4), .val (.int (own_i n)), .val (.int c0), .val (.int c1), .val (.int c2), .val (.int c3), .val (.ref b4), .val (.ref pt), .val (.ref cb), .val (.long (own_l KK.1)), .second, .val (.long (own_lov (own_i n))), .second, .val (.long (own_hiv (own_i n))), .second, .val (.int (own_e1 c0 c1)), .val (.int (own_e2 c0 c1 c2)), .unset, .unset] [])) _
          refine XS.iconst X33.here hx rfl (hb hby at_271) ?_
          show Steps p.tables e below (T33.setTop (mkF m 272 #[.val (.int p0), .val (.int p1), .val (.int p2), .val (.int p3), .val (.int p4), .val (.int (own_i n)), .val (.int c0), .val (.int c1), .val (.int c2), .val (.int c3), .val (.ref b4), .val (.ref pt), .val (.ref cb), .val (.long (own_l KK.1)), .second, .val (.long (own_lov (own_i n))), .second, .val (.long (own_hiv (own_i n))), .second, .val (.int (own_e1 c0 c1)), .val (.int (own_e2 c0 c1 c2)), .unset, .unset] [(.int (1 : Int32))])) _
          refine XS.goto X33.here hx rfl (pc0 := 272) (pc' := 276) rfl (hb hby at_272) (by decide) (by decide) ?_
          have hval : e3 = (1 : Int32) := by
            rw [he3]
            simp only [own_e3, if_neg hc225, if_neg hc250, if_pos hc268]
          subst hval
          exact kk_
        · show Steps p.tables e below (T33.setTop (mkF m 268 #[.val (.int p0), .val (.int p1), .val (.int p2), .val (.int p3), .val (.int p4), .val (.int (own_i n)), .val (.int c0), .val (.int c1), .val (.int c2), .val (.int c3), .val (.ref b4), .val (.ref pt), .val (.ref cb), .val (.long (own_l KK.1)), .second, .val (.long (own_lov (own_i n))), .second, .val (.long (own_hiv (own_i n))), .second, .val (.int (own_e1 c0 c1)), .val (.int (own_e2 c0 c1 c2)), .unset, .unset] [(.int c3), (.int c0)])) _
          refine XS.icmpYes X33.here hx rfl (pc0 := 268) (pc' := 275) rfl (hb hby at_268) rfl (feq (show ¬ (c0 = c3) from hc268)).2 (by decide) (by decide) ?_
          show Steps p.tables e below (T33.setTop (mkF m 275 #[.val (.int p0), .val (.int p1), .val (.int p2), .val (.int p3), .val (.int p4), .val (.int (own_i n)), .val (.int c0), .val (.int c1), .val (.int c2), .val (.int c3), .val (.ref b4), .val (.ref pt), .val (.ref cb), .val (.long (own_l KK.1)), .second, .val (.long (own_lov (own_i n))), .second, .val (.long (own_hiv (own_i n))), .second, .val (.int (own_e1 c0 c1)), .val (.int (own_e2 c0 c1 c2)), .unset, .unset] [])) _
          refine XS.iconst X33.here hx rfl (hb hby at_275) ?_
          have hval : e3 = (0 : Int32) := by
            rw [he3]
            simp only [own_e3, if_neg hc225, if_neg hc250, if_neg hc268]
          subst hval
          exact kk_
  have p_44' := p_44 (own_e3 c0 c1 c2 c3) rfl
  have p_45 : ∀ tg_, Steps p.tables e below (T33.setTop (mkF m 283 #[.val (.int p0), .val (.int p1), .val (.int p2), .val (.int p3), .val (.int p4), .val (.int (own_i n)), .val (.int c0), .val (.int c1), .val (.int c2), .val (.int c3), .val (.ref b4), .val (.ref pt), .val (.ref cb), .val (.long (own_l KK.1)), .second, .val (.long (own_lov (own_i n))), .second, .val (.long (own_hiv (own_i n))), .second, .val (.int (own_e1 c0 c1)), .val (.int (own_e2 c0 c1 c2)), .val (.int (own_e3 c0 c1 c2 c3)), .val (.int (1 : Int32))] [(.int (own_i n))])) tg_ → Steps p.tables e below (s₁.setTop (entryFrame m #[(.int p0), (.int p1), (.int p2), (.int p3), (.int p4)] maxLocals)) tg_ := by
    intro tg_ kk_
    refine p_44' tg_ ?_
    show Steps p.tables e below (T33.setTop (mkF m 276 #[.val (.int p0), .val (.int p1), .val (.int p2), .val (.int p3), .val (.int p4), .val (.int (own_i n)), .val (.int c0), .val (.int c1), .val (.int c2), .val (.int c3), .val (.ref b4), .val (.ref pt), .val (.ref cb), .val (.long (own_l KK.1)), .second, .val (.long (own_lov (own_i n))), .second, .val (.long (own_hiv (own_i n))), .second, .val (.int (own_e1 c0 c1)), .val (.int (own_e2 c0 c1 c2)), .unset, .unset] [(.int (own_e3 c0 c1 c2 c3))])) _
    refine XS.istore X33.here hx rfl (hb hby at_276) rfl (l' := #[.val (.int p0), .val (.int p1), .val (.int p2), .val (.int p3), .val (.int p4), .val (.int (own_i n)), .val (.int c0), .val (.int c1), .val (.int c2), .val (.int c3), .val (.ref b4), .val (.ref pt), .val (.ref cb), .val (.long (own_l KK.1)), .second, .val (.long (own_lov (own_i n))), .second, .val (.long (own_hiv (own_i n))), .second, .val (.int (own_e1 c0 c1)), .val (.int (own_e2 c0 c1 c2)), .val (.int (own_e3 c0 c1 c2 c3)), .unset]) rfl ?_
    show Steps p.tables e below (T33.setTop (mkF m 278 #[.val (.int p0), .val (.int p1), .val (.int p2), .val (.int p3), .val (.int p4), .val (.int (own_i n)), .val (.int c0), .val (.int c1), .val (.int c2), .val (.int c3), .val (.ref b4), .val (.ref pt), .val (.ref cb), .val (.long (own_l KK.1)), .second, .val (.long (own_lov (own_i n))), .second, .val (.long (own_hiv (own_i n))), .second, .val (.int (own_e1 c0 c1)), .val (.int (own_e2 c0 c1 c2)), .val (.int (own_e3 c0 c1 c2 c3)), .unset] [])) _
    refine XS.iconst X33.here hx rfl (hb hby at_278) ?_
    show Steps p.tables e below (T33.setTop (mkF m 279 #[.val (.int p0), .val (.int p1), .val (.int p2), .val (.int p3), .val (.int p4), .val (.int (own_i n)), .val (.int c0), .val (.int c1), .val (.int c2), .val (.int c3), .val (.ref b4), .val (.ref pt), .val (.ref cb), .val (.long (own_l KK.1)), .second, .val (.long (own_lov (own_i n))), .second, .val (.long (own_hiv (own_i n))), .second, .val (.int (own_e1 c0 c1)), .val (.int (own_e2 c0 c1 c2)), .val (.int (own_e3 c0 c1 c2 c3)), .unset] [(.int (1 : Int32))])) _
    refine XS.istore X33.here hx rfl (hb hby at_279) rfl (l' := #[.val (.int p0), .val (.int p1), .val (.int p2), .val (.int p3), .val (.int p4), .val (.int (own_i n)), .val (.int c0), .val (.int c1), .val (.int c2), .val (.int c3), .val (.ref b4), .val (.ref pt), .val (.ref cb), .val (.long (own_l KK.1)), .second, .val (.long (own_lov (own_i n))), .second, .val (.long (own_hiv (own_i n))), .second, .val (.int (own_e1 c0 c1)), .val (.int (own_e2 c0 c1 c2)), .val (.int (own_e3 c0 c1 c2 c3)), .val (.int (1 : Int32))]) rfl ?_
    show Steps p.tables e below (T33.setTop (mkF m 281 #[.val (.int p0), .val (.int p1), .val (.int p2), .val (.int p3), .val (.int p4), .val (.int (own_i n)), .val (.int c0), .val (.int c1), .val (.int c2), .val (.int c3), .val (.ref b4), .val (.ref pt), .val (.ref cb), .val (.long (own_l KK.1)), .second, .val (.long (own_lov (own_i n))), .second, .val (.long (own_hiv (own_i n))), .second, .val (.int (own_e1 c0 c1)), .val (.int (own_e2 c0 c1 c2)), .val (.int (own_e3 c0 c1 c2 c3)), .val (.int (1 : Int32))] [])) _
    refine XS.iload X33.here hx rfl (hb hby at_281) rfl ?_
    exact kk_
  have FCK := FCB
  rw [← h_KK] at FCK
  have p_46 : ∀ t, Steps p.tables e below (T33.setTop (mkF m 308 #[.val (.int p0), .val (.int p1), .val (.int p2), .val (.int p3), .val (.int p4), .val (.int (own_i n)), .val (.int c0), .val (.int c1), .val (.int c2), .val (.int c3), .val (.ref b4), .val (.ref pt), .val (.ref cb), .val (.long (own_l KK.1)), .second, .val (.long (own_lov (own_i n))), .second, .val (.long (own_hiv (own_i n))), .second, .val (.int (own_e1 c0 c1)), .val (.int (own_e2 c0 c1 c2)), .val (.int (own_e3 c0 c1 c2 c3)), .val (.int (1 : Int32))] [(.int (1 : Int32)), (.int (own_i n))])) t → Steps p.tables e below (s₁.setTop (entryFrame m #[(.int p0), (.int p1), (.int p2), (.int p3), (.int p4)] maxLocals)) t := by
    intro t k
    refine p_45 t ?_
    by_cases hl : 0 < n
    · show Steps p.tables e below (T33.setTop (mkF m 283 #[.val (.int p0), .val (.int p1), .val (.int p2), .val (.int p3), .val (.int p4), .val (.int (own_i n)), .val (.int c0), .val (.int c1), .val (.int c2), .val (.int c3), .val (.ref b4), .val (.ref pt), .val (.ref cb), .val (.long (own_l KK.1)), .second, .val (.long (own_lov (own_i n))), .second, .val (.long (own_hiv (own_i n))), .second, .val (.int (own_e1 c0 c1)), .val (.int (own_e2 c0 c1 c2)), .val (.int (own_e3 c0 c1 c2 c3)), .val (.int (1 : Int32))] [(.int (own_i n))])) _
      refine XS.ifNo X33.here hx rfl (hb hby at_283) rfl ((if0 _ _).trans (tlt (show (0 : Int32) < (own_i n) from ((own_i_lt (j := 0) (by omega) (by omega)).mpr hl))).2.2.2) ?_
      show Steps p.tables e below (T33.setTop (mkF m 286 #[.val (.int p0), .val (.int p1), .val (.int p2), .val (.int p3), .val (.int p4), .val (.int (own_i n)), .val (.int c0), .val (.int c1), .val (.int c2), .val (.int c3), .val (.ref b4), .val (.ref pt), .val (.ref cb), .val (.long (own_l KK.1)), .second, .val (.long (own_lov (own_i n))), .second, .val (.long (own_hiv (own_i n))), .second, .val (.int (own_e1 c0 c1)), .val (.int (own_e2 c0 c1 c2)), .val (.int (own_e3 c0 c1 c2 c3)), .val (.int (1 : Int32))] [])) _
      refine XS.iload X33.here hx rfl (hb hby at_286) rfl ?_
      show Steps p.tables e below (T33.setTop (mkF m 288 #[.val (.int p0), .val (.int p1), .val (.int p2), .val (.int p3), .val (.int p4), .val (.int (own_i n)), .val (.int c0), .val (.int c1), .val (.int c2), .val (.int c3), .val (.ref b4), .val (.ref pt), .val (.ref cb), .val (.long (own_l KK.1)), .second, .val (.long (own_lov (own_i n))), .second, .val (.long (own_hiv (own_i n))), .second, .val (.int (own_e1 c0 c1)), .val (.int (own_e2 c0 c1 c2)), .val (.int (own_e3 c0 c1 c2 c3)), .val (.int (1 : Int32))] [(.int (1 : Int32))])) _
      refine XS.ifNo X33.here hx rfl (hb hby at_288) rfl ((if0 _ _).trans (feq (show ¬ ((1 : Int32) = (0 : Int32)) from (by decide))).1) ?_
      show Steps p.tables e below (T33.setTop (mkF m 291 #[.val (.int p0), .val (.int p1), .val (.int p2), .val (.int p3), .val (.int p4), .val (.int (own_i n)), .val (.int c0), .val (.int c1), .val (.int c2), .val (.int c3), .val (.ref b4), .val (.ref pt), .val (.ref cb), .val (.long (own_l KK.1)), .second, .val (.long (own_lov (own_i n))), .second, .val (.long (own_hiv (own_i n))), .second, .val (.int (own_e1 c0 c1)), .val (.int (own_e2 c0 c1 c2)), .val (.int (own_e3 c0 c1 c2 c3)), .val (.int (1 : Int32))] [])) _
      refine XS.aload X33.here hx rfl (hb hby at_291) rfl rfl ?_
      show Steps p.tables e below (T33.setTop (mkF m 293 #[.val (.int p0), .val (.int p1), .val (.int p2), .val (.int p3), .val (.int p4), .val (.int (own_i n)), .val (.int c0), .val (.int c1), .val (.int c2), .val (.int c3), .val (.ref b4), .val (.ref pt), .val (.ref cb), .val (.long (own_l KK.1)), .second, .val (.long (own_lov (own_i n))), .second, .val (.long (own_hiv (own_i n))), .second, .val (.int (own_e1 c0 c1)), .val (.int (own_e2 c0 c1 c2)), .val (.int (own_e3 c0 c1 c2 c3)), .val (.int (1 : Int32))] [(.ref cb)])) _
      refine XS.iconst X33.here hx rfl (hb hby at_293) ?_
      show Steps p.tables e below (T33.setTop (mkF m 294 #[.val (.int p0), .val (.int p1), .val (.int p2), .val (.int p3), .val (.int p4), .val (.int (own_i n)), .val (.int c0), .val (.int c1), .val (.int c2), .val (.int c3), .val (.ref b4), .val (.ref pt), .val (.ref cb), .val (.long (own_l KK.1)), .second, .val (.long (own_lov (own_i n))), .second, .val (.long (own_hiv (own_i n))), .second, .val (.int (own_e1 c0 c1)), .val (.int (own_e2 c0 c1 c2)), .val (.int (own_e3 c0 c1 c2 c3)), .val (.int (1 : Int32))] [(.int (0 : Int32)), (.ref cb)])) _
      refine own_iaload X33 hx hZ eR2 FCK (j := (0 : Int32)) (by decide) (show 0 < n from hl) (g := (mkF m 294 #[.val (.int p0), .val (.int p1), .val (.int p2), .val (.int p3), .val (.int p4), .val (.int (own_i n)), .val (.int c0), .val (.int c1), .val (.int c2), .val (.int c3), .val (.ref b4), .val (.ref pt), .val (.ref cb), .val (.long (own_l KK.1)), .second, .val (.long (own_lov (own_i n))), .second, .val (.long (own_hiv (own_i n))), .second, .val (.int (own_e1 c0 c1)), .val (.int (own_e2 c0 c1 c2)), .val (.int (own_e3 c0 c1 c2 c3)), .val (.int (1 : Int32))] [(.int (0 : Int32)), (.ref cb)])) rfl rfl (hb hby at_294) _ ?_
      show Steps p.tables e below (T33.setTop (mkF m 295 #[.val (.int p0), .val (.int p1), .val (.int p2), .val (.int p3), .val (.int p4), .val (.int (own_i n)), .val (.int c0), .val (.int c1), .val (.int c2), .val (.int c3), .val (.ref b4), .val (.ref pt), .val (.ref cb), .val (.long (own_l KK.1)), .second, .val (.long (own_lov (own_i n))), .second, .val (.long (own_hiv (own_i n))), .second, .val (.int (own_e1 c0 c1)), .val (.int (own_e2 c0 c1 c2)), .val (.int (own_e3 c0 c1 c2 c3)), .val (.int (1 : Int32))] [(.int (own_i (KK.2 0)))])) _
      refine XS.ifNo X33.here hx rfl (hb hby at_295) rfl ((if0 _ _).trans (teq (show (own_i (KK.2 0)) = (0 : Int32) from (hpl.2.2.1 hl))).2) ?_
      show Steps p.tables e below (T33.setTop (mkF m 298 #[.val (.int p0), .val (.int p1), .val (.int p2), .val (.int p3), .val (.int p4), .val (.int (own_i n)), .val (.int c0), .val (.int c1), .val (.int c2), .val (.int c3), .val (.ref b4), .val (.ref pt), .val (.ref cb), .val (.long (own_l KK.1)), .second, .val (.long (own_lov (own_i n))), .second, .val (.long (own_hiv (own_i n))), .second, .val (.int (own_e1 c0 c1)), .val (.int (own_e2 c0 c1 c2)), .val (.int (own_e3 c0 c1 c2 c3)), .val (.int (1 : Int32))] [])) _
      refine XS.iconst X33.here hx rfl (hb hby at_298) ?_
      show Steps p.tables e below (T33.setTop (mkF m 299 #[.val (.int p0), .val (.int p1), .val (.int p2), .val (.int p3), .val (.int p4), .val (.int (own_i n)), .val (.int c0), .val (.int c1), .val (.int c2), .val (.int c3), .val (.ref b4), .val (.ref pt), .val (.ref cb), .val (.long (own_l KK.1)), .second, .val (.long (own_lov (own_i n))), .second, .val (.long (own_hiv (own_i n))), .second, .val (.int (own_e1 c0 c1)), .val (.int (own_e2 c0 c1 c2)), .val (.int (own_e3 c0 c1 c2 c3)), .val (.int (1 : Int32))] [(.int (1 : Int32))])) _
      refine XS.goto X33.here hx rfl (pc0 := 299) (pc' := 303) rfl (hb hby at_299) (by decide) (by decide) ?_
      show Steps p.tables e below (T33.setTop (mkF m 303 #[.val (.int p0), .val (.int p1), .val (.int p2), .val (.int p3), .val (.int p4), .val (.int (own_i n)), .val (.int c0), .val (.int c1), .val (.int c2), .val (.int c3), .val (.ref b4), .val (.ref pt), .val (.ref cb), .val (.long (own_l KK.1)), .second, .val (.long (own_lov (own_i n))), .second, .val (.long (own_hiv (own_i n))), .second, .val (.int (own_e1 c0 c1)), .val (.int (own_e2 c0 c1 c2)), .val (.int (own_e3 c0 c1 c2 c3)), .val (.int (1 : Int32))] [(.int (1 : Int32))])) _
      refine XS.istore X33.here hx rfl (hb hby at_303) rfl (l' := #[.val (.int p0), .val (.int p1), .val (.int p2), .val (.int p3), .val (.int p4), .val (.int (own_i n)), .val (.int c0), .val (.int c1), .val (.int c2), .val (.int c3), .val (.ref b4), .val (.ref pt), .val (.ref cb), .val (.long (own_l KK.1)), .second, .val (.long (own_lov (own_i n))), .second, .val (.long (own_hiv (own_i n))), .second, .val (.int (own_e1 c0 c1)), .val (.int (own_e2 c0 c1 c2)), .val (.int (own_e3 c0 c1 c2 c3)), .val (.int (1 : Int32))]) rfl ?_
      show Steps p.tables e below (T33.setTop (mkF m 305 #[.val (.int p0), .val (.int p1), .val (.int p2), .val (.int p3), .val (.int p4), .val (.int (own_i n)), .val (.int c0), .val (.int c1), .val (.int c2), .val (.int c3), .val (.ref b4), .val (.ref pt), .val (.ref cb), .val (.long (own_l KK.1)), .second, .val (.long (own_lov (own_i n))), .second, .val (.long (own_hiv (own_i n))), .second, .val (.int (own_e1 c0 c1)), .val (.int (own_e2 c0 c1 c2)), .val (.int (own_e3 c0 c1 c2 c3)), .val (.int (1 : Int32))] [])) _
      refine XS.iload X33.here hx rfl (hb hby at_305) rfl ?_
      show Steps p.tables e below (T33.setTop (mkF m 307 #[.val (.int p0), .val (.int p1), .val (.int p2), .val (.int p3), .val (.int p4), .val (.int (own_i n)), .val (.int c0), .val (.int c1), .val (.int c2), .val (.int c3), .val (.ref b4), .val (.ref pt), .val (.ref cb), .val (.long (own_l KK.1)), .second, .val (.long (own_lov (own_i n))), .second, .val (.long (own_hiv (own_i n))), .second, .val (.int (own_e1 c0 c1)), .val (.int (own_e2 c0 c1 c2)), .val (.int (own_e3 c0 c1 c2 c3)), .val (.int (1 : Int32))] [(.int (own_i n))])) _
      refine XS.iconst X33.here hx rfl (hb hby at_307) ?_
      exact k
    · show Steps p.tables e below (T33.setTop (mkF m 283 #[.val (.int p0), .val (.int p1), .val (.int p2), .val (.int p3), .val (.int p4), .val (.int (own_i n)), .val (.int c0), .val (.int c1), .val (.int c2), .val (.int c3), .val (.ref b4), .val (.ref pt), .val (.ref cb), .val (.long (own_l KK.1)), .second, .val (.long (own_lov (own_i n))), .second, .val (.long (own_hiv (own_i n))), .second, .val (.int (own_e1 c0 c1)), .val (.int (own_e2 c0 c1 c2)), .val (.int (own_e3 c0 c1 c2 c3)), .val (.int (1 : Int32))] [(.int (own_i n))])) _
      refine XS.ifYes X33.here hx rfl (pc0 := 283) (pc' := 305) rfl (hb hby at_283) rfl ((if0 _ _).trans (flt (show ¬ ((0 : Int32) < (own_i n)) from (fun q => hl ((own_i_lt (j := 0) (by omega) (by omega)).mp q)))).2.2.2) (by decide) (by decide) ?_
      show Steps p.tables e below (T33.setTop (mkF m 305 #[.val (.int p0), .val (.int p1), .val (.int p2), .val (.int p3), .val (.int p4), .val (.int (own_i n)), .val (.int c0), .val (.int c1), .val (.int c2), .val (.int c3), .val (.ref b4), .val (.ref pt), .val (.ref cb), .val (.long (own_l KK.1)), .second, .val (.long (own_lov (own_i n))), .second, .val (.long (own_hiv (own_i n))), .second, .val (.int (own_e1 c0 c1)), .val (.int (own_e2 c0 c1 c2)), .val (.int (own_e3 c0 c1 c2 c3)), .val (.int (1 : Int32))] [])) _
      refine XS.iload X33.here hx rfl (hb hby at_305) rfl ?_
      show Steps p.tables e below (T33.setTop (mkF m 307 #[.val (.int p0), .val (.int p1), .val (.int p2), .val (.int p3), .val (.int p4), .val (.int (own_i n)), .val (.int c0), .val (.int c1), .val (.int c2), .val (.int c3), .val (.ref b4), .val (.ref pt), .val (.ref cb), .val (.long (own_l KK.1)), .second, .val (.long (own_lov (own_i n))), .second, .val (.long (own_hiv (own_i n))), .second, .val (.int (own_e1 c0 c1)), .val (.int (own_e2 c0 c1 c2)), .val (.int (own_e3 c0 c1 c2 c3)), .val (.int (1 : Int32))] [(.int (own_i n))])) _
      refine XS.iconst X33.here hx rfl (hb hby at_307) ?_
      exact k
  have p_47 : ∀ t, Steps p.tables e below (T33.setTop (mkF m 335 #[.val (.int p0), .val (.int p1), .val (.int p2), .val (.int p3), .val (.int p4), .val (.int (own_i n)), .val (.int c0), .val (.int c1), .val (.int c2), .val (.int c3), .val (.ref b4), .val (.ref pt), .val (.ref cb), .val (.long (own_l KK.1)), .second, .val (.long (own_lov (own_i n))), .second, .val (.long (own_hiv (own_i n))), .second, .val (.int (own_e1 c0 c1)), .val (.int (own_e2 c0 c1 c2)), .val (.int (own_e3 c0 c1 c2 c3)), .val (.int (1 : Int32))] [(.int (2 : Int32)), (.int (own_i n))])) t → Steps p.tables e below (s₁.setTop (entryFrame m #[(.int p0), (.int p1), (.int p2), (.int p3), (.int p4)] maxLocals)) t := by
    intro t k
    refine p_46 t ?_
    by_cases hl : 1 < n
    · show Steps p.tables e below (T33.setTop (mkF m 308 #[.val (.int p0), .val (.int p1), .val (.int p2), .val (.int p3), .val (.int p4), .val (.int (own_i n)), .val (.int c0), .val (.int c1), .val (.int c2), .val (.int c3), .val (.ref b4), .val (.ref pt), .val (.ref cb), .val (.long (own_l KK.1)), .second, .val (.long (own_lov (own_i n))), .second, .val (.long (own_hiv (own_i n))), .second, .val (.int (own_e1 c0 c1)), .val (.int (own_e2 c0 c1 c2)), .val (.int (own_e3 c0 c1 c2 c3)), .val (.int (1 : Int32))] [(.int (1 : Int32)), (.int (own_i n))])) _
      refine XS.icmpNo X33.here hx rfl (hb hby at_308) rfl (tlt (show (1 : Int32) < (own_i n) from ((own_i_lt (j := 1) (by omega) (by omega)).mpr hl))).2.2.2 ?_
      show Steps p.tables e below (T33.setTop (mkF m 311 #[.val (.int p0), .val (.int p1), .val (.int p2), .val (.int p3), .val (.int p4), .val (.int (own_i n)), .val (.int c0), .val (.int c1), .val (.int c2), .val (.int c3), .val (.ref b4), .val (.ref pt), .val (.ref cb), .val (.long (own_l KK.1)), .second, .val (.long (own_lov (own_i n))), .second, .val (.long (own_hiv (own_i n))), .second, .val (.int (own_e1 c0 c1)), .val (.int (own_e2 c0 c1 c2)), .val (.int (own_e3 c0 c1 c2 c3)), .val (.int (1 : Int32))] [])) _
      refine XS.iload X33.here hx rfl (hb hby at_311) rfl ?_
      show Steps p.tables e below (T33.setTop (mkF m 313 #[.val (.int p0), .val (.int p1), .val (.int p2), .val (.int p3), .val (.int p4), .val (.int (own_i n)), .val (.int c0), .val (.int c1), .val (.int c2), .val (.int c3), .val (.ref b4), .val (.ref pt), .val (.ref cb), .val (.long (own_l KK.1)), .second, .val (.long (own_lov (own_i n))), .second, .val (.long (own_hiv (own_i n))), .second, .val (.int (own_e1 c0 c1)), .val (.int (own_e2 c0 c1 c2)), .val (.int (own_e3 c0 c1 c2 c3)), .val (.int (1 : Int32))] [(.int (1 : Int32))])) _
      refine XS.ifNo X33.here hx rfl (hb hby at_313) rfl ((if0 _ _).trans (feq (show ¬ ((1 : Int32) = (0 : Int32)) from (by decide))).1) ?_
      show Steps p.tables e below (T33.setTop (mkF m 316 #[.val (.int p0), .val (.int p1), .val (.int p2), .val (.int p3), .val (.int p4), .val (.int (own_i n)), .val (.int c0), .val (.int c1), .val (.int c2), .val (.int c3), .val (.ref b4), .val (.ref pt), .val (.ref cb), .val (.long (own_l KK.1)), .second, .val (.long (own_lov (own_i n))), .second, .val (.long (own_hiv (own_i n))), .second, .val (.int (own_e1 c0 c1)), .val (.int (own_e2 c0 c1 c2)), .val (.int (own_e3 c0 c1 c2 c3)), .val (.int (1 : Int32))] [])) _
      refine XS.aload X33.here hx rfl (hb hby at_316) rfl rfl ?_
      show Steps p.tables e below (T33.setTop (mkF m 318 #[.val (.int p0), .val (.int p1), .val (.int p2), .val (.int p3), .val (.int p4), .val (.int (own_i n)), .val (.int c0), .val (.int c1), .val (.int c2), .val (.int c3), .val (.ref b4), .val (.ref pt), .val (.ref cb), .val (.long (own_l KK.1)), .second, .val (.long (own_lov (own_i n))), .second, .val (.long (own_hiv (own_i n))), .second, .val (.int (own_e1 c0 c1)), .val (.int (own_e2 c0 c1 c2)), .val (.int (own_e3 c0 c1 c2 c3)), .val (.int (1 : Int32))] [(.ref cb)])) _
      refine XS.iconst X33.here hx rfl (hb hby at_318) ?_
      show Steps p.tables e below (T33.setTop (mkF m 319 #[.val (.int p0), .val (.int p1), .val (.int p2), .val (.int p3), .val (.int p4), .val (.int (own_i n)), .val (.int c0), .val (.int c1), .val (.int c2), .val (.int c3), .val (.ref b4), .val (.ref pt), .val (.ref cb), .val (.long (own_l KK.1)), .second, .val (.long (own_lov (own_i n))), .second, .val (.long (own_hiv (own_i n))), .second, .val (.int (own_e1 c0 c1)), .val (.int (own_e2 c0 c1 c2)), .val (.int (own_e3 c0 c1 c2 c3)), .val (.int (1 : Int32))] [(.int (1 : Int32)), (.ref cb)])) _
      refine own_iaload X33 hx hZ eR2 FCK (j := (1 : Int32)) (by decide) (show 1 < n from hl) (g := (mkF m 319 #[.val (.int p0), .val (.int p1), .val (.int p2), .val (.int p3), .val (.int p4), .val (.int (own_i n)), .val (.int c0), .val (.int c1), .val (.int c2), .val (.int c3), .val (.ref b4), .val (.ref pt), .val (.ref cb), .val (.long (own_l KK.1)), .second, .val (.long (own_lov (own_i n))), .second, .val (.long (own_hiv (own_i n))), .second, .val (.int (own_e1 c0 c1)), .val (.int (own_e2 c0 c1 c2)), .val (.int (own_e3 c0 c1 c2 c3)), .val (.int (1 : Int32))] [(.int (1 : Int32)), (.ref cb)])) rfl rfl (hb hby at_319) _ ?_
      show Steps p.tables e below (T33.setTop (mkF m 320 #[.val (.int p0), .val (.int p1), .val (.int p2), .val (.int p3), .val (.int p4), .val (.int (own_i n)), .val (.int c0), .val (.int c1), .val (.int c2), .val (.int c3), .val (.ref b4), .val (.ref pt), .val (.ref cb), .val (.long (own_l KK.1)), .second, .val (.long (own_lov (own_i n))), .second, .val (.long (own_hiv (own_i n))), .second, .val (.int (own_e1 c0 c1)), .val (.int (own_e2 c0 c1 c2)), .val (.int (own_e3 c0 c1 c2 c3)), .val (.int (1 : Int32))] [(.int (own_i (KK.2 1)))])) _
      refine XS.iload X33.here hx rfl (hb hby at_320) rfl ?_
      show Steps p.tables e below (T33.setTop (mkF m 322 #[.val (.int p0), .val (.int p1), .val (.int p2), .val (.int p3), .val (.int p4), .val (.int (own_i n)), .val (.int c0), .val (.int c1), .val (.int c2), .val (.int c3), .val (.ref b4), .val (.ref pt), .val (.ref cb), .val (.long (own_l KK.1)), .second, .val (.long (own_lov (own_i n))), .second, .val (.long (own_hiv (own_i n))), .second, .val (.int (own_e1 c0 c1)), .val (.int (own_e2 c0 c1 c2)), .val (.int (own_e3 c0 c1 c2 c3)), .val (.int (1 : Int32))] [(.int (own_e1 c0 c1)), (.int (own_i (KK.2 1)))])) _
      refine XS.icmpNo X33.here hx rfl (hb hby at_322) rfl (teq (show (own_i (KK.2 1)) = (own_e1 c0 c1) from (hpl.2.2.2.1 hl))).2 ?_
      show Steps p.tables e below (T33.setTop (mkF m 325 #[.val (.int p0), .val (.int p1), .val (.int p2), .val (.int p3), .val (.int p4), .val (.int (own_i n)), .val (.int c0), .val (.int c1), .val (.int c2), .val (.int c3), .val (.ref b4), .val (.ref pt), .val (.ref cb), .val (.long (own_l KK.1)), .second, .val (.long (own_lov (own_i n))), .second, .val (.long (own_hiv (own_i n))), .second, .val (.int (own_e1 c0 c1)), .val (.int (own_e2 c0 c1 c2)), .val (.int (own_e3 c0 c1 c2 c3)), .val (.int (1 : Int32))] [])) _
      refine XS.iconst X33.here hx rfl (hb hby at_325) ?_
      show Steps p.tables e below (T33.setTop (mkF m 326 #[.val (.int p0), .val (.int p1), .val (.int p2), .val (.int p3), .val (.int p4), .val (.int (own_i n)), .val (.int c0), .val (.int c1), .val (.int c2), .val (.int c3), .val (.ref b4), .val (.ref pt), .val (.ref cb), .val (.long (own_l KK.1)), .second, .val (.long (own_lov (own_i n))), .second, .val (.long (own_hiv (own_i n))), .second, .val (.int (own_e1 c0 c1)), .val (.int (own_e2 c0 c1 c2)), .val (.int (own_e3 c0 c1 c2 c3)), .val (.int (1 : Int32))] [(.int (1 : Int32))])) _
      refine XS.goto X33.here hx rfl (pc0 := 326) (pc' := 330) rfl (hb hby at_326) (by decide) (by decide) ?_
      show Steps p.tables e below (T33.setTop (mkF m 330 #[.val (.int p0), .val (.int p1), .val (.int p2), .val (.int p3), .val (.int p4), .val (.int (own_i n)), .val (.int c0), .val (.int c1), .val (.int c2), .val (.int c3), .val (.ref b4), .val (.ref pt), .val (.ref cb), .val (.long (own_l KK.1)), .second, .val (.long (own_lov (own_i n))), .second, .val (.long (own_hiv (own_i n))), .second, .val (.int (own_e1 c0 c1)), .val (.int (own_e2 c0 c1 c2)), .val (.int (own_e3 c0 c1 c2 c3)), .val (.int (1 : Int32))] [(.int (1 : Int32))])) _
      refine XS.istore X33.here hx rfl (hb hby at_330) rfl (l' := #[.val (.int p0), .val (.int p1), .val (.int p2), .val (.int p3), .val (.int p4), .val (.int (own_i n)), .val (.int c0), .val (.int c1), .val (.int c2), .val (.int c3), .val (.ref b4), .val (.ref pt), .val (.ref cb), .val (.long (own_l KK.1)), .second, .val (.long (own_lov (own_i n))), .second, .val (.long (own_hiv (own_i n))), .second, .val (.int (own_e1 c0 c1)), .val (.int (own_e2 c0 c1 c2)), .val (.int (own_e3 c0 c1 c2 c3)), .val (.int (1 : Int32))]) rfl ?_
      show Steps p.tables e below (T33.setTop (mkF m 332 #[.val (.int p0), .val (.int p1), .val (.int p2), .val (.int p3), .val (.int p4), .val (.int (own_i n)), .val (.int c0), .val (.int c1), .val (.int c2), .val (.int c3), .val (.ref b4), .val (.ref pt), .val (.ref cb), .val (.long (own_l KK.1)), .second, .val (.long (own_lov (own_i n))), .second, .val (.long (own_hiv (own_i n))), .second, .val (.int (own_e1 c0 c1)), .val (.int (own_e2 c0 c1 c2)), .val (.int (own_e3 c0 c1 c2 c3)), .val (.int (1 : Int32))] [])) _
      refine XS.iload X33.here hx rfl (hb hby at_332) rfl ?_
      show Steps p.tables e below (T33.setTop (mkF m 334 #[.val (.int p0), .val (.int p1), .val (.int p2), .val (.int p3), .val (.int p4), .val (.int (own_i n)), .val (.int c0), .val (.int c1), .val (.int c2), .val (.int c3), .val (.ref b4), .val (.ref pt), .val (.ref cb), .val (.long (own_l KK.1)), .second, .val (.long (own_lov (own_i n))), .second, .val (.long (own_hiv (own_i n))), .second, .val (.int (own_e1 c0 c1)), .val (.int (own_e2 c0 c1 c2)), .val (.int (own_e3 c0 c1 c2 c3)), .val (.int (1 : Int32))] [(.int (own_i n))])) _
      refine XS.iconst X33.here hx rfl (hb hby at_334) ?_
      exact k
    · show Steps p.tables e below (T33.setTop (mkF m 308 #[.val (.int p0), .val (.int p1), .val (.int p2), .val (.int p3), .val (.int p4), .val (.int (own_i n)), .val (.int c0), .val (.int c1), .val (.int c2), .val (.int c3), .val (.ref b4), .val (.ref pt), .val (.ref cb), .val (.long (own_l KK.1)), .second, .val (.long (own_lov (own_i n))), .second, .val (.long (own_hiv (own_i n))), .second, .val (.int (own_e1 c0 c1)), .val (.int (own_e2 c0 c1 c2)), .val (.int (own_e3 c0 c1 c2 c3)), .val (.int (1 : Int32))] [(.int (1 : Int32)), (.int (own_i n))])) _
      refine XS.icmpYes X33.here hx rfl (pc0 := 308) (pc' := 332) rfl (hb hby at_308) rfl (flt (show ¬ ((1 : Int32) < (own_i n)) from (fun q => hl ((own_i_lt (j := 1) (by omega) (by omega)).mp q)))).2.2.2 (by decide) (by decide) ?_
      show Steps p.tables e below (T33.setTop (mkF m 332 #[.val (.int p0), .val (.int p1), .val (.int p2), .val (.int p3), .val (.int p4), .val (.int (own_i n)), .val (.int c0), .val (.int c1), .val (.int c2), .val (.int c3), .val (.ref b4), .val (.ref pt), .val (.ref cb), .val (.long (own_l KK.1)), .second, .val (.long (own_lov (own_i n))), .second, .val (.long (own_hiv (own_i n))), .second, .val (.int (own_e1 c0 c1)), .val (.int (own_e2 c0 c1 c2)), .val (.int (own_e3 c0 c1 c2 c3)), .val (.int (1 : Int32))] [])) _
      refine XS.iload X33.here hx rfl (hb hby at_332) rfl ?_
      show Steps p.tables e below (T33.setTop (mkF m 334 #[.val (.int p0), .val (.int p1), .val (.int p2), .val (.int p3), .val (.int p4), .val (.int (own_i n)), .val (.int c0), .val (.int c1), .val (.int c2), .val (.int c3), .val (.ref b4), .val (.ref pt), .val (.ref cb), .val (.long (own_l KK.1)), .second, .val (.long (own_lov (own_i n))), .second, .val (.long (own_hiv (own_i n))), .second, .val (.int (own_e1 c0 c1)), .val (.int (own_e2 c0 c1 c2)), .val (.int (own_e3 c0 c1 c2 c3)), .val (.int (1 : Int32))] [(.int (own_i n))])) _
      refine XS.iconst X33.here hx rfl (hb hby at_334) ?_
      exact k
  have p_48 : ∀ t, Steps p.tables e below (T33.setTop (mkF m 362 #[.val (.int p0), .val (.int p1), .val (.int p2), .val (.int p3), .val (.int p4), .val (.int (own_i n)), .val (.int c0), .val (.int c1), .val (.int c2), .val (.int c3), .val (.ref b4), .val (.ref pt), .val (.ref cb), .val (.long (own_l KK.1)), .second, .val (.long (own_lov (own_i n))), .second, .val (.long (own_hiv (own_i n))), .second, .val (.int (own_e1 c0 c1)), .val (.int (own_e2 c0 c1 c2)), .val (.int (own_e3 c0 c1 c2 c3)), .val (.int (1 : Int32))] [(.int (3 : Int32)), (.int (own_i n))])) t → Steps p.tables e below (s₁.setTop (entryFrame m #[(.int p0), (.int p1), (.int p2), (.int p3), (.int p4)] maxLocals)) t := by
    intro t k
    refine p_47 t ?_
    by_cases hl : 2 < n
    · show Steps p.tables e below (T33.setTop (mkF m 335 #[.val (.int p0), .val (.int p1), .val (.int p2), .val (.int p3), .val (.int p4), .val (.int (own_i n)), .val (.int c0), .val (.int c1), .val (.int c2), .val (.int c3), .val (.ref b4), .val (.ref pt), .val (.ref cb), .val (.long (own_l KK.1)), .second, .val (.long (own_lov (own_i n))), .second, .val (.long (own_hiv (own_i n))), .second, .val (.int (own_e1 c0 c1)), .val (.int (own_e2 c0 c1 c2)), .val (.int (own_e3 c0 c1 c2 c3)), .val (.int (1 : Int32))] [(.int (2 : Int32)), (.int (own_i n))])) _
      refine XS.icmpNo X33.here hx rfl (hb hby at_335) rfl (tlt (show (2 : Int32) < (own_i n) from ((own_i_lt (j := 2) (by omega) (by omega)).mpr hl))).2.2.2 ?_
      show Steps p.tables e below (T33.setTop (mkF m 338 #[.val (.int p0), .val (.int p1), .val (.int p2), .val (.int p3), .val (.int p4), .val (.int (own_i n)), .val (.int c0), .val (.int c1), .val (.int c2), .val (.int c3), .val (.ref b4), .val (.ref pt), .val (.ref cb), .val (.long (own_l KK.1)), .second, .val (.long (own_lov (own_i n))), .second, .val (.long (own_hiv (own_i n))), .second, .val (.int (own_e1 c0 c1)), .val (.int (own_e2 c0 c1 c2)), .val (.int (own_e3 c0 c1 c2 c3)), .val (.int (1 : Int32))] [])) _
      refine XS.iload X33.here hx rfl (hb hby at_338) rfl ?_
      show Steps p.tables e below (T33.setTop (mkF m 340 #[.val (.int p0), .val (.int p1), .val (.int p2), .val (.int p3), .val (.int p4), .val (.int (own_i n)), .val (.int c0), .val (.int c1), .val (.int c2), .val (.int c3), .val (.ref b4), .val (.ref pt), .val (.ref cb), .val (.long (own_l KK.1)), .second, .val (.long (own_lov (own_i n))), .second, .val (.long (own_hiv (own_i n))), .second, .val (.int (own_e1 c0 c1)), .val (.int (own_e2 c0 c1 c2)), .val (.int (own_e3 c0 c1 c2 c3)), .val (.int (1 : Int32))] [(.int (1 : Int32))])) _
      refine XS.ifNo X33.here hx rfl (hb hby at_340) rfl ((if0 _ _).trans (feq (show ¬ ((1 : Int32) = (0 : Int32)) from (by decide))).1) ?_
      show Steps p.tables e below (T33.setTop (mkF m 343 #[.val (.int p0), .val (.int p1), .val (.int p2), .val (.int p3), .val (.int p4), .val (.int (own_i n)), .val (.int c0), .val (.int c1), .val (.int c2), .val (.int c3), .val (.ref b4), .val (.ref pt), .val (.ref cb), .val (.long (own_l KK.1)), .second, .val (.long (own_lov (own_i n))), .second, .val (.long (own_hiv (own_i n))), .second, .val (.int (own_e1 c0 c1)), .val (.int (own_e2 c0 c1 c2)), .val (.int (own_e3 c0 c1 c2 c3)), .val (.int (1 : Int32))] [])) _
      refine XS.aload X33.here hx rfl (hb hby at_343) rfl rfl ?_
      show Steps p.tables e below (T33.setTop (mkF m 345 #[.val (.int p0), .val (.int p1), .val (.int p2), .val (.int p3), .val (.int p4), .val (.int (own_i n)), .val (.int c0), .val (.int c1), .val (.int c2), .val (.int c3), .val (.ref b4), .val (.ref pt), .val (.ref cb), .val (.long (own_l KK.1)), .second, .val (.long (own_lov (own_i n))), .second, .val (.long (own_hiv (own_i n))), .second, .val (.int (own_e1 c0 c1)), .val (.int (own_e2 c0 c1 c2)), .val (.int (own_e3 c0 c1 c2 c3)), .val (.int (1 : Int32))] [(.ref cb)])) _
      refine XS.iconst X33.here hx rfl (hb hby at_345) ?_
      show Steps p.tables e below (T33.setTop (mkF m 346 #[.val (.int p0), .val (.int p1), .val (.int p2), .val (.int p3), .val (.int p4), .val (.int (own_i n)), .val (.int c0), .val (.int c1), .val (.int c2), .val (.int c3), .val (.ref b4), .val (.ref pt), .val (.ref cb), .val (.long (own_l KK.1)), .second, .val (.long (own_lov (own_i n))), .second, .val (.long (own_hiv (own_i n))), .second, .val (.int (own_e1 c0 c1)), .val (.int (own_e2 c0 c1 c2)), .val (.int (own_e3 c0 c1 c2 c3)), .val (.int (1 : Int32))] [(.int (2 : Int32)), (.ref cb)])) _
      refine own_iaload X33 hx hZ eR2 FCK (j := (2 : Int32)) (by decide) (show 2 < n from hl) (g := (mkF m 346 #[.val (.int p0), .val (.int p1), .val (.int p2), .val (.int p3), .val (.int p4), .val (.int (own_i n)), .val (.int c0), .val (.int c1), .val (.int c2), .val (.int c3), .val (.ref b4), .val (.ref pt), .val (.ref cb), .val (.long (own_l KK.1)), .second, .val (.long (own_lov (own_i n))), .second, .val (.long (own_hiv (own_i n))), .second, .val (.int (own_e1 c0 c1)), .val (.int (own_e2 c0 c1 c2)), .val (.int (own_e3 c0 c1 c2 c3)), .val (.int (1 : Int32))] [(.int (2 : Int32)), (.ref cb)])) rfl rfl (hb hby at_346) _ ?_
      show Steps p.tables e below (T33.setTop (mkF m 347 #[.val (.int p0), .val (.int p1), .val (.int p2), .val (.int p3), .val (.int p4), .val (.int (own_i n)), .val (.int c0), .val (.int c1), .val (.int c2), .val (.int c3), .val (.ref b4), .val (.ref pt), .val (.ref cb), .val (.long (own_l KK.1)), .second, .val (.long (own_lov (own_i n))), .second, .val (.long (own_hiv (own_i n))), .second, .val (.int (own_e1 c0 c1)), .val (.int (own_e2 c0 c1 c2)), .val (.int (own_e3 c0 c1 c2 c3)), .val (.int (1 : Int32))] [(.int (own_i (KK.2 2)))])) _
      refine XS.iload X33.here hx rfl (hb hby at_347) rfl ?_
      show Steps p.tables e below (T33.setTop (mkF m 349 #[.val (.int p0), .val (.int p1), .val (.int p2), .val (.int p3), .val (.int p4), .val (.int (own_i n)), .val (.int c0), .val (.int c1), .val (.int c2), .val (.int c3), .val (.ref b4), .val (.ref pt), .val (.ref cb), .val (.long (own_l KK.1)), .second, .val (.long (own_lov (own_i n))), .second, .val (.long (own_hiv (own_i n))), .second, .val (.int (own_e1 c0 c1)), .val (.int (own_e2 c0 c1 c2)), .val (.int (own_e3 c0 c1 c2 c3)), .val (.int (1 : Int32))] [(.int (own_e2 c0 c1 c2)), (.int (own_i (KK.2 2)))])) _
      refine XS.icmpNo X33.here hx rfl (hb hby at_349) rfl (teq (show (own_i (KK.2 2)) = (own_e2 c0 c1 c2) from (hpl.2.2.2.2.1 hl))).2 ?_
      show Steps p.tables e below (T33.setTop (mkF m 352 #[.val (.int p0), .val (.int p1), .val (.int p2), .val (.int p3), .val (.int p4), .val (.int (own_i n)), .val (.int c0), .val (.int c1), .val (.int c2), .val (.int c3), .val (.ref b4), .val (.ref pt), .val (.ref cb), .val (.long (own_l KK.1)), .second, .val (.long (own_lov (own_i n))), .second, .val (.long (own_hiv (own_i n))), .second, .val (.int (own_e1 c0 c1)), .val (.int (own_e2 c0 c1 c2)), .val (.int (own_e3 c0 c1 c2 c3)), .val (.int (1 : Int32))] [])) _
      refine XS.iconst X33.here hx rfl (hb hby at_352) ?_
      show Steps p.tables e below (T33.setTop (mkF m 353 #[.val (.int p0), .val (.int p1), .val (.int p2), .val (.int p3), .val (.int p4), .val (.int (own_i n)), .val (.int c0), .val (.int c1), .val (.int c2), .val (.int c3), .val (.ref b4), .val (.ref pt), .val (.ref cb), .val (.long (own_l KK.1)), .second, .val (.long (own_lov (own_i n))), .second, .val (.long (own_hiv (own_i n))), .second, .val (.int (own_e1 c0 c1)), .val (.int (own_e2 c0 c1 c2)), .val (.int (own_e3 c0 c1 c2 c3)), .val (.int (1 : Int32))] [(.int (1 : Int32))])) _
      refine XS.goto X33.here hx rfl (pc0 := 353) (pc' := 357) rfl (hb hby at_353) (by decide) (by decide) ?_
      show Steps p.tables e below (T33.setTop (mkF m 357 #[.val (.int p0), .val (.int p1), .val (.int p2), .val (.int p3), .val (.int p4), .val (.int (own_i n)), .val (.int c0), .val (.int c1), .val (.int c2), .val (.int c3), .val (.ref b4), .val (.ref pt), .val (.ref cb), .val (.long (own_l KK.1)), .second, .val (.long (own_lov (own_i n))), .second, .val (.long (own_hiv (own_i n))), .second, .val (.int (own_e1 c0 c1)), .val (.int (own_e2 c0 c1 c2)), .val (.int (own_e3 c0 c1 c2 c3)), .val (.int (1 : Int32))] [(.int (1 : Int32))])) _
      refine XS.istore X33.here hx rfl (hb hby at_357) rfl (l' := #[.val (.int p0), .val (.int p1), .val (.int p2), .val (.int p3), .val (.int p4), .val (.int (own_i n)), .val (.int c0), .val (.int c1), .val (.int c2), .val (.int c3), .val (.ref b4), .val (.ref pt), .val (.ref cb), .val (.long (own_l KK.1)), .second, .val (.long (own_lov (own_i n))), .second, .val (.long (own_hiv (own_i n))), .second, .val (.int (own_e1 c0 c1)), .val (.int (own_e2 c0 c1 c2)), .val (.int (own_e3 c0 c1 c2 c3)), .val (.int (1 : Int32))]) rfl ?_
      show Steps p.tables e below (T33.setTop (mkF m 359 #[.val (.int p0), .val (.int p1), .val (.int p2), .val (.int p3), .val (.int p4), .val (.int (own_i n)), .val (.int c0), .val (.int c1), .val (.int c2), .val (.int c3), .val (.ref b4), .val (.ref pt), .val (.ref cb), .val (.long (own_l KK.1)), .second, .val (.long (own_lov (own_i n))), .second, .val (.long (own_hiv (own_i n))), .second, .val (.int (own_e1 c0 c1)), .val (.int (own_e2 c0 c1 c2)), .val (.int (own_e3 c0 c1 c2 c3)), .val (.int (1 : Int32))] [])) _
      refine XS.iload X33.here hx rfl (hb hby at_359) rfl ?_
      show Steps p.tables e below (T33.setTop (mkF m 361 #[.val (.int p0), .val (.int p1), .val (.int p2), .val (.int p3), .val (.int p4), .val (.int (own_i n)), .val (.int c0), .val (.int c1), .val (.int c2), .val (.int c3), .val (.ref b4), .val (.ref pt), .val (.ref cb), .val (.long (own_l KK.1)), .second, .val (.long (own_lov (own_i n))), .second, .val (.long (own_hiv (own_i n))), .second, .val (.int (own_e1 c0 c1)), .val (.int (own_e2 c0 c1 c2)), .val (.int (own_e3 c0 c1 c2 c3)), .val (.int (1 : Int32))] [(.int (own_i n))])) _
      refine XS.iconst X33.here hx rfl (hb hby at_361) ?_
      exact k
    · show Steps p.tables e below (T33.setTop (mkF m 335 #[.val (.int p0), .val (.int p1), .val (.int p2), .val (.int p3), .val (.int p4), .val (.int (own_i n)), .val (.int c0), .val (.int c1), .val (.int c2), .val (.int c3), .val (.ref b4), .val (.ref pt), .val (.ref cb), .val (.long (own_l KK.1)), .second, .val (.long (own_lov (own_i n))), .second, .val (.long (own_hiv (own_i n))), .second, .val (.int (own_e1 c0 c1)), .val (.int (own_e2 c0 c1 c2)), .val (.int (own_e3 c0 c1 c2 c3)), .val (.int (1 : Int32))] [(.int (2 : Int32)), (.int (own_i n))])) _
      refine XS.icmpYes X33.here hx rfl (pc0 := 335) (pc' := 359) rfl (hb hby at_335) rfl (flt (show ¬ ((2 : Int32) < (own_i n)) from (fun q => hl ((own_i_lt (j := 2) (by omega) (by omega)).mp q)))).2.2.2 (by decide) (by decide) ?_
      show Steps p.tables e below (T33.setTop (mkF m 359 #[.val (.int p0), .val (.int p1), .val (.int p2), .val (.int p3), .val (.int p4), .val (.int (own_i n)), .val (.int c0), .val (.int c1), .val (.int c2), .val (.int c3), .val (.ref b4), .val (.ref pt), .val (.ref cb), .val (.long (own_l KK.1)), .second, .val (.long (own_lov (own_i n))), .second, .val (.long (own_hiv (own_i n))), .second, .val (.int (own_e1 c0 c1)), .val (.int (own_e2 c0 c1 c2)), .val (.int (own_e3 c0 c1 c2 c3)), .val (.int (1 : Int32))] [])) _
      refine XS.iload X33.here hx rfl (hb hby at_359) rfl ?_
      show Steps p.tables e below (T33.setTop (mkF m 361 #[.val (.int p0), .val (.int p1), .val (.int p2), .val (.int p3), .val (.int p4), .val (.int (own_i n)), .val (.int c0), .val (.int c1), .val (.int c2), .val (.int c3), .val (.ref b4), .val (.ref pt), .val (.ref cb), .val (.long (own_l KK.1)), .second, .val (.long (own_lov (own_i n))), .second, .val (.long (own_hiv (own_i n))), .second, .val (.int (own_e1 c0 c1)), .val (.int (own_e2 c0 c1 c2)), .val (.int (own_e3 c0 c1 c2 c3)), .val (.int (1 : Int32))] [(.int (own_i n))])) _
      refine XS.iconst X33.here hx rfl (hb hby at_361) ?_
      exact k
  have p_49 : ∀ t, Steps p.tables e below (T33.setTop (mkF m 388 #[.val (.int p0), .val (.int p1), .val (.int p2), .val (.int p3), .val (.int p4), .val (.int (own_i n)), .val (.int c0), .val (.int c1), .val (.int c2), .val (.int c3), .val (.ref b4), .val (.ref pt), .val (.ref cb), .val (.long (own_l KK.1)), .second, .val (.long (own_lov (own_i n))), .second, .val (.long (own_hiv (own_i n))), .second, .val (.int (own_e1 c0 c1)), .val (.int (own_e2 c0 c1 c2)), .val (.int (own_e3 c0 c1 c2 c3)), .val (.int (1 : Int32))] [(.int (1 : Int32))])) t → Steps p.tables e below (s₁.setTop (entryFrame m #[(.int p0), (.int p1), (.int p2), (.int p3), (.int p4)] maxLocals)) t := by
    intro t k
    refine p_48 t ?_
    by_cases hl : 3 < n
    · show Steps p.tables e below (T33.setTop (mkF m 362 #[.val (.int p0), .val (.int p1), .val (.int p2), .val (.int p3), .val (.int p4), .val (.int (own_i n)), .val (.int c0), .val (.int c1), .val (.int c2), .val (.int c3), .val (.ref b4), .val (.ref pt), .val (.ref cb), .val (.long (own_l KK.1)), .second, .val (.long (own_lov (own_i n))), .second, .val (.long (own_hiv (own_i n))), .second, .val (.int (own_e1 c0 c1)), .val (.int (own_e2 c0 c1 c2)), .val (.int (own_e3 c0 c1 c2 c3)), .val (.int (1 : Int32))] [(.int (3 : Int32)), (.int (own_i n))])) _
      refine XS.icmpNo X33.here hx rfl (hb hby at_362) rfl (tlt (show (3 : Int32) < (own_i n) from ((own_i_lt (j := 3) (by omega) (by omega)).mpr hl))).2.2.2 ?_
      show Steps p.tables e below (T33.setTop (mkF m 365 #[.val (.int p0), .val (.int p1), .val (.int p2), .val (.int p3), .val (.int p4), .val (.int (own_i n)), .val (.int c0), .val (.int c1), .val (.int c2), .val (.int c3), .val (.ref b4), .val (.ref pt), .val (.ref cb), .val (.long (own_l KK.1)), .second, .val (.long (own_lov (own_i n))), .second, .val (.long (own_hiv (own_i n))), .second, .val (.int (own_e1 c0 c1)), .val (.int (own_e2 c0 c1 c2)), .val (.int (own_e3 c0 c1 c2 c3)), .val (.int (1 : Int32))] [])) _
      refine XS.iload X33.here hx rfl (hb hby at_365) rfl ?_
      show Steps p.tables e below (T33.setTop (mkF m 367 #[.val (.int p0), .val (.int p1), .val (.int p2), .val (.int p3), .val (.int p4), .val (.int (own_i n)), .val (.int c0), .val (.int c1), .val (.int c2), .val (.int c3), .val (.ref b4), .val (.ref pt), .val (.ref cb), .val (.long (own_l KK.1)), .second, .val (.long (own_lov (own_i n))), .second, .val (.long (own_hiv (own_i n))), .second, .val (.int (own_e1 c0 c1)), .val (.int (own_e2 c0 c1 c2)), .val (.int (own_e3 c0 c1 c2 c3)), .val (.int (1 : Int32))] [(.int (1 : Int32))])) _
      refine XS.ifNo X33.here hx rfl (hb hby at_367) rfl ((if0 _ _).trans (feq (show ¬ ((1 : Int32) = (0 : Int32)) from (by decide))).1) ?_
      show Steps p.tables e below (T33.setTop (mkF m 370 #[.val (.int p0), .val (.int p1), .val (.int p2), .val (.int p3), .val (.int p4), .val (.int (own_i n)), .val (.int c0), .val (.int c1), .val (.int c2), .val (.int c3), .val (.ref b4), .val (.ref pt), .val (.ref cb), .val (.long (own_l KK.1)), .second, .val (.long (own_lov (own_i n))), .second, .val (.long (own_hiv (own_i n))), .second, .val (.int (own_e1 c0 c1)), .val (.int (own_e2 c0 c1 c2)), .val (.int (own_e3 c0 c1 c2 c3)), .val (.int (1 : Int32))] [])) _
      refine XS.aload X33.here hx rfl (hb hby at_370) rfl rfl ?_
      show Steps p.tables e below (T33.setTop (mkF m 372 #[.val (.int p0), .val (.int p1), .val (.int p2), .val (.int p3), .val (.int p4), .val (.int (own_i n)), .val (.int c0), .val (.int c1), .val (.int c2), .val (.int c3), .val (.ref b4), .val (.ref pt), .val (.ref cb), .val (.long (own_l KK.1)), .second, .val (.long (own_lov (own_i n))), .second, .val (.long (own_hiv (own_i n))), .second, .val (.int (own_e1 c0 c1)), .val (.int (own_e2 c0 c1 c2)), .val (.int (own_e3 c0 c1 c2 c3)), .val (.int (1 : Int32))] [(.ref cb)])) _
      refine XS.iconst X33.here hx rfl (hb hby at_372) ?_
      show Steps p.tables e below (T33.setTop (mkF m 373 #[.val (.int p0), .val (.int p1), .val (.int p2), .val (.int p3), .val (.int p4), .val (.int (own_i n)), .val (.int c0), .val (.int c1), .val (.int c2), .val (.int c3), .val (.ref b4), .val (.ref pt), .val (.ref cb), .val (.long (own_l KK.1)), .second, .val (.long (own_lov (own_i n))), .second, .val (.long (own_hiv (own_i n))), .second, .val (.int (own_e1 c0 c1)), .val (.int (own_e2 c0 c1 c2)), .val (.int (own_e3 c0 c1 c2 c3)), .val (.int (1 : Int32))] [(.int (3 : Int32)), (.ref cb)])) _
      refine own_iaload X33 hx hZ eR2 FCK (j := (3 : Int32)) (by decide) (show 3 < n from hl) (g := (mkF m 373 #[.val (.int p0), .val (.int p1), .val (.int p2), .val (.int p3), .val (.int p4), .val (.int (own_i n)), .val (.int c0), .val (.int c1), .val (.int c2), .val (.int c3), .val (.ref b4), .val (.ref pt), .val (.ref cb), .val (.long (own_l KK.1)), .second, .val (.long (own_lov (own_i n))), .second, .val (.long (own_hiv (own_i n))), .second, .val (.int (own_e1 c0 c1)), .val (.int (own_e2 c0 c1 c2)), .val (.int (own_e3 c0 c1 c2 c3)), .val (.int (1 : Int32))] [(.int (3 : Int32)), (.ref cb)])) rfl rfl (hb hby at_373) _ ?_
      show Steps p.tables e below (T33.setTop (mkF m 374 #[.val (.int p0), .val (.int p1), .val (.int p2), .val (.int p3), .val (.int p4), .val (.int (own_i n)), .val (.int c0), .val (.int c1), .val (.int c2), .val (.int c3), .val (.ref b4), .val (.ref pt), .val (.ref cb), .val (.long (own_l KK.1)), .second, .val (.long (own_lov (own_i n))), .second, .val (.long (own_hiv (own_i n))), .second, .val (.int (own_e1 c0 c1)), .val (.int (own_e2 c0 c1 c2)), .val (.int (own_e3 c0 c1 c2 c3)), .val (.int (1 : Int32))] [(.int (own_i (KK.2 3)))])) _
      refine XS.iload X33.here hx rfl (hb hby at_374) rfl ?_
      show Steps p.tables e below (T33.setTop (mkF m 376 #[.val (.int p0), .val (.int p1), .val (.int p2), .val (.int p3), .val (.int p4), .val (.int (own_i n)), .val (.int c0), .val (.int c1), .val (.int c2), .val (.int c3), .val (.ref b4), .val (.ref pt), .val (.ref cb), .val (.long (own_l KK.1)), .second, .val (.long (own_lov (own_i n))), .second, .val (.long (own_hiv (own_i n))), .second, .val (.int (own_e1 c0 c1)), .val (.int (own_e2 c0 c1 c2)), .val (.int (own_e3 c0 c1 c2 c3)), .val (.int (1 : Int32))] [(.int (own_e3 c0 c1 c2 c3)), (.int (own_i (KK.2 3)))])) _
      refine XS.icmpNo X33.here hx rfl (hb hby at_376) rfl (teq (show (own_i (KK.2 3)) = (own_e3 c0 c1 c2 c3) from (hpl.2.2.2.2.2 hl))).2 ?_
      show Steps p.tables e below (T33.setTop (mkF m 379 #[.val (.int p0), .val (.int p1), .val (.int p2), .val (.int p3), .val (.int p4), .val (.int (own_i n)), .val (.int c0), .val (.int c1), .val (.int c2), .val (.int c3), .val (.ref b4), .val (.ref pt), .val (.ref cb), .val (.long (own_l KK.1)), .second, .val (.long (own_lov (own_i n))), .second, .val (.long (own_hiv (own_i n))), .second, .val (.int (own_e1 c0 c1)), .val (.int (own_e2 c0 c1 c2)), .val (.int (own_e3 c0 c1 c2 c3)), .val (.int (1 : Int32))] [])) _
      refine XS.iconst X33.here hx rfl (hb hby at_379) ?_
      show Steps p.tables e below (T33.setTop (mkF m 380 #[.val (.int p0), .val (.int p1), .val (.int p2), .val (.int p3), .val (.int p4), .val (.int (own_i n)), .val (.int c0), .val (.int c1), .val (.int c2), .val (.int c3), .val (.ref b4), .val (.ref pt), .val (.ref cb), .val (.long (own_l KK.1)), .second, .val (.long (own_lov (own_i n))), .second, .val (.long (own_hiv (own_i n))), .second, .val (.int (own_e1 c0 c1)), .val (.int (own_e2 c0 c1 c2)), .val (.int (own_e3 c0 c1 c2 c3)), .val (.int (1 : Int32))] [(.int (1 : Int32))])) _
      refine XS.goto X33.here hx rfl (pc0 := 380) (pc' := 384) rfl (hb hby at_380) (by decide) (by decide) ?_
      show Steps p.tables e below (T33.setTop (mkF m 384 #[.val (.int p0), .val (.int p1), .val (.int p2), .val (.int p3), .val (.int p4), .val (.int (own_i n)), .val (.int c0), .val (.int c1), .val (.int c2), .val (.int c3), .val (.ref b4), .val (.ref pt), .val (.ref cb), .val (.long (own_l KK.1)), .second, .val (.long (own_lov (own_i n))), .second, .val (.long (own_hiv (own_i n))), .second, .val (.int (own_e1 c0 c1)), .val (.int (own_e2 c0 c1 c2)), .val (.int (own_e3 c0 c1 c2 c3)), .val (.int (1 : Int32))] [(.int (1 : Int32))])) _
      refine XS.istore X33.here hx rfl (hb hby at_384) rfl (l' := #[.val (.int p0), .val (.int p1), .val (.int p2), .val (.int p3), .val (.int p4), .val (.int (own_i n)), .val (.int c0), .val (.int c1), .val (.int c2), .val (.int c3), .val (.ref b4), .val (.ref pt), .val (.ref cb), .val (.long (own_l KK.1)), .second, .val (.long (own_lov (own_i n))), .second, .val (.long (own_hiv (own_i n))), .second, .val (.int (own_e1 c0 c1)), .val (.int (own_e2 c0 c1 c2)), .val (.int (own_e3 c0 c1 c2 c3)), .val (.int (1 : Int32))]) rfl ?_
      show Steps p.tables e below (T33.setTop (mkF m 386 #[.val (.int p0), .val (.int p1), .val (.int p2), .val (.int p3), .val (.int p4), .val (.int (own_i n)), .val (.int c0), .val (.int c1), .val (.int c2), .val (.int c3), .val (.ref b4), .val (.ref pt), .val (.ref cb), .val (.long (own_l KK.1)), .second, .val (.long (own_lov (own_i n))), .second, .val (.long (own_hiv (own_i n))), .second, .val (.int (own_e1 c0 c1)), .val (.int (own_e2 c0 c1 c2)), .val (.int (own_e3 c0 c1 c2 c3)), .val (.int (1 : Int32))] [])) _
      refine XS.iload X33.here hx rfl (hb hby at_386) rfl ?_
      exact k
    · show Steps p.tables e below (T33.setTop (mkF m 362 #[.val (.int p0), .val (.int p1), .val (.int p2), .val (.int p3), .val (.int p4), .val (.int (own_i n)), .val (.int c0), .val (.int c1), .val (.int c2), .val (.int c3), .val (.ref b4), .val (.ref pt), .val (.ref cb), .val (.long (own_l KK.1)), .second, .val (.long (own_lov (own_i n))), .second, .val (.long (own_hiv (own_i n))), .second, .val (.int (own_e1 c0 c1)), .val (.int (own_e2 c0 c1 c2)), .val (.int (own_e3 c0 c1 c2 c3)), .val (.int (1 : Int32))] [(.int (3 : Int32)), (.int (own_i n))])) _
      refine XS.icmpYes X33.here hx rfl (pc0 := 362) (pc' := 386) rfl (hb hby at_362) rfl (flt (show ¬ ((3 : Int32) < (own_i n)) from (fun q => hl ((own_i_lt (j := 3) (by omega) (by omega)).mp q)))).2.2.2 (by decide) (by decide) ?_
      show Steps p.tables e below (T33.setTop (mkF m 386 #[.val (.int p0), .val (.int p1), .val (.int p2), .val (.int p3), .val (.int p4), .val (.int (own_i n)), .val (.int c0), .val (.int c1), .val (.int c2), .val (.int c3), .val (.ref b4), .val (.ref pt), .val (.ref cb), .val (.long (own_l KK.1)), .second, .val (.long (own_lov (own_i n))), .second, .val (.long (own_hiv (own_i n))), .second, .val (.int (own_e1 c0 c1)), .val (.int (own_e2 c0 c1 c2)), .val (.int (own_e3 c0 c1 c2 c3)), .val (.int (1 : Int32))] [])) _
      refine XS.iload X33.here hx rfl (hb hby at_386) rfl ?_
      exact k
  obtain ⟨fs, hr, hrun, hended, hE1, hE2, hE3, hE4⟩ := X33.leaveW SN26 (by rw [eR2]; exact XE.1) (v := some (.int (1 : Int32))) (fun h => by rw [Bd.returns] at h; cases h)
  refine ⟨_, _, p_49 _ ?_, hrun, hended, _, _, rfl, ?_, hE1, hE2, hE3, hE4.mono (by decide) (by decide)⟩
  · show Steps p.tables e below (T33.setTop (mkF m 388 #[.val (.int p0), .val (.int p1), .val (.int p2), .val (.int p3), .val (.int p4), .val (.int (own_i n)), .val (.int c0), .val (.int c1), .val (.int c2), .val (.int c3), .val (.ref b4), .val (.ref pt), .val (.ref cb), .val (.long (own_l KK.1)), .second, .val (.long (own_lov (own_i n))), .second, .val (.long (own_hiv (own_i n))), .second, .val (.int (own_e1 c0 c1)), .val (.int (own_e2 c0 c1 c2)), .val (.int (own_e3 c0 c1 c2 c3)), .val (.int (1 : Int32))] [(.int (1 : Int32))])) _
    exact retN X33 hx (t := .boolean) Bd.returns (by simp) (hb hby at_388) hr
  · show Q_law Z p0 p1 p2 p3 p4 h0 n0 _ T33.heap _
    rw [eR2]
    exact ⟨rfl, N33⟩
set_option maxRecDepth 65536 in
set_option maxHeartbeats 40000000 in
theorem comes_1 {Post : Tables → Env → Array Value → State → Outcome → State → Prop} (hpost : ∀ tb e args s v u, (limb_1_1.after args s (.returned v) u = true ∧ limb_1_2.after args s (.returned v) u = true ∧ True) → ReturnedEndW s (.returned v) u (Jvm.fieldLocs frame_1_writes args s ++ Jvm.arrayLocs frame_1_arrays args s ++ Jvm.staticLocs frame_1_statics s) 24 1152 → Post tb e args s (.returned v) u) :
    ArmFor flags0 classFile x code maxLocals ret World_1 tables_1 room_1 Calls_1 rest_1 Pre_1 Post := by
  intro l hfl _ _ p e ha hc hk s m args below hf hA hF happ hP
  obtain ⟨hcalls, hrest, hpre⟩ := hP
  obtain ⟨-, -, -, hnamed, -, -, -, hat⟩ := (Spec.applies_iff hf).mp happ
  obtain ⟨hg, hn⟩ := and_e (Cond.before_iff.mp (show (Jvm.Cond.and given_1 narrow_1).before args s = true from hpre))
  obtain ⟨hcnt, hr0⟩ := and_e hg
  obtain ⟨ha0, hr1⟩ := and_e hr0
  obtain ⟨ha1, hr2⟩ := and_e hr1
  obtain ⟨ha2, hr3⟩ := and_e hr2
  obtain ⟨ha3, hr4⟩ := and_e hr3
  have ha4 := hr4
  obtain ⟨w0, w1, w2, w3, w4, rfl⟩ : ∃ w0 w1 w2 w3 w4 : Value, args = #[w0, w1, w2, w3, w4] := by
    have hs : args.size = 5 := by simpa [Cond.value, given_1] using hcnt
    obtain ⟨L⟩ := args
    match L, hs with
    | [w0, w1, w2, w3, w4], _ => exact ⟨w0, w1, w2, w3, w4, rfl⟩
  have hw := fun d (hd : d ∈ tables_1) => atoms_spec (ws := Jvm.Cond.code x code maxLocals ret :: tables_1) hat d (List.mem_cons_of_mem _ hd)
  have hfit : Fit s := fun {y c} hc i hi => by
    obtain ⟨ha, rfl⟩ := Array.getElem?_eq_some_iff.mp hc
    have q := List.all_eq_true.mp ((Array.all_eq_true_iff_forall_mem.mp hF) _ (Array.getElem_mem ha)) i (List.mem_range.mpr hi)
    simpa [Array.getElem?_eq_getElem hi] using q
  obtain ⟨i0, e0⟩ := is_v ha0
  obtain rfl : w0 = (.int i0) := Option.some.inj e0
  obtain ⟨i1, e1⟩ := is_v ha1
  obtain rfl : w1 = (.int i1) := Option.some.inj e1
  obtain ⟨i2, e2⟩ := is_v ha2
  obtain rfl : w2 = (.int i2) := Option.some.inj e2
  obtain ⟨i3, e3⟩ := is_v ha3
  obtain rfl : w3 = (.int i3) := Option.some.inj e3
  obtain ⟨i4, e4⟩ := is_v ha4
  obtain rfl : w4 = (.int i4) := Option.some.inj e4
  obtain ⟨n, o, h1, h2, h3, _, L, rfl, ⟨rfl, N⟩, hq⟩ := rm_law l s _ hw tables_1 i0 i1 i2 i3 i4 s.heap s.heap.size (Nat.le_refl _) p e ha hc hk s m _ below hf ((Spec.applies_iff_loose hf).mp happ).1 ⟨rfl, State.Warmed39.refl s, rfl⟩ trivial
  refine ⟨n, _, h1, h2, h3, hpost _ _ _ _ _ _ ⟨Cond.after_iff.mpr rfl, Cond.after_iff.mpr (eq_i res_at (Term.int_eval (1)) rfl), trivial⟩ ⟨hq.1, hq.2.1, hq.2.2.1, (hq.2.2.2.sift fun y hy => Or.inr (N y hy)).mono (by decide) (by decide)⟩⟩
theorem main_1_1 : Claimed_1_1 := comes_1 fun _ _ _ _ _ _ h hF => ⟨h.1, hF⟩
theorem main_1_2 : Claimed_1_2 := comes_1 fun _ _ _ _ _ _ h hF => ⟨h.2.1, hF⟩
end Jvm.Pilot.@@N@@
namespace Jvm.Pilot.@@N@@
open Jvm Jvm.ClassFile Sem Op Lib Jvm.Free Jvm.Stand Jvm.Pilot.@@N@@.Jvm.D
/-! MADE BY PROGRAM (witnessworld.py) out of the Statement's table words and the real class files: 20 classes; the members and pool entries that the words name. The judged class is class 1, her method 1. -/
namespace start1
open Jvm.ClassFile
def u (s : String) : CpInfo := .utf8 (stringToUtf16 s)
/-- a pool by its gaps: so many unusable entries, then the entry; so many at the end -/
def gap : Nat → List CpInfo → List CpInfo
  | 0, r => r
  | n + 1, r => .unusable :: gap n r
def poolList (es : List (Nat × CpInfo)) (last : Nat) : List CpInfo := es.foldr (fun e r => gap e.1 (e.2 :: r)) (gap last [])
def pool (es : List (Nat × CpInfo)) (last : Nat) : Array CpInfo := ⟨poolList es last⟩
def fileOf (pool : Array CpInfo) (this : Nat) (attrs : Array Attribute := #[]) (ms : Array MethodInfo := #[]) (fl : Nat := 33) (sup : Nat := 0) (ifs : Array Nat := #[]) (fds : Array FieldInfo := #[]) : ClassFile where
  minorVersion := 0
  majorVersion := 65
  constantPool := pool
  accessFlags := fl
  thisClass := this
  superClass := sup
  interfaces := ifs
  fields := fds
  methods := ms
  attributes := attrs
def plain (name : String) (sup : Option ClassId) : Class where
  name := name
  kind := .ordinary
  loader := none
  accessFlags := 33
  super := sup
  interfaces := #[]
  cf := none
  fields := #[]
  methods := #[]
  instanceTypes := #[]
  staticTypes := #[]
  resolved := #[]
  callSites := []
  init := .initialized
  statics := none
  mirror := none

def pool0 : Array CpInfo := pool [(5, u "<init>"), (0, u "()V"), (1, .class_ 10), (1, u "java/lang/Object"), (85, u "clone"), (0, u "()Ljava/lang/Object;")] 26

def k0c0 : Code := { maxStack := 0, maxLocals := 1, code := object_method_1_code, exceptionTable := #[], attributes := #[] }
def k0m0 : Method := { name := "<init>", desc := "()V", sig := { parameters := [], returnType := none }, accessFlags := 1, code := some k0c0 }
def k0m1 : Method := { name := "clone", desc := "()Ljava/lang/Object;", sig := { parameters := [], returnType := some (.object "java/lang/Object") }, accessFlags := 260, code := none }
/-- java/lang/Object -/
def k0 : Class := { plain "java/lang/Object" none with
  accessFlags := 33
  interfaces := #[]
  cf := some (fileOf pool0 8 #[] #[{ accessFlags := 1, nameIndex := 5, descriptorIndex := 6, attributes := #[] }, { accessFlags := 260, nameIndex := 96, descriptorIndex := 97, attributes := #[] }] 33 0 #[] #[])
  fields := #[]
  methods := #[k0m0, k0m1]
  instanceTypes := #[]
  staticTypes := #[]
  resolved := Array.replicate 124 none
  statics := none }

def pool1 : Array CpInfo := pool [(2, .class_ 4), (1, u "java/lang/Object"), (0, u "<init>"), (0, u "()V"), (0, .integer 2147483647), (0, .methodref 9 10), (0, .class_ 11), (0, .nameAndType 12 13), (0, u "prefixshift/Pattern"), (0, u "of"), (0, u "([B)Lprefixshift/Pattern;"), (0, .methodref 9 15), (0, .nameAndType 16 17), (0, u "prefixTable"), (0, u "()[I"), (0, .methodref 9 19), (0, .nameAndType 20 21), (0, u "length"), (0, u "()I"), (0, .methodref 9 23), (0, .nameAndType 24 25), (0, u "tableComparisons"), (0, u "()J"), (0, .long 2), (1, .class_ 29), (0, u "prefixshift/PatternOf328PinLaw"), (2, u "law"), (0, u "(IIIII)Z")] 7

def k1m0 : Method := { name := "<init>", desc := "()V", sig := { parameters := [], returnType := none }, accessFlags := 1, code := none }
def k1c1 : Code := { maxStack := 4, maxLocals := 23, code := code, exceptionTable := #[], attributes := #[] }
def k1m1 : Method := { name := "law", desc := "(IIIII)Z", sig := { parameters := [.int, .int, .int, .int, .int], returnType := some .boolean }, accessFlags := 9, code := some k1c1 }
/-- prefixshift/PatternOf328PinLaw -/
def k1 : Class := { plain "prefixshift/PatternOf328PinLaw" (some 0) with
  accessFlags := 49
  interfaces := #[]
  cf := some (fileOf pool1 28 #[] #[{ accessFlags := 1, nameIndex := 5, descriptorIndex := 6, attributes := #[] }, { accessFlags := 9, nameIndex := 32, descriptorIndex := 33, attributes := #[] }] 49 2 #[] #[])
  fields := #[]
  methods := #[k1m0, k1m1]
  instanceTypes := #[]
  staticTypes := #[]
  resolved := Array.replicate 41 none
  statics := none }

def pool2 : Array CpInfo := pool [(1, .methodref 2 3), (0, .class_ 4), (0, .nameAndType 5 6), (0, u "java/lang/Object"), (0, u "<init>"), (0, u "()V"), (0, .fieldref 8 9), (0, .class_ 10), (0, .nameAndType 11 12), (0, u "prefixshift/Pattern"), (0, u "units"), (0, u "[C"), (0, .fieldref 8 14), (0, .nameAndType 15 16), (0, u "ofChars"), (0, u "Z"), (0, .fieldref 8 18), (0, .nameAndType 19 20), (0, u "prefixTable"), (0, u "[I"), (0, .methodref 8 22), (0, .nameAndType 23 24), (0, u "buildPrefixTable"), (0, u "([C[I)J"), (0, .fieldref 8 26), (0, .nameAndType 27 28), (0, u "tableComparisons"), (0, u "J"), (0, .string 30), (0, u "pattern"), (0, .methodref 32 33), (0, .class_ 34), (0, .nameAndType 35 36), (0, u "java/util/Objects"), (0, u "requireNonNull"), (0, u "(Ljava/lang/Object;Ljava/lang/String;)Ljava/lang/Object;"), (0, .class_ 38), (0, u "[B"), (0, .methodref 40 41), (0, .class_ 42), (0, .nameAndType 43 44), (0, u "prefixshift/Units$Bytes"), (0, u "unit"), (0, u "(B)C"), (0, .methodref 8 46), (0, .nameAndType 5 47), (0, u "([CZ)V"), (12, .methodref 61 62), (0, .class_ 20), (0, .nameAndType 63 64), (0, u "clone"), (0, u "()Ljava/lang/Object;"), (70, u "()[I"), (10, u "length"), (0, u "()I"), (8, .class_ 158), (1, u "prefixshift/Pattern$Feeder"), (5, u "()J"), (25, u "of"), (0, u "([B)Lprefixshift/Pattern;")] 66

def k2c0 : Code := { maxStack := 3, maxLocals := 3, code := prog_9_method_1_code, exceptionTable := #[], attributes := #[] }
def k2m0 : Method := { name := "<init>", desc := "([CZ)V", sig := { parameters := [(.array .char), .boolean], returnType := none }, accessFlags := 2, code := some k2c0 }
def k2c1 : Code := { maxStack := 4, maxLocals := 3, code := prog_9_method_2_code, exceptionTable := #[], attributes := #[] }
def k2m1 : Method := { name := "of", desc := "([B)Lprefixshift/Pattern;", sig := { parameters := [(.array .byte)], returnType := some (.object "prefixshift/Pattern") }, accessFlags := 9, code := some k2c1 }
def k2c2 : Code := { maxStack := 1, maxLocals := 1, code := prog_9_method_4_code, exceptionTable := #[], attributes := #[] }
def k2m2 : Method := { name := "length", desc := "()I", sig := { parameters := [], returnType := some .int }, accessFlags := 0, code := some k2c2 }
def k2c3 : Code := { maxStack := 2, maxLocals := 1, code := prog_9_method_5_code, exceptionTable := #[], attributes := #[] }
def k2m3 : Method := { name := "tableComparisons", desc := "()J", sig := { parameters := [], returnType := some .long }, accessFlags := 0, code := some k2c3 }
def k2c4 : Code := { maxStack := 1, maxLocals := 1, code := prog_9_method_6_code, exceptionTable := #[], attributes := #[] }
def k2m4 : Method := { name := "prefixTable", desc := "()[I", sig := { parameters := [], returnType := some (.array .int) }, accessFlags := 1, code := some k2c4 }
def k2c5 : Code := { maxStack := 4, maxLocals := 6, code := prog_9_method_19_code, exceptionTable := #[], attributes := #[] }
def k2m5 : Method := { name := "buildPrefixTable", desc := "([C[I)J", sig := { parameters := [(.array .char), (.array .int)], returnType := some .long }, accessFlags := 10, code := some k2c5 }
/-- prefixshift/Pattern -/
def k2 : Class := { plain "prefixshift/Pattern" (some 0) with
  accessFlags := 49
  interfaces := #[]
  cf := some (fileOf pool2 8 #[.nestMembers #[156]] #[{ accessFlags := 2, nameIndex := 5, descriptorIndex := 47, attributes := #[] }, { accessFlags := 9, nameIndex := 190, descriptorIndex := 191, attributes := #[] }, { accessFlags := 0, nameIndex := 146, descriptorIndex := 147, attributes := #[] }, { accessFlags := 0, nameIndex := 27, descriptorIndex := 164, attributes := #[] }, { accessFlags := 1, nameIndex := 19, descriptorIndex := 135, attributes := #[] }, { accessFlags := 10, nameIndex := 23, descriptorIndex := 24, attributes := #[] }] 49 2 #[] #[{ accessFlags := 18, nameIndex := 11, descriptorIndex := 12, attributes := #[] }, { accessFlags := 18, nameIndex := 15, descriptorIndex := 16, attributes := #[] }, { accessFlags := 18, nameIndex := 19, descriptorIndex := 20, attributes := #[] }, { accessFlags := 18, nameIndex := 27, descriptorIndex := 28, attributes := #[] }])
  fields := #[{ name := "units", type := (.array .char), accessFlags := 18, slot := 0, constantValue := 0 }, { name := "ofChars", type := .boolean, accessFlags := 18, slot := 1, constantValue := 0 }, { name := "prefixTable", type := (.array .int), accessFlags := 18, slot := 2, constantValue := 0 }, { name := "tableComparisons", type := .long, accessFlags := 18, slot := 3, constantValue := 0 }]
  methods := #[k2m0, k2m1, k2m2, k2m3, k2m4, k2m5]
  instanceTypes := #[(.array .char), .boolean, (.array .int), .long]
  staticTypes := #[]
  resolved := Array.replicate 258 none
  statics := none }

def pool3 : Array CpInfo := pool [(1, .class_ 2), (0, u "java/io/Serializable"), (0, .class_ 4), (0, u "java/lang/Object")] 2

/-- java/io/Serializable -/
def k3 : Class := { plain "java/io/Serializable" (some 0) with
  accessFlags := 1537
  interfaces := #[]
  cf := some (fileOf pool3 1 #[] #[] 1537 3 #[] #[])
  fields := #[]
  methods := #[]
  instanceTypes := #[]
  staticTypes := #[]
  resolved := Array.replicate 7 none
  statics := none }

def pool4 : Array CpInfo := pool [(1, .class_ 2), (0, u "java/lang/Comparable"), (0, .class_ 4), (0, u "java/lang/Object")] 7

/-- java/lang/Comparable -/
def k4 : Class := { plain "java/lang/Comparable" (some 0) with
  accessFlags := 1537
  interfaces := #[]
  cf := some (fileOf pool4 1 #[] #[] 1537 3 #[] #[])
  fields := #[]
  methods := #[]
  instanceTypes := #[]
  staticTypes := #[]
  resolved := Array.replicate 12 none
  statics := none }

def pool5 : Array CpInfo := pool [(2, .class_ 4), (1, u "java/lang/CharSequence"), (42, .class_ 48), (0, u "java/lang/CharSequence$1CodePointIterator"), (10, .class_ 60), (0, u "java/lang/CharSequence$1CharIterator"), (5, .class_ 67), (0, u "java/lang/Object")] 63

/-- java/lang/CharSequence -/
def k5 : Class := { plain "java/lang/CharSequence" (some 0) with
  accessFlags := 1537
  interfaces := #[]
  cf := some (fileOf pool5 2 #[.nestMembers #[47, 59]] #[] 1537 66 #[] #[])
  fields := #[]
  methods := #[]
  instanceTypes := #[]
  staticTypes := #[]
  resolved := Array.replicate 131 none
  statics := none }

def pool6 : Array CpInfo := pool [(1, .class_ 2), (0, u "java/lang/constant/Constable"), (0, .class_ 4), (0, u "java/lang/Object")] 6

/-- java/lang/constant/Constable -/
def k6 : Class := { plain "java/lang/constant/Constable" (some 0) with
  accessFlags := 1537
  interfaces := #[]
  cf := some (fileOf pool6 1 #[] #[] 1537 3 #[] #[])
  fields := #[]
  methods := #[]
  instanceTypes := #[]
  staticTypes := #[]
  resolved := Array.replicate 11 none
  statics := none }

def pool7 : Array CpInfo := pool [(1, .class_ 2), (0, u "java/lang/constant/ConstantDesc"), (0, .class_ 4), (0, u "java/lang/Object")] 32

/-- java/lang/constant/ConstantDesc -/
def k7 : Class := { plain "java/lang/constant/ConstantDesc" (some 0) with
  accessFlags := 1537
  interfaces := #[]
  cf := some (fileOf pool7 1 #[] #[] 1537 3 #[] #[])
  fields := #[]
  methods := #[]
  instanceTypes := #[]
  staticTypes := #[]
  resolved := Array.replicate 37 none
  statics := none }

def pool8 : Array CpInfo := pool [(2, .class_ 4), (1, u "java/lang/Object"), (0, u "<init>"), (0, u "()V"), (3, .class_ 12), (1, u "java/lang/String"), (0, u "value"), (0, u "[B"), (2, u "coder"), (0, u "B"), (2, u "hash"), (0, u "I"), (2, u "hashIsZero"), (0, u "Z"), (13, u "COMPACT_STRINGS"), (534, .class_ 576), (0, u "java/lang/CharSequence"), (22, u "CASE_INSENSITIVE_ORDER"), (0, u "Ljava/util/Comparator;"), (500, u "serialPersistentFields"), (0, u "[Ljava/io/ObjectStreamField;"), (0, .class_ 1104), (0, u "java/lang/String$CaseInsensitiveComparator"), (1, .class_ 1107), (0, u "java/io/Serializable"), (0, .class_ 1109), (0, u "java/lang/Comparable"), (0, .class_ 1111), (0, u "java/lang/constant/Constable"), (0, .class_ 1113), (0, u "java/lang/constant/ConstantDesc"), (2, u "serialVersionUID"), (0, u "J"), (3, u "REPL"), (0, u "C"), (2, u "LATIN1"), (1, u "UTF16")] 323

def k8m0 : Method := { name := "<init>", desc := "()V", sig := { parameters := [], returnType := none }, accessFlags := 1, code := none }
/-- java/lang/String -/
def k8 : Class := { plain "java/lang/String" (some 0) with
  accessFlags := 49
  interfaces := #[3, 4, 5, 6, 7]
  cf := some (fileOf pool8 10 #[.nestMembers #[1103]] #[{ accessFlags := 1, nameIndex := 5, descriptorIndex := 6, attributes := #[] }] 49 2 #[1106, 1108, 575, 1110, 1112] #[{ accessFlags := 18, nameIndex := 13, descriptorIndex := 14, attributes := #[] }, { accessFlags := 18, nameIndex := 17, descriptorIndex := 18, attributes := #[] }, { accessFlags := 2, nameIndex := 21, descriptorIndex := 22, attributes := #[] }, { accessFlags := 2, nameIndex := 25, descriptorIndex := 26, attributes := #[] }, { accessFlags := 26, nameIndex := 1116, descriptorIndex := 1117, attributes := #[] }, { accessFlags := 24, nameIndex := 40, descriptorIndex := 26, attributes := #[] }, { accessFlags := 26, nameIndex := 1101, descriptorIndex := 1102, attributes := #[] }, { accessFlags := 26, nameIndex := 1121, descriptorIndex := 1122, attributes := #[] }, { accessFlags := 25, nameIndex := 599, descriptorIndex := 600, attributes := #[] }, { accessFlags := 24, nameIndex := 1125, descriptorIndex := 18, attributes := #[] }, { accessFlags := 24, nameIndex := 1127, descriptorIndex := 18, attributes := #[] }])
  fields := #[{ name := "value", type := (.array .byte), accessFlags := 18, slot := 0, constantValue := 0 }, { name := "coder", type := .byte, accessFlags := 18, slot := 1, constantValue := 0 }, { name := "hash", type := .int, accessFlags := 2, slot := 2, constantValue := 0 }, { name := "hashIsZero", type := .boolean, accessFlags := 2, slot := 3, constantValue := 0 }, { name := "serialVersionUID", type := .long, accessFlags := 26, slot := 0, constantValue := 0 }, { name := "COMPACT_STRINGS", type := .boolean, accessFlags := 24, slot := 1, constantValue := 0 }, { name := "serialPersistentFields", type := (.array (.object "java/io/ObjectStreamField")), accessFlags := 26, slot := 2, constantValue := 0 }, { name := "REPL", type := .char, accessFlags := 26, slot := 3, constantValue := 0 }, { name := "CASE_INSENSITIVE_ORDER", type := (.object "java/util/Comparator"), accessFlags := 25, slot := 4, constantValue := 0 }, { name := "LATIN1", type := .byte, accessFlags := 24, slot := 5, constantValue := 0 }, { name := "UTF16", type := .byte, accessFlags := 24, slot := 6, constantValue := 0 }]
  methods := #[k8m0]
  instanceTypes := #[(.array .byte), .byte, .int, .boolean]
  staticTypes := #[.long, .boolean, (.array (.object "java/io/ObjectStreamField")), .char, (.object "java/util/Comparator"), .byte, .byte]
  resolved := Array.replicate 1451 none
  statics := none }

def pool9 : Array CpInfo := pool [(2, .class_ 4), (1, u "java/lang/Object"), (0, u "<init>"), (0, u "()V"), (35, .class_ 44), (1, u "java/util/Objects"), (0, u "requireNonNull"), (48, u "(Ljava/lang/Object;Ljava/lang/String;)Ljava/lang/Object;")] 89

def k9m0 : Method := { name := "<init>", desc := "()V", sig := { parameters := [], returnType := none }, accessFlags := 2, code := none }
def k9c1 : Code := { maxStack := 3, maxLocals := 2, code := jdk_31_method_11_code, exceptionTable := #[], attributes := #[] }
def k9m1 : Method := { name := "requireNonNull", desc := "(Ljava/lang/Object;Ljava/lang/String;)Ljava/lang/Object;", sig := { parameters := [(.object "java/lang/Object"), (.object "java/lang/String")], returnType := some (.object "java/lang/Object") }, accessFlags := 9, code := some k9c1 }
/-- java/util/Objects -/
def k9 : Class := { plain "java/util/Objects" (some 0) with
  accessFlags := 49
  interfaces := #[]
  cf := some (fileOf pool9 42 #[] #[{ accessFlags := 2, nameIndex := 5, descriptorIndex := 6, attributes := #[] }, { accessFlags := 9, nameIndex := 45, descriptorIndex := 94, attributes := #[] }] 49 2 #[] #[])
  fields := #[]
  methods := #[k9m0, k9m1]
  instanceTypes := #[]
  staticTypes := #[]
  resolved := Array.replicate 184 none
  statics := none }

def pool10 : Array CpInfo := pool [(1, .class_ 2), (0, u "java/lang/Cloneable"), (0, .class_ 4), (0, u "java/lang/Object")] 2

/-- java/lang/Cloneable -/
def k10 : Class := { plain "java/lang/Cloneable" (some 0) with
  accessFlags := 1537
  interfaces := #[]
  cf := some (fileOf pool10 1 #[] #[] 1537 3 #[] #[])
  fields := #[]
  methods := #[]
  instanceTypes := #[]
  staticTypes := #[]
  resolved := Array.replicate 7 none
  statics := none }

def pool11 : Array CpInfo := pool [(2, .class_ 4), (1, u "java/lang/Object"), (0, u "<init>"), (0, u "()V"), (0, .class_ 8), (0, u "java/lang/Record")] 13

def k11m0 : Method := { name := "<init>", desc := "()V", sig := { parameters := [], returnType := none }, accessFlags := 4, code := none }
/-- java/lang/Record -/
def k11 : Class := { plain "java/lang/Record" (some 0) with
  accessFlags := 1057
  interfaces := #[]
  cf := some (fileOf pool11 7 #[] #[{ accessFlags := 4, nameIndex := 5, descriptorIndex := 6, attributes := #[] }] 1057 2 #[] #[])
  fields := #[]
  methods := #[k11m0]
  instanceTypes := #[]
  staticTypes := #[]
  resolved := Array.replicate 22 none
  statics := none }

def pool12 : Array CpInfo := pool [(2, .class_ 4), (1, u "prefixshift/Units"), (2, .class_ 8), (0, u "java/lang/Object"), (10, .class_ 20), (0, u "prefixshift/Units$CharArray"), (0, .class_ 22), (0, u "prefixshift/Units$Chars"), (0, .class_ 24), (0, u "prefixshift/Units$Bytes")] 5

/-- prefixshift/Units -/
def k12 : Class := { plain "prefixshift/Units" (some 0) with
  accessFlags := 1536
  interfaces := #[]
  cf := some (fileOf pool12 2 #[.nestMembers #[19, 21, 23]] #[] 1536 7 #[] #[])
  fields := #[]
  methods := #[]
  instanceTypes := #[]
  staticTypes := #[]
  resolved := Array.replicate 30 none
  statics := none }

def pool13 : Array CpInfo := pool [(2, .class_ 4), (1, u "java/lang/Record"), (3, .class_ 10), (1, u "prefixshift/Units$Bytes"), (0, u "array"), (0, u "[B"), (2, u "unit"), (0, u "(B)C"), (6, u "EIGHT_BYTES"), (0, u "Ljava/lang/invoke/VarHandle;"), (46, .class_ 72), (0, u "prefixshift/Units"), (0, u "ONES"), (0, u "J")] 33

def k13c0 : Code := { maxStack := 2, maxLocals := 1, code := prog_13_method_2_code, exceptionTable := #[], attributes := #[] }
def k13m0 : Method := { name := "unit", desc := "(B)C", sig := { parameters := [.byte], returnType := some .char }, accessFlags := 8, code := some k13c0 }
/-- prefixshift/Units$Bytes -/
def k13 : Class := { plain "prefixshift/Units$Bytes" (some 11) with
  accessFlags := 49
  interfaces := #[12]
  cf := some (fileOf pool13 8 #[.nestHost 71] #[{ accessFlags := 8, nameIndex := 15, descriptorIndex := 16, attributes := #[] }] 49 2 #[71] #[{ accessFlags := 18, nameIndex := 11, descriptorIndex := 12, attributes := #[] }, { accessFlags := 26, nameIndex := 23, descriptorIndex := 24, attributes := #[] }, { accessFlags := 26, nameIndex := 73, descriptorIndex := 74, attributes := #[] }])
  fields := #[{ name := "array", type := (.array .byte), accessFlags := 18, slot := 0, constantValue := 0 }, { name := "EIGHT_BYTES", type := (.object "java/lang/invoke/VarHandle"), accessFlags := 26, slot := 0, constantValue := 0 }, { name := "ONES", type := .long, accessFlags := 26, slot := 1, constantValue := 0 }]
  methods := #[k13m0]
  instanceTypes := #[(.array .byte)]
  staticTypes := #[(.object "java/lang/invoke/VarHandle"), .long]
  resolved := Array.replicate 108 none
  statics := none }

/-- the primitive byte -/
def k14 : Class := { plain "byte" none with kind := .primitive 'B', accessFlags := 0x411 }
/-- [B -/
def k15 : Class := { plain "[B" (some 0) with kind := .array 14 .byte, interfaces := #[10, 3], accessFlags := 1041 }

/-- the primitive char -/
def k16 : Class := { plain "char" none with kind := .primitive 'C', accessFlags := 0x411 }
/-- [C -/
def k17 : Class := { plain "[C" (some 0) with kind := .array 16 .char, interfaces := #[10, 3], accessFlags := 1041 }

/-- the primitive int -/
def k18 : Class := { plain "int" none with kind := .primitive 'I', accessFlags := 0x411 }
/-- [I -/
def k19 : Class := { plain "[I" (some 0) with kind := .array 18 .int, interfaces := #[10, 3], accessFlags := 1041 }

def heap : Heap := #[]
def classes : Array Class := #[k0, k1, k2, k3, k4, k5, k6, k7, k8, k9, k10, k11, k12, k13, k14, k15, k16, k17, k18, k19]
def interned : List (Array UInt16 × Addr) := []
def slotsUsed : Nat := 0
def theMethod : MethodId := ⟨1, 1⟩
def args0 : Array Value := #[.int 3, .int 7, .int 7, .int 7, .int 7]
def aboutOver (below : List Frame) : State where
  vm := { classes := classes, interned := interned.toArray }
  heap := heap
  slotsUsed := slotsUsed
  threads := #[{ frames := .invoking theMethod args0 :: below }]
def below0 : List Frame := [.native { method := ⟨0, 0⟩, args := #[] }]
def about1 : State := aboutOver below0
def p0 : Program := .bare "" "" ""
def e0 : Env := launch0.env 0 0 0
theorem w_frames : about1.frames = Frame.invoking theMethod args0 :: below0 := rfl
set_option maxRecDepth 65536 in
theorem w_args : argsFit about1.vm theMethod args0 = true := by decide +kernel
set_option maxRecDepth 65536 in
theorem w_heap : heapFits about1 = true := by decide +kernel
set_option maxRecDepth 65536 in
theorem w_runnable : about1.curStatus? = some .runnable := by decide +kernel
set_option maxRecDepth 65536 in
theorem w_alone : about1.alone = true := by decide +kernel
set_option maxRecDepth 65536 in
theorem w_named : about1.methodNamed? x = some theMethod := by decide +kernel
set_option maxRecDepth 65536 in
theorem w_hears : about1.hears theMethod below0 = true := by decide +kernel
set_option maxRecDepth 65536 in
theorem w_ripe : about1.ripe theMethod args0 below0 = true := by decide +kernel
theorem w_running : about1.status = .running := rfl
set_option maxRecDepth 65536 in
theorem w_room : about1.hasRoom e0.platform room_1 = true :=
  launch0.hasRoom_least _ room_1 (by decide +kernel) (by decide +kernel) (by decide +kernel) (by decide +kernel) (by decide +kernel) (by decide +kernel)
theorem allAtoms_all (ts : List Jvm.Cond) (a : Array Jvm.Value) (st : Jvm.State) : (allAtoms ts).before a st = ts.all (fun c => c.before a st) := by
  induction ts with
  | nil => rfl
  | cons c t ih =>
    show (Jvm.Cond.and c (allAtoms t)).before a st = _
    rw [Jvm.Cond.before_and, ih, List.all_cons]
def words1 : List Jvm.Cond := Jvm.Cond.code x code maxLocals ret :: tables_1
/-- a 'code' word, met by the world's own term for the bytes: nothing is compared byte by byte -/
theorem code_word {y : MethodName} {bytes : ByteArray} {mx : Nat} {rt : Option FieldType} {a : Array Value} {s : State} {m : MethodId} {meth : Method} {c : Code} (h1 : s.methodNamed? y = some m) (h2 : s.vm.method? m = some meth) (h3 : meth.code = some c) (h4 : c.code = bytes)
    (h5 : (c.maxLocals == mx && c.exceptionTable.isEmpty && decide (c.maxStack ≤ mostOperands) && decide (meth.sig.returnType = rt) && !meth.locks && decide (parseMethodDescriptor y.desc = some meth.sig)) = true) : (Jvm.Cond.code y bytes mx rt).before a s = true := by
  simp only [Bool.and_eq_true, beq_iff_eq, Bool.not_eq_true', decide_eq_true_eq] at h5
  obtain ⟨⟨⟨⟨⟨g1, g2⟩, g3⟩, g4⟩, g5⟩, g6⟩ := h5
  simp [Cond.before, Cond.holds, Cond.value, h1, h2, h3, h4, g1, g2, g3, g4, g5, g6]
def isCode : Jvm.Cond → Bool
  | .code _ _ _ _ => true
  | _ => false
theorem all_split {L : List Jvm.Cond} {P : Jvm.Cond → Bool} (h1 : L.all (fun c => isCode c || P c) = true) (h2 : ∀ c ∈ L.filter isCode, P c = true) : L.all P = true := by
  refine List.all_eq_true.mpr fun c hc => ?_
  have h := List.all_eq_true.mp h1 c hc
  rcases Bool.eq_false_or_eq_true (isCode c) with hi | hi
  · exact h2 c (List.mem_filter.mpr ⟨hc, hi⟩)
  · simpa [hi] using h
set_option maxRecDepth 65536 in
theorem w_c0 : (Jvm.Cond.code x code maxLocals ret).before args0 about1 = true := code_word (m := ⟨1, 1⟩) (meth := k1m1) (c := k1c1) (by decide +kernel) rfl rfl rfl (by decide +kernel)
set_option maxRecDepth 65536 in
theorem w_c1 : (Jvm.Cond.code ({ cls := "prefixshift/Pattern", name := "of", desc := "([B)Lprefixshift/Pattern;" } : Jvm.MethodName) prog_9_method_2_code (3 : Nat) (Option.some (Jvm.ClassFile.FieldType.object "prefixshift/Pattern"))).before args0 about1 = true := code_word (m := ⟨2, 1⟩) (meth := k2m1) (c := k2c1) (by decide +kernel) rfl rfl rfl (by decide +kernel)
set_option maxRecDepth 65536 in
theorem w_c2 : (Jvm.Cond.code ({ cls := "java/util/Objects", name := "requireNonNull", desc := "(Ljava/lang/Object;Ljava/lang/String;)Ljava/lang/Object;" } : Jvm.MethodName) jdk_31_method_11_code (2 : Nat) (Option.some (Jvm.ClassFile.FieldType.object "java/lang/Object"))).before args0 about1 = true := code_word (m := ⟨9, 1⟩) (meth := k9m1) (c := k9c1) (by decide +kernel) rfl rfl rfl (by decide +kernel)
set_option maxRecDepth 65536 in
theorem w_c3 : (Jvm.Cond.code ({ cls := "prefixshift/Pattern", name := "<init>", desc := "([CZ)V" } : Jvm.MethodName) prog_9_method_1_code (3 : Nat) (Option.none : Option Jvm.ClassFile.FieldType)).before args0 about1 = true := code_word (m := ⟨2, 0⟩) (meth := k2m0) (c := k2c0) (by decide +kernel) rfl rfl rfl (by decide +kernel)
set_option maxRecDepth 65536 in
theorem w_c4 : (Jvm.Cond.code ({ cls := "java/lang/Object", name := "<init>", desc := "()V" } : Jvm.MethodName) object_method_1_code (1 : Nat) (Option.none : Option Jvm.ClassFile.FieldType)).before args0 about1 = true := code_word (m := ⟨0, 0⟩) (meth := k0m0) (c := k0c0) (by decide +kernel) rfl rfl rfl (by decide +kernel)
set_option maxRecDepth 65536 in
theorem w_c5 : (Jvm.Cond.code ({ cls := "prefixshift/Pattern", name := "buildPrefixTable", desc := "([C[I)J" } : Jvm.MethodName) prog_9_method_19_code (6 : Nat) (Option.some Jvm.ClassFile.FieldType.long)).before args0 about1 = true := code_word (m := ⟨2, 5⟩) (meth := k2m5) (c := k2c5) (by decide +kernel) rfl rfl rfl (by decide +kernel)
set_option maxRecDepth 65536 in
theorem w_c6 : (Jvm.Cond.code ({ cls := "prefixshift/Pattern", name := "prefixTable", desc := "()[I" } : Jvm.MethodName) prog_9_method_6_code (1 : Nat) (Option.some (Jvm.ClassFile.FieldType.array Jvm.ClassFile.FieldType.int))).before args0 about1 = true := code_word (m := ⟨2, 4⟩) (meth := k2m4) (c := k2c4) (by decide +kernel) rfl rfl rfl (by decide +kernel)
set_option maxRecDepth 65536 in
theorem w_c7 : (Jvm.Cond.code ({ cls := "prefixshift/Pattern", name := "length", desc := "()I" } : Jvm.MethodName) prog_9_method_4_code (1 : Nat) (Option.some Jvm.ClassFile.FieldType.int)).before args0 about1 = true := code_word (m := ⟨2, 2⟩) (meth := k2m2) (c := k2c2) (by decide +kernel) rfl rfl rfl (by decide +kernel)
set_option maxRecDepth 65536 in
theorem w_c8 : (Jvm.Cond.code ({ cls := "prefixshift/Pattern", name := "tableComparisons", desc := "()J" } : Jvm.MethodName) prog_9_method_5_code (1 : Nat) (Option.some Jvm.ClassFile.FieldType.long)).before args0 about1 = true := code_word (m := ⟨2, 3⟩) (meth := k2m3) (c := k2c3) (by decide +kernel) rfl rfl rfl (by decide +kernel)
set_option maxRecDepth 65536 in
theorem w_c9 : (Jvm.Cond.code ({ cls := "prefixshift/Units$Bytes", name := "unit", desc := "(B)C" } : Jvm.MethodName) prog_13_method_2_code (1 : Nat) (Option.some Jvm.ClassFile.FieldType.char)).before args0 about1 = true := code_word (m := ⟨13, 0⟩) (meth := k13m0) (c := k13c0) (by decide +kernel) rfl rfl rfl (by decide +kernel)
def codes1 : List Jvm.Cond := [Jvm.Cond.code x code maxLocals ret, Jvm.Cond.code ({ cls := "prefixshift/Pattern", name := "of", desc := "([B)Lprefixshift/Pattern;" } : Jvm.MethodName) prog_9_method_2_code (3 : Nat) (Option.some (Jvm.ClassFile.FieldType.object "prefixshift/Pattern")), Jvm.Cond.code ({ cls := "java/util/Objects", name := "requireNonNull", desc := "(Ljava/lang/Object;Ljava/lang/String;)Ljava/lang/Object;" } : Jvm.MethodName) jdk_31_method_11_code (2 : Nat) (Option.some (Jvm.ClassFile.FieldType.object "java/lang/Object")), Jvm.Cond.code ({ cls := "prefixshift/Pattern", name := "<init>", desc := "([CZ)V" } : Jvm.MethodName) prog_9_method_1_code (3 : Nat) (Option.none : Option Jvm.ClassFile.FieldType), Jvm.Cond.code ({ cls := "java/lang/Object", name := "<init>", desc := "()V" } : Jvm.MethodName) object_method_1_code (1 : Nat) (Option.none : Option Jvm.ClassFile.FieldType), Jvm.Cond.code ({ cls := "prefixshift/Pattern", name := "buildPrefixTable", desc := "([C[I)J" } : Jvm.MethodName) prog_9_method_19_code (6 : Nat) (Option.some Jvm.ClassFile.FieldType.long), Jvm.Cond.code ({ cls := "prefixshift/Pattern", name := "prefixTable", desc := "()[I" } : Jvm.MethodName) prog_9_method_6_code (1 : Nat) (Option.some (Jvm.ClassFile.FieldType.array Jvm.ClassFile.FieldType.int)), Jvm.Cond.code ({ cls := "prefixshift/Pattern", name := "length", desc := "()I" } : Jvm.MethodName) prog_9_method_4_code (1 : Nat) (Option.some Jvm.ClassFile.FieldType.int), Jvm.Cond.code ({ cls := "prefixshift/Pattern", name := "tableComparisons", desc := "()J" } : Jvm.MethodName) prog_9_method_5_code (1 : Nat) (Option.some Jvm.ClassFile.FieldType.long), Jvm.Cond.code ({ cls := "prefixshift/Units$Bytes", name := "unit", desc := "(B)C" } : Jvm.MethodName) prog_13_method_2_code (1 : Nat) (Option.some Jvm.ClassFile.FieldType.char)]
set_option maxRecDepth 65536 in
theorem codes_eq : words1.filter isCode = codes1 := rfl
theorem w_codes : ∀ c ∈ words1.filter isCode, c.before args0 about1 = true := by
  rw [codes_eq]
  intro c hc
  simp only [codes1, List.mem_cons, List.not_mem_nil, or_false] at hc
  rcases hc with rfl | rfl | rfl | rfl | rfl | rfl | rfl | rfl | rfl | rfl
  · exact w_c0
  · exact w_c1
  · exact w_c2
  · exact w_c3
  · exact w_c4
  · exact w_c5
  · exact w_c6
  · exact w_c7
  · exact w_c8
  · exact w_c9
set_option maxRecDepth 65536 in
theorem w_t1 : (words1.take 24).all (fun c => isCode c || c.before args0 about1) = true := by decide +kernel
set_option maxRecDepth 65536 in
theorem w_t2 : ((words1.drop 24).take 24).all (fun c => isCode c || c.before args0 about1) = true := by decide +kernel
set_option maxRecDepth 65536 in
theorem w_t3 : ((words1.drop 24).drop 24).all (fun c => isCode c || c.before args0 about1) = true := by decide +kernel
theorem w_tables : (allAtoms (Jvm.Cond.code x code maxLocals ret :: tables_1)).before args0 about1 = true := by
  rw [allAtoms_all]
  show words1.all (fun c => c.before args0 about1) = true
  refine all_split ?_ w_codes
  rw [← List.take_append_drop 24 words1, List.all_append, w_t1, ← List.take_append_drop 24 (words1.drop 24), List.all_append, w_t2, w_t3]
  rfl
set_option maxRecDepth 65536 in
theorem w_case : (Jvm.Cond.and given_1 narrow_1).before args0 about1 = true := by decide +kernel
theorem w_applies : (headSpec (Jvm.Cond.code x code maxLocals ret :: tables_1) room_1).applies x e0.platform about1 = true :=
  (Spec.applies_iff w_frames).mpr ⟨w_running, w_runnable, w_alone, w_named, w_hears, w_ripe, w_room, w_tables⟩
theorem atStart : AtStart classFile x code maxLocals ret World_1 tables_1 room_1 Calls_1 rest_1 Pre_1 launch0 p0 e0 about1 theMethod args0 below0 :=
  ⟨lists_1, trivial, launch0.admits_env _ _ _, launch0.least_env, fairChoices_fair.cas, fairChoices_fair.clock, w_frames, w_args, w_heap, w_applies, trivial, trivial, w_case⟩
end start1
theorem witness_1 : WitnessClaimed_1 := ⟨start1.p0, start1.e0, start1.about1, start1.theMethod, start1.args0, start1.below0, start1.atStart⟩
end Jvm.Pilot.@@N@@
