import JvmDerived
import JvmDerived.Pilot.@@N@@Statement
import JvmDerived.Pilot.@@N@@Code
set_option linter.unusedVariables false
set_option linter.unusedSimpArgs false
@@BLOCK:NumsL.lean.txt@@
namespace Jvm.Pilot.@@N@@
open Jvm Jvm.ClassFile Sem Op Lib Jvm.Free Jvm.Stand Jvm.LawKit Jvm.RoadKit Bundle Jvm.Pilot.@@N@@.Jvm.D
section OwnKit
variable {p : Program} {l : Launch} {e : Env} {R : Room} {s : State} {m : MethodId} {args : Array Value} {below : List Frame} {meth : Method} {c : Code} {T : State} {locs : List Loc} {cells slots : Nat} {Z : State} {h h' : Heap} {a b : Addr} {ty : FieldType} {n sl : Nat} {f : Nat → Value} {v : Value} {ws : List Addr}
theorem own_retI (X : Stand p l e R s m args below meth c T locs cells slots) (hx : p.tables.exec = Jvm.exec) {pc : Nat} {Ls : Array Slot} {z : Int32} {rest : List Value} (hret : meth.sig.returnType = some .int) (hd : decode c.code pc = .ok (.ireturn, 1)) {fs : List Frame}
    (hl : ∀ (f : JFrame) (acts : List Action), f.method = m → f.locked = none → f.entered = [] → (doReturn e (T.setTop f) acts (some (.int z))).1 = T.setFrames fs) : Steps p.tables e below (T.setTop (mkF m pc Ls (.int z :: rest))) (T.setFrames fs) := by
  have hm' : T.vm.method? m = some meth := X.method'
  have hn : narrow .int (.int z) = .int z := rfl
  show Steps p.tables e below (T.setTop { method := m, pc := pc, locals := Ls, stack := _ :: rest, locked := none }) _
  jvm_step X.here [X.here.top, hx, hd, hm', hret, hn]
  first | (intro acts; rw [hl _ acts rfl rfl rfl]) | rw [hl _ _ rfl rfl rfl]
  exact Steps.refl _
theorem own_retA (X : Stand p l e R s m args below meth c T locs cells slots) (hx : p.tables.exec = Jvm.exec) {pc : Nat} {Ls : Array Slot} {w : Addr} {rest : List Value} {t : FieldType} (ht : t.isReference = true) (hret : meth.sig.returnType = some t) (hd : decode c.code pc = .ok (.areturn, 1)) {fs : List Frame}
    (hl : ∀ (f : JFrame) (acts : List Action), f.method = m → f.locked = none → f.entered = [] → (doReturn e (T.setTop f) acts (some (.ref w))).1 = T.setFrames fs) : Steps p.tables e below (T.setTop (mkF m pc Ls (.ref w :: rest))) (T.setFrames fs) := by
  have hm' : T.vm.method? m = some meth := X.method'
  show Steps p.tables e below (T.setTop { method := m, pc := pc, locals := Ls, stack := _ :: rest, locked := none }) _
  jvm_step X.here [X.here.top, hx, hd, hm', hret, ht, Value.isRef]
  first | (intro acts; rw [hl _ acts rfl rfl rfl]) | rw [hl _ _ rfl rfl rfl]
  exact Steps.refl _
theorem own_retL (X : Stand p l e R s m args below meth c T locs cells slots) (hx : p.tables.exec = Jvm.exec) {pc : Nat} {Ls : Array Slot} {w : Int64} {rest : List Value} (hret : meth.sig.returnType = some .long) (hd : decode c.code pc = .ok (.lreturn, 1)) {fs : List Frame}
    (hl : ∀ (f : JFrame) (acts : List Action), f.method = m → f.locked = none → f.entered = [] → (doReturn e (T.setTop f) acts (some (.long w))).1 = T.setFrames fs) : Steps p.tables e below (T.setTop (mkF m pc Ls (.long w :: rest))) (T.setFrames fs) := by
  have hm' : T.vm.method? m = some meth := X.method'
  show Steps p.tables e below (T.setTop { method := m, pc := pc, locals := Ls, stack := _ :: rest, locked := none }) _
  jvm_step X.here [X.here.top, hx, hd, hm', hret]
  first | (intro acts; rw [hl _ acts rfl rfl rfl]) | rw [hl _ _ rfl rfl rfl]
  exact Steps.refl _
/-- an array: its kind, its length, what lies at each place -/
def OwnA (Z : State) (h : Heap) (a : Addr) (ty : FieldType) (n : Nat) (f : Nat → Value) : Prop :=
  ∃ c : Cell, Arr Z h a c ty ∧ c.slots.size = n ∧ (∀ i, i < n → c.slots[i]? = some (f i)) ∧ ∀ i, i < n → fits ty (f i) = true
def own_upd (f : Nat → Value) (j : Nat) (v : Value) : Nat → Value := fun i => if i = j then v else f i
theorem own_at (f : Nat → Value) (j : Nat) (v : Value) : own_upd f j v j = v := if_pos rfl
theorem own_off (f : Nat → Value) {i j : Nat} (v : Value) (q : i ≠ j) : own_upd f j v i = f i := if_neg q
theorem OwnA.lt (F : OwnA Z h a ty n f) : a < h.size := by obtain ⟨c, A, -⟩ := F; exact A.lt
theorem OwnA.ext (F : OwnA Z h a ty n f) (E : Ext h h') : OwnA Z h' a ty n f := by obtain ⟨c, A, r⟩ := F; exact ⟨c, A.ext E, r⟩
theorem OwnA.other (F : OwnA Z h b ty n f) (W : Wr h h' a sl v) (q : b ≠ a) : OwnA Z h' b ty n f := by obtain ⟨c, A, r⟩ := F; exact ⟨c, A.other W q, r⟩
theorem OwnA.keep (F : OwnA Z h a ty n f) (K : Keep h h' ws) (q : a ∉ ws) : OwnA Z h' a ty n f := by obtain ⟨c, A, r⟩ := F; exact ⟨c, ⟨K.2.1 a c A.1 q, A.2⟩, r⟩
theorem OwnA.cast {f' : Nat → Value} (F : OwnA Z h a ty n f) (q : ∀ i, i < n → f i = f' i) : OwnA Z h a ty n f' := by
  obtain ⟨c, A, r1, r2, r3⟩ := F
  exact ⟨c, A, r1, fun i hi => by rw [← q i hi]; exact r2 i hi, fun i hi => by rw [← q i hi]; exact r3 i hi⟩
theorem OwnA.set {k : Nat} (F : OwnA Z h a ty n f) (W : Wr h h' a k v) (hv : fits ty v = true) : OwnA Z h' a ty n (own_upd f k v) := by
  obtain ⟨c, A, r1, r2, r3⟩ := F
  refine ⟨_, A.same W, by rw [sz_set]; exact r1, fun i hi => ?_, fun i hi => ?_⟩
  · by_cases q : i = k
    · subst q
      rw [own_at]
      have : i < c.slots.size := by rw [r1]; exact hi
      simp [Cell.setSlot, this]
    · rw [own_off _ _ q, ← r2 i hi]
      simp only [Cell.setSlot]
      rw [Array.getElem?_setIfInBounds_ne (Ne.symm q)]
  · by_cases q : i = k
    · subst q; rw [own_at]; exact hv
    · rw [own_off _ _ q]; exact r3 i hi
theorem OwnA.new {k : ClassId} {z : Int32} (A : Arr Z h a (newA k ty z) ty) (hz : z.toNatClampNeg = n) : OwnA Z h a ty n (fun _ => defaultValue ty) := by
  refine ⟨_, A, by rw [sz_new]; exact hz, fun i hi => ?_, fun i _ => by cases ty <;> rfl⟩
  subst hz; simp [newA, hi]
theorem own_in {c : Cell} {j : Int32} {k : Nat} (r1 : c.slots.size = n) (hj : ¬ j < 0) (hk : j.toNatClampNeg = k) (hn : k < n) : ¬ (j < 0 ∨ c.slots.size ≤ j.toNatClampNeg) := by
  rintro (q | q)
  · exact hj q
  · omega
theorem own_stB (X : Stand p l e R s m args below meth c T locs cells slots) (hx : p.tables.exec = Jvm.exec) (hZ : Z.Warmed39 s.vm) (eT : T.heap = h) (F : OwnA Z h a .byte n f) {j x : Int32} (k : Nat) (hj : ¬ j < 0) (hk : j.toNatClampNeg = k) (hn : k < n) {g : JFrame} (hg : g.method = m) {rest : List Value} (hs : g.stack = .int x :: .int j :: .ref a :: rest) (hd : decode c.code g.pc = .ok (.bastore, 1)) :
    ∃ T' h', Stand p l e R s m args below meth c T' (locs ++ [⟨a, k⟩]) cells slots ∧ T'.heap = h' ∧ Wr h h' a k (.int x.toInt8.toInt32) ∧ OwnA Z h' a .byte n (own_upd f k (.int x.toInt8.toInt32)) ∧ ∀ target, Steps p.tables e below (T'.setTop { g with pc := g.pc + 1, stack := rest }) target → Steps p.tables e below (T.setTop g) target := by
  obtain ⟨c0, A, r1, r2, r3⟩ := F
  obtain ⟨T', h', X', e', W', st⟩ := stB X hx hZ eT A (own_in r1 hj hk hn) hg hs hd
  subst hk
  exact ⟨T', h', X', e', W', OwnA.set ⟨c0, A, r1, r2, r3⟩ W' (fits_nar_byte _), st⟩
theorem own_stC (X : Stand p l e R s m args below meth c T locs cells slots) (hx : p.tables.exec = Jvm.exec) (hZ : Z.Warmed39 s.vm) (eT : T.heap = h) (F : OwnA Z h a .char n f) {j x : Int32} (k : Nat) (hj : ¬ j < 0) (hk : j.toNatClampNeg = k) (hn : k < n) {g : JFrame} (hg : g.method = m) {rest : List Value} (hs : g.stack = .int x :: .int j :: .ref a :: rest) (hd : decode c.code g.pc = .ok (.castore, 1)) :
    ∃ T' h', Stand p l e R s m args below meth c T' (locs ++ [⟨a, k⟩]) cells slots ∧ T'.heap = h' ∧ Wr h h' a k (.int x.toUInt32.toUInt16.toUInt32.toInt32) ∧ OwnA Z h' a .char n (own_upd f k (.int x.toUInt32.toUInt16.toUInt32.toInt32)) ∧ ∀ target, Steps p.tables e below (T'.setTop { g with pc := g.pc + 1, stack := rest }) target → Steps p.tables e below (T.setTop g) target := by
  obtain ⟨c0, A, r1, r2, r3⟩ := F
  obtain ⟨T', h', X', e', W', st⟩ := stC X hx hZ eT A (own_in r1 hj hk hn) hg hs hd
  subst hk
  exact ⟨T', h', X', e', W', OwnA.set ⟨c0, A, r1, r2, r3⟩ W' (fits_nar_char _), st⟩
theorem own_stJ (X : Stand p l e R s m args below meth c T locs cells slots) (hx : p.tables.exec = Jvm.exec) (hZ : Z.Warmed39 s.vm) (eT : T.heap = h) (F : OwnA Z h a .long n f) {j : Int32} {x : Int64} (k : Nat) (hj : ¬ j < 0) (hk : j.toNatClampNeg = k) (hn : k < n) {g : JFrame} (hg : g.method = m) {rest : List Value} (hs : g.stack = .long x :: .int j :: .ref a :: rest) (hd : decode c.code g.pc = .ok (.lastore, 1)) :
    ∃ T' h', Stand p l e R s m args below meth c T' (locs ++ [⟨a, k⟩]) cells slots ∧ T'.heap = h' ∧ Wr h h' a k (.long x) ∧ OwnA Z h' a .long n (own_upd f k (.long x)) ∧ ∀ target, Steps p.tables e below (T'.setTop { g with pc := g.pc + 1, stack := rest }) target → Steps p.tables e below (T.setTop g) target := by
  obtain ⟨c0, A, r1, r2, r3⟩ := F
  obtain ⟨T', h', X', e', W', st⟩ := stJ X hx hZ eT A (own_in r1 hj hk hn) hg hs hd
  subst hk
  exact ⟨T', h', X', e', W', OwnA.set ⟨c0, A, r1, r2, r3⟩ W' rfl, st⟩
theorem own_stR (X : Stand p l e R s m args below meth c T locs cells slots) (hx : p.tables.exec = Jvm.exec) (hZ : Z.Warmed39 s.vm) (eT : T.heap = h) (F : OwnA Z h a ty n f) (hty : ty.isReference = true) (So : Sto Z h a v) (hv : fits ty v = true) {j : Int32} (k : Nat) (hj : ¬ j < 0) (hk : j.toNatClampNeg = k) (hn : k < n) {g : JFrame} (hg : g.method = m) {rest : List Value} (hs : g.stack = v :: .int j :: .ref a :: rest) (hd : decode c.code g.pc = .ok (.aastore, 1)) :
    ∃ T' h', Stand p l e R s m args below meth c T' (locs ++ [⟨a, k⟩]) cells slots ∧ T'.heap = h' ∧ Wr h h' a k v ∧ OwnA Z h' a ty n (own_upd f k v) ∧ ∀ target, Steps p.tables e below (T'.setTop { g with pc := g.pc + 1, stack := rest }) target → Steps p.tables e below (T.setTop g) target := by
  obtain ⟨c0, A, r1, r2, r3⟩ := F
  obtain ⟨T', h', X', e', W', st⟩ := stR X hx hZ eT A (own_in r1 hj hk hn) hty So hg hs hd
  subst hk
  exact ⟨T', h', X', e', W', OwnA.set ⟨c0, A, r1, r2, r3⟩ W' hv, st⟩
theorem own_ldB (X : Stand p l e R s m args below meth c T locs cells slots) (hx : p.tables.exec = Jvm.exec) (hZ : Z.Warmed39 s.vm) (eT : T.heap = h) (F : OwnA Z h a .byte n f) {j : Int32} (k : Nat) (hj : ¬ j < 0) (hk : j.toNatClampNeg = k) (hn : k < n) (hv : f k = v) {g : JFrame} (hg : g.method = m) {rest : List Value} (hs : g.stack = .int j :: .ref a :: rest) (hd : decode c.code g.pc = .ok (.baload, 1)) :
    ∀ target, Steps p.tables e below (T.setTop { g with pc := g.pc + 1, stack := v :: rest }) target → Steps p.tables e below (T.setTop g) target := by
  obtain ⟨c0, A, r1, r2, r3⟩ := F
  subst hk hv
  exact X.baloadBytes hx (j := j) (by rw [eT]; exact A.1) (State.isArrayOf_alike hZ.alike A.2.1) A.2.2 (own_in r1 hj rfl hn) (r2 _ hn) hg hs hd
theorem own_ldC (X : Stand p l e R s m args below meth c T locs cells slots) (hx : p.tables.exec = Jvm.exec) (hZ : Z.Warmed39 s.vm) (eT : T.heap = h) (F : OwnA Z h a .char n f) {j : Int32} (k : Nat) (hj : ¬ j < 0) (hk : j.toNatClampNeg = k) (hn : k < n) (hv : f k = v) {g : JFrame} (hg : g.method = m) {rest : List Value} (hs : g.stack = .int j :: .ref a :: rest) (hd : decode c.code g.pc = .ok (.caload, 1)) :
    ∀ target, Steps p.tables e below (T.setTop { g with pc := g.pc + 1, stack := v :: rest }) target → Steps p.tables e below (T.setTop g) target := by
  obtain ⟨c0, A, r1, r2, r3⟩ := F
  subst hk hv
  exact X.caload hx (j := j) (by rw [eT]; exact A.1) (State.isArrayOf_alike hZ.alike A.2.1) A.2.2 (own_in r1 hj rfl hn) (r2 _ hn) hg hs hd
theorem own_ldJ (X : Stand p l e R s m args below meth c T locs cells slots) (hx : p.tables.exec = Jvm.exec) (hZ : Z.Warmed39 s.vm) (eT : T.heap = h) (F : OwnA Z h a .long n f) {j : Int32} (k : Nat) (hj : ¬ j < 0) (hk : j.toNatClampNeg = k) (hn : k < n) (hv : f k = v) {g : JFrame} (hg : g.method = m) {rest : List Value} (hs : g.stack = .int j :: .ref a :: rest) (hd : decode c.code g.pc = .ok (.laload, 1)) :
    ∀ target, Steps p.tables e below (T.setTop { g with pc := g.pc + 1, stack := v :: rest }) target → Steps p.tables e below (T.setTop g) target := by
  obtain ⟨c0, A, r1, r2, r3⟩ := F
  subst hk hv
  exact X.laload hx (j := j) (by rw [eT]; exact A.1) (State.isArrayOf_alike hZ.alike A.2.1) A.2.2 (own_in r1 hj rfl hn) (r2 _ hn) hg hs hd
theorem own_ldR (X : Stand p l e R s m args below meth c T locs cells slots) (hx : p.tables.exec = Jvm.exec) (hZ : Z.Warmed39 s.vm) (eT : T.heap = h) (F : OwnA Z h a ty n f) (hty : ty.isReference = true) {j : Int32} (k : Nat) (hj : ¬ j < 0) (hk : j.toNatClampNeg = k) (hn : k < n) (hv : f k = v) {g : JFrame} (hg : g.method = m) {rest : List Value} (hs : g.stack = .int j :: .ref a :: rest) (hd : decode c.code g.pc = .ok (.aaload, 1)) :
    ∀ target, Steps p.tables e below (T.setTop { g with pc := g.pc + 1, stack := v :: rest }) target → Steps p.tables e below (T.setTop g) target := by
  obtain ⟨c0, A, r1, r2, r3⟩ := F
  subst hk hv
  exact X.aaload hx (j := j) (by rw [eT]; exact A.1) (State.isArrayOf_alike hZ.alike A.2.1) hty A.2.2 (own_in r1 hj rfl hn) (r2 _ hn) hg hs hd
theorem own_len (X : Stand p l e R s m args below meth c T locs cells slots) (hx : p.tables.exec = Jvm.exec) (hZ : Z.Warmed39 s.vm) (eT : T.heap = h) (F : OwnA Z h a ty n f) {z : Int32} (hz : n.toInt32 = z) {g : JFrame} (hg : g.method = m) {rest : List Value} (hs : g.stack = .ref a :: rest) (hd : decode c.code g.pc = .ok (.arraylength, 1)) :
    ∀ target, Steps p.tables e below (T.setTop { g with pc := g.pc + 1, stack := .int z :: rest }) target → Steps p.tables e below (T.setTop g) target := by
  obtain ⟨c0, A, r1, r2, r3⟩ := F
  subst hz r1
  exact X.arraylength hx (by rw [eT]; exact A.1) (State.isArrayOf_alike hZ.alike A.2.1) hg hs hd
theorem own_clone (X : Stand p l e R s m args below meth c T locs cells slots) (hx : p.tables.exec = Jvm.exec) (hZ : Z.Warmed39 s.vm) {a0 : Array Value} {own ad : String} {index : Nat} (hown : s.vm.findClass own = some m.cls)
    (w1 : (Jvm.Cond.methodLink own index ⟨ad, "clone", "()Ljava/lang/Object;"⟩).before a0 Z = true) (w2 : (Jvm.Cond.sameMethod ad "java/lang/Object" "clone" "()Ljava/lang/Object;").before a0 Z = true) (w3 : (Jvm.Cond.native ⟨"java/lang/Object", "clone", "()Ljava/lang/Object;"⟩).before a0 Z = true)
    (w4 : (Jvm.Cond.instanceMethod ⟨"java/lang/Object", "clone", "()Ljava/lang/Object;"⟩).before a0 Z = true) (w5 : (Jvm.Cond.selects ad ⟨ad, "clone", "()Ljava/lang/Object;"⟩ ⟨"java/lang/Object", "clone", "()Ljava/lang/Object;"⟩).before a0 Z = true) (w6 : (Jvm.Cond.castable ad "java/lang/Cloneable").before a0 Z = true)
    (eT : T.heap = h) (F : OwnA Z h a ty n f) (E : Exa Z h a ad) {g : JFrame} (hg : g.method = m) (hsize : g.locals.size = c.maxLocals) {rest : List Value} (hs : g.stack = .ref a :: rest) (hd : decode c.code g.pc = .ok (.invokevirtual index, 3))
    (hf : 1 ≤ R.frames) {W cap : Nat} (hW : 2 * g.monitorRoom + (rest.map fun v => v.category).sum ≤ W) (hl : W + 14 ≤ R.locals) (hcap : n ≤ cap) (hc : cells + 1 ≤ R.cells) (hsl : slots + cap ≤ R.slots) :
    ∃ T' h', Stand p l e R s m args below meth c T' locs (cells + 1) (slots + cap) ∧ T'.heap = h' ∧ Ext h h' ∧ OwnA Z h' h.size ty n f ∧ Exa Z h' h.size ad ∧
      ∀ target, Steps p.tables e below (T'.setTop { g with pc := g.pc + 3, stack := .ref h.size :: rest }) target → Steps p.tables e below (T.setTop g) target := by
  obtain ⟨c0, A, r1, r2, r3⟩ := F
  have FC : FitC Z c0 := fitC_of A fun i hi v hv => by
    rw [r1] at hi; rw [r2 i hi] at hv; cases hv; exact r3 i hi
  obtain ⟨T', h', X', e', ex, A', E', st⟩ := cloneA X hx hZ hown w1 w2 w3 w4 w5 w6 eT A E FC hg hsize hs hd hf hW hl (by rw [r1]; exact hcap) hc hsl
  exact ⟨T', h', X', e', ex, ⟨cloneOf c0, A', r1, r2, r3⟩, E', st⟩
theorem own_selP {s : State} {args : Array Value} {y y' : MethodName} (hsel : (Jvm.Cond.selects y.cls y' y').before args s = true) (hc : y'.cls = y.cls) (hpriv : s.PrivateAt y) (hinst : (Jvm.Cond.instanceMethod y).before args s = true) (hy : y.cls ≠ "java/lang/invoke/MethodHandle" ∧ y.cls ≠ "java/lang/invoke/VarHandle") :
    (Jvm.Cond.selects y.cls y y).before args s = true := by
  obtain ⟨c2, r2, m2, a1, a2, q3, a4, kP, hkP, hkPi⟩ := Cond.selects_spec hsel
  have hf := findClass_of_methodNamed q3
  rw [hc] at hf
  exact Stand.selects_self_of_private hf hkP hkPi hpriv hinst hy
theorem own_fcast {C nm d : String} {x y : Int32} (F : Fld Z h a C nm d (.int x)) (q : x = y) : Fld Z h a C nm d (.int y) := q ▸ F
theorem own_ix {j d : Int32} {k i : Nat} (hj : ¬ j < 0) (hk : j.toNatClampNeg = k) (hd : d.toInt = (i : Int)) (hlt : k + i < 2147483648) : ¬ (j + d) < 0 ∧ (j + d).toNatClampNeg = k + i := by
  have e0 : (0 : Int32).toInt = 0 := rfl
  simp only [Int32.lt_iff_toInt_lt, e0, Int32.toNatClampNeg] at hj hk ⊢
  rw [Int32.toInt_add, hd]
  have : (j.toInt + (i : Int)).bmod (2 ^ 32) = j.toInt + (i : Int) := bmod32 (by omega) (by omega)
  rw [this]
  omega
theorem own_mask31 (x : Int32) : 0 ≤ (x &&& (2147483647 : Int32)).toInt := (c_andS x 2147483647).2.2 (by decide)
theorem own_rem {x y : Int32} (hx : 0 ≤ x.toInt) (hy : 0 < y.toInt) : 0 ≤ (x % y).toInt ∧ (x % y).toInt < y.toInt := by
  rw [Int32.toInt_mod]
  exact ⟨Int.tmod_nonneg _ hx, Int.tmod_lt_of_pos _ hy⟩
theorem own_lcEq {x y : Int64} (q : x = y) : lcmpW x y = 0 := by subst q; simp [lcmpW, Int64.lt_irrefl]
theorem own_lcNe {x y : Int64} (q : ¬ x = y) : ¬ lcmpW x y = 0 := by
  by_cases h : x > y
  · rw [lcmpW, if_pos h]; decide
  · rw [lcmpW, if_neg h, if_neg q]; decide
theorem own_lcGt {x y : Int64} (q : y < x) : (0 : Int32) < lcmpW x y := by rw [lcmpW, if_pos q]; decide
theorem own_lcLe {x y : Int64} (q : ¬ y < x) : ¬ (0 : Int32) < lcmpW x y := by
  rw [lcmpW, if_neg q]
  by_cases h : x = y
  · rw [if_pos h]; decide
  · rw [if_neg h]; decide
theorem own_lcLt {x y : Int64} (q : x < y) : lcmpW x y < 0 := by
  rw [lcmpW, if_neg (fun z => Int64.lt_irrefl (Int64.lt_trans z q)), if_neg (fun z => Int64.lt_irrefl (z ▸ q))]; decide
theorem own_lcGe {x y : Int64} (q : ¬ x < y) : ¬ lcmpW x y < 0 := by
  by_cases h : x > y
  · rw [lcmpW, if_pos h]; decide
  · rw [lcmpW, if_neg h, if_pos (Int64.le_antisymm (Int64.not_lt.mp h) (Int64.not_lt.mp q))]; decide
end OwnKit

theorem d1_0 : decode prog_72_method_5_code 0 = .ok (.aload_n 0, 1) := by decide +kernel
theorem d1_1 : decode prog_72_method_5_code 1 = .ok (.iload_n 1, 1) := by decide +kernel
theorem d1_2 : decode prog_72_method_5_code 2 = .ok (.baload, 1) := by decide +kernel
theorem d1_3 : decode prog_72_method_5_code 3 = .ok (.sipush 255, 3) := by decide +kernel
theorem d1_6 : decode prog_72_method_5_code 6 = .ok (.iand, 1) := by decide +kernel
theorem d1_7 : decode prog_72_method_5_code 7 = .ok (.aload_n 0, 1) := by decide +kernel
theorem d1_8 : decode prog_72_method_5_code 8 = .ok (.iload_n 1, 1) := by decide +kernel
theorem d1_9 : decode prog_72_method_5_code 9 = .ok (.iconst 1, 1) := by decide +kernel
theorem d1_10 : decode prog_72_method_5_code 10 = .ok (.iadd, 1) := by decide +kernel
theorem d1_11 : decode prog_72_method_5_code 11 = .ok (.baload, 1) := by decide +kernel
theorem d1_12 : decode prog_72_method_5_code 12 = .ok (.sipush 255, 3) := by decide +kernel
theorem d1_15 : decode prog_72_method_5_code 15 = .ok (.iand, 1) := by decide +kernel
theorem d1_16 : decode prog_72_method_5_code 16 = .ok (.bipush 8, 2) := by decide +kernel
theorem d1_18 : decode prog_72_method_5_code 18 = .ok (.ishl, 1) := by decide +kernel
theorem d1_19 : decode prog_72_method_5_code 19 = .ok (.ior, 1) := by decide +kernel
theorem d1_20 : decode prog_72_method_5_code 20 = .ok (.aload_n 0, 1) := by decide +kernel
theorem d1_21 : decode prog_72_method_5_code 21 = .ok (.iload_n 1, 1) := by decide +kernel
theorem d1_22 : decode prog_72_method_5_code 22 = .ok (.iconst 2, 1) := by decide +kernel
theorem d1_23 : decode prog_72_method_5_code 23 = .ok (.iadd, 1) := by decide +kernel
theorem d1_24 : decode prog_72_method_5_code 24 = .ok (.baload, 1) := by decide +kernel
theorem d1_25 : decode prog_72_method_5_code 25 = .ok (.sipush 255, 3) := by decide +kernel
theorem d1_28 : decode prog_72_method_5_code 28 = .ok (.iand, 1) := by decide +kernel
theorem d1_29 : decode prog_72_method_5_code 29 = .ok (.bipush 16, 2) := by decide +kernel
theorem d1_31 : decode prog_72_method_5_code 31 = .ok (.ishl, 1) := by decide +kernel
theorem d1_32 : decode prog_72_method_5_code 32 = .ok (.ior, 1) := by decide +kernel
theorem d1_33 : decode prog_72_method_5_code 33 = .ok (.aload_n 0, 1) := by decide +kernel
theorem d1_34 : decode prog_72_method_5_code 34 = .ok (.iload_n 1, 1) := by decide +kernel
theorem d1_35 : decode prog_72_method_5_code 35 = .ok (.iconst 3, 1) := by decide +kernel
theorem d1_36 : decode prog_72_method_5_code 36 = .ok (.iadd, 1) := by decide +kernel
theorem d1_37 : decode prog_72_method_5_code 37 = .ok (.baload, 1) := by decide +kernel
theorem d1_38 : decode prog_72_method_5_code 38 = .ok (.bipush 24, 2) := by decide +kernel
theorem d1_40 : decode prog_72_method_5_code 40 = .ok (.ishl, 1) := by decide +kernel
theorem d1_41 : decode prog_72_method_5_code 41 = .ok (.ior, 1) := by decide +kernel
theorem d1_42 : decode prog_72_method_5_code 42 = .ok (.ireturn, 1) := by decide +kernel
theorem own_pn0 : plainName "com/example/cellwright/cellwright/hive/Records" = true := by first | (simp [plainName, overriddenIn]; done) | decide +kernel
theorem own_pn1 : plainName "com/example/cellwright/cellwright/hive/RecordsI32PinLaw" = true := by first | (simp [plainName, overriddenIn]; done) | decide +kernel
theorem own_pd0 : parseMethodDescriptor "([BI)I" = some ⟨[(.array .byte), .int], some .int⟩ := by decide +kernel
def own_i32 (x0 x1 x2 x3 : Int32) : Int32 := ((((x0 &&& (255 : Int32)) ||| ((x1 &&& (255 : Int32)) <<< ((8 : Int32) &&& 31))) ||| ((x2 &&& (255 : Int32)) <<< ((16 : Int32) &&& 31))) ||| (x3 <<< ((24 : Int32) &&& 31)))
def Q1 (x0 x1 x2 x3 : Int32) (h0 : Heap) (n0 : Nat) (v : Option Value) (h : Heap) (L : List Loc) : Prop := v = some (.int (own_i32 x0 x1 x2 x3)) ∧ Fr n0 L ∧ h = h0
set_option maxRecDepth 65536 in
set_option maxHeartbeats 40000000 in
theorem rm1 (l : Launch) (Z : State) (a0 : Array Value) (hw : ∀ d ∈ tables_1, d.before a0 Z = true) (ws : List Jvm.Cond) (a1 : Addr) (p2 : Int32) (k : Nat) (f : Nat → Value) (x0 : Int32) (x1 : Int32) (x2 : Int32) (x3 : Int32) (h0 : Heap) (n0 : Nat) (Z0 : n0 ≤ h0.size) (FA : OwnA Z h0 a1 .byte 8 f) (hj : ¬ p2 < 0) (hk : p2.toNatClampNeg = k) (hk8 : k + 3 < 8) (v0 : f k = .int x0) (v1 : f (k + 1) = .int x1) (v2 : f (k + 2) = .int x2) (v3 : f (k + 3) = .int x3) :
    MetFree l (⟨"com/example/cellwright/cellwright/hive/Records", "i32", "([BI)I"⟩ : MethodName) (head1 (Jvm.Cond.code (⟨"com/example/cellwright/cellwright/hive/Records", "i32", "([BI)I"⟩ : MethodName) prog_72_method_5_code 2 (some .int) :: ws) ({ frames := 0, cells := 0, slots := 0, locals := 0 } : Room)) (fun a U => a = #[(.ref a1), (.int p2)] ∧ Z.Warmed39 U.vm ∧ U.heap = h0) (fun _ _ _ _ _ => True) (fun _ U o U' => ∃ v L, o = .returned v ∧ Q1 x0 x1 x2 x3 h0 n0 v U'.heap L ∧ FrameEnd U o U' L ({ frames := 0, cells := 0, slots := 0, locals := 0 } : Room).cells ({ frames := 0, cells := 0, slots := 0, locals := 0 } : Room).slots) := by
  refine MetFree.of_bodySF (plainFor_of_name own_pn0) hisR ?_
  intro p e s m args below meth c s₁ Bd hml0 hP hK
  obtain ⟨rfl, hZ, hh⟩ := hP
  have hx := Bd.exec
  have hby := Bd.bytes
  have hml : c.maxLocals = 2 := hml0
  have hown : s.vm.findClass "com/example/cellwright/cellwright/hive/Records" = some m.cls := findClass_of_methodNamed Bd.named
  have hnm := (name_of_methodNamed Bd.named Bd.method).1
  have X0 : Stand p l e ({ frames := 0, cells := 0, slots := 0, locals := 0 } : Room) s m #[(.ref a1), (.int p2)] below meth c s₁ [] 0 0 := Stand.of_body Bd
  have e0 : s₁.heap = h0 := by rw [← hh, Bd.state]; rfl
  have N0 := Fr.nil n0
  have ef : entryFrame m #[(.ref a1), (.int p2)] 2 = mkF m 0 #[.val (.ref a1), .val (.int p2)] [] := by first | (simp [entryFrame, mkF, argsToLocals, Value.category]; done) | rfl
  have pre0 : ∀ t, Steps p.tables e below (s₁.setTop (mkF m 0 #[.val (.ref a1), .val (.int p2)] [])) t → Steps p.tables e below (s₁.setTop (entryFrame m #[(.ref a1), (.int p2)] 2)) t := fun t k => castTop ef k
  obtain ⟨fs, hr, hrun, hended, hW, hsame⟩ := X0.leave (v := some (.int ((((x0 &&& (255 : Int32)) ||| ((x1 &&& (255 : Int32)) <<< ((8 : Int32) &&& 31))) ||| ((x2 &&& (255 : Int32)) <<< ((16 : Int32) &&& 31))) ||| (x3 <<< ((24 : Int32) &&& 31))))) (fun h => by rw [Bd.returns] at h; cases h)
  refine ⟨_, _, pre0 _ ?_, hrun, hended, _, _, rfl, ?_, ⟨_, rfl⟩, hW, hsame.mono (by decide) (by decide)⟩
  · show Steps p.tables e below (s₁.setTop (mkF m 0 #[.val (.ref a1), .val (.int p2)] [])) _
    refine XS.aloadN X0.here hx rfl (hb hby d1_0) rfl rfl ?_
    show Steps p.tables e below (s₁.setTop (mkF m 1 #[.val (.ref a1), .val (.int p2)] [(.ref a1)])) _
    refine XS.iloadN X0.here hx rfl (hb hby d1_1) rfl ?_
    show Steps p.tables e below (s₁.setTop (mkF m 2 #[.val (.ref a1), .val (.int p2)] [(.int p2), (.ref a1)])) _
    refine own_ldB X0 hx hZ e0 FA (j := p2) k hj hk (by omega) (v := (.int x0)) v0 (g := (mkF m 2 #[.val (.ref a1), .val (.int p2)] [(.int p2), (.ref a1)])) rfl rfl (hb hby d1_2) _ ?_
    show Steps p.tables e below (s₁.setTop (mkF m 3 #[.val (.ref a1), .val (.int p2)] [(.int x0)])) _
    refine XS.sipush X0.here hx rfl (hb hby d1_3) ?_
    show Steps p.tables e below (s₁.setTop (mkF m 6 #[.val (.ref a1), .val (.int p2)] [(.int (255 : Int32)), (.int x0)])) _
    refine XS.iand X0.here hx rfl (hb hby d1_6) rfl ?_
    show Steps p.tables e below (s₁.setTop (mkF m 7 #[.val (.ref a1), .val (.int p2)] [(.int (x0 &&& (255 : Int32)))])) _
    refine XS.aloadN X0.here hx rfl (hb hby d1_7) rfl rfl ?_
    show Steps p.tables e below (s₁.setTop (mkF m 8 #[.val (.ref a1), .val (.int p2)] [(.ref a1), (.int (x0 &&& (255 : Int32)))])) _
    refine XS.iloadN X0.here hx rfl (hb hby d1_8) rfl ?_
    show Steps p.tables e below (s₁.setTop (mkF m 9 #[.val (.ref a1), .val (.int p2)] [(.int p2), (.ref a1), (.int (x0 &&& (255 : Int32)))])) _
    refine XS.iconst X0.here hx rfl (hb hby d1_9) ?_
    show Steps p.tables e below (s₁.setTop (mkF m 10 #[.val (.ref a1), .val (.int p2)] [(.int (1 : Int32)), (.int p2), (.ref a1), (.int (x0 &&& (255 : Int32)))])) _
    refine XS.iadd X0.here hx rfl (hb hby d1_10) rfl ?_
    show Steps p.tables e below (s₁.setTop (mkF m 11 #[.val (.ref a1), .val (.int p2)] [(.int (p2 + (1 : Int32))), (.ref a1), (.int (x0 &&& (255 : Int32)))])) _
    refine own_ldB X0 hx hZ e0 FA (j := (p2 + (1 : Int32))) (k + 1) (own_ix (d := 1) (i := 1) hj hk rfl (by omega)).1 (own_ix (d := 1) (i := 1) hj hk rfl (by omega)).2 (by omega) (v := (.int x1)) v1 (g := (mkF m 11 #[.val (.ref a1), .val (.int p2)] [(.int (p2 + (1 : Int32))), (.ref a1), (.int (x0 &&& (255 : Int32)))])) rfl rfl (hb hby d1_11) _ ?_
    show Steps p.tables e below (s₁.setTop (mkF m 12 #[.val (.ref a1), .val (.int p2)] [(.int x1), (.int (x0 &&& (255 : Int32)))])) _
    refine XS.sipush X0.here hx rfl (hb hby d1_12) ?_
    show Steps p.tables e below (s₁.setTop (mkF m 15 #[.val (.ref a1), .val (.int p2)] [(.int (255 : Int32)), (.int x1), (.int (x0 &&& (255 : Int32)))])) _
    refine XS.iand X0.here hx rfl (hb hby d1_15) rfl ?_
    show Steps p.tables e below (s₁.setTop (mkF m 16 #[.val (.ref a1), .val (.int p2)] [(.int (x1 &&& (255 : Int32))), (.int (x0 &&& (255 : Int32)))])) _
    refine XS.bipush X0.here hx rfl (hb hby d1_16) ?_
    show Steps p.tables e below (s₁.setTop (mkF m 18 #[.val (.ref a1), .val (.int p2)] [(.int (8 : Int32)), (.int (x1 &&& (255 : Int32))), (.int (x0 &&& (255 : Int32)))])) _
    refine XS.ishl X0.here hx rfl (hb hby d1_18) rfl ?_
    show Steps p.tables e below (s₁.setTop (mkF m 19 #[.val (.ref a1), .val (.int p2)] [(.int ((x1 &&& (255 : Int32)) <<< ((8 : Int32) &&& 31))), (.int (x0 &&& (255 : Int32)))])) _
    refine XS.ior X0.here hx rfl (hb hby d1_19) rfl ?_
    show Steps p.tables e below (s₁.setTop (mkF m 20 #[.val (.ref a1), .val (.int p2)] [(.int ((x0 &&& (255 : Int32)) ||| ((x1 &&& (255 : Int32)) <<< ((8 : Int32) &&& 31))))])) _
    refine XS.aloadN X0.here hx rfl (hb hby d1_20) rfl rfl ?_
    show Steps p.tables e below (s₁.setTop (mkF m 21 #[.val (.ref a1), .val (.int p2)] [(.ref a1), (.int ((x0 &&& (255 : Int32)) ||| ((x1 &&& (255 : Int32)) <<< ((8 : Int32) &&& 31))))])) _
    refine XS.iloadN X0.here hx rfl (hb hby d1_21) rfl ?_
    show Steps p.tables e below (s₁.setTop (mkF m 22 #[.val (.ref a1), .val (.int p2)] [(.int p2), (.ref a1), (.int ((x0 &&& (255 : Int32)) ||| ((x1 &&& (255 : Int32)) <<< ((8 : Int32) &&& 31))))])) _
    refine XS.iconst X0.here hx rfl (hb hby d1_22) ?_
    show Steps p.tables e below (s₁.setTop (mkF m 23 #[.val (.ref a1), .val (.int p2)] [(.int (2 : Int32)), (.int p2), (.ref a1), (.int ((x0 &&& (255 : Int32)) ||| ((x1 &&& (255 : Int32)) <<< ((8 : Int32) &&& 31))))])) _
    refine XS.iadd X0.here hx rfl (hb hby d1_23) rfl ?_
    show Steps p.tables e below (s₁.setTop (mkF m 24 #[.val (.ref a1), .val (.int p2)] [(.int (p2 + (2 : Int32))), (.ref a1), (.int ((x0 &&& (255 : Int32)) ||| ((x1 &&& (255 : Int32)) <<< ((8 : Int32) &&& 31))))])) _
    refine own_ldB X0 hx hZ e0 FA (j := (p2 + (2 : Int32))) (k + 2) (own_ix (d := 2) (i := 2) hj hk rfl (by omega)).1 (own_ix (d := 2) (i := 2) hj hk rfl (by omega)).2 (by omega) (v := (.int x2)) v2 (g := (mkF m 24 #[.val (.ref a1), .val (.int p2)] [(.int (p2 + (2 : Int32))), (.ref a1), (.int ((x0 &&& (255 : Int32)) ||| ((x1 &&& (255 : Int32)) <<< ((8 : Int32) &&& 31))))])) rfl rfl (hb hby d1_24) _ ?_
    show Steps p.tables e below (s₁.setTop (mkF m 25 #[.val (.ref a1), .val (.int p2)] [(.int x2), (.int ((x0 &&& (255 : Int32)) ||| ((x1 &&& (255 : Int32)) <<< ((8 : Int32) &&& 31))))])) _
    refine XS.sipush X0.here hx rfl (hb hby d1_25) ?_
    show Steps p.tables e below (s₁.setTop (mkF m 28 #[.val (.ref a1), .val (.int p2)] [(.int (255 : Int32)), (.int x2), (.int ((x0 &&& (255 : Int32)) ||| ((x1 &&& (255 : Int32)) <<< ((8 : Int32) &&& 31))))])) _
    refine XS.iand X0.here hx rfl (hb hby d1_28) rfl ?_
    show Steps p.tables e below (s₁.setTop (mkF m 29 #[.val (.ref a1), .val (.int p2)] [(.int (x2 &&& (255 : Int32))), (.int ((x0 &&& (255 : Int32)) ||| ((x1 &&& (255 : Int32)) <<< ((8 : Int32) &&& 31))))])) _
    refine XS.bipush X0.here hx rfl (hb hby d1_29) ?_
    show Steps p.tables e below (s₁.setTop (mkF m 31 #[.val (.ref a1), .val (.int p2)] [(.int (16 : Int32)), (.int (x2 &&& (255 : Int32))), (.int ((x0 &&& (255 : Int32)) ||| ((x1 &&& (255 : Int32)) <<< ((8 : Int32) &&& 31))))])) _
    refine XS.ishl X0.here hx rfl (hb hby d1_31) rfl ?_
    show Steps p.tables e below (s₁.setTop (mkF m 32 #[.val (.ref a1), .val (.int p2)] [(.int ((x2 &&& (255 : Int32)) <<< ((16 : Int32) &&& 31))), (.int ((x0 &&& (255 : Int32)) ||| ((x1 &&& (255 : Int32)) <<< ((8 : Int32) &&& 31))))])) _
    refine XS.ior X0.here hx rfl (hb hby d1_32) rfl ?_
    show Steps p.tables e below (s₁.setTop (mkF m 33 #[.val (.ref a1), .val (.int p2)] [(.int (((x0 &&& (255 : Int32)) ||| ((x1 &&& (255 : Int32)) <<< ((8 : Int32) &&& 31))) ||| ((x2 &&& (255 : Int32)) <<< ((16 : Int32) &&& 31))))])) _
    refine XS.aloadN X0.here hx rfl (hb hby d1_33) rfl rfl ?_
    show Steps p.tables e below (s₁.setTop (mkF m 34 #[.val (.ref a1), .val (.int p2)] [(.ref a1), (.int (((x0 &&& (255 : Int32)) ||| ((x1 &&& (255 : Int32)) <<< ((8 : Int32) &&& 31))) ||| ((x2 &&& (255 : Int32)) <<< ((16 : Int32) &&& 31))))])) _
    refine XS.iloadN X0.here hx rfl (hb hby d1_34) rfl ?_
    show Steps p.tables e below (s₁.setTop (mkF m 35 #[.val (.ref a1), .val (.int p2)] [(.int p2), (.ref a1), (.int (((x0 &&& (255 : Int32)) ||| ((x1 &&& (255 : Int32)) <<< ((8 : Int32) &&& 31))) ||| ((x2 &&& (255 : Int32)) <<< ((16 : Int32) &&& 31))))])) _
    refine XS.iconst X0.here hx rfl (hb hby d1_35) ?_
    show Steps p.tables e below (s₁.setTop (mkF m 36 #[.val (.ref a1), .val (.int p2)] [(.int (3 : Int32)), (.int p2), (.ref a1), (.int (((x0 &&& (255 : Int32)) ||| ((x1 &&& (255 : Int32)) <<< ((8 : Int32) &&& 31))) ||| ((x2 &&& (255 : Int32)) <<< ((16 : Int32) &&& 31))))])) _
    refine XS.iadd X0.here hx rfl (hb hby d1_36) rfl ?_
    show Steps p.tables e below (s₁.setTop (mkF m 37 #[.val (.ref a1), .val (.int p2)] [(.int (p2 + (3 : Int32))), (.ref a1), (.int (((x0 &&& (255 : Int32)) ||| ((x1 &&& (255 : Int32)) <<< ((8 : Int32) &&& 31))) ||| ((x2 &&& (255 : Int32)) <<< ((16 : Int32) &&& 31))))])) _
    refine own_ldB X0 hx hZ e0 FA (j := (p2 + (3 : Int32))) (k + 3) (own_ix (d := 3) (i := 3) hj hk rfl (by omega)).1 (own_ix (d := 3) (i := 3) hj hk rfl (by omega)).2 (by omega) (v := (.int x3)) v3 (g := (mkF m 37 #[.val (.ref a1), .val (.int p2)] [(.int (p2 + (3 : Int32))), (.ref a1), (.int (((x0 &&& (255 : Int32)) ||| ((x1 &&& (255 : Int32)) <<< ((8 : Int32) &&& 31))) ||| ((x2 &&& (255 : Int32)) <<< ((16 : Int32) &&& 31))))])) rfl rfl (hb hby d1_37) _ ?_
    show Steps p.tables e below (s₁.setTop (mkF m 38 #[.val (.ref a1), .val (.int p2)] [(.int x3), (.int (((x0 &&& (255 : Int32)) ||| ((x1 &&& (255 : Int32)) <<< ((8 : Int32) &&& 31))) ||| ((x2 &&& (255 : Int32)) <<< ((16 : Int32) &&& 31))))])) _
    refine XS.bipush X0.here hx rfl (hb hby d1_38) ?_
    show Steps p.tables e below (s₁.setTop (mkF m 40 #[.val (.ref a1), .val (.int p2)] [(.int (24 : Int32)), (.int x3), (.int (((x0 &&& (255 : Int32)) ||| ((x1 &&& (255 : Int32)) <<< ((8 : Int32) &&& 31))) ||| ((x2 &&& (255 : Int32)) <<< ((16 : Int32) &&& 31))))])) _
    refine XS.ishl X0.here hx rfl (hb hby d1_40) rfl ?_
    show Steps p.tables e below (s₁.setTop (mkF m 41 #[.val (.ref a1), .val (.int p2)] [(.int (x3 <<< ((24 : Int32) &&& 31))), (.int (((x0 &&& (255 : Int32)) ||| ((x1 &&& (255 : Int32)) <<< ((8 : Int32) &&& 31))) ||| ((x2 &&& (255 : Int32)) <<< ((16 : Int32) &&& 31))))])) _
    refine XS.ior X0.here hx rfl (hb hby d1_41) rfl ?_
    show Steps p.tables e below (s₁.setTop (mkF m 42 #[.val (.ref a1), .val (.int p2)] [(.int ((((x0 &&& (255 : Int32)) ||| ((x1 &&& (255 : Int32)) <<< ((8 : Int32) &&& 31))) ||| ((x2 &&& (255 : Int32)) <<< ((16 : Int32) &&& 31))) ||| (x3 <<< ((24 : Int32) &&& 31))))])) _
    exact own_retI X0 hx Bd.returns (hb hby d1_42) hr
  · show Q1 x0 x1 x2 x3 h0 n0 _ s₁.heap _
    rw [e0]
    exact ⟨rfl, N0, rfl⟩
theorem own_nn (x : Int8) : x.toInt32.toInt8.toInt32 = x.toInt32 := by simp
theorem own_idx {j p : Int32} (h : j = (p &&& (2147483647 : Int32)) % (5 : Int32)) : ¬ j < 0 ∧ ∃ k, j.toNatClampNeg = k ∧ k + 3 < 8 := by
  obtain ⟨h1, h2⟩ := own_rem (y := 5) (own_mask31 p) (by decide)
  rw [← h] at h1 h2
  have e5 : (5 : Int32).toInt = 5 := rfl
  have e0 : (0 : Int32).toInt = 0 := rfl
  refine ⟨by rw [Int32.lt_iff_toInt_lt, e0]; omega, _, rfl, ?_⟩
  simp only [Int32.toNatClampNeg]; omega
theorem own_255 (i : Nat) (hi : i < 32) : (255#32).getLsbD i = decide (i < 8) := by
  rw [show (255#32) = BitVec.ofNat 32 (2 ^ 8 - 1) from rfl, BitVec.getLsbD_ofNat, Nat.testBit_two_pow_sub_one]
  simp [hi]
theorem own_low8 (w : BitVec 32) (i : Nat) (hi : i < 32) : (BitVec.signExtend 32 (BitVec.signExtend 8 w) &&& 255#32).getLsbD i = (decide (i < 8) && w.getLsbD i) := by
  rw [BitVec.signExtend_eq_setWidth_of_le w (by decide), BitVec.getLsbD_and, BitVec.getLsbD_signExtend, own_255 i hi]
  by_cases h : i < 8
  · simp [h, hi]
  · simp [h]
theorem own_bits (w : BitVec 32) : (BitVec.signExtend 32 (BitVec.signExtend 8 w) &&& 255#32) ||| (BitVec.signExtend 32 (BitVec.signExtend 8 (w >>> 8)) &&& 255#32) <<< 8 ||| (BitVec.signExtend 32 (BitVec.signExtend 8 (w >>> 16)) &&& 255#32) <<< 16 ||| (BitVec.signExtend 32 (BitVec.signExtend 8 (w >>> 24))) <<< 24 = w := by
  apply BitVec.eq_of_getLsbD_eq
  intro i hi
  rw [BitVec.signExtend_eq_setWidth_of_le (w >>> 24) (by decide)]
  simp only [BitVec.getLsbD_or, BitVec.getLsbD_shiftLeft, hi, decide_true, Bool.true_and]
  rw [own_low8 w i hi, own_low8 _ (i - 8) (by omega), own_low8 _ (i - 16) (by omega), BitVec.getLsbD_ushiftRight, BitVec.getLsbD_ushiftRight]
  by_cases h1 : i < 8
  · simp [h1, show i < 16 by omega, show i < 24 by omega]
  · by_cases h2 : i < 16
    · simp [h1, h2, show i < 24 by omega, show i - 8 < 8 by omega, show 8 + (i - 8) = i by omega]
    · by_cases h3 : i < 24
      · simp [h1, h2, h3, show ¬ i - 8 < 8 by omega, show i - 16 < 8 by omega, show 16 + (i - 16) = i by omega]
      · rw [BitVec.getLsbD_signExtend, if_pos (show i - 24 < 8 by omega), BitVec.getLsbD_setWidth, BitVec.getLsbD_ushiftRight]
        simp [h1, h2, h3, show ¬ i - 8 < 8 by omega, show ¬ i - 16 < 8 by omega, show i - 24 < 8 by omega, show i - 24 < 32 by omega, show 24 + (i - 24) = i by omega]
theorem own_plain (v : Int32) : own_i32 (v.toInt8.toInt32) (((v.toUInt32 >>> ((8 : Int32) &&& 31).toUInt32).toInt32).toInt8.toInt32) (((v.toUInt32 >>> ((16 : Int32) &&& 31).toUInt32).toInt32).toInt8.toInt32) (((v.toUInt32 >>> ((24 : Int32) &&& 31).toUInt32).toInt32).toInt8.toInt32) = v := by
  unfold own_i32
  apply Int32.toBitVec_inj.mp
  exact own_bits v.toBitVec

def QLaw (n0 : Nat) (v : Option Value) (h : Heap) (L : List Loc) : Prop := v = some (.int 1) ∧ Fr n0 L
set_option maxRecDepth 65536 in
set_option maxHeartbeats 40000000 in
theorem rm0 (l : Launch) (Z : State) (a0 : Array Value) (hw : ∀ d ∈ tables_1, d.before a0 Z = true) (ws : List Jvm.Cond) (p0 : Int32) (p1 : Int32) (q2 : Int64) (h0 : Heap) (n0 : Nat) (Z0 : n0 ≤ h0.size)  :
    MetFree l x (head1 (Jvm.Cond.code x code maxLocals ret :: ws) room_1) (fun a U => a = #[(.int p0), (.int p1), (.long q2)] ∧ Z.Warmed39 U.vm ∧ U.heap = h0) (fun _ _ _ _ _ => True) (fun _ U o U' => ∃ v L, o = .returned v ∧ QLaw n0 v U'.heap L ∧ FrameEnd U o U' L room_1.cells room_1.slots) := by
  refine MetFree.of_bodySF (plainFor_of_name own_pn1) hisR ?_
  intro p e s m args below meth c s₁ Bd hml0 hP hK
  obtain ⟨rfl, hZ, hh⟩ := hP
  have hx := Bd.exec
  have hby := Bd.bytes
  have hml : c.maxLocals = 6 := hml0
  have hown : s.vm.findClass "com/example/cellwright/cellwright/hive/RecordsI32PinLaw" = some m.cls := findClass_of_methodNamed Bd.named
  have hnm := (name_of_methodNamed Bd.named Bd.method).1
  have X0 : Stand p l e room_1 s m #[(.int p0), (.int p1), (.long q2)] below meth c s₁ [] 0 0 := Stand.of_body Bd
  have e0 : s₁.heap = h0 := by rw [← hh, Bd.state]; rfl
  have N0 := Fr.nil n0
  have ef : entryFrame m #[(.int p0), (.int p1), (.long q2)] maxLocals = mkF m 0 #[.val (.int p0), .val (.int p1), .val (.long q2), .second, .unset, .unset] [] := by first | (simp [entryFrame, mkF, argsToLocals, Value.category, maxLocals]; done) | rfl
  have pre0 : ∀ t, Steps p.tables e below (s₁.setTop (mkF m 0 #[.val (.int p0), .val (.int p1), .val (.long q2), .second, .unset, .unset] [])) t → Steps p.tables e below (s₁.setTop (entryFrame m #[(.int p0), (.int p1), (.long q2)] maxLocals)) t := fun t k => castTop ef k
  obtain ⟨j, hv_j⟩ : ∃ z : Int32, z = ((p1 &&& (2147483647 : Int32)) % (5 : Int32)) := ⟨_, rfl⟩
  obtain ⟨hj, k, hk, hk8⟩ := own_idx hv_j
  obtain ⟨T101, h101, k101, X101, e101, E101, A101, Ex101, st101⟩ := newPE X0 hx hZ (aty := .byte) (hw _ (List.mem_of_getElem? (i := 1) rfl)) e0 (g := (mkF m 10 #[.val (.int p0), .val (.int p1), .val (.long q2), .second, .val (.int j), .unset] [(.int (8 : Int32))])) rfl (hb hby at_10) rfl (by decide) (cap := 8) (by decide) (by decide) (by decide) (by decide) (ad := "[B") (by decide)
  obtain ⟨b101, g101⟩ : ∃ z, z = h0.size := ⟨_, rfl⟩
  rw [← g101] at A101 Ex101 st101
  have g_b101 : n0 ≤ b101 := Nat.le_trans Z0 (Nat.le_of_eq g101.symm)
  have sz_b101 : h0.size ≤ b101 := Nat.le_trans (Keep.refl h0 []).1 (Nat.le_of_eq g101.symm)
  have Z101 : n0 ≤ h101.size := Nat.le_trans Z0 E101.1
  have KC101 : Keep h0 h101 [] := (Keep.refl h0 []).ext E101
  have V101 : OwnA Z h101 b101 .byte 8 (fun _ => (.int (0 : Int32))) := OwnA.new A101 rfl
  obtain ⟨T102, h102, X102, e102, W102, V102, st102⟩ := own_stB X101 hx hZ e101 V101 (j := (0 : Int32)) 0 (by decide) rfl (by decide) (g := (mkF m 20 #[.val (.int p0), .val (.int p1), .val (.long q2), .second, .val (.int j), .val (.ref b101)] [(.int ((q2.toInt32).toInt8.toInt32)), (.int (0 : Int32)), (.ref b101)])) rfl rfl (hb hby at_20)
  have Z102 : n0 ≤ h102.size := Nat.le_trans Z101 (Nat.le_of_eq W102.size.symm)
  have KC102 : Keep h0 h102 [] := KC101.wr W102 (Or.inr sz_b101)
  have N102 := Fr.snoc X102 N0 g_b101
  obtain ⟨T103, h103, X103, e103, W103, V103, st103⟩ := own_stB X102 hx hZ e102 V102 (j := (1 : Int32)) 1 (by decide) rfl (by decide) (g := (mkF m 30 #[.val (.int p0), .val (.int p1), .val (.long q2), .second, .val (.int j), .val (.ref b101)] [(.int ((((q2.toUInt64 >>> ((8 : Int32) &&& 0x3f).toInt64.toUInt64).toInt64).toInt32).toInt8.toInt32)), (.int (1 : Int32)), (.ref b101)])) rfl rfl (hb hby at_30)
  have Z103 : n0 ≤ h103.size := Nat.le_trans Z102 (Nat.le_of_eq W103.size.symm)
  have KC103 : Keep h0 h103 [] := KC102.wr W103 (Or.inr sz_b101)
  have N103 := Fr.snoc X103 N102 g_b101
  obtain ⟨T104, h104, X104, e104, W104, V104, st104⟩ := own_stB X103 hx hZ e103 V103 (j := (2 : Int32)) 2 (by decide) rfl (by decide) (g := (mkF m 40 #[.val (.int p0), .val (.int p1), .val (.long q2), .second, .val (.int j), .val (.ref b101)] [(.int ((((q2.toUInt64 >>> ((16 : Int32) &&& 0x3f).toInt64.toUInt64).toInt64).toInt32).toInt8.toInt32)), (.int (2 : Int32)), (.ref b101)])) rfl rfl (hb hby at_40)
  have Z104 : n0 ≤ h104.size := Nat.le_trans Z103 (Nat.le_of_eq W104.size.symm)
  have KC104 : Keep h0 h104 [] := KC103.wr W104 (Or.inr sz_b101)
  have N104 := Fr.snoc X104 N103 g_b101
  obtain ⟨T105, h105, X105, e105, W105, V105, st105⟩ := own_stB X104 hx hZ e104 V104 (j := (3 : Int32)) 3 (by decide) rfl (by decide) (g := (mkF m 50 #[.val (.int p0), .val (.int p1), .val (.long q2), .second, .val (.int j), .val (.ref b101)] [(.int ((((q2.toUInt64 >>> ((24 : Int32) &&& 0x3f).toInt64.toUInt64).toInt64).toInt32).toInt8.toInt32)), (.int (3 : Int32)), (.ref b101)])) rfl rfl (hb hby at_50)
  have Z105 : n0 ≤ h105.size := Nat.le_trans Z104 (Nat.le_of_eq W105.size.symm)
  have KC105 : Keep h0 h105 [] := KC104.wr W105 (Or.inr sz_b101)
  have N105 := Fr.snoc X105 N104 g_b101
  obtain ⟨T106, h106, X106, e106, W106, V106, st106⟩ := own_stB X105 hx hZ e105 V105 (j := (4 : Int32)) 4 (by decide) rfl (by decide) (g := (mkF m 60 #[.val (.int p0), .val (.int p1), .val (.long q2), .second, .val (.int j), .val (.ref b101)] [(.int ((((q2.toUInt64 >>> ((32 : Int32) &&& 0x3f).toInt64.toUInt64).toInt64).toInt32).toInt8.toInt32)), (.int (4 : Int32)), (.ref b101)])) rfl rfl (hb hby at_60)
  have Z106 : n0 ≤ h106.size := Nat.le_trans Z105 (Nat.le_of_eq W106.size.symm)
  have KC106 : Keep h0 h106 [] := KC105.wr W106 (Or.inr sz_b101)
  have N106 := Fr.snoc X106 N105 g_b101
  obtain ⟨T107, h107, X107, e107, W107, V107, st107⟩ := own_stB X106 hx hZ e106 V106 (j := (5 : Int32)) 5 (by decide) rfl (by decide) (g := (mkF m 70 #[.val (.int p0), .val (.int p1), .val (.long q2), .second, .val (.int j), .val (.ref b101)] [(.int ((((q2.toUInt64 >>> ((40 : Int32) &&& 0x3f).toInt64.toUInt64).toInt64).toInt32).toInt8.toInt32)), (.int (5 : Int32)), (.ref b101)])) rfl rfl (hb hby at_70)
  have Z107 : n0 ≤ h107.size := Nat.le_trans Z106 (Nat.le_of_eq W107.size.symm)
  have KC107 : Keep h0 h107 [] := KC106.wr W107 (Or.inr sz_b101)
  have N107 := Fr.snoc X107 N106 g_b101
  obtain ⟨T108, h108, X108, e108, W108, V108, st108⟩ := own_stB X107 hx hZ e107 V107 (j := (6 : Int32)) 6 (by decide) rfl (by decide) (g := (mkF m 81 #[.val (.int p0), .val (.int p1), .val (.long q2), .second, .val (.int j), .val (.ref b101)] [(.int ((((q2.toUInt64 >>> ((48 : Int32) &&& 0x3f).toInt64.toUInt64).toInt64).toInt32).toInt8.toInt32)), (.int (6 : Int32)), (.ref b101)])) rfl rfl (hb hby at_81)
  have Z108 : n0 ≤ h108.size := Nat.le_trans Z107 (Nat.le_of_eq W108.size.symm)
  have KC108 : Keep h0 h108 [] := KC107.wr W108 (Or.inr sz_b101)
  have N108 := Fr.snoc X108 N107 g_b101
  obtain ⟨T109, h109, X109, e109, W109, V109, st109⟩ := own_stB X108 hx hZ e108 V108 (j := (7 : Int32)) 7 (by decide) rfl (by decide) (g := (mkF m 92 #[.val (.int p0), .val (.int p1), .val (.long q2), .second, .val (.int j), .val (.ref b101)] [(.int ((((q2.toUInt64 >>> ((56 : Int32) &&& 0x3f).toInt64.toUInt64).toInt64).toInt32).toInt8.toInt32)), (.int (7 : Int32)), (.ref b101)])) rfl rfl (hb hby at_92)
  have Z109 : n0 ≤ h109.size := Nat.le_trans Z108 (Nat.le_of_eq W109.size.symm)
  have KC109 : Keep h0 h109 [] := KC108.wr W109 (Or.inr sz_b101)
  have N109 := Fr.snoc X109 N108 g_b101
  obtain ⟨T110, h110, X110, e110, W110, V110, st110⟩ := own_stB X109 hx hZ e109 V109 (j := j) k hj hk (by omega) (g := (mkF m 99 #[.val (.int p0), .val (.int p1), .val (.long q2), .second, .val (.int j), .val (.ref b101)] [(.int (p0.toInt8.toInt32)), (.int j), (.ref b101)])) rfl rfl (hb hby at_99)
  have Z110 : n0 ≤ h110.size := Nat.le_trans Z109 (Nat.le_of_eq W110.size.symm)
  have KC110 : Keep h0 h110 [] := KC109.wr W110 (Or.inr sz_b101)
  have N110 := Fr.snoc X110 N109 g_b101
  obtain ⟨T111, h111, X111, e111, W111, V111, st111⟩ := own_stB X110 hx hZ e110 V110 (j := (j + (1 : Int32))) (k + 1) (own_ix (d := 1) (i := 1) hj hk rfl (by omega)).1 (own_ix (d := 1) (i := 1) hj hk rfl (by omega)).2 (by omega) (g := (mkF m 111 #[.val (.int p0), .val (.int p1), .val (.long q2), .second, .val (.int j), .val (.ref b101)] [(.int (((p0.toUInt32 >>> ((8 : Int32) &&& 31).toUInt32).toInt32).toInt8.toInt32)), (.int (j + (1 : Int32))), (.ref b101)])) rfl rfl (hb hby at_111)
  have Z111 : n0 ≤ h111.size := Nat.le_trans Z110 (Nat.le_of_eq W111.size.symm)
  have KC111 : Keep h0 h111 [] := KC110.wr W111 (Or.inr sz_b101)
  have N111 := Fr.snoc X111 N110 g_b101
  obtain ⟨T112, h112, X112, e112, W112, V112, st112⟩ := own_stB X111 hx hZ e111 V111 (j := (j + (2 : Int32))) (k + 2) (own_ix (d := 2) (i := 2) hj hk rfl (by omega)).1 (own_ix (d := 2) (i := 2) hj hk rfl (by omega)).2 (by omega) (g := (mkF m 123 #[.val (.int p0), .val (.int p1), .val (.long q2), .second, .val (.int j), .val (.ref b101)] [(.int (((p0.toUInt32 >>> ((16 : Int32) &&& 31).toUInt32).toInt32).toInt8.toInt32)), (.int (j + (2 : Int32))), (.ref b101)])) rfl rfl (hb hby at_123)
  have Z112 : n0 ≤ h112.size := Nat.le_trans Z111 (Nat.le_of_eq W112.size.symm)
  have KC112 : Keep h0 h112 [] := KC111.wr W112 (Or.inr sz_b101)
  have N112 := Fr.snoc X112 N111 g_b101
  obtain ⟨T113, h113, X113, e113, W113, V113, st113⟩ := own_stB X112 hx hZ e112 V112 (j := (j + (3 : Int32))) (k + 3) (own_ix (d := 3) (i := 3) hj hk rfl (by omega)).1 (own_ix (d := 3) (i := 3) hj hk rfl (by omega)).2 (by omega) (g := (mkF m 135 #[.val (.int p0), .val (.int p1), .val (.long q2), .second, .val (.int j), .val (.ref b101)] [(.int (((p0.toUInt32 >>> ((24 : Int32) &&& 31).toUInt32).toInt32).toInt8.toInt32)), (.int (j + (3 : Int32))), (.ref b101)])) rfl rfl (hb hby at_135)
  have Z113 : n0 ≤ h113.size := Nat.le_trans Z112 (Nat.le_of_eq W113.size.symm)
  have KC113 : Keep h0 h113 [] := KC112.wr W113 (Or.inr sz_b101)
  have N113 := Fr.snoc X113 N112 g_b101
  obtain ⟨_, _, ⟨T114, L114, k114, n114⟩, -, X114, ⟨Lc114, hQ114, l114, y114, z114⟩, st114⟩ := Jvm.LawKit.callS X113 hx (y := (⟨"com/example/cellwright/cellwright/hive/Records", "i32", "([BI)I"⟩ : MethodName)) hown (mvT hZ (hw _ (List.mem_of_getElem? (i := 2) rfl))) (mvT hZ (hw _ (List.mem_of_getElem? (i := 3) rfl))) (mvT hZ (hw _ (List.mem_of_getElem? (i := 4) rfl))) (mvT hZ (hw _ (List.mem_of_getElem? (i := 5) rfl))) (by decide) (backOf (W := 0) (rm1 l Z a0 hw [] b101 j k _ (p0.toInt8.toInt32) (((p0.toUInt32 >>> ((8 : Int32) &&& 31).toUInt32).toInt32).toInt8.toInt32) (((p0.toUInt32 >>> ((16 : Int32) &&& 31).toUInt32).toInt32).toInt8.toInt32) (((p0.toUInt32 >>> ((24 : Int32) &&& 31).toUInt32).toInt32).toInt8.toInt32) h113 n0 Z113 V113 hj hk hk8 ((own_off _ _ (by omega)).trans ((own_off _ _ (by omega)).trans ((own_off _ _ (by omega)).trans ((own_at _ _ _).trans (congrArg Value.int (own_nn _)))))) ((own_off _ _ (by omega)).trans ((own_off _ _ (by omega)).trans ((own_at _ _ _).trans (congrArg Value.int (own_nn _))))) ((own_off _ _ (by omega)).trans ((own_at _ _ _).trans (congrArg Value.int (own_nn _)))) ((own_at _ _ _).trans (congrArg Value.int (own_nn _)))) hZ (hw _ (List.mem_of_getElem? (i := 5) rfl)) (hw _ (List.mem_of_getElem? (i := 4) rfl)) (by decide) (by decide)) (g := (mkF m 140 #[.val (.int p0), .val (.int p1), .val (.long q2), .second, .val (.int j), .val (.ref b101)] [(.int j), (.ref b101)])) rfl (by rw [hml]; rfl) (argsL := [(.ref b101), (.int j)]) (rest := []) (lenOf own_pd0 rfl) rfl (by show 2 * 0 + _ ≤ _; exact Nat.le_of_eq rfl) (hb hby at_140) (fun _ _ => ⟨rfl, e113, (by decide : 1 + 0 ≤ _), (by decide : 8 + 0 ≤ _)⟩)
  dsimp only [Pt.U, Pt.locs, Pt.cells, Pt.slots] at X114 l114 y114 z114 st114 hQ114
  subst l114 y114 z114
  obtain ⟨rfl, Nq114, e114⟩ := hQ114
  have N114 := Fr.app N113 Nq114
  obtain ⟨fs, hr, hrun, hended, hW, hsame⟩ := X114.leave (v := some (.int (1 : Int32))) (fun h => by rw [Bd.returns] at h; cases h)
  refine ⟨_, _, pre0 _ ?_, hrun, hended, _, _, rfl, ?_, ⟨_, rfl⟩, hW, hsame.mono (by decide) (by decide)⟩
  · show Steps p.tables e below (s₁.setTop (mkF m 0 #[.val (.int p0), .val (.int p1), .val (.long q2), .second, .unset, .unset] [])) _
    refine XS.iloadN X0.here hx rfl (hb hby at_0) rfl ?_
    show Steps p.tables e below (s₁.setTop (mkF m 1 #[.val (.int p0), .val (.int p1), .val (.long q2), .second, .unset, .unset] [(.int p1)])) _
    refine X0.ldcInt hx hown (mvT hZ (hw _ (List.mem_of_getElem? (i := 0) rfl))) (g := (mkF m 1 #[.val (.int p0), .val (.int p1), .val (.long q2), .second, .unset, .unset] [(.int p1)])) rfl (hb hby at_1) _ ?_
    show Steps p.tables e below (s₁.setTop (mkF m 3 #[.val (.int p0), .val (.int p1), .val (.long q2), .second, .unset, .unset] [(.int (2147483647 : Int32)), (.int p1)])) _
    refine XS.iand X0.here hx rfl (hb hby at_3) rfl ?_
    show Steps p.tables e below (s₁.setTop (mkF m 4 #[.val (.int p0), .val (.int p1), .val (.long q2), .second, .unset, .unset] [(.int (p1 &&& (2147483647 : Int32)))])) _
    refine XS.iconst X0.here hx rfl (hb hby at_4) ?_
    show Steps p.tables e below (s₁.setTop (mkF m 5 #[.val (.int p0), .val (.int p1), .val (.long q2), .second, .unset, .unset] [(.int (5 : Int32)), (.int (p1 &&& (2147483647 : Int32)))])) _
    refine iremM X0 hx rfl (hb hby at_5) rfl (by decide) ?_
    show Steps p.tables e below (s₁.setTop (mkF m 6 #[.val (.int p0), .val (.int p1), .val (.long q2), .second, .unset, .unset] [(.int ((p1 &&& (2147483647 : Int32)) % (5 : Int32)))])) _
    rw [← hv_j]
    show Steps p.tables e below (s₁.setTop (mkF m 6 #[.val (.int p0), .val (.int p1), .val (.long q2), .second, .unset, .unset] [(.int j)])) _
    refine XS.istore X0.here hx rfl (hb hby at_6) rfl (l' := #[.val (.int p0), .val (.int p1), .val (.long q2), .second, .val (.int j), .unset]) rfl ?_
    show Steps p.tables e below (s₁.setTop (mkF m 8 #[.val (.int p0), .val (.int p1), .val (.long q2), .second, .val (.int j), .unset] [])) _
    refine XS.bipush X0.here hx rfl (hb hby at_8) ?_
    show Steps p.tables e below (s₁.setTop (mkF m 10 #[.val (.int p0), .val (.int p1), .val (.long q2), .second, .val (.int j), .unset] [(.int (8 : Int32))])) _
    refine st101 _ ?_
    show Steps p.tables e below (T101.setTop (mkF m 12 #[.val (.int p0), .val (.int p1), .val (.long q2), .second, .val (.int j), .unset] [(.ref b101)])) _
    refine XS.astore X101.here hx rfl (hb hby at_12) rfl rfl (l' := #[.val (.int p0), .val (.int p1), .val (.long q2), .second, .val (.int j), .val (.ref b101)]) rfl ?_
    show Steps p.tables e below (T101.setTop (mkF m 14 #[.val (.int p0), .val (.int p1), .val (.long q2), .second, .val (.int j), .val (.ref b101)] [])) _
    refine XS.aload X101.here hx rfl (hb hby at_14) rfl rfl ?_
    show Steps p.tables e below (T101.setTop (mkF m 16 #[.val (.int p0), .val (.int p1), .val (.long q2), .second, .val (.int j), .val (.ref b101)] [(.ref b101)])) _
    refine XS.iconst X101.here hx rfl (hb hby at_16) ?_
    show Steps p.tables e below (T101.setTop (mkF m 17 #[.val (.int p0), .val (.int p1), .val (.long q2), .second, .val (.int j), .val (.ref b101)] [(.int (0 : Int32)), (.ref b101)])) _
    refine XS.lloadN X101.here hx rfl (hb hby at_17) rfl ?_
    show Steps p.tables e below (T101.setTop (mkF m 18 #[.val (.int p0), .val (.int p1), .val (.long q2), .second, .val (.int j), .val (.ref b101)] [(.long q2), (.int (0 : Int32)), (.ref b101)])) _
    refine XS.l2i X101.here hx rfl (hb hby at_18) rfl ?_
    show Steps p.tables e below (T101.setTop (mkF m 19 #[.val (.int p0), .val (.int p1), .val (.long q2), .second, .val (.int j), .val (.ref b101)] [(.int (q2.toInt32)), (.int (0 : Int32)), (.ref b101)])) _
    refine XS.i2b X101.here hx rfl (hb hby at_19) rfl ?_
    show Steps p.tables e below (T101.setTop (mkF m 20 #[.val (.int p0), .val (.int p1), .val (.long q2), .second, .val (.int j), .val (.ref b101)] [(.int ((q2.toInt32).toInt8.toInt32)), (.int (0 : Int32)), (.ref b101)])) _
    refine st102 _ ?_
    show Steps p.tables e below (T102.setTop (mkF m 21 #[.val (.int p0), .val (.int p1), .val (.long q2), .second, .val (.int j), .val (.ref b101)] [])) _
    refine XS.aload X102.here hx rfl (hb hby at_21) rfl rfl ?_
    show Steps p.tables e below (T102.setTop (mkF m 23 #[.val (.int p0), .val (.int p1), .val (.long q2), .second, .val (.int j), .val (.ref b101)] [(.ref b101)])) _
    refine XS.iconst X102.here hx rfl (hb hby at_23) ?_
    show Steps p.tables e below (T102.setTop (mkF m 24 #[.val (.int p0), .val (.int p1), .val (.long q2), .second, .val (.int j), .val (.ref b101)] [(.int (1 : Int32)), (.ref b101)])) _
    refine XS.lloadN X102.here hx rfl (hb hby at_24) rfl ?_
    show Steps p.tables e below (T102.setTop (mkF m 25 #[.val (.int p0), .val (.int p1), .val (.long q2), .second, .val (.int j), .val (.ref b101)] [(.long q2), (.int (1 : Int32)), (.ref b101)])) _
    refine XS.bipush X102.here hx rfl (hb hby at_25) ?_
    show Steps p.tables e below (T102.setTop (mkF m 27 #[.val (.int p0), .val (.int p1), .val (.long q2), .second, .val (.int j), .val (.ref b101)] [(.int (8 : Int32)), (.long q2), (.int (1 : Int32)), (.ref b101)])) _
    refine XS.lushr X102.here hx rfl (hb hby at_27) rfl ?_
    show Steps p.tables e below (T102.setTop (mkF m 28 #[.val (.int p0), .val (.int p1), .val (.long q2), .second, .val (.int j), .val (.ref b101)] [(.long ((q2.toUInt64 >>> ((8 : Int32) &&& 0x3f).toInt64.toUInt64).toInt64)), (.int (1 : Int32)), (.ref b101)])) _
    refine XS.l2i X102.here hx rfl (hb hby at_28) rfl ?_
    show Steps p.tables e below (T102.setTop (mkF m 29 #[.val (.int p0), .val (.int p1), .val (.long q2), .second, .val (.int j), .val (.ref b101)] [(.int (((q2.toUInt64 >>> ((8 : Int32) &&& 0x3f).toInt64.toUInt64).toInt64).toInt32)), (.int (1 : Int32)), (.ref b101)])) _
    refine XS.i2b X102.here hx rfl (hb hby at_29) rfl ?_
    show Steps p.tables e below (T102.setTop (mkF m 30 #[.val (.int p0), .val (.int p1), .val (.long q2), .second, .val (.int j), .val (.ref b101)] [(.int ((((q2.toUInt64 >>> ((8 : Int32) &&& 0x3f).toInt64.toUInt64).toInt64).toInt32).toInt8.toInt32)), (.int (1 : Int32)), (.ref b101)])) _
    refine st103 _ ?_
    show Steps p.tables e below (T103.setTop (mkF m 31 #[.val (.int p0), .val (.int p1), .val (.long q2), .second, .val (.int j), .val (.ref b101)] [])) _
    refine XS.aload X103.here hx rfl (hb hby at_31) rfl rfl ?_
    show Steps p.tables e below (T103.setTop (mkF m 33 #[.val (.int p0), .val (.int p1), .val (.long q2), .second, .val (.int j), .val (.ref b101)] [(.ref b101)])) _
    refine XS.iconst X103.here hx rfl (hb hby at_33) ?_
    show Steps p.tables e below (T103.setTop (mkF m 34 #[.val (.int p0), .val (.int p1), .val (.long q2), .second, .val (.int j), .val (.ref b101)] [(.int (2 : Int32)), (.ref b101)])) _
    refine XS.lloadN X103.here hx rfl (hb hby at_34) rfl ?_
    show Steps p.tables e below (T103.setTop (mkF m 35 #[.val (.int p0), .val (.int p1), .val (.long q2), .second, .val (.int j), .val (.ref b101)] [(.long q2), (.int (2 : Int32)), (.ref b101)])) _
    refine XS.bipush X103.here hx rfl (hb hby at_35) ?_
    show Steps p.tables e below (T103.setTop (mkF m 37 #[.val (.int p0), .val (.int p1), .val (.long q2), .second, .val (.int j), .val (.ref b101)] [(.int (16 : Int32)), (.long q2), (.int (2 : Int32)), (.ref b101)])) _
    refine XS.lushr X103.here hx rfl (hb hby at_37) rfl ?_
    show Steps p.tables e below (T103.setTop (mkF m 38 #[.val (.int p0), .val (.int p1), .val (.long q2), .second, .val (.int j), .val (.ref b101)] [(.long ((q2.toUInt64 >>> ((16 : Int32) &&& 0x3f).toInt64.toUInt64).toInt64)), (.int (2 : Int32)), (.ref b101)])) _
    refine XS.l2i X103.here hx rfl (hb hby at_38) rfl ?_
    show Steps p.tables e below (T103.setTop (mkF m 39 #[.val (.int p0), .val (.int p1), .val (.long q2), .second, .val (.int j), .val (.ref b101)] [(.int (((q2.toUInt64 >>> ((16 : Int32) &&& 0x3f).toInt64.toUInt64).toInt64).toInt32)), (.int (2 : Int32)), (.ref b101)])) _
    refine XS.i2b X103.here hx rfl (hb hby at_39) rfl ?_
    show Steps p.tables e below (T103.setTop (mkF m 40 #[.val (.int p0), .val (.int p1), .val (.long q2), .second, .val (.int j), .val (.ref b101)] [(.int ((((q2.toUInt64 >>> ((16 : Int32) &&& 0x3f).toInt64.toUInt64).toInt64).toInt32).toInt8.toInt32)), (.int (2 : Int32)), (.ref b101)])) _
    refine st104 _ ?_
    show Steps p.tables e below (T104.setTop (mkF m 41 #[.val (.int p0), .val (.int p1), .val (.long q2), .second, .val (.int j), .val (.ref b101)] [])) _
    refine XS.aload X104.here hx rfl (hb hby at_41) rfl rfl ?_
    show Steps p.tables e below (T104.setTop (mkF m 43 #[.val (.int p0), .val (.int p1), .val (.long q2), .second, .val (.int j), .val (.ref b101)] [(.ref b101)])) _
    refine XS.iconst X104.here hx rfl (hb hby at_43) ?_
    show Steps p.tables e below (T104.setTop (mkF m 44 #[.val (.int p0), .val (.int p1), .val (.long q2), .second, .val (.int j), .val (.ref b101)] [(.int (3 : Int32)), (.ref b101)])) _
    refine XS.lloadN X104.here hx rfl (hb hby at_44) rfl ?_
    show Steps p.tables e below (T104.setTop (mkF m 45 #[.val (.int p0), .val (.int p1), .val (.long q2), .second, .val (.int j), .val (.ref b101)] [(.long q2), (.int (3 : Int32)), (.ref b101)])) _
    refine XS.bipush X104.here hx rfl (hb hby at_45) ?_
    show Steps p.tables e below (T104.setTop (mkF m 47 #[.val (.int p0), .val (.int p1), .val (.long q2), .second, .val (.int j), .val (.ref b101)] [(.int (24 : Int32)), (.long q2), (.int (3 : Int32)), (.ref b101)])) _
    refine XS.lushr X104.here hx rfl (hb hby at_47) rfl ?_
    show Steps p.tables e below (T104.setTop (mkF m 48 #[.val (.int p0), .val (.int p1), .val (.long q2), .second, .val (.int j), .val (.ref b101)] [(.long ((q2.toUInt64 >>> ((24 : Int32) &&& 0x3f).toInt64.toUInt64).toInt64)), (.int (3 : Int32)), (.ref b101)])) _
    refine XS.l2i X104.here hx rfl (hb hby at_48) rfl ?_
    show Steps p.tables e below (T104.setTop (mkF m 49 #[.val (.int p0), .val (.int p1), .val (.long q2), .second, .val (.int j), .val (.ref b101)] [(.int (((q2.toUInt64 >>> ((24 : Int32) &&& 0x3f).toInt64.toUInt64).toInt64).toInt32)), (.int (3 : Int32)), (.ref b101)])) _
    refine XS.i2b X104.here hx rfl (hb hby at_49) rfl ?_
    show Steps p.tables e below (T104.setTop (mkF m 50 #[.val (.int p0), .val (.int p1), .val (.long q2), .second, .val (.int j), .val (.ref b101)] [(.int ((((q2.toUInt64 >>> ((24 : Int32) &&& 0x3f).toInt64.toUInt64).toInt64).toInt32).toInt8.toInt32)), (.int (3 : Int32)), (.ref b101)])) _
    refine st105 _ ?_
    show Steps p.tables e below (T105.setTop (mkF m 51 #[.val (.int p0), .val (.int p1), .val (.long q2), .second, .val (.int j), .val (.ref b101)] [])) _
    refine XS.aload X105.here hx rfl (hb hby at_51) rfl rfl ?_
    show Steps p.tables e below (T105.setTop (mkF m 53 #[.val (.int p0), .val (.int p1), .val (.long q2), .second, .val (.int j), .val (.ref b101)] [(.ref b101)])) _
    refine XS.iconst X105.here hx rfl (hb hby at_53) ?_
    show Steps p.tables e below (T105.setTop (mkF m 54 #[.val (.int p0), .val (.int p1), .val (.long q2), .second, .val (.int j), .val (.ref b101)] [(.int (4 : Int32)), (.ref b101)])) _
    refine XS.lloadN X105.here hx rfl (hb hby at_54) rfl ?_
    show Steps p.tables e below (T105.setTop (mkF m 55 #[.val (.int p0), .val (.int p1), .val (.long q2), .second, .val (.int j), .val (.ref b101)] [(.long q2), (.int (4 : Int32)), (.ref b101)])) _
    refine XS.bipush X105.here hx rfl (hb hby at_55) ?_
    show Steps p.tables e below (T105.setTop (mkF m 57 #[.val (.int p0), .val (.int p1), .val (.long q2), .second, .val (.int j), .val (.ref b101)] [(.int (32 : Int32)), (.long q2), (.int (4 : Int32)), (.ref b101)])) _
    refine XS.lushr X105.here hx rfl (hb hby at_57) rfl ?_
    show Steps p.tables e below (T105.setTop (mkF m 58 #[.val (.int p0), .val (.int p1), .val (.long q2), .second, .val (.int j), .val (.ref b101)] [(.long ((q2.toUInt64 >>> ((32 : Int32) &&& 0x3f).toInt64.toUInt64).toInt64)), (.int (4 : Int32)), (.ref b101)])) _
    refine XS.l2i X105.here hx rfl (hb hby at_58) rfl ?_
    show Steps p.tables e below (T105.setTop (mkF m 59 #[.val (.int p0), .val (.int p1), .val (.long q2), .second, .val (.int j), .val (.ref b101)] [(.int (((q2.toUInt64 >>> ((32 : Int32) &&& 0x3f).toInt64.toUInt64).toInt64).toInt32)), (.int (4 : Int32)), (.ref b101)])) _
    refine XS.i2b X105.here hx rfl (hb hby at_59) rfl ?_
    show Steps p.tables e below (T105.setTop (mkF m 60 #[.val (.int p0), .val (.int p1), .val (.long q2), .second, .val (.int j), .val (.ref b101)] [(.int ((((q2.toUInt64 >>> ((32 : Int32) &&& 0x3f).toInt64.toUInt64).toInt64).toInt32).toInt8.toInt32)), (.int (4 : Int32)), (.ref b101)])) _
    refine st106 _ ?_
    show Steps p.tables e below (T106.setTop (mkF m 61 #[.val (.int p0), .val (.int p1), .val (.long q2), .second, .val (.int j), .val (.ref b101)] [])) _
    refine XS.aload X106.here hx rfl (hb hby at_61) rfl rfl ?_
    show Steps p.tables e below (T106.setTop (mkF m 63 #[.val (.int p0), .val (.int p1), .val (.long q2), .second, .val (.int j), .val (.ref b101)] [(.ref b101)])) _
    refine XS.iconst X106.here hx rfl (hb hby at_63) ?_
    show Steps p.tables e below (T106.setTop (mkF m 64 #[.val (.int p0), .val (.int p1), .val (.long q2), .second, .val (.int j), .val (.ref b101)] [(.int (5 : Int32)), (.ref b101)])) _
    refine XS.lloadN X106.here hx rfl (hb hby at_64) rfl ?_
    show Steps p.tables e below (T106.setTop (mkF m 65 #[.val (.int p0), .val (.int p1), .val (.long q2), .second, .val (.int j), .val (.ref b101)] [(.long q2), (.int (5 : Int32)), (.ref b101)])) _
    refine XS.bipush X106.here hx rfl (hb hby at_65) ?_
    show Steps p.tables e below (T106.setTop (mkF m 67 #[.val (.int p0), .val (.int p1), .val (.long q2), .second, .val (.int j), .val (.ref b101)] [(.int (40 : Int32)), (.long q2), (.int (5 : Int32)), (.ref b101)])) _
    refine XS.lushr X106.here hx rfl (hb hby at_67) rfl ?_
    show Steps p.tables e below (T106.setTop (mkF m 68 #[.val (.int p0), .val (.int p1), .val (.long q2), .second, .val (.int j), .val (.ref b101)] [(.long ((q2.toUInt64 >>> ((40 : Int32) &&& 0x3f).toInt64.toUInt64).toInt64)), (.int (5 : Int32)), (.ref b101)])) _
    refine XS.l2i X106.here hx rfl (hb hby at_68) rfl ?_
    show Steps p.tables e below (T106.setTop (mkF m 69 #[.val (.int p0), .val (.int p1), .val (.long q2), .second, .val (.int j), .val (.ref b101)] [(.int (((q2.toUInt64 >>> ((40 : Int32) &&& 0x3f).toInt64.toUInt64).toInt64).toInt32)), (.int (5 : Int32)), (.ref b101)])) _
    refine XS.i2b X106.here hx rfl (hb hby at_69) rfl ?_
    show Steps p.tables e below (T106.setTop (mkF m 70 #[.val (.int p0), .val (.int p1), .val (.long q2), .second, .val (.int j), .val (.ref b101)] [(.int ((((q2.toUInt64 >>> ((40 : Int32) &&& 0x3f).toInt64.toUInt64).toInt64).toInt32).toInt8.toInt32)), (.int (5 : Int32)), (.ref b101)])) _
    refine st107 _ ?_
    show Steps p.tables e below (T107.setTop (mkF m 71 #[.val (.int p0), .val (.int p1), .val (.long q2), .second, .val (.int j), .val (.ref b101)] [])) _
    refine XS.aload X107.here hx rfl (hb hby at_71) rfl rfl ?_
    show Steps p.tables e below (T107.setTop (mkF m 73 #[.val (.int p0), .val (.int p1), .val (.long q2), .second, .val (.int j), .val (.ref b101)] [(.ref b101)])) _
    refine XS.bipush X107.here hx rfl (hb hby at_73) ?_
    show Steps p.tables e below (T107.setTop (mkF m 75 #[.val (.int p0), .val (.int p1), .val (.long q2), .second, .val (.int j), .val (.ref b101)] [(.int (6 : Int32)), (.ref b101)])) _
    refine XS.lloadN X107.here hx rfl (hb hby at_75) rfl ?_
    show Steps p.tables e below (T107.setTop (mkF m 76 #[.val (.int p0), .val (.int p1), .val (.long q2), .second, .val (.int j), .val (.ref b101)] [(.long q2), (.int (6 : Int32)), (.ref b101)])) _
    refine XS.bipush X107.here hx rfl (hb hby at_76) ?_
    show Steps p.tables e below (T107.setTop (mkF m 78 #[.val (.int p0), .val (.int p1), .val (.long q2), .second, .val (.int j), .val (.ref b101)] [(.int (48 : Int32)), (.long q2), (.int (6 : Int32)), (.ref b101)])) _
    refine XS.lushr X107.here hx rfl (hb hby at_78) rfl ?_
    show Steps p.tables e below (T107.setTop (mkF m 79 #[.val (.int p0), .val (.int p1), .val (.long q2), .second, .val (.int j), .val (.ref b101)] [(.long ((q2.toUInt64 >>> ((48 : Int32) &&& 0x3f).toInt64.toUInt64).toInt64)), (.int (6 : Int32)), (.ref b101)])) _
    refine XS.l2i X107.here hx rfl (hb hby at_79) rfl ?_
    show Steps p.tables e below (T107.setTop (mkF m 80 #[.val (.int p0), .val (.int p1), .val (.long q2), .second, .val (.int j), .val (.ref b101)] [(.int (((q2.toUInt64 >>> ((48 : Int32) &&& 0x3f).toInt64.toUInt64).toInt64).toInt32)), (.int (6 : Int32)), (.ref b101)])) _
    refine XS.i2b X107.here hx rfl (hb hby at_80) rfl ?_
    show Steps p.tables e below (T107.setTop (mkF m 81 #[.val (.int p0), .val (.int p1), .val (.long q2), .second, .val (.int j), .val (.ref b101)] [(.int ((((q2.toUInt64 >>> ((48 : Int32) &&& 0x3f).toInt64.toUInt64).toInt64).toInt32).toInt8.toInt32)), (.int (6 : Int32)), (.ref b101)])) _
    refine st108 _ ?_
    show Steps p.tables e below (T108.setTop (mkF m 82 #[.val (.int p0), .val (.int p1), .val (.long q2), .second, .val (.int j), .val (.ref b101)] [])) _
    refine XS.aload X108.here hx rfl (hb hby at_82) rfl rfl ?_
    show Steps p.tables e below (T108.setTop (mkF m 84 #[.val (.int p0), .val (.int p1), .val (.long q2), .second, .val (.int j), .val (.ref b101)] [(.ref b101)])) _
    refine XS.bipush X108.here hx rfl (hb hby at_84) ?_
    show Steps p.tables e below (T108.setTop (mkF m 86 #[.val (.int p0), .val (.int p1), .val (.long q2), .second, .val (.int j), .val (.ref b101)] [(.int (7 : Int32)), (.ref b101)])) _
    refine XS.lloadN X108.here hx rfl (hb hby at_86) rfl ?_
    show Steps p.tables e below (T108.setTop (mkF m 87 #[.val (.int p0), .val (.int p1), .val (.long q2), .second, .val (.int j), .val (.ref b101)] [(.long q2), (.int (7 : Int32)), (.ref b101)])) _
    refine XS.bipush X108.here hx rfl (hb hby at_87) ?_
    show Steps p.tables e below (T108.setTop (mkF m 89 #[.val (.int p0), .val (.int p1), .val (.long q2), .second, .val (.int j), .val (.ref b101)] [(.int (56 : Int32)), (.long q2), (.int (7 : Int32)), (.ref b101)])) _
    refine XS.lushr X108.here hx rfl (hb hby at_89) rfl ?_
    show Steps p.tables e below (T108.setTop (mkF m 90 #[.val (.int p0), .val (.int p1), .val (.long q2), .second, .val (.int j), .val (.ref b101)] [(.long ((q2.toUInt64 >>> ((56 : Int32) &&& 0x3f).toInt64.toUInt64).toInt64)), (.int (7 : Int32)), (.ref b101)])) _
    refine XS.l2i X108.here hx rfl (hb hby at_90) rfl ?_
    show Steps p.tables e below (T108.setTop (mkF m 91 #[.val (.int p0), .val (.int p1), .val (.long q2), .second, .val (.int j), .val (.ref b101)] [(.int (((q2.toUInt64 >>> ((56 : Int32) &&& 0x3f).toInt64.toUInt64).toInt64).toInt32)), (.int (7 : Int32)), (.ref b101)])) _
    refine XS.i2b X108.here hx rfl (hb hby at_91) rfl ?_
    show Steps p.tables e below (T108.setTop (mkF m 92 #[.val (.int p0), .val (.int p1), .val (.long q2), .second, .val (.int j), .val (.ref b101)] [(.int ((((q2.toUInt64 >>> ((56 : Int32) &&& 0x3f).toInt64.toUInt64).toInt64).toInt32).toInt8.toInt32)), (.int (7 : Int32)), (.ref b101)])) _
    refine st109 _ ?_
    show Steps p.tables e below (T109.setTop (mkF m 93 #[.val (.int p0), .val (.int p1), .val (.long q2), .second, .val (.int j), .val (.ref b101)] [])) _
    refine XS.aload X109.here hx rfl (hb hby at_93) rfl rfl ?_
    show Steps p.tables e below (T109.setTop (mkF m 95 #[.val (.int p0), .val (.int p1), .val (.long q2), .second, .val (.int j), .val (.ref b101)] [(.ref b101)])) _
    refine XS.iload X109.here hx rfl (hb hby at_95) rfl ?_
    show Steps p.tables e below (T109.setTop (mkF m 97 #[.val (.int p0), .val (.int p1), .val (.long q2), .second, .val (.int j), .val (.ref b101)] [(.int j), (.ref b101)])) _
    refine XS.iloadN X109.here hx rfl (hb hby at_97) rfl ?_
    show Steps p.tables e below (T109.setTop (mkF m 98 #[.val (.int p0), .val (.int p1), .val (.long q2), .second, .val (.int j), .val (.ref b101)] [(.int p0), (.int j), (.ref b101)])) _
    refine XS.i2b X109.here hx rfl (hb hby at_98) rfl ?_
    show Steps p.tables e below (T109.setTop (mkF m 99 #[.val (.int p0), .val (.int p1), .val (.long q2), .second, .val (.int j), .val (.ref b101)] [(.int (p0.toInt8.toInt32)), (.int j), (.ref b101)])) _
    refine st110 _ ?_
    show Steps p.tables e below (T110.setTop (mkF m 100 #[.val (.int p0), .val (.int p1), .val (.long q2), .second, .val (.int j), .val (.ref b101)] [])) _
    refine XS.aload X110.here hx rfl (hb hby at_100) rfl rfl ?_
    show Steps p.tables e below (T110.setTop (mkF m 102 #[.val (.int p0), .val (.int p1), .val (.long q2), .second, .val (.int j), .val (.ref b101)] [(.ref b101)])) _
    refine XS.iload X110.here hx rfl (hb hby at_102) rfl ?_
    show Steps p.tables e below (T110.setTop (mkF m 104 #[.val (.int p0), .val (.int p1), .val (.long q2), .second, .val (.int j), .val (.ref b101)] [(.int j), (.ref b101)])) _
    refine XS.iconst X110.here hx rfl (hb hby at_104) ?_
    show Steps p.tables e below (T110.setTop (mkF m 105 #[.val (.int p0), .val (.int p1), .val (.long q2), .second, .val (.int j), .val (.ref b101)] [(.int (1 : Int32)), (.int j), (.ref b101)])) _
    refine XS.iadd X110.here hx rfl (hb hby at_105) rfl ?_
    show Steps p.tables e below (T110.setTop (mkF m 106 #[.val (.int p0), .val (.int p1), .val (.long q2), .second, .val (.int j), .val (.ref b101)] [(.int (j + (1 : Int32))), (.ref b101)])) _
    refine XS.iloadN X110.here hx rfl (hb hby at_106) rfl ?_
    show Steps p.tables e below (T110.setTop (mkF m 107 #[.val (.int p0), .val (.int p1), .val (.long q2), .second, .val (.int j), .val (.ref b101)] [(.int p0), (.int (j + (1 : Int32))), (.ref b101)])) _
    refine XS.bipush X110.here hx rfl (hb hby at_107) ?_
    show Steps p.tables e below (T110.setTop (mkF m 109 #[.val (.int p0), .val (.int p1), .val (.long q2), .second, .val (.int j), .val (.ref b101)] [(.int (8 : Int32)), (.int p0), (.int (j + (1 : Int32))), (.ref b101)])) _
    refine XS.iushr X110.here hx rfl (hb hby at_109) rfl ?_
    show Steps p.tables e below (T110.setTop (mkF m 110 #[.val (.int p0), .val (.int p1), .val (.long q2), .second, .val (.int j), .val (.ref b101)] [(.int ((p0.toUInt32 >>> ((8 : Int32) &&& 31).toUInt32).toInt32)), (.int (j + (1 : Int32))), (.ref b101)])) _
    refine XS.i2b X110.here hx rfl (hb hby at_110) rfl ?_
    show Steps p.tables e below (T110.setTop (mkF m 111 #[.val (.int p0), .val (.int p1), .val (.long q2), .second, .val (.int j), .val (.ref b101)] [(.int (((p0.toUInt32 >>> ((8 : Int32) &&& 31).toUInt32).toInt32).toInt8.toInt32)), (.int (j + (1 : Int32))), (.ref b101)])) _
    refine st111 _ ?_
    show Steps p.tables e below (T111.setTop (mkF m 112 #[.val (.int p0), .val (.int p1), .val (.long q2), .second, .val (.int j), .val (.ref b101)] [])) _
    refine XS.aload X111.here hx rfl (hb hby at_112) rfl rfl ?_
    show Steps p.tables e below (T111.setTop (mkF m 114 #[.val (.int p0), .val (.int p1), .val (.long q2), .second, .val (.int j), .val (.ref b101)] [(.ref b101)])) _
    refine XS.iload X111.here hx rfl (hb hby at_114) rfl ?_
    show Steps p.tables e below (T111.setTop (mkF m 116 #[.val (.int p0), .val (.int p1), .val (.long q2), .second, .val (.int j), .val (.ref b101)] [(.int j), (.ref b101)])) _
    refine XS.iconst X111.here hx rfl (hb hby at_116) ?_
    show Steps p.tables e below (T111.setTop (mkF m 117 #[.val (.int p0), .val (.int p1), .val (.long q2), .second, .val (.int j), .val (.ref b101)] [(.int (2 : Int32)), (.int j), (.ref b101)])) _
    refine XS.iadd X111.here hx rfl (hb hby at_117) rfl ?_
    show Steps p.tables e below (T111.setTop (mkF m 118 #[.val (.int p0), .val (.int p1), .val (.long q2), .second, .val (.int j), .val (.ref b101)] [(.int (j + (2 : Int32))), (.ref b101)])) _
    refine XS.iloadN X111.here hx rfl (hb hby at_118) rfl ?_
    show Steps p.tables e below (T111.setTop (mkF m 119 #[.val (.int p0), .val (.int p1), .val (.long q2), .second, .val (.int j), .val (.ref b101)] [(.int p0), (.int (j + (2 : Int32))), (.ref b101)])) _
    refine XS.bipush X111.here hx rfl (hb hby at_119) ?_
    show Steps p.tables e below (T111.setTop (mkF m 121 #[.val (.int p0), .val (.int p1), .val (.long q2), .second, .val (.int j), .val (.ref b101)] [(.int (16 : Int32)), (.int p0), (.int (j + (2 : Int32))), (.ref b101)])) _
    refine XS.iushr X111.here hx rfl (hb hby at_121) rfl ?_
    show Steps p.tables e below (T111.setTop (mkF m 122 #[.val (.int p0), .val (.int p1), .val (.long q2), .second, .val (.int j), .val (.ref b101)] [(.int ((p0.toUInt32 >>> ((16 : Int32) &&& 31).toUInt32).toInt32)), (.int (j + (2 : Int32))), (.ref b101)])) _
    refine XS.i2b X111.here hx rfl (hb hby at_122) rfl ?_
    show Steps p.tables e below (T111.setTop (mkF m 123 #[.val (.int p0), .val (.int p1), .val (.long q2), .second, .val (.int j), .val (.ref b101)] [(.int (((p0.toUInt32 >>> ((16 : Int32) &&& 31).toUInt32).toInt32).toInt8.toInt32)), (.int (j + (2 : Int32))), (.ref b101)])) _
    refine st112 _ ?_
    show Steps p.tables e below (T112.setTop (mkF m 124 #[.val (.int p0), .val (.int p1), .val (.long q2), .second, .val (.int j), .val (.ref b101)] [])) _
    refine XS.aload X112.here hx rfl (hb hby at_124) rfl rfl ?_
    show Steps p.tables e below (T112.setTop (mkF m 126 #[.val (.int p0), .val (.int p1), .val (.long q2), .second, .val (.int j), .val (.ref b101)] [(.ref b101)])) _
    refine XS.iload X112.here hx rfl (hb hby at_126) rfl ?_
    show Steps p.tables e below (T112.setTop (mkF m 128 #[.val (.int p0), .val (.int p1), .val (.long q2), .second, .val (.int j), .val (.ref b101)] [(.int j), (.ref b101)])) _
    refine XS.iconst X112.here hx rfl (hb hby at_128) ?_
    show Steps p.tables e below (T112.setTop (mkF m 129 #[.val (.int p0), .val (.int p1), .val (.long q2), .second, .val (.int j), .val (.ref b101)] [(.int (3 : Int32)), (.int j), (.ref b101)])) _
    refine XS.iadd X112.here hx rfl (hb hby at_129) rfl ?_
    show Steps p.tables e below (T112.setTop (mkF m 130 #[.val (.int p0), .val (.int p1), .val (.long q2), .second, .val (.int j), .val (.ref b101)] [(.int (j + (3 : Int32))), (.ref b101)])) _
    refine XS.iloadN X112.here hx rfl (hb hby at_130) rfl ?_
    show Steps p.tables e below (T112.setTop (mkF m 131 #[.val (.int p0), .val (.int p1), .val (.long q2), .second, .val (.int j), .val (.ref b101)] [(.int p0), (.int (j + (3 : Int32))), (.ref b101)])) _
    refine XS.bipush X112.here hx rfl (hb hby at_131) ?_
    show Steps p.tables e below (T112.setTop (mkF m 133 #[.val (.int p0), .val (.int p1), .val (.long q2), .second, .val (.int j), .val (.ref b101)] [(.int (24 : Int32)), (.int p0), (.int (j + (3 : Int32))), (.ref b101)])) _
    refine XS.iushr X112.here hx rfl (hb hby at_133) rfl ?_
    show Steps p.tables e below (T112.setTop (mkF m 134 #[.val (.int p0), .val (.int p1), .val (.long q2), .second, .val (.int j), .val (.ref b101)] [(.int ((p0.toUInt32 >>> ((24 : Int32) &&& 31).toUInt32).toInt32)), (.int (j + (3 : Int32))), (.ref b101)])) _
    refine XS.i2b X112.here hx rfl (hb hby at_134) rfl ?_
    show Steps p.tables e below (T112.setTop (mkF m 135 #[.val (.int p0), .val (.int p1), .val (.long q2), .second, .val (.int j), .val (.ref b101)] [(.int (((p0.toUInt32 >>> ((24 : Int32) &&& 31).toUInt32).toInt32).toInt8.toInt32)), (.int (j + (3 : Int32))), (.ref b101)])) _
    refine st113 _ ?_
    show Steps p.tables e below (T113.setTop (mkF m 136 #[.val (.int p0), .val (.int p1), .val (.long q2), .second, .val (.int j), .val (.ref b101)] [])) _
    refine XS.aload X113.here hx rfl (hb hby at_136) rfl rfl ?_
    show Steps p.tables e below (T113.setTop (mkF m 138 #[.val (.int p0), .val (.int p1), .val (.long q2), .second, .val (.int j), .val (.ref b101)] [(.ref b101)])) _
    refine XS.iload X113.here hx rfl (hb hby at_138) rfl ?_
    show Steps p.tables e below (T113.setTop (mkF m 140 #[.val (.int p0), .val (.int p1), .val (.long q2), .second, .val (.int j), .val (.ref b101)] [(.int j), (.ref b101)])) _
    refine st114 _ ?_
    show Steps p.tables e below (T114.setTop (mkF m 143 #[.val (.int p0), .val (.int p1), .val (.long q2), .second, .val (.int j), .val (.ref b101)] [(.int (own_i32 (p0.toInt8.toInt32) (((p0.toUInt32 >>> ((8 : Int32) &&& 31).toUInt32).toInt32).toInt8.toInt32) (((p0.toUInt32 >>> ((16 : Int32) &&& 31).toUInt32).toInt32).toInt8.toInt32) (((p0.toUInt32 >>> ((24 : Int32) &&& 31).toUInt32).toInt32).toInt8.toInt32)))])) _
    refine XS.iloadN X114.here hx rfl (hb hby at_143) rfl ?_
    show Steps p.tables e below (T114.setTop (mkF m 144 #[.val (.int p0), .val (.int p1), .val (.long q2), .second, .val (.int j), .val (.ref b101)] [(.int p0), (.int (own_i32 (p0.toInt8.toInt32) (((p0.toUInt32 >>> ((8 : Int32) &&& 31).toUInt32).toInt32).toInt8.toInt32) (((p0.toUInt32 >>> ((16 : Int32) &&& 31).toUInt32).toInt32).toInt8.toInt32) (((p0.toUInt32 >>> ((24 : Int32) &&& 31).toUInt32).toInt32).toInt8.toInt32)))])) _
    refine XS.icmpNo X114.here hx rfl (hb hby at_144) rfl (teq (own_plain p0)).2 ?_
    show Steps p.tables e below (T114.setTop (mkF m 147 #[.val (.int p0), .val (.int p1), .val (.long q2), .second, .val (.int j), .val (.ref b101)] [])) _
    refine XS.iconst X114.here hx rfl (hb hby at_147) ?_
    show Steps p.tables e below (T114.setTop (mkF m 148 #[.val (.int p0), .val (.int p1), .val (.long q2), .second, .val (.int j), .val (.ref b101)] [(.int (1 : Int32))])) _
    refine XS.goto X114.here hx rfl (pc0 := 148) (pc' := 152) rfl (hb hby at_148) (by decide) (by decide) ?_
    show Steps p.tables e below (T114.setTop (mkF m 152 #[.val (.int p0), .val (.int p1), .val (.long q2), .second, .val (.int j), .val (.ref b101)] [(.int (1 : Int32))])) _
    exact retN X114 hx (t := .boolean) Bd.returns (by simp) (hb hby at_152) hr
  · show QLaw n0 _ T114.heap _
    rw [e114]
    exact ⟨rfl, N114⟩
set_option maxRecDepth 65536 in
set_option maxHeartbeats 40000000 in
theorem comes_1 {Post : Tables → Env → Array Value → State → Outcome → State → Prop} (hpost : ∀ tb e args s v u, (limb_1_1.after args s (.returned v) u = true ∧ limb_1_2.after args s (.returned v) u = true ∧ True) → FrameEnd s (.returned v) u (Jvm.fieldLocs frame_1_writes args s ++ Jvm.arrayLocs frame_1_arrays args s ++ Jvm.staticLocs frame_1_statics s) 16 128 → Post tb e args s (.returned v) u) :
    ArmFor flags0 classFile x code maxLocals ret World_1 tables_1 room_1 Calls_1 rest_1 Pre_1 Post := by
  intro l hfl _ _ p e ha hc hk s m args below hf hA hF happ hP
  obtain ⟨hcalls, hrest, hpre⟩ := hP
  obtain ⟨-, -, -, hnamed, -, -, -, hat⟩ := (Spec.applies_iff hf).mp happ
  obtain ⟨hg, hn⟩ := and_e (Cond.before_iff.mp (show (Jvm.Cond.and given_1 narrow_1).before args s = true from hpre))
  obtain ⟨hcnt, hg0⟩ := and_e hg
  obtain ⟨ha0, hg1⟩ := and_e hg0
  obtain ⟨ha1, hg2⟩ := and_e hg1
  have ha2 := hg2
  obtain ⟨w0, w1, w2, rfl⟩ : ∃ w0 w1 w2 : Value, args = #[w0, w1, w2] := by
    have hs : args.size = 3 := by simpa [Cond.value, given_1] using hcnt
    obtain ⟨L⟩ := args
    match L, hs with
    | [w0, w1, w2], _ => exact ⟨w0, w1, w2, rfl⟩
  have hw := fun d (hd : d ∈ tables_1) => atoms_spec (ws := Jvm.Cond.code x code maxLocals ret :: tables_1) hat d (List.mem_cons_of_mem _ hd)
  have hfit : Fit s := fun {y c} hc i hi => by
    obtain ⟨ha, rfl⟩ := Array.getElem?_eq_some_iff.mp hc
    have q := List.all_eq_true.mp ((Array.all_eq_true_iff_forall_mem.mp hF) _ (Array.getElem_mem ha)) i (List.mem_range.mpr hi)
    simpa [Array.getElem?_eq_getElem hi] using q
  obtain ⟨i0, ei0⟩ := is_v ha0
  obtain rfl : w0 = (.int i0) := Option.some.inj ei0
  obtain ⟨i1, ei1⟩ := is_v ha1
  obtain rfl : w1 = (.int i1) := Option.some.inj ei1
  obtain ⟨i2, ei2⟩ := isL_v ha2
  obtain rfl : w2 = (.long i2) := Option.some.inj ei2
  obtain ⟨n, o, h1, h2, h3, _, L, rfl, ⟨rfl, N⟩, hq⟩ := rm0 l s _ hw tables_1 i0 i1 i2 s.heap s.heap.size (Nat.le_refl _)  p e ha hc hk s m _ below hf ((Spec.applies_iff_loose hf).mp happ).1 ⟨rfl, State.Warmed39.refl s, rfl⟩ trivial
  refine ⟨n, _, h1, h2, h3, hpost _ _ _ _ _ _ ⟨Cond.after_iff.mpr rfl, Cond.after_iff.mpr (eq_i res_at (Term.int_eval (1)) rfl), trivial⟩ ⟨hq.1, hq.2.1, (hq.2.2.sift fun y hy => Or.inr (N y hy)).mono (by decide) (by decide)⟩⟩
theorem main_1_1 : Claimed_1_1 := comes_1 fun _ _ _ _ _ _ h hF => ⟨h.1, hF⟩
theorem main_1_2 : Claimed_1_2 := comes_1 fun _ _ _ _ _ _ h hF => ⟨h.2.1, hF⟩
end Jvm.Pilot.@@N@@
namespace Jvm.Pilot.@@N@@
open Jvm Jvm.ClassFile Sem Op Lib Jvm.Free Jvm.Stand Jvm.Pilot.@@N@@.Jvm.D
/-! MADE BY PROGRAM (witnessworld.py) out of the Statement's table words and the real class files: 9 classes; the members and pool entries that the words name. The judged class is class 1, her method 1. -/
namespace start1
open Jvm.ClassFile
def u (s : String) : CpInfo := .utf8 (stringToUtf16 s)
/-- a pool by its gaps: so many unusable entries, then the entry; so many at the end -/
def gap : Nat → List CpInfo → List CpInfo
  | 0, r => r
  | n + 1, r => .unusable :: gap n r
def poolList (es : List (Nat × CpInfo)) (last : Nat) : List CpInfo := es.foldr (fun e r => gap e.1 (e.2 :: r)) (gap last [])
def pool (es : List (Nat × CpInfo)) (last : Nat) : Array CpInfo := ⟨poolList es last⟩
def fileOf (pool : Array CpInfo) (this : Nat) (attrs : Array Attribute := #[]) (ms : Array MethodInfo := #[]) (fl : Nat := 33) (sup : Nat := 0) (ifs : Array Nat := #[]) (fds : Array FieldInfo := #[]) : ClassFile where
  minorVersion := 0
  majorVersion := 65
  constantPool := pool
  accessFlags := fl
  thisClass := this
  superClass := sup
  interfaces := ifs
  fields := fds
  methods := ms
  attributes := attrs
def plain (name : String) (sup : Option ClassId) : Class where
  name := name
  kind := .ordinary
  loader := none
  accessFlags := 33
  super := sup
  interfaces := #[]
  cf := none
  fields := #[]
  methods := #[]
  instanceTypes := #[]
  staticTypes := #[]
  resolved := #[]
  callSites := []
  init := .initialized
  statics := none
  mirror := none

def pool0 : Array CpInfo := pool [(5, u "<init>"), (0, u "()V"), (1, .class_ 10), (1, u "java/lang/Object")] 113

def k0m0 : Method := { name := "<init>", desc := "()V", sig := { parameters := [], returnType := none }, accessFlags := 1, code := none }
/-- java/lang/Object -/
def k0 : Class := { plain "java/lang/Object" none with
  accessFlags := 33
  interfaces := #[]
  cf := some (fileOf pool0 8 #[] #[{ accessFlags := 1, nameIndex := 5, descriptorIndex := 6, attributes := #[] }] 33 0 #[] #[])
  fields := #[]
  methods := #[k0m0]
  instanceTypes := #[]
  staticTypes := #[]
  resolved := Array.replicate 124 none
  statics := none }

def pool1 : Array CpInfo := pool [(2, .class_ 4), (1, u "java/lang/Object"), (0, u "<init>"), (0, u "()V"), (0, .integer 2147483647), (0, .methodref 9 10), (0, .class_ 11), (0, .nameAndType 12 13), (0, u "com/example/cellwright/cellwright/hive/Records"), (0, u "i32"), (0, u "([BI)I"), (0, .class_ 15), (0, u "com/example/cellwright/cellwright/hive/RecordsI32PinLaw"), (2, u "law"), (0, u "(IIJ)Z")] 5

def k1m0 : Method := { name := "<init>", desc := "()V", sig := { parameters := [], returnType := none }, accessFlags := 1, code := none }
def k1c1 : Code := { maxStack := 5, maxLocals := 6, code := code, exceptionTable := #[], attributes := #[] }
def k1m1 : Method := { name := "law", desc := "(IIJ)Z", sig := { parameters := [.int, .int, .long], returnType := some .boolean }, accessFlags := 9, code := some k1c1 }
/-- com/example/cellwright/cellwright/hive/RecordsI32PinLaw -/
def k1 : Class := { plain "com/example/cellwright/cellwright/hive/RecordsI32PinLaw" (some 0) with
  accessFlags := 49
  interfaces := #[]
  cf := some (fileOf pool1 14 #[] #[{ accessFlags := 1, nameIndex := 5, descriptorIndex := 6, attributes := #[] }, { accessFlags := 9, nameIndex := 18, descriptorIndex := 19, attributes := #[] }] 49 2 #[] #[])
  fields := #[]
  methods := #[k1m0, k1m1]
  instanceTypes := #[]
  staticTypes := #[]
  resolved := Array.replicate 25 none
  statics := none }

def pool2 : Array CpInfo := pool [(2, .class_ 4), (1, u "java/lang/Object"), (0, u "<init>"), (0, u "()V"), (12, .class_ 21), (1, u "com/example/cellwright/cellwright/hive/Records"), (0, u "i32"), (0, u "([BI)I"), (71, u "NOWHERE"), (0, u "J")] 37

def k2m0 : Method := { name := "<init>", desc := "()V", sig := { parameters := [], returnType := none }, accessFlags := 2, code := none }
def k2c1 : Code := { maxStack := 4, maxLocals := 2, code := prog_72_method_5_code, exceptionTable := #[], attributes := #[] }
def k2m1 : Method := { name := "i32", desc := "([BI)I", sig := { parameters := [(.array .byte), .int], returnType := some .int }, accessFlags := 8, code := some k2c1 }
/-- com/example/cellwright/cellwright/hive/Records -/
def k2 : Class := { plain "com/example/cellwright/cellwright/hive/Records" (some 0) with
  accessFlags := 48
  interfaces := #[]
  cf := some (fileOf pool2 19 #[] #[{ accessFlags := 2, nameIndex := 5, descriptorIndex := 6, attributes := #[] }, { accessFlags := 8, nameIndex := 22, descriptorIndex := 23, attributes := #[] }] 48 2 #[] #[{ accessFlags := 24, nameIndex := 95, descriptorIndex := 96, attributes := #[] }])
  fields := #[{ name := "NOWHERE", type := .long, accessFlags := 24, slot := 0, constantValue := 0 }]
  methods := #[k2m0, k2m1]
  instanceTypes := #[]
  staticTypes := #[.long]
  resolved := Array.replicate 134 none
  statics := none }

def pool3 : Array CpInfo := pool [(1, u "java/lang/Cloneable"), (0, .class_ 1), (0, u "java/lang/Object"), (0, .class_ 3)] 3

/-- java/lang/Cloneable -/
def k3 : Class := { plain "java/lang/Cloneable" (some 0) with
  accessFlags := 1537
  interfaces := #[]
  cf := some (fileOf pool3 2 #[] #[] 1537 4 #[] #[])
  fields := #[]
  methods := #[]
  instanceTypes := #[]
  staticTypes := #[]
  resolved := Array.replicate 8 none
  statics := none }

def pool4 : Array CpInfo := pool [(1, u "java/io/Serializable"), (0, .class_ 1), (0, u "java/lang/Object"), (0, .class_ 3)] 3

/-- java/io/Serializable -/
def k4 : Class := { plain "java/io/Serializable" (some 0) with
  accessFlags := 1537
  interfaces := #[]
  cf := some (fileOf pool4 2 #[] #[] 1537 4 #[] #[])
  fields := #[]
  methods := #[]
  instanceTypes := #[]
  staticTypes := #[]
  resolved := Array.replicate 8 none
  statics := none }

/-- the primitive byte -/
def k5 : Class := { plain "byte" none with kind := .primitive 'B', accessFlags := 0x411 }
/-- [B -/
def k6 : Class := { plain "[B" (some 0) with kind := .array 5 .byte, interfaces := #[3, 4], accessFlags := 1041 }

/-- the primitive int -/
def k7 : Class := { plain "int" none with kind := .primitive 'I', accessFlags := 0x411 }
/-- [I -/
def k8 : Class := { plain "[I" (some 0) with kind := .array 7 .int, interfaces := #[3, 4], accessFlags := 1041 }

def heap : Heap := #[]
def classes : Array Class := #[k0, k1, k2, k3, k4, k5, k6, k7, k8]
def interned : List (Array UInt16 × Addr) := []
def slotsUsed : Nat := 0
def theMethod : MethodId := ⟨1, 1⟩
def args0 : Array Value := #[.int 5, .int 7, .long 9]
def aboutOver (below : List Frame) : State where
  vm := { classes := classes, interned := interned.toArray }
  heap := heap
  slotsUsed := slotsUsed
  threads := #[{ frames := .invoking theMethod args0 :: below }]
def below0 : List Frame := [.native { method := ⟨0, 0⟩, args := #[] }]
def about1 : State := aboutOver below0
def p0 : Program := .bare "" "" ""
def e0 : Env := launch0.env 0 0 0
theorem w_frames : about1.frames = Frame.invoking theMethod args0 :: below0 := rfl
set_option maxRecDepth 65536 in
theorem w_args : argsFit about1.vm theMethod args0 = true := by decide +kernel
set_option maxRecDepth 65536 in
theorem w_heap : heapFits about1 = true := by decide +kernel
set_option maxRecDepth 65536 in
theorem w_runnable : about1.curStatus? = some .runnable := by decide +kernel
set_option maxRecDepth 65536 in
theorem w_alone : about1.alone = true := by decide +kernel
set_option maxRecDepth 65536 in
theorem w_named : about1.methodNamed? x = some theMethod := by decide +kernel
set_option maxRecDepth 65536 in
theorem w_hears : about1.hears theMethod below0 = true := by decide +kernel
set_option maxRecDepth 65536 in
theorem w_ripe : about1.ripe theMethod args0 below0 = true := by decide +kernel
theorem w_running : about1.status = .running := rfl
set_option maxRecDepth 65536 in
theorem w_room : about1.hasRoom e0.platform room_1 = true :=
  launch0.hasRoom_least _ room_1 (by decide +kernel) (by decide +kernel) (by decide +kernel) (by decide +kernel) (by decide +kernel) (by decide +kernel)
theorem allAtoms_all (ts : List Jvm.Cond) (a : Array Jvm.Value) (st : Jvm.State) : (allAtoms ts).before a st = ts.all (fun c => c.before a st) := by
  induction ts with
  | nil => rfl
  | cons c t ih =>
    show (Jvm.Cond.and c (allAtoms t)).before a st = _
    rw [Jvm.Cond.before_and, ih, List.all_cons]
def words1 : List Jvm.Cond := Jvm.Cond.code x code maxLocals ret :: tables_1
/-- a 'code' word, met by the world's own term for the bytes: nothing is compared byte by byte -/
theorem code_word {y : MethodName} {bytes : ByteArray} {mx : Nat} {rt : Option FieldType} {a : Array Value} {s : State} {m : MethodId} {meth : Method} {c : Code} (h1 : s.methodNamed? y = some m) (h2 : s.vm.method? m = some meth) (h3 : meth.code = some c) (h4 : c.code = bytes)
    (h5 : (c.maxLocals == mx && c.exceptionTable.isEmpty && decide (c.maxStack ≤ mostOperands) && decide (meth.sig.returnType = rt) && !meth.locks && decide (parseMethodDescriptor y.desc = some meth.sig)) = true) : (Jvm.Cond.code y bytes mx rt).before a s = true := by
  simp only [Bool.and_eq_true, beq_iff_eq, Bool.not_eq_true', decide_eq_true_eq] at h5
  obtain ⟨⟨⟨⟨⟨g1, g2⟩, g3⟩, g4⟩, g5⟩, g6⟩ := h5
  simp [Cond.before, Cond.holds, Cond.value, h1, h2, h3, h4, g1, g2, g3, g4, g5, g6]
def isCode : Jvm.Cond → Bool
  | .code _ _ _ _ => true
  | _ => false
theorem all_split {L : List Jvm.Cond} {P : Jvm.Cond → Bool} (h1 : L.all (fun c => isCode c || P c) = true) (h2 : ∀ c ∈ L.filter isCode, P c = true) : L.all P = true := by
  refine List.all_eq_true.mpr fun c hc => ?_
  have h := List.all_eq_true.mp h1 c hc
  rcases Bool.eq_false_or_eq_true (isCode c) with hi | hi
  · exact h2 c (List.mem_filter.mpr ⟨hc, hi⟩)
  · simpa [hi] using h
set_option maxRecDepth 65536 in
theorem w_c0 : (Jvm.Cond.code x code maxLocals ret).before args0 about1 = true := code_word (m := ⟨1, 1⟩) (meth := k1m1) (c := k1c1) (by decide +kernel) rfl rfl rfl (by decide +kernel)
set_option maxRecDepth 65536 in
theorem w_c1 : (Jvm.Cond.code ({ cls := "com/example/cellwright/cellwright/hive/Records", name := "i32", desc := "([BI)I" } : Jvm.MethodName) prog_72_method_5_code (2 : Nat) (Option.some Jvm.ClassFile.FieldType.int)).before args0 about1 = true := code_word (m := ⟨2, 1⟩) (meth := k2m1) (c := k2c1) (by decide +kernel) rfl rfl rfl (by decide +kernel)
def codes1 : List Jvm.Cond := [Jvm.Cond.code x code maxLocals ret, Jvm.Cond.code ({ cls := "com/example/cellwright/cellwright/hive/Records", name := "i32", desc := "([BI)I" } : Jvm.MethodName) prog_72_method_5_code (2 : Nat) (Option.some Jvm.ClassFile.FieldType.int)]
set_option maxRecDepth 65536 in
theorem codes_eq : words1.filter isCode = codes1 := rfl
theorem w_codes : ∀ c ∈ words1.filter isCode, c.before args0 about1 = true := by
  rw [codes_eq]
  intro c hc
  simp only [codes1, List.mem_cons, List.not_mem_nil, or_false] at hc
  rcases hc with rfl | rfl
  · exact w_c0
  · exact w_c1
set_option maxRecDepth 65536 in
theorem w_t1 : words1.all (fun c => isCode c || c.before args0 about1) = true := by decide +kernel
theorem w_tables : (allAtoms (Jvm.Cond.code x code maxLocals ret :: tables_1)).before args0 about1 = true := by
  rw [allAtoms_all]
  show words1.all (fun c => c.before args0 about1) = true
  refine all_split ?_ w_codes
  rw [w_t1]
set_option maxRecDepth 65536 in
theorem w_case : (Jvm.Cond.and given_1 narrow_1).before args0 about1 = true := by decide +kernel
theorem w_applies : (headSpec (Jvm.Cond.code x code maxLocals ret :: tables_1) room_1).applies x e0.platform about1 = true :=
  (Spec.applies_iff w_frames).mpr ⟨w_running, w_runnable, w_alone, w_named, w_hears, w_ripe, w_room, w_tables⟩
theorem atStart : AtStart classFile x code maxLocals ret World_1 tables_1 room_1 Calls_1 rest_1 Pre_1 launch0 p0 e0 about1 theMethod args0 below0 :=
  ⟨lists_1, trivial, launch0.admits_env _ _ _, launch0.least_env, fairChoices_fair.cas, fairChoices_fair.clock, w_frames, w_args, w_heap, w_applies, trivial, trivial, w_case⟩
end start1
theorem witness_1 : WitnessClaimed_1 := ⟨start1.p0, start1.e0, start1.about1, start1.theMethod, start1.args0, start1.below0, start1.atStart⟩
end Jvm.Pilot.@@N@@
