import JvmDerived
import JvmDerived.Pilot.@@N@@Statement
import JvmDerived.Pilot.@@N@@Code
set_option linter.unusedVariables false
set_option linter.unusedSimpArgs false
@@BLOCK:NumsL.lean.txt@@
namespace Jvm.Pilot.@@N@@
open Jvm Jvm.ClassFile Sem Op Lib Jvm.Free Jvm.Stand Jvm.LawKit Jvm.RoadKit Bundle Jvm.Pilot.@@N@@.Jvm.D
section OwnKit
variable {p : Program} {l : Launch} {e : Env} {R : Room} {s : State} {m : MethodId} {args : Array Value} {below : List Frame} {meth : Method} {c : Code} {T : State} {locs : List Loc} {cells slots : Nat} {Z : State} {h h' : Heap} {a b : Addr} {ty : FieldType} {n sl : Nat} {f : Nat → Value} {v : Value} {ws : List Addr}
theorem own_retI (X : Stand p l e R s m args below meth c T locs cells slots) (hx : p.tables.exec = Jvm.exec) {pc : Nat} {Ls : Array Slot} {z : Int32} {rest : List Value} (hret : meth.sig.returnType = some .int) (hd : decode c.code pc = .ok (.ireturn, 1)) {fs : List Frame}
    (hl : ∀ (f : JFrame) (acts : List Action), f.method = m → f.locked = none → f.entered = [] → (doReturn e (T.setTop f) acts (some (.int z))).1 = T.setFrames fs) : Steps p.tables e below (T.setTop (mkF m pc Ls (.int z :: rest))) (T.setFrames fs) := by
  have hm' : T.vm.method? m = some meth := X.method'
  have hn : narrow .int (.int z) = .int z := rfl
  show Steps p.tables e below (T.setTop { method := m, pc := pc, locals := Ls, stack := _ :: rest, locked := none }) _
  jvm_step X.here [X.here.top, hx, hd, hm', hret, hn]
  first | (intro acts; rw [hl _ acts rfl rfl rfl]) | rw [hl _ _ rfl rfl rfl]
  exact Steps.refl _
theorem own_retA (X : Stand p l e R s m args below meth c T locs cells slots) (hx : p.tables.exec = Jvm.exec) {pc : Nat} {Ls : Array Slot} {w : Addr} {rest : List Value} {t : FieldType} (ht : t.isReference = true) (hret : meth.sig.returnType = some t) (hd : decode c.code pc = .ok (.areturn, 1)) {fs : List Frame}
    (hl : ∀ (f : JFrame) (acts : List Action), f.method = m → f.locked = none → f.entered = [] → (doReturn e (T.setTop f) acts (some (.ref w))).1 = T.setFrames fs) : Steps p.tables e below (T.setTop (mkF m pc Ls (.ref w :: rest))) (T.setFrames fs) := by
  have hm' : T.vm.method? m = some meth := X.method'
  show Steps p.tables e below (T.setTop { method := m, pc := pc, locals := Ls, stack := _ :: rest, locked := none }) _
  jvm_step X.here [X.here.top, hx, hd, hm', hret, ht, Value.isRef]
  first | (intro acts; rw [hl _ acts rfl rfl rfl]) | rw [hl _ _ rfl rfl rfl]
  exact Steps.refl _
theorem own_retL (X : Stand p l e R s m args below meth c T locs cells slots) (hx : p.tables.exec = Jvm.exec) {pc : Nat} {Ls : Array Slot} {w : Int64} {rest : List Value} (hret : meth.sig.returnType = some .long) (hd : decode c.code pc = .ok (.lreturn, 1)) {fs : List Frame}
    (hl : ∀ (f : JFrame) (acts : List Action), f.method = m → f.locked = none → f.entered = [] → (doReturn e (T.setTop f) acts (some (.long w))).1 = T.setFrames fs) : Steps p.tables e below (T.setTop (mkF m pc Ls (.long w :: rest))) (T.setFrames fs) := by
  have hm' : T.vm.method? m = some meth := X.method'
  show Steps p.tables e below (T.setTop { method := m, pc := pc, locals := Ls, stack := _ :: rest, locked := none }) _
  jvm_step X.here [X.here.top, hx, hd, hm', hret]
  first | (intro acts; rw [hl _ acts rfl rfl rfl]) | rw [hl _ _ rfl rfl rfl]
  exact Steps.refl _
/-- an array: its kind, its length, what lies at each place -/
def OwnA (Z : State) (h : Heap) (a : Addr) (ty : FieldType) (n : Nat) (f : Nat → Value) : Prop :=
  ∃ c : Cell, Arr Z h a c ty ∧ c.slots.size = n ∧ (∀ i, i < n → c.slots[i]? = some (f i)) ∧ ∀ i, i < n → fits ty (f i) = true
def own_upd (f : Nat → Value) (j : Nat) (v : Value) : Nat → Value := fun i => if i = j then v else f i
theorem own_at (f : Nat → Value) (j : Nat) (v : Value) : own_upd f j v j = v := if_pos rfl
theorem own_off (f : Nat → Value) {i j : Nat} (v : Value) (q : i ≠ j) : own_upd f j v i = f i := if_neg q
theorem OwnA.lt (F : OwnA Z h a ty n f) : a < h.size := by obtain ⟨c, A, -⟩ := F; exact A.lt
theorem OwnA.ext (F : OwnA Z h a ty n f) (E : Ext h h') : OwnA Z h' a ty n f := by obtain ⟨c, A, r⟩ := F; exact ⟨c, A.ext E, r⟩
theorem OwnA.other (F : OwnA Z h b ty n f) (W : Wr h h' a sl v) (q : b ≠ a) : OwnA Z h' b ty n f := by obtain ⟨c, A, r⟩ := F; exact ⟨c, A.other W q, r⟩
theorem OwnA.keep (F : OwnA Z h a ty n f) (K : Keep h h' ws) (q : a ∉ ws) : OwnA Z h' a ty n f := by obtain ⟨c, A, r⟩ := F; exact ⟨c, ⟨K.2.1 a c A.1 q, A.2⟩, r⟩
theorem OwnA.cast {f' : Nat → Value} (F : OwnA Z h a ty n f) (q : ∀ i, i < n → f i = f' i) : OwnA Z h a ty n f' := by
  obtain ⟨c, A, r1, r2, r3⟩ := F
  exact ⟨c, A, r1, fun i hi => by rw [← q i hi]; exact r2 i hi, fun i hi => by rw [← q i hi]; exact r3 i hi⟩
theorem OwnA.set {k : Nat} (F : OwnA Z h a ty n f) (W : Wr h h' a k v) (hv : fits ty v = true) : OwnA Z h' a ty n (own_upd f k v) := by
  obtain ⟨c, A, r1, r2, r3⟩ := F
  refine ⟨_, A.same W, by rw [sz_set]; exact r1, fun i hi => ?_, fun i hi => ?_⟩
  · by_cases q : i = k
    · subst q
      rw [own_at]
      have : i < c.slots.size := by rw [r1]; exact hi
      simp [Cell.setSlot, this]
    · rw [own_off _ _ q, ← r2 i hi]
      simp only [Cell.setSlot]
      rw [Array.getElem?_setIfInBounds_ne (Ne.symm q)]
  · by_cases q : i = k
    · subst q; rw [own_at]; exact hv
    · rw [own_off _ _ q]; exact r3 i hi
theorem OwnA.new {k : ClassId} {z : Int32} (A : Arr Z h a (newA k ty z) ty) (hz : z.toNatClampNeg = n) : OwnA Z h a ty n (fun _ => defaultValue ty) := by
  refine ⟨_, A, by rw [sz_new]; exact hz, fun i hi => ?_, fun i _ => by cases ty <;> rfl⟩
  subst hz; simp [newA, hi]
theorem own_in {c : Cell} {j : Int32} {k : Nat} (r1 : c.slots.size = n) (hj : ¬ j < 0) (hk : j.toNatClampNeg = k) (hn : k < n) : ¬ (j < 0 ∨ c.slots.size ≤ j.toNatClampNeg) := by
  rintro (q | q)
  · exact hj q
  · omega
theorem own_stB (X : Stand p l e R s m args below meth c T locs cells slots) (hx : p.tables.exec = Jvm.exec) (hZ : Z.Warmed39 s.vm) (eT : T.heap = h) (F : OwnA Z h a .byte n f) {j x : Int32} (k : Nat) (hj : ¬ j < 0) (hk : j.toNatClampNeg = k) (hn : k < n) {g : JFrame} (hg : g.method = m) {rest : List Value} (hs : g.stack = .int x :: .int j :: .ref a :: rest) (hd : decode c.code g.pc = .ok (.bastore, 1)) :
    ∃ T' h', Stand p l e R s m args below meth c T' (locs ++ [⟨a, k⟩]) cells slots ∧ T'.heap = h' ∧ Wr h h' a k (.int x.toInt8.toInt32) ∧ OwnA Z h' a .byte n (own_upd f k (.int x.toInt8.toInt32)) ∧ ∀ target, Steps p.tables e below (T'.setTop { g with pc := g.pc + 1, stack := rest }) target → Steps p.tables e below (T.setTop g) target := by
  obtain ⟨c0, A, r1, r2, r3⟩ := F
  obtain ⟨T', h', X', e', W', st⟩ := stB X hx hZ eT A (own_in r1 hj hk hn) hg hs hd
  subst hk
  exact ⟨T', h', X', e', W', OwnA.set ⟨c0, A, r1, r2, r3⟩ W' (fits_nar_byte _), st⟩
theorem own_stC (X : Stand p l e R s m args below meth c T locs cells slots) (hx : p.tables.exec = Jvm.exec) (hZ : Z.Warmed39 s.vm) (eT : T.heap = h) (F : OwnA Z h a .char n f) {j x : Int32} (k : Nat) (hj : ¬ j < 0) (hk : j.toNatClampNeg = k) (hn : k < n) {g : JFrame} (hg : g.method = m) {rest : List Value} (hs : g.stack = .int x :: .int j :: .ref a :: rest) (hd : decode c.code g.pc = .ok (.castore, 1)) :
    ∃ T' h', Stand p l e R s m args below meth c T' (locs ++ [⟨a, k⟩]) cells slots ∧ T'.heap = h' ∧ Wr h h' a k (.int x.toUInt32.toUInt16.toUInt32.toInt32) ∧ OwnA Z h' a .char n (own_upd f k (.int x.toUInt32.toUInt16.toUInt32.toInt32)) ∧ ∀ target, Steps p.tables e below (T'.setTop { g with pc := g.pc + 1, stack := rest }) target → Steps p.tables e below (T.setTop g) target := by
  obtain ⟨c0, A, r1, r2, r3⟩ := F
  obtain ⟨T', h', X', e', W', st⟩ := stC X hx hZ eT A (own_in r1 hj hk hn) hg hs hd
  subst hk
  exact ⟨T', h', X', e', W', OwnA.set ⟨c0, A, r1, r2, r3⟩ W' (fits_nar_char _), st⟩
theorem own_stJ (X : Stand p l e R s m args below meth c T locs cells slots) (hx : p.tables.exec = Jvm.exec) (hZ : Z.Warmed39 s.vm) (eT : T.heap = h) (F : OwnA Z h a .long n f) {j : Int32} {x : Int64} (k : Nat) (hj : ¬ j < 0) (hk : j.toNatClampNeg = k) (hn : k < n) {g : JFrame} (hg : g.method = m) {rest : List Value} (hs : g.stack = .long x :: .int j :: .ref a :: rest) (hd : decode c.code g.pc = .ok (.lastore, 1)) :
    ∃ T' h', Stand p l e R s m args below meth c T' (locs ++ [⟨a, k⟩]) cells slots ∧ T'.heap = h' ∧ Wr h h' a k (.long x) ∧ OwnA Z h' a .long n (own_upd f k (.long x)) ∧ ∀ target, Steps p.tables e below (T'.setTop { g with pc := g.pc + 1, stack := rest }) target → Steps p.tables e below (T.setTop g) target := by
  obtain ⟨c0, A, r1, r2, r3⟩ := F
  obtain ⟨T', h', X', e', W', st⟩ := stJ X hx hZ eT A (own_in r1 hj hk hn) hg hs hd
  subst hk
  exact ⟨T', h', X', e', W', OwnA.set ⟨c0, A, r1, r2, r3⟩ W' rfl, st⟩
theorem own_stR (X : Stand p l e R s m args below meth c T locs cells slots) (hx : p.tables.exec = Jvm.exec) (hZ : Z.Warmed39 s.vm) (eT : T.heap = h) (F : OwnA Z h a ty n f) (hty : ty.isReference = true) (So : Sto Z h a v) (hv : fits ty v = true) {j : Int32} (k : Nat) (hj : ¬ j < 0) (hk : j.toNatClampNeg = k) (hn : k < n) {g : JFrame} (hg : g.method = m) {rest : List Value} (hs : g.stack = v :: .int j :: .ref a :: rest) (hd : decode c.code g.pc = .ok (.aastore, 1)) :
    ∃ T' h', Stand p l e R s m args below meth c T' (locs ++ [⟨a, k⟩]) cells slots ∧ T'.heap = h' ∧ Wr h h' a k v ∧ OwnA Z h' a ty n (own_upd f k v) ∧ ∀ target, Steps p.tables e below (T'.setTop { g with pc := g.pc + 1, stack := rest }) target → Steps p.tables e below (T.setTop g) target := by
  obtain ⟨c0, A, r1, r2, r3⟩ := F
  obtain ⟨T', h', X', e', W', st⟩ := stR X hx hZ eT A (own_in r1 hj hk hn) hty So hg hs hd
  subst hk
  exact ⟨T', h', X', e', W', OwnA.set ⟨c0, A, r1, r2, r3⟩ W' hv, st⟩
theorem own_ldB (X : Stand p l e R s m args below meth c T locs cells slots) (hx : p.tables.exec = Jvm.exec) (hZ : Z.Warmed39 s.vm) (eT : T.heap = h) (F : OwnA Z h a .byte n f) {j : Int32} (k : Nat) (hj : ¬ j < 0) (hk : j.toNatClampNeg = k) (hn : k < n) (hv : f k = v) {g : JFrame} (hg : g.method = m) {rest : List Value} (hs : g.stack = .int j :: .ref a :: rest) (hd : decode c.code g.pc = .ok (.baload, 1)) :
    ∀ target, Steps p.tables e below (T.setTop { g with pc := g.pc + 1, stack := v :: rest }) target → Steps p.tables e below (T.setTop g) target := by
  obtain ⟨c0, A, r1, r2, r3⟩ := F
  subst hk hv
  exact X.baloadBytes hx (j := j) (by rw [eT]; exact A.1) (State.isArrayOf_alike hZ.alike A.2.1) A.2.2 (own_in r1 hj rfl hn) (r2 _ hn) hg hs hd
theorem own_ldC (X : Stand p l e R s m args below meth c T locs cells slots) (hx : p.tables.exec = Jvm.exec) (hZ : Z.Warmed39 s.vm) (eT : T.heap = h) (F : OwnA Z h a .char n f) {j : Int32} (k : Nat) (hj : ¬ j < 0) (hk : j.toNatClampNeg = k) (hn : k < n) (hv : f k = v) {g : JFrame} (hg : g.method = m) {rest : List Value} (hs : g.stack = .int j :: .ref a :: rest) (hd : decode c.code g.pc = .ok (.caload, 1)) :
    ∀ target, Steps p.tables e below (T.setTop { g with pc := g.pc + 1, stack := v :: rest }) target → Steps p.tables e below (T.setTop g) target := by
  obtain ⟨c0, A, r1, r2, r3⟩ := F
  subst hk hv
  exact X.caload hx (j := j) (by rw [eT]; exact A.1) (State.isArrayOf_alike hZ.alike A.2.1) A.2.2 (own_in r1 hj rfl hn) (r2 _ hn) hg hs hd
theorem own_ldJ (X : Stand p l e R s m args below meth c T locs cells slots) (hx : p.tables.exec = Jvm.exec) (hZ : Z.Warmed39 s.vm) (eT : T.heap = h) (F : OwnA Z h a .long n f) {j : Int32} (k : Nat) (hj : ¬ j < 0) (hk : j.toNatClampNeg = k) (hn : k < n) (hv : f k = v) {g : JFrame} (hg : g.method = m) {rest : List Value} (hs : g.stack = .int j :: .ref a :: rest) (hd : decode c.code g.pc = .ok (.laload, 1)) :
    ∀ target, Steps p.tables e below (T.setTop { g with pc := g.pc + 1, stack := v :: rest }) target → Steps p.tables e below (T.setTop g) target := by
  obtain ⟨c0, A, r1, r2, r3⟩ := F
  subst hk hv
  exact X.laload hx (j := j) (by rw [eT]; exact A.1) (State.isArrayOf_alike hZ.alike A.2.1) A.2.2 (own_in r1 hj rfl hn) (r2 _ hn) hg hs hd
theorem own_ldR (X : Stand p l e R s m args below meth c T locs cells slots) (hx : p.tables.exec = Jvm.exec) (hZ : Z.Warmed39 s.vm) (eT : T.heap = h) (F : OwnA Z h a ty n f) (hty : ty.isReference = true) {j : Int32} (k : Nat) (hj : ¬ j < 0) (hk : j.toNatClampNeg = k) (hn : k < n) (hv : f k = v) {g : JFrame} (hg : g.method = m) {rest : List Value} (hs : g.stack = .int j :: .ref a :: rest) (hd : decode c.code g.pc = .ok (.aaload, 1)) :
    ∀ target, Steps p.tables e below (T.setTop { g with pc := g.pc + 1, stack := v :: rest }) target → Steps p.tables e below (T.setTop g) target := by
  obtain ⟨c0, A, r1, r2, r3⟩ := F
  subst hk hv
  exact X.aaload hx (j := j) (by rw [eT]; exact A.1) (State.isArrayOf_alike hZ.alike A.2.1) hty A.2.2 (own_in r1 hj rfl hn) (r2 _ hn) hg hs hd
theorem own_len (X : Stand p l e R s m args below meth c T locs cells slots) (hx : p.tables.exec = Jvm.exec) (hZ : Z.Warmed39 s.vm) (eT : T.heap = h) (F : OwnA Z h a ty n f) {z : Int32} (hz : n.toInt32 = z) {g : JFrame} (hg : g.method = m) {rest : List Value} (hs : g.stack = .ref a :: rest) (hd : decode c.code g.pc = .ok (.arraylength, 1)) :
    ∀ target, Steps p.tables e below (T.setTop { g with pc := g.pc + 1, stack := .int z :: rest }) target → Steps p.tables e below (T.setTop g) target := by
  obtain ⟨c0, A, r1, r2, r3⟩ := F
  subst hz r1
  exact X.arraylength hx (by rw [eT]; exact A.1) (State.isArrayOf_alike hZ.alike A.2.1) hg hs hd
theorem own_clone (X : Stand p l e R s m args below meth c T locs cells slots) (hx : p.tables.exec = Jvm.exec) (hZ : Z.Warmed39 s.vm) {a0 : Array Value} {own ad : String} {index : Nat} (hown : s.vm.findClass own = some m.cls)
    (w1 : (Jvm.Cond.methodLink own index ⟨ad, "clone", "()Ljava/lang/Object;"⟩).before a0 Z = true) (w2 : (Jvm.Cond.sameMethod ad "java/lang/Object" "clone" "()Ljava/lang/Object;").before a0 Z = true) (w3 : (Jvm.Cond.native ⟨"java/lang/Object", "clone", "()Ljava/lang/Object;"⟩).before a0 Z = true)
    (w4 : (Jvm.Cond.instanceMethod ⟨"java/lang/Object", "clone", "()Ljava/lang/Object;"⟩).before a0 Z = true) (w5 : (Jvm.Cond.selects ad ⟨ad, "clone", "()Ljava/lang/Object;"⟩ ⟨"java/lang/Object", "clone", "()Ljava/lang/Object;"⟩).before a0 Z = true) (w6 : (Jvm.Cond.castable ad "java/lang/Cloneable").before a0 Z = true)
    (eT : T.heap = h) (F : OwnA Z h a ty n f) (E : Exa Z h a ad) {g : JFrame} (hg : g.method = m) (hsize : g.locals.size = c.maxLocals) {rest : List Value} (hs : g.stack = .ref a :: rest) (hd : decode c.code g.pc = .ok (.invokevirtual index, 3))
    (hf : 1 ≤ R.frames) {W cap : Nat} (hW : 2 * g.monitorRoom + (rest.map fun v => v.category).sum ≤ W) (hl : W + 14 ≤ R.locals) (hcap : n ≤ cap) (hc : cells + 1 ≤ R.cells) (hsl : slots + cap ≤ R.slots) :
    ∃ T' h', Stand p l e R s m args below meth c T' locs (cells + 1) (slots + cap) ∧ T'.heap = h' ∧ Ext h h' ∧ OwnA Z h' h.size ty n f ∧ Exa Z h' h.size ad ∧
      ∀ target, Steps p.tables e below (T'.setTop { g with pc := g.pc + 3, stack := .ref h.size :: rest }) target → Steps p.tables e below (T.setTop g) target := by
  obtain ⟨c0, A, r1, r2, r3⟩ := F
  have FC : FitC Z c0 := fitC_of A fun i hi v hv => by
    rw [r1] at hi; rw [r2 i hi] at hv; cases hv; exact r3 i hi
  obtain ⟨T', h', X', e', ex, A', E', st⟩ := cloneA X hx hZ hown w1 w2 w3 w4 w5 w6 eT A E FC hg hsize hs hd hf hW hl (by rw [r1]; exact hcap) hc hsl
  exact ⟨T', h', X', e', ex, ⟨cloneOf c0, A', r1, r2, r3⟩, E', st⟩
theorem own_selP {s : State} {args : Array Value} {y y' : MethodName} (hsel : (Jvm.Cond.selects y.cls y' y').before args s = true) (hc : y'.cls = y.cls) (hpriv : s.PrivateAt y) (hinst : (Jvm.Cond.instanceMethod y).before args s = true) (hy : y.cls ≠ "java/lang/invoke/MethodHandle" ∧ y.cls ≠ "java/lang/invoke/VarHandle") :
    (Jvm.Cond.selects y.cls y y).before args s = true := by
  obtain ⟨c2, r2, m2, a1, a2, q3, a4, kP, hkP, hkPi⟩ := Cond.selects_spec hsel
  have hf := findClass_of_methodNamed q3
  rw [hc] at hf
  exact Stand.selects_self_of_private hf hkP hkPi hpriv hinst hy
theorem own_fcast {C nm d : String} {x y : Int32} (F : Fld Z h a C nm d (.int x)) (q : x = y) : Fld Z h a C nm d (.int y) := q ▸ F
theorem own_ix {j d : Int32} {k i : Nat} (hj : ¬ j < 0) (hk : j.toNatClampNeg = k) (hd : d.toInt = (i : Int)) (hlt : k + i < 2147483648) : ¬ (j + d) < 0 ∧ (j + d).toNatClampNeg = k + i := by
  have e0 : (0 : Int32).toInt = 0 := rfl
  simp only [Int32.lt_iff_toInt_lt, e0, Int32.toNatClampNeg] at hj hk ⊢
  rw [Int32.toInt_add, hd]
  have : (j.toInt + (i : Int)).bmod (2 ^ 32) = j.toInt + (i : Int) := bmod32 (by omega) (by omega)
  rw [this]
  omega
theorem own_mask31 (x : Int32) : 0 ≤ (x &&& (2147483647 : Int32)).toInt := (c_andS x 2147483647).2.2 (by decide)
theorem own_rem {x y : Int32} (hx : 0 ≤ x.toInt) (hy : 0 < y.toInt) : 0 ≤ (x % y).toInt ∧ (x % y).toInt < y.toInt := by
  rw [Int32.toInt_mod]
  exact ⟨Int.tmod_nonneg _ hx, Int.tmod_lt_of_pos _ hy⟩
theorem own_lcEq {x y : Int64} (q : x = y) : lcmpW x y = 0 := by subst q; simp [lcmpW, Int64.lt_irrefl]
theorem own_lcNe {x y : Int64} (q : ¬ x = y) : ¬ lcmpW x y = 0 := by
  by_cases h : x > y
  · rw [lcmpW, if_pos h]; decide
  · rw [lcmpW, if_neg h, if_neg q]; decide
theorem own_lcGt {x y : Int64} (q : y < x) : (0 : Int32) < lcmpW x y := by rw [lcmpW, if_pos q]; decide
theorem own_lcLe {x y : Int64} (q : ¬ y < x) : ¬ (0 : Int32) < lcmpW x y := by
  rw [lcmpW, if_neg q]
  by_cases h : x = y
  · rw [if_pos h]; decide
  · rw [if_neg h]; decide
theorem own_lcLt {x y : Int64} (q : x < y) : lcmpW x y < 0 := by
  rw [lcmpW, if_neg (fun z => Int64.lt_irrefl (Int64.lt_trans z q)), if_neg (fun z => Int64.lt_irrefl (z ▸ q))]; decide
theorem own_lcGe {x y : Int64} (q : ¬ x < y) : ¬ lcmpW x y < 0 := by
  by_cases h : x > y
  · rw [lcmpW, if_pos h]; decide
  · rw [lcmpW, if_neg h, if_pos (Int64.le_antisymm (Int64.not_lt.mp h) (Int64.not_lt.mp q))]; decide
end OwnKit

theorem d1_0 : decode method_2_code 0 = .ok (.iload_n 0, 1) := by decide +kernel
theorem d1_1 : decode method_2_code 1 = .ok (.iconst 3, 1) := by decide +kernel
theorem d1_2 : decode method_2_code 2 = .ok (.iand, 1) := by decide +kernel
theorem d1_3 : decode method_2_code 3 = .ok (.istore_n 2, 1) := by decide +kernel
theorem d1_4 : decode method_2_code 4 = .ok (.iload_n 2, 1) := by decide +kernel
theorem d1_5 : decode method_2_code 5 = .ok (.ifCond .ne 13, 3) := by decide +kernel
theorem d1_8 : decode method_2_code 8 = .ok (.ldc 7, 2) := by decide +kernel
theorem d1_10 : decode method_2_code 10 = .ok (.iload_n 1, 1) := by decide +kernel
theorem d1_11 : decode method_2_code 11 = .ok (.sipush 1023, 3) := by decide +kernel
theorem d1_14 : decode method_2_code 14 = .ok (.iand, 1) := by decide +kernel
theorem d1_15 : decode method_2_code 15 = .ok (.ior, 1) := by decide +kernel
theorem d1_16 : decode method_2_code 16 = .ok (.i2c, 1) := by decide +kernel
theorem d1_17 : decode method_2_code 17 = .ok (.ireturn, 1) := by decide +kernel
theorem d1_18 : decode method_2_code 18 = .ok (.iload_n 2, 1) := by decide +kernel
theorem d1_19 : decode method_2_code 19 = .ok (.iconst 1, 1) := by decide +kernel
theorem d1_20 : decode method_2_code 20 = .ok (.if_icmp .ne 13, 3) := by decide +kernel
theorem d1_23 : decode method_2_code 23 = .ok (.ldc 8, 2) := by decide +kernel
theorem d1_25 : decode method_2_code 25 = .ok (.iload_n 1, 1) := by decide +kernel
theorem d1_26 : decode method_2_code 26 = .ok (.sipush 1023, 3) := by decide +kernel
theorem d1_29 : decode method_2_code 29 = .ok (.iand, 1) := by decide +kernel
theorem d1_30 : decode method_2_code 30 = .ok (.ior, 1) := by decide +kernel
theorem d1_31 : decode method_2_code 31 = .ok (.i2c, 1) := by decide +kernel
theorem d1_32 : decode method_2_code 32 = .ok (.ireturn, 1) := by decide +kernel
theorem d1_33 : decode method_2_code 33 = .ok (.iload_n 1, 1) := by decide +kernel
theorem d1_34 : decode method_2_code 34 = .ok (.i2c, 1) := by decide +kernel
theorem d1_35 : decode method_2_code 35 = .ok (.ireturn, 1) := by decide +kernel
theorem d2_0 : decode prog_97_method_1_code 0 = .ok (.aload_n 0, 1) := by decide +kernel
theorem d2_1 : decode prog_97_method_1_code 1 = .ok (.invokespecial 3, 3) := by decide +kernel
theorem d2_4 : decode prog_97_method_1_code 4 = .ok (.aload_n 0, 1) := by decide +kernel
theorem d2_5 : decode prog_97_method_1_code 5 = .ok (.iconst (-1), 1) := by decide +kernel
theorem d2_6 : decode prog_97_method_1_code 6 = .ok (.putfield 9, 3) := by decide +kernel
theorem d2_9 : decode prog_97_method_1_code 9 = .ok (.return_, 1) := by decide +kernel
theorem d4_0 : decode prog_97_method_3_code 0 = .ok (.iload_n 2, 1) := by decide +kernel
theorem d4_1 : decode prog_97_method_3_code 1 = .ok (.istore 6, 2) := by decide +kernel
theorem d4_3 : decode prog_97_method_3_code 3 = .ok (.iload_n 2, 1) := by decide +kernel
theorem d4_4 : decode prog_97_method_3_code 4 = .ok (.iload_n 3, 1) := by decide +kernel
theorem d4_5 : decode prog_97_method_3_code 5 = .ok (.iadd, 1) := by decide +kernel
theorem d4_6 : decode prog_97_method_3_code 6 = .ok (.istore 7, 2) := by decide +kernel
theorem d4_8 : decode prog_97_method_3_code 8 = .ok (.iload 5, 2) := by decide +kernel
theorem d4_10 : decode prog_97_method_3_code 10 = .ok (.istore 8, 2) := by decide +kernel
theorem d4_12 : decode prog_97_method_3_code 12 = .ok (.aload_n 0, 1) := by decide +kernel
theorem d4_13 : decode prog_97_method_3_code 13 = .ok (.getfield 9, 3) := by decide +kernel
theorem d4_16 : decode prog_97_method_3_code 16 = .ok (.ifCond .lt 45, 3) := by decide +kernel
theorem d4_61 : decode prog_97_method_3_code 61 = .ok (.iload 6, 2) := by decide +kernel
theorem d4_63 : decode prog_97_method_3_code 63 = .ok (.iconst 1, 1) := by decide +kernel
theorem d4_64 : decode prog_97_method_3_code 64 = .ok (.iadd, 1) := by decide +kernel
theorem d4_65 : decode prog_97_method_3_code 65 = .ok (.iload 7, 2) := by decide +kernel
theorem d4_67 : decode prog_97_method_3_code 67 = .ok (.if_icmp .ge 80, 3) := by decide +kernel
theorem d4_70 : decode prog_97_method_3_code 70 = .ok (.aload_n 1, 1) := by decide +kernel
theorem d4_71 : decode prog_97_method_3_code 71 = .ok (.iload 6, 2) := by decide +kernel
theorem d4_73 : decode prog_97_method_3_code 73 = .ok (.baload, 1) := by decide +kernel
theorem d4_74 : decode prog_97_method_3_code 74 = .ok (.sipush 255, 3) := by decide +kernel
theorem d4_77 : decode prog_97_method_3_code 77 = .ok (.iand, 1) := by decide +kernel
theorem d4_78 : decode prog_97_method_3_code 78 = .ok (.aload_n 1, 1) := by decide +kernel
theorem d4_79 : decode prog_97_method_3_code 79 = .ok (.iload 6, 2) := by decide +kernel
theorem d4_81 : decode prog_97_method_3_code 81 = .ok (.iconst 1, 1) := by decide +kernel
theorem d4_82 : decode prog_97_method_3_code 82 = .ok (.iadd, 1) := by decide +kernel
theorem d4_83 : decode prog_97_method_3_code 83 = .ok (.baload, 1) := by decide +kernel
theorem d4_84 : decode prog_97_method_3_code 84 = .ok (.sipush 255, 3) := by decide +kernel
theorem d4_87 : decode prog_97_method_3_code 87 = .ok (.iand, 1) := by decide +kernel
theorem d4_88 : decode prog_97_method_3_code 88 = .ok (.bipush 8, 2) := by decide +kernel
theorem d4_90 : decode prog_97_method_3_code 90 = .ok (.ishl, 1) := by decide +kernel
theorem d4_91 : decode prog_97_method_3_code 91 = .ok (.ior, 1) := by decide +kernel
theorem d4_92 : decode prog_97_method_3_code 92 = .ok (.i2c, 1) := by decide +kernel
theorem d4_93 : decode prog_97_method_3_code 93 = .ok (.istore 9, 2) := by decide +kernel
theorem d4_95 : decode prog_97_method_3_code 95 = .ok (.aload_n 0, 1) := by decide +kernel
theorem d4_96 : decode prog_97_method_3_code 96 = .ok (.getfield 21, 3) := by decide +kernel
theorem d4_99 : decode prog_97_method_3_code 99 = .ok (.ifCond .ne 30, 3) := by decide +kernel
theorem d4_102 : decode prog_97_method_3_code 102 = .ok (.iload 9, 2) := by decide +kernel
theorem d4_104 : decode prog_97_method_3_code 104 = .ok (.ldc 25, 2) := by decide +kernel
theorem d4_106 : decode prog_97_method_3_code 106 = .ok (.if_icmp .lt 10, 3) := by decide +kernel
theorem d4_109 : decode prog_97_method_3_code 109 = .ok (.iload 9, 2) := by decide +kernel
theorem d4_111 : decode prog_97_method_3_code 111 = .ok (.ldc 26, 2) := by decide +kernel
theorem d4_113 : decode prog_97_method_3_code 113 = .ok (.if_icmp .le 16, 3) := by decide +kernel
theorem d4_116 : decode prog_97_method_3_code 116 = .ok (.aload 4, 2) := by decide +kernel
theorem d4_118 : decode prog_97_method_3_code 118 = .ok (.iload 8, 2) := by decide +kernel
theorem d4_120 : decode prog_97_method_3_code 120 = .ok (.iload 9, 2) := by decide +kernel
theorem d4_122 : decode prog_97_method_3_code 122 = .ok (.castore, 1) := by decide +kernel
theorem d4_123 : decode prog_97_method_3_code 123 = .ok (.iinc 8 1, 3) := by decide +kernel
theorem d4_126 : decode prog_97_method_3_code 126 = .ok (.goto 15, 3) := by decide +kernel
theorem d4_129 : decode prog_97_method_3_code 129 = .ok (.aload_n 0, 1) := by decide +kernel
theorem d4_130 : decode prog_97_method_3_code 130 = .ok (.iload 9, 2) := by decide +kernel
theorem d4_132 : decode prog_97_method_3_code 132 = .ok (.aload 4, 2) := by decide +kernel
theorem d4_134 : decode prog_97_method_3_code 134 = .ok (.iload 8, 2) := by decide +kernel
theorem d4_136 : decode prog_97_method_3_code 136 = .ok (.invokevirtual 17, 3) := by decide +kernel
theorem d4_139 : decode prog_97_method_3_code 139 = .ok (.istore 8, 2) := by decide +kernel
theorem d4_141 : decode prog_97_method_3_code 141 = .ok (.iinc 6 2, 3) := by decide +kernel
theorem d4_144 : decode prog_97_method_3_code 144 = .ok (.goto (-83), 3) := by decide +kernel
theorem d4_147 : decode prog_97_method_3_code 147 = .ok (.iload 6, 2) := by decide +kernel
theorem d4_149 : decode prog_97_method_3_code 149 = .ok (.iload 7, 2) := by decide +kernel
theorem d4_151 : decode prog_97_method_3_code 151 = .ok (.if_icmp .ge 15, 3) := by decide +kernel
theorem d4_154 : decode prog_97_method_3_code 154 = .ok (.aload_n 0, 1) := by decide +kernel
theorem d4_155 : decode prog_97_method_3_code 155 = .ok (.aload_n 1, 1) := by decide +kernel
theorem d4_156 : decode prog_97_method_3_code 156 = .ok (.iload 6, 2) := by decide +kernel
theorem d4_158 : decode prog_97_method_3_code 158 = .ok (.baload, 1) := by decide +kernel
theorem d4_159 : decode prog_97_method_3_code 159 = .ok (.sipush 255, 3) := by decide +kernel
theorem d4_162 : decode prog_97_method_3_code 162 = .ok (.iand, 1) := by decide +kernel
theorem d4_163 : decode prog_97_method_3_code 163 = .ok (.putfield 9, 3) := by decide +kernel
theorem d4_166 : decode prog_97_method_3_code 166 = .ok (.iload 8, 2) := by decide +kernel
theorem d4_168 : decode prog_97_method_3_code 168 = .ok (.ireturn, 1) := by decide +kernel
theorem d5_0 : decode method_3_code 0 = .ok (.iload_n 0, 1) := by decide +kernel
theorem d5_1 : decode method_3_code 1 = .ok (.ldc 7, 2) := by decide +kernel
theorem d5_3 : decode method_3_code 3 = .ok (.if_icmp .lt 13, 3) := by decide +kernel
theorem d5_6 : decode method_3_code 6 = .ok (.iload_n 0, 1) := by decide +kernel
theorem d5_7 : decode method_3_code 7 = .ok (.ldc 9, 2) := by decide +kernel
theorem d5_9 : decode method_3_code 9 = .ok (.if_icmp .gt 7, 3) := by decide +kernel
theorem d5_12 : decode method_3_code 12 = .ok (.iconst 1, 1) := by decide +kernel
theorem d5_13 : decode method_3_code 13 = .ok (.goto 4, 3) := by decide +kernel
theorem d5_16 : decode method_3_code 16 = .ok (.iconst 0, 1) := by decide +kernel
theorem d5_17 : decode method_3_code 17 = .ok (.ireturn, 1) := by decide +kernel
theorem d6_0 : decode prog_97_method_4_code 0 = .ok (.iload_n 2, 1) := by decide +kernel
theorem d6_1 : decode prog_97_method_4_code 1 = .ok (.istore_n 3, 1) := by decide +kernel
theorem d6_2 : decode prog_97_method_4_code 2 = .ok (.aload_n 0, 1) := by decide +kernel
theorem d6_3 : decode prog_97_method_4_code 3 = .ok (.getfield 21, 3) := by decide +kernel
theorem d6_6 : decode prog_97_method_4_code 6 = .ok (.ifCond .eq 11, 3) := by decide +kernel
theorem d6_9 : decode prog_97_method_4_code 9 = .ok (.aload_n 1, 1) := by decide +kernel
theorem d6_10 : decode prog_97_method_4_code 10 = .ok (.iload_n 3, 1) := by decide +kernel
theorem d6_11 : decode prog_97_method_4_code 11 = .ok (.ldc 27, 2) := by decide +kernel
theorem d6_13 : decode prog_97_method_4_code 13 = .ok (.castore, 1) := by decide +kernel
theorem d6_14 : decode prog_97_method_4_code 14 = .ok (.iinc 3 1, 3) := by decide +kernel
theorem d6_17 : decode prog_97_method_4_code 17 = .ok (.aload_n 0, 1) := by decide +kernel
theorem d6_18 : decode prog_97_method_4_code 18 = .ok (.iconst 0, 1) := by decide +kernel
theorem d6_19 : decode prog_97_method_4_code 19 = .ok (.putfield 21, 3) := by decide +kernel
theorem d6_22 : decode prog_97_method_4_code 22 = .ok (.aload_n 0, 1) := by decide +kernel
theorem d6_23 : decode prog_97_method_4_code 23 = .ok (.iconst (-1), 1) := by decide +kernel
theorem d6_24 : decode prog_97_method_4_code 24 = .ok (.putfield 9, 3) := by decide +kernel
theorem d6_27 : decode prog_97_method_4_code 27 = .ok (.iload_n 3, 1) := by decide +kernel
theorem d6_28 : decode prog_97_method_4_code 28 = .ok (.ireturn, 1) := by decide +kernel
theorem d7_0 : decode prog_97_method_5_code 0 = .ok (.aload_n 0, 1) := by decide +kernel
theorem d7_1 : decode prog_97_method_5_code 1 = .ok (.getfield 21, 3) := by decide +kernel
theorem d7_4 : decode prog_97_method_5_code 4 = .ok (.istore 4, 2) := by decide +kernel
theorem d7_6 : decode prog_97_method_5_code 6 = .ok (.aload_n 0, 1) := by decide +kernel
theorem d7_7 : decode prog_97_method_5_code 7 = .ok (.iconst 0, 1) := by decide +kernel
theorem d7_8 : decode prog_97_method_5_code 8 = .ok (.putfield 21, 3) := by decide +kernel
theorem d7_11 : decode prog_97_method_5_code 11 = .ok (.iload_n 3, 1) := by decide +kernel
theorem d7_12 : decode prog_97_method_5_code 12 = .ok (.istore 5, 2) := by decide +kernel
theorem d7_14 : decode prog_97_method_5_code 14 = .ok (.iload 4, 2) := by decide +kernel
theorem d7_16 : decode prog_97_method_5_code 16 = .ok (.ifCond .eq 29, 3) := by decide +kernel
theorem d7_45 : decode prog_97_method_5_code 45 = .ok (.iload 4, 2) := by decide +kernel
theorem d7_47 : decode prog_97_method_5_code 47 = .ok (.ifCond .eq 12, 3) := by decide +kernel
theorem d7_59 : decode prog_97_method_5_code 59 = .ok (.iload_n 1, 1) := by decide +kernel
theorem d7_60 : decode prog_97_method_5_code 60 = .ok (.invokestatic 32, 3) := by decide +kernel
theorem d7_63 : decode prog_97_method_5_code 63 = .ok (.ifCond .eq 11, 3) := by decide +kernel
theorem d7_66 : decode prog_97_method_5_code 66 = .ok (.aload_n 0, 1) := by decide +kernel
theorem d7_67 : decode prog_97_method_5_code 67 = .ok (.iload_n 1, 1) := by decide +kernel
theorem d7_68 : decode prog_97_method_5_code 68 = .ok (.putfield 21, 3) := by decide +kernel
theorem d7_71 : decode prog_97_method_5_code 71 = .ok (.goto 23, 3) := by decide +kernel
theorem d7_74 : decode prog_97_method_5_code 74 = .ok (.aload_n 2, 1) := by decide +kernel
theorem d7_75 : decode prog_97_method_5_code 75 = .ok (.iload 5, 2) := by decide +kernel
theorem d7_77 : decode prog_97_method_5_code 77 = .ok (.iload_n 1, 1) := by decide +kernel
theorem d7_78 : decode prog_97_method_5_code 78 = .ok (.invokestatic 28, 3) := by decide +kernel
theorem d7_81 : decode prog_97_method_5_code 81 = .ok (.ifCond .eq 8, 3) := by decide +kernel
theorem d7_84 : decode prog_97_method_5_code 84 = .ok (.ldc 27, 2) := by decide +kernel
theorem d7_86 : decode prog_97_method_5_code 86 = .ok (.goto 4, 3) := by decide +kernel
theorem d7_90 : decode prog_97_method_5_code 90 = .ok (.castore, 1) := by decide +kernel
theorem d7_91 : decode prog_97_method_5_code 91 = .ok (.iinc 5 1, 3) := by decide +kernel
theorem d7_94 : decode prog_97_method_5_code 94 = .ok (.iload 5, 2) := by decide +kernel
theorem d7_96 : decode prog_97_method_5_code 96 = .ok (.ireturn, 1) := by decide +kernel
theorem d8_0 : decode jdk_89_method_14_code 0 = .ok (.iload_n 0, 1) := by decide +kernel
theorem d8_1 : decode jdk_89_method_14_code 1 = .ok (.ldc 75, 2) := by decide +kernel
theorem d8_3 : decode jdk_89_method_14_code 3 = .ok (.if_icmp .lt 13, 3) := by decide +kernel
theorem d8_6 : decode jdk_89_method_14_code 6 = .ok (.iload_n 0, 1) := by decide +kernel
theorem d8_7 : decode jdk_89_method_14_code 7 = .ok (.ldc 76, 2) := by decide +kernel
theorem d8_9 : decode jdk_89_method_14_code 9 = .ok (.if_icmp .ge 7, 3) := by decide +kernel
theorem d8_12 : decode jdk_89_method_14_code 12 = .ok (.iconst 1, 1) := by decide +kernel
theorem d8_13 : decode jdk_89_method_14_code 13 = .ok (.goto 4, 3) := by decide +kernel
theorem d8_16 : decode jdk_89_method_14_code 16 = .ok (.iconst 0, 1) := by decide +kernel
theorem d8_17 : decode jdk_89_method_14_code 17 = .ok (.ireturn, 1) := by decide +kernel
theorem d9_0 : decode jdk_89_method_15_code 0 = .ok (.iload_n 0, 1) := by decide +kernel
theorem d9_1 : decode jdk_89_method_15_code 1 = .ok (.ldc 76, 2) := by decide +kernel
theorem d9_3 : decode jdk_89_method_15_code 3 = .ok (.if_icmp .lt 13, 3) := by decide +kernel
theorem d9_6 : decode jdk_89_method_15_code 6 = .ok (.iload_n 0, 1) := by decide +kernel
theorem d9_7 : decode jdk_89_method_15_code 7 = .ok (.ldc 77, 2) := by decide +kernel
theorem d9_9 : decode jdk_89_method_15_code 9 = .ok (.if_icmp .ge 7, 3) := by decide +kernel
theorem d9_12 : decode jdk_89_method_15_code 12 = .ok (.iconst 1, 1) := by decide +kernel
theorem d9_13 : decode jdk_89_method_15_code 13 = .ok (.goto 4, 3) := by decide +kernel
theorem d9_17 : decode jdk_89_method_15_code 17 = .ok (.ireturn, 1) := by decide +kernel
theorem d10_0 : decode method_4_code 0 = .ok (.iload_n 0, 1) := by decide +kernel
theorem d10_1 : decode method_4_code 1 = .ok (.ldc 8, 2) := by decide +kernel
theorem d10_3 : decode method_4_code 3 = .ok (.if_icmp .lt 13, 3) := by decide +kernel
theorem d10_6 : decode method_4_code 6 = .ok (.iload_n 0, 1) := by decide +kernel
theorem d10_7 : decode method_4_code 7 = .ok (.ldc 10, 2) := by decide +kernel
theorem d10_9 : decode method_4_code 9 = .ok (.if_icmp .gt 7, 3) := by decide +kernel
theorem d10_12 : decode method_4_code 12 = .ok (.iconst 1, 1) := by decide +kernel
theorem d10_13 : decode method_4_code 13 = .ok (.goto 4, 3) := by decide +kernel
theorem d10_16 : decode method_4_code 16 = .ok (.iconst 0, 1) := by decide +kernel
theorem d10_17 : decode method_4_code 17 = .ok (.ireturn, 1) := by decide +kernel
theorem own_pn0 : plainName "com/example/cellwright/cellwright/hive/DecoderFinishPinLaw" = true := by first | (simp [plainName, overriddenIn]; done) | decide +kernel
theorem own_pn1 : plainName "java/lang/Character" = true := by first | (simp [plainName, overriddenIn]; done) | decide +kernel
theorem own_pn2 : plainName "com/example/cellwright/cellwright/hive/Utf16Le$Decoder" = true := by first | (simp [plainName, overriddenIn]; done) | decide +kernel
theorem own_pd0 : parseMethodDescriptor "(C)Z" = some ⟨[.char], some .boolean⟩ := by decide +kernel
theorem own_pd1 : parseMethodDescriptor "(C[CI)I" = some ⟨[.char, (.array .char), .int], some .int⟩ := by decide +kernel
theorem own_pd2 : parseMethodDescriptor "(II)C" = some ⟨[.int, .int], some .char⟩ := by decide +kernel
theorem own_pd3 : parseMethodDescriptor "()V" = some ⟨[], none⟩ := by decide +kernel
theorem own_pd4 : parseMethodDescriptor "([BII[CI)I" = some ⟨[(.array .byte), .int, .int, (.array .char), .int], some .int⟩ := by decide +kernel
theorem own_pd5 : parseMethodDescriptor "([CI)I" = some ⟨[(.array .char), .int], some .int⟩ := by decide +kernel
def own_ch (cu : Int32) : Prop := cu = cu.toUInt32.toUInt16.toUInt32.toInt32
def own_low (cu : Int32) : Int32 := if cu < (56320 : Int32) then 0 else if (57343 : Int32) < cu then 0 else 1
def own_out (cu : Int32) : Int32 := if own_low cu = (0 : Int32) then cu else (65533 : Int32)
def QN (x : Int32) (h0 : Heap) (n0 : Nat) (v : Option Value) (h : Heap) (L : List Loc) : Prop := v = some (.int x) ∧ Fr n0 L ∧ h = h0
def QP (h0 : Heap) (n0 : Nat) (v : Option Value) (h : Heap) (L : List Loc) : Prop := ∃ cu : Int32, v = some (.int cu) ∧ own_ch cu ∧ Fr n0 L ∧ h = h0
theorem own_i2c (x : Int32) : own_ch (x.toUInt32.toUInt16.toUInt32.toInt32) := by simp only [own_ch, UInt32.toUInt32_toInt32, UInt16.toUInt16_toUInt32]
set_option maxRecDepth 65536 in
set_option maxHeartbeats 40000000 in
theorem rm_pickA (l : Launch) (Z : State) (a0 : Array Value) (hw : ∀ d ∈ tables_1, d.before a0 Z = true) (ws : List Jvm.Cond) (p1 : Int32) (p2 : Int32) (h0 : Heap) (n0 : Nat) (Z0 : n0 ≤ h0.size) (hb5 : (p1 &&& (3 : Int32)) = (0 : Int32)) :
    MetFree l (⟨"com/example/cellwright/cellwright/hive/DecoderFinishPinLaw", "pick", "(II)C"⟩ : MethodName) (head1 (Jvm.Cond.code (⟨"com/example/cellwright/cellwright/hive/DecoderFinishPinLaw", "pick", "(II)C"⟩ : MethodName) method_2_code 3 (some .char) :: ws) ({ frames := 0, cells := 0, slots := 0, locals := 0 } : Room)) (fun a U => a = #[(.int p1), (.int p2)] ∧ Z.Warmed39 U.vm ∧ U.heap = h0) (fun _ _ _ _ _ => True) (fun _ U o U' => ∃ v L, o = .returned v ∧ QP h0 n0 v U'.heap L ∧ FrameEnd U o U' L ({ frames := 0, cells := 0, slots := 0, locals := 0 } : Room).cells ({ frames := 0, cells := 0, slots := 0, locals := 0 } : Room).slots) := by
  refine MetFree.of_bodySF (plainFor_of_name own_pn0) hisR ?_
  intro p e s m args below meth c s₁ Bd hml0 hP hK
  obtain ⟨rfl, hZ, hh⟩ := hP
  have hx := Bd.exec
  have hby := Bd.bytes
  have hml : c.maxLocals = 3 := hml0
  have hown : s.vm.findClass "com/example/cellwright/cellwright/hive/DecoderFinishPinLaw" = some m.cls := findClass_of_methodNamed Bd.named
  have hnm := (name_of_methodNamed Bd.named Bd.method).1
  have X0 : Stand p l e ({ frames := 0, cells := 0, slots := 0, locals := 0 } : Room) s m #[(.int p1), (.int p2)] below meth c s₁ [] 0 0 := Stand.of_body Bd
  have e0 : s₁.heap = h0 := by rw [← hh, Bd.state]; rfl
  have N0 := Fr.nil n0
  have ef : entryFrame m #[(.int p1), (.int p2)] 3 = mkF m 0 #[.val (.int p1), .val (.int p2), .unset] [] := by first | (simp [entryFrame, mkF, argsToLocals, Value.category]; done) | rfl
  have pre0 : ∀ t, Steps p.tables e below (s₁.setTop (mkF m 0 #[.val (.int p1), .val (.int p2), .unset] [])) t → Steps p.tables e below (s₁.setTop (entryFrame m #[(.int p1), (.int p2)] 3)) t := fun t k => castTop ef k
  obtain ⟨fs, hr, hrun, hended, hW, hsame⟩ := X0.leave (v := some (.int ((((55296 : Int32) ||| (p2 &&& (1023 : Int32))).toUInt32.toUInt16.toUInt32.toInt32).toUInt32.toUInt16.toUInt32.toInt32))) (fun h => by rw [Bd.returns] at h; cases h)
  refine ⟨_, _, pre0 _ ?_, hrun, hended, _, _, rfl, ?_, ⟨_, rfl⟩, hW, hsame.mono (by decide) (by decide)⟩
  · show Steps p.tables e below (s₁.setTop (mkF m 0 #[.val (.int p1), .val (.int p2), .unset] [])) _
    refine XS.iloadN X0.here hx rfl (hb hby d1_0) rfl ?_
    show Steps p.tables e below (s₁.setTop (mkF m 1 #[.val (.int p1), .val (.int p2), .unset] [(.int p1)])) _
    refine XS.iconst X0.here hx rfl (hb hby d1_1) ?_
    show Steps p.tables e below (s₁.setTop (mkF m 2 #[.val (.int p1), .val (.int p2), .unset] [(.int (3 : Int32)), (.int p1)])) _
    refine XS.iand X0.here hx rfl (hb hby d1_2) rfl ?_
    show Steps p.tables e below (s₁.setTop (mkF m 3 #[.val (.int p1), .val (.int p2), .unset] [(.int (p1 &&& (3 : Int32)))])) _
    refine XS.istoreN X0.here hx rfl (hb hby d1_3) rfl (l' := #[.val (.int p1), .val (.int p2), .val (.int (p1 &&& (3 : Int32)))]) rfl ?_
    show Steps p.tables e below (s₁.setTop (mkF m 4 #[.val (.int p1), .val (.int p2), .val (.int (p1 &&& (3 : Int32)))] [])) _
    refine XS.iloadN X0.here hx rfl (hb hby d1_4) rfl ?_
    show Steps p.tables e below (s₁.setTop (mkF m 5 #[.val (.int p1), .val (.int p2), .val (.int (p1 &&& (3 : Int32)))] [(.int (p1 &&& (3 : Int32)))])) _
    refine XS.ifNo X0.here hx rfl (hb hby d1_5) rfl ((if0 _ _).trans (teq hb5).2) ?_
    show Steps p.tables e below (s₁.setTop (mkF m 8 #[.val (.int p1), .val (.int p2), .val (.int (p1 &&& (3 : Int32)))] [])) _
    refine X0.ldcInt hx hown (mvT hZ (hw _ (List.mem_of_getElem? (i := 4) rfl))) (g := (mkF m 8 #[.val (.int p1), .val (.int p2), .val (.int (p1 &&& (3 : Int32)))] [])) rfl (hb hby d1_8) _ ?_
    show Steps p.tables e below (s₁.setTop (mkF m 10 #[.val (.int p1), .val (.int p2), .val (.int (p1 &&& (3 : Int32)))] [(.int (55296 : Int32))])) _
    refine XS.iloadN X0.here hx rfl (hb hby d1_10) rfl ?_
    show Steps p.tables e below (s₁.setTop (mkF m 11 #[.val (.int p1), .val (.int p2), .val (.int (p1 &&& (3 : Int32)))] [(.int p2), (.int (55296 : Int32))])) _
    refine XS.sipush X0.here hx rfl (hb hby d1_11) ?_
    show Steps p.tables e below (s₁.setTop (mkF m 14 #[.val (.int p1), .val (.int p2), .val (.int (p1 &&& (3 : Int32)))] [(.int (1023 : Int32)), (.int p2), (.int (55296 : Int32))])) _
    refine XS.iand X0.here hx rfl (hb hby d1_14) rfl ?_
    show Steps p.tables e below (s₁.setTop (mkF m 15 #[.val (.int p1), .val (.int p2), .val (.int (p1 &&& (3 : Int32)))] [(.int (p2 &&& (1023 : Int32))), (.int (55296 : Int32))])) _
    refine XS.ior X0.here hx rfl (hb hby d1_15) rfl ?_
    show Steps p.tables e below (s₁.setTop (mkF m 16 #[.val (.int p1), .val (.int p2), .val (.int (p1 &&& (3 : Int32)))] [(.int ((55296 : Int32) ||| (p2 &&& (1023 : Int32))))])) _
    refine XS.i2c X0.here hx rfl (hb hby d1_16) rfl ?_
    show Steps p.tables e below (s₁.setTop (mkF m 17 #[.val (.int p1), .val (.int p2), .val (.int (p1 &&& (3 : Int32)))] [(.int (((55296 : Int32) ||| (p2 &&& (1023 : Int32))).toUInt32.toUInt16.toUInt32.toInt32))])) _
    exact retN X0 hx (t := .char) Bd.returns (by simp) (hb hby d1_17) hr
  · show QP h0 n0 _ s₁.heap _
    rw [e0]
    exact ⟨_, rfl, own_i2c _, N0, rfl⟩
set_option maxRecDepth 65536 in
set_option maxHeartbeats 40000000 in
theorem rm_pickB (l : Launch) (Z : State) (a0 : Array Value) (hw : ∀ d ∈ tables_1, d.before a0 Z = true) (ws : List Jvm.Cond) (p1 : Int32) (p2 : Int32) (h0 : Heap) (n0 : Nat) (Z0 : n0 ≤ h0.size) (hb5 : ¬ (p1 &&& (3 : Int32)) = (0 : Int32)) (hb20 : (p1 &&& (3 : Int32)) = (1 : Int32)) :
    MetFree l (⟨"com/example/cellwright/cellwright/hive/DecoderFinishPinLaw", "pick", "(II)C"⟩ : MethodName) (head1 (Jvm.Cond.code (⟨"com/example/cellwright/cellwright/hive/DecoderFinishPinLaw", "pick", "(II)C"⟩ : MethodName) method_2_code 3 (some .char) :: ws) ({ frames := 0, cells := 0, slots := 0, locals := 0 } : Room)) (fun a U => a = #[(.int p1), (.int p2)] ∧ Z.Warmed39 U.vm ∧ U.heap = h0) (fun _ _ _ _ _ => True) (fun _ U o U' => ∃ v L, o = .returned v ∧ QP h0 n0 v U'.heap L ∧ FrameEnd U o U' L ({ frames := 0, cells := 0, slots := 0, locals := 0 } : Room).cells ({ frames := 0, cells := 0, slots := 0, locals := 0 } : Room).slots) := by
  refine MetFree.of_bodySF (plainFor_of_name own_pn0) hisR ?_
  intro p e s m args below meth c s₁ Bd hml0 hP hK
  obtain ⟨rfl, hZ, hh⟩ := hP
  have hx := Bd.exec
  have hby := Bd.bytes
  have hml : c.maxLocals = 3 := hml0
  have hown : s.vm.findClass "com/example/cellwright/cellwright/hive/DecoderFinishPinLaw" = some m.cls := findClass_of_methodNamed Bd.named
  have hnm := (name_of_methodNamed Bd.named Bd.method).1
  have X0 : Stand p l e ({ frames := 0, cells := 0, slots := 0, locals := 0 } : Room) s m #[(.int p1), (.int p2)] below meth c s₁ [] 0 0 := Stand.of_body Bd
  have e0 : s₁.heap = h0 := by rw [← hh, Bd.state]; rfl
  have N0 := Fr.nil n0
  have ef : entryFrame m #[(.int p1), (.int p2)] 3 = mkF m 0 #[.val (.int p1), .val (.int p2), .unset] [] := by first | (simp [entryFrame, mkF, argsToLocals, Value.category]; done) | rfl
  have pre0 : ∀ t, Steps p.tables e below (s₁.setTop (mkF m 0 #[.val (.int p1), .val (.int p2), .unset] [])) t → Steps p.tables e below (s₁.setTop (entryFrame m #[(.int p1), (.int p2)] 3)) t := fun t k => castTop ef k
  obtain ⟨fs, hr, hrun, hended, hW, hsame⟩ := X0.leave (v := some (.int ((((56320 : Int32) ||| (p2 &&& (1023 : Int32))).toUInt32.toUInt16.toUInt32.toInt32).toUInt32.toUInt16.toUInt32.toInt32))) (fun h => by rw [Bd.returns] at h; cases h)
  refine ⟨_, _, pre0 _ ?_, hrun, hended, _, _, rfl, ?_, ⟨_, rfl⟩, hW, hsame.mono (by decide) (by decide)⟩
  · show Steps p.tables e below (s₁.setTop (mkF m 0 #[.val (.int p1), .val (.int p2), .unset] [])) _
    refine XS.iloadN X0.here hx rfl (hb hby d1_0) rfl ?_
    show Steps p.tables e below (s₁.setTop (mkF m 1 #[.val (.int p1), .val (.int p2), .unset] [(.int p1)])) _
    refine XS.iconst X0.here hx rfl (hb hby d1_1) ?_
    show Steps p.tables e below (s₁.setTop (mkF m 2 #[.val (.int p1), .val (.int p2), .unset] [(.int (3 : Int32)), (.int p1)])) _
    refine XS.iand X0.here hx rfl (hb hby d1_2) rfl ?_
    show Steps p.tables e below (s₁.setTop (mkF m 3 #[.val (.int p1), .val (.int p2), .unset] [(.int (p1 &&& (3 : Int32)))])) _
    refine XS.istoreN X0.here hx rfl (hb hby d1_3) rfl (l' := #[.val (.int p1), .val (.int p2), .val (.int (p1 &&& (3 : Int32)))]) rfl ?_
    show Steps p.tables e below (s₁.setTop (mkF m 4 #[.val (.int p1), .val (.int p2), .val (.int (p1 &&& (3 : Int32)))] [])) _
    refine XS.iloadN X0.here hx rfl (hb hby d1_4) rfl ?_
    show Steps p.tables e below (s₁.setTop (mkF m 5 #[.val (.int p1), .val (.int p2), .val (.int (p1 &&& (3 : Int32)))] [(.int (p1 &&& (3 : Int32)))])) _
    refine XS.ifYes X0.here hx rfl (pc0 := 5) (pc' := 18) rfl (hb hby d1_5) rfl ((if0 _ _).trans (feq hb5).2) (by decide) (by decide) ?_
    show Steps p.tables e below (s₁.setTop (mkF m 18 #[.val (.int p1), .val (.int p2), .val (.int (p1 &&& (3 : Int32)))] [])) _
    refine XS.iloadN X0.here hx rfl (hb hby d1_18) rfl ?_
    show Steps p.tables e below (s₁.setTop (mkF m 19 #[.val (.int p1), .val (.int p2), .val (.int (p1 &&& (3 : Int32)))] [(.int (p1 &&& (3 : Int32)))])) _
    refine XS.iconst X0.here hx rfl (hb hby d1_19) ?_
    show Steps p.tables e below (s₁.setTop (mkF m 20 #[.val (.int p1), .val (.int p2), .val (.int (p1 &&& (3 : Int32)))] [(.int (1 : Int32)), (.int (p1 &&& (3 : Int32)))])) _
    refine XS.icmpNo X0.here hx rfl (hb hby d1_20) rfl (teq hb20).2 ?_
    show Steps p.tables e below (s₁.setTop (mkF m 23 #[.val (.int p1), .val (.int p2), .val (.int (p1 &&& (3 : Int32)))] [])) _
    refine X0.ldcInt hx hown (mvT hZ (hw _ (List.mem_of_getElem? (i := 48) rfl))) (g := (mkF m 23 #[.val (.int p1), .val (.int p2), .val (.int (p1 &&& (3 : Int32)))] [])) rfl (hb hby d1_23) _ ?_
    show Steps p.tables e below (s₁.setTop (mkF m 25 #[.val (.int p1), .val (.int p2), .val (.int (p1 &&& (3 : Int32)))] [(.int (56320 : Int32))])) _
    refine XS.iloadN X0.here hx rfl (hb hby d1_25) rfl ?_
    show Steps p.tables e below (s₁.setTop (mkF m 26 #[.val (.int p1), .val (.int p2), .val (.int (p1 &&& (3 : Int32)))] [(.int p2), (.int (56320 : Int32))])) _
    refine XS.sipush X0.here hx rfl (hb hby d1_26) ?_
    show Steps p.tables e below (s₁.setTop (mkF m 29 #[.val (.int p1), .val (.int p2), .val (.int (p1 &&& (3 : Int32)))] [(.int (1023 : Int32)), (.int p2), (.int (56320 : Int32))])) _
    refine XS.iand X0.here hx rfl (hb hby d1_29) rfl ?_
    show Steps p.tables e below (s₁.setTop (mkF m 30 #[.val (.int p1), .val (.int p2), .val (.int (p1 &&& (3 : Int32)))] [(.int (p2 &&& (1023 : Int32))), (.int (56320 : Int32))])) _
    refine XS.ior X0.here hx rfl (hb hby d1_30) rfl ?_
    show Steps p.tables e below (s₁.setTop (mkF m 31 #[.val (.int p1), .val (.int p2), .val (.int (p1 &&& (3 : Int32)))] [(.int ((56320 : Int32) ||| (p2 &&& (1023 : Int32))))])) _
    refine XS.i2c X0.here hx rfl (hb hby d1_31) rfl ?_
    show Steps p.tables e below (s₁.setTop (mkF m 32 #[.val (.int p1), .val (.int p2), .val (.int (p1 &&& (3 : Int32)))] [(.int (((56320 : Int32) ||| (p2 &&& (1023 : Int32))).toUInt32.toUInt16.toUInt32.toInt32))])) _
    exact retN X0 hx (t := .char) Bd.returns (by simp) (hb hby d1_32) hr
  · show QP h0 n0 _ s₁.heap _
    rw [e0]
    exact ⟨_, rfl, own_i2c _, N0, rfl⟩
set_option maxRecDepth 65536 in
set_option maxHeartbeats 40000000 in
theorem rm_pickC (l : Launch) (Z : State) (a0 : Array Value) (hw : ∀ d ∈ tables_1, d.before a0 Z = true) (ws : List Jvm.Cond) (p1 : Int32) (p2 : Int32) (h0 : Heap) (n0 : Nat) (Z0 : n0 ≤ h0.size) (hb5 : ¬ (p1 &&& (3 : Int32)) = (0 : Int32)) (hb20 : ¬ (p1 &&& (3 : Int32)) = (1 : Int32)) :
    MetFree l (⟨"com/example/cellwright/cellwright/hive/DecoderFinishPinLaw", "pick", "(II)C"⟩ : MethodName) (head1 (Jvm.Cond.code (⟨"com/example/cellwright/cellwright/hive/DecoderFinishPinLaw", "pick", "(II)C"⟩ : MethodName) method_2_code 3 (some .char) :: ws) ({ frames := 0, cells := 0, slots := 0, locals := 0 } : Room)) (fun a U => a = #[(.int p1), (.int p2)] ∧ Z.Warmed39 U.vm ∧ U.heap = h0) (fun _ _ _ _ _ => True) (fun _ U o U' => ∃ v L, o = .returned v ∧ QP h0 n0 v U'.heap L ∧ FrameEnd U o U' L ({ frames := 0, cells := 0, slots := 0, locals := 0 } : Room).cells ({ frames := 0, cells := 0, slots := 0, locals := 0 } : Room).slots) := by
  refine MetFree.of_bodySF (plainFor_of_name own_pn0) hisR ?_
  intro p e s m args below meth c s₁ Bd hml0 hP hK
  obtain ⟨rfl, hZ, hh⟩ := hP
  have hx := Bd.exec
  have hby := Bd.bytes
  have hml : c.maxLocals = 3 := hml0
  have hown : s.vm.findClass "com/example/cellwright/cellwright/hive/DecoderFinishPinLaw" = some m.cls := findClass_of_methodNamed Bd.named
  have hnm := (name_of_methodNamed Bd.named Bd.method).1
  have X0 : Stand p l e ({ frames := 0, cells := 0, slots := 0, locals := 0 } : Room) s m #[(.int p1), (.int p2)] below meth c s₁ [] 0 0 := Stand.of_body Bd
  have e0 : s₁.heap = h0 := by rw [← hh, Bd.state]; rfl
  have N0 := Fr.nil n0
  have ef : entryFrame m #[(.int p1), (.int p2)] 3 = mkF m 0 #[.val (.int p1), .val (.int p2), .unset] [] := by first | (simp [entryFrame, mkF, argsToLocals, Value.category]; done) | rfl
  have pre0 : ∀ t, Steps p.tables e below (s₁.setTop (mkF m 0 #[.val (.int p1), .val (.int p2), .unset] [])) t → Steps p.tables e below (s₁.setTop (entryFrame m #[(.int p1), (.int p2)] 3)) t := fun t k => castTop ef k
  obtain ⟨fs, hr, hrun, hended, hW, hsame⟩ := X0.leave (v := some (.int ((p2.toUInt32.toUInt16.toUInt32.toInt32).toUInt32.toUInt16.toUInt32.toInt32))) (fun h => by rw [Bd.returns] at h; cases h)
  refine ⟨_, _, pre0 _ ?_, hrun, hended, _, _, rfl, ?_, ⟨_, rfl⟩, hW, hsame.mono (by decide) (by decide)⟩
  · show Steps p.tables e below (s₁.setTop (mkF m 0 #[.val (.int p1), .val (.int p2), .unset] [])) _
    refine XS.iloadN X0.here hx rfl (hb hby d1_0) rfl ?_
    show Steps p.tables e below (s₁.setTop (mkF m 1 #[.val (.int p1), .val (.int p2), .unset] [(.int p1)])) _
    refine XS.iconst X0.here hx rfl (hb hby d1_1) ?_
    show Steps p.tables e below (s₁.setTop (mkF m 2 #[.val (.int p1), .val (.int p2), .unset] [(.int (3 : Int32)), (.int p1)])) _
    refine XS.iand X0.here hx rfl (hb hby d1_2) rfl ?_
    show Steps p.tables e below (s₁.setTop (mkF m 3 #[.val (.int p1), .val (.int p2), .unset] [(.int (p1 &&& (3 : Int32)))])) _
    refine XS.istoreN X0.here hx rfl (hb hby d1_3) rfl (l' := #[.val (.int p1), .val (.int p2), .val (.int (p1 &&& (3 : Int32)))]) rfl ?_
    show Steps p.tables e below (s₁.setTop (mkF m 4 #[.val (.int p1), .val (.int p2), .val (.int (p1 &&& (3 : Int32)))] [])) _
    refine XS.iloadN X0.here hx rfl (hb hby d1_4) rfl ?_
    show Steps p.tables e below (s₁.setTop (mkF m 5 #[.val (.int p1), .val (.int p2), .val (.int (p1 &&& (3 : Int32)))] [(.int (p1 &&& (3 : Int32)))])) _
    refine XS.ifYes X0.here hx rfl (pc0 := 5) (pc' := 18) rfl (hb hby d1_5) rfl ((if0 _ _).trans (feq hb5).2) (by decide) (by decide) ?_
    show Steps p.tables e below (s₁.setTop (mkF m 18 #[.val (.int p1), .val (.int p2), .val (.int (p1 &&& (3 : Int32)))] [])) _
    refine XS.iloadN X0.here hx rfl (hb hby d1_18) rfl ?_
    show Steps p.tables e below (s₁.setTop (mkF m 19 #[.val (.int p1), .val (.int p2), .val (.int (p1 &&& (3 : Int32)))] [(.int (p1 &&& (3 : Int32)))])) _
    refine XS.iconst X0.here hx rfl (hb hby d1_19) ?_
    show Steps p.tables e below (s₁.setTop (mkF m 20 #[.val (.int p1), .val (.int p2), .val (.int (p1 &&& (3 : Int32)))] [(.int (1 : Int32)), (.int (p1 &&& (3 : Int32)))])) _
    refine XS.icmpYes X0.here hx rfl (pc0 := 20) (pc' := 33) rfl (hb hby d1_20) rfl (feq hb20).2 (by decide) (by decide) ?_
    show Steps p.tables e below (s₁.setTop (mkF m 33 #[.val (.int p1), .val (.int p2), .val (.int (p1 &&& (3 : Int32)))] [])) _
    refine XS.iloadN X0.here hx rfl (hb hby d1_33) rfl ?_
    show Steps p.tables e below (s₁.setTop (mkF m 34 #[.val (.int p1), .val (.int p2), .val (.int (p1 &&& (3 : Int32)))] [(.int p2)])) _
    refine XS.i2c X0.here hx rfl (hb hby d1_34) rfl ?_
    show Steps p.tables e below (s₁.setTop (mkF m 35 #[.val (.int p1), .val (.int p2), .val (.int (p1 &&& (3 : Int32)))] [(.int (p2.toUInt32.toUInt16.toUInt32.toInt32))])) _
    exact retN X0 hx (t := .char) Bd.returns (by simp) (hb hby d1_35) hr
  · show QP h0 n0 _ s₁.heap _
    rw [e0]
    exact ⟨_, rfl, own_i2c _, N0, rfl⟩
set_option maxRecDepth 65536 in
set_option maxHeartbeats 40000000 in
theorem rm_pick (l : Launch) (Z : State) (a0 : Array Value) (hw : ∀ d ∈ tables_1, d.before a0 Z = true) (ws : List Jvm.Cond) (p1 : Int32) (p2 : Int32) (h0 : Heap) (n0 : Nat) (Z0 : n0 ≤ h0.size)  :
    MetFree l (⟨"com/example/cellwright/cellwright/hive/DecoderFinishPinLaw", "pick", "(II)C"⟩ : MethodName) (head1 (Jvm.Cond.code (⟨"com/example/cellwright/cellwright/hive/DecoderFinishPinLaw", "pick", "(II)C"⟩ : MethodName) method_2_code 3 (some .char) :: ws) ({ frames := 0, cells := 0, slots := 0, locals := 0 } : Room)) (fun a U => a = #[(.int p1), (.int p2)] ∧ Z.Warmed39 U.vm ∧ U.heap = h0) (fun _ _ _ _ _ => True) (fun _ U o U' => ∃ v L, o = .returned v ∧ QP h0 n0 v U'.heap L ∧ FrameEnd U o U' L ({ frames := 0, cells := 0, slots := 0, locals := 0 } : Room).cells ({ frames := 0, cells := 0, slots := 0, locals := 0 } : Room).slots) := by
  by_cases hb5 : (p1 &&& (3 : Int32)) = (0 : Int32)
  · exact rm_pickA l Z a0 hw ws p1 p2 h0 n0 Z0 hb5
  · by_cases hb20 : (p1 &&& (3 : Int32)) = (1 : Int32)
    · exact rm_pickB l Z a0 hw ws p1 p2 h0 n0 Z0 hb5 hb20
    · exact rm_pickC l Z a0 hw ws p1 p2 h0 n0 Z0 hb5 hb20
theorem own_l1 : ((55296 : Int32)).toInt = 55296 := rfl
theorem own_l2 : ((56319 : Int32)).toInt = 56319 := rfl
theorem own_l3 : ((56320 : Int32)).toInt = 56320 := rfl
theorem own_l4 : ((57343 : Int32)).toInt = 57343 := rfl
theorem own_l5 : ((57344 : Int32)).toInt = 57344 := rfl
set_option maxRecDepth 65536 in
set_option maxHeartbeats 40000000 in
theorem rm_ihsH (l : Launch) (Z : State) (a0 : Array Value) (hw : ∀ d ∈ tables_1, d.before a0 Z = true) (ws : List Jvm.Cond) (cu : Int32) (h0 : Heap) (n0 : Nat) (Z0 : n0 ≤ h0.size) (h1 : ¬ cu < (55296 : Int32)) (h2 : ¬ (56319 : Int32) < cu) :
    MetFree l (⟨"java/lang/Character", "isHighSurrogate", "(C)Z"⟩ : MethodName) (head1 (Jvm.Cond.code (⟨"java/lang/Character", "isHighSurrogate", "(C)Z"⟩ : MethodName) jdk_89_method_14_code 1 (some .boolean) :: ws) ({ frames := 0, cells := 0, slots := 0, locals := 0 } : Room)) (fun a U => a = #[(.int cu)] ∧ Z.Warmed39 U.vm ∧ U.heap = h0) (fun _ _ _ _ _ => True) (fun _ U o U' => ∃ v L, o = .returned v ∧ QN (1 : Int32) h0 n0 v U'.heap L ∧ FrameEnd U o U' L ({ frames := 0, cells := 0, slots := 0, locals := 0 } : Room).cells ({ frames := 0, cells := 0, slots := 0, locals := 0 } : Room).slots) := by
  refine MetFree.of_bodySF (plainFor_of_name own_pn1) hisR ?_
  intro p e s m args below meth c s₁ Bd hml0 hP hK
  obtain ⟨rfl, hZ, hh⟩ := hP
  have hx := Bd.exec
  have hby := Bd.bytes
  have hml : c.maxLocals = 1 := hml0
  have hown : s.vm.findClass "java/lang/Character" = some m.cls := findClass_of_methodNamed Bd.named
  have hnm := (name_of_methodNamed Bd.named Bd.method).1
  have X0 : Stand p l e ({ frames := 0, cells := 0, slots := 0, locals := 0 } : Room) s m #[(.int cu)] below meth c s₁ [] 0 0 := Stand.of_body Bd
  have e0 : s₁.heap = h0 := by rw [← hh, Bd.state]; rfl
  have N0 := Fr.nil n0
  have ef : entryFrame m #[(.int cu)] 1 = mkF m 0 #[.val (.int cu)] [] := by first | (simp [entryFrame, mkF, argsToLocals, Value.category]; done) | rfl
  have pre0 : ∀ t, Steps p.tables e below (s₁.setTop (mkF m 0 #[.val (.int cu)] [])) t → Steps p.tables e below (s₁.setTop (entryFrame m #[(.int cu)] 1)) t := fun t k => castTop ef k
  have hb3 : ¬ cu < (55296 : Int32) := by simp only [Int32.lt_iff_toInt_lt, own_l1, own_l2, own_l3, own_l4, own_l5] at *; omega
  have hb9 : cu < (56320 : Int32) := by simp only [Int32.lt_iff_toInt_lt, own_l1, own_l2, own_l3, own_l4, own_l5] at *; omega
  obtain ⟨fs, hr, hrun, hended, hW, hsame⟩ := X0.leave (v := some (.int (1 : Int32))) (fun h => by rw [Bd.returns] at h; cases h)
  refine ⟨_, _, pre0 _ ?_, hrun, hended, _, _, rfl, ?_, ⟨_, rfl⟩, hW, hsame.mono (by decide) (by decide)⟩
  · show Steps p.tables e below (s₁.setTop (mkF m 0 #[.val (.int cu)] [])) _
    refine XS.iloadN X0.here hx rfl (hb hby d8_0) rfl ?_
    show Steps p.tables e below (s₁.setTop (mkF m 1 #[.val (.int cu)] [(.int cu)])) _
    refine X0.ldcInt hx hown (mvT hZ (hw _ (List.mem_of_getElem? (i := 43) rfl))) (g := (mkF m 1 #[.val (.int cu)] [(.int cu)])) rfl (hb hby d8_1) _ ?_
    show Steps p.tables e below (s₁.setTop (mkF m 3 #[.val (.int cu)] [(.int (55296 : Int32)), (.int cu)])) _
    refine XS.icmpNo X0.here hx rfl (hb hby d8_3) rfl (flt hb3).1 ?_
    show Steps p.tables e below (s₁.setTop (mkF m 6 #[.val (.int cu)] [])) _
    refine XS.iloadN X0.here hx rfl (hb hby d8_6) rfl ?_
    show Steps p.tables e below (s₁.setTop (mkF m 7 #[.val (.int cu)] [(.int cu)])) _
    refine X0.ldcInt hx hown (mvT hZ (hw _ (List.mem_of_getElem? (i := 44) rfl))) (g := (mkF m 7 #[.val (.int cu)] [(.int cu)])) rfl (hb hby d8_7) _ ?_
    show Steps p.tables e below (s₁.setTop (mkF m 9 #[.val (.int cu)] [(.int (56320 : Int32)), (.int cu)])) _
    refine XS.icmpNo X0.here hx rfl (hb hby d8_9) rfl (tlt hb9).2.1 ?_
    show Steps p.tables e below (s₁.setTop (mkF m 12 #[.val (.int cu)] [])) _
    refine XS.iconst X0.here hx rfl (hb hby d8_12) ?_
    show Steps p.tables e below (s₁.setTop (mkF m 13 #[.val (.int cu)] [(.int (1 : Int32))])) _
    refine XS.goto X0.here hx rfl (pc0 := 13) (pc' := 17) rfl (hb hby d8_13) (by decide) (by decide) ?_
    show Steps p.tables e below (s₁.setTop (mkF m 17 #[.val (.int cu)] [(.int (1 : Int32))])) _
    exact retN X0 hx (t := .boolean) Bd.returns (by simp) (hb hby d8_17) hr
  · show QN (1 : Int32) h0 n0 _ s₁.heap _
    rw [e0]
    exact ⟨rfl, N0, rfl⟩
set_option maxRecDepth 65536 in
set_option maxHeartbeats 40000000 in
theorem rm_ihsL (l : Launch) (Z : State) (a0 : Array Value) (hw : ∀ d ∈ tables_1, d.before a0 Z = true) (ws : List Jvm.Cond) (cu : Int32) (h0 : Heap) (n0 : Nat) (Z0 : n0 ≤ h0.size) (h1 : ¬ cu < (56320 : Int32)) (h2 : ¬ (57343 : Int32) < cu) :
    MetFree l (⟨"java/lang/Character", "isHighSurrogate", "(C)Z"⟩ : MethodName) (head1 (Jvm.Cond.code (⟨"java/lang/Character", "isHighSurrogate", "(C)Z"⟩ : MethodName) jdk_89_method_14_code 1 (some .boolean) :: ws) ({ frames := 0, cells := 0, slots := 0, locals := 0 } : Room)) (fun a U => a = #[(.int cu)] ∧ Z.Warmed39 U.vm ∧ U.heap = h0) (fun _ _ _ _ _ => True) (fun _ U o U' => ∃ v L, o = .returned v ∧ QN (0 : Int32) h0 n0 v U'.heap L ∧ FrameEnd U o U' L ({ frames := 0, cells := 0, slots := 0, locals := 0 } : Room).cells ({ frames := 0, cells := 0, slots := 0, locals := 0 } : Room).slots) := by
  refine MetFree.of_bodySF (plainFor_of_name own_pn1) hisR ?_
  intro p e s m args below meth c s₁ Bd hml0 hP hK
  obtain ⟨rfl, hZ, hh⟩ := hP
  have hx := Bd.exec
  have hby := Bd.bytes
  have hml : c.maxLocals = 1 := hml0
  have hown : s.vm.findClass "java/lang/Character" = some m.cls := findClass_of_methodNamed Bd.named
  have hnm := (name_of_methodNamed Bd.named Bd.method).1
  have X0 : Stand p l e ({ frames := 0, cells := 0, slots := 0, locals := 0 } : Room) s m #[(.int cu)] below meth c s₁ [] 0 0 := Stand.of_body Bd
  have e0 : s₁.heap = h0 := by rw [← hh, Bd.state]; rfl
  have N0 := Fr.nil n0
  have ef : entryFrame m #[(.int cu)] 1 = mkF m 0 #[.val (.int cu)] [] := by first | (simp [entryFrame, mkF, argsToLocals, Value.category]; done) | rfl
  have pre0 : ∀ t, Steps p.tables e below (s₁.setTop (mkF m 0 #[.val (.int cu)] [])) t → Steps p.tables e below (s₁.setTop (entryFrame m #[(.int cu)] 1)) t := fun t k => castTop ef k
  have hb3 : ¬ cu < (55296 : Int32) := by simp only [Int32.lt_iff_toInt_lt, own_l1, own_l2, own_l3, own_l4, own_l5] at *; omega
  have hb9 : ¬ cu < (56320 : Int32) := by simp only [Int32.lt_iff_toInt_lt, own_l1, own_l2, own_l3, own_l4, own_l5] at *; omega
  obtain ⟨fs, hr, hrun, hended, hW, hsame⟩ := X0.leave (v := some (.int (0 : Int32))) (fun h => by rw [Bd.returns] at h; cases h)
  refine ⟨_, _, pre0 _ ?_, hrun, hended, _, _, rfl, ?_, ⟨_, rfl⟩, hW, hsame.mono (by decide) (by decide)⟩
  · show Steps p.tables e below (s₁.setTop (mkF m 0 #[.val (.int cu)] [])) _
    refine XS.iloadN X0.here hx rfl (hb hby d8_0) rfl ?_
    show Steps p.tables e below (s₁.setTop (mkF m 1 #[.val (.int cu)] [(.int cu)])) _
    refine X0.ldcInt hx hown (mvT hZ (hw _ (List.mem_of_getElem? (i := 43) rfl))) (g := (mkF m 1 #[.val (.int cu)] [(.int cu)])) rfl (hb hby d8_1) _ ?_
    show Steps p.tables e below (s₁.setTop (mkF m 3 #[.val (.int cu)] [(.int (55296 : Int32)), (.int cu)])) _
    refine XS.icmpNo X0.here hx rfl (hb hby d8_3) rfl (flt hb3).1 ?_
    show Steps p.tables e below (s₁.setTop (mkF m 6 #[.val (.int cu)] [])) _
    refine XS.iloadN X0.here hx rfl (hb hby d8_6) rfl ?_
    show Steps p.tables e below (s₁.setTop (mkF m 7 #[.val (.int cu)] [(.int cu)])) _
    refine X0.ldcInt hx hown (mvT hZ (hw _ (List.mem_of_getElem? (i := 44) rfl))) (g := (mkF m 7 #[.val (.int cu)] [(.int cu)])) rfl (hb hby d8_7) _ ?_
    show Steps p.tables e below (s₁.setTop (mkF m 9 #[.val (.int cu)] [(.int (56320 : Int32)), (.int cu)])) _
    refine XS.icmpYes X0.here hx rfl (pc0 := 9) (pc' := 16) rfl (hb hby d8_9) rfl (flt hb9).2.1 (by decide) (by decide) ?_
    show Steps p.tables e below (s₁.setTop (mkF m 16 #[.val (.int cu)] [])) _
    refine XS.iconst X0.here hx rfl (hb hby d8_16) ?_
    show Steps p.tables e below (s₁.setTop (mkF m 17 #[.val (.int cu)] [(.int (0 : Int32))])) _
    exact retN X0 hx (t := .boolean) Bd.returns (by simp) (hb hby d8_17) hr
  · show QN (0 : Int32) h0 n0 _ s₁.heap _
    rw [e0]
    exact ⟨rfl, N0, rfl⟩
set_option maxRecDepth 65536 in
set_option maxHeartbeats 40000000 in
theorem rm_ilsL (l : Launch) (Z : State) (a0 : Array Value) (hw : ∀ d ∈ tables_1, d.before a0 Z = true) (ws : List Jvm.Cond) (cu : Int32) (h0 : Heap) (n0 : Nat) (Z0 : n0 ≤ h0.size) (h1 : ¬ cu < (56320 : Int32)) (h2 : ¬ (57343 : Int32) < cu) :
    MetFree l (⟨"java/lang/Character", "isLowSurrogate", "(C)Z"⟩ : MethodName) (head1 (Jvm.Cond.code (⟨"java/lang/Character", "isLowSurrogate", "(C)Z"⟩ : MethodName) jdk_89_method_15_code 1 (some .boolean) :: ws) ({ frames := 0, cells := 0, slots := 0, locals := 0 } : Room)) (fun a U => a = #[(.int cu)] ∧ Z.Warmed39 U.vm ∧ U.heap = h0) (fun _ _ _ _ _ => True) (fun _ U o U' => ∃ v L, o = .returned v ∧ QN (1 : Int32) h0 n0 v U'.heap L ∧ FrameEnd U o U' L ({ frames := 0, cells := 0, slots := 0, locals := 0 } : Room).cells ({ frames := 0, cells := 0, slots := 0, locals := 0 } : Room).slots) := by
  refine MetFree.of_bodySF (plainFor_of_name own_pn1) hisR ?_
  intro p e s m args below meth c s₁ Bd hml0 hP hK
  obtain ⟨rfl, hZ, hh⟩ := hP
  have hx := Bd.exec
  have hby := Bd.bytes
  have hml : c.maxLocals = 1 := hml0
  have hown : s.vm.findClass "java/lang/Character" = some m.cls := findClass_of_methodNamed Bd.named
  have hnm := (name_of_methodNamed Bd.named Bd.method).1
  have X0 : Stand p l e ({ frames := 0, cells := 0, slots := 0, locals := 0 } : Room) s m #[(.int cu)] below meth c s₁ [] 0 0 := Stand.of_body Bd
  have e0 : s₁.heap = h0 := by rw [← hh, Bd.state]; rfl
  have N0 := Fr.nil n0
  have ef : entryFrame m #[(.int cu)] 1 = mkF m 0 #[.val (.int cu)] [] := by first | (simp [entryFrame, mkF, argsToLocals, Value.category]; done) | rfl
  have pre0 : ∀ t, Steps p.tables e below (s₁.setTop (mkF m 0 #[.val (.int cu)] [])) t → Steps p.tables e below (s₁.setTop (entryFrame m #[(.int cu)] 1)) t := fun t k => castTop ef k
  have hb3 : ¬ cu < (56320 : Int32) := by simp only [Int32.lt_iff_toInt_lt, own_l1, own_l2, own_l3, own_l4, own_l5] at *; omega
  have hb9 : cu < (57344 : Int32) := by simp only [Int32.lt_iff_toInt_lt, own_l1, own_l2, own_l3, own_l4, own_l5] at *; omega
  obtain ⟨fs, hr, hrun, hended, hW, hsame⟩ := X0.leave (v := some (.int (1 : Int32))) (fun h => by rw [Bd.returns] at h; cases h)
  refine ⟨_, _, pre0 _ ?_, hrun, hended, _, _, rfl, ?_, ⟨_, rfl⟩, hW, hsame.mono (by decide) (by decide)⟩
  · show Steps p.tables e below (s₁.setTop (mkF m 0 #[.val (.int cu)] [])) _
    refine XS.iloadN X0.here hx rfl (hb hby d9_0) rfl ?_
    show Steps p.tables e below (s₁.setTop (mkF m 1 #[.val (.int cu)] [(.int cu)])) _
    refine X0.ldcInt hx hown (mvT hZ (hw _ (List.mem_of_getElem? (i := 44) rfl))) (g := (mkF m 1 #[.val (.int cu)] [(.int cu)])) rfl (hb hby d9_1) _ ?_
    show Steps p.tables e below (s₁.setTop (mkF m 3 #[.val (.int cu)] [(.int (56320 : Int32)), (.int cu)])) _
    refine XS.icmpNo X0.here hx rfl (hb hby d9_3) rfl (flt hb3).1 ?_
    show Steps p.tables e below (s₁.setTop (mkF m 6 #[.val (.int cu)] [])) _
    refine XS.iloadN X0.here hx rfl (hb hby d9_6) rfl ?_
    show Steps p.tables e below (s₁.setTop (mkF m 7 #[.val (.int cu)] [(.int cu)])) _
    refine X0.ldcInt hx hown (mvT hZ (hw _ (List.mem_of_getElem? (i := 52) rfl))) (g := (mkF m 7 #[.val (.int cu)] [(.int cu)])) rfl (hb hby d9_7) _ ?_
    show Steps p.tables e below (s₁.setTop (mkF m 9 #[.val (.int cu)] [(.int (57344 : Int32)), (.int cu)])) _
    refine XS.icmpNo X0.here hx rfl (hb hby d9_9) rfl (tlt hb9).2.1 ?_
    show Steps p.tables e below (s₁.setTop (mkF m 12 #[.val (.int cu)] [])) _
    refine XS.iconst X0.here hx rfl (hb hby d9_12) ?_
    show Steps p.tables e below (s₁.setTop (mkF m 13 #[.val (.int cu)] [(.int (1 : Int32))])) _
    refine XS.goto X0.here hx rfl (pc0 := 13) (pc' := 17) rfl (hb hby d9_13) (by decide) (by decide) ?_
    show Steps p.tables e below (s₁.setTop (mkF m 17 #[.val (.int cu)] [(.int (1 : Int32))])) _
    exact retN X0 hx (t := .boolean) Bd.returns (by simp) (hb hby d9_17) hr
  · show QN (1 : Int32) h0 n0 _ s₁.heap _
    rw [e0]
    exact ⟨rfl, N0, rfl⟩
set_option maxRecDepth 65536 in
set_option maxHeartbeats 40000000 in
theorem rm_ihH (l : Launch) (Z : State) (a0 : Array Value) (hw : ∀ d ∈ tables_1, d.before a0 Z = true) (ws : List Jvm.Cond) (cu : Int32) (h0 : Heap) (n0 : Nat) (Z0 : n0 ≤ h0.size) (h1 : ¬ cu < (55296 : Int32)) (h2 : ¬ (56319 : Int32) < cu) :
    MetFree l (⟨"com/example/cellwright/cellwright/hive/DecoderFinishPinLaw", "isHigh", "(C)Z"⟩ : MethodName) (head1 (Jvm.Cond.code (⟨"com/example/cellwright/cellwright/hive/DecoderFinishPinLaw", "isHigh", "(C)Z"⟩ : MethodName) method_3_code 1 (some .boolean) :: ws) ({ frames := 0, cells := 0, slots := 0, locals := 0 } : Room)) (fun a U => a = #[(.int cu)] ∧ Z.Warmed39 U.vm ∧ U.heap = h0) (fun _ _ _ _ _ => True) (fun _ U o U' => ∃ v L, o = .returned v ∧ QN (1 : Int32) h0 n0 v U'.heap L ∧ FrameEnd U o U' L ({ frames := 0, cells := 0, slots := 0, locals := 0 } : Room).cells ({ frames := 0, cells := 0, slots := 0, locals := 0 } : Room).slots) := by
  refine MetFree.of_bodySF (plainFor_of_name own_pn0) hisR ?_
  intro p e s m args below meth c s₁ Bd hml0 hP hK
  obtain ⟨rfl, hZ, hh⟩ := hP
  have hx := Bd.exec
  have hby := Bd.bytes
  have hml : c.maxLocals = 1 := hml0
  have hown : s.vm.findClass "com/example/cellwright/cellwright/hive/DecoderFinishPinLaw" = some m.cls := findClass_of_methodNamed Bd.named
  have hnm := (name_of_methodNamed Bd.named Bd.method).1
  have X0 : Stand p l e ({ frames := 0, cells := 0, slots := 0, locals := 0 } : Room) s m #[(.int cu)] below meth c s₁ [] 0 0 := Stand.of_body Bd
  have e0 : s₁.heap = h0 := by rw [← hh, Bd.state]; rfl
  have N0 := Fr.nil n0
  have ef : entryFrame m #[(.int cu)] 1 = mkF m 0 #[.val (.int cu)] [] := by first | (simp [entryFrame, mkF, argsToLocals, Value.category]; done) | rfl
  have pre0 : ∀ t, Steps p.tables e below (s₁.setTop (mkF m 0 #[.val (.int cu)] [])) t → Steps p.tables e below (s₁.setTop (entryFrame m #[(.int cu)] 1)) t := fun t k => castTop ef k
  have hb3 : ¬ cu < (55296 : Int32) := by simp only [Int32.lt_iff_toInt_lt, own_l1, own_l2, own_l3, own_l4, own_l5] at *; omega
  have hb9 : ¬ (56319 : Int32) < cu := by simp only [Int32.lt_iff_toInt_lt, own_l1, own_l2, own_l3, own_l4, own_l5] at *; omega
  obtain ⟨fs, hr, hrun, hended, hW, hsame⟩ := X0.leave (v := some (.int (1 : Int32))) (fun h => by rw [Bd.returns] at h; cases h)
  refine ⟨_, _, pre0 _ ?_, hrun, hended, _, _, rfl, ?_, ⟨_, rfl⟩, hW, hsame.mono (by decide) (by decide)⟩
  · show Steps p.tables e below (s₁.setTop (mkF m 0 #[.val (.int cu)] [])) _
    refine XS.iloadN X0.here hx rfl (hb hby d5_0) rfl ?_
    show Steps p.tables e below (s₁.setTop (mkF m 1 #[.val (.int cu)] [(.int cu)])) _
    refine X0.ldcInt hx hown (mvT hZ (hw _ (List.mem_of_getElem? (i := 4) rfl))) (g := (mkF m 1 #[.val (.int cu)] [(.int cu)])) rfl (hb hby d5_1) _ ?_
    show Steps p.tables e below (s₁.setTop (mkF m 3 #[.val (.int cu)] [(.int (55296 : Int32)), (.int cu)])) _
    refine XS.icmpNo X0.here hx rfl (hb hby d5_3) rfl (flt hb3).1 ?_
    show Steps p.tables e below (s₁.setTop (mkF m 6 #[.val (.int cu)] [])) _
    refine XS.iloadN X0.here hx rfl (hb hby d5_6) rfl ?_
    show Steps p.tables e below (s₁.setTop (mkF m 7 #[.val (.int cu)] [(.int cu)])) _
    refine X0.ldcInt hx hown (mvT hZ (hw _ (List.mem_of_getElem? (i := 45) rfl))) (g := (mkF m 7 #[.val (.int cu)] [(.int cu)])) rfl (hb hby d5_7) _ ?_
    show Steps p.tables e below (s₁.setTop (mkF m 9 #[.val (.int cu)] [(.int (56319 : Int32)), (.int cu)])) _
    refine XS.icmpNo X0.here hx rfl (hb hby d5_9) rfl (flt hb9).2.2.1 ?_
    show Steps p.tables e below (s₁.setTop (mkF m 12 #[.val (.int cu)] [])) _
    refine XS.iconst X0.here hx rfl (hb hby d5_12) ?_
    show Steps p.tables e below (s₁.setTop (mkF m 13 #[.val (.int cu)] [(.int (1 : Int32))])) _
    refine XS.goto X0.here hx rfl (pc0 := 13) (pc' := 17) rfl (hb hby d5_13) (by decide) (by decide) ?_
    show Steps p.tables e below (s₁.setTop (mkF m 17 #[.val (.int cu)] [(.int (1 : Int32))])) _
    exact retN X0 hx (t := .boolean) Bd.returns (by simp) (hb hby d5_17) hr
  · show QN (1 : Int32) h0 n0 _ s₁.heap _
    rw [e0]
    exact ⟨rfl, N0, rfl⟩
set_option maxRecDepth 65536 in
set_option maxHeartbeats 40000000 in
theorem rm_ihA (l : Launch) (Z : State) (a0 : Array Value) (hw : ∀ d ∈ tables_1, d.before a0 Z = true) (ws : List Jvm.Cond) (cu : Int32) (h0 : Heap) (n0 : Nat) (Z0 : n0 ≤ h0.size) (h1 : cu < (55296 : Int32)) :
    MetFree l (⟨"com/example/cellwright/cellwright/hive/DecoderFinishPinLaw", "isHigh", "(C)Z"⟩ : MethodName) (head1 (Jvm.Cond.code (⟨"com/example/cellwright/cellwright/hive/DecoderFinishPinLaw", "isHigh", "(C)Z"⟩ : MethodName) method_3_code 1 (some .boolean) :: ws) ({ frames := 0, cells := 0, slots := 0, locals := 0 } : Room)) (fun a U => a = #[(.int cu)] ∧ Z.Warmed39 U.vm ∧ U.heap = h0) (fun _ _ _ _ _ => True) (fun _ U o U' => ∃ v L, o = .returned v ∧ QN (0 : Int32) h0 n0 v U'.heap L ∧ FrameEnd U o U' L ({ frames := 0, cells := 0, slots := 0, locals := 0 } : Room).cells ({ frames := 0, cells := 0, slots := 0, locals := 0 } : Room).slots) := by
  refine MetFree.of_bodySF (plainFor_of_name own_pn0) hisR ?_
  intro p e s m args below meth c s₁ Bd hml0 hP hK
  obtain ⟨rfl, hZ, hh⟩ := hP
  have hx := Bd.exec
  have hby := Bd.bytes
  have hml : c.maxLocals = 1 := hml0
  have hown : s.vm.findClass "com/example/cellwright/cellwright/hive/DecoderFinishPinLaw" = some m.cls := findClass_of_methodNamed Bd.named
  have hnm := (name_of_methodNamed Bd.named Bd.method).1
  have X0 : Stand p l e ({ frames := 0, cells := 0, slots := 0, locals := 0 } : Room) s m #[(.int cu)] below meth c s₁ [] 0 0 := Stand.of_body Bd
  have e0 : s₁.heap = h0 := by rw [← hh, Bd.state]; rfl
  have N0 := Fr.nil n0
  have ef : entryFrame m #[(.int cu)] 1 = mkF m 0 #[.val (.int cu)] [] := by first | (simp [entryFrame, mkF, argsToLocals, Value.category]; done) | rfl
  have pre0 : ∀ t, Steps p.tables e below (s₁.setTop (mkF m 0 #[.val (.int cu)] [])) t → Steps p.tables e below (s₁.setTop (entryFrame m #[(.int cu)] 1)) t := fun t k => castTop ef k
  have hb3 : cu < (55296 : Int32) := by simp only [Int32.lt_iff_toInt_lt, own_l1, own_l2, own_l3, own_l4, own_l5] at *; omega
  obtain ⟨fs, hr, hrun, hended, hW, hsame⟩ := X0.leave (v := some (.int (0 : Int32))) (fun h => by rw [Bd.returns] at h; cases h)
  refine ⟨_, _, pre0 _ ?_, hrun, hended, _, _, rfl, ?_, ⟨_, rfl⟩, hW, hsame.mono (by decide) (by decide)⟩
  · show Steps p.tables e below (s₁.setTop (mkF m 0 #[.val (.int cu)] [])) _
    refine XS.iloadN X0.here hx rfl (hb hby d5_0) rfl ?_
    show Steps p.tables e below (s₁.setTop (mkF m 1 #[.val (.int cu)] [(.int cu)])) _
    refine X0.ldcInt hx hown (mvT hZ (hw _ (List.mem_of_getElem? (i := 4) rfl))) (g := (mkF m 1 #[.val (.int cu)] [(.int cu)])) rfl (hb hby d5_1) _ ?_
    show Steps p.tables e below (s₁.setTop (mkF m 3 #[.val (.int cu)] [(.int (55296 : Int32)), (.int cu)])) _
    refine XS.icmpYes X0.here hx rfl (pc0 := 3) (pc' := 16) rfl (hb hby d5_3) rfl (tlt hb3).1 (by decide) (by decide) ?_
    show Steps p.tables e below (s₁.setTop (mkF m 16 #[.val (.int cu)] [])) _
    refine XS.iconst X0.here hx rfl (hb hby d5_16) ?_
    show Steps p.tables e below (s₁.setTop (mkF m 17 #[.val (.int cu)] [(.int (0 : Int32))])) _
    exact retN X0 hx (t := .boolean) Bd.returns (by simp) (hb hby d5_17) hr
  · show QN (0 : Int32) h0 n0 _ s₁.heap _
    rw [e0]
    exact ⟨rfl, N0, rfl⟩
set_option maxRecDepth 65536 in
set_option maxHeartbeats 40000000 in
theorem rm_ihB (l : Launch) (Z : State) (a0 : Array Value) (hw : ∀ d ∈ tables_1, d.before a0 Z = true) (ws : List Jvm.Cond) (cu : Int32) (h0 : Heap) (n0 : Nat) (Z0 : n0 ≤ h0.size) (h1 : (56319 : Int32) < cu) :
    MetFree l (⟨"com/example/cellwright/cellwright/hive/DecoderFinishPinLaw", "isHigh", "(C)Z"⟩ : MethodName) (head1 (Jvm.Cond.code (⟨"com/example/cellwright/cellwright/hive/DecoderFinishPinLaw", "isHigh", "(C)Z"⟩ : MethodName) method_3_code 1 (some .boolean) :: ws) ({ frames := 0, cells := 0, slots := 0, locals := 0 } : Room)) (fun a U => a = #[(.int cu)] ∧ Z.Warmed39 U.vm ∧ U.heap = h0) (fun _ _ _ _ _ => True) (fun _ U o U' => ∃ v L, o = .returned v ∧ QN (0 : Int32) h0 n0 v U'.heap L ∧ FrameEnd U o U' L ({ frames := 0, cells := 0, slots := 0, locals := 0 } : Room).cells ({ frames := 0, cells := 0, slots := 0, locals := 0 } : Room).slots) := by
  refine MetFree.of_bodySF (plainFor_of_name own_pn0) hisR ?_
  intro p e s m args below meth c s₁ Bd hml0 hP hK
  obtain ⟨rfl, hZ, hh⟩ := hP
  have hx := Bd.exec
  have hby := Bd.bytes
  have hml : c.maxLocals = 1 := hml0
  have hown : s.vm.findClass "com/example/cellwright/cellwright/hive/DecoderFinishPinLaw" = some m.cls := findClass_of_methodNamed Bd.named
  have hnm := (name_of_methodNamed Bd.named Bd.method).1
  have X0 : Stand p l e ({ frames := 0, cells := 0, slots := 0, locals := 0 } : Room) s m #[(.int cu)] below meth c s₁ [] 0 0 := Stand.of_body Bd
  have e0 : s₁.heap = h0 := by rw [← hh, Bd.state]; rfl
  have N0 := Fr.nil n0
  have ef : entryFrame m #[(.int cu)] 1 = mkF m 0 #[.val (.int cu)] [] := by first | (simp [entryFrame, mkF, argsToLocals, Value.category]; done) | rfl
  have pre0 : ∀ t, Steps p.tables e below (s₁.setTop (mkF m 0 #[.val (.int cu)] [])) t → Steps p.tables e below (s₁.setTop (entryFrame m #[(.int cu)] 1)) t := fun t k => castTop ef k
  have hb3 : ¬ cu < (55296 : Int32) := by simp only [Int32.lt_iff_toInt_lt, own_l1, own_l2, own_l3, own_l4, own_l5] at *; omega
  have hb9 : (56319 : Int32) < cu := by simp only [Int32.lt_iff_toInt_lt, own_l1, own_l2, own_l3, own_l4, own_l5] at *; omega
  obtain ⟨fs, hr, hrun, hended, hW, hsame⟩ := X0.leave (v := some (.int (0 : Int32))) (fun h => by rw [Bd.returns] at h; cases h)
  refine ⟨_, _, pre0 _ ?_, hrun, hended, _, _, rfl, ?_, ⟨_, rfl⟩, hW, hsame.mono (by decide) (by decide)⟩
  · show Steps p.tables e below (s₁.setTop (mkF m 0 #[.val (.int cu)] [])) _
    refine XS.iloadN X0.here hx rfl (hb hby d5_0) rfl ?_
    show Steps p.tables e below (s₁.setTop (mkF m 1 #[.val (.int cu)] [(.int cu)])) _
    refine X0.ldcInt hx hown (mvT hZ (hw _ (List.mem_of_getElem? (i := 4) rfl))) (g := (mkF m 1 #[.val (.int cu)] [(.int cu)])) rfl (hb hby d5_1) _ ?_
    show Steps p.tables e below (s₁.setTop (mkF m 3 #[.val (.int cu)] [(.int (55296 : Int32)), (.int cu)])) _
    refine XS.icmpNo X0.here hx rfl (hb hby d5_3) rfl (flt hb3).1 ?_
    show Steps p.tables e below (s₁.setTop (mkF m 6 #[.val (.int cu)] [])) _
    refine XS.iloadN X0.here hx rfl (hb hby d5_6) rfl ?_
    show Steps p.tables e below (s₁.setTop (mkF m 7 #[.val (.int cu)] [(.int cu)])) _
    refine X0.ldcInt hx hown (mvT hZ (hw _ (List.mem_of_getElem? (i := 45) rfl))) (g := (mkF m 7 #[.val (.int cu)] [(.int cu)])) rfl (hb hby d5_7) _ ?_
    show Steps p.tables e below (s₁.setTop (mkF m 9 #[.val (.int cu)] [(.int (56319 : Int32)), (.int cu)])) _
    refine XS.icmpYes X0.here hx rfl (pc0 := 9) (pc' := 16) rfl (hb hby d5_9) rfl (tlt hb9).2.2.1 (by decide) (by decide) ?_
    show Steps p.tables e below (s₁.setTop (mkF m 16 #[.val (.int cu)] [])) _
    refine XS.iconst X0.here hx rfl (hb hby d5_16) ?_
    show Steps p.tables e below (s₁.setTop (mkF m 17 #[.val (.int cu)] [(.int (0 : Int32))])) _
    exact retN X0 hx (t := .boolean) Bd.returns (by simp) (hb hby d5_17) hr
  · show QN (0 : Int32) h0 n0 _ s₁.heap _
    rw [e0]
    exact ⟨rfl, N0, rfl⟩
set_option maxRecDepth 65536 in
set_option maxHeartbeats 40000000 in
theorem rm_ihN (l : Launch) (Z : State) (a0 : Array Value) (hw : ∀ d ∈ tables_1, d.before a0 Z = true) (ws : List Jvm.Cond) (cu : Int32) (h0 : Heap) (n0 : Nat) (Z0 : n0 ≤ h0.size) (h1 : cu < (55296 : Int32) ∨ (56319 : Int32) < cu) :
    MetFree l (⟨"com/example/cellwright/cellwright/hive/DecoderFinishPinLaw", "isHigh", "(C)Z"⟩ : MethodName) (head1 (Jvm.Cond.code (⟨"com/example/cellwright/cellwright/hive/DecoderFinishPinLaw", "isHigh", "(C)Z"⟩ : MethodName) method_3_code 1 (some .boolean) :: ws) ({ frames := 0, cells := 0, slots := 0, locals := 0 } : Room)) (fun a U => a = #[(.int cu)] ∧ Z.Warmed39 U.vm ∧ U.heap = h0) (fun _ _ _ _ _ => True) (fun _ U o U' => ∃ v L, o = .returned v ∧ QN (0 : Int32) h0 n0 v U'.heap L ∧ FrameEnd U o U' L ({ frames := 0, cells := 0, slots := 0, locals := 0 } : Room).cells ({ frames := 0, cells := 0, slots := 0, locals := 0 } : Room).slots) := by
  rcases h1 with h1 | h1
  · exact rm_ihA l Z a0 hw ws cu h0 n0 Z0 h1
  · exact rm_ihB l Z a0 hw ws cu h0 n0 Z0 h1
set_option maxRecDepth 65536 in
set_option maxHeartbeats 40000000 in
theorem rm_ilA (l : Launch) (Z : State) (a0 : Array Value) (hw : ∀ d ∈ tables_1, d.before a0 Z = true) (ws : List Jvm.Cond) (cu : Int32) (h0 : Heap) (n0 : Nat) (Z0 : n0 ≤ h0.size) (h1 : cu < (56320 : Int32)) :
    MetFree l (⟨"com/example/cellwright/cellwright/hive/DecoderFinishPinLaw", "isLow", "(C)Z"⟩ : MethodName) (head1 (Jvm.Cond.code (⟨"com/example/cellwright/cellwright/hive/DecoderFinishPinLaw", "isLow", "(C)Z"⟩ : MethodName) method_4_code 1 (some .boolean) :: ws) ({ frames := 0, cells := 0, slots := 0, locals := 0 } : Room)) (fun a U => a = #[(.int cu)] ∧ Z.Warmed39 U.vm ∧ U.heap = h0) (fun _ _ _ _ _ => True) (fun _ U o U' => ∃ v L, o = .returned v ∧ QN (own_low cu) h0 n0 v U'.heap L ∧ FrameEnd U o U' L ({ frames := 0, cells := 0, slots := 0, locals := 0 } : Room).cells ({ frames := 0, cells := 0, slots := 0, locals := 0 } : Room).slots) := by
  refine MetFree.of_bodySF (plainFor_of_name own_pn0) hisR ?_
  intro p e s m args below meth c s₁ Bd hml0 hP hK
  obtain ⟨rfl, hZ, hh⟩ := hP
  have hx := Bd.exec
  have hby := Bd.bytes
  have hml : c.maxLocals = 1 := hml0
  have hown : s.vm.findClass "com/example/cellwright/cellwright/hive/DecoderFinishPinLaw" = some m.cls := findClass_of_methodNamed Bd.named
  have hnm := (name_of_methodNamed Bd.named Bd.method).1
  have X0 : Stand p l e ({ frames := 0, cells := 0, slots := 0, locals := 0 } : Room) s m #[(.int cu)] below meth c s₁ [] 0 0 := Stand.of_body Bd
  have e0 : s₁.heap = h0 := by rw [← hh, Bd.state]; rfl
  have N0 := Fr.nil n0
  have ef : entryFrame m #[(.int cu)] 1 = mkF m 0 #[.val (.int cu)] [] := by first | (simp [entryFrame, mkF, argsToLocals, Value.category]; done) | rfl
  have pre0 : ∀ t, Steps p.tables e below (s₁.setTop (mkF m 0 #[.val (.int cu)] [])) t → Steps p.tables e below (s₁.setTop (entryFrame m #[(.int cu)] 1)) t := fun t k => castTop ef k
  have hb3 : cu < (56320 : Int32) := by simp only [Int32.lt_iff_toInt_lt, own_l1, own_l2, own_l3, own_l4, own_l5] at *; omega
  obtain ⟨fs, hr, hrun, hended, hW, hsame⟩ := X0.leave (v := some (.int (0 : Int32))) (fun h => by rw [Bd.returns] at h; cases h)
  refine ⟨_, _, pre0 _ ?_, hrun, hended, _, _, rfl, ?_, ⟨_, rfl⟩, hW, hsame.mono (by decide) (by decide)⟩
  · show Steps p.tables e below (s₁.setTop (mkF m 0 #[.val (.int cu)] [])) _
    refine XS.iloadN X0.here hx rfl (hb hby d10_0) rfl ?_
    show Steps p.tables e below (s₁.setTop (mkF m 1 #[.val (.int cu)] [(.int cu)])) _
    refine X0.ldcInt hx hown (mvT hZ (hw _ (List.mem_of_getElem? (i := 48) rfl))) (g := (mkF m 1 #[.val (.int cu)] [(.int cu)])) rfl (hb hby d10_1) _ ?_
    show Steps p.tables e below (s₁.setTop (mkF m 3 #[.val (.int cu)] [(.int (56320 : Int32)), (.int cu)])) _
    refine XS.icmpYes X0.here hx rfl (pc0 := 3) (pc' := 16) rfl (hb hby d10_3) rfl (tlt hb3).1 (by decide) (by decide) ?_
    show Steps p.tables e below (s₁.setTop (mkF m 16 #[.val (.int cu)] [])) _
    refine XS.iconst X0.here hx rfl (hb hby d10_16) ?_
    show Steps p.tables e below (s₁.setTop (mkF m 17 #[.val (.int cu)] [(.int (0 : Int32))])) _
    exact retN X0 hx (t := .boolean) Bd.returns (by simp) (hb hby d10_17) hr
  · show QN (own_low cu) h0 n0 _ s₁.heap _
    rw [e0]
    exact ⟨by rw [own_low, if_pos h1], N0, rfl⟩
set_option maxRecDepth 65536 in
set_option maxHeartbeats 40000000 in
theorem rm_ilB (l : Launch) (Z : State) (a0 : Array Value) (hw : ∀ d ∈ tables_1, d.before a0 Z = true) (ws : List Jvm.Cond) (cu : Int32) (h0 : Heap) (n0 : Nat) (Z0 : n0 ≤ h0.size) (h1 : ¬ cu < (56320 : Int32)) (h2 : (57343 : Int32) < cu) :
    MetFree l (⟨"com/example/cellwright/cellwright/hive/DecoderFinishPinLaw", "isLow", "(C)Z"⟩ : MethodName) (head1 (Jvm.Cond.code (⟨"com/example/cellwright/cellwright/hive/DecoderFinishPinLaw", "isLow", "(C)Z"⟩ : MethodName) method_4_code 1 (some .boolean) :: ws) ({ frames := 0, cells := 0, slots := 0, locals := 0 } : Room)) (fun a U => a = #[(.int cu)] ∧ Z.Warmed39 U.vm ∧ U.heap = h0) (fun _ _ _ _ _ => True) (fun _ U o U' => ∃ v L, o = .returned v ∧ QN (own_low cu) h0 n0 v U'.heap L ∧ FrameEnd U o U' L ({ frames := 0, cells := 0, slots := 0, locals := 0 } : Room).cells ({ frames := 0, cells := 0, slots := 0, locals := 0 } : Room).slots) := by
  refine MetFree.of_bodySF (plainFor_of_name own_pn0) hisR ?_
  intro p e s m args below meth c s₁ Bd hml0 hP hK
  obtain ⟨rfl, hZ, hh⟩ := hP
  have hx := Bd.exec
  have hby := Bd.bytes
  have hml : c.maxLocals = 1 := hml0
  have hown : s.vm.findClass "com/example/cellwright/cellwright/hive/DecoderFinishPinLaw" = some m.cls := findClass_of_methodNamed Bd.named
  have hnm := (name_of_methodNamed Bd.named Bd.method).1
  have X0 : Stand p l e ({ frames := 0, cells := 0, slots := 0, locals := 0 } : Room) s m #[(.int cu)] below meth c s₁ [] 0 0 := Stand.of_body Bd
  have e0 : s₁.heap = h0 := by rw [← hh, Bd.state]; rfl
  have N0 := Fr.nil n0
  have ef : entryFrame m #[(.int cu)] 1 = mkF m 0 #[.val (.int cu)] [] := by first | (simp [entryFrame, mkF, argsToLocals, Value.category]; done) | rfl
  have pre0 : ∀ t, Steps p.tables e below (s₁.setTop (mkF m 0 #[.val (.int cu)] [])) t → Steps p.tables e below (s₁.setTop (entryFrame m #[(.int cu)] 1)) t := fun t k => castTop ef k
  have hb3 : ¬ cu < (56320 : Int32) := by simp only [Int32.lt_iff_toInt_lt, own_l1, own_l2, own_l3, own_l4, own_l5] at *; omega
  have hb9 : (57343 : Int32) < cu := by simp only [Int32.lt_iff_toInt_lt, own_l1, own_l2, own_l3, own_l4, own_l5] at *; omega
  obtain ⟨fs, hr, hrun, hended, hW, hsame⟩ := X0.leave (v := some (.int (0 : Int32))) (fun h => by rw [Bd.returns] at h; cases h)
  refine ⟨_, _, pre0 _ ?_, hrun, hended, _, _, rfl, ?_, ⟨_, rfl⟩, hW, hsame.mono (by decide) (by decide)⟩
  · show Steps p.tables e below (s₁.setTop (mkF m 0 #[.val (.int cu)] [])) _
    refine XS.iloadN X0.here hx rfl (hb hby d10_0) rfl ?_
    show Steps p.tables e below (s₁.setTop (mkF m 1 #[.val (.int cu)] [(.int cu)])) _
    refine X0.ldcInt hx hown (mvT hZ (hw _ (List.mem_of_getElem? (i := 48) rfl))) (g := (mkF m 1 #[.val (.int cu)] [(.int cu)])) rfl (hb hby d10_1) _ ?_
    show Steps p.tables e below (s₁.setTop (mkF m 3 #[.val (.int cu)] [(.int (56320 : Int32)), (.int cu)])) _
    refine XS.icmpNo X0.here hx rfl (hb hby d10_3) rfl (flt hb3).1 ?_
    show Steps p.tables e below (s₁.setTop (mkF m 6 #[.val (.int cu)] [])) _
    refine XS.iloadN X0.here hx rfl (hb hby d10_6) rfl ?_
    show Steps p.tables e below (s₁.setTop (mkF m 7 #[.val (.int cu)] [(.int cu)])) _
    refine X0.ldcInt hx hown (mvT hZ (hw _ (List.mem_of_getElem? (i := 56) rfl))) (g := (mkF m 7 #[.val (.int cu)] [(.int cu)])) rfl (hb hby d10_7) _ ?_
    show Steps p.tables e below (s₁.setTop (mkF m 9 #[.val (.int cu)] [(.int (57343 : Int32)), (.int cu)])) _
    refine XS.icmpYes X0.here hx rfl (pc0 := 9) (pc' := 16) rfl (hb hby d10_9) rfl (tlt hb9).2.2.1 (by decide) (by decide) ?_
    show Steps p.tables e below (s₁.setTop (mkF m 16 #[.val (.int cu)] [])) _
    refine XS.iconst X0.here hx rfl (hb hby d10_16) ?_
    show Steps p.tables e below (s₁.setTop (mkF m 17 #[.val (.int cu)] [(.int (0 : Int32))])) _
    exact retN X0 hx (t := .boolean) Bd.returns (by simp) (hb hby d10_17) hr
  · show QN (own_low cu) h0 n0 _ s₁.heap _
    rw [e0]
    exact ⟨by rw [own_low, if_neg h1, if_pos h2], N0, rfl⟩
set_option maxRecDepth 65536 in
set_option maxHeartbeats 40000000 in
theorem rm_ilL (l : Launch) (Z : State) (a0 : Array Value) (hw : ∀ d ∈ tables_1, d.before a0 Z = true) (ws : List Jvm.Cond) (cu : Int32) (h0 : Heap) (n0 : Nat) (Z0 : n0 ≤ h0.size) (h1 : ¬ cu < (56320 : Int32)) (h2 : ¬ (57343 : Int32) < cu) :
    MetFree l (⟨"com/example/cellwright/cellwright/hive/DecoderFinishPinLaw", "isLow", "(C)Z"⟩ : MethodName) (head1 (Jvm.Cond.code (⟨"com/example/cellwright/cellwright/hive/DecoderFinishPinLaw", "isLow", "(C)Z"⟩ : MethodName) method_4_code 1 (some .boolean) :: ws) ({ frames := 0, cells := 0, slots := 0, locals := 0 } : Room)) (fun a U => a = #[(.int cu)] ∧ Z.Warmed39 U.vm ∧ U.heap = h0) (fun _ _ _ _ _ => True) (fun _ U o U' => ∃ v L, o = .returned v ∧ QN (own_low cu) h0 n0 v U'.heap L ∧ FrameEnd U o U' L ({ frames := 0, cells := 0, slots := 0, locals := 0 } : Room).cells ({ frames := 0, cells := 0, slots := 0, locals := 0 } : Room).slots) := by
  refine MetFree.of_bodySF (plainFor_of_name own_pn0) hisR ?_
  intro p e s m args below meth c s₁ Bd hml0 hP hK
  obtain ⟨rfl, hZ, hh⟩ := hP
  have hx := Bd.exec
  have hby := Bd.bytes
  have hml : c.maxLocals = 1 := hml0
  have hown : s.vm.findClass "com/example/cellwright/cellwright/hive/DecoderFinishPinLaw" = some m.cls := findClass_of_methodNamed Bd.named
  have hnm := (name_of_methodNamed Bd.named Bd.method).1
  have X0 : Stand p l e ({ frames := 0, cells := 0, slots := 0, locals := 0 } : Room) s m #[(.int cu)] below meth c s₁ [] 0 0 := Stand.of_body Bd
  have e0 : s₁.heap = h0 := by rw [← hh, Bd.state]; rfl
  have N0 := Fr.nil n0
  have ef : entryFrame m #[(.int cu)] 1 = mkF m 0 #[.val (.int cu)] [] := by first | (simp [entryFrame, mkF, argsToLocals, Value.category]; done) | rfl
  have pre0 : ∀ t, Steps p.tables e below (s₁.setTop (mkF m 0 #[.val (.int cu)] [])) t → Steps p.tables e below (s₁.setTop (entryFrame m #[(.int cu)] 1)) t := fun t k => castTop ef k
  have hb3 : ¬ cu < (56320 : Int32) := by simp only [Int32.lt_iff_toInt_lt, own_l1, own_l2, own_l3, own_l4, own_l5] at *; omega
  have hb9 : ¬ (57343 : Int32) < cu := by simp only [Int32.lt_iff_toInt_lt, own_l1, own_l2, own_l3, own_l4, own_l5] at *; omega
  obtain ⟨fs, hr, hrun, hended, hW, hsame⟩ := X0.leave (v := some (.int (1 : Int32))) (fun h => by rw [Bd.returns] at h; cases h)
  refine ⟨_, _, pre0 _ ?_, hrun, hended, _, _, rfl, ?_, ⟨_, rfl⟩, hW, hsame.mono (by decide) (by decide)⟩
  · show Steps p.tables e below (s₁.setTop (mkF m 0 #[.val (.int cu)] [])) _
    refine XS.iloadN X0.here hx rfl (hb hby d10_0) rfl ?_
    show Steps p.tables e below (s₁.setTop (mkF m 1 #[.val (.int cu)] [(.int cu)])) _
    refine X0.ldcInt hx hown (mvT hZ (hw _ (List.mem_of_getElem? (i := 48) rfl))) (g := (mkF m 1 #[.val (.int cu)] [(.int cu)])) rfl (hb hby d10_1) _ ?_
    show Steps p.tables e below (s₁.setTop (mkF m 3 #[.val (.int cu)] [(.int (56320 : Int32)), (.int cu)])) _
    refine XS.icmpNo X0.here hx rfl (hb hby d10_3) rfl (flt hb3).1 ?_
    show Steps p.tables e below (s₁.setTop (mkF m 6 #[.val (.int cu)] [])) _
    refine XS.iloadN X0.here hx rfl (hb hby d10_6) rfl ?_
    show Steps p.tables e below (s₁.setTop (mkF m 7 #[.val (.int cu)] [(.int cu)])) _
    refine X0.ldcInt hx hown (mvT hZ (hw _ (List.mem_of_getElem? (i := 56) rfl))) (g := (mkF m 7 #[.val (.int cu)] [(.int cu)])) rfl (hb hby d10_7) _ ?_
    show Steps p.tables e below (s₁.setTop (mkF m 9 #[.val (.int cu)] [(.int (57343 : Int32)), (.int cu)])) _
    refine XS.icmpNo X0.here hx rfl (hb hby d10_9) rfl (flt hb9).2.2.1 ?_
    show Steps p.tables e below (s₁.setTop (mkF m 12 #[.val (.int cu)] [])) _
    refine XS.iconst X0.here hx rfl (hb hby d10_12) ?_
    show Steps p.tables e below (s₁.setTop (mkF m 13 #[.val (.int cu)] [(.int (1 : Int32))])) _
    refine XS.goto X0.here hx rfl (pc0 := 13) (pc' := 17) rfl (hb hby d10_13) (by decide) (by decide) ?_
    show Steps p.tables e below (s₁.setTop (mkF m 17 #[.val (.int cu)] [(.int (1 : Int32))])) _
    exact retN X0 hx (t := .boolean) Bd.returns (by simp) (hb hby d10_17) hr
  · show QN (own_low cu) h0 n0 _ s₁.heap _
    rw [e0]
    exact ⟨by rw [own_low, if_neg h1, if_neg h2], N0, rfl⟩
set_option maxRecDepth 65536 in
set_option maxHeartbeats 40000000 in
theorem rm_il (l : Launch) (Z : State) (a0 : Array Value) (hw : ∀ d ∈ tables_1, d.before a0 Z = true) (ws : List Jvm.Cond) (cu : Int32) (h0 : Heap) (n0 : Nat) (Z0 : n0 ≤ h0.size)  :
    MetFree l (⟨"com/example/cellwright/cellwright/hive/DecoderFinishPinLaw", "isLow", "(C)Z"⟩ : MethodName) (head1 (Jvm.Cond.code (⟨"com/example/cellwright/cellwright/hive/DecoderFinishPinLaw", "isLow", "(C)Z"⟩ : MethodName) method_4_code 1 (some .boolean) :: ws) ({ frames := 0, cells := 0, slots := 0, locals := 0 } : Room)) (fun a U => a = #[(.int cu)] ∧ Z.Warmed39 U.vm ∧ U.heap = h0) (fun _ _ _ _ _ => True) (fun _ U o U' => ∃ v L, o = .returned v ∧ QN (own_low cu) h0 n0 v U'.heap L ∧ FrameEnd U o U' L ({ frames := 0, cells := 0, slots := 0, locals := 0 } : Room).cells ({ frames := 0, cells := 0, slots := 0, locals := 0 } : Room).slots) := by
  by_cases h1 : cu < (56320 : Int32)
  · exact rm_ilA l Z a0 hw ws cu h0 n0 Z0 h1
  · by_cases h2 : (57343 : Int32) < cu
    · exact rm_ilB l Z a0 hw ws cu h0 n0 Z0 h1 h2
    · exact rm_ilL l Z a0 hw ws cu h0 n0 Z0 h1 h2
def QI (Z : State) (a1 : Addr) (h0 : Heap) (n0 : Nat) (v : Option Value) (h : Heap) (L : List Loc) : Prop := v = none ∧ Fr n0 L ∧ Keep h0 h [a1] ∧ Exa Z h a1 "com/example/cellwright/cellwright/hive/Utf16Le$Decoder" ∧ Fld Z h a1 "com/example/cellwright/cellwright/hive/Utf16Le$Decoder" "oddByte" "I" (.int (-1 : Int32)) ∧ Fld Z h a1 "com/example/cellwright/cellwright/hive/Utf16Le$Decoder" "high" "C" (.int (0 : Int32))
set_option maxRecDepth 65536 in
set_option maxHeartbeats 40000000 in
theorem rmI (l : Launch) (Z : State) (a0 : Array Value) (hw : ∀ d ∈ tables_1, d.before a0 Z = true) (ws : List Jvm.Cond) (a1 : Addr) (h0 : Heap) (n0 : Nat) (Z0 : n0 ≤ h0.size) (Ex : Exa Z h0 a1 "com/example/cellwright/cellwright/hive/Utf16Le$Decoder") (Fo : Fld Z h0 a1 "com/example/cellwright/cellwright/hive/Utf16Le$Decoder" "oddByte" "I" (.int (0 : Int32))) (Fh : Fld Z h0 a1 "com/example/cellwright/cellwright/hive/Utf16Le$Decoder" "high" "C" (.int (0 : Int32))) (g_a1 : n0 ≤ a1) :
    MetFree l (⟨"com/example/cellwright/cellwright/hive/Utf16Le$Decoder", "<init>", "()V"⟩ : MethodName) (head1 (Jvm.Cond.code (⟨"com/example/cellwright/cellwright/hive/Utf16Le$Decoder", "<init>", "()V"⟩ : MethodName) prog_97_method_1_code 1 none :: ws) ({ frames := 1, cells := 0, slots := 0, locals := 12 } : Room)) (fun a U => a = #[(.ref a1)] ∧ Z.Warmed39 U.vm ∧ U.heap = h0) (fun _ _ _ _ _ => True) (fun _ U o U' => ∃ v L, o = .returned v ∧ QI Z a1 h0 n0 v U'.heap L ∧ FrameEnd U o U' L ({ frames := 1, cells := 0, slots := 0, locals := 12 } : Room).cells ({ frames := 1, cells := 0, slots := 0, locals := 12 } : Room).slots) := by
  refine MetFree.of_bodySF (plainFor_of_name own_pn2) hisR ?_
  intro p e s m args below meth c s₁ Bd hml0 hP hK
  obtain ⟨rfl, hZ, hh⟩ := hP
  have hx := Bd.exec
  have hby := Bd.bytes
  have hml : c.maxLocals = 1 := hml0
  have hown : s.vm.findClass "com/example/cellwright/cellwright/hive/Utf16Le$Decoder" = some m.cls := findClass_of_methodNamed Bd.named
  have hnm := (name_of_methodNamed Bd.named Bd.method).1
  have X0 : Stand p l e ({ frames := 1, cells := 0, slots := 0, locals := 12 } : Room) s m #[(.ref a1)] below meth c s₁ [] 0 0 := Stand.of_body Bd
  have e0 : s₁.heap = h0 := by rw [← hh, Bd.state]; rfl
  have N0 := Fr.nil n0
  have ef : entryFrame m #[(.ref a1)] 1 = mkF m 0 #[.val (.ref a1)] [] := by first | (simp [entryFrame, mkF, argsToLocals, Value.category]; done) | rfl
  have pre0 : ∀ t, Steps p.tables e below (s₁.setTop (mkF m 0 #[.val (.ref a1)] [])) t → Steps p.tables e below (s₁.setTop (entryFrame m #[(.ref a1)] 1)) t := fun t k => castTop ef k
  obtain ⟨T101, X101, e101, st101⟩ := initO X0 hx hZ hown (hw _ (List.mem_of_getElem? (i := 13) rfl)) (hw _ (List.mem_of_getElem? (i := 14) rfl)) (hw _ (List.mem_of_getElem? (i := 15) rfl)) e0 (g := (mkF m 1 #[.val (.ref a1)] [(.ref a1)])) rfl (by rw [hml]; rfl) rfl (hb hby d2_1) (by decide) (W := 0) (by show 2 * 0 + _ ≤ _; exact Nat.le_of_eq rfl) (by decide)
  obtain ⟨T102, h102, X102, e102, W102, st102⟩ := putF X101 hx hZ hown (host := "") (Or.inl (hw _ (List.mem_of_getElem? (i := 16) rfl))) Via.refl e101 Fo Ex (Or.inl (hw _ (List.mem_of_getElem? (i := 17) rfl))) (hw _ (List.mem_of_getElem? (i := 8) rfl)) (ty := .int) (by decide) rfl rfl (g := (mkF m 6 #[.val (.ref a1)] [(.int (-1 : Int32)), (.ref a1)])) rfl rfl (hb hby d2_6)
  have F102 := Fo.same W102
  have Z102 : n0 ≤ h102.size := Nat.le_trans Z0 (Nat.le_of_eq W102.size.symm)
  have KC102 : Keep h0 h102 [a1] := (Keep.refl h0 [a1]).wr W102 (Or.inl (List.mem_of_getElem? (i := 0) rfl))
  have N102 := Fr.snoc X102 N0 g_a1
  have f103 := (Ex.wr W102)
  have f104 := (Fh.other W102 (Or.inr (slot_ne (Or.inl (hw _ (List.mem_of_getElem? (i := 24) rfl))) (Or.inl (hw _ (List.mem_of_getElem? (i := 17) rfl))) (by decide) (t := .char) (t' := .int) (by decide) (by decide))))
  obtain ⟨fs, hr, hrun, hended, hW, hsame⟩ := X102.leave (v := none) (fun _ => rfl)
  refine ⟨_, _, pre0 _ ?_, hrun, hended, _, _, rfl, ?_, ⟨_, rfl⟩, hW, hsame.mono (by decide) (by decide)⟩
  · show Steps p.tables e below (s₁.setTop (mkF m 0 #[.val (.ref a1)] [])) _
    refine XS.aloadN X0.here hx rfl (hb hby d2_0) rfl rfl ?_
    show Steps p.tables e below (s₁.setTop (mkF m 1 #[.val (.ref a1)] [(.ref a1)])) _
    refine st101 _ ?_
    show Steps p.tables e below (T101.setTop (mkF m 4 #[.val (.ref a1)] [])) _
    refine XS.aloadN X101.here hx rfl (hb hby d2_4) rfl rfl ?_
    show Steps p.tables e below (T101.setTop (mkF m 5 #[.val (.ref a1)] [(.ref a1)])) _
    refine XS.iconst X101.here hx rfl (hb hby d2_5) ?_
    show Steps p.tables e below (T101.setTop (mkF m 6 #[.val (.ref a1)] [(.int (-1 : Int32)), (.ref a1)])) _
    refine st102 _ ?_
    show Steps p.tables e below (T102.setTop (mkF m 9 #[.val (.ref a1)] [])) _
    exact X102.returnOut hx Bd.returns (hb hby d2_9) hr
  · show QI Z a1 h0 n0 _ T102.heap _
    rw [e102]
    exact ⟨rfl, N102, KC102, f103, F102, f104⟩
def QD (Z : State) (a1 a4 : Addr) (M : Nat) (f : Nat → Value) (r hi : Int32) (h0 : Heap) (n0 : Nat) (v : Option Value) (h : Heap) (L : List Loc) : Prop := ∃ o : Int32, v = some (.int r) ∧ Fr n0 L ∧ Keep h0 h [a1, a4] ∧ Exa Z h a1 "com/example/cellwright/cellwright/hive/Utf16Le$Decoder" ∧ Fld Z h a1 "com/example/cellwright/cellwright/hive/Utf16Le$Decoder" "oddByte" "I" (.int o) ∧ Fld Z h a1 "com/example/cellwright/cellwright/hive/Utf16Le$Decoder" "high" "C" (.int hi) ∧ OwnA Z h a4 .char M f
theorem own_lowA {cu : Int32} (h : cu < (55296 : Int32)) : own_out cu = cu := by
  have h2 : cu < (56320 : Int32) := by simp only [Int32.lt_iff_toInt_lt, own_l1, own_l3] at *; omega
  rw [own_out, own_low, if_pos h2]; rfl
theorem own_lowB {cu : Int32} (h : (57343 : Int32) < cu) : own_out cu = cu := by
  have h2 : ¬ cu < (56320 : Int32) := by simp only [Int32.lt_iff_toInt_lt, own_l3, own_l4] at *; omega
  rw [own_out, own_low, if_neg h2, if_pos h]; rfl
theorem own_lowL {cu : Int32} (h1 : ¬ cu < (56320 : Int32)) (h2 : ¬ (57343 : Int32) < cu) : own_out cu = (65533 : Int32) := by
  rw [own_out, own_low, if_neg h1, if_neg h2]; rfl
set_option maxRecDepth 65536 in
set_option maxHeartbeats 40000000 in
theorem rmUH (l : Launch) (Z : State) (a0 : Array Value) (hw : ∀ d ∈ tables_1, d.before a0 Z = true) (ws : List Jvm.Cond) (a1 : Addr) (cu : Int32) (a4 : Addr) (M : Nat) (f : Nat → Value) (o : Int32) (h0 : Heap) (n0 : Nat) (Z0 : n0 ≤ h0.size) (Ex : Exa Z h0 a1 "com/example/cellwright/cellwright/hive/Utf16Le$Decoder") (Fo : Fld Z h0 a1 "com/example/cellwright/cellwright/hive/Utf16Le$Decoder" "oddByte" "I" (.int o)) (Fh : Fld Z h0 a1 "com/example/cellwright/cellwright/hive/Utf16Le$Decoder" "high" "C" (.int (0 : Int32))) (At : OwnA Z h0 a4 .char M f) (hM : 0 < M) (g_a1 : n0 ≤ a1) (g_a4 : n0 ≤ a4) (n41 : a4 ≠ a1) (hch : own_ch cu) (h1 : ¬ cu < (55296 : Int32)) (h2 : ¬ (56319 : Int32) < cu) :
    MetFree l (⟨"com/example/cellwright/cellwright/hive/Utf16Le$Decoder", "unit", "(C[CI)I"⟩ : MethodName) (head1 (Jvm.Cond.code (⟨"com/example/cellwright/cellwright/hive/Utf16Le$Decoder", "unit", "(C[CI)I"⟩ : MethodName) prog_97_method_5_code 6 (some .int) :: ws) ({ frames := 1, cells := 0, slots := 0, locals := 12 } : Room)) (fun a U => a = #[(.ref a1), (.int cu), (.ref a4), (.int (0 : Int32))] ∧ Z.Warmed39 U.vm ∧ U.heap = h0) (fun _ _ _ _ _ => True) (fun _ U o U' => ∃ v L, o = .returned v ∧ QD Z a1 a4 M f (0 : Int32) cu h0 n0 v U'.heap L ∧ FrameEnd U o U' L ({ frames := 1, cells := 0, slots := 0, locals := 12 } : Room).cells ({ frames := 1, cells := 0, slots := 0, locals := 12 } : Room).slots) := by
  refine MetFree.of_bodySF (plainFor_of_name own_pn2) hisR ?_
  intro p e s m args below meth c s₁ Bd hml0 hP hK
  obtain ⟨rfl, hZ, hh⟩ := hP
  have hx := Bd.exec
  have hby := Bd.bytes
  have hml : c.maxLocals = 6 := hml0
  have hown : s.vm.findClass "com/example/cellwright/cellwright/hive/Utf16Le$Decoder" = some m.cls := findClass_of_methodNamed Bd.named
  have hnm := (name_of_methodNamed Bd.named Bd.method).1
  have X0 : Stand p l e ({ frames := 1, cells := 0, slots := 0, locals := 12 } : Room) s m #[(.ref a1), (.int cu), (.ref a4), (.int (0 : Int32))] below meth c s₁ [] 0 0 := Stand.of_body Bd
  have e0 : s₁.heap = h0 := by rw [← hh, Bd.state]; rfl
  have N0 := Fr.nil n0
  have ef : entryFrame m #[(.ref a1), (.int cu), (.ref a4), (.int (0 : Int32))] 6 = mkF m 0 #[.val (.ref a1), .val (.int cu), .val (.ref a4), .val (.int (0 : Int32)), .unset, .unset] [] := by first | (simp [entryFrame, mkF, argsToLocals, Value.category]; done) | rfl
  have pre0 : ∀ t, Steps p.tables e below (s₁.setTop (mkF m 0 #[.val (.ref a1), .val (.int cu), .val (.ref a4), .val (.int (0 : Int32)), .unset, .unset] [])) t → Steps p.tables e below (s₁.setTop (entryFrame m #[(.ref a1), (.int cu), (.ref a4), (.int (0 : Int32))] 6)) t := fun t k => castTop ef k
  obtain ⟨T101, X101, e101, st101⟩ := getF X0 hx hZ hown (host := "") (Or.inl (hw _ (List.mem_of_getElem? (i := 23) rfl))) Via.refl e0 Fh (g := (mkF m 1 #[.val (.ref a1), .val (.int cu), .val (.ref a4), .val (.int (0 : Int32)), .unset, .unset] [(.ref a1)])) rfl rfl (hb hby d7_1)
  obtain ⟨T102, h102, X102, e102, W102, st102⟩ := putFN X101 hx hZ hown (hw _ (List.mem_of_getElem? (i := 23) rfl)) Via.refl e101 Fh Ex (Or.inl (hw _ (List.mem_of_getElem? (i := 24) rfl))) (hw _ (List.mem_of_getElem? (i := 8) rfl)) (ty := .char) (v' := .int (0 : Int32)) (by decide) rfl rfl (g := (mkF m 8 #[.val (.ref a1), .val (.int cu), .val (.ref a4), .val (.int (0 : Int32)), .val (.int (0 : Int32)), .unset] [(.int (0 : Int32)), (.ref a1)])) rfl rfl (hb hby d7_8)
  have F102 := Fh.same W102
  have Z102 : n0 ≤ h102.size := Nat.le_trans Z0 (Nat.le_of_eq W102.size.symm)
  have KC102 : Keep h0 h102 [a1, a4] := (Keep.refl h0 [a1, a4]).wr W102 (Or.inl (List.mem_of_getElem? (i := 0) rfl))
  have N102 := Fr.snoc X102 N0 g_a1
  obtain ⟨_, _, ⟨T103, L103, k103, n103⟩, -, X103, ⟨Lc103, hQ103, l103, y103, z103⟩, st103⟩ := Jvm.LawKit.callS X102 hx (y := (⟨"java/lang/Character", "isHighSurrogate", "(C)Z"⟩ : MethodName)) hown (mvT hZ (hw _ (List.mem_of_getElem? (i := 39) rfl))) (mvT hZ (hw _ (List.mem_of_getElem? (i := 40) rfl))) (mvT hZ (hw _ (List.mem_of_getElem? (i := 41) rfl))) (mvT hZ (hw _ (List.mem_of_getElem? (i := 42) rfl))) (by decide) (backOf (W := 0) (rm_ihsH l Z a0 hw [] cu h102 n0 Z102 h1 h2) hZ (hw _ (List.mem_of_getElem? (i := 42) rfl)) (hw _ (List.mem_of_getElem? (i := 41) rfl)) (by decide) (by decide)) (g := (mkF m 60 #[.val (.ref a1), .val (.int cu), .val (.ref a4), .val (.int (0 : Int32)), .val (.int (0 : Int32)), .val (.int (0 : Int32))] [(.int cu)])) rfl (by rw [hml]; rfl) (argsL := [(.int cu)]) (rest := []) (lenOf own_pd0 rfl) rfl (by show 2 * 0 + _ ≤ _; exact Nat.le_of_eq rfl) (hb hby d7_60) (fun _ _ => ⟨rfl, e102, (by decide : 0 + 0 ≤ _), (by decide : 0 + 0 ≤ _)⟩)
  dsimp only [Pt.U, Pt.locs, Pt.cells, Pt.slots] at X103 l103 y103 z103 st103 hQ103
  subst l103 y103 z103
  obtain ⟨rfl, Nq103, e103⟩ := hQ103
  have N103 := Fr.app N102 Nq103
  have f104 := (Ex.wr W102)
  obtain ⟨T105, h105, X105, e105, W105, st105⟩ := putFN X103 hx hZ hown (hw _ (List.mem_of_getElem? (i := 23) rfl)) Via.refl e103 F102 f104 (Or.inl (hw _ (List.mem_of_getElem? (i := 24) rfl))) (hw _ (List.mem_of_getElem? (i := 8) rfl)) (ty := .char) (v' := .int (cu.toUInt32.toUInt16.toUInt32.toInt32)) (by decide) rfl (fits_nar_char _) (g := (mkF m 68 #[.val (.ref a1), .val (.int cu), .val (.ref a4), .val (.int (0 : Int32)), .val (.int (0 : Int32)), .val (.int (0 : Int32))] [(.int cu), (.ref a1)])) rfl rfl (hb hby d7_68)
  have F105 := F102.same W105
  have Z105 : n0 ≤ h105.size := Nat.le_trans Z102 (Nat.le_of_eq W105.size.symm)
  have KC105 : Keep h0 h105 [a1, a4] := KC102.wr W105 (Or.inl (List.mem_of_getElem? (i := 0) rfl))
  have N105 := Fr.snoc X105 N103 g_a1
  have f106 := (f104.wr W105)
  have f107 := ((Fo.other W102 (Or.inr (slot_ne (Or.inl (hw _ (List.mem_of_getElem? (i := 17) rfl))) (Or.inl (hw _ (List.mem_of_getElem? (i := 24) rfl))) (by decide) (t := .int) (t' := .char) (by decide) (by decide)))).other W105 (Or.inr (slot_ne (Or.inl (hw _ (List.mem_of_getElem? (i := 17) rfl))) (Or.inl (hw _ (List.mem_of_getElem? (i := 24) rfl))) (by decide) (t := .int) (t' := .char) (by decide) (by decide))))
  have f108 := ((At.other W102 n41).other W105 n41)
  obtain ⟨fs, hr, hrun, hended, hW, hsame⟩ := X105.leave (v := some (.int (0 : Int32))) (fun h => by rw [Bd.returns] at h; cases h)
  refine ⟨_, _, pre0 _ ?_, hrun, hended, _, _, rfl, ?_, ⟨_, rfl⟩, hW, hsame.mono (by decide) (by decide)⟩
  · show Steps p.tables e below (s₁.setTop (mkF m 0 #[.val (.ref a1), .val (.int cu), .val (.ref a4), .val (.int (0 : Int32)), .unset, .unset] [])) _
    refine XS.aloadN X0.here hx rfl (hb hby d7_0) rfl rfl ?_
    show Steps p.tables e below (s₁.setTop (mkF m 1 #[.val (.ref a1), .val (.int cu), .val (.ref a4), .val (.int (0 : Int32)), .unset, .unset] [(.ref a1)])) _
    refine st101 _ ?_
    show Steps p.tables e below (T101.setTop (mkF m 4 #[.val (.ref a1), .val (.int cu), .val (.ref a4), .val (.int (0 : Int32)), .unset, .unset] [(.int (0 : Int32))])) _
    refine XS.istore X101.here hx rfl (hb hby d7_4) rfl (l' := #[.val (.ref a1), .val (.int cu), .val (.ref a4), .val (.int (0 : Int32)), .val (.int (0 : Int32)), .unset]) rfl ?_
    show Steps p.tables e below (T101.setTop (mkF m 6 #[.val (.ref a1), .val (.int cu), .val (.ref a4), .val (.int (0 : Int32)), .val (.int (0 : Int32)), .unset] [])) _
    refine XS.aloadN X101.here hx rfl (hb hby d7_6) rfl rfl ?_
    show Steps p.tables e below (T101.setTop (mkF m 7 #[.val (.ref a1), .val (.int cu), .val (.ref a4), .val (.int (0 : Int32)), .val (.int (0 : Int32)), .unset] [(.ref a1)])) _
    refine XS.iconst X101.here hx rfl (hb hby d7_7) ?_
    show Steps p.tables e below (T101.setTop (mkF m 8 #[.val (.ref a1), .val (.int cu), .val (.ref a4), .val (.int (0 : Int32)), .val (.int (0 : Int32)), .unset] [(.int (0 : Int32)), (.ref a1)])) _
    refine st102 _ ?_
    show Steps p.tables e below (T102.setTop (mkF m 11 #[.val (.ref a1), .val (.int cu), .val (.ref a4), .val (.int (0 : Int32)), .val (.int (0 : Int32)), .unset] [])) _
    refine XS.iloadN X102.here hx rfl (hb hby d7_11) rfl ?_
    show Steps p.tables e below (T102.setTop (mkF m 12 #[.val (.ref a1), .val (.int cu), .val (.ref a4), .val (.int (0 : Int32)), .val (.int (0 : Int32)), .unset] [(.int (0 : Int32))])) _
    refine XS.istore X102.here hx rfl (hb hby d7_12) rfl (l' := #[.val (.ref a1), .val (.int cu), .val (.ref a4), .val (.int (0 : Int32)), .val (.int (0 : Int32)), .val (.int (0 : Int32))]) rfl ?_
    show Steps p.tables e below (T102.setTop (mkF m 14 #[.val (.ref a1), .val (.int cu), .val (.ref a4), .val (.int (0 : Int32)), .val (.int (0 : Int32)), .val (.int (0 : Int32))] [])) _
    refine XS.iload X102.here hx rfl (hb hby d7_14) rfl ?_
    show Steps p.tables e below (T102.setTop (mkF m 16 #[.val (.ref a1), .val (.int cu), .val (.ref a4), .val (.int (0 : Int32)), .val (.int (0 : Int32)), .val (.int (0 : Int32))] [(.int (0 : Int32))])) _
    refine XS.ifYes X102.here hx rfl (pc0 := 16) (pc' := 45) rfl (hb hby d7_16) rfl ((if0 _ _).trans (teq rfl).1) (by decide) (by decide) ?_
    show Steps p.tables e below (T102.setTop (mkF m 45 #[.val (.ref a1), .val (.int cu), .val (.ref a4), .val (.int (0 : Int32)), .val (.int (0 : Int32)), .val (.int (0 : Int32))] [])) _
    refine XS.iload X102.here hx rfl (hb hby d7_45) rfl ?_
    show Steps p.tables e below (T102.setTop (mkF m 47 #[.val (.ref a1), .val (.int cu), .val (.ref a4), .val (.int (0 : Int32)), .val (.int (0 : Int32)), .val (.int (0 : Int32))] [(.int (0 : Int32))])) _
    refine XS.ifYes X102.here hx rfl (pc0 := 47) (pc' := 59) rfl (hb hby d7_47) rfl ((if0 _ _).trans (teq rfl).1) (by decide) (by decide) ?_
    show Steps p.tables e below (T102.setTop (mkF m 59 #[.val (.ref a1), .val (.int cu), .val (.ref a4), .val (.int (0 : Int32)), .val (.int (0 : Int32)), .val (.int (0 : Int32))] [])) _
    refine XS.iloadN X102.here hx rfl (hb hby d7_59) rfl ?_
    show Steps p.tables e below (T102.setTop (mkF m 60 #[.val (.ref a1), .val (.int cu), .val (.ref a4), .val (.int (0 : Int32)), .val (.int (0 : Int32)), .val (.int (0 : Int32))] [(.int cu)])) _
    refine st103 _ ?_
    show Steps p.tables e below (T103.setTop (mkF m 63 #[.val (.ref a1), .val (.int cu), .val (.ref a4), .val (.int (0 : Int32)), .val (.int (0 : Int32)), .val (.int (0 : Int32))] [(.int (1 : Int32))])) _
    refine XS.ifNo X103.here hx rfl (hb hby d7_63) rfl ((if0 _ _).trans (feq (by decide : ¬ (1 : Int32) = (0 : Int32))).1) ?_
    show Steps p.tables e below (T103.setTop (mkF m 66 #[.val (.ref a1), .val (.int cu), .val (.ref a4), .val (.int (0 : Int32)), .val (.int (0 : Int32)), .val (.int (0 : Int32))] [])) _
    refine XS.aloadN X103.here hx rfl (hb hby d7_66) rfl rfl ?_
    show Steps p.tables e below (T103.setTop (mkF m 67 #[.val (.ref a1), .val (.int cu), .val (.ref a4), .val (.int (0 : Int32)), .val (.int (0 : Int32)), .val (.int (0 : Int32))] [(.ref a1)])) _
    refine XS.iloadN X103.here hx rfl (hb hby d7_67) rfl ?_
    show Steps p.tables e below (T103.setTop (mkF m 68 #[.val (.ref a1), .val (.int cu), .val (.ref a4), .val (.int (0 : Int32)), .val (.int (0 : Int32)), .val (.int (0 : Int32))] [(.int cu), (.ref a1)])) _
    refine st105 _ ?_
    show Steps p.tables e below (T105.setTop (mkF m 71 #[.val (.ref a1), .val (.int cu), .val (.ref a4), .val (.int (0 : Int32)), .val (.int (0 : Int32)), .val (.int (0 : Int32))] [])) _
    refine XS.goto X105.here hx rfl (pc0 := 71) (pc' := 94) rfl (hb hby d7_71) (by decide) (by decide) ?_
    show Steps p.tables e below (T105.setTop (mkF m 94 #[.val (.ref a1), .val (.int cu), .val (.ref a4), .val (.int (0 : Int32)), .val (.int (0 : Int32)), .val (.int (0 : Int32))] [])) _
    refine XS.iload X105.here hx rfl (hb hby d7_94) rfl ?_
    show Steps p.tables e below (T105.setTop (mkF m 96 #[.val (.ref a1), .val (.int cu), .val (.ref a4), .val (.int (0 : Int32)), .val (.int (0 : Int32)), .val (.int (0 : Int32))] [(.int (0 : Int32))])) _
    exact own_retI X105 hx Bd.returns (hb hby d7_96) hr
  · show QD Z a1 a4 M f (0 : Int32) cu h0 n0 _ T105.heap _
    rw [e105]
    exact ⟨o, rfl, N105, KC105, f106, f107, (own_fcast F105 hch.symm), f108⟩
set_option maxRecDepth 65536 in
set_option maxHeartbeats 40000000 in
theorem rmUL (l : Launch) (Z : State) (a0 : Array Value) (hw : ∀ d ∈ tables_1, d.before a0 Z = true) (ws : List Jvm.Cond) (a1 : Addr) (cu : Int32) (a4 : Addr) (M : Nat) (f : Nat → Value) (o : Int32) (h0 : Heap) (n0 : Nat) (Z0 : n0 ≤ h0.size) (Ex : Exa Z h0 a1 "com/example/cellwright/cellwright/hive/Utf16Le$Decoder") (Fo : Fld Z h0 a1 "com/example/cellwright/cellwright/hive/Utf16Le$Decoder" "oddByte" "I" (.int o)) (Fh : Fld Z h0 a1 "com/example/cellwright/cellwright/hive/Utf16Le$Decoder" "high" "C" (.int (0 : Int32))) (At : OwnA Z h0 a4 .char M f) (hM : 0 < M) (g_a1 : n0 ≤ a1) (g_a4 : n0 ≤ a4) (n41 : a4 ≠ a1) (hch : own_ch cu) (h1 : ¬ cu < (56320 : Int32)) (h2 : ¬ (57343 : Int32) < cu) :
    MetFree l (⟨"com/example/cellwright/cellwright/hive/Utf16Le$Decoder", "unit", "(C[CI)I"⟩ : MethodName) (head1 (Jvm.Cond.code (⟨"com/example/cellwright/cellwright/hive/Utf16Le$Decoder", "unit", "(C[CI)I"⟩ : MethodName) prog_97_method_5_code 6 (some .int) :: ws) ({ frames := 1, cells := 0, slots := 0, locals := 14 } : Room)) (fun a U => a = #[(.ref a1), (.int cu), (.ref a4), (.int (0 : Int32))] ∧ Z.Warmed39 U.vm ∧ U.heap = h0) (fun _ _ _ _ _ => True) (fun _ U o U' => ∃ v L, o = .returned v ∧ QD Z a1 a4 M (own_upd f 0 (.int (65533 : Int32))) (1 : Int32) (0 : Int32) h0 n0 v U'.heap L ∧ FrameEnd U o U' L ({ frames := 1, cells := 0, slots := 0, locals := 14 } : Room).cells ({ frames := 1, cells := 0, slots := 0, locals := 14 } : Room).slots) := by
  refine MetFree.of_bodySF (plainFor_of_name own_pn2) hisR ?_
  intro p e s m args below meth c s₁ Bd hml0 hP hK
  obtain ⟨rfl, hZ, hh⟩ := hP
  have hx := Bd.exec
  have hby := Bd.bytes
  have hml : c.maxLocals = 6 := hml0
  have hown : s.vm.findClass "com/example/cellwright/cellwright/hive/Utf16Le$Decoder" = some m.cls := findClass_of_methodNamed Bd.named
  have hnm := (name_of_methodNamed Bd.named Bd.method).1
  have X0 : Stand p l e ({ frames := 1, cells := 0, slots := 0, locals := 14 } : Room) s m #[(.ref a1), (.int cu), (.ref a4), (.int (0 : Int32))] below meth c s₁ [] 0 0 := Stand.of_body Bd
  have e0 : s₁.heap = h0 := by rw [← hh, Bd.state]; rfl
  have N0 := Fr.nil n0
  have ef : entryFrame m #[(.ref a1), (.int cu), (.ref a4), (.int (0 : Int32))] 6 = mkF m 0 #[.val (.ref a1), .val (.int cu), .val (.ref a4), .val (.int (0 : Int32)), .unset, .unset] [] := by first | (simp [entryFrame, mkF, argsToLocals, Value.category]; done) | rfl
  have pre0 : ∀ t, Steps p.tables e below (s₁.setTop (mkF m 0 #[.val (.ref a1), .val (.int cu), .val (.ref a4), .val (.int (0 : Int32)), .unset, .unset] [])) t → Steps p.tables e below (s₁.setTop (entryFrame m #[(.ref a1), (.int cu), (.ref a4), (.int (0 : Int32))] 6)) t := fun t k => castTop ef k
  obtain ⟨T101, X101, e101, st101⟩ := getF X0 hx hZ hown (host := "") (Or.inl (hw _ (List.mem_of_getElem? (i := 23) rfl))) Via.refl e0 Fh (g := (mkF m 1 #[.val (.ref a1), .val (.int cu), .val (.ref a4), .val (.int (0 : Int32)), .unset, .unset] [(.ref a1)])) rfl rfl (hb hby d7_1)
  obtain ⟨T102, h102, X102, e102, W102, st102⟩ := putFN X101 hx hZ hown (hw _ (List.mem_of_getElem? (i := 23) rfl)) Via.refl e101 Fh Ex (Or.inl (hw _ (List.mem_of_getElem? (i := 24) rfl))) (hw _ (List.mem_of_getElem? (i := 8) rfl)) (ty := .char) (v' := .int (0 : Int32)) (by decide) rfl rfl (g := (mkF m 8 #[.val (.ref a1), .val (.int cu), .val (.ref a4), .val (.int (0 : Int32)), .val (.int (0 : Int32)), .unset] [(.int (0 : Int32)), (.ref a1)])) rfl rfl (hb hby d7_8)
  have F102 := Fh.same W102
  have Z102 : n0 ≤ h102.size := Nat.le_trans Z0 (Nat.le_of_eq W102.size.symm)
  have KC102 : Keep h0 h102 [a1, a4] := (Keep.refl h0 [a1, a4]).wr W102 (Or.inl (List.mem_of_getElem? (i := 0) rfl))
  have N102 := Fr.snoc X102 N0 g_a1
  obtain ⟨_, _, ⟨T103, L103, k103, n103⟩, -, X103, ⟨Lc103, hQ103, l103, y103, z103⟩, st103⟩ := Jvm.LawKit.callS X102 hx (y := (⟨"java/lang/Character", "isHighSurrogate", "(C)Z"⟩ : MethodName)) hown (mvT hZ (hw _ (List.mem_of_getElem? (i := 39) rfl))) (mvT hZ (hw _ (List.mem_of_getElem? (i := 40) rfl))) (mvT hZ (hw _ (List.mem_of_getElem? (i := 41) rfl))) (mvT hZ (hw _ (List.mem_of_getElem? (i := 42) rfl))) (by decide) (backOf (W := 0) (rm_ihsL l Z a0 hw [] cu h102 n0 Z102 h1 h2) hZ (hw _ (List.mem_of_getElem? (i := 42) rfl)) (hw _ (List.mem_of_getElem? (i := 41) rfl)) (by decide) (by decide)) (g := (mkF m 60 #[.val (.ref a1), .val (.int cu), .val (.ref a4), .val (.int (0 : Int32)), .val (.int (0 : Int32)), .val (.int (0 : Int32))] [(.int cu)])) rfl (by rw [hml]; rfl) (argsL := [(.int cu)]) (rest := []) (lenOf own_pd0 rfl) rfl (by show 2 * 0 + _ ≤ _; exact Nat.le_of_eq rfl) (hb hby d7_60) (fun _ _ => ⟨rfl, e102, (by decide : 0 + 0 ≤ _), (by decide : 0 + 0 ≤ _)⟩)
  dsimp only [Pt.U, Pt.locs, Pt.cells, Pt.slots] at X103 l103 y103 z103 st103 hQ103
  subst l103 y103 z103
  obtain ⟨rfl, Nq103, e103⟩ := hQ103
  have N103 := Fr.app N102 Nq103
  obtain ⟨_, _, ⟨T104, L104, k104, n104⟩, -, X104, ⟨Lc104, hQ104, l104, y104, z104⟩, st104⟩ := Jvm.LawKit.callS X103 hx (y := (⟨"java/lang/Character", "isLowSurrogate", "(C)Z"⟩ : MethodName)) hown (mvT hZ (hw _ (List.mem_of_getElem? (i := 49) rfl))) (mvT hZ (hw _ (List.mem_of_getElem? (i := 50) rfl))) (mvT hZ (hw _ (List.mem_of_getElem? (i := 41) rfl))) (mvT hZ (hw _ (List.mem_of_getElem? (i := 51) rfl))) (by decide) (backOf (W := 2) (rm_ilsL l Z a0 hw [] cu h102 n0 Z102 h1 h2) hZ (hw _ (List.mem_of_getElem? (i := 51) rfl)) (hw _ (List.mem_of_getElem? (i := 41) rfl)) (by decide) (by decide)) (g := (mkF m 78 #[.val (.ref a1), .val (.int cu), .val (.ref a4), .val (.int (0 : Int32)), .val (.int (0 : Int32)), .val (.int (0 : Int32))] [(.int cu), (.int (0 : Int32)), (.ref a4)])) rfl (by rw [hml]; rfl) (argsL := [(.int cu)]) (rest := [(.int (0 : Int32)), (.ref a4)]) (lenOf own_pd0 rfl) rfl (by show 2 * 0 + _ ≤ _; exact Nat.le_of_eq rfl) (hb hby d7_78) (fun _ _ => ⟨rfl, e103, (by decide : 0 + 0 ≤ _), (by decide : 0 + 0 ≤ _)⟩)
  dsimp only [Pt.U, Pt.locs, Pt.cells, Pt.slots] at X104 l104 y104 z104 st104 hQ104
  subst l104 y104 z104
  obtain ⟨rfl, Nq104, e104⟩ := hQ104
  have N104 := Fr.app N103 Nq104
  have f105 := (At.other W102 n41)
  obtain ⟨T106, h106, X106, e106, W106, V106, st106⟩ := own_stC X104 hx hZ e104 f105 (j := (0 : Int32)) 0 (by decide) rfl hM (g := (mkF m 90 #[.val (.ref a1), .val (.int cu), .val (.ref a4), .val (.int (0 : Int32)), .val (.int (0 : Int32)), .val (.int (0 : Int32))] [(.int (65533 : Int32)), (.int (0 : Int32)), (.ref a4)])) rfl rfl (hb hby d7_90)
  have Z106 : n0 ≤ h106.size := Nat.le_trans Z102 (Nat.le_of_eq W106.size.symm)
  have KC106 : Keep h0 h106 [a1, a4] := KC102.wr W106 (Or.inl (List.mem_of_getElem? (i := 1) rfl))
  have N106 := Fr.snoc X106 N104 g_a4
  have f107 := ((Ex.wr W102).wr W106)
  have f108 := ((Fo.other W102 (Or.inr (slot_ne (Or.inl (hw _ (List.mem_of_getElem? (i := 17) rfl))) (Or.inl (hw _ (List.mem_of_getElem? (i := 24) rfl))) (by decide) (t := .int) (t' := .char) (by decide) (by decide)))).other W106 (Or.inl (Ne.symm n41)))
  have f109 := (F102.other W106 (Or.inl (Ne.symm n41)))
  obtain ⟨fs, hr, hrun, hended, hW, hsame⟩ := X106.leave (v := some (.int (1 : Int32))) (fun h => by rw [Bd.returns] at h; cases h)
  refine ⟨_, _, pre0 _ ?_, hrun, hended, _, _, rfl, ?_, ⟨_, rfl⟩, hW, hsame.mono (by decide) (by decide)⟩
  · show Steps p.tables e below (s₁.setTop (mkF m 0 #[.val (.ref a1), .val (.int cu), .val (.ref a4), .val (.int (0 : Int32)), .unset, .unset] [])) _
    refine XS.aloadN X0.here hx rfl (hb hby d7_0) rfl rfl ?_
    show Steps p.tables e below (s₁.setTop (mkF m 1 #[.val (.ref a1), .val (.int cu), .val (.ref a4), .val (.int (0 : Int32)), .unset, .unset] [(.ref a1)])) _
    refine st101 _ ?_
    show Steps p.tables e below (T101.setTop (mkF m 4 #[.val (.ref a1), .val (.int cu), .val (.ref a4), .val (.int (0 : Int32)), .unset, .unset] [(.int (0 : Int32))])) _
    refine XS.istore X101.here hx rfl (hb hby d7_4) rfl (l' := #[.val (.ref a1), .val (.int cu), .val (.ref a4), .val (.int (0 : Int32)), .val (.int (0 : Int32)), .unset]) rfl ?_
    show Steps p.tables e below (T101.setTop (mkF m 6 #[.val (.ref a1), .val (.int cu), .val (.ref a4), .val (.int (0 : Int32)), .val (.int (0 : Int32)), .unset] [])) _
    refine XS.aloadN X101.here hx rfl (hb hby d7_6) rfl rfl ?_
    show Steps p.tables e below (T101.setTop (mkF m 7 #[.val (.ref a1), .val (.int cu), .val (.ref a4), .val (.int (0 : Int32)), .val (.int (0 : Int32)), .unset] [(.ref a1)])) _
    refine XS.iconst X101.here hx rfl (hb hby d7_7) ?_
    show Steps p.tables e below (T101.setTop (mkF m 8 #[.val (.ref a1), .val (.int cu), .val (.ref a4), .val (.int (0 : Int32)), .val (.int (0 : Int32)), .unset] [(.int (0 : Int32)), (.ref a1)])) _
    refine st102 _ ?_
    show Steps p.tables e below (T102.setTop (mkF m 11 #[.val (.ref a1), .val (.int cu), .val (.ref a4), .val (.int (0 : Int32)), .val (.int (0 : Int32)), .unset] [])) _
    refine XS.iloadN X102.here hx rfl (hb hby d7_11) rfl ?_
    show Steps p.tables e below (T102.setTop (mkF m 12 #[.val (.ref a1), .val (.int cu), .val (.ref a4), .val (.int (0 : Int32)), .val (.int (0 : Int32)), .unset] [(.int (0 : Int32))])) _
    refine XS.istore X102.here hx rfl (hb hby d7_12) rfl (l' := #[.val (.ref a1), .val (.int cu), .val (.ref a4), .val (.int (0 : Int32)), .val (.int (0 : Int32)), .val (.int (0 : Int32))]) rfl ?_
    show Steps p.tables e below (T102.setTop (mkF m 14 #[.val (.ref a1), .val (.int cu), .val (.ref a4), .val (.int (0 : Int32)), .val (.int (0 : Int32)), .val (.int (0 : Int32))] [])) _
    refine XS.iload X102.here hx rfl (hb hby d7_14) rfl ?_
    show Steps p.tables e below (T102.setTop (mkF m 16 #[.val (.ref a1), .val (.int cu), .val (.ref a4), .val (.int (0 : Int32)), .val (.int (0 : Int32)), .val (.int (0 : Int32))] [(.int (0 : Int32))])) _
    refine XS.ifYes X102.here hx rfl (pc0 := 16) (pc' := 45) rfl (hb hby d7_16) rfl ((if0 _ _).trans (teq rfl).1) (by decide) (by decide) ?_
    show Steps p.tables e below (T102.setTop (mkF m 45 #[.val (.ref a1), .val (.int cu), .val (.ref a4), .val (.int (0 : Int32)), .val (.int (0 : Int32)), .val (.int (0 : Int32))] [])) _
    refine XS.iload X102.here hx rfl (hb hby d7_45) rfl ?_
    show Steps p.tables e below (T102.setTop (mkF m 47 #[.val (.ref a1), .val (.int cu), .val (.ref a4), .val (.int (0 : Int32)), .val (.int (0 : Int32)), .val (.int (0 : Int32))] [(.int (0 : Int32))])) _
    refine XS.ifYes X102.here hx rfl (pc0 := 47) (pc' := 59) rfl (hb hby d7_47) rfl ((if0 _ _).trans (teq rfl).1) (by decide) (by decide) ?_
    show Steps p.tables e below (T102.setTop (mkF m 59 #[.val (.ref a1), .val (.int cu), .val (.ref a4), .val (.int (0 : Int32)), .val (.int (0 : Int32)), .val (.int (0 : Int32))] [])) _
    refine XS.iloadN X102.here hx rfl (hb hby d7_59) rfl ?_
    show Steps p.tables e below (T102.setTop (mkF m 60 #[.val (.ref a1), .val (.int cu), .val (.ref a4), .val (.int (0 : Int32)), .val (.int (0 : Int32)), .val (.int (0 : Int32))] [(.int cu)])) _
    refine st103 _ ?_
    show Steps p.tables e below (T103.setTop (mkF m 63 #[.val (.ref a1), .val (.int cu), .val (.ref a4), .val (.int (0 : Int32)), .val (.int (0 : Int32)), .val (.int (0 : Int32))] [(.int (0 : Int32))])) _
    refine XS.ifYes X103.here hx rfl (pc0 := 63) (pc' := 74) rfl (hb hby d7_63) rfl ((if0 _ _).trans (teq rfl).1) (by decide) (by decide) ?_
    show Steps p.tables e below (T103.setTop (mkF m 74 #[.val (.ref a1), .val (.int cu), .val (.ref a4), .val (.int (0 : Int32)), .val (.int (0 : Int32)), .val (.int (0 : Int32))] [])) _
    refine XS.aloadN X103.here hx rfl (hb hby d7_74) rfl rfl ?_
    show Steps p.tables e below (T103.setTop (mkF m 75 #[.val (.ref a1), .val (.int cu), .val (.ref a4), .val (.int (0 : Int32)), .val (.int (0 : Int32)), .val (.int (0 : Int32))] [(.ref a4)])) _
    refine XS.iload X103.here hx rfl (hb hby d7_75) rfl ?_
    show Steps p.tables e below (T103.setTop (mkF m 77 #[.val (.ref a1), .val (.int cu), .val (.ref a4), .val (.int (0 : Int32)), .val (.int (0 : Int32)), .val (.int (0 : Int32))] [(.int (0 : Int32)), (.ref a4)])) _
    refine XS.iloadN X103.here hx rfl (hb hby d7_77) rfl ?_
    show Steps p.tables e below (T103.setTop (mkF m 78 #[.val (.ref a1), .val (.int cu), .val (.ref a4), .val (.int (0 : Int32)), .val (.int (0 : Int32)), .val (.int (0 : Int32))] [(.int cu), (.int (0 : Int32)), (.ref a4)])) _
    refine st104 _ ?_
    show Steps p.tables e below (T104.setTop (mkF m 81 #[.val (.ref a1), .val (.int cu), .val (.ref a4), .val (.int (0 : Int32)), .val (.int (0 : Int32)), .val (.int (0 : Int32))] [(.int (1 : Int32)), (.int (0 : Int32)), (.ref a4)])) _
    refine XS.ifNo X104.here hx rfl (hb hby d7_81) rfl ((if0 _ _).trans (feq (by decide : ¬ (1 : Int32) = (0 : Int32))).1) ?_
    show Steps p.tables e below (T104.setTop (mkF m 84 #[.val (.ref a1), .val (.int cu), .val (.ref a4), .val (.int (0 : Int32)), .val (.int (0 : Int32)), .val (.int (0 : Int32))] [(.int (0 : Int32)), (.ref a4)])) _
    refine X104.ldcInt hx hown (mvT hZ (hw _ (List.mem_of_getElem? (i := 46) rfl))) (g := (mkF m 84 #[.val (.ref a1), .val (.int cu), .val (.ref a4), .val (.int (0 : Int32)), .val (.int (0 : Int32)), .val (.int (0 : Int32))] [(.int (0 : Int32)), (.ref a4)])) rfl (hb hby d7_84) _ ?_
    show Steps p.tables e below (T104.setTop (mkF m 86 #[.val (.ref a1), .val (.int cu), .val (.ref a4), .val (.int (0 : Int32)), .val (.int (0 : Int32)), .val (.int (0 : Int32))] [(.int (65533 : Int32)), (.int (0 : Int32)), (.ref a4)])) _
    refine XS.goto X104.here hx rfl (pc0 := 86) (pc' := 90) rfl (hb hby d7_86) (by decide) (by decide) ?_
    show Steps p.tables e below (T104.setTop (mkF m 90 #[.val (.ref a1), .val (.int cu), .val (.ref a4), .val (.int (0 : Int32)), .val (.int (0 : Int32)), .val (.int (0 : Int32))] [(.int (65533 : Int32)), (.int (0 : Int32)), (.ref a4)])) _
    refine st106 _ ?_
    show Steps p.tables e below (T106.setTop (mkF m 91 #[.val (.ref a1), .val (.int cu), .val (.ref a4), .val (.int (0 : Int32)), .val (.int (0 : Int32)), .val (.int (0 : Int32))] [])) _
    refine XS.iinc X106.here hx rfl (hb hby d7_91) rfl (l' := #[.val (.ref a1), .val (.int cu), .val (.ref a4), .val (.int (0 : Int32)), .val (.int (0 : Int32)), .val (.int (1 : Int32))]) rfl ?_
    show Steps p.tables e below (T106.setTop (mkF m 94 #[.val (.ref a1), .val (.int cu), .val (.ref a4), .val (.int (0 : Int32)), .val (.int (0 : Int32)), .val (.int (1 : Int32))] [])) _
    refine XS.iload X106.here hx rfl (hb hby d7_94) rfl ?_
    show Steps p.tables e below (T106.setTop (mkF m 96 #[.val (.ref a1), .val (.int cu), .val (.ref a4), .val (.int (0 : Int32)), .val (.int (0 : Int32)), .val (.int (1 : Int32))] [(.int (1 : Int32))])) _
    exact own_retI X106 hx Bd.returns (hb hby d7_96) hr
  · show QD Z a1 a4 M (own_upd f 0 (.int (65533 : Int32))) (1 : Int32) (0 : Int32) h0 n0 _ T106.heap _
    rw [e106]
    exact ⟨o, rfl, N106, KC106, f107, f108, f109, V106⟩
set_option maxRecDepth 65536 in
set_option maxHeartbeats 40000000 in
theorem rmDA2 (l : Launch) (Z : State) (a0 : Array Value) (hw : ∀ d ∈ tables_1, d.before a0 Z = true) (ws : List Jvm.Cond) (a1 : Addr) (a2 : Addr) (a4 : Addr) (M : Nat) (f : Nat → Value) (fb : Nat → Value) (cu : Int32) (b0 : Int32) (b1 : Int32) (h0 : Heap) (n0 : Nat) (Z0 : n0 ≤ h0.size) (Ex : Exa Z h0 a1 "com/example/cellwright/cellwright/hive/Utf16Le$Decoder") (Fh : Fld Z h0 a1 "com/example/cellwright/cellwright/hive/Utf16Le$Decoder" "high" "C" (.int (0 : Int32))) (At : OwnA Z h0 a4 .char M f) (hM : 0 < M) (g_a1 : n0 ≤ a1) (g_a4 : n0 ≤ a4) (n41 : a4 ≠ a1) (hch : own_ch cu) (Fo : Fld Z h0 a1 "com/example/cellwright/cellwright/hive/Utf16Le$Decoder" "oddByte" "I" (.int (-1 : Int32))) (Ab : OwnA Z h0 a2 .byte 2 fb) (n21 : a2 ≠ a1) (n24 : a2 ≠ a4) (v0 : fb 0 = .int b0) (v1 : fb 1 = .int b1) (hc : (((b0 &&& (255 : Int32)) ||| ((b1 &&& (255 : Int32)) <<< ((8 : Int32) &&& 31))).toUInt32.toUInt16.toUInt32.toInt32) = cu) (h1 : cu < (55296 : Int32)) :
    MetFree l (⟨"com/example/cellwright/cellwright/hive/Utf16Le$Decoder", "decode", "([BII[CI)I"⟩ : MethodName) (head1 (Jvm.Cond.code (⟨"com/example/cellwright/cellwright/hive/Utf16Le$Decoder", "decode", "([BII[CI)I"⟩ : MethodName) prog_97_method_3_code 10 (some .int) :: ws) ({ frames := 2, cells := 0, slots := 0, locals := 31 } : Room)) (fun a U => a = #[(.ref a1), (.ref a2), (.int (0 : Int32)), (.int (2 : Int32)), (.ref a4), (.int (0 : Int32))] ∧ Z.Warmed39 U.vm ∧ U.heap = h0) (fun _ _ _ _ _ => True) (fun _ U o U' => ∃ v L, o = .returned v ∧ QD Z a1 a4 M (own_upd f 0 (.int (own_out cu))) (1 : Int32) (0 : Int32) h0 n0 v U'.heap L ∧ FrameEnd U o U' L ({ frames := 2, cells := 0, slots := 0, locals := 31 } : Room).cells ({ frames := 2, cells := 0, slots := 0, locals := 31 } : Room).slots) := by
  refine MetFree.of_bodySF (plainFor_of_name own_pn2) hisR ?_
  intro p e s m args below meth c s₁ Bd hml0 hP hK
  obtain ⟨rfl, hZ, hh⟩ := hP
  have hx := Bd.exec
  have hby := Bd.bytes
  have hml : c.maxLocals = 10 := hml0
  have hown : s.vm.findClass "com/example/cellwright/cellwright/hive/Utf16Le$Decoder" = some m.cls := findClass_of_methodNamed Bd.named
  have hnm := (name_of_methodNamed Bd.named Bd.method).1
  have X0 : Stand p l e ({ frames := 2, cells := 0, slots := 0, locals := 31 } : Room) s m #[(.ref a1), (.ref a2), (.int (0 : Int32)), (.int (2 : Int32)), (.ref a4), (.int (0 : Int32))] below meth c s₁ [] 0 0 := Stand.of_body Bd
  have e0 : s₁.heap = h0 := by rw [← hh, Bd.state]; rfl
  have N0 := Fr.nil n0
  have ef : entryFrame m #[(.ref a1), (.ref a2), (.int (0 : Int32)), (.int (2 : Int32)), (.ref a4), (.int (0 : Int32))] 10 = mkF m 0 #[.val (.ref a1), .val (.ref a2), .val (.int (0 : Int32)), .val (.int (2 : Int32)), .val (.ref a4), .val (.int (0 : Int32)), .unset, .unset, .unset, .unset] [] := by first | (simp [entryFrame, mkF, argsToLocals, Value.category]; done) | rfl
  have pre0 : ∀ t, Steps p.tables e below (s₁.setTop (mkF m 0 #[.val (.ref a1), .val (.ref a2), .val (.int (0 : Int32)), .val (.int (2 : Int32)), .val (.ref a4), .val (.int (0 : Int32)), .unset, .unset, .unset, .unset] [])) t → Steps p.tables e below (s₁.setTop (entryFrame m #[(.ref a1), (.ref a2), (.int (0 : Int32)), (.int (2 : Int32)), (.ref a4), (.int (0 : Int32))] 10)) t := fun t k => castTop ef k
  obtain ⟨T101, X101, e101, st101⟩ := getF X0 hx hZ hown (host := "") (Or.inl (hw _ (List.mem_of_getElem? (i := 16) rfl))) Via.refl e0 Fo (g := (mkF m 13 #[.val (.ref a1), .val (.ref a2), .val (.int (0 : Int32)), .val (.int (2 : Int32)), .val (.ref a4), .val (.int (0 : Int32)), .val (.int (0 : Int32)), .val (.int (2 : Int32)), .val (.int (0 : Int32)), .unset] [(.ref a1)])) rfl rfl (hb hby d4_13)
  obtain ⟨T102, X102, e102, st102⟩ := getF X101 hx hZ hown (host := "") (Or.inl (hw _ (List.mem_of_getElem? (i := 23) rfl))) Via.refl e101 Fh (g := (mkF m 96 #[.val (.ref a1), .val (.ref a2), .val (.int (0 : Int32)), .val (.int (2 : Int32)), .val (.ref a4), .val (.int (0 : Int32)), .val (.int (0 : Int32)), .val (.int (2 : Int32)), .val (.int (0 : Int32)), .val (.int cu)] [(.ref a1)])) rfl rfl (hb hby d4_96)
  have hb106 : cu < (55296 : Int32) := by simp only [Int32.lt_iff_toInt_lt, own_l1, own_l2, own_l3, own_l4, own_l5] at *; omega
  obtain ⟨T103, h103, X103, e103, W103, V103, st103⟩ := own_stC X102 hx hZ e102 At (j := (0 : Int32)) 0 (by decide) rfl hM (g := (mkF m 122 #[.val (.ref a1), .val (.ref a2), .val (.int (0 : Int32)), .val (.int (2 : Int32)), .val (.ref a4), .val (.int (0 : Int32)), .val (.int (0 : Int32)), .val (.int (2 : Int32)), .val (.int (0 : Int32)), .val (.int cu)] [(.int cu), (.int (0 : Int32)), (.ref a4)])) rfl rfl (hb hby d4_122)
  have Z103 : n0 ≤ h103.size := Nat.le_trans Z0 (Nat.le_of_eq W103.size.symm)
  have KC103 : Keep h0 h103 [a1, a4] := (Keep.refl h0 [a1, a4]).wr W103 (Or.inl (List.mem_of_getElem? (i := 1) rfl))
  have N103 := Fr.snoc X103 N0 g_a4
  have f104 := (Ex.wr W103)
  have f105 := (Fo.other W103 (Or.inl (Ne.symm n41)))
  have f106 := (Fh.other W103 (Or.inl (Ne.symm n41)))
  obtain ⟨fs, hr, hrun, hended, hW, hsame⟩ := X103.leave (v := some (.int (1 : Int32))) (fun h => by rw [Bd.returns] at h; cases h)
  refine ⟨_, _, pre0 _ ?_, hrun, hended, _, _, rfl, ?_, ⟨_, rfl⟩, hW, hsame.mono (by decide) (by decide)⟩
  · show Steps p.tables e below (s₁.setTop (mkF m 0 #[.val (.ref a1), .val (.ref a2), .val (.int (0 : Int32)), .val (.int (2 : Int32)), .val (.ref a4), .val (.int (0 : Int32)), .unset, .unset, .unset, .unset] [])) _
    refine XS.iloadN X0.here hx rfl (hb hby d4_0) rfl ?_
    show Steps p.tables e below (s₁.setTop (mkF m 1 #[.val (.ref a1), .val (.ref a2), .val (.int (0 : Int32)), .val (.int (2 : Int32)), .val (.ref a4), .val (.int (0 : Int32)), .unset, .unset, .unset, .unset] [(.int (0 : Int32))])) _
    refine XS.istore X0.here hx rfl (hb hby d4_1) rfl (l' := #[.val (.ref a1), .val (.ref a2), .val (.int (0 : Int32)), .val (.int (2 : Int32)), .val (.ref a4), .val (.int (0 : Int32)), .val (.int (0 : Int32)), .unset, .unset, .unset]) rfl ?_
    show Steps p.tables e below (s₁.setTop (mkF m 3 #[.val (.ref a1), .val (.ref a2), .val (.int (0 : Int32)), .val (.int (2 : Int32)), .val (.ref a4), .val (.int (0 : Int32)), .val (.int (0 : Int32)), .unset, .unset, .unset] [])) _
    refine XS.iloadN X0.here hx rfl (hb hby d4_3) rfl ?_
    show Steps p.tables e below (s₁.setTop (mkF m 4 #[.val (.ref a1), .val (.ref a2), .val (.int (0 : Int32)), .val (.int (2 : Int32)), .val (.ref a4), .val (.int (0 : Int32)), .val (.int (0 : Int32)), .unset, .unset, .unset] [(.int (0 : Int32))])) _
    refine XS.iloadN X0.here hx rfl (hb hby d4_4) rfl ?_
    show Steps p.tables e below (s₁.setTop (mkF m 5 #[.val (.ref a1), .val (.ref a2), .val (.int (0 : Int32)), .val (.int (2 : Int32)), .val (.ref a4), .val (.int (0 : Int32)), .val (.int (0 : Int32)), .unset, .unset, .unset] [(.int (2 : Int32)), (.int (0 : Int32))])) _
    refine XS.iadd X0.here hx rfl (hb hby d4_5) rfl ?_
    show Steps p.tables e below (s₁.setTop (mkF m 6 #[.val (.ref a1), .val (.ref a2), .val (.int (0 : Int32)), .val (.int (2 : Int32)), .val (.ref a4), .val (.int (0 : Int32)), .val (.int (0 : Int32)), .unset, .unset, .unset] [(.int (2 : Int32))])) _
    refine XS.istore X0.here hx rfl (hb hby d4_6) rfl (l' := #[.val (.ref a1), .val (.ref a2), .val (.int (0 : Int32)), .val (.int (2 : Int32)), .val (.ref a4), .val (.int (0 : Int32)), .val (.int (0 : Int32)), .val (.int (2 : Int32)), .unset, .unset]) rfl ?_
    show Steps p.tables e below (s₁.setTop (mkF m 8 #[.val (.ref a1), .val (.ref a2), .val (.int (0 : Int32)), .val (.int (2 : Int32)), .val (.ref a4), .val (.int (0 : Int32)), .val (.int (0 : Int32)), .val (.int (2 : Int32)), .unset, .unset] [])) _
    refine XS.iload X0.here hx rfl (hb hby d4_8) rfl ?_
    show Steps p.tables e below (s₁.setTop (mkF m 10 #[.val (.ref a1), .val (.ref a2), .val (.int (0 : Int32)), .val (.int (2 : Int32)), .val (.ref a4), .val (.int (0 : Int32)), .val (.int (0 : Int32)), .val (.int (2 : Int32)), .unset, .unset] [(.int (0 : Int32))])) _
    refine XS.istore X0.here hx rfl (hb hby d4_10) rfl (l' := #[.val (.ref a1), .val (.ref a2), .val (.int (0 : Int32)), .val (.int (2 : Int32)), .val (.ref a4), .val (.int (0 : Int32)), .val (.int (0 : Int32)), .val (.int (2 : Int32)), .val (.int (0 : Int32)), .unset]) rfl ?_
    show Steps p.tables e below (s₁.setTop (mkF m 12 #[.val (.ref a1), .val (.ref a2), .val (.int (0 : Int32)), .val (.int (2 : Int32)), .val (.ref a4), .val (.int (0 : Int32)), .val (.int (0 : Int32)), .val (.int (2 : Int32)), .val (.int (0 : Int32)), .unset] [])) _
    refine XS.aloadN X0.here hx rfl (hb hby d4_12) rfl rfl ?_
    show Steps p.tables e below (s₁.setTop (mkF m 13 #[.val (.ref a1), .val (.ref a2), .val (.int (0 : Int32)), .val (.int (2 : Int32)), .val (.ref a4), .val (.int (0 : Int32)), .val (.int (0 : Int32)), .val (.int (2 : Int32)), .val (.int (0 : Int32)), .unset] [(.ref a1)])) _
    refine st101 _ ?_
    show Steps p.tables e below (T101.setTop (mkF m 16 #[.val (.ref a1), .val (.ref a2), .val (.int (0 : Int32)), .val (.int (2 : Int32)), .val (.ref a4), .val (.int (0 : Int32)), .val (.int (0 : Int32)), .val (.int (2 : Int32)), .val (.int (0 : Int32)), .unset] [(.int (-1 : Int32))])) _
    refine XS.ifYes X101.here hx rfl (pc0 := 16) (pc' := 61) rfl (hb hby d4_16) rfl ((if0 _ _).trans (tlt (by decide : (-1 : Int32) < (0 : Int32))).1) (by decide) (by decide) ?_
    show Steps p.tables e below (T101.setTop (mkF m 61 #[.val (.ref a1), .val (.ref a2), .val (.int (0 : Int32)), .val (.int (2 : Int32)), .val (.ref a4), .val (.int (0 : Int32)), .val (.int (0 : Int32)), .val (.int (2 : Int32)), .val (.int (0 : Int32)), .unset] [])) _
    refine XS.iload X101.here hx rfl (hb hby d4_61) rfl ?_
    show Steps p.tables e below (T101.setTop (mkF m 63 #[.val (.ref a1), .val (.ref a2), .val (.int (0 : Int32)), .val (.int (2 : Int32)), .val (.ref a4), .val (.int (0 : Int32)), .val (.int (0 : Int32)), .val (.int (2 : Int32)), .val (.int (0 : Int32)), .unset] [(.int (0 : Int32))])) _
    refine XS.iconst X101.here hx rfl (hb hby d4_63) ?_
    show Steps p.tables e below (T101.setTop (mkF m 64 #[.val (.ref a1), .val (.ref a2), .val (.int (0 : Int32)), .val (.int (2 : Int32)), .val (.ref a4), .val (.int (0 : Int32)), .val (.int (0 : Int32)), .val (.int (2 : Int32)), .val (.int (0 : Int32)), .unset] [(.int (1 : Int32)), (.int (0 : Int32))])) _
    refine XS.iadd X101.here hx rfl (hb hby d4_64) rfl ?_
    show Steps p.tables e below (T101.setTop (mkF m 65 #[.val (.ref a1), .val (.ref a2), .val (.int (0 : Int32)), .val (.int (2 : Int32)), .val (.ref a4), .val (.int (0 : Int32)), .val (.int (0 : Int32)), .val (.int (2 : Int32)), .val (.int (0 : Int32)), .unset] [(.int (1 : Int32))])) _
    refine XS.iload X101.here hx rfl (hb hby d4_65) rfl ?_
    show Steps p.tables e below (T101.setTop (mkF m 67 #[.val (.ref a1), .val (.ref a2), .val (.int (0 : Int32)), .val (.int (2 : Int32)), .val (.ref a4), .val (.int (0 : Int32)), .val (.int (0 : Int32)), .val (.int (2 : Int32)), .val (.int (0 : Int32)), .unset] [(.int (2 : Int32)), (.int (1 : Int32))])) _
    refine XS.icmpNo X101.here hx rfl (hb hby d4_67) rfl (tlt (by decide : (1 : Int32) < (2 : Int32))).2.1 ?_
    show Steps p.tables e below (T101.setTop (mkF m 70 #[.val (.ref a1), .val (.ref a2), .val (.int (0 : Int32)), .val (.int (2 : Int32)), .val (.ref a4), .val (.int (0 : Int32)), .val (.int (0 : Int32)), .val (.int (2 : Int32)), .val (.int (0 : Int32)), .unset] [])) _
    refine XS.aloadN X101.here hx rfl (hb hby d4_70) rfl rfl ?_
    show Steps p.tables e below (T101.setTop (mkF m 71 #[.val (.ref a1), .val (.ref a2), .val (.int (0 : Int32)), .val (.int (2 : Int32)), .val (.ref a4), .val (.int (0 : Int32)), .val (.int (0 : Int32)), .val (.int (2 : Int32)), .val (.int (0 : Int32)), .unset] [(.ref a2)])) _
    refine XS.iload X101.here hx rfl (hb hby d4_71) rfl ?_
    show Steps p.tables e below (T101.setTop (mkF m 73 #[.val (.ref a1), .val (.ref a2), .val (.int (0 : Int32)), .val (.int (2 : Int32)), .val (.ref a4), .val (.int (0 : Int32)), .val (.int (0 : Int32)), .val (.int (2 : Int32)), .val (.int (0 : Int32)), .unset] [(.int (0 : Int32)), (.ref a2)])) _
    refine own_ldB X101 hx hZ e101 Ab (j := (0 : Int32)) 0 (by decide) rfl (by decide) (v := (.int b0)) v0 (g := (mkF m 73 #[.val (.ref a1), .val (.ref a2), .val (.int (0 : Int32)), .val (.int (2 : Int32)), .val (.ref a4), .val (.int (0 : Int32)), .val (.int (0 : Int32)), .val (.int (2 : Int32)), .val (.int (0 : Int32)), .unset] [(.int (0 : Int32)), (.ref a2)])) rfl rfl (hb hby d4_73) _ ?_
    show Steps p.tables e below (T101.setTop (mkF m 74 #[.val (.ref a1), .val (.ref a2), .val (.int (0 : Int32)), .val (.int (2 : Int32)), .val (.ref a4), .val (.int (0 : Int32)), .val (.int (0 : Int32)), .val (.int (2 : Int32)), .val (.int (0 : Int32)), .unset] [(.int b0)])) _
    refine XS.sipush X101.here hx rfl (hb hby d4_74) ?_
    show Steps p.tables e below (T101.setTop (mkF m 77 #[.val (.ref a1), .val (.ref a2), .val (.int (0 : Int32)), .val (.int (2 : Int32)), .val (.ref a4), .val (.int (0 : Int32)), .val (.int (0 : Int32)), .val (.int (2 : Int32)), .val (.int (0 : Int32)), .unset] [(.int (255 : Int32)), (.int b0)])) _
    refine XS.iand X101.here hx rfl (hb hby d4_77) rfl ?_
    show Steps p.tables e below (T101.setTop (mkF m 78 #[.val (.ref a1), .val (.ref a2), .val (.int (0 : Int32)), .val (.int (2 : Int32)), .val (.ref a4), .val (.int (0 : Int32)), .val (.int (0 : Int32)), .val (.int (2 : Int32)), .val (.int (0 : Int32)), .unset] [(.int (b0 &&& (255 : Int32)))])) _
    refine XS.aloadN X101.here hx rfl (hb hby d4_78) rfl rfl ?_
    show Steps p.tables e below (T101.setTop (mkF m 79 #[.val (.ref a1), .val (.ref a2), .val (.int (0 : Int32)), .val (.int (2 : Int32)), .val (.ref a4), .val (.int (0 : Int32)), .val (.int (0 : Int32)), .val (.int (2 : Int32)), .val (.int (0 : Int32)), .unset] [(.ref a2), (.int (b0 &&& (255 : Int32)))])) _
    refine XS.iload X101.here hx rfl (hb hby d4_79) rfl ?_
    show Steps p.tables e below (T101.setTop (mkF m 81 #[.val (.ref a1), .val (.ref a2), .val (.int (0 : Int32)), .val (.int (2 : Int32)), .val (.ref a4), .val (.int (0 : Int32)), .val (.int (0 : Int32)), .val (.int (2 : Int32)), .val (.int (0 : Int32)), .unset] [(.int (0 : Int32)), (.ref a2), (.int (b0 &&& (255 : Int32)))])) _
    refine XS.iconst X101.here hx rfl (hb hby d4_81) ?_
    show Steps p.tables e below (T101.setTop (mkF m 82 #[.val (.ref a1), .val (.ref a2), .val (.int (0 : Int32)), .val (.int (2 : Int32)), .val (.ref a4), .val (.int (0 : Int32)), .val (.int (0 : Int32)), .val (.int (2 : Int32)), .val (.int (0 : Int32)), .unset] [(.int (1 : Int32)), (.int (0 : Int32)), (.ref a2), (.int (b0 &&& (255 : Int32)))])) _
    refine XS.iadd X101.here hx rfl (hb hby d4_82) rfl ?_
    show Steps p.tables e below (T101.setTop (mkF m 83 #[.val (.ref a1), .val (.ref a2), .val (.int (0 : Int32)), .val (.int (2 : Int32)), .val (.ref a4), .val (.int (0 : Int32)), .val (.int (0 : Int32)), .val (.int (2 : Int32)), .val (.int (0 : Int32)), .unset] [(.int (1 : Int32)), (.ref a2), (.int (b0 &&& (255 : Int32)))])) _
    refine own_ldB X101 hx hZ e101 Ab (j := (1 : Int32)) 1 (by decide) rfl (by decide) (v := (.int b1)) v1 (g := (mkF m 83 #[.val (.ref a1), .val (.ref a2), .val (.int (0 : Int32)), .val (.int (2 : Int32)), .val (.ref a4), .val (.int (0 : Int32)), .val (.int (0 : Int32)), .val (.int (2 : Int32)), .val (.int (0 : Int32)), .unset] [(.int (1 : Int32)), (.ref a2), (.int (b0 &&& (255 : Int32)))])) rfl rfl (hb hby d4_83) _ ?_
    show Steps p.tables e below (T101.setTop (mkF m 84 #[.val (.ref a1), .val (.ref a2), .val (.int (0 : Int32)), .val (.int (2 : Int32)), .val (.ref a4), .val (.int (0 : Int32)), .val (.int (0 : Int32)), .val (.int (2 : Int32)), .val (.int (0 : Int32)), .unset] [(.int b1), (.int (b0 &&& (255 : Int32)))])) _
    refine XS.sipush X101.here hx rfl (hb hby d4_84) ?_
    show Steps p.tables e below (T101.setTop (mkF m 87 #[.val (.ref a1), .val (.ref a2), .val (.int (0 : Int32)), .val (.int (2 : Int32)), .val (.ref a4), .val (.int (0 : Int32)), .val (.int (0 : Int32)), .val (.int (2 : Int32)), .val (.int (0 : Int32)), .unset] [(.int (255 : Int32)), (.int b1), (.int (b0 &&& (255 : Int32)))])) _
    refine XS.iand X101.here hx rfl (hb hby d4_87) rfl ?_
    show Steps p.tables e below (T101.setTop (mkF m 88 #[.val (.ref a1), .val (.ref a2), .val (.int (0 : Int32)), .val (.int (2 : Int32)), .val (.ref a4), .val (.int (0 : Int32)), .val (.int (0 : Int32)), .val (.int (2 : Int32)), .val (.int (0 : Int32)), .unset] [(.int (b1 &&& (255 : Int32))), (.int (b0 &&& (255 : Int32)))])) _
    refine XS.bipush X101.here hx rfl (hb hby d4_88) ?_
    show Steps p.tables e below (T101.setTop (mkF m 90 #[.val (.ref a1), .val (.ref a2), .val (.int (0 : Int32)), .val (.int (2 : Int32)), .val (.ref a4), .val (.int (0 : Int32)), .val (.int (0 : Int32)), .val (.int (2 : Int32)), .val (.int (0 : Int32)), .unset] [(.int (8 : Int32)), (.int (b1 &&& (255 : Int32))), (.int (b0 &&& (255 : Int32)))])) _
    refine XS.ishl X101.here hx rfl (hb hby d4_90) rfl ?_
    show Steps p.tables e below (T101.setTop (mkF m 91 #[.val (.ref a1), .val (.ref a2), .val (.int (0 : Int32)), .val (.int (2 : Int32)), .val (.ref a4), .val (.int (0 : Int32)), .val (.int (0 : Int32)), .val (.int (2 : Int32)), .val (.int (0 : Int32)), .unset] [(.int ((b1 &&& (255 : Int32)) <<< ((8 : Int32) &&& 31))), (.int (b0 &&& (255 : Int32)))])) _
    refine XS.ior X101.here hx rfl (hb hby d4_91) rfl ?_
    show Steps p.tables e below (T101.setTop (mkF m 92 #[.val (.ref a1), .val (.ref a2), .val (.int (0 : Int32)), .val (.int (2 : Int32)), .val (.ref a4), .val (.int (0 : Int32)), .val (.int (0 : Int32)), .val (.int (2 : Int32)), .val (.int (0 : Int32)), .unset] [(.int ((b0 &&& (255 : Int32)) ||| ((b1 &&& (255 : Int32)) <<< ((8 : Int32) &&& 31))))])) _
    refine XS.i2c X101.here hx rfl (hb hby d4_92) rfl ?_
    show Steps p.tables e below (T101.setTop (mkF m 93 #[.val (.ref a1), .val (.ref a2), .val (.int (0 : Int32)), .val (.int (2 : Int32)), .val (.ref a4), .val (.int (0 : Int32)), .val (.int (0 : Int32)), .val (.int (2 : Int32)), .val (.int (0 : Int32)), .unset] [(.int (((b0 &&& (255 : Int32)) ||| ((b1 &&& (255 : Int32)) <<< ((8 : Int32) &&& 31))).toUInt32.toUInt16.toUInt32.toInt32))])) _
    rw [hc]
    show Steps p.tables e below (T101.setTop (mkF m 93 #[.val (.ref a1), .val (.ref a2), .val (.int (0 : Int32)), .val (.int (2 : Int32)), .val (.ref a4), .val (.int (0 : Int32)), .val (.int (0 : Int32)), .val (.int (2 : Int32)), .val (.int (0 : Int32)), .unset] [(.int cu)])) _
    refine XS.istore X101.here hx rfl (hb hby d4_93) rfl (l' := #[.val (.ref a1), .val (.ref a2), .val (.int (0 : Int32)), .val (.int (2 : Int32)), .val (.ref a4), .val (.int (0 : Int32)), .val (.int (0 : Int32)), .val (.int (2 : Int32)), .val (.int (0 : Int32)), .val (.int cu)]) rfl ?_
    show Steps p.tables e below (T101.setTop (mkF m 95 #[.val (.ref a1), .val (.ref a2), .val (.int (0 : Int32)), .val (.int (2 : Int32)), .val (.ref a4), .val (.int (0 : Int32)), .val (.int (0 : Int32)), .val (.int (2 : Int32)), .val (.int (0 : Int32)), .val (.int cu)] [])) _
    refine XS.aloadN X101.here hx rfl (hb hby d4_95) rfl rfl ?_
    show Steps p.tables e below (T101.setTop (mkF m 96 #[.val (.ref a1), .val (.ref a2), .val (.int (0 : Int32)), .val (.int (2 : Int32)), .val (.ref a4), .val (.int (0 : Int32)), .val (.int (0 : Int32)), .val (.int (2 : Int32)), .val (.int (0 : Int32)), .val (.int cu)] [(.ref a1)])) _
    refine st102 _ ?_
    show Steps p.tables e below (T102.setTop (mkF m 99 #[.val (.ref a1), .val (.ref a2), .val (.int (0 : Int32)), .val (.int (2 : Int32)), .val (.ref a4), .val (.int (0 : Int32)), .val (.int (0 : Int32)), .val (.int (2 : Int32)), .val (.int (0 : Int32)), .val (.int cu)] [(.int (0 : Int32))])) _
    refine XS.ifNo X102.here hx rfl (hb hby d4_99) rfl ((if0 _ _).trans (teq rfl).2) ?_
    show Steps p.tables e below (T102.setTop (mkF m 102 #[.val (.ref a1), .val (.ref a2), .val (.int (0 : Int32)), .val (.int (2 : Int32)), .val (.ref a4), .val (.int (0 : Int32)), .val (.int (0 : Int32)), .val (.int (2 : Int32)), .val (.int (0 : Int32)), .val (.int cu)] [])) _
    refine XS.iload X102.here hx rfl (hb hby d4_102) rfl ?_
    show Steps p.tables e below (T102.setTop (mkF m 104 #[.val (.ref a1), .val (.ref a2), .val (.int (0 : Int32)), .val (.int (2 : Int32)), .val (.ref a4), .val (.int (0 : Int32)), .val (.int (0 : Int32)), .val (.int (2 : Int32)), .val (.int (0 : Int32)), .val (.int cu)] [(.int cu)])) _
    refine X102.ldcInt hx hown (mvT hZ (hw _ (List.mem_of_getElem? (i := 25) rfl))) (g := (mkF m 104 #[.val (.ref a1), .val (.ref a2), .val (.int (0 : Int32)), .val (.int (2 : Int32)), .val (.ref a4), .val (.int (0 : Int32)), .val (.int (0 : Int32)), .val (.int (2 : Int32)), .val (.int (0 : Int32)), .val (.int cu)] [(.int cu)])) rfl (hb hby d4_104) _ ?_
    show Steps p.tables e below (T102.setTop (mkF m 106 #[.val (.ref a1), .val (.ref a2), .val (.int (0 : Int32)), .val (.int (2 : Int32)), .val (.ref a4), .val (.int (0 : Int32)), .val (.int (0 : Int32)), .val (.int (2 : Int32)), .val (.int (0 : Int32)), .val (.int cu)] [(.int (55296 : Int32)), (.int cu)])) _
    refine XS.icmpYes X102.here hx rfl (pc0 := 106) (pc' := 116) rfl (hb hby d4_106) rfl (tlt hb106).1 (by decide) (by decide) ?_
    show Steps p.tables e below (T102.setTop (mkF m 116 #[.val (.ref a1), .val (.ref a2), .val (.int (0 : Int32)), .val (.int (2 : Int32)), .val (.ref a4), .val (.int (0 : Int32)), .val (.int (0 : Int32)), .val (.int (2 : Int32)), .val (.int (0 : Int32)), .val (.int cu)] [])) _
    refine XS.aload X102.here hx rfl (hb hby d4_116) rfl rfl ?_
    show Steps p.tables e below (T102.setTop (mkF m 118 #[.val (.ref a1), .val (.ref a2), .val (.int (0 : Int32)), .val (.int (2 : Int32)), .val (.ref a4), .val (.int (0 : Int32)), .val (.int (0 : Int32)), .val (.int (2 : Int32)), .val (.int (0 : Int32)), .val (.int cu)] [(.ref a4)])) _
    refine XS.iload X102.here hx rfl (hb hby d4_118) rfl ?_
    show Steps p.tables e below (T102.setTop (mkF m 120 #[.val (.ref a1), .val (.ref a2), .val (.int (0 : Int32)), .val (.int (2 : Int32)), .val (.ref a4), .val (.int (0 : Int32)), .val (.int (0 : Int32)), .val (.int (2 : Int32)), .val (.int (0 : Int32)), .val (.int cu)] [(.int (0 : Int32)), (.ref a4)])) _
    refine XS.iload X102.here hx rfl (hb hby d4_120) rfl ?_
    show Steps p.tables e below (T102.setTop (mkF m 122 #[.val (.ref a1), .val (.ref a2), .val (.int (0 : Int32)), .val (.int (2 : Int32)), .val (.ref a4), .val (.int (0 : Int32)), .val (.int (0 : Int32)), .val (.int (2 : Int32)), .val (.int (0 : Int32)), .val (.int cu)] [(.int cu), (.int (0 : Int32)), (.ref a4)])) _
    refine st103 _ ?_
    show Steps p.tables e below (T103.setTop (mkF m 123 #[.val (.ref a1), .val (.ref a2), .val (.int (0 : Int32)), .val (.int (2 : Int32)), .val (.ref a4), .val (.int (0 : Int32)), .val (.int (0 : Int32)), .val (.int (2 : Int32)), .val (.int (0 : Int32)), .val (.int cu)] [])) _
    refine XS.iinc X103.here hx rfl (hb hby d4_123) rfl (l' := #[.val (.ref a1), .val (.ref a2), .val (.int (0 : Int32)), .val (.int (2 : Int32)), .val (.ref a4), .val (.int (0 : Int32)), .val (.int (0 : Int32)), .val (.int (2 : Int32)), .val (.int (1 : Int32)), .val (.int cu)]) rfl ?_
    show Steps p.tables e below (T103.setTop (mkF m 126 #[.val (.ref a1), .val (.ref a2), .val (.int (0 : Int32)), .val (.int (2 : Int32)), .val (.ref a4), .val (.int (0 : Int32)), .val (.int (0 : Int32)), .val (.int (2 : Int32)), .val (.int (1 : Int32)), .val (.int cu)] [])) _
    refine XS.goto X103.here hx rfl (pc0 := 126) (pc' := 141) rfl (hb hby d4_126) (by decide) (by decide) ?_
    show Steps p.tables e below (T103.setTop (mkF m 141 #[.val (.ref a1), .val (.ref a2), .val (.int (0 : Int32)), .val (.int (2 : Int32)), .val (.ref a4), .val (.int (0 : Int32)), .val (.int (0 : Int32)), .val (.int (2 : Int32)), .val (.int (1 : Int32)), .val (.int cu)] [])) _
    refine XS.iinc X103.here hx rfl (hb hby d4_141) rfl (l' := #[.val (.ref a1), .val (.ref a2), .val (.int (0 : Int32)), .val (.int (2 : Int32)), .val (.ref a4), .val (.int (0 : Int32)), .val (.int (2 : Int32)), .val (.int (2 : Int32)), .val (.int (1 : Int32)), .val (.int cu)]) rfl ?_
    show Steps p.tables e below (T103.setTop (mkF m 144 #[.val (.ref a1), .val (.ref a2), .val (.int (0 : Int32)), .val (.int (2 : Int32)), .val (.ref a4), .val (.int (0 : Int32)), .val (.int (2 : Int32)), .val (.int (2 : Int32)), .val (.int (1 : Int32)), .val (.int cu)] [])) _
    refine XS.goto X103.here hx rfl (pc0 := 144) (pc' := 61) rfl (hb hby d4_144) (by decide) (by decide) ?_
    show Steps p.tables e below (T103.setTop (mkF m 61 #[.val (.ref a1), .val (.ref a2), .val (.int (0 : Int32)), .val (.int (2 : Int32)), .val (.ref a4), .val (.int (0 : Int32)), .val (.int (2 : Int32)), .val (.int (2 : Int32)), .val (.int (1 : Int32)), .val (.int cu)] [])) _
    refine XS.iload X103.here hx rfl (hb hby d4_61) rfl ?_
    show Steps p.tables e below (T103.setTop (mkF m 63 #[.val (.ref a1), .val (.ref a2), .val (.int (0 : Int32)), .val (.int (2 : Int32)), .val (.ref a4), .val (.int (0 : Int32)), .val (.int (2 : Int32)), .val (.int (2 : Int32)), .val (.int (1 : Int32)), .val (.int cu)] [(.int (2 : Int32))])) _
    refine XS.iconst X103.here hx rfl (hb hby d4_63) ?_
    show Steps p.tables e below (T103.setTop (mkF m 64 #[.val (.ref a1), .val (.ref a2), .val (.int (0 : Int32)), .val (.int (2 : Int32)), .val (.ref a4), .val (.int (0 : Int32)), .val (.int (2 : Int32)), .val (.int (2 : Int32)), .val (.int (1 : Int32)), .val (.int cu)] [(.int (1 : Int32)), (.int (2 : Int32))])) _
    refine XS.iadd X103.here hx rfl (hb hby d4_64) rfl ?_
    show Steps p.tables e below (T103.setTop (mkF m 65 #[.val (.ref a1), .val (.ref a2), .val (.int (0 : Int32)), .val (.int (2 : Int32)), .val (.ref a4), .val (.int (0 : Int32)), .val (.int (2 : Int32)), .val (.int (2 : Int32)), .val (.int (1 : Int32)), .val (.int cu)] [(.int (3 : Int32))])) _
    refine XS.iload X103.here hx rfl (hb hby d4_65) rfl ?_
    show Steps p.tables e below (T103.setTop (mkF m 67 #[.val (.ref a1), .val (.ref a2), .val (.int (0 : Int32)), .val (.int (2 : Int32)), .val (.ref a4), .val (.int (0 : Int32)), .val (.int (2 : Int32)), .val (.int (2 : Int32)), .val (.int (1 : Int32)), .val (.int cu)] [(.int (2 : Int32)), (.int (3 : Int32))])) _
    refine XS.icmpYes X103.here hx rfl (pc0 := 67) (pc' := 147) rfl (hb hby d4_67) rfl (flt (by decide : ¬ (3 : Int32) < (2 : Int32))).2.1 (by decide) (by decide) ?_
    show Steps p.tables e below (T103.setTop (mkF m 147 #[.val (.ref a1), .val (.ref a2), .val (.int (0 : Int32)), .val (.int (2 : Int32)), .val (.ref a4), .val (.int (0 : Int32)), .val (.int (2 : Int32)), .val (.int (2 : Int32)), .val (.int (1 : Int32)), .val (.int cu)] [])) _
    refine XS.iload X103.here hx rfl (hb hby d4_147) rfl ?_
    show Steps p.tables e below (T103.setTop (mkF m 149 #[.val (.ref a1), .val (.ref a2), .val (.int (0 : Int32)), .val (.int (2 : Int32)), .val (.ref a4), .val (.int (0 : Int32)), .val (.int (2 : Int32)), .val (.int (2 : Int32)), .val (.int (1 : Int32)), .val (.int cu)] [(.int (2 : Int32))])) _
    refine XS.iload X103.here hx rfl (hb hby d4_149) rfl ?_
    show Steps p.tables e below (T103.setTop (mkF m 151 #[.val (.ref a1), .val (.ref a2), .val (.int (0 : Int32)), .val (.int (2 : Int32)), .val (.ref a4), .val (.int (0 : Int32)), .val (.int (2 : Int32)), .val (.int (2 : Int32)), .val (.int (1 : Int32)), .val (.int cu)] [(.int (2 : Int32)), (.int (2 : Int32))])) _
    refine XS.icmpYes X103.here hx rfl (pc0 := 151) (pc' := 166) rfl (hb hby d4_151) rfl (flt (by decide : ¬ (2 : Int32) < (2 : Int32))).2.1 (by decide) (by decide) ?_
    show Steps p.tables e below (T103.setTop (mkF m 166 #[.val (.ref a1), .val (.ref a2), .val (.int (0 : Int32)), .val (.int (2 : Int32)), .val (.ref a4), .val (.int (0 : Int32)), .val (.int (2 : Int32)), .val (.int (2 : Int32)), .val (.int (1 : Int32)), .val (.int cu)] [])) _
    refine XS.iload X103.here hx rfl (hb hby d4_166) rfl ?_
    show Steps p.tables e below (T103.setTop (mkF m 168 #[.val (.ref a1), .val (.ref a2), .val (.int (0 : Int32)), .val (.int (2 : Int32)), .val (.ref a4), .val (.int (0 : Int32)), .val (.int (2 : Int32)), .val (.int (2 : Int32)), .val (.int (1 : Int32)), .val (.int cu)] [(.int (1 : Int32))])) _
    exact own_retI X103 hx Bd.returns (hb hby d4_168) hr
  · show QD Z a1 a4 M (own_upd f 0 (.int (own_out cu))) (1 : Int32) (0 : Int32) h0 n0 _ T103.heap _
    rw [e103]
    exact ⟨_, rfl, N103, KC103, f104, f105, f106, (V103.cast (fun i _ => by rw [← hch, own_lowA h1]))⟩
set_option maxRecDepth 65536 in
set_option maxHeartbeats 40000000 in
theorem rmDB2 (l : Launch) (Z : State) (a0 : Array Value) (hw : ∀ d ∈ tables_1, d.before a0 Z = true) (ws : List Jvm.Cond) (a1 : Addr) (a2 : Addr) (a4 : Addr) (M : Nat) (f : Nat → Value) (fb : Nat → Value) (cu : Int32) (b0 : Int32) (b1 : Int32) (h0 : Heap) (n0 : Nat) (Z0 : n0 ≤ h0.size) (Ex : Exa Z h0 a1 "com/example/cellwright/cellwright/hive/Utf16Le$Decoder") (Fh : Fld Z h0 a1 "com/example/cellwright/cellwright/hive/Utf16Le$Decoder" "high" "C" (.int (0 : Int32))) (At : OwnA Z h0 a4 .char M f) (hM : 0 < M) (g_a1 : n0 ≤ a1) (g_a4 : n0 ≤ a4) (n41 : a4 ≠ a1) (hch : own_ch cu) (Fo : Fld Z h0 a1 "com/example/cellwright/cellwright/hive/Utf16Le$Decoder" "oddByte" "I" (.int (-1 : Int32))) (Ab : OwnA Z h0 a2 .byte 2 fb) (n21 : a2 ≠ a1) (n24 : a2 ≠ a4) (v0 : fb 0 = .int b0) (v1 : fb 1 = .int b1) (hc : (((b0 &&& (255 : Int32)) ||| ((b1 &&& (255 : Int32)) <<< ((8 : Int32) &&& 31))).toUInt32.toUInt16.toUInt32.toInt32) = cu) (h1 : (57343 : Int32) < cu) :
    MetFree l (⟨"com/example/cellwright/cellwright/hive/Utf16Le$Decoder", "decode", "([BII[CI)I"⟩ : MethodName) (head1 (Jvm.Cond.code (⟨"com/example/cellwright/cellwright/hive/Utf16Le$Decoder", "decode", "([BII[CI)I"⟩ : MethodName) prog_97_method_3_code 10 (some .int) :: ws) ({ frames := 2, cells := 0, slots := 0, locals := 31 } : Room)) (fun a U => a = #[(.ref a1), (.ref a2), (.int (0 : Int32)), (.int (2 : Int32)), (.ref a4), (.int (0 : Int32))] ∧ Z.Warmed39 U.vm ∧ U.heap = h0) (fun _ _ _ _ _ => True) (fun _ U o U' => ∃ v L, o = .returned v ∧ QD Z a1 a4 M (own_upd f 0 (.int (own_out cu))) (1 : Int32) (0 : Int32) h0 n0 v U'.heap L ∧ FrameEnd U o U' L ({ frames := 2, cells := 0, slots := 0, locals := 31 } : Room).cells ({ frames := 2, cells := 0, slots := 0, locals := 31 } : Room).slots) := by
  refine MetFree.of_bodySF (plainFor_of_name own_pn2) hisR ?_
  intro p e s m args below meth c s₁ Bd hml0 hP hK
  obtain ⟨rfl, hZ, hh⟩ := hP
  have hx := Bd.exec
  have hby := Bd.bytes
  have hml : c.maxLocals = 10 := hml0
  have hown : s.vm.findClass "com/example/cellwright/cellwright/hive/Utf16Le$Decoder" = some m.cls := findClass_of_methodNamed Bd.named
  have hnm := (name_of_methodNamed Bd.named Bd.method).1
  have X0 : Stand p l e ({ frames := 2, cells := 0, slots := 0, locals := 31 } : Room) s m #[(.ref a1), (.ref a2), (.int (0 : Int32)), (.int (2 : Int32)), (.ref a4), (.int (0 : Int32))] below meth c s₁ [] 0 0 := Stand.of_body Bd
  have e0 : s₁.heap = h0 := by rw [← hh, Bd.state]; rfl
  have N0 := Fr.nil n0
  have ef : entryFrame m #[(.ref a1), (.ref a2), (.int (0 : Int32)), (.int (2 : Int32)), (.ref a4), (.int (0 : Int32))] 10 = mkF m 0 #[.val (.ref a1), .val (.ref a2), .val (.int (0 : Int32)), .val (.int (2 : Int32)), .val (.ref a4), .val (.int (0 : Int32)), .unset, .unset, .unset, .unset] [] := by first | (simp [entryFrame, mkF, argsToLocals, Value.category]; done) | rfl
  have pre0 : ∀ t, Steps p.tables e below (s₁.setTop (mkF m 0 #[.val (.ref a1), .val (.ref a2), .val (.int (0 : Int32)), .val (.int (2 : Int32)), .val (.ref a4), .val (.int (0 : Int32)), .unset, .unset, .unset, .unset] [])) t → Steps p.tables e below (s₁.setTop (entryFrame m #[(.ref a1), (.ref a2), (.int (0 : Int32)), (.int (2 : Int32)), (.ref a4), (.int (0 : Int32))] 10)) t := fun t k => castTop ef k
  obtain ⟨T101, X101, e101, st101⟩ := getF X0 hx hZ hown (host := "") (Or.inl (hw _ (List.mem_of_getElem? (i := 16) rfl))) Via.refl e0 Fo (g := (mkF m 13 #[.val (.ref a1), .val (.ref a2), .val (.int (0 : Int32)), .val (.int (2 : Int32)), .val (.ref a4), .val (.int (0 : Int32)), .val (.int (0 : Int32)), .val (.int (2 : Int32)), .val (.int (0 : Int32)), .unset] [(.ref a1)])) rfl rfl (hb hby d4_13)
  obtain ⟨T102, X102, e102, st102⟩ := getF X101 hx hZ hown (host := "") (Or.inl (hw _ (List.mem_of_getElem? (i := 23) rfl))) Via.refl e101 Fh (g := (mkF m 96 #[.val (.ref a1), .val (.ref a2), .val (.int (0 : Int32)), .val (.int (2 : Int32)), .val (.ref a4), .val (.int (0 : Int32)), .val (.int (0 : Int32)), .val (.int (2 : Int32)), .val (.int (0 : Int32)), .val (.int cu)] [(.ref a1)])) rfl rfl (hb hby d4_96)
  have hb106 : ¬ cu < (55296 : Int32) := by simp only [Int32.lt_iff_toInt_lt, own_l1, own_l2, own_l3, own_l4, own_l5] at *; omega
  have hb113 : (57343 : Int32) < cu := by simp only [Int32.lt_iff_toInt_lt, own_l1, own_l2, own_l3, own_l4, own_l5] at *; omega
  obtain ⟨T103, h103, X103, e103, W103, V103, st103⟩ := own_stC X102 hx hZ e102 At (j := (0 : Int32)) 0 (by decide) rfl hM (g := (mkF m 122 #[.val (.ref a1), .val (.ref a2), .val (.int (0 : Int32)), .val (.int (2 : Int32)), .val (.ref a4), .val (.int (0 : Int32)), .val (.int (0 : Int32)), .val (.int (2 : Int32)), .val (.int (0 : Int32)), .val (.int cu)] [(.int cu), (.int (0 : Int32)), (.ref a4)])) rfl rfl (hb hby d4_122)
  have Z103 : n0 ≤ h103.size := Nat.le_trans Z0 (Nat.le_of_eq W103.size.symm)
  have KC103 : Keep h0 h103 [a1, a4] := (Keep.refl h0 [a1, a4]).wr W103 (Or.inl (List.mem_of_getElem? (i := 1) rfl))
  have N103 := Fr.snoc X103 N0 g_a4
  have f104 := (Ex.wr W103)
  have f105 := (Fo.other W103 (Or.inl (Ne.symm n41)))
  have f106 := (Fh.other W103 (Or.inl (Ne.symm n41)))
  obtain ⟨fs, hr, hrun, hended, hW, hsame⟩ := X103.leave (v := some (.int (1 : Int32))) (fun h => by rw [Bd.returns] at h; cases h)
  refine ⟨_, _, pre0 _ ?_, hrun, hended, _, _, rfl, ?_, ⟨_, rfl⟩, hW, hsame.mono (by decide) (by decide)⟩
  · show Steps p.tables e below (s₁.setTop (mkF m 0 #[.val (.ref a1), .val (.ref a2), .val (.int (0 : Int32)), .val (.int (2 : Int32)), .val (.ref a4), .val (.int (0 : Int32)), .unset, .unset, .unset, .unset] [])) _
    refine XS.iloadN X0.here hx rfl (hb hby d4_0) rfl ?_
    show Steps p.tables e below (s₁.setTop (mkF m 1 #[.val (.ref a1), .val (.ref a2), .val (.int (0 : Int32)), .val (.int (2 : Int32)), .val (.ref a4), .val (.int (0 : Int32)), .unset, .unset, .unset, .unset] [(.int (0 : Int32))])) _
    refine XS.istore X0.here hx rfl (hb hby d4_1) rfl (l' := #[.val (.ref a1), .val (.ref a2), .val (.int (0 : Int32)), .val (.int (2 : Int32)), .val (.ref a4), .val (.int (0 : Int32)), .val (.int (0 : Int32)), .unset, .unset, .unset]) rfl ?_
    show Steps p.tables e below (s₁.setTop (mkF m 3 #[.val (.ref a1), .val (.ref a2), .val (.int (0 : Int32)), .val (.int (2 : Int32)), .val (.ref a4), .val (.int (0 : Int32)), .val (.int (0 : Int32)), .unset, .unset, .unset] [])) _
    refine XS.iloadN X0.here hx rfl (hb hby d4_3) rfl ?_
    show Steps p.tables e below (s₁.setTop (mkF m 4 #[.val (.ref a1), .val (.ref a2), .val (.int (0 : Int32)), .val (.int (2 : Int32)), .val (.ref a4), .val (.int (0 : Int32)), .val (.int (0 : Int32)), .unset, .unset, .unset] [(.int (0 : Int32))])) _
    refine XS.iloadN X0.here hx rfl (hb hby d4_4) rfl ?_
    show Steps p.tables e below (s₁.setTop (mkF m 5 #[.val (.ref a1), .val (.ref a2), .val (.int (0 : Int32)), .val (.int (2 : Int32)), .val (.ref a4), .val (.int (0 : Int32)), .val (.int (0 : Int32)), .unset, .unset, .unset] [(.int (2 : Int32)), (.int (0 : Int32))])) _
    refine XS.iadd X0.here hx rfl (hb hby d4_5) rfl ?_
    show Steps p.tables e below (s₁.setTop (mkF m 6 #[.val (.ref a1), .val (.ref a2), .val (.int (0 : Int32)), .val (.int (2 : Int32)), .val (.ref a4), .val (.int (0 : Int32)), .val (.int (0 : Int32)), .unset, .unset, .unset] [(.int (2 : Int32))])) _
    refine XS.istore X0.here hx rfl (hb hby d4_6) rfl (l' := #[.val (.ref a1), .val (.ref a2), .val (.int (0 : Int32)), .val (.int (2 : Int32)), .val (.ref a4), .val (.int (0 : Int32)), .val (.int (0 : Int32)), .val (.int (2 : Int32)), .unset, .unset]) rfl ?_
    show Steps p.tables e below (s₁.setTop (mkF m 8 #[.val (.ref a1), .val (.ref a2), .val (.int (0 : Int32)), .val (.int (2 : Int32)), .val (.ref a4), .val (.int (0 : Int32)), .val (.int (0 : Int32)), .val (.int (2 : Int32)), .unset, .unset] [])) _
    refine XS.iload X0.here hx rfl (hb hby d4_8) rfl ?_
    show Steps p.tables e below (s₁.setTop (mkF m 10 #[.val (.ref a1), .val (.ref a2), .val (.int (0 : Int32)), .val (.int (2 : Int32)), .val (.ref a4), .val (.int (0 : Int32)), .val (.int (0 : Int32)), .val (.int (2 : Int32)), .unset, .unset] [(.int (0 : Int32))])) _
    refine XS.istore X0.here hx rfl (hb hby d4_10) rfl (l' := #[.val (.ref a1), .val (.ref a2), .val (.int (0 : Int32)), .val (.int (2 : Int32)), .val (.ref a4), .val (.int (0 : Int32)), .val (.int (0 : Int32)), .val (.int (2 : Int32)), .val (.int (0 : Int32)), .unset]) rfl ?_
    show Steps p.tables e below (s₁.setTop (mkF m 12 #[.val (.ref a1), .val (.ref a2), .val (.int (0 : Int32)), .val (.int (2 : Int32)), .val (.ref a4), .val (.int (0 : Int32)), .val (.int (0 : Int32)), .val (.int (2 : Int32)), .val (.int (0 : Int32)), .unset] [])) _
    refine XS.aloadN X0.here hx rfl (hb hby d4_12) rfl rfl ?_
    show Steps p.tables e below (s₁.setTop (mkF m 13 #[.val (.ref a1), .val (.ref a2), .val (.int (0 : Int32)), .val (.int (2 : Int32)), .val (.ref a4), .val (.int (0 : Int32)), .val (.int (0 : Int32)), .val (.int (2 : Int32)), .val (.int (0 : Int32)), .unset] [(.ref a1)])) _
    refine st101 _ ?_
    show Steps p.tables e below (T101.setTop (mkF m 16 #[.val (.ref a1), .val (.ref a2), .val (.int (0 : Int32)), .val (.int (2 : Int32)), .val (.ref a4), .val (.int (0 : Int32)), .val (.int (0 : Int32)), .val (.int (2 : Int32)), .val (.int (0 : Int32)), .unset] [(.int (-1 : Int32))])) _
    refine XS.ifYes X101.here hx rfl (pc0 := 16) (pc' := 61) rfl (hb hby d4_16) rfl ((if0 _ _).trans (tlt (by decide : (-1 : Int32) < (0 : Int32))).1) (by decide) (by decide) ?_
    show Steps p.tables e below (T101.setTop (mkF m 61 #[.val (.ref a1), .val (.ref a2), .val (.int (0 : Int32)), .val (.int (2 : Int32)), .val (.ref a4), .val (.int (0 : Int32)), .val (.int (0 : Int32)), .val (.int (2 : Int32)), .val (.int (0 : Int32)), .unset] [])) _
    refine XS.iload X101.here hx rfl (hb hby d4_61) rfl ?_
    show Steps p.tables e below (T101.setTop (mkF m 63 #[.val (.ref a1), .val (.ref a2), .val (.int (0 : Int32)), .val (.int (2 : Int32)), .val (.ref a4), .val (.int (0 : Int32)), .val (.int (0 : Int32)), .val (.int (2 : Int32)), .val (.int (0 : Int32)), .unset] [(.int (0 : Int32))])) _
    refine XS.iconst X101.here hx rfl (hb hby d4_63) ?_
    show Steps p.tables e below (T101.setTop (mkF m 64 #[.val (.ref a1), .val (.ref a2), .val (.int (0 : Int32)), .val (.int (2 : Int32)), .val (.ref a4), .val (.int (0 : Int32)), .val (.int (0 : Int32)), .val (.int (2 : Int32)), .val (.int (0 : Int32)), .unset] [(.int (1 : Int32)), (.int (0 : Int32))])) _
    refine XS.iadd X101.here hx rfl (hb hby d4_64) rfl ?_
    show Steps p.tables e below (T101.setTop (mkF m 65 #[.val (.ref a1), .val (.ref a2), .val (.int (0 : Int32)), .val (.int (2 : Int32)), .val (.ref a4), .val (.int (0 : Int32)), .val (.int (0 : Int32)), .val (.int (2 : Int32)), .val (.int (0 : Int32)), .unset] [(.int (1 : Int32))])) _
    refine XS.iload X101.here hx rfl (hb hby d4_65) rfl ?_
    show Steps p.tables e below (T101.setTop (mkF m 67 #[.val (.ref a1), .val (.ref a2), .val (.int (0 : Int32)), .val (.int (2 : Int32)), .val (.ref a4), .val (.int (0 : Int32)), .val (.int (0 : Int32)), .val (.int (2 : Int32)), .val (.int (0 : Int32)), .unset] [(.int (2 : Int32)), (.int (1 : Int32))])) _
    refine XS.icmpNo X101.here hx rfl (hb hby d4_67) rfl (tlt (by decide : (1 : Int32) < (2 : Int32))).2.1 ?_
    show Steps p.tables e below (T101.setTop (mkF m 70 #[.val (.ref a1), .val (.ref a2), .val (.int (0 : Int32)), .val (.int (2 : Int32)), .val (.ref a4), .val (.int (0 : Int32)), .val (.int (0 : Int32)), .val (.int (2 : Int32)), .val (.int (0 : Int32)), .unset] [])) _
    refine XS.aloadN X101.here hx rfl (hb hby d4_70) rfl rfl ?_
    show Steps p.tables e below (T101.setTop (mkF m 71 #[.val (.ref a1), .val (.ref a2), .val (.int (0 : Int32)), .val (.int (2 : Int32)), .val (.ref a4), .val (.int (0 : Int32)), .val (.int (0 : Int32)), .val (.int (2 : Int32)), .val (.int (0 : Int32)), .unset] [(.ref a2)])) _
    refine XS.iload X101.here hx rfl (hb hby d4_71) rfl ?_
    show Steps p.tables e below (T101.setTop (mkF m 73 #[.val (.ref a1), .val (.ref a2), .val (.int (0 : Int32)), .val (.int (2 : Int32)), .val (.ref a4), .val (.int (0 : Int32)), .val (.int (0 : Int32)), .val (.int (2 : Int32)), .val (.int (0 : Int32)), .unset] [(.int (0 : Int32)), (.ref a2)])) _
    refine own_ldB X101 hx hZ e101 Ab (j := (0 : Int32)) 0 (by decide) rfl (by decide) (v := (.int b0)) v0 (g := (mkF m 73 #[.val (.ref a1), .val (.ref a2), .val (.int (0 : Int32)), .val (.int (2 : Int32)), .val (.ref a4), .val (.int (0 : Int32)), .val (.int (0 : Int32)), .val (.int (2 : Int32)), .val (.int (0 : Int32)), .unset] [(.int (0 : Int32)), (.ref a2)])) rfl rfl (hb hby d4_73) _ ?_
    show Steps p.tables e below (T101.setTop (mkF m 74 #[.val (.ref a1), .val (.ref a2), .val (.int (0 : Int32)), .val (.int (2 : Int32)), .val (.ref a4), .val (.int (0 : Int32)), .val (.int (0 : Int32)), .val (.int (2 : Int32)), .val (.int (0 : Int32)), .unset] [(.int b0)])) _
    refine XS.sipush X101.here hx rfl (hb hby d4_74) ?_
    show Steps p.tables e below (T101.setTop (mkF m 77 #[.val (.ref a1), .val (.ref a2), .val (.int (0 : Int32)), .val (.int (2 : Int32)), .val (.ref a4), .val (.int (0 : Int32)), .val (.int (0 : Int32)), .val (.int (2 : Int32)), .val (.int (0 : Int32)), .unset] [(.int (255 : Int32)), (.int b0)])) _
    refine XS.iand X101.here hx rfl (hb hby d4_77) rfl ?_
    show Steps p.tables e below (T101.setTop (mkF m 78 #[.val (.ref a1), .val (.ref a2), .val (.int (0 : Int32)), .val (.int (2 : Int32)), .val (.ref a4), .val (.int (0 : Int32)), .val (.int (0 : Int32)), .val (.int (2 : Int32)), .val (.int (0 : Int32)), .unset] [(.int (b0 &&& (255 : Int32)))])) _
    refine XS.aloadN X101.here hx rfl (hb hby d4_78) rfl rfl ?_
    show Steps p.tables e below (T101.setTop (mkF m 79 #[.val (.ref a1), .val (.ref a2), .val (.int (0 : Int32)), .val (.int (2 : Int32)), .val (.ref a4), .val (.int (0 : Int32)), .val (.int (0 : Int32)), .val (.int (2 : Int32)), .val (.int (0 : Int32)), .unset] [(.ref a2), (.int (b0 &&& (255 : Int32)))])) _
    refine XS.iload X101.here hx rfl (hb hby d4_79) rfl ?_
    show Steps p.tables e below (T101.setTop (mkF m 81 #[.val (.ref a1), .val (.ref a2), .val (.int (0 : Int32)), .val (.int (2 : Int32)), .val (.ref a4), .val (.int (0 : Int32)), .val (.int (0 : Int32)), .val (.int (2 : Int32)), .val (.int (0 : Int32)), .unset] [(.int (0 : Int32)), (.ref a2), (.int (b0 &&& (255 : Int32)))])) _
    refine XS.iconst X101.here hx rfl (hb hby d4_81) ?_
    show Steps p.tables e below (T101.setTop (mkF m 82 #[.val (.ref a1), .val (.ref a2), .val (.int (0 : Int32)), .val (.int (2 : Int32)), .val (.ref a4), .val (.int (0 : Int32)), .val (.int (0 : Int32)), .val (.int (2 : Int32)), .val (.int (0 : Int32)), .unset] [(.int (1 : Int32)), (.int (0 : Int32)), (.ref a2), (.int (b0 &&& (255 : Int32)))])) _
    refine XS.iadd X101.here hx rfl (hb hby d4_82) rfl ?_
    show Steps p.tables e below (T101.setTop (mkF m 83 #[.val (.ref a1), .val (.ref a2), .val (.int (0 : Int32)), .val (.int (2 : Int32)), .val (.ref a4), .val (.int (0 : Int32)), .val (.int (0 : Int32)), .val (.int (2 : Int32)), .val (.int (0 : Int32)), .unset] [(.int (1 : Int32)), (.ref a2), (.int (b0 &&& (255 : Int32)))])) _
    refine own_ldB X101 hx hZ e101 Ab (j := (1 : Int32)) 1 (by decide) rfl (by decide) (v := (.int b1)) v1 (g := (mkF m 83 #[.val (.ref a1), .val (.ref a2), .val (.int (0 : Int32)), .val (.int (2 : Int32)), .val (.ref a4), .val (.int (0 : Int32)), .val (.int (0 : Int32)), .val (.int (2 : Int32)), .val (.int (0 : Int32)), .unset] [(.int (1 : Int32)), (.ref a2), (.int (b0 &&& (255 : Int32)))])) rfl rfl (hb hby d4_83) _ ?_
    show Steps p.tables e below (T101.setTop (mkF m 84 #[.val (.ref a1), .val (.ref a2), .val (.int (0 : Int32)), .val (.int (2 : Int32)), .val (.ref a4), .val (.int (0 : Int32)), .val (.int (0 : Int32)), .val (.int (2 : Int32)), .val (.int (0 : Int32)), .unset] [(.int b1), (.int (b0 &&& (255 : Int32)))])) _
    refine XS.sipush X101.here hx rfl (hb hby d4_84) ?_
    show Steps p.tables e below (T101.setTop (mkF m 87 #[.val (.ref a1), .val (.ref a2), .val (.int (0 : Int32)), .val (.int (2 : Int32)), .val (.ref a4), .val (.int (0 : Int32)), .val (.int (0 : Int32)), .val (.int (2 : Int32)), .val (.int (0 : Int32)), .unset] [(.int (255 : Int32)), (.int b1), (.int (b0 &&& (255 : Int32)))])) _
    refine XS.iand X101.here hx rfl (hb hby d4_87) rfl ?_
    show Steps p.tables e below (T101.setTop (mkF m 88 #[.val (.ref a1), .val (.ref a2), .val (.int (0 : Int32)), .val (.int (2 : Int32)), .val (.ref a4), .val (.int (0 : Int32)), .val (.int (0 : Int32)), .val (.int (2 : Int32)), .val (.int (0 : Int32)), .unset] [(.int (b1 &&& (255 : Int32))), (.int (b0 &&& (255 : Int32)))])) _
    refine XS.bipush X101.here hx rfl (hb hby d4_88) ?_
    show Steps p.tables e below (T101.setTop (mkF m 90 #[.val (.ref a1), .val (.ref a2), .val (.int (0 : Int32)), .val (.int (2 : Int32)), .val (.ref a4), .val (.int (0 : Int32)), .val (.int (0 : Int32)), .val (.int (2 : Int32)), .val (.int (0 : Int32)), .unset] [(.int (8 : Int32)), (.int (b1 &&& (255 : Int32))), (.int (b0 &&& (255 : Int32)))])) _
    refine XS.ishl X101.here hx rfl (hb hby d4_90) rfl ?_
    show Steps p.tables e below (T101.setTop (mkF m 91 #[.val (.ref a1), .val (.ref a2), .val (.int (0 : Int32)), .val (.int (2 : Int32)), .val (.ref a4), .val (.int (0 : Int32)), .val (.int (0 : Int32)), .val (.int (2 : Int32)), .val (.int (0 : Int32)), .unset] [(.int ((b1 &&& (255 : Int32)) <<< ((8 : Int32) &&& 31))), (.int (b0 &&& (255 : Int32)))])) _
    refine XS.ior X101.here hx rfl (hb hby d4_91) rfl ?_
    show Steps p.tables e below (T101.setTop (mkF m 92 #[.val (.ref a1), .val (.ref a2), .val (.int (0 : Int32)), .val (.int (2 : Int32)), .val (.ref a4), .val (.int (0 : Int32)), .val (.int (0 : Int32)), .val (.int (2 : Int32)), .val (.int (0 : Int32)), .unset] [(.int ((b0 &&& (255 : Int32)) ||| ((b1 &&& (255 : Int32)) <<< ((8 : Int32) &&& 31))))])) _
    refine XS.i2c X101.here hx rfl (hb hby d4_92) rfl ?_
    show Steps p.tables e below (T101.setTop (mkF m 93 #[.val (.ref a1), .val (.ref a2), .val (.int (0 : Int32)), .val (.int (2 : Int32)), .val (.ref a4), .val (.int (0 : Int32)), .val (.int (0 : Int32)), .val (.int (2 : Int32)), .val (.int (0 : Int32)), .unset] [(.int (((b0 &&& (255 : Int32)) ||| ((b1 &&& (255 : Int32)) <<< ((8 : Int32) &&& 31))).toUInt32.toUInt16.toUInt32.toInt32))])) _
    rw [hc]
    show Steps p.tables e below (T101.setTop (mkF m 93 #[.val (.ref a1), .val (.ref a2), .val (.int (0 : Int32)), .val (.int (2 : Int32)), .val (.ref a4), .val (.int (0 : Int32)), .val (.int (0 : Int32)), .val (.int (2 : Int32)), .val (.int (0 : Int32)), .unset] [(.int cu)])) _
    refine XS.istore X101.here hx rfl (hb hby d4_93) rfl (l' := #[.val (.ref a1), .val (.ref a2), .val (.int (0 : Int32)), .val (.int (2 : Int32)), .val (.ref a4), .val (.int (0 : Int32)), .val (.int (0 : Int32)), .val (.int (2 : Int32)), .val (.int (0 : Int32)), .val (.int cu)]) rfl ?_
    show Steps p.tables e below (T101.setTop (mkF m 95 #[.val (.ref a1), .val (.ref a2), .val (.int (0 : Int32)), .val (.int (2 : Int32)), .val (.ref a4), .val (.int (0 : Int32)), .val (.int (0 : Int32)), .val (.int (2 : Int32)), .val (.int (0 : Int32)), .val (.int cu)] [])) _
    refine XS.aloadN X101.here hx rfl (hb hby d4_95) rfl rfl ?_
    show Steps p.tables e below (T101.setTop (mkF m 96 #[.val (.ref a1), .val (.ref a2), .val (.int (0 : Int32)), .val (.int (2 : Int32)), .val (.ref a4), .val (.int (0 : Int32)), .val (.int (0 : Int32)), .val (.int (2 : Int32)), .val (.int (0 : Int32)), .val (.int cu)] [(.ref a1)])) _
    refine st102 _ ?_
    show Steps p.tables e below (T102.setTop (mkF m 99 #[.val (.ref a1), .val (.ref a2), .val (.int (0 : Int32)), .val (.int (2 : Int32)), .val (.ref a4), .val (.int (0 : Int32)), .val (.int (0 : Int32)), .val (.int (2 : Int32)), .val (.int (0 : Int32)), .val (.int cu)] [(.int (0 : Int32))])) _
    refine XS.ifNo X102.here hx rfl (hb hby d4_99) rfl ((if0 _ _).trans (teq rfl).2) ?_
    show Steps p.tables e below (T102.setTop (mkF m 102 #[.val (.ref a1), .val (.ref a2), .val (.int (0 : Int32)), .val (.int (2 : Int32)), .val (.ref a4), .val (.int (0 : Int32)), .val (.int (0 : Int32)), .val (.int (2 : Int32)), .val (.int (0 : Int32)), .val (.int cu)] [])) _
    refine XS.iload X102.here hx rfl (hb hby d4_102) rfl ?_
    show Steps p.tables e below (T102.setTop (mkF m 104 #[.val (.ref a1), .val (.ref a2), .val (.int (0 : Int32)), .val (.int (2 : Int32)), .val (.ref a4), .val (.int (0 : Int32)), .val (.int (0 : Int32)), .val (.int (2 : Int32)), .val (.int (0 : Int32)), .val (.int cu)] [(.int cu)])) _
    refine X102.ldcInt hx hown (mvT hZ (hw _ (List.mem_of_getElem? (i := 25) rfl))) (g := (mkF m 104 #[.val (.ref a1), .val (.ref a2), .val (.int (0 : Int32)), .val (.int (2 : Int32)), .val (.ref a4), .val (.int (0 : Int32)), .val (.int (0 : Int32)), .val (.int (2 : Int32)), .val (.int (0 : Int32)), .val (.int cu)] [(.int cu)])) rfl (hb hby d4_104) _ ?_
    show Steps p.tables e below (T102.setTop (mkF m 106 #[.val (.ref a1), .val (.ref a2), .val (.int (0 : Int32)), .val (.int (2 : Int32)), .val (.ref a4), .val (.int (0 : Int32)), .val (.int (0 : Int32)), .val (.int (2 : Int32)), .val (.int (0 : Int32)), .val (.int cu)] [(.int (55296 : Int32)), (.int cu)])) _
    refine XS.icmpNo X102.here hx rfl (hb hby d4_106) rfl (flt hb106).1 ?_
    show Steps p.tables e below (T102.setTop (mkF m 109 #[.val (.ref a1), .val (.ref a2), .val (.int (0 : Int32)), .val (.int (2 : Int32)), .val (.ref a4), .val (.int (0 : Int32)), .val (.int (0 : Int32)), .val (.int (2 : Int32)), .val (.int (0 : Int32)), .val (.int cu)] [])) _
    refine XS.iload X102.here hx rfl (hb hby d4_109) rfl ?_
    show Steps p.tables e below (T102.setTop (mkF m 111 #[.val (.ref a1), .val (.ref a2), .val (.int (0 : Int32)), .val (.int (2 : Int32)), .val (.ref a4), .val (.int (0 : Int32)), .val (.int (0 : Int32)), .val (.int (2 : Int32)), .val (.int (0 : Int32)), .val (.int cu)] [(.int cu)])) _
    refine X102.ldcInt hx hown (mvT hZ (hw _ (List.mem_of_getElem? (i := 34) rfl))) (g := (mkF m 111 #[.val (.ref a1), .val (.ref a2), .val (.int (0 : Int32)), .val (.int (2 : Int32)), .val (.ref a4), .val (.int (0 : Int32)), .val (.int (0 : Int32)), .val (.int (2 : Int32)), .val (.int (0 : Int32)), .val (.int cu)] [(.int cu)])) rfl (hb hby d4_111) _ ?_
    show Steps p.tables e below (T102.setTop (mkF m 113 #[.val (.ref a1), .val (.ref a2), .val (.int (0 : Int32)), .val (.int (2 : Int32)), .val (.ref a4), .val (.int (0 : Int32)), .val (.int (0 : Int32)), .val (.int (2 : Int32)), .val (.int (0 : Int32)), .val (.int cu)] [(.int (57343 : Int32)), (.int cu)])) _
    refine XS.icmpNo X102.here hx rfl (hb hby d4_113) rfl (tlt hb113).2.2.2 ?_
    show Steps p.tables e below (T102.setTop (mkF m 116 #[.val (.ref a1), .val (.ref a2), .val (.int (0 : Int32)), .val (.int (2 : Int32)), .val (.ref a4), .val (.int (0 : Int32)), .val (.int (0 : Int32)), .val (.int (2 : Int32)), .val (.int (0 : Int32)), .val (.int cu)] [])) _
    refine XS.aload X102.here hx rfl (hb hby d4_116) rfl rfl ?_
    show Steps p.tables e below (T102.setTop (mkF m 118 #[.val (.ref a1), .val (.ref a2), .val (.int (0 : Int32)), .val (.int (2 : Int32)), .val (.ref a4), .val (.int (0 : Int32)), .val (.int (0 : Int32)), .val (.int (2 : Int32)), .val (.int (0 : Int32)), .val (.int cu)] [(.ref a4)])) _
    refine XS.iload X102.here hx rfl (hb hby d4_118) rfl ?_
    show Steps p.tables e below (T102.setTop (mkF m 120 #[.val (.ref a1), .val (.ref a2), .val (.int (0 : Int32)), .val (.int (2 : Int32)), .val (.ref a4), .val (.int (0 : Int32)), .val (.int (0 : Int32)), .val (.int (2 : Int32)), .val (.int (0 : Int32)), .val (.int cu)] [(.int (0 : Int32)), (.ref a4)])) _
    refine XS.iload X102.here hx rfl (hb hby d4_120) rfl ?_
    show Steps p.tables e below (T102.setTop (mkF m 122 #[.val (.ref a1), .val (.ref a2), .val (.int (0 : Int32)), .val (.int (2 : Int32)), .val (.ref a4), .val (.int (0 : Int32)), .val (.int (0 : Int32)), .val (.int (2 : Int32)), .val (.int (0 : Int32)), .val (.int cu)] [(.int cu), (.int (0 : Int32)), (.ref a4)])) _
    refine st103 _ ?_
    show Steps p.tables e below (T103.setTop (mkF m 123 #[.val (.ref a1), .val (.ref a2), .val (.int (0 : Int32)), .val (.int (2 : Int32)), .val (.ref a4), .val (.int (0 : Int32)), .val (.int (0 : Int32)), .val (.int (2 : Int32)), .val (.int (0 : Int32)), .val (.int cu)] [])) _
    refine XS.iinc X103.here hx rfl (hb hby d4_123) rfl (l' := #[.val (.ref a1), .val (.ref a2), .val (.int (0 : Int32)), .val (.int (2 : Int32)), .val (.ref a4), .val (.int (0 : Int32)), .val (.int (0 : Int32)), .val (.int (2 : Int32)), .val (.int (1 : Int32)), .val (.int cu)]) rfl ?_
    show Steps p.tables e below (T103.setTop (mkF m 126 #[.val (.ref a1), .val (.ref a2), .val (.int (0 : Int32)), .val (.int (2 : Int32)), .val (.ref a4), .val (.int (0 : Int32)), .val (.int (0 : Int32)), .val (.int (2 : Int32)), .val (.int (1 : Int32)), .val (.int cu)] [])) _
    refine XS.goto X103.here hx rfl (pc0 := 126) (pc' := 141) rfl (hb hby d4_126) (by decide) (by decide) ?_
    show Steps p.tables e below (T103.setTop (mkF m 141 #[.val (.ref a1), .val (.ref a2), .val (.int (0 : Int32)), .val (.int (2 : Int32)), .val (.ref a4), .val (.int (0 : Int32)), .val (.int (0 : Int32)), .val (.int (2 : Int32)), .val (.int (1 : Int32)), .val (.int cu)] [])) _
    refine XS.iinc X103.here hx rfl (hb hby d4_141) rfl (l' := #[.val (.ref a1), .val (.ref a2), .val (.int (0 : Int32)), .val (.int (2 : Int32)), .val (.ref a4), .val (.int (0 : Int32)), .val (.int (2 : Int32)), .val (.int (2 : Int32)), .val (.int (1 : Int32)), .val (.int cu)]) rfl ?_
    show Steps p.tables e below (T103.setTop (mkF m 144 #[.val (.ref a1), .val (.ref a2), .val (.int (0 : Int32)), .val (.int (2 : Int32)), .val (.ref a4), .val (.int (0 : Int32)), .val (.int (2 : Int32)), .val (.int (2 : Int32)), .val (.int (1 : Int32)), .val (.int cu)] [])) _
    refine XS.goto X103.here hx rfl (pc0 := 144) (pc' := 61) rfl (hb hby d4_144) (by decide) (by decide) ?_
    show Steps p.tables e below (T103.setTop (mkF m 61 #[.val (.ref a1), .val (.ref a2), .val (.int (0 : Int32)), .val (.int (2 : Int32)), .val (.ref a4), .val (.int (0 : Int32)), .val (.int (2 : Int32)), .val (.int (2 : Int32)), .val (.int (1 : Int32)), .val (.int cu)] [])) _
    refine XS.iload X103.here hx rfl (hb hby d4_61) rfl ?_
    show Steps p.tables e below (T103.setTop (mkF m 63 #[.val (.ref a1), .val (.ref a2), .val (.int (0 : Int32)), .val (.int (2 : Int32)), .val (.ref a4), .val (.int (0 : Int32)), .val (.int (2 : Int32)), .val (.int (2 : Int32)), .val (.int (1 : Int32)), .val (.int cu)] [(.int (2 : Int32))])) _
    refine XS.iconst X103.here hx rfl (hb hby d4_63) ?_
    show Steps p.tables e below (T103.setTop (mkF m 64 #[.val (.ref a1), .val (.ref a2), .val (.int (0 : Int32)), .val (.int (2 : Int32)), .val (.ref a4), .val (.int (0 : Int32)), .val (.int (2 : Int32)), .val (.int (2 : Int32)), .val (.int (1 : Int32)), .val (.int cu)] [(.int (1 : Int32)), (.int (2 : Int32))])) _
    refine XS.iadd X103.here hx rfl (hb hby d4_64) rfl ?_
    show Steps p.tables e below (T103.setTop (mkF m 65 #[.val (.ref a1), .val (.ref a2), .val (.int (0 : Int32)), .val (.int (2 : Int32)), .val (.ref a4), .val (.int (0 : Int32)), .val (.int (2 : Int32)), .val (.int (2 : Int32)), .val (.int (1 : Int32)), .val (.int cu)] [(.int (3 : Int32))])) _
    refine XS.iload X103.here hx rfl (hb hby d4_65) rfl ?_
    show Steps p.tables e below (T103.setTop (mkF m 67 #[.val (.ref a1), .val (.ref a2), .val (.int (0 : Int32)), .val (.int (2 : Int32)), .val (.ref a4), .val (.int (0 : Int32)), .val (.int (2 : Int32)), .val (.int (2 : Int32)), .val (.int (1 : Int32)), .val (.int cu)] [(.int (2 : Int32)), (.int (3 : Int32))])) _
    refine XS.icmpYes X103.here hx rfl (pc0 := 67) (pc' := 147) rfl (hb hby d4_67) rfl (flt (by decide : ¬ (3 : Int32) < (2 : Int32))).2.1 (by decide) (by decide) ?_
    show Steps p.tables e below (T103.setTop (mkF m 147 #[.val (.ref a1), .val (.ref a2), .val (.int (0 : Int32)), .val (.int (2 : Int32)), .val (.ref a4), .val (.int (0 : Int32)), .val (.int (2 : Int32)), .val (.int (2 : Int32)), .val (.int (1 : Int32)), .val (.int cu)] [])) _
    refine XS.iload X103.here hx rfl (hb hby d4_147) rfl ?_
    show Steps p.tables e below (T103.setTop (mkF m 149 #[.val (.ref a1), .val (.ref a2), .val (.int (0 : Int32)), .val (.int (2 : Int32)), .val (.ref a4), .val (.int (0 : Int32)), .val (.int (2 : Int32)), .val (.int (2 : Int32)), .val (.int (1 : Int32)), .val (.int cu)] [(.int (2 : Int32))])) _
    refine XS.iload X103.here hx rfl (hb hby d4_149) rfl ?_
    show Steps p.tables e below (T103.setTop (mkF m 151 #[.val (.ref a1), .val (.ref a2), .val (.int (0 : Int32)), .val (.int (2 : Int32)), .val (.ref a4), .val (.int (0 : Int32)), .val (.int (2 : Int32)), .val (.int (2 : Int32)), .val (.int (1 : Int32)), .val (.int cu)] [(.int (2 : Int32)), (.int (2 : Int32))])) _
    refine XS.icmpYes X103.here hx rfl (pc0 := 151) (pc' := 166) rfl (hb hby d4_151) rfl (flt (by decide : ¬ (2 : Int32) < (2 : Int32))).2.1 (by decide) (by decide) ?_
    show Steps p.tables e below (T103.setTop (mkF m 166 #[.val (.ref a1), .val (.ref a2), .val (.int (0 : Int32)), .val (.int (2 : Int32)), .val (.ref a4), .val (.int (0 : Int32)), .val (.int (2 : Int32)), .val (.int (2 : Int32)), .val (.int (1 : Int32)), .val (.int cu)] [])) _
    refine XS.iload X103.here hx rfl (hb hby d4_166) rfl ?_
    show Steps p.tables e below (T103.setTop (mkF m 168 #[.val (.ref a1), .val (.ref a2), .val (.int (0 : Int32)), .val (.int (2 : Int32)), .val (.ref a4), .val (.int (0 : Int32)), .val (.int (2 : Int32)), .val (.int (2 : Int32)), .val (.int (1 : Int32)), .val (.int cu)] [(.int (1 : Int32))])) _
    exact own_retI X103 hx Bd.returns (hb hby d4_168) hr
  · show QD Z a1 a4 M (own_upd f 0 (.int (own_out cu))) (1 : Int32) (0 : Int32) h0 n0 _ T103.heap _
    rw [e103]
    exact ⟨_, rfl, N103, KC103, f104, f105, f106, (V103.cast (fun i _ => by rw [← hch, own_lowB h1]))⟩
set_option maxRecDepth 65536 in
set_option maxHeartbeats 40000000 in
theorem rmDH2 (l : Launch) (Z : State) (a0 : Array Value) (hw : ∀ d ∈ tables_1, d.before a0 Z = true) (ws : List Jvm.Cond) (a1 : Addr) (a2 : Addr) (a4 : Addr) (M : Nat) (f : Nat → Value) (fb : Nat → Value) (cu : Int32) (b0 : Int32) (b1 : Int32) (h0 : Heap) (n0 : Nat) (Z0 : n0 ≤ h0.size) (Ex : Exa Z h0 a1 "com/example/cellwright/cellwright/hive/Utf16Le$Decoder") (Fh : Fld Z h0 a1 "com/example/cellwright/cellwright/hive/Utf16Le$Decoder" "high" "C" (.int (0 : Int32))) (At : OwnA Z h0 a4 .char M f) (hM : 0 < M) (g_a1 : n0 ≤ a1) (g_a4 : n0 ≤ a4) (n41 : a4 ≠ a1) (hch : own_ch cu) (Fo : Fld Z h0 a1 "com/example/cellwright/cellwright/hive/Utf16Le$Decoder" "oddByte" "I" (.int (-1 : Int32))) (Ab : OwnA Z h0 a2 .byte 2 fb) (n21 : a2 ≠ a1) (n24 : a2 ≠ a4) (v0 : fb 0 = .int b0) (v1 : fb 1 = .int b1) (hc : (((b0 &&& (255 : Int32)) ||| ((b1 &&& (255 : Int32)) <<< ((8 : Int32) &&& 31))).toUInt32.toUInt16.toUInt32.toInt32) = cu) (h1 : ¬ cu < (55296 : Int32)) (h2 : ¬ (56319 : Int32) < cu) :
    MetFree l (⟨"com/example/cellwright/cellwright/hive/Utf16Le$Decoder", "decode", "([BII[CI)I"⟩ : MethodName) (head1 (Jvm.Cond.code (⟨"com/example/cellwright/cellwright/hive/Utf16Le$Decoder", "decode", "([BII[CI)I"⟩ : MethodName) prog_97_method_3_code 10 (some .int) :: ws) ({ frames := 2, cells := 0, slots := 0, locals := 31 } : Room)) (fun a U => a = #[(.ref a1), (.ref a2), (.int (0 : Int32)), (.int (2 : Int32)), (.ref a4), (.int (0 : Int32))] ∧ Z.Warmed39 U.vm ∧ U.heap = h0) (fun _ _ _ _ _ => True) (fun _ U o U' => ∃ v L, o = .returned v ∧ QD Z a1 a4 M f (0 : Int32) cu h0 n0 v U'.heap L ∧ FrameEnd U o U' L ({ frames := 2, cells := 0, slots := 0, locals := 31 } : Room).cells ({ frames := 2, cells := 0, slots := 0, locals := 31 } : Room).slots) := by
  refine MetFree.of_bodySF (plainFor_of_name own_pn2) hisR ?_
  intro p e s m args below meth c s₁ Bd hml0 hP hK
  obtain ⟨rfl, hZ, hh⟩ := hP
  have hx := Bd.exec
  have hby := Bd.bytes
  have hml : c.maxLocals = 10 := hml0
  have hown : s.vm.findClass "com/example/cellwright/cellwright/hive/Utf16Le$Decoder" = some m.cls := findClass_of_methodNamed Bd.named
  have hnm := (name_of_methodNamed Bd.named Bd.method).1
  have X0 : Stand p l e ({ frames := 2, cells := 0, slots := 0, locals := 31 } : Room) s m #[(.ref a1), (.ref a2), (.int (0 : Int32)), (.int (2 : Int32)), (.ref a4), (.int (0 : Int32))] below meth c s₁ [] 0 0 := Stand.of_body Bd
  have e0 : s₁.heap = h0 := by rw [← hh, Bd.state]; rfl
  have N0 := Fr.nil n0
  have ef : entryFrame m #[(.ref a1), (.ref a2), (.int (0 : Int32)), (.int (2 : Int32)), (.ref a4), (.int (0 : Int32))] 10 = mkF m 0 #[.val (.ref a1), .val (.ref a2), .val (.int (0 : Int32)), .val (.int (2 : Int32)), .val (.ref a4), .val (.int (0 : Int32)), .unset, .unset, .unset, .unset] [] := by first | (simp [entryFrame, mkF, argsToLocals, Value.category]; done) | rfl
  have pre0 : ∀ t, Steps p.tables e below (s₁.setTop (mkF m 0 #[.val (.ref a1), .val (.ref a2), .val (.int (0 : Int32)), .val (.int (2 : Int32)), .val (.ref a4), .val (.int (0 : Int32)), .unset, .unset, .unset, .unset] [])) t → Steps p.tables e below (s₁.setTop (entryFrame m #[(.ref a1), (.ref a2), (.int (0 : Int32)), (.int (2 : Int32)), (.ref a4), (.int (0 : Int32))] 10)) t := fun t k => castTop ef k
  obtain ⟨T101, X101, e101, st101⟩ := getF X0 hx hZ hown (host := "") (Or.inl (hw _ (List.mem_of_getElem? (i := 16) rfl))) Via.refl e0 Fo (g := (mkF m 13 #[.val (.ref a1), .val (.ref a2), .val (.int (0 : Int32)), .val (.int (2 : Int32)), .val (.ref a4), .val (.int (0 : Int32)), .val (.int (0 : Int32)), .val (.int (2 : Int32)), .val (.int (0 : Int32)), .unset] [(.ref a1)])) rfl rfl (hb hby d4_13)
  obtain ⟨T102, X102, e102, st102⟩ := getF X101 hx hZ hown (host := "") (Or.inl (hw _ (List.mem_of_getElem? (i := 23) rfl))) Via.refl e101 Fh (g := (mkF m 96 #[.val (.ref a1), .val (.ref a2), .val (.int (0 : Int32)), .val (.int (2 : Int32)), .val (.ref a4), .val (.int (0 : Int32)), .val (.int (0 : Int32)), .val (.int (2 : Int32)), .val (.int (0 : Int32)), .val (.int cu)] [(.ref a1)])) rfl rfl (hb hby d4_96)
  have hb106 : ¬ cu < (55296 : Int32) := by simp only [Int32.lt_iff_toInt_lt, own_l1, own_l2, own_l3, own_l4, own_l5] at *; omega
  have hb113 : ¬ (57343 : Int32) < cu := by simp only [Int32.lt_iff_toInt_lt, own_l1, own_l2, own_l3, own_l4, own_l5] at *; omega
  obtain ⟨cq103, q103, q103'⟩ := Ex.cell
  obtain ⟨_, _, ⟨T103, L103, k103, n103⟩, -, X103, ⟨Lc103, hQ103, l103, y103, z103⟩, st103⟩ := X102.privateBack hx (y := (⟨"com/example/cellwright/cellwright/hive/Utf16Le$Decoder", "unit", "(C[CI)I"⟩ : MethodName)) hown (mvT hZ (hw _ (List.mem_of_getElem? (i := 35) rfl))) (mvT hZ (hw _ (List.mem_of_getElem? (i := 36) rfl))) (own_selP (y' := (⟨"com/example/cellwright/cellwright/hive/Utf16Le$Decoder", "decode", "([BII[CI)I"⟩ : MethodName)) (mvT hZ (hw _ (List.mem_of_getElem? (i := 21) rfl))) rfl (Cond.privateMethod_at (mvP hZ (hw _ (List.mem_of_getElem? (i := 37) rfl)) (args := #[]))) (mvT hZ (hw _ (List.mem_of_getElem? (i := 36) rfl))) (by decide)) (Cond.privateMethod_at (mvP hZ (hw _ (List.mem_of_getElem? (i := 37) rfl)) (args := #[]))) (mvT hZ (hw _ (List.mem_of_getElem? (i := 38) rfl))) (by decide) (backOf (W := 0) (rmUH l Z a0 hw [] a1 cu a4 M f (-1 : Int32) h0 n0 Z0 Ex Fo Fh At hM g_a1 g_a4 n41 hch h1 h2) hZ (hw _ (List.mem_of_getElem? (i := 38) rfl)) (hw _ (List.mem_of_getElem? (i := 9) rfl)) (by decide) (by decide)) (g := (mkF m 136 #[.val (.ref a1), .val (.ref a2), .val (.int (0 : Int32)), .val (.int (2 : Int32)), .val (.ref a4), .val (.int (0 : Int32)), .val (.int (0 : Int32)), .val (.int (2 : Int32)), .val (.int (0 : Int32)), .val (.int cu)] [(.int (0 : Int32)), (.ref a4), (.int cu), (.ref a1)])) rfl (by rw [hml]; rfl) (Steps.refl _) (a := a1) (by rw [e102]; exact q103) q103' (argsL := [(.int cu), (.ref a4), (.int (0 : Int32))]) (rest := []) (lenOf own_pd1 rfl) rfl (by show 2 * 0 + _ ≤ _; exact Nat.le_of_eq rfl) (hb hby d4_136) (fun _ _ => ⟨rfl, e102, (by decide : 0 + 0 ≤ _), (by decide : 0 + 0 ≤ _)⟩)
  dsimp only [Pt.U, Pt.locs, Pt.cells, Pt.slots] at X103 l103 y103 z103 st103 hQ103
  subst l103 y103 z103
  obtain ⟨o103, rfl, Nq103, K103, Ex103, Fo103, Fh103, At103⟩ := hQ103
  have Z103 : n0 ≤ T103.heap.size := Nat.le_trans Z0 K103.1
  have KC103 : Keep h0 T103.heap [a1, a4] := (Keep.refl h0 [a1, a4]).trans K103 (allS (Or.inl (List.mem_of_getElem? (i := 0) rfl)) (allS (Or.inl (List.mem_of_getElem? (i := 1) rfl)) all0))
  have N103 := Fr.app N0 Nq103
  obtain ⟨fs, hr, hrun, hended, hW, hsame⟩ := X103.leave (v := some (.int (0 : Int32))) (fun h => by rw [Bd.returns] at h; cases h)
  refine ⟨_, _, pre0 _ ?_, hrun, hended, _, _, rfl, ?_, ⟨_, rfl⟩, hW, hsame.mono (by decide) (by decide)⟩
  · show Steps p.tables e below (s₁.setTop (mkF m 0 #[.val (.ref a1), .val (.ref a2), .val (.int (0 : Int32)), .val (.int (2 : Int32)), .val (.ref a4), .val (.int (0 : Int32)), .unset, .unset, .unset, .unset] [])) _
    refine XS.iloadN X0.here hx rfl (hb hby d4_0) rfl ?_
    show Steps p.tables e below (s₁.setTop (mkF m 1 #[.val (.ref a1), .val (.ref a2), .val (.int (0 : Int32)), .val (.int (2 : Int32)), .val (.ref a4), .val (.int (0 : Int32)), .unset, .unset, .unset, .unset] [(.int (0 : Int32))])) _
    refine XS.istore X0.here hx rfl (hb hby d4_1) rfl (l' := #[.val (.ref a1), .val (.ref a2), .val (.int (0 : Int32)), .val (.int (2 : Int32)), .val (.ref a4), .val (.int (0 : Int32)), .val (.int (0 : Int32)), .unset, .unset, .unset]) rfl ?_
    show Steps p.tables e below (s₁.setTop (mkF m 3 #[.val (.ref a1), .val (.ref a2), .val (.int (0 : Int32)), .val (.int (2 : Int32)), .val (.ref a4), .val (.int (0 : Int32)), .val (.int (0 : Int32)), .unset, .unset, .unset] [])) _
    refine XS.iloadN X0.here hx rfl (hb hby d4_3) rfl ?_
    show Steps p.tables e below (s₁.setTop (mkF m 4 #[.val (.ref a1), .val (.ref a2), .val (.int (0 : Int32)), .val (.int (2 : Int32)), .val (.ref a4), .val (.int (0 : Int32)), .val (.int (0 : Int32)), .unset, .unset, .unset] [(.int (0 : Int32))])) _
    refine XS.iloadN X0.here hx rfl (hb hby d4_4) rfl ?_
    show Steps p.tables e below (s₁.setTop (mkF m 5 #[.val (.ref a1), .val (.ref a2), .val (.int (0 : Int32)), .val (.int (2 : Int32)), .val (.ref a4), .val (.int (0 : Int32)), .val (.int (0 : Int32)), .unset, .unset, .unset] [(.int (2 : Int32)), (.int (0 : Int32))])) _
    refine XS.iadd X0.here hx rfl (hb hby d4_5) rfl ?_
    show Steps p.tables e below (s₁.setTop (mkF m 6 #[.val (.ref a1), .val (.ref a2), .val (.int (0 : Int32)), .val (.int (2 : Int32)), .val (.ref a4), .val (.int (0 : Int32)), .val (.int (0 : Int32)), .unset, .unset, .unset] [(.int (2 : Int32))])) _
    refine XS.istore X0.here hx rfl (hb hby d4_6) rfl (l' := #[.val (.ref a1), .val (.ref a2), .val (.int (0 : Int32)), .val (.int (2 : Int32)), .val (.ref a4), .val (.int (0 : Int32)), .val (.int (0 : Int32)), .val (.int (2 : Int32)), .unset, .unset]) rfl ?_
    show Steps p.tables e below (s₁.setTop (mkF m 8 #[.val (.ref a1), .val (.ref a2), .val (.int (0 : Int32)), .val (.int (2 : Int32)), .val (.ref a4), .val (.int (0 : Int32)), .val (.int (0 : Int32)), .val (.int (2 : Int32)), .unset, .unset] [])) _
    refine XS.iload X0.here hx rfl (hb hby d4_8) rfl ?_
    show Steps p.tables e below (s₁.setTop (mkF m 10 #[.val (.ref a1), .val (.ref a2), .val (.int (0 : Int32)), .val (.int (2 : Int32)), .val (.ref a4), .val (.int (0 : Int32)), .val (.int (0 : Int32)), .val (.int (2 : Int32)), .unset, .unset] [(.int (0 : Int32))])) _
    refine XS.istore X0.here hx rfl (hb hby d4_10) rfl (l' := #[.val (.ref a1), .val (.ref a2), .val (.int (0 : Int32)), .val (.int (2 : Int32)), .val (.ref a4), .val (.int (0 : Int32)), .val (.int (0 : Int32)), .val (.int (2 : Int32)), .val (.int (0 : Int32)), .unset]) rfl ?_
    show Steps p.tables e below (s₁.setTop (mkF m 12 #[.val (.ref a1), .val (.ref a2), .val (.int (0 : Int32)), .val (.int (2 : Int32)), .val (.ref a4), .val (.int (0 : Int32)), .val (.int (0 : Int32)), .val (.int (2 : Int32)), .val (.int (0 : Int32)), .unset] [])) _
    refine XS.aloadN X0.here hx rfl (hb hby d4_12) rfl rfl ?_
    show Steps p.tables e below (s₁.setTop (mkF m 13 #[.val (.ref a1), .val (.ref a2), .val (.int (0 : Int32)), .val (.int (2 : Int32)), .val (.ref a4), .val (.int (0 : Int32)), .val (.int (0 : Int32)), .val (.int (2 : Int32)), .val (.int (0 : Int32)), .unset] [(.ref a1)])) _
    refine st101 _ ?_
    show Steps p.tables e below (T101.setTop (mkF m 16 #[.val (.ref a1), .val (.ref a2), .val (.int (0 : Int32)), .val (.int (2 : Int32)), .val (.ref a4), .val (.int (0 : Int32)), .val (.int (0 : Int32)), .val (.int (2 : Int32)), .val (.int (0 : Int32)), .unset] [(.int (-1 : Int32))])) _
    refine XS.ifYes X101.here hx rfl (pc0 := 16) (pc' := 61) rfl (hb hby d4_16) rfl ((if0 _ _).trans (tlt (by decide : (-1 : Int32) < (0 : Int32))).1) (by decide) (by decide) ?_
    show Steps p.tables e below (T101.setTop (mkF m 61 #[.val (.ref a1), .val (.ref a2), .val (.int (0 : Int32)), .val (.int (2 : Int32)), .val (.ref a4), .val (.int (0 : Int32)), .val (.int (0 : Int32)), .val (.int (2 : Int32)), .val (.int (0 : Int32)), .unset] [])) _
    refine XS.iload X101.here hx rfl (hb hby d4_61) rfl ?_
    show Steps p.tables e below (T101.setTop (mkF m 63 #[.val (.ref a1), .val (.ref a2), .val (.int (0 : Int32)), .val (.int (2 : Int32)), .val (.ref a4), .val (.int (0 : Int32)), .val (.int (0 : Int32)), .val (.int (2 : Int32)), .val (.int (0 : Int32)), .unset] [(.int (0 : Int32))])) _
    refine XS.iconst X101.here hx rfl (hb hby d4_63) ?_
    show Steps p.tables e below (T101.setTop (mkF m 64 #[.val (.ref a1), .val (.ref a2), .val (.int (0 : Int32)), .val (.int (2 : Int32)), .val (.ref a4), .val (.int (0 : Int32)), .val (.int (0 : Int32)), .val (.int (2 : Int32)), .val (.int (0 : Int32)), .unset] [(.int (1 : Int32)), (.int (0 : Int32))])) _
    refine XS.iadd X101.here hx rfl (hb hby d4_64) rfl ?_
    show Steps p.tables e below (T101.setTop (mkF m 65 #[.val (.ref a1), .val (.ref a2), .val (.int (0 : Int32)), .val (.int (2 : Int32)), .val (.ref a4), .val (.int (0 : Int32)), .val (.int (0 : Int32)), .val (.int (2 : Int32)), .val (.int (0 : Int32)), .unset] [(.int (1 : Int32))])) _
    refine XS.iload X101.here hx rfl (hb hby d4_65) rfl ?_
    show Steps p.tables e below (T101.setTop (mkF m 67 #[.val (.ref a1), .val (.ref a2), .val (.int (0 : Int32)), .val (.int (2 : Int32)), .val (.ref a4), .val (.int (0 : Int32)), .val (.int (0 : Int32)), .val (.int (2 : Int32)), .val (.int (0 : Int32)), .unset] [(.int (2 : Int32)), (.int (1 : Int32))])) _
    refine XS.icmpNo X101.here hx rfl (hb hby d4_67) rfl (tlt (by decide : (1 : Int32) < (2 : Int32))).2.1 ?_
    show Steps p.tables e below (T101.setTop (mkF m 70 #[.val (.ref a1), .val (.ref a2), .val (.int (0 : Int32)), .val (.int (2 : Int32)), .val (.ref a4), .val (.int (0 : Int32)), .val (.int (0 : Int32)), .val (.int (2 : Int32)), .val (.int (0 : Int32)), .unset] [])) _
    refine XS.aloadN X101.here hx rfl (hb hby d4_70) rfl rfl ?_
    show Steps p.tables e below (T101.setTop (mkF m 71 #[.val (.ref a1), .val (.ref a2), .val (.int (0 : Int32)), .val (.int (2 : Int32)), .val (.ref a4), .val (.int (0 : Int32)), .val (.int (0 : Int32)), .val (.int (2 : Int32)), .val (.int (0 : Int32)), .unset] [(.ref a2)])) _
    refine XS.iload X101.here hx rfl (hb hby d4_71) rfl ?_
    show Steps p.tables e below (T101.setTop (mkF m 73 #[.val (.ref a1), .val (.ref a2), .val (.int (0 : Int32)), .val (.int (2 : Int32)), .val (.ref a4), .val (.int (0 : Int32)), .val (.int (0 : Int32)), .val (.int (2 : Int32)), .val (.int (0 : Int32)), .unset] [(.int (0 : Int32)), (.ref a2)])) _
    refine own_ldB X101 hx hZ e101 Ab (j := (0 : Int32)) 0 (by decide) rfl (by decide) (v := (.int b0)) v0 (g := (mkF m 73 #[.val (.ref a1), .val (.ref a2), .val (.int (0 : Int32)), .val (.int (2 : Int32)), .val (.ref a4), .val (.int (0 : Int32)), .val (.int (0 : Int32)), .val (.int (2 : Int32)), .val (.int (0 : Int32)), .unset] [(.int (0 : Int32)), (.ref a2)])) rfl rfl (hb hby d4_73) _ ?_
    show Steps p.tables e below (T101.setTop (mkF m 74 #[.val (.ref a1), .val (.ref a2), .val (.int (0 : Int32)), .val (.int (2 : Int32)), .val (.ref a4), .val (.int (0 : Int32)), .val (.int (0 : Int32)), .val (.int (2 : Int32)), .val (.int (0 : Int32)), .unset] [(.int b0)])) _
    refine XS.sipush X101.here hx rfl (hb hby d4_74) ?_
    show Steps p.tables e below (T101.setTop (mkF m 77 #[.val (.ref a1), .val (.ref a2), .val (.int (0 : Int32)), .val (.int (2 : Int32)), .val (.ref a4), .val (.int (0 : Int32)), .val (.int (0 : Int32)), .val (.int (2 : Int32)), .val (.int (0 : Int32)), .unset] [(.int (255 : Int32)), (.int b0)])) _
    refine XS.iand X101.here hx rfl (hb hby d4_77) rfl ?_
    show Steps p.tables e below (T101.setTop (mkF m 78 #[.val (.ref a1), .val (.ref a2), .val (.int (0 : Int32)), .val (.int (2 : Int32)), .val (.ref a4), .val (.int (0 : Int32)), .val (.int (0 : Int32)), .val (.int (2 : Int32)), .val (.int (0 : Int32)), .unset] [(.int (b0 &&& (255 : Int32)))])) _
    refine XS.aloadN X101.here hx rfl (hb hby d4_78) rfl rfl ?_
    show Steps p.tables e below (T101.setTop (mkF m 79 #[.val (.ref a1), .val (.ref a2), .val (.int (0 : Int32)), .val (.int (2 : Int32)), .val (.ref a4), .val (.int (0 : Int32)), .val (.int (0 : Int32)), .val (.int (2 : Int32)), .val (.int (0 : Int32)), .unset] [(.ref a2), (.int (b0 &&& (255 : Int32)))])) _
    refine XS.iload X101.here hx rfl (hb hby d4_79) rfl ?_
    show Steps p.tables e below (T101.setTop (mkF m 81 #[.val (.ref a1), .val (.ref a2), .val (.int (0 : Int32)), .val (.int (2 : Int32)), .val (.ref a4), .val (.int (0 : Int32)), .val (.int (0 : Int32)), .val (.int (2 : Int32)), .val (.int (0 : Int32)), .unset] [(.int (0 : Int32)), (.ref a2), (.int (b0 &&& (255 : Int32)))])) _
    refine XS.iconst X101.here hx rfl (hb hby d4_81) ?_
    show Steps p.tables e below (T101.setTop (mkF m 82 #[.val (.ref a1), .val (.ref a2), .val (.int (0 : Int32)), .val (.int (2 : Int32)), .val (.ref a4), .val (.int (0 : Int32)), .val (.int (0 : Int32)), .val (.int (2 : Int32)), .val (.int (0 : Int32)), .unset] [(.int (1 : Int32)), (.int (0 : Int32)), (.ref a2), (.int (b0 &&& (255 : Int32)))])) _
    refine XS.iadd X101.here hx rfl (hb hby d4_82) rfl ?_
    show Steps p.tables e below (T101.setTop (mkF m 83 #[.val (.ref a1), .val (.ref a2), .val (.int (0 : Int32)), .val (.int (2 : Int32)), .val (.ref a4), .val (.int (0 : Int32)), .val (.int (0 : Int32)), .val (.int (2 : Int32)), .val (.int (0 : Int32)), .unset] [(.int (1 : Int32)), (.ref a2), (.int (b0 &&& (255 : Int32)))])) _
    refine own_ldB X101 hx hZ e101 Ab (j := (1 : Int32)) 1 (by decide) rfl (by decide) (v := (.int b1)) v1 (g := (mkF m 83 #[.val (.ref a1), .val (.ref a2), .val (.int (0 : Int32)), .val (.int (2 : Int32)), .val (.ref a4), .val (.int (0 : Int32)), .val (.int (0 : Int32)), .val (.int (2 : Int32)), .val (.int (0 : Int32)), .unset] [(.int (1 : Int32)), (.ref a2), (.int (b0 &&& (255 : Int32)))])) rfl rfl (hb hby d4_83) _ ?_
    show Steps p.tables e below (T101.setTop (mkF m 84 #[.val (.ref a1), .val (.ref a2), .val (.int (0 : Int32)), .val (.int (2 : Int32)), .val (.ref a4), .val (.int (0 : Int32)), .val (.int (0 : Int32)), .val (.int (2 : Int32)), .val (.int (0 : Int32)), .unset] [(.int b1), (.int (b0 &&& (255 : Int32)))])) _
    refine XS.sipush X101.here hx rfl (hb hby d4_84) ?_
    show Steps p.tables e below (T101.setTop (mkF m 87 #[.val (.ref a1), .val (.ref a2), .val (.int (0 : Int32)), .val (.int (2 : Int32)), .val (.ref a4), .val (.int (0 : Int32)), .val (.int (0 : Int32)), .val (.int (2 : Int32)), .val (.int (0 : Int32)), .unset] [(.int (255 : Int32)), (.int b1), (.int (b0 &&& (255 : Int32)))])) _
    refine XS.iand X101.here hx rfl (hb hby d4_87) rfl ?_
    show Steps p.tables e below (T101.setTop (mkF m 88 #[.val (.ref a1), .val (.ref a2), .val (.int (0 : Int32)), .val (.int (2 : Int32)), .val (.ref a4), .val (.int (0 : Int32)), .val (.int (0 : Int32)), .val (.int (2 : Int32)), .val (.int (0 : Int32)), .unset] [(.int (b1 &&& (255 : Int32))), (.int (b0 &&& (255 : Int32)))])) _
    refine XS.bipush X101.here hx rfl (hb hby d4_88) ?_
    show Steps p.tables e below (T101.setTop (mkF m 90 #[.val (.ref a1), .val (.ref a2), .val (.int (0 : Int32)), .val (.int (2 : Int32)), .val (.ref a4), .val (.int (0 : Int32)), .val (.int (0 : Int32)), .val (.int (2 : Int32)), .val (.int (0 : Int32)), .unset] [(.int (8 : Int32)), (.int (b1 &&& (255 : Int32))), (.int (b0 &&& (255 : Int32)))])) _
    refine XS.ishl X101.here hx rfl (hb hby d4_90) rfl ?_
    show Steps p.tables e below (T101.setTop (mkF m 91 #[.val (.ref a1), .val (.ref a2), .val (.int (0 : Int32)), .val (.int (2 : Int32)), .val (.ref a4), .val (.int (0 : Int32)), .val (.int (0 : Int32)), .val (.int (2 : Int32)), .val (.int (0 : Int32)), .unset] [(.int ((b1 &&& (255 : Int32)) <<< ((8 : Int32) &&& 31))), (.int (b0 &&& (255 : Int32)))])) _
    refine XS.ior X101.here hx rfl (hb hby d4_91) rfl ?_
    show Steps p.tables e below (T101.setTop (mkF m 92 #[.val (.ref a1), .val (.ref a2), .val (.int (0 : Int32)), .val (.int (2 : Int32)), .val (.ref a4), .val (.int (0 : Int32)), .val (.int (0 : Int32)), .val (.int (2 : Int32)), .val (.int (0 : Int32)), .unset] [(.int ((b0 &&& (255 : Int32)) ||| ((b1 &&& (255 : Int32)) <<< ((8 : Int32) &&& 31))))])) _
    refine XS.i2c X101.here hx rfl (hb hby d4_92) rfl ?_
    show Steps p.tables e below (T101.setTop (mkF m 93 #[.val (.ref a1), .val (.ref a2), .val (.int (0 : Int32)), .val (.int (2 : Int32)), .val (.ref a4), .val (.int (0 : Int32)), .val (.int (0 : Int32)), .val (.int (2 : Int32)), .val (.int (0 : Int32)), .unset] [(.int (((b0 &&& (255 : Int32)) ||| ((b1 &&& (255 : Int32)) <<< ((8 : Int32) &&& 31))).toUInt32.toUInt16.toUInt32.toInt32))])) _
    rw [hc]
    show Steps p.tables e below (T101.setTop (mkF m 93 #[.val (.ref a1), .val (.ref a2), .val (.int (0 : Int32)), .val (.int (2 : Int32)), .val (.ref a4), .val (.int (0 : Int32)), .val (.int (0 : Int32)), .val (.int (2 : Int32)), .val (.int (0 : Int32)), .unset] [(.int cu)])) _
    refine XS.istore X101.here hx rfl (hb hby d4_93) rfl (l' := #[.val (.ref a1), .val (.ref a2), .val (.int (0 : Int32)), .val (.int (2 : Int32)), .val (.ref a4), .val (.int (0 : Int32)), .val (.int (0 : Int32)), .val (.int (2 : Int32)), .val (.int (0 : Int32)), .val (.int cu)]) rfl ?_
    show Steps p.tables e below (T101.setTop (mkF m 95 #[.val (.ref a1), .val (.ref a2), .val (.int (0 : Int32)), .val (.int (2 : Int32)), .val (.ref a4), .val (.int (0 : Int32)), .val (.int (0 : Int32)), .val (.int (2 : Int32)), .val (.int (0 : Int32)), .val (.int cu)] [])) _
    refine XS.aloadN X101.here hx rfl (hb hby d4_95) rfl rfl ?_
    show Steps p.tables e below (T101.setTop (mkF m 96 #[.val (.ref a1), .val (.ref a2), .val (.int (0 : Int32)), .val (.int (2 : Int32)), .val (.ref a4), .val (.int (0 : Int32)), .val (.int (0 : Int32)), .val (.int (2 : Int32)), .val (.int (0 : Int32)), .val (.int cu)] [(.ref a1)])) _
    refine st102 _ ?_
    show Steps p.tables e below (T102.setTop (mkF m 99 #[.val (.ref a1), .val (.ref a2), .val (.int (0 : Int32)), .val (.int (2 : Int32)), .val (.ref a4), .val (.int (0 : Int32)), .val (.int (0 : Int32)), .val (.int (2 : Int32)), .val (.int (0 : Int32)), .val (.int cu)] [(.int (0 : Int32))])) _
    refine XS.ifNo X102.here hx rfl (hb hby d4_99) rfl ((if0 _ _).trans (teq rfl).2) ?_
    show Steps p.tables e below (T102.setTop (mkF m 102 #[.val (.ref a1), .val (.ref a2), .val (.int (0 : Int32)), .val (.int (2 : Int32)), .val (.ref a4), .val (.int (0 : Int32)), .val (.int (0 : Int32)), .val (.int (2 : Int32)), .val (.int (0 : Int32)), .val (.int cu)] [])) _
    refine XS.iload X102.here hx rfl (hb hby d4_102) rfl ?_
    show Steps p.tables e below (T102.setTop (mkF m 104 #[.val (.ref a1), .val (.ref a2), .val (.int (0 : Int32)), .val (.int (2 : Int32)), .val (.ref a4), .val (.int (0 : Int32)), .val (.int (0 : Int32)), .val (.int (2 : Int32)), .val (.int (0 : Int32)), .val (.int cu)] [(.int cu)])) _
    refine X102.ldcInt hx hown (mvT hZ (hw _ (List.mem_of_getElem? (i := 25) rfl))) (g := (mkF m 104 #[.val (.ref a1), .val (.ref a2), .val (.int (0 : Int32)), .val (.int (2 : Int32)), .val (.ref a4), .val (.int (0 : Int32)), .val (.int (0 : Int32)), .val (.int (2 : Int32)), .val (.int (0 : Int32)), .val (.int cu)] [(.int cu)])) rfl (hb hby d4_104) _ ?_
    show Steps p.tables e below (T102.setTop (mkF m 106 #[.val (.ref a1), .val (.ref a2), .val (.int (0 : Int32)), .val (.int (2 : Int32)), .val (.ref a4), .val (.int (0 : Int32)), .val (.int (0 : Int32)), .val (.int (2 : Int32)), .val (.int (0 : Int32)), .val (.int cu)] [(.int (55296 : Int32)), (.int cu)])) _
    refine XS.icmpNo X102.here hx rfl (hb hby d4_106) rfl (flt hb106).1 ?_
    show Steps p.tables e below (T102.setTop (mkF m 109 #[.val (.ref a1), .val (.ref a2), .val (.int (0 : Int32)), .val (.int (2 : Int32)), .val (.ref a4), .val (.int (0 : Int32)), .val (.int (0 : Int32)), .val (.int (2 : Int32)), .val (.int (0 : Int32)), .val (.int cu)] [])) _
    refine XS.iload X102.here hx rfl (hb hby d4_109) rfl ?_
    show Steps p.tables e below (T102.setTop (mkF m 111 #[.val (.ref a1), .val (.ref a2), .val (.int (0 : Int32)), .val (.int (2 : Int32)), .val (.ref a4), .val (.int (0 : Int32)), .val (.int (0 : Int32)), .val (.int (2 : Int32)), .val (.int (0 : Int32)), .val (.int cu)] [(.int cu)])) _
    refine X102.ldcInt hx hown (mvT hZ (hw _ (List.mem_of_getElem? (i := 34) rfl))) (g := (mkF m 111 #[.val (.ref a1), .val (.ref a2), .val (.int (0 : Int32)), .val (.int (2 : Int32)), .val (.ref a4), .val (.int (0 : Int32)), .val (.int (0 : Int32)), .val (.int (2 : Int32)), .val (.int (0 : Int32)), .val (.int cu)] [(.int cu)])) rfl (hb hby d4_111) _ ?_
    show Steps p.tables e below (T102.setTop (mkF m 113 #[.val (.ref a1), .val (.ref a2), .val (.int (0 : Int32)), .val (.int (2 : Int32)), .val (.ref a4), .val (.int (0 : Int32)), .val (.int (0 : Int32)), .val (.int (2 : Int32)), .val (.int (0 : Int32)), .val (.int cu)] [(.int (57343 : Int32)), (.int cu)])) _
    refine XS.icmpYes X102.here hx rfl (pc0 := 113) (pc' := 129) rfl (hb hby d4_113) rfl (flt hb113).2.2.2 (by decide) (by decide) ?_
    show Steps p.tables e below (T102.setTop (mkF m 129 #[.val (.ref a1), .val (.ref a2), .val (.int (0 : Int32)), .val (.int (2 : Int32)), .val (.ref a4), .val (.int (0 : Int32)), .val (.int (0 : Int32)), .val (.int (2 : Int32)), .val (.int (0 : Int32)), .val (.int cu)] [])) _
    refine XS.aloadN X102.here hx rfl (hb hby d4_129) rfl rfl ?_
    show Steps p.tables e below (T102.setTop (mkF m 130 #[.val (.ref a1), .val (.ref a2), .val (.int (0 : Int32)), .val (.int (2 : Int32)), .val (.ref a4), .val (.int (0 : Int32)), .val (.int (0 : Int32)), .val (.int (2 : Int32)), .val (.int (0 : Int32)), .val (.int cu)] [(.ref a1)])) _
    refine XS.iload X102.here hx rfl (hb hby d4_130) rfl ?_
    show Steps p.tables e below (T102.setTop (mkF m 132 #[.val (.ref a1), .val (.ref a2), .val (.int (0 : Int32)), .val (.int (2 : Int32)), .val (.ref a4), .val (.int (0 : Int32)), .val (.int (0 : Int32)), .val (.int (2 : Int32)), .val (.int (0 : Int32)), .val (.int cu)] [(.int cu), (.ref a1)])) _
    refine XS.aload X102.here hx rfl (hb hby d4_132) rfl rfl ?_
    show Steps p.tables e below (T102.setTop (mkF m 134 #[.val (.ref a1), .val (.ref a2), .val (.int (0 : Int32)), .val (.int (2 : Int32)), .val (.ref a4), .val (.int (0 : Int32)), .val (.int (0 : Int32)), .val (.int (2 : Int32)), .val (.int (0 : Int32)), .val (.int cu)] [(.ref a4), (.int cu), (.ref a1)])) _
    refine XS.iload X102.here hx rfl (hb hby d4_134) rfl ?_
    show Steps p.tables e below (T102.setTop (mkF m 136 #[.val (.ref a1), .val (.ref a2), .val (.int (0 : Int32)), .val (.int (2 : Int32)), .val (.ref a4), .val (.int (0 : Int32)), .val (.int (0 : Int32)), .val (.int (2 : Int32)), .val (.int (0 : Int32)), .val (.int cu)] [(.int (0 : Int32)), (.ref a4), (.int cu), (.ref a1)])) _
    refine st103.trans ?_
    show Steps p.tables e below (T103.setTop (mkF m 139 #[.val (.ref a1), .val (.ref a2), .val (.int (0 : Int32)), .val (.int (2 : Int32)), .val (.ref a4), .val (.int (0 : Int32)), .val (.int (0 : Int32)), .val (.int (2 : Int32)), .val (.int (0 : Int32)), .val (.int cu)] [(.int (0 : Int32))])) _
    refine XS.istore X103.here hx rfl (hb hby d4_139) rfl (l' := #[.val (.ref a1), .val (.ref a2), .val (.int (0 : Int32)), .val (.int (2 : Int32)), .val (.ref a4), .val (.int (0 : Int32)), .val (.int (0 : Int32)), .val (.int (2 : Int32)), .val (.int (0 : Int32)), .val (.int cu)]) rfl ?_
    show Steps p.tables e below (T103.setTop (mkF m 141 #[.val (.ref a1), .val (.ref a2), .val (.int (0 : Int32)), .val (.int (2 : Int32)), .val (.ref a4), .val (.int (0 : Int32)), .val (.int (0 : Int32)), .val (.int (2 : Int32)), .val (.int (0 : Int32)), .val (.int cu)] [])) _
    refine XS.iinc X103.here hx rfl (hb hby d4_141) rfl (l' := #[.val (.ref a1), .val (.ref a2), .val (.int (0 : Int32)), .val (.int (2 : Int32)), .val (.ref a4), .val (.int (0 : Int32)), .val (.int (2 : Int32)), .val (.int (2 : Int32)), .val (.int (0 : Int32)), .val (.int cu)]) rfl ?_
    show Steps p.tables e below (T103.setTop (mkF m 144 #[.val (.ref a1), .val (.ref a2), .val (.int (0 : Int32)), .val (.int (2 : Int32)), .val (.ref a4), .val (.int (0 : Int32)), .val (.int (2 : Int32)), .val (.int (2 : Int32)), .val (.int (0 : Int32)), .val (.int cu)] [])) _
    refine XS.goto X103.here hx rfl (pc0 := 144) (pc' := 61) rfl (hb hby d4_144) (by decide) (by decide) ?_
    show Steps p.tables e below (T103.setTop (mkF m 61 #[.val (.ref a1), .val (.ref a2), .val (.int (0 : Int32)), .val (.int (2 : Int32)), .val (.ref a4), .val (.int (0 : Int32)), .val (.int (2 : Int32)), .val (.int (2 : Int32)), .val (.int (0 : Int32)), .val (.int cu)] [])) _
    refine XS.iload X103.here hx rfl (hb hby d4_61) rfl ?_
    show Steps p.tables e below (T103.setTop (mkF m 63 #[.val (.ref a1), .val (.ref a2), .val (.int (0 : Int32)), .val (.int (2 : Int32)), .val (.ref a4), .val (.int (0 : Int32)), .val (.int (2 : Int32)), .val (.int (2 : Int32)), .val (.int (0 : Int32)), .val (.int cu)] [(.int (2 : Int32))])) _
    refine XS.iconst X103.here hx rfl (hb hby d4_63) ?_
    show Steps p.tables e below (T103.setTop (mkF m 64 #[.val (.ref a1), .val (.ref a2), .val (.int (0 : Int32)), .val (.int (2 : Int32)), .val (.ref a4), .val (.int (0 : Int32)), .val (.int (2 : Int32)), .val (.int (2 : Int32)), .val (.int (0 : Int32)), .val (.int cu)] [(.int (1 : Int32)), (.int (2 : Int32))])) _
    refine XS.iadd X103.here hx rfl (hb hby d4_64) rfl ?_
    show Steps p.tables e below (T103.setTop (mkF m 65 #[.val (.ref a1), .val (.ref a2), .val (.int (0 : Int32)), .val (.int (2 : Int32)), .val (.ref a4), .val (.int (0 : Int32)), .val (.int (2 : Int32)), .val (.int (2 : Int32)), .val (.int (0 : Int32)), .val (.int cu)] [(.int (3 : Int32))])) _
    refine XS.iload X103.here hx rfl (hb hby d4_65) rfl ?_
    show Steps p.tables e below (T103.setTop (mkF m 67 #[.val (.ref a1), .val (.ref a2), .val (.int (0 : Int32)), .val (.int (2 : Int32)), .val (.ref a4), .val (.int (0 : Int32)), .val (.int (2 : Int32)), .val (.int (2 : Int32)), .val (.int (0 : Int32)), .val (.int cu)] [(.int (2 : Int32)), (.int (3 : Int32))])) _
    refine XS.icmpYes X103.here hx rfl (pc0 := 67) (pc' := 147) rfl (hb hby d4_67) rfl (flt (by decide : ¬ (3 : Int32) < (2 : Int32))).2.1 (by decide) (by decide) ?_
    show Steps p.tables e below (T103.setTop (mkF m 147 #[.val (.ref a1), .val (.ref a2), .val (.int (0 : Int32)), .val (.int (2 : Int32)), .val (.ref a4), .val (.int (0 : Int32)), .val (.int (2 : Int32)), .val (.int (2 : Int32)), .val (.int (0 : Int32)), .val (.int cu)] [])) _
    refine XS.iload X103.here hx rfl (hb hby d4_147) rfl ?_
    show Steps p.tables e below (T103.setTop (mkF m 149 #[.val (.ref a1), .val (.ref a2), .val (.int (0 : Int32)), .val (.int (2 : Int32)), .val (.ref a4), .val (.int (0 : Int32)), .val (.int (2 : Int32)), .val (.int (2 : Int32)), .val (.int (0 : Int32)), .val (.int cu)] [(.int (2 : Int32))])) _
    refine XS.iload X103.here hx rfl (hb hby d4_149) rfl ?_
    show Steps p.tables e below (T103.setTop (mkF m 151 #[.val (.ref a1), .val (.ref a2), .val (.int (0 : Int32)), .val (.int (2 : Int32)), .val (.ref a4), .val (.int (0 : Int32)), .val (.int (2 : Int32)), .val (.int (2 : Int32)), .val (.int (0 : Int32)), .val (.int cu)] [(.int (2 : Int32)), (.int (2 : Int32))])) _
    refine XS.icmpYes X103.here hx rfl (pc0 := 151) (pc' := 166) rfl (hb hby d4_151) rfl (flt (by decide : ¬ (2 : Int32) < (2 : Int32))).2.1 (by decide) (by decide) ?_
    show Steps p.tables e below (T103.setTop (mkF m 166 #[.val (.ref a1), .val (.ref a2), .val (.int (0 : Int32)), .val (.int (2 : Int32)), .val (.ref a4), .val (.int (0 : Int32)), .val (.int (2 : Int32)), .val (.int (2 : Int32)), .val (.int (0 : Int32)), .val (.int cu)] [])) _
    refine XS.iload X103.here hx rfl (hb hby d4_166) rfl ?_
    show Steps p.tables e below (T103.setTop (mkF m 168 #[.val (.ref a1), .val (.ref a2), .val (.int (0 : Int32)), .val (.int (2 : Int32)), .val (.ref a4), .val (.int (0 : Int32)), .val (.int (2 : Int32)), .val (.int (2 : Int32)), .val (.int (0 : Int32)), .val (.int cu)] [(.int (0 : Int32))])) _
    exact own_retI X103 hx Bd.returns (hb hby d4_168) hr
  · show QD Z a1 a4 M f (0 : Int32) cu h0 n0 _ T103.heap _
    skip
    exact ⟨_, rfl, N103, KC103, Ex103, Fo103, Fh103, At103⟩
set_option maxRecDepth 65536 in
set_option maxHeartbeats 40000000 in
theorem rmDL2 (l : Launch) (Z : State) (a0 : Array Value) (hw : ∀ d ∈ tables_1, d.before a0 Z = true) (ws : List Jvm.Cond) (a1 : Addr) (a2 : Addr) (a4 : Addr) (M : Nat) (f : Nat → Value) (fb : Nat → Value) (cu : Int32) (b0 : Int32) (b1 : Int32) (h0 : Heap) (n0 : Nat) (Z0 : n0 ≤ h0.size) (Ex : Exa Z h0 a1 "com/example/cellwright/cellwright/hive/Utf16Le$Decoder") (Fh : Fld Z h0 a1 "com/example/cellwright/cellwright/hive/Utf16Le$Decoder" "high" "C" (.int (0 : Int32))) (At : OwnA Z h0 a4 .char M f) (hM : 0 < M) (g_a1 : n0 ≤ a1) (g_a4 : n0 ≤ a4) (n41 : a4 ≠ a1) (hch : own_ch cu) (Fo : Fld Z h0 a1 "com/example/cellwright/cellwright/hive/Utf16Le$Decoder" "oddByte" "I" (.int (-1 : Int32))) (Ab : OwnA Z h0 a2 .byte 2 fb) (n21 : a2 ≠ a1) (n24 : a2 ≠ a4) (v0 : fb 0 = .int b0) (v1 : fb 1 = .int b1) (hc : (((b0 &&& (255 : Int32)) ||| ((b1 &&& (255 : Int32)) <<< ((8 : Int32) &&& 31))).toUInt32.toUInt16.toUInt32.toInt32) = cu) (h1 : ¬ cu < (56320 : Int32)) (h2 : ¬ (57343 : Int32) < cu) :
    MetFree l (⟨"com/example/cellwright/cellwright/hive/Utf16Le$Decoder", "decode", "([BII[CI)I"⟩ : MethodName) (head1 (Jvm.Cond.code (⟨"com/example/cellwright/cellwright/hive/Utf16Le$Decoder", "decode", "([BII[CI)I"⟩ : MethodName) prog_97_method_3_code 10 (some .int) :: ws) ({ frames := 2, cells := 0, slots := 0, locals := 31 } : Room)) (fun a U => a = #[(.ref a1), (.ref a2), (.int (0 : Int32)), (.int (2 : Int32)), (.ref a4), (.int (0 : Int32))] ∧ Z.Warmed39 U.vm ∧ U.heap = h0) (fun _ _ _ _ _ => True) (fun _ U o U' => ∃ v L, o = .returned v ∧ QD Z a1 a4 M (own_upd f 0 (.int (own_out cu))) (1 : Int32) (0 : Int32) h0 n0 v U'.heap L ∧ FrameEnd U o U' L ({ frames := 2, cells := 0, slots := 0, locals := 31 } : Room).cells ({ frames := 2, cells := 0, slots := 0, locals := 31 } : Room).slots) := by
  refine MetFree.of_bodySF (plainFor_of_name own_pn2) hisR ?_
  intro p e s m args below meth c s₁ Bd hml0 hP hK
  obtain ⟨rfl, hZ, hh⟩ := hP
  have hx := Bd.exec
  have hby := Bd.bytes
  have hml : c.maxLocals = 10 := hml0
  have hown : s.vm.findClass "com/example/cellwright/cellwright/hive/Utf16Le$Decoder" = some m.cls := findClass_of_methodNamed Bd.named
  have hnm := (name_of_methodNamed Bd.named Bd.method).1
  have X0 : Stand p l e ({ frames := 2, cells := 0, slots := 0, locals := 31 } : Room) s m #[(.ref a1), (.ref a2), (.int (0 : Int32)), (.int (2 : Int32)), (.ref a4), (.int (0 : Int32))] below meth c s₁ [] 0 0 := Stand.of_body Bd
  have e0 : s₁.heap = h0 := by rw [← hh, Bd.state]; rfl
  have N0 := Fr.nil n0
  have ef : entryFrame m #[(.ref a1), (.ref a2), (.int (0 : Int32)), (.int (2 : Int32)), (.ref a4), (.int (0 : Int32))] 10 = mkF m 0 #[.val (.ref a1), .val (.ref a2), .val (.int (0 : Int32)), .val (.int (2 : Int32)), .val (.ref a4), .val (.int (0 : Int32)), .unset, .unset, .unset, .unset] [] := by first | (simp [entryFrame, mkF, argsToLocals, Value.category]; done) | rfl
  have pre0 : ∀ t, Steps p.tables e below (s₁.setTop (mkF m 0 #[.val (.ref a1), .val (.ref a2), .val (.int (0 : Int32)), .val (.int (2 : Int32)), .val (.ref a4), .val (.int (0 : Int32)), .unset, .unset, .unset, .unset] [])) t → Steps p.tables e below (s₁.setTop (entryFrame m #[(.ref a1), (.ref a2), (.int (0 : Int32)), (.int (2 : Int32)), (.ref a4), (.int (0 : Int32))] 10)) t := fun t k => castTop ef k
  obtain ⟨T101, X101, e101, st101⟩ := getF X0 hx hZ hown (host := "") (Or.inl (hw _ (List.mem_of_getElem? (i := 16) rfl))) Via.refl e0 Fo (g := (mkF m 13 #[.val (.ref a1), .val (.ref a2), .val (.int (0 : Int32)), .val (.int (2 : Int32)), .val (.ref a4), .val (.int (0 : Int32)), .val (.int (0 : Int32)), .val (.int (2 : Int32)), .val (.int (0 : Int32)), .unset] [(.ref a1)])) rfl rfl (hb hby d4_13)
  obtain ⟨T102, X102, e102, st102⟩ := getF X101 hx hZ hown (host := "") (Or.inl (hw _ (List.mem_of_getElem? (i := 23) rfl))) Via.refl e101 Fh (g := (mkF m 96 #[.val (.ref a1), .val (.ref a2), .val (.int (0 : Int32)), .val (.int (2 : Int32)), .val (.ref a4), .val (.int (0 : Int32)), .val (.int (0 : Int32)), .val (.int (2 : Int32)), .val (.int (0 : Int32)), .val (.int cu)] [(.ref a1)])) rfl rfl (hb hby d4_96)
  have hb106 : ¬ cu < (55296 : Int32) := by simp only [Int32.lt_iff_toInt_lt, own_l1, own_l2, own_l3, own_l4, own_l5] at *; omega
  have hb113 : ¬ (57343 : Int32) < cu := by simp only [Int32.lt_iff_toInt_lt, own_l1, own_l2, own_l3, own_l4, own_l5] at *; omega
  obtain ⟨cq103, q103, q103'⟩ := Ex.cell
  obtain ⟨_, _, ⟨T103, L103, k103, n103⟩, -, X103, ⟨Lc103, hQ103, l103, y103, z103⟩, st103⟩ := X102.privateBack hx (y := (⟨"com/example/cellwright/cellwright/hive/Utf16Le$Decoder", "unit", "(C[CI)I"⟩ : MethodName)) hown (mvT hZ (hw _ (List.mem_of_getElem? (i := 35) rfl))) (mvT hZ (hw _ (List.mem_of_getElem? (i := 36) rfl))) (own_selP (y' := (⟨"com/example/cellwright/cellwright/hive/Utf16Le$Decoder", "decode", "([BII[CI)I"⟩ : MethodName)) (mvT hZ (hw _ (List.mem_of_getElem? (i := 21) rfl))) rfl (Cond.privateMethod_at (mvP hZ (hw _ (List.mem_of_getElem? (i := 37) rfl)) (args := #[]))) (mvT hZ (hw _ (List.mem_of_getElem? (i := 36) rfl))) (by decide)) (Cond.privateMethod_at (mvP hZ (hw _ (List.mem_of_getElem? (i := 37) rfl)) (args := #[]))) (mvT hZ (hw _ (List.mem_of_getElem? (i := 38) rfl))) (by decide) (backOf (W := 0) (rmUL l Z a0 hw [] a1 cu a4 M f (-1 : Int32) h0 n0 Z0 Ex Fo Fh At hM g_a1 g_a4 n41 hch h1 h2) hZ (hw _ (List.mem_of_getElem? (i := 38) rfl)) (hw _ (List.mem_of_getElem? (i := 9) rfl)) (by decide) (by decide)) (g := (mkF m 136 #[.val (.ref a1), .val (.ref a2), .val (.int (0 : Int32)), .val (.int (2 : Int32)), .val (.ref a4), .val (.int (0 : Int32)), .val (.int (0 : Int32)), .val (.int (2 : Int32)), .val (.int (0 : Int32)), .val (.int cu)] [(.int (0 : Int32)), (.ref a4), (.int cu), (.ref a1)])) rfl (by rw [hml]; rfl) (Steps.refl _) (a := a1) (by rw [e102]; exact q103) q103' (argsL := [(.int cu), (.ref a4), (.int (0 : Int32))]) (rest := []) (lenOf own_pd1 rfl) rfl (by show 2 * 0 + _ ≤ _; exact Nat.le_of_eq rfl) (hb hby d4_136) (fun _ _ => ⟨rfl, e102, (by decide : 0 + 0 ≤ _), (by decide : 0 + 0 ≤ _)⟩)
  dsimp only [Pt.U, Pt.locs, Pt.cells, Pt.slots] at X103 l103 y103 z103 st103 hQ103
  subst l103 y103 z103
  obtain ⟨o103, rfl, Nq103, K103, Ex103, Fo103, Fh103, At103⟩ := hQ103
  have Z103 : n0 ≤ T103.heap.size := Nat.le_trans Z0 K103.1
  have KC103 : Keep h0 T103.heap [a1, a4] := (Keep.refl h0 [a1, a4]).trans K103 (allS (Or.inl (List.mem_of_getElem? (i := 0) rfl)) (allS (Or.inl (List.mem_of_getElem? (i := 1) rfl)) all0))
  have N103 := Fr.app N0 Nq103
  obtain ⟨fs, hr, hrun, hended, hW, hsame⟩ := X103.leave (v := some (.int (1 : Int32))) (fun h => by rw [Bd.returns] at h; cases h)
  refine ⟨_, _, pre0 _ ?_, hrun, hended, _, _, rfl, ?_, ⟨_, rfl⟩, hW, hsame.mono (by decide) (by decide)⟩
  · show Steps p.tables e below (s₁.setTop (mkF m 0 #[.val (.ref a1), .val (.ref a2), .val (.int (0 : Int32)), .val (.int (2 : Int32)), .val (.ref a4), .val (.int (0 : Int32)), .unset, .unset, .unset, .unset] [])) _
    refine XS.iloadN X0.here hx rfl (hb hby d4_0) rfl ?_
    show Steps p.tables e below (s₁.setTop (mkF m 1 #[.val (.ref a1), .val (.ref a2), .val (.int (0 : Int32)), .val (.int (2 : Int32)), .val (.ref a4), .val (.int (0 : Int32)), .unset, .unset, .unset, .unset] [(.int (0 : Int32))])) _
    refine XS.istore X0.here hx rfl (hb hby d4_1) rfl (l' := #[.val (.ref a1), .val (.ref a2), .val (.int (0 : Int32)), .val (.int (2 : Int32)), .val (.ref a4), .val (.int (0 : Int32)), .val (.int (0 : Int32)), .unset, .unset, .unset]) rfl ?_
    show Steps p.tables e below (s₁.setTop (mkF m 3 #[.val (.ref a1), .val (.ref a2), .val (.int (0 : Int32)), .val (.int (2 : Int32)), .val (.ref a4), .val (.int (0 : Int32)), .val (.int (0 : Int32)), .unset, .unset, .unset] [])) _
    refine XS.iloadN X0.here hx rfl (hb hby d4_3) rfl ?_
    show Steps p.tables e below (s₁.setTop (mkF m 4 #[.val (.ref a1), .val (.ref a2), .val (.int (0 : Int32)), .val (.int (2 : Int32)), .val (.ref a4), .val (.int (0 : Int32)), .val (.int (0 : Int32)), .unset, .unset, .unset] [(.int (0 : Int32))])) _
    refine XS.iloadN X0.here hx rfl (hb hby d4_4) rfl ?_
    show Steps p.tables e below (s₁.setTop (mkF m 5 #[.val (.ref a1), .val (.ref a2), .val (.int (0 : Int32)), .val (.int (2 : Int32)), .val (.ref a4), .val (.int (0 : Int32)), .val (.int (0 : Int32)), .unset, .unset, .unset] [(.int (2 : Int32)), (.int (0 : Int32))])) _
    refine XS.iadd X0.here hx rfl (hb hby d4_5) rfl ?_
    show Steps p.tables e below (s₁.setTop (mkF m 6 #[.val (.ref a1), .val (.ref a2), .val (.int (0 : Int32)), .val (.int (2 : Int32)), .val (.ref a4), .val (.int (0 : Int32)), .val (.int (0 : Int32)), .unset, .unset, .unset] [(.int (2 : Int32))])) _
    refine XS.istore X0.here hx rfl (hb hby d4_6) rfl (l' := #[.val (.ref a1), .val (.ref a2), .val (.int (0 : Int32)), .val (.int (2 : Int32)), .val (.ref a4), .val (.int (0 : Int32)), .val (.int (0 : Int32)), .val (.int (2 : Int32)), .unset, .unset]) rfl ?_
    show Steps p.tables e below (s₁.setTop (mkF m 8 #[.val (.ref a1), .val (.ref a2), .val (.int (0 : Int32)), .val (.int (2 : Int32)), .val (.ref a4), .val (.int (0 : Int32)), .val (.int (0 : Int32)), .val (.int (2 : Int32)), .unset, .unset] [])) _
    refine XS.iload X0.here hx rfl (hb hby d4_8) rfl ?_
    show Steps p.tables e below (s₁.setTop (mkF m 10 #[.val (.ref a1), .val (.ref a2), .val (.int (0 : Int32)), .val (.int (2 : Int32)), .val (.ref a4), .val (.int (0 : Int32)), .val (.int (0 : Int32)), .val (.int (2 : Int32)), .unset, .unset] [(.int (0 : Int32))])) _
    refine XS.istore X0.here hx rfl (hb hby d4_10) rfl (l' := #[.val (.ref a1), .val (.ref a2), .val (.int (0 : Int32)), .val (.int (2 : Int32)), .val (.ref a4), .val (.int (0 : Int32)), .val (.int (0 : Int32)), .val (.int (2 : Int32)), .val (.int (0 : Int32)), .unset]) rfl ?_
    show Steps p.tables e below (s₁.setTop (mkF m 12 #[.val (.ref a1), .val (.ref a2), .val (.int (0 : Int32)), .val (.int (2 : Int32)), .val (.ref a4), .val (.int (0 : Int32)), .val (.int (0 : Int32)), .val (.int (2 : Int32)), .val (.int (0 : Int32)), .unset] [])) _
    refine XS.aloadN X0.here hx rfl (hb hby d4_12) rfl rfl ?_
    show Steps p.tables e below (s₁.setTop (mkF m 13 #[.val (.ref a1), .val (.ref a2), .val (.int (0 : Int32)), .val (.int (2 : Int32)), .val (.ref a4), .val (.int (0 : Int32)), .val (.int (0 : Int32)), .val (.int (2 : Int32)), .val (.int (0 : Int32)), .unset] [(.ref a1)])) _
    refine st101 _ ?_
    show Steps p.tables e below (T101.setTop (mkF m 16 #[.val (.ref a1), .val (.ref a2), .val (.int (0 : Int32)), .val (.int (2 : Int32)), .val (.ref a4), .val (.int (0 : Int32)), .val (.int (0 : Int32)), .val (.int (2 : Int32)), .val (.int (0 : Int32)), .unset] [(.int (-1 : Int32))])) _
    refine XS.ifYes X101.here hx rfl (pc0 := 16) (pc' := 61) rfl (hb hby d4_16) rfl ((if0 _ _).trans (tlt (by decide : (-1 : Int32) < (0 : Int32))).1) (by decide) (by decide) ?_
    show Steps p.tables e below (T101.setTop (mkF m 61 #[.val (.ref a1), .val (.ref a2), .val (.int (0 : Int32)), .val (.int (2 : Int32)), .val (.ref a4), .val (.int (0 : Int32)), .val (.int (0 : Int32)), .val (.int (2 : Int32)), .val (.int (0 : Int32)), .unset] [])) _
    refine XS.iload X101.here hx rfl (hb hby d4_61) rfl ?_
    show Steps p.tables e below (T101.setTop (mkF m 63 #[.val (.ref a1), .val (.ref a2), .val (.int (0 : Int32)), .val (.int (2 : Int32)), .val (.ref a4), .val (.int (0 : Int32)), .val (.int (0 : Int32)), .val (.int (2 : Int32)), .val (.int (0 : Int32)), .unset] [(.int (0 : Int32))])) _
    refine XS.iconst X101.here hx rfl (hb hby d4_63) ?_
    show Steps p.tables e below (T101.setTop (mkF m 64 #[.val (.ref a1), .val (.ref a2), .val (.int (0 : Int32)), .val (.int (2 : Int32)), .val (.ref a4), .val (.int (0 : Int32)), .val (.int (0 : Int32)), .val (.int (2 : Int32)), .val (.int (0 : Int32)), .unset] [(.int (1 : Int32)), (.int (0 : Int32))])) _
    refine XS.iadd X101.here hx rfl (hb hby d4_64) rfl ?_
    show Steps p.tables e below (T101.setTop (mkF m 65 #[.val (.ref a1), .val (.ref a2), .val (.int (0 : Int32)), .val (.int (2 : Int32)), .val (.ref a4), .val (.int (0 : Int32)), .val (.int (0 : Int32)), .val (.int (2 : Int32)), .val (.int (0 : Int32)), .unset] [(.int (1 : Int32))])) _
    refine XS.iload X101.here hx rfl (hb hby d4_65) rfl ?_
    show Steps p.tables e below (T101.setTop (mkF m 67 #[.val (.ref a1), .val (.ref a2), .val (.int (0 : Int32)), .val (.int (2 : Int32)), .val (.ref a4), .val (.int (0 : Int32)), .val (.int (0 : Int32)), .val (.int (2 : Int32)), .val (.int (0 : Int32)), .unset] [(.int (2 : Int32)), (.int (1 : Int32))])) _
    refine XS.icmpNo X101.here hx rfl (hb hby d4_67) rfl (tlt (by decide : (1 : Int32) < (2 : Int32))).2.1 ?_
    show Steps p.tables e below (T101.setTop (mkF m 70 #[.val (.ref a1), .val (.ref a2), .val (.int (0 : Int32)), .val (.int (2 : Int32)), .val (.ref a4), .val (.int (0 : Int32)), .val (.int (0 : Int32)), .val (.int (2 : Int32)), .val (.int (0 : Int32)), .unset] [])) _
    refine XS.aloadN X101.here hx rfl (hb hby d4_70) rfl rfl ?_
    show Steps p.tables e below (T101.setTop (mkF m 71 #[.val (.ref a1), .val (.ref a2), .val (.int (0 : Int32)), .val (.int (2 : Int32)), .val (.ref a4), .val (.int (0 : Int32)), .val (.int (0 : Int32)), .val (.int (2 : Int32)), .val (.int (0 : Int32)), .unset] [(.ref a2)])) _
    refine XS.iload X101.here hx rfl (hb hby d4_71) rfl ?_
    show Steps p.tables e below (T101.setTop (mkF m 73 #[.val (.ref a1), .val (.ref a2), .val (.int (0 : Int32)), .val (.int (2 : Int32)), .val (.ref a4), .val (.int (0 : Int32)), .val (.int (0 : Int32)), .val (.int (2 : Int32)), .val (.int (0 : Int32)), .unset] [(.int (0 : Int32)), (.ref a2)])) _
    refine own_ldB X101 hx hZ e101 Ab (j := (0 : Int32)) 0 (by decide) rfl (by decide) (v := (.int b0)) v0 (g := (mkF m 73 #[.val (.ref a1), .val (.ref a2), .val (.int (0 : Int32)), .val (.int (2 : Int32)), .val (.ref a4), .val (.int (0 : Int32)), .val (.int (0 : Int32)), .val (.int (2 : Int32)), .val (.int (0 : Int32)), .unset] [(.int (0 : Int32)), (.ref a2)])) rfl rfl (hb hby d4_73) _ ?_
    show Steps p.tables e below (T101.setTop (mkF m 74 #[.val (.ref a1), .val (.ref a2), .val (.int (0 : Int32)), .val (.int (2 : Int32)), .val (.ref a4), .val (.int (0 : Int32)), .val (.int (0 : Int32)), .val (.int (2 : Int32)), .val (.int (0 : Int32)), .unset] [(.int b0)])) _
    refine XS.sipush X101.here hx rfl (hb hby d4_74) ?_
    show Steps p.tables e below (T101.setTop (mkF m 77 #[.val (.ref a1), .val (.ref a2), .val (.int (0 : Int32)), .val (.int (2 : Int32)), .val (.ref a4), .val (.int (0 : Int32)), .val (.int (0 : Int32)), .val (.int (2 : Int32)), .val (.int (0 : Int32)), .unset] [(.int (255 : Int32)), (.int b0)])) _
    refine XS.iand X101.here hx rfl (hb hby d4_77) rfl ?_
    show Steps p.tables e below (T101.setTop (mkF m 78 #[.val (.ref a1), .val (.ref a2), .val (.int (0 : Int32)), .val (.int (2 : Int32)), .val (.ref a4), .val (.int (0 : Int32)), .val (.int (0 : Int32)), .val (.int (2 : Int32)), .val (.int (0 : Int32)), .unset] [(.int (b0 &&& (255 : Int32)))])) _
    refine XS.aloadN X101.here hx rfl (hb hby d4_78) rfl rfl ?_
    show Steps p.tables e below (T101.setTop (mkF m 79 #[.val (.ref a1), .val (.ref a2), .val (.int (0 : Int32)), .val (.int (2 : Int32)), .val (.ref a4), .val (.int (0 : Int32)), .val (.int (0 : Int32)), .val (.int (2 : Int32)), .val (.int (0 : Int32)), .unset] [(.ref a2), (.int (b0 &&& (255 : Int32)))])) _
    refine XS.iload X101.here hx rfl (hb hby d4_79) rfl ?_
    show Steps p.tables e below (T101.setTop (mkF m 81 #[.val (.ref a1), .val (.ref a2), .val (.int (0 : Int32)), .val (.int (2 : Int32)), .val (.ref a4), .val (.int (0 : Int32)), .val (.int (0 : Int32)), .val (.int (2 : Int32)), .val (.int (0 : Int32)), .unset] [(.int (0 : Int32)), (.ref a2), (.int (b0 &&& (255 : Int32)))])) _
    refine XS.iconst X101.here hx rfl (hb hby d4_81) ?_
    show Steps p.tables e below (T101.setTop (mkF m 82 #[.val (.ref a1), .val (.ref a2), .val (.int (0 : Int32)), .val (.int (2 : Int32)), .val (.ref a4), .val (.int (0 : Int32)), .val (.int (0 : Int32)), .val (.int (2 : Int32)), .val (.int (0 : Int32)), .unset] [(.int (1 : Int32)), (.int (0 : Int32)), (.ref a2), (.int (b0 &&& (255 : Int32)))])) _
    refine XS.iadd X101.here hx rfl (hb hby d4_82) rfl ?_
    show Steps p.tables e below (T101.setTop (mkF m 83 #[.val (.ref a1), .val (.ref a2), .val (.int (0 : Int32)), .val (.int (2 : Int32)), .val (.ref a4), .val (.int (0 : Int32)), .val (.int (0 : Int32)), .val (.int (2 : Int32)), .val (.int (0 : Int32)), .unset] [(.int (1 : Int32)), (.ref a2), (.int (b0 &&& (255 : Int32)))])) _
    refine own_ldB X101 hx hZ e101 Ab (j := (1 : Int32)) 1 (by decide) rfl (by decide) (v := (.int b1)) v1 (g := (mkF m 83 #[.val (.ref a1), .val (.ref a2), .val (.int (0 : Int32)), .val (.int (2 : Int32)), .val (.ref a4), .val (.int (0 : Int32)), .val (.int (0 : Int32)), .val (.int (2 : Int32)), .val (.int (0 : Int32)), .unset] [(.int (1 : Int32)), (.ref a2), (.int (b0 &&& (255 : Int32)))])) rfl rfl (hb hby d4_83) _ ?_
    show Steps p.tables e below (T101.setTop (mkF m 84 #[.val (.ref a1), .val (.ref a2), .val (.int (0 : Int32)), .val (.int (2 : Int32)), .val (.ref a4), .val (.int (0 : Int32)), .val (.int (0 : Int32)), .val (.int (2 : Int32)), .val (.int (0 : Int32)), .unset] [(.int b1), (.int (b0 &&& (255 : Int32)))])) _
    refine XS.sipush X101.here hx rfl (hb hby d4_84) ?_
    show Steps p.tables e below (T101.setTop (mkF m 87 #[.val (.ref a1), .val (.ref a2), .val (.int (0 : Int32)), .val (.int (2 : Int32)), .val (.ref a4), .val (.int (0 : Int32)), .val (.int (0 : Int32)), .val (.int (2 : Int32)), .val (.int (0 : Int32)), .unset] [(.int (255 : Int32)), (.int b1), (.int (b0 &&& (255 : Int32)))])) _
    refine XS.iand X101.here hx rfl (hb hby d4_87) rfl ?_
    show Steps p.tables e below (T101.setTop (mkF m 88 #[.val (.ref a1), .val (.ref a2), .val (.int (0 : Int32)), .val (.int (2 : Int32)), .val (.ref a4), .val (.int (0 : Int32)), .val (.int (0 : Int32)), .val (.int (2 : Int32)), .val (.int (0 : Int32)), .unset] [(.int (b1 &&& (255 : Int32))), (.int (b0 &&& (255 : Int32)))])) _
    refine XS.bipush X101.here hx rfl (hb hby d4_88) ?_
    show Steps p.tables e below (T101.setTop (mkF m 90 #[.val (.ref a1), .val (.ref a2), .val (.int (0 : Int32)), .val (.int (2 : Int32)), .val (.ref a4), .val (.int (0 : Int32)), .val (.int (0 : Int32)), .val (.int (2 : Int32)), .val (.int (0 : Int32)), .unset] [(.int (8 : Int32)), (.int (b1 &&& (255 : Int32))), (.int (b0 &&& (255 : Int32)))])) _
    refine XS.ishl X101.here hx rfl (hb hby d4_90) rfl ?_
    show Steps p.tables e below (T101.setTop (mkF m 91 #[.val (.ref a1), .val (.ref a2), .val (.int (0 : Int32)), .val (.int (2 : Int32)), .val (.ref a4), .val (.int (0 : Int32)), .val (.int (0 : Int32)), .val (.int (2 : Int32)), .val (.int (0 : Int32)), .unset] [(.int ((b1 &&& (255 : Int32)) <<< ((8 : Int32) &&& 31))), (.int (b0 &&& (255 : Int32)))])) _
    refine XS.ior X101.here hx rfl (hb hby d4_91) rfl ?_
    show Steps p.tables e below (T101.setTop (mkF m 92 #[.val (.ref a1), .val (.ref a2), .val (.int (0 : Int32)), .val (.int (2 : Int32)), .val (.ref a4), .val (.int (0 : Int32)), .val (.int (0 : Int32)), .val (.int (2 : Int32)), .val (.int (0 : Int32)), .unset] [(.int ((b0 &&& (255 : Int32)) ||| ((b1 &&& (255 : Int32)) <<< ((8 : Int32) &&& 31))))])) _
    refine XS.i2c X101.here hx rfl (hb hby d4_92) rfl ?_
    show Steps p.tables e below (T101.setTop (mkF m 93 #[.val (.ref a1), .val (.ref a2), .val (.int (0 : Int32)), .val (.int (2 : Int32)), .val (.ref a4), .val (.int (0 : Int32)), .val (.int (0 : Int32)), .val (.int (2 : Int32)), .val (.int (0 : Int32)), .unset] [(.int (((b0 &&& (255 : Int32)) ||| ((b1 &&& (255 : Int32)) <<< ((8 : Int32) &&& 31))).toUInt32.toUInt16.toUInt32.toInt32))])) _
    rw [hc]
    show Steps p.tables e below (T101.setTop (mkF m 93 #[.val (.ref a1), .val (.ref a2), .val (.int (0 : Int32)), .val (.int (2 : Int32)), .val (.ref a4), .val (.int (0 : Int32)), .val (.int (0 : Int32)), .val (.int (2 : Int32)), .val (.int (0 : Int32)), .unset] [(.int cu)])) _
    refine XS.istore X101.here hx rfl (hb hby d4_93) rfl (l' := #[.val (.ref a1), .val (.ref a2), .val (.int (0 : Int32)), .val (.int (2 : Int32)), .val (.ref a4), .val (.int (0 : Int32)), .val (.int (0 : Int32)), .val (.int (2 : Int32)), .val (.int (0 : Int32)), .val (.int cu)]) rfl ?_
    show Steps p.tables e below (T101.setTop (mkF m 95 #[.val (.ref a1), .val (.ref a2), .val (.int (0 : Int32)), .val (.int (2 : Int32)), .val (.ref a4), .val (.int (0 : Int32)), .val (.int (0 : Int32)), .val (.int (2 : Int32)), .val (.int (0 : Int32)), .val (.int cu)] [])) _
    refine XS.aloadN X101.here hx rfl (hb hby d4_95) rfl rfl ?_
    show Steps p.tables e below (T101.setTop (mkF m 96 #[.val (.ref a1), .val (.ref a2), .val (.int (0 : Int32)), .val (.int (2 : Int32)), .val (.ref a4), .val (.int (0 : Int32)), .val (.int (0 : Int32)), .val (.int (2 : Int32)), .val (.int (0 : Int32)), .val (.int cu)] [(.ref a1)])) _
    refine st102 _ ?_
    show Steps p.tables e below (T102.setTop (mkF m 99 #[.val (.ref a1), .val (.ref a2), .val (.int (0 : Int32)), .val (.int (2 : Int32)), .val (.ref a4), .val (.int (0 : Int32)), .val (.int (0 : Int32)), .val (.int (2 : Int32)), .val (.int (0 : Int32)), .val (.int cu)] [(.int (0 : Int32))])) _
    refine XS.ifNo X102.here hx rfl (hb hby d4_99) rfl ((if0 _ _).trans (teq rfl).2) ?_
    show Steps p.tables e below (T102.setTop (mkF m 102 #[.val (.ref a1), .val (.ref a2), .val (.int (0 : Int32)), .val (.int (2 : Int32)), .val (.ref a4), .val (.int (0 : Int32)), .val (.int (0 : Int32)), .val (.int (2 : Int32)), .val (.int (0 : Int32)), .val (.int cu)] [])) _
    refine XS.iload X102.here hx rfl (hb hby d4_102) rfl ?_
    show Steps p.tables e below (T102.setTop (mkF m 104 #[.val (.ref a1), .val (.ref a2), .val (.int (0 : Int32)), .val (.int (2 : Int32)), .val (.ref a4), .val (.int (0 : Int32)), .val (.int (0 : Int32)), .val (.int (2 : Int32)), .val (.int (0 : Int32)), .val (.int cu)] [(.int cu)])) _
    refine X102.ldcInt hx hown (mvT hZ (hw _ (List.mem_of_getElem? (i := 25) rfl))) (g := (mkF m 104 #[.val (.ref a1), .val (.ref a2), .val (.int (0 : Int32)), .val (.int (2 : Int32)), .val (.ref a4), .val (.int (0 : Int32)), .val (.int (0 : Int32)), .val (.int (2 : Int32)), .val (.int (0 : Int32)), .val (.int cu)] [(.int cu)])) rfl (hb hby d4_104) _ ?_
    show Steps p.tables e below (T102.setTop (mkF m 106 #[.val (.ref a1), .val (.ref a2), .val (.int (0 : Int32)), .val (.int (2 : Int32)), .val (.ref a4), .val (.int (0 : Int32)), .val (.int (0 : Int32)), .val (.int (2 : Int32)), .val (.int (0 : Int32)), .val (.int cu)] [(.int (55296 : Int32)), (.int cu)])) _
    refine XS.icmpNo X102.here hx rfl (hb hby d4_106) rfl (flt hb106).1 ?_
    show Steps p.tables e below (T102.setTop (mkF m 109 #[.val (.ref a1), .val (.ref a2), .val (.int (0 : Int32)), .val (.int (2 : Int32)), .val (.ref a4), .val (.int (0 : Int32)), .val (.int (0 : Int32)), .val (.int (2 : Int32)), .val (.int (0 : Int32)), .val (.int cu)] [])) _
    refine XS.iload X102.here hx rfl (hb hby d4_109) rfl ?_
    show Steps p.tables e below (T102.setTop (mkF m 111 #[.val (.ref a1), .val (.ref a2), .val (.int (0 : Int32)), .val (.int (2 : Int32)), .val (.ref a4), .val (.int (0 : Int32)), .val (.int (0 : Int32)), .val (.int (2 : Int32)), .val (.int (0 : Int32)), .val (.int cu)] [(.int cu)])) _
    refine X102.ldcInt hx hown (mvT hZ (hw _ (List.mem_of_getElem? (i := 34) rfl))) (g := (mkF m 111 #[.val (.ref a1), .val (.ref a2), .val (.int (0 : Int32)), .val (.int (2 : Int32)), .val (.ref a4), .val (.int (0 : Int32)), .val (.int (0 : Int32)), .val (.int (2 : Int32)), .val (.int (0 : Int32)), .val (.int cu)] [(.int cu)])) rfl (hb hby d4_111) _ ?_
    show Steps p.tables e below (T102.setTop (mkF m 113 #[.val (.ref a1), .val (.ref a2), .val (.int (0 : Int32)), .val (.int (2 : Int32)), .val (.ref a4), .val (.int (0 : Int32)), .val (.int (0 : Int32)), .val (.int (2 : Int32)), .val (.int (0 : Int32)), .val (.int cu)] [(.int (57343 : Int32)), (.int cu)])) _
    refine XS.icmpYes X102.here hx rfl (pc0 := 113) (pc' := 129) rfl (hb hby d4_113) rfl (flt hb113).2.2.2 (by decide) (by decide) ?_
    show Steps p.tables e below (T102.setTop (mkF m 129 #[.val (.ref a1), .val (.ref a2), .val (.int (0 : Int32)), .val (.int (2 : Int32)), .val (.ref a4), .val (.int (0 : Int32)), .val (.int (0 : Int32)), .val (.int (2 : Int32)), .val (.int (0 : Int32)), .val (.int cu)] [])) _
    refine XS.aloadN X102.here hx rfl (hb hby d4_129) rfl rfl ?_
    show Steps p.tables e below (T102.setTop (mkF m 130 #[.val (.ref a1), .val (.ref a2), .val (.int (0 : Int32)), .val (.int (2 : Int32)), .val (.ref a4), .val (.int (0 : Int32)), .val (.int (0 : Int32)), .val (.int (2 : Int32)), .val (.int (0 : Int32)), .val (.int cu)] [(.ref a1)])) _
    refine XS.iload X102.here hx rfl (hb hby d4_130) rfl ?_
    show Steps p.tables e below (T102.setTop (mkF m 132 #[.val (.ref a1), .val (.ref a2), .val (.int (0 : Int32)), .val (.int (2 : Int32)), .val (.ref a4), .val (.int (0 : Int32)), .val (.int (0 : Int32)), .val (.int (2 : Int32)), .val (.int (0 : Int32)), .val (.int cu)] [(.int cu), (.ref a1)])) _
    refine XS.aload X102.here hx rfl (hb hby d4_132) rfl rfl ?_
    show Steps p.tables e below (T102.setTop (mkF m 134 #[.val (.ref a1), .val (.ref a2), .val (.int (0 : Int32)), .val (.int (2 : Int32)), .val (.ref a4), .val (.int (0 : Int32)), .val (.int (0 : Int32)), .val (.int (2 : Int32)), .val (.int (0 : Int32)), .val (.int cu)] [(.ref a4), (.int cu), (.ref a1)])) _
    refine XS.iload X102.here hx rfl (hb hby d4_134) rfl ?_
    show Steps p.tables e below (T102.setTop (mkF m 136 #[.val (.ref a1), .val (.ref a2), .val (.int (0 : Int32)), .val (.int (2 : Int32)), .val (.ref a4), .val (.int (0 : Int32)), .val (.int (0 : Int32)), .val (.int (2 : Int32)), .val (.int (0 : Int32)), .val (.int cu)] [(.int (0 : Int32)), (.ref a4), (.int cu), (.ref a1)])) _
    refine st103.trans ?_
    show Steps p.tables e below (T103.setTop (mkF m 139 #[.val (.ref a1), .val (.ref a2), .val (.int (0 : Int32)), .val (.int (2 : Int32)), .val (.ref a4), .val (.int (0 : Int32)), .val (.int (0 : Int32)), .val (.int (2 : Int32)), .val (.int (0 : Int32)), .val (.int cu)] [(.int (1 : Int32))])) _
    refine XS.istore X103.here hx rfl (hb hby d4_139) rfl (l' := #[.val (.ref a1), .val (.ref a2), .val (.int (0 : Int32)), .val (.int (2 : Int32)), .val (.ref a4), .val (.int (0 : Int32)), .val (.int (0 : Int32)), .val (.int (2 : Int32)), .val (.int (1 : Int32)), .val (.int cu)]) rfl ?_
    show Steps p.tables e below (T103.setTop (mkF m 141 #[.val (.ref a1), .val (.ref a2), .val (.int (0 : Int32)), .val (.int (2 : Int32)), .val (.ref a4), .val (.int (0 : Int32)), .val (.int (0 : Int32)), .val (.int (2 : Int32)), .val (.int (1 : Int32)), .val (.int cu)] [])) _
    refine XS.iinc X103.here hx rfl (hb hby d4_141) rfl (l' := #[.val (.ref a1), .val (.ref a2), .val (.int (0 : Int32)), .val (.int (2 : Int32)), .val (.ref a4), .val (.int (0 : Int32)), .val (.int (2 : Int32)), .val (.int (2 : Int32)), .val (.int (1 : Int32)), .val (.int cu)]) rfl ?_
    show Steps p.tables e below (T103.setTop (mkF m 144 #[.val (.ref a1), .val (.ref a2), .val (.int (0 : Int32)), .val (.int (2 : Int32)), .val (.ref a4), .val (.int (0 : Int32)), .val (.int (2 : Int32)), .val (.int (2 : Int32)), .val (.int (1 : Int32)), .val (.int cu)] [])) _
    refine XS.goto X103.here hx rfl (pc0 := 144) (pc' := 61) rfl (hb hby d4_144) (by decide) (by decide) ?_
    show Steps p.tables e below (T103.setTop (mkF m 61 #[.val (.ref a1), .val (.ref a2), .val (.int (0 : Int32)), .val (.int (2 : Int32)), .val (.ref a4), .val (.int (0 : Int32)), .val (.int (2 : Int32)), .val (.int (2 : Int32)), .val (.int (1 : Int32)), .val (.int cu)] [])) _
    refine XS.iload X103.here hx rfl (hb hby d4_61) rfl ?_
    show Steps p.tables e below (T103.setTop (mkF m 63 #[.val (.ref a1), .val (.ref a2), .val (.int (0 : Int32)), .val (.int (2 : Int32)), .val (.ref a4), .val (.int (0 : Int32)), .val (.int (2 : Int32)), .val (.int (2 : Int32)), .val (.int (1 : Int32)), .val (.int cu)] [(.int (2 : Int32))])) _
    refine XS.iconst X103.here hx rfl (hb hby d4_63) ?_
    show Steps p.tables e below (T103.setTop (mkF m 64 #[.val (.ref a1), .val (.ref a2), .val (.int (0 : Int32)), .val (.int (2 : Int32)), .val (.ref a4), .val (.int (0 : Int32)), .val (.int (2 : Int32)), .val (.int (2 : Int32)), .val (.int (1 : Int32)), .val (.int cu)] [(.int (1 : Int32)), (.int (2 : Int32))])) _
    refine XS.iadd X103.here hx rfl (hb hby d4_64) rfl ?_
    show Steps p.tables e below (T103.setTop (mkF m 65 #[.val (.ref a1), .val (.ref a2), .val (.int (0 : Int32)), .val (.int (2 : Int32)), .val (.ref a4), .val (.int (0 : Int32)), .val (.int (2 : Int32)), .val (.int (2 : Int32)), .val (.int (1 : Int32)), .val (.int cu)] [(.int (3 : Int32))])) _
    refine XS.iload X103.here hx rfl (hb hby d4_65) rfl ?_
    show Steps p.tables e below (T103.setTop (mkF m 67 #[.val (.ref a1), .val (.ref a2), .val (.int (0 : Int32)), .val (.int (2 : Int32)), .val (.ref a4), .val (.int (0 : Int32)), .val (.int (2 : Int32)), .val (.int (2 : Int32)), .val (.int (1 : Int32)), .val (.int cu)] [(.int (2 : Int32)), (.int (3 : Int32))])) _
    refine XS.icmpYes X103.here hx rfl (pc0 := 67) (pc' := 147) rfl (hb hby d4_67) rfl (flt (by decide : ¬ (3 : Int32) < (2 : Int32))).2.1 (by decide) (by decide) ?_
    show Steps p.tables e below (T103.setTop (mkF m 147 #[.val (.ref a1), .val (.ref a2), .val (.int (0 : Int32)), .val (.int (2 : Int32)), .val (.ref a4), .val (.int (0 : Int32)), .val (.int (2 : Int32)), .val (.int (2 : Int32)), .val (.int (1 : Int32)), .val (.int cu)] [])) _
    refine XS.iload X103.here hx rfl (hb hby d4_147) rfl ?_
    show Steps p.tables e below (T103.setTop (mkF m 149 #[.val (.ref a1), .val (.ref a2), .val (.int (0 : Int32)), .val (.int (2 : Int32)), .val (.ref a4), .val (.int (0 : Int32)), .val (.int (2 : Int32)), .val (.int (2 : Int32)), .val (.int (1 : Int32)), .val (.int cu)] [(.int (2 : Int32))])) _
    refine XS.iload X103.here hx rfl (hb hby d4_149) rfl ?_
    show Steps p.tables e below (T103.setTop (mkF m 151 #[.val (.ref a1), .val (.ref a2), .val (.int (0 : Int32)), .val (.int (2 : Int32)), .val (.ref a4), .val (.int (0 : Int32)), .val (.int (2 : Int32)), .val (.int (2 : Int32)), .val (.int (1 : Int32)), .val (.int cu)] [(.int (2 : Int32)), (.int (2 : Int32))])) _
    refine XS.icmpYes X103.here hx rfl (pc0 := 151) (pc' := 166) rfl (hb hby d4_151) rfl (flt (by decide : ¬ (2 : Int32) < (2 : Int32))).2.1 (by decide) (by decide) ?_
    show Steps p.tables e below (T103.setTop (mkF m 166 #[.val (.ref a1), .val (.ref a2), .val (.int (0 : Int32)), .val (.int (2 : Int32)), .val (.ref a4), .val (.int (0 : Int32)), .val (.int (2 : Int32)), .val (.int (2 : Int32)), .val (.int (1 : Int32)), .val (.int cu)] [])) _
    refine XS.iload X103.here hx rfl (hb hby d4_166) rfl ?_
    show Steps p.tables e below (T103.setTop (mkF m 168 #[.val (.ref a1), .val (.ref a2), .val (.int (0 : Int32)), .val (.int (2 : Int32)), .val (.ref a4), .val (.int (0 : Int32)), .val (.int (2 : Int32)), .val (.int (2 : Int32)), .val (.int (1 : Int32)), .val (.int cu)] [(.int (1 : Int32))])) _
    exact own_retI X103 hx Bd.returns (hb hby d4_168) hr
  · show QD Z a1 a4 M (own_upd f 0 (.int (own_out cu))) (1 : Int32) (0 : Int32) h0 n0 _ T103.heap _
    skip
    exact ⟨_, rfl, N103, KC103, Ex103, Fo103, Fh103, (At103.cast (fun i _ => by rw [own_lowL h1 h2]))⟩
set_option maxRecDepth 65536 in
set_option maxHeartbeats 40000000 in
theorem rmDN2 (l : Launch) (Z : State) (a0 : Array Value) (hw : ∀ d ∈ tables_1, d.before a0 Z = true) (ws : List Jvm.Cond) (a1 : Addr) (a2 : Addr) (a4 : Addr) (M : Nat) (f : Nat → Value) (fb : Nat → Value) (cu : Int32) (b0 : Int32) (b1 : Int32) (h0 : Heap) (n0 : Nat) (Z0 : n0 ≤ h0.size) (Ex : Exa Z h0 a1 "com/example/cellwright/cellwright/hive/Utf16Le$Decoder") (Fh : Fld Z h0 a1 "com/example/cellwright/cellwright/hive/Utf16Le$Decoder" "high" "C" (.int (0 : Int32))) (At : OwnA Z h0 a4 .char M f) (hM : 0 < M) (g_a1 : n0 ≤ a1) (g_a4 : n0 ≤ a4) (n41 : a4 ≠ a1) (hch : own_ch cu) (Fo : Fld Z h0 a1 "com/example/cellwright/cellwright/hive/Utf16Le$Decoder" "oddByte" "I" (.int (-1 : Int32))) (Ab : OwnA Z h0 a2 .byte 2 fb) (n21 : a2 ≠ a1) (n24 : a2 ≠ a4) (v0 : fb 0 = .int b0) (v1 : fb 1 = .int b1) (hc : (((b0 &&& (255 : Int32)) ||| ((b1 &&& (255 : Int32)) <<< ((8 : Int32) &&& 31))).toUInt32.toUInt16.toUInt32.toInt32) = cu) (h1 : cu < (55296 : Int32) ∨ (56319 : Int32) < cu) :
    MetFree l (⟨"com/example/cellwright/cellwright/hive/Utf16Le$Decoder", "decode", "([BII[CI)I"⟩ : MethodName) (head1 (Jvm.Cond.code (⟨"com/example/cellwright/cellwright/hive/Utf16Le$Decoder", "decode", "([BII[CI)I"⟩ : MethodName) prog_97_method_3_code 10 (some .int) :: ws) ({ frames := 2, cells := 0, slots := 0, locals := 31 } : Room)) (fun a U => a = #[(.ref a1), (.ref a2), (.int (0 : Int32)), (.int (2 : Int32)), (.ref a4), (.int (0 : Int32))] ∧ Z.Warmed39 U.vm ∧ U.heap = h0) (fun _ _ _ _ _ => True) (fun _ U o U' => ∃ v L, o = .returned v ∧ QD Z a1 a4 M (own_upd f 0 (.int (own_out cu))) (1 : Int32) (0 : Int32) h0 n0 v U'.heap L ∧ FrameEnd U o U' L ({ frames := 2, cells := 0, slots := 0, locals := 31 } : Room).cells ({ frames := 2, cells := 0, slots := 0, locals := 31 } : Room).slots) := by
  rcases h1 with h1 | h1
  · exact rmDA2 l Z a0 hw ws a1 a2 a4 M f fb cu b0 b1 h0 n0 Z0 Ex Fh At hM g_a1 g_a4 n41 hch Fo Ab n21 n24 v0 v1 hc h1
  · by_cases h2 : (57343 : Int32) < cu
    · exact rmDB2 l Z a0 hw ws a1 a2 a4 M f fb cu b0 b1 h0 n0 Z0 Ex Fh At hM g_a1 g_a4 n41 hch Fo Ab n21 n24 v0 v1 hc h2
    · exact rmDL2 l Z a0 hw ws a1 a2 a4 M f fb cu b0 b1 h0 n0 Z0 Ex Fh At hM g_a1 g_a4 n41 hch Fo Ab n21 n24 v0 v1 hc (by simp only [Int32.lt_iff_toInt_lt, own_l1, own_l2, own_l3, own_l4, own_l5] at *; omega) h2
set_option maxRecDepth 65536 in
set_option maxHeartbeats 40000000 in
theorem rmDA3 (l : Launch) (Z : State) (a0 : Array Value) (hw : ∀ d ∈ tables_1, d.before a0 Z = true) (ws : List Jvm.Cond) (a1 : Addr) (a2 : Addr) (a4 : Addr) (M : Nat) (f : Nat → Value) (fb : Nat → Value) (cu : Int32) (b0 : Int32) (b1 : Int32) (b2 : Int32) (h0 : Heap) (n0 : Nat) (Z0 : n0 ≤ h0.size) (Ex : Exa Z h0 a1 "com/example/cellwright/cellwright/hive/Utf16Le$Decoder") (Fh : Fld Z h0 a1 "com/example/cellwright/cellwright/hive/Utf16Le$Decoder" "high" "C" (.int (0 : Int32))) (At : OwnA Z h0 a4 .char M f) (hM : 0 < M) (g_a1 : n0 ≤ a1) (g_a4 : n0 ≤ a4) (n41 : a4 ≠ a1) (hch : own_ch cu) (Fo : Fld Z h0 a1 "com/example/cellwright/cellwright/hive/Utf16Le$Decoder" "oddByte" "I" (.int (-1 : Int32))) (Ab : OwnA Z h0 a2 .byte 3 fb) (n21 : a2 ≠ a1) (n24 : a2 ≠ a4) (v0 : fb 0 = .int b0) (v1 : fb 1 = .int b1) (v2 : fb 2 = .int b2) (hc : (((b0 &&& (255 : Int32)) ||| ((b1 &&& (255 : Int32)) <<< ((8 : Int32) &&& 31))).toUInt32.toUInt16.toUInt32.toInt32) = cu) (h1 : cu < (55296 : Int32)) :
    MetFree l (⟨"com/example/cellwright/cellwright/hive/Utf16Le$Decoder", "decode", "([BII[CI)I"⟩ : MethodName) (head1 (Jvm.Cond.code (⟨"com/example/cellwright/cellwright/hive/Utf16Le$Decoder", "decode", "([BII[CI)I"⟩ : MethodName) prog_97_method_3_code 10 (some .int) :: ws) ({ frames := 2, cells := 0, slots := 0, locals := 31 } : Room)) (fun a U => a = #[(.ref a1), (.ref a2), (.int (0 : Int32)), (.int (3 : Int32)), (.ref a4), (.int (0 : Int32))] ∧ Z.Warmed39 U.vm ∧ U.heap = h0) (fun _ _ _ _ _ => True) (fun _ U o U' => ∃ v L, o = .returned v ∧ QD Z a1 a4 M (own_upd f 0 (.int (own_out cu))) (1 : Int32) (0 : Int32) h0 n0 v U'.heap L ∧ FrameEnd U o U' L ({ frames := 2, cells := 0, slots := 0, locals := 31 } : Room).cells ({ frames := 2, cells := 0, slots := 0, locals := 31 } : Room).slots) := by
  refine MetFree.of_bodySF (plainFor_of_name own_pn2) hisR ?_
  intro p e s m args below meth c s₁ Bd hml0 hP hK
  obtain ⟨rfl, hZ, hh⟩ := hP
  have hx := Bd.exec
  have hby := Bd.bytes
  have hml : c.maxLocals = 10 := hml0
  have hown : s.vm.findClass "com/example/cellwright/cellwright/hive/Utf16Le$Decoder" = some m.cls := findClass_of_methodNamed Bd.named
  have hnm := (name_of_methodNamed Bd.named Bd.method).1
  have X0 : Stand p l e ({ frames := 2, cells := 0, slots := 0, locals := 31 } : Room) s m #[(.ref a1), (.ref a2), (.int (0 : Int32)), (.int (3 : Int32)), (.ref a4), (.int (0 : Int32))] below meth c s₁ [] 0 0 := Stand.of_body Bd
  have e0 : s₁.heap = h0 := by rw [← hh, Bd.state]; rfl
  have N0 := Fr.nil n0
  have ef : entryFrame m #[(.ref a1), (.ref a2), (.int (0 : Int32)), (.int (3 : Int32)), (.ref a4), (.int (0 : Int32))] 10 = mkF m 0 #[.val (.ref a1), .val (.ref a2), .val (.int (0 : Int32)), .val (.int (3 : Int32)), .val (.ref a4), .val (.int (0 : Int32)), .unset, .unset, .unset, .unset] [] := by first | (simp [entryFrame, mkF, argsToLocals, Value.category]; done) | rfl
  have pre0 : ∀ t, Steps p.tables e below (s₁.setTop (mkF m 0 #[.val (.ref a1), .val (.ref a2), .val (.int (0 : Int32)), .val (.int (3 : Int32)), .val (.ref a4), .val (.int (0 : Int32)), .unset, .unset, .unset, .unset] [])) t → Steps p.tables e below (s₁.setTop (entryFrame m #[(.ref a1), (.ref a2), (.int (0 : Int32)), (.int (3 : Int32)), (.ref a4), (.int (0 : Int32))] 10)) t := fun t k => castTop ef k
  obtain ⟨T101, X101, e101, st101⟩ := getF X0 hx hZ hown (host := "") (Or.inl (hw _ (List.mem_of_getElem? (i := 16) rfl))) Via.refl e0 Fo (g := (mkF m 13 #[.val (.ref a1), .val (.ref a2), .val (.int (0 : Int32)), .val (.int (3 : Int32)), .val (.ref a4), .val (.int (0 : Int32)), .val (.int (0 : Int32)), .val (.int (3 : Int32)), .val (.int (0 : Int32)), .unset] [(.ref a1)])) rfl rfl (hb hby d4_13)
  obtain ⟨T102, X102, e102, st102⟩ := getF X101 hx hZ hown (host := "") (Or.inl (hw _ (List.mem_of_getElem? (i := 23) rfl))) Via.refl e101 Fh (g := (mkF m 96 #[.val (.ref a1), .val (.ref a2), .val (.int (0 : Int32)), .val (.int (3 : Int32)), .val (.ref a4), .val (.int (0 : Int32)), .val (.int (0 : Int32)), .val (.int (3 : Int32)), .val (.int (0 : Int32)), .val (.int cu)] [(.ref a1)])) rfl rfl (hb hby d4_96)
  have hb106 : cu < (55296 : Int32) := by simp only [Int32.lt_iff_toInt_lt, own_l1, own_l2, own_l3, own_l4, own_l5] at *; omega
  obtain ⟨T103, h103, X103, e103, W103, V103, st103⟩ := own_stC X102 hx hZ e102 At (j := (0 : Int32)) 0 (by decide) rfl hM (g := (mkF m 122 #[.val (.ref a1), .val (.ref a2), .val (.int (0 : Int32)), .val (.int (3 : Int32)), .val (.ref a4), .val (.int (0 : Int32)), .val (.int (0 : Int32)), .val (.int (3 : Int32)), .val (.int (0 : Int32)), .val (.int cu)] [(.int cu), (.int (0 : Int32)), (.ref a4)])) rfl rfl (hb hby d4_122)
  have Z103 : n0 ≤ h103.size := Nat.le_trans Z0 (Nat.le_of_eq W103.size.symm)
  have KC103 : Keep h0 h103 [a1, a4] := (Keep.refl h0 [a1, a4]).wr W103 (Or.inl (List.mem_of_getElem? (i := 1) rfl))
  have N103 := Fr.snoc X103 N0 g_a4
  have f104 := (Ab.other W103 n24)
  have f105 := (Ex.wr W103)
  have f106 := (Fo.other W103 (Or.inl (Ne.symm n41)))
  obtain ⟨T107, h107, X107, e107, W107, st107⟩ := putF X103 hx hZ hown (host := "") (Or.inl (hw _ (List.mem_of_getElem? (i := 16) rfl))) Via.refl e103 f106 f105 (Or.inl (hw _ (List.mem_of_getElem? (i := 17) rfl))) (hw _ (List.mem_of_getElem? (i := 8) rfl)) (ty := .int) (by decide) rfl rfl (g := (mkF m 163 #[.val (.ref a1), .val (.ref a2), .val (.int (0 : Int32)), .val (.int (3 : Int32)), .val (.ref a4), .val (.int (0 : Int32)), .val (.int (2 : Int32)), .val (.int (3 : Int32)), .val (.int (1 : Int32)), .val (.int cu)] [(.int (b2 &&& (255 : Int32))), (.ref a1)])) rfl rfl (hb hby d4_163)
  have F107 := f106.same W107
  have Z107 : n0 ≤ h107.size := Nat.le_trans Z103 (Nat.le_of_eq W107.size.symm)
  have KC107 : Keep h0 h107 [a1, a4] := KC103.wr W107 (Or.inl (List.mem_of_getElem? (i := 0) rfl))
  have N107 := Fr.snoc X107 N103 g_a1
  have f108 := (V103.other W107 n41)
  have f109 := (f105.wr W107)
  have f110 := ((Fh.other W103 (Or.inl (Ne.symm n41))).other W107 (Or.inr (slot_ne (Or.inl (hw _ (List.mem_of_getElem? (i := 24) rfl))) (Or.inl (hw _ (List.mem_of_getElem? (i := 17) rfl))) (by decide) (t := .char) (t' := .int) (by decide) (by decide))))
  obtain ⟨fs, hr, hrun, hended, hW, hsame⟩ := X107.leave (v := some (.int (1 : Int32))) (fun h => by rw [Bd.returns] at h; cases h)
  refine ⟨_, _, pre0 _ ?_, hrun, hended, _, _, rfl, ?_, ⟨_, rfl⟩, hW, hsame.mono (by decide) (by decide)⟩
  · show Steps p.tables e below (s₁.setTop (mkF m 0 #[.val (.ref a1), .val (.ref a2), .val (.int (0 : Int32)), .val (.int (3 : Int32)), .val (.ref a4), .val (.int (0 : Int32)), .unset, .unset, .unset, .unset] [])) _
    refine XS.iloadN X0.here hx rfl (hb hby d4_0) rfl ?_
    show Steps p.tables e below (s₁.setTop (mkF m 1 #[.val (.ref a1), .val (.ref a2), .val (.int (0 : Int32)), .val (.int (3 : Int32)), .val (.ref a4), .val (.int (0 : Int32)), .unset, .unset, .unset, .unset] [(.int (0 : Int32))])) _
    refine XS.istore X0.here hx rfl (hb hby d4_1) rfl (l' := #[.val (.ref a1), .val (.ref a2), .val (.int (0 : Int32)), .val (.int (3 : Int32)), .val (.ref a4), .val (.int (0 : Int32)), .val (.int (0 : Int32)), .unset, .unset, .unset]) rfl ?_
    show Steps p.tables e below (s₁.setTop (mkF m 3 #[.val (.ref a1), .val (.ref a2), .val (.int (0 : Int32)), .val (.int (3 : Int32)), .val (.ref a4), .val (.int (0 : Int32)), .val (.int (0 : Int32)), .unset, .unset, .unset] [])) _
    refine XS.iloadN X0.here hx rfl (hb hby d4_3) rfl ?_
    show Steps p.tables e below (s₁.setTop (mkF m 4 #[.val (.ref a1), .val (.ref a2), .val (.int (0 : Int32)), .val (.int (3 : Int32)), .val (.ref a4), .val (.int (0 : Int32)), .val (.int (0 : Int32)), .unset, .unset, .unset] [(.int (0 : Int32))])) _
    refine XS.iloadN X0.here hx rfl (hb hby d4_4) rfl ?_
    show Steps p.tables e below (s₁.setTop (mkF m 5 #[.val (.ref a1), .val (.ref a2), .val (.int (0 : Int32)), .val (.int (3 : Int32)), .val (.ref a4), .val (.int (0 : Int32)), .val (.int (0 : Int32)), .unset, .unset, .unset] [(.int (3 : Int32)), (.int (0 : Int32))])) _
    refine XS.iadd X0.here hx rfl (hb hby d4_5) rfl ?_
    show Steps p.tables e below (s₁.setTop (mkF m 6 #[.val (.ref a1), .val (.ref a2), .val (.int (0 : Int32)), .val (.int (3 : Int32)), .val (.ref a4), .val (.int (0 : Int32)), .val (.int (0 : Int32)), .unset, .unset, .unset] [(.int (3 : Int32))])) _
    refine XS.istore X0.here hx rfl (hb hby d4_6) rfl (l' := #[.val (.ref a1), .val (.ref a2), .val (.int (0 : Int32)), .val (.int (3 : Int32)), .val (.ref a4), .val (.int (0 : Int32)), .val (.int (0 : Int32)), .val (.int (3 : Int32)), .unset, .unset]) rfl ?_
    show Steps p.tables e below (s₁.setTop (mkF m 8 #[.val (.ref a1), .val (.ref a2), .val (.int (0 : Int32)), .val (.int (3 : Int32)), .val (.ref a4), .val (.int (0 : Int32)), .val (.int (0 : Int32)), .val (.int (3 : Int32)), .unset, .unset] [])) _
    refine XS.iload X0.here hx rfl (hb hby d4_8) rfl ?_
    show Steps p.tables e below (s₁.setTop (mkF m 10 #[.val (.ref a1), .val (.ref a2), .val (.int (0 : Int32)), .val (.int (3 : Int32)), .val (.ref a4), .val (.int (0 : Int32)), .val (.int (0 : Int32)), .val (.int (3 : Int32)), .unset, .unset] [(.int (0 : Int32))])) _
    refine XS.istore X0.here hx rfl (hb hby d4_10) rfl (l' := #[.val (.ref a1), .val (.ref a2), .val (.int (0 : Int32)), .val (.int (3 : Int32)), .val (.ref a4), .val (.int (0 : Int32)), .val (.int (0 : Int32)), .val (.int (3 : Int32)), .val (.int (0 : Int32)), .unset]) rfl ?_
    show Steps p.tables e below (s₁.setTop (mkF m 12 #[.val (.ref a1), .val (.ref a2), .val (.int (0 : Int32)), .val (.int (3 : Int32)), .val (.ref a4), .val (.int (0 : Int32)), .val (.int (0 : Int32)), .val (.int (3 : Int32)), .val (.int (0 : Int32)), .unset] [])) _
    refine XS.aloadN X0.here hx rfl (hb hby d4_12) rfl rfl ?_
    show Steps p.tables e below (s₁.setTop (mkF m 13 #[.val (.ref a1), .val (.ref a2), .val (.int (0 : Int32)), .val (.int (3 : Int32)), .val (.ref a4), .val (.int (0 : Int32)), .val (.int (0 : Int32)), .val (.int (3 : Int32)), .val (.int (0 : Int32)), .unset] [(.ref a1)])) _
    refine st101 _ ?_
    show Steps p.tables e below (T101.setTop (mkF m 16 #[.val (.ref a1), .val (.ref a2), .val (.int (0 : Int32)), .val (.int (3 : Int32)), .val (.ref a4), .val (.int (0 : Int32)), .val (.int (0 : Int32)), .val (.int (3 : Int32)), .val (.int (0 : Int32)), .unset] [(.int (-1 : Int32))])) _
    refine XS.ifYes X101.here hx rfl (pc0 := 16) (pc' := 61) rfl (hb hby d4_16) rfl ((if0 _ _).trans (tlt (by decide : (-1 : Int32) < (0 : Int32))).1) (by decide) (by decide) ?_
    show Steps p.tables e below (T101.setTop (mkF m 61 #[.val (.ref a1), .val (.ref a2), .val (.int (0 : Int32)), .val (.int (3 : Int32)), .val (.ref a4), .val (.int (0 : Int32)), .val (.int (0 : Int32)), .val (.int (3 : Int32)), .val (.int (0 : Int32)), .unset] [])) _
    refine XS.iload X101.here hx rfl (hb hby d4_61) rfl ?_
    show Steps p.tables e below (T101.setTop (mkF m 63 #[.val (.ref a1), .val (.ref a2), .val (.int (0 : Int32)), .val (.int (3 : Int32)), .val (.ref a4), .val (.int (0 : Int32)), .val (.int (0 : Int32)), .val (.int (3 : Int32)), .val (.int (0 : Int32)), .unset] [(.int (0 : Int32))])) _
    refine XS.iconst X101.here hx rfl (hb hby d4_63) ?_
    show Steps p.tables e below (T101.setTop (mkF m 64 #[.val (.ref a1), .val (.ref a2), .val (.int (0 : Int32)), .val (.int (3 : Int32)), .val (.ref a4), .val (.int (0 : Int32)), .val (.int (0 : Int32)), .val (.int (3 : Int32)), .val (.int (0 : Int32)), .unset] [(.int (1 : Int32)), (.int (0 : Int32))])) _
    refine XS.iadd X101.here hx rfl (hb hby d4_64) rfl ?_
    show Steps p.tables e below (T101.setTop (mkF m 65 #[.val (.ref a1), .val (.ref a2), .val (.int (0 : Int32)), .val (.int (3 : Int32)), .val (.ref a4), .val (.int (0 : Int32)), .val (.int (0 : Int32)), .val (.int (3 : Int32)), .val (.int (0 : Int32)), .unset] [(.int (1 : Int32))])) _
    refine XS.iload X101.here hx rfl (hb hby d4_65) rfl ?_
    show Steps p.tables e below (T101.setTop (mkF m 67 #[.val (.ref a1), .val (.ref a2), .val (.int (0 : Int32)), .val (.int (3 : Int32)), .val (.ref a4), .val (.int (0 : Int32)), .val (.int (0 : Int32)), .val (.int (3 : Int32)), .val (.int (0 : Int32)), .unset] [(.int (3 : Int32)), (.int (1 : Int32))])) _
    refine XS.icmpNo X101.here hx rfl (hb hby d4_67) rfl (tlt (by decide : (1 : Int32) < (3 : Int32))).2.1 ?_
    show Steps p.tables e below (T101.setTop (mkF m 70 #[.val (.ref a1), .val (.ref a2), .val (.int (0 : Int32)), .val (.int (3 : Int32)), .val (.ref a4), .val (.int (0 : Int32)), .val (.int (0 : Int32)), .val (.int (3 : Int32)), .val (.int (0 : Int32)), .unset] [])) _
    refine XS.aloadN X101.here hx rfl (hb hby d4_70) rfl rfl ?_
    show Steps p.tables e below (T101.setTop (mkF m 71 #[.val (.ref a1), .val (.ref a2), .val (.int (0 : Int32)), .val (.int (3 : Int32)), .val (.ref a4), .val (.int (0 : Int32)), .val (.int (0 : Int32)), .val (.int (3 : Int32)), .val (.int (0 : Int32)), .unset] [(.ref a2)])) _
    refine XS.iload X101.here hx rfl (hb hby d4_71) rfl ?_
    show Steps p.tables e below (T101.setTop (mkF m 73 #[.val (.ref a1), .val (.ref a2), .val (.int (0 : Int32)), .val (.int (3 : Int32)), .val (.ref a4), .val (.int (0 : Int32)), .val (.int (0 : Int32)), .val (.int (3 : Int32)), .val (.int (0 : Int32)), .unset] [(.int (0 : Int32)), (.ref a2)])) _
    refine own_ldB X101 hx hZ e101 Ab (j := (0 : Int32)) 0 (by decide) rfl (by decide) (v := (.int b0)) v0 (g := (mkF m 73 #[.val (.ref a1), .val (.ref a2), .val (.int (0 : Int32)), .val (.int (3 : Int32)), .val (.ref a4), .val (.int (0 : Int32)), .val (.int (0 : Int32)), .val (.int (3 : Int32)), .val (.int (0 : Int32)), .unset] [(.int (0 : Int32)), (.ref a2)])) rfl rfl (hb hby d4_73) _ ?_
    show Steps p.tables e below (T101.setTop (mkF m 74 #[.val (.ref a1), .val (.ref a2), .val (.int (0 : Int32)), .val (.int (3 : Int32)), .val (.ref a4), .val (.int (0 : Int32)), .val (.int (0 : Int32)), .val (.int (3 : Int32)), .val (.int (0 : Int32)), .unset] [(.int b0)])) _
    refine XS.sipush X101.here hx rfl (hb hby d4_74) ?_
    show Steps p.tables e below (T101.setTop (mkF m 77 #[.val (.ref a1), .val (.ref a2), .val (.int (0 : Int32)), .val (.int (3 : Int32)), .val (.ref a4), .val (.int (0 : Int32)), .val (.int (0 : Int32)), .val (.int (3 : Int32)), .val (.int (0 : Int32)), .unset] [(.int (255 : Int32)), (.int b0)])) _
    refine XS.iand X101.here hx rfl (hb hby d4_77) rfl ?_
    show Steps p.tables e below (T101.setTop (mkF m 78 #[.val (.ref a1), .val (.ref a2), .val (.int (0 : Int32)), .val (.int (3 : Int32)), .val (.ref a4), .val (.int (0 : Int32)), .val (.int (0 : Int32)), .val (.int (3 : Int32)), .val (.int (0 : Int32)), .unset] [(.int (b0 &&& (255 : Int32)))])) _
    refine XS.aloadN X101.here hx rfl (hb hby d4_78) rfl rfl ?_
    show Steps p.tables e below (T101.setTop (mkF m 79 #[.val (.ref a1), .val (.ref a2), .val (.int (0 : Int32)), .val (.int (3 : Int32)), .val (.ref a4), .val (.int (0 : Int32)), .val (.int (0 : Int32)), .val (.int (3 : Int32)), .val (.int (0 : Int32)), .unset] [(.ref a2), (.int (b0 &&& (255 : Int32)))])) _
    refine XS.iload X101.here hx rfl (hb hby d4_79) rfl ?_
    show Steps p.tables e below (T101.setTop (mkF m 81 #[.val (.ref a1), .val (.ref a2), .val (.int (0 : Int32)), .val (.int (3 : Int32)), .val (.ref a4), .val (.int (0 : Int32)), .val (.int (0 : Int32)), .val (.int (3 : Int32)), .val (.int (0 : Int32)), .unset] [(.int (0 : Int32)), (.ref a2), (.int (b0 &&& (255 : Int32)))])) _
    refine XS.iconst X101.here hx rfl (hb hby d4_81) ?_
    show Steps p.tables e below (T101.setTop (mkF m 82 #[.val (.ref a1), .val (.ref a2), .val (.int (0 : Int32)), .val (.int (3 : Int32)), .val (.ref a4), .val (.int (0 : Int32)), .val (.int (0 : Int32)), .val (.int (3 : Int32)), .val (.int (0 : Int32)), .unset] [(.int (1 : Int32)), (.int (0 : Int32)), (.ref a2), (.int (b0 &&& (255 : Int32)))])) _
    refine XS.iadd X101.here hx rfl (hb hby d4_82) rfl ?_
    show Steps p.tables e below (T101.setTop (mkF m 83 #[.val (.ref a1), .val (.ref a2), .val (.int (0 : Int32)), .val (.int (3 : Int32)), .val (.ref a4), .val (.int (0 : Int32)), .val (.int (0 : Int32)), .val (.int (3 : Int32)), .val (.int (0 : Int32)), .unset] [(.int (1 : Int32)), (.ref a2), (.int (b0 &&& (255 : Int32)))])) _
    refine own_ldB X101 hx hZ e101 Ab (j := (1 : Int32)) 1 (by decide) rfl (by decide) (v := (.int b1)) v1 (g := (mkF m 83 #[.val (.ref a1), .val (.ref a2), .val (.int (0 : Int32)), .val (.int (3 : Int32)), .val (.ref a4), .val (.int (0 : Int32)), .val (.int (0 : Int32)), .val (.int (3 : Int32)), .val (.int (0 : Int32)), .unset] [(.int (1 : Int32)), (.ref a2), (.int (b0 &&& (255 : Int32)))])) rfl rfl (hb hby d4_83) _ ?_
    show Steps p.tables e below (T101.setTop (mkF m 84 #[.val (.ref a1), .val (.ref a2), .val (.int (0 : Int32)), .val (.int (3 : Int32)), .val (.ref a4), .val (.int (0 : Int32)), .val (.int (0 : Int32)), .val (.int (3 : Int32)), .val (.int (0 : Int32)), .unset] [(.int b1), (.int (b0 &&& (255 : Int32)))])) _
    refine XS.sipush X101.here hx rfl (hb hby d4_84) ?_
    show Steps p.tables e below (T101.setTop (mkF m 87 #[.val (.ref a1), .val (.ref a2), .val (.int (0 : Int32)), .val (.int (3 : Int32)), .val (.ref a4), .val (.int (0 : Int32)), .val (.int (0 : Int32)), .val (.int (3 : Int32)), .val (.int (0 : Int32)), .unset] [(.int (255 : Int32)), (.int b1), (.int (b0 &&& (255 : Int32)))])) _
    refine XS.iand X101.here hx rfl (hb hby d4_87) rfl ?_
    show Steps p.tables e below (T101.setTop (mkF m 88 #[.val (.ref a1), .val (.ref a2), .val (.int (0 : Int32)), .val (.int (3 : Int32)), .val (.ref a4), .val (.int (0 : Int32)), .val (.int (0 : Int32)), .val (.int (3 : Int32)), .val (.int (0 : Int32)), .unset] [(.int (b1 &&& (255 : Int32))), (.int (b0 &&& (255 : Int32)))])) _
    refine XS.bipush X101.here hx rfl (hb hby d4_88) ?_
    show Steps p.tables e below (T101.setTop (mkF m 90 #[.val (.ref a1), .val (.ref a2), .val (.int (0 : Int32)), .val (.int (3 : Int32)), .val (.ref a4), .val (.int (0 : Int32)), .val (.int (0 : Int32)), .val (.int (3 : Int32)), .val (.int (0 : Int32)), .unset] [(.int (8 : Int32)), (.int (b1 &&& (255 : Int32))), (.int (b0 &&& (255 : Int32)))])) _
    refine XS.ishl X101.here hx rfl (hb hby d4_90) rfl ?_
    show Steps p.tables e below (T101.setTop (mkF m 91 #[.val (.ref a1), .val (.ref a2), .val (.int (0 : Int32)), .val (.int (3 : Int32)), .val (.ref a4), .val (.int (0 : Int32)), .val (.int (0 : Int32)), .val (.int (3 : Int32)), .val (.int (0 : Int32)), .unset] [(.int ((b1 &&& (255 : Int32)) <<< ((8 : Int32) &&& 31))), (.int (b0 &&& (255 : Int32)))])) _
    refine XS.ior X101.here hx rfl (hb hby d4_91) rfl ?_
    show Steps p.tables e below (T101.setTop (mkF m 92 #[.val (.ref a1), .val (.ref a2), .val (.int (0 : Int32)), .val (.int (3 : Int32)), .val (.ref a4), .val (.int (0 : Int32)), .val (.int (0 : Int32)), .val (.int (3 : Int32)), .val (.int (0 : Int32)), .unset] [(.int ((b0 &&& (255 : Int32)) ||| ((b1 &&& (255 : Int32)) <<< ((8 : Int32) &&& 31))))])) _
    refine XS.i2c X101.here hx rfl (hb hby d4_92) rfl ?_
    show Steps p.tables e below (T101.setTop (mkF m 93 #[.val (.ref a1), .val (.ref a2), .val (.int (0 : Int32)), .val (.int (3 : Int32)), .val (.ref a4), .val (.int (0 : Int32)), .val (.int (0 : Int32)), .val (.int (3 : Int32)), .val (.int (0 : Int32)), .unset] [(.int (((b0 &&& (255 : Int32)) ||| ((b1 &&& (255 : Int32)) <<< ((8 : Int32) &&& 31))).toUInt32.toUInt16.toUInt32.toInt32))])) _
    rw [hc]
    show Steps p.tables e below (T101.setTop (mkF m 93 #[.val (.ref a1), .val (.ref a2), .val (.int (0 : Int32)), .val (.int (3 : Int32)), .val (.ref a4), .val (.int (0 : Int32)), .val (.int (0 : Int32)), .val (.int (3 : Int32)), .val (.int (0 : Int32)), .unset] [(.int cu)])) _
    refine XS.istore X101.here hx rfl (hb hby d4_93) rfl (l' := #[.val (.ref a1), .val (.ref a2), .val (.int (0 : Int32)), .val (.int (3 : Int32)), .val (.ref a4), .val (.int (0 : Int32)), .val (.int (0 : Int32)), .val (.int (3 : Int32)), .val (.int (0 : Int32)), .val (.int cu)]) rfl ?_
    show Steps p.tables e below (T101.setTop (mkF m 95 #[.val (.ref a1), .val (.ref a2), .val (.int (0 : Int32)), .val (.int (3 : Int32)), .val (.ref a4), .val (.int (0 : Int32)), .val (.int (0 : Int32)), .val (.int (3 : Int32)), .val (.int (0 : Int32)), .val (.int cu)] [])) _
    refine XS.aloadN X101.here hx rfl (hb hby d4_95) rfl rfl ?_
    show Steps p.tables e below (T101.setTop (mkF m 96 #[.val (.ref a1), .val (.ref a2), .val (.int (0 : Int32)), .val (.int (3 : Int32)), .val (.ref a4), .val (.int (0 : Int32)), .val (.int (0 : Int32)), .val (.int (3 : Int32)), .val (.int (0 : Int32)), .val (.int cu)] [(.ref a1)])) _
    refine st102 _ ?_
    show Steps p.tables e below (T102.setTop (mkF m 99 #[.val (.ref a1), .val (.ref a2), .val (.int (0 : Int32)), .val (.int (3 : Int32)), .val (.ref a4), .val (.int (0 : Int32)), .val (.int (0 : Int32)), .val (.int (3 : Int32)), .val (.int (0 : Int32)), .val (.int cu)] [(.int (0 : Int32))])) _
    refine XS.ifNo X102.here hx rfl (hb hby d4_99) rfl ((if0 _ _).trans (teq rfl).2) ?_
    show Steps p.tables e below (T102.setTop (mkF m 102 #[.val (.ref a1), .val (.ref a2), .val (.int (0 : Int32)), .val (.int (3 : Int32)), .val (.ref a4), .val (.int (0 : Int32)), .val (.int (0 : Int32)), .val (.int (3 : Int32)), .val (.int (0 : Int32)), .val (.int cu)] [])) _
    refine XS.iload X102.here hx rfl (hb hby d4_102) rfl ?_
    show Steps p.tables e below (T102.setTop (mkF m 104 #[.val (.ref a1), .val (.ref a2), .val (.int (0 : Int32)), .val (.int (3 : Int32)), .val (.ref a4), .val (.int (0 : Int32)), .val (.int (0 : Int32)), .val (.int (3 : Int32)), .val (.int (0 : Int32)), .val (.int cu)] [(.int cu)])) _
    refine X102.ldcInt hx hown (mvT hZ (hw _ (List.mem_of_getElem? (i := 25) rfl))) (g := (mkF m 104 #[.val (.ref a1), .val (.ref a2), .val (.int (0 : Int32)), .val (.int (3 : Int32)), .val (.ref a4), .val (.int (0 : Int32)), .val (.int (0 : Int32)), .val (.int (3 : Int32)), .val (.int (0 : Int32)), .val (.int cu)] [(.int cu)])) rfl (hb hby d4_104) _ ?_
    show Steps p.tables e below (T102.setTop (mkF m 106 #[.val (.ref a1), .val (.ref a2), .val (.int (0 : Int32)), .val (.int (3 : Int32)), .val (.ref a4), .val (.int (0 : Int32)), .val (.int (0 : Int32)), .val (.int (3 : Int32)), .val (.int (0 : Int32)), .val (.int cu)] [(.int (55296 : Int32)), (.int cu)])) _
    refine XS.icmpYes X102.here hx rfl (pc0 := 106) (pc' := 116) rfl (hb hby d4_106) rfl (tlt hb106).1 (by decide) (by decide) ?_
    show Steps p.tables e below (T102.setTop (mkF m 116 #[.val (.ref a1), .val (.ref a2), .val (.int (0 : Int32)), .val (.int (3 : Int32)), .val (.ref a4), .val (.int (0 : Int32)), .val (.int (0 : Int32)), .val (.int (3 : Int32)), .val (.int (0 : Int32)), .val (.int cu)] [])) _
    refine XS.aload X102.here hx rfl (hb hby d4_116) rfl rfl ?_
    show Steps p.tables e below (T102.setTop (mkF m 118 #[.val (.ref a1), .val (.ref a2), .val (.int (0 : Int32)), .val (.int (3 : Int32)), .val (.ref a4), .val (.int (0 : Int32)), .val (.int (0 : Int32)), .val (.int (3 : Int32)), .val (.int (0 : Int32)), .val (.int cu)] [(.ref a4)])) _
    refine XS.iload X102.here hx rfl (hb hby d4_118) rfl ?_
    show Steps p.tables e below (T102.setTop (mkF m 120 #[.val (.ref a1), .val (.ref a2), .val (.int (0 : Int32)), .val (.int (3 : Int32)), .val (.ref a4), .val (.int (0 : Int32)), .val (.int (0 : Int32)), .val (.int (3 : Int32)), .val (.int (0 : Int32)), .val (.int cu)] [(.int (0 : Int32)), (.ref a4)])) _
    refine XS.iload X102.here hx rfl (hb hby d4_120) rfl ?_
    show Steps p.tables e below (T102.setTop (mkF m 122 #[.val (.ref a1), .val (.ref a2), .val (.int (0 : Int32)), .val (.int (3 : Int32)), .val (.ref a4), .val (.int (0 : Int32)), .val (.int (0 : Int32)), .val (.int (3 : Int32)), .val (.int (0 : Int32)), .val (.int cu)] [(.int cu), (.int (0 : Int32)), (.ref a4)])) _
    refine st103 _ ?_
    show Steps p.tables e below (T103.setTop (mkF m 123 #[.val (.ref a1), .val (.ref a2), .val (.int (0 : Int32)), .val (.int (3 : Int32)), .val (.ref a4), .val (.int (0 : Int32)), .val (.int (0 : Int32)), .val (.int (3 : Int32)), .val (.int (0 : Int32)), .val (.int cu)] [])) _
    refine XS.iinc X103.here hx rfl (hb hby d4_123) rfl (l' := #[.val (.ref a1), .val (.ref a2), .val (.int (0 : Int32)), .val (.int (3 : Int32)), .val (.ref a4), .val (.int (0 : Int32)), .val (.int (0 : Int32)), .val (.int (3 : Int32)), .val (.int (1 : Int32)), .val (.int cu)]) rfl ?_
    show Steps p.tables e below (T103.setTop (mkF m 126 #[.val (.ref a1), .val (.ref a2), .val (.int (0 : Int32)), .val (.int (3 : Int32)), .val (.ref a4), .val (.int (0 : Int32)), .val (.int (0 : Int32)), .val (.int (3 : Int32)), .val (.int (1 : Int32)), .val (.int cu)] [])) _
    refine XS.goto X103.here hx rfl (pc0 := 126) (pc' := 141) rfl (hb hby d4_126) (by decide) (by decide) ?_
    show Steps p.tables e below (T103.setTop (mkF m 141 #[.val (.ref a1), .val (.ref a2), .val (.int (0 : Int32)), .val (.int (3 : Int32)), .val (.ref a4), .val (.int (0 : Int32)), .val (.int (0 : Int32)), .val (.int (3 : Int32)), .val (.int (1 : Int32)), .val (.int cu)] [])) _
    refine XS.iinc X103.here hx rfl (hb hby d4_141) rfl (l' := #[.val (.ref a1), .val (.ref a2), .val (.int (0 : Int32)), .val (.int (3 : Int32)), .val (.ref a4), .val (.int (0 : Int32)), .val (.int (2 : Int32)), .val (.int (3 : Int32)), .val (.int (1 : Int32)), .val (.int cu)]) rfl ?_
    show Steps p.tables e below (T103.setTop (mkF m 144 #[.val (.ref a1), .val (.ref a2), .val (.int (0 : Int32)), .val (.int (3 : Int32)), .val (.ref a4), .val (.int (0 : Int32)), .val (.int (2 : Int32)), .val (.int (3 : Int32)), .val (.int (1 : Int32)), .val (.int cu)] [])) _
    refine XS.goto X103.here hx rfl (pc0 := 144) (pc' := 61) rfl (hb hby d4_144) (by decide) (by decide) ?_
    show Steps p.tables e below (T103.setTop (mkF m 61 #[.val (.ref a1), .val (.ref a2), .val (.int (0 : Int32)), .val (.int (3 : Int32)), .val (.ref a4), .val (.int (0 : Int32)), .val (.int (2 : Int32)), .val (.int (3 : Int32)), .val (.int (1 : Int32)), .val (.int cu)] [])) _
    refine XS.iload X103.here hx rfl (hb hby d4_61) rfl ?_
    show Steps p.tables e below (T103.setTop (mkF m 63 #[.val (.ref a1), .val (.ref a2), .val (.int (0 : Int32)), .val (.int (3 : Int32)), .val (.ref a4), .val (.int (0 : Int32)), .val (.int (2 : Int32)), .val (.int (3 : Int32)), .val (.int (1 : Int32)), .val (.int cu)] [(.int (2 : Int32))])) _
    refine XS.iconst X103.here hx rfl (hb hby d4_63) ?_
    show Steps p.tables e below (T103.setTop (mkF m 64 #[.val (.ref a1), .val (.ref a2), .val (.int (0 : Int32)), .val (.int (3 : Int32)), .val (.ref a4), .val (.int (0 : Int32)), .val (.int (2 : Int32)), .val (.int (3 : Int32)), .val (.int (1 : Int32)), .val (.int cu)] [(.int (1 : Int32)), (.int (2 : Int32))])) _
    refine XS.iadd X103.here hx rfl (hb hby d4_64) rfl ?_
    show Steps p.tables e below (T103.setTop (mkF m 65 #[.val (.ref a1), .val (.ref a2), .val (.int (0 : Int32)), .val (.int (3 : Int32)), .val (.ref a4), .val (.int (0 : Int32)), .val (.int (2 : Int32)), .val (.int (3 : Int32)), .val (.int (1 : Int32)), .val (.int cu)] [(.int (3 : Int32))])) _
    refine XS.iload X103.here hx rfl (hb hby d4_65) rfl ?_
    show Steps p.tables e below (T103.setTop (mkF m 67 #[.val (.ref a1), .val (.ref a2), .val (.int (0 : Int32)), .val (.int (3 : Int32)), .val (.ref a4), .val (.int (0 : Int32)), .val (.int (2 : Int32)), .val (.int (3 : Int32)), .val (.int (1 : Int32)), .val (.int cu)] [(.int (3 : Int32)), (.int (3 : Int32))])) _
    refine XS.icmpYes X103.here hx rfl (pc0 := 67) (pc' := 147) rfl (hb hby d4_67) rfl (flt (by decide : ¬ (3 : Int32) < (3 : Int32))).2.1 (by decide) (by decide) ?_
    show Steps p.tables e below (T103.setTop (mkF m 147 #[.val (.ref a1), .val (.ref a2), .val (.int (0 : Int32)), .val (.int (3 : Int32)), .val (.ref a4), .val (.int (0 : Int32)), .val (.int (2 : Int32)), .val (.int (3 : Int32)), .val (.int (1 : Int32)), .val (.int cu)] [])) _
    refine XS.iload X103.here hx rfl (hb hby d4_147) rfl ?_
    show Steps p.tables e below (T103.setTop (mkF m 149 #[.val (.ref a1), .val (.ref a2), .val (.int (0 : Int32)), .val (.int (3 : Int32)), .val (.ref a4), .val (.int (0 : Int32)), .val (.int (2 : Int32)), .val (.int (3 : Int32)), .val (.int (1 : Int32)), .val (.int cu)] [(.int (2 : Int32))])) _
    refine XS.iload X103.here hx rfl (hb hby d4_149) rfl ?_
    show Steps p.tables e below (T103.setTop (mkF m 151 #[.val (.ref a1), .val (.ref a2), .val (.int (0 : Int32)), .val (.int (3 : Int32)), .val (.ref a4), .val (.int (0 : Int32)), .val (.int (2 : Int32)), .val (.int (3 : Int32)), .val (.int (1 : Int32)), .val (.int cu)] [(.int (3 : Int32)), (.int (2 : Int32))])) _
    refine XS.icmpNo X103.here hx rfl (hb hby d4_151) rfl (tlt (by decide : (2 : Int32) < (3 : Int32))).2.1 ?_
    show Steps p.tables e below (T103.setTop (mkF m 154 #[.val (.ref a1), .val (.ref a2), .val (.int (0 : Int32)), .val (.int (3 : Int32)), .val (.ref a4), .val (.int (0 : Int32)), .val (.int (2 : Int32)), .val (.int (3 : Int32)), .val (.int (1 : Int32)), .val (.int cu)] [])) _
    refine XS.aloadN X103.here hx rfl (hb hby d4_154) rfl rfl ?_
    show Steps p.tables e below (T103.setTop (mkF m 155 #[.val (.ref a1), .val (.ref a2), .val (.int (0 : Int32)), .val (.int (3 : Int32)), .val (.ref a4), .val (.int (0 : Int32)), .val (.int (2 : Int32)), .val (.int (3 : Int32)), .val (.int (1 : Int32)), .val (.int cu)] [(.ref a1)])) _
    refine XS.aloadN X103.here hx rfl (hb hby d4_155) rfl rfl ?_
    show Steps p.tables e below (T103.setTop (mkF m 156 #[.val (.ref a1), .val (.ref a2), .val (.int (0 : Int32)), .val (.int (3 : Int32)), .val (.ref a4), .val (.int (0 : Int32)), .val (.int (2 : Int32)), .val (.int (3 : Int32)), .val (.int (1 : Int32)), .val (.int cu)] [(.ref a2), (.ref a1)])) _
    refine XS.iload X103.here hx rfl (hb hby d4_156) rfl ?_
    show Steps p.tables e below (T103.setTop (mkF m 158 #[.val (.ref a1), .val (.ref a2), .val (.int (0 : Int32)), .val (.int (3 : Int32)), .val (.ref a4), .val (.int (0 : Int32)), .val (.int (2 : Int32)), .val (.int (3 : Int32)), .val (.int (1 : Int32)), .val (.int cu)] [(.int (2 : Int32)), (.ref a2), (.ref a1)])) _
    refine own_ldB X103 hx hZ e103 f104 (j := (2 : Int32)) 2 (by decide) rfl (by decide) (v := (.int b2)) v2 (g := (mkF m 158 #[.val (.ref a1), .val (.ref a2), .val (.int (0 : Int32)), .val (.int (3 : Int32)), .val (.ref a4), .val (.int (0 : Int32)), .val (.int (2 : Int32)), .val (.int (3 : Int32)), .val (.int (1 : Int32)), .val (.int cu)] [(.int (2 : Int32)), (.ref a2), (.ref a1)])) rfl rfl (hb hby d4_158) _ ?_
    show Steps p.tables e below (T103.setTop (mkF m 159 #[.val (.ref a1), .val (.ref a2), .val (.int (0 : Int32)), .val (.int (3 : Int32)), .val (.ref a4), .val (.int (0 : Int32)), .val (.int (2 : Int32)), .val (.int (3 : Int32)), .val (.int (1 : Int32)), .val (.int cu)] [(.int b2), (.ref a1)])) _
    refine XS.sipush X103.here hx rfl (hb hby d4_159) ?_
    show Steps p.tables e below (T103.setTop (mkF m 162 #[.val (.ref a1), .val (.ref a2), .val (.int (0 : Int32)), .val (.int (3 : Int32)), .val (.ref a4), .val (.int (0 : Int32)), .val (.int (2 : Int32)), .val (.int (3 : Int32)), .val (.int (1 : Int32)), .val (.int cu)] [(.int (255 : Int32)), (.int b2), (.ref a1)])) _
    refine XS.iand X103.here hx rfl (hb hby d4_162) rfl ?_
    show Steps p.tables e below (T103.setTop (mkF m 163 #[.val (.ref a1), .val (.ref a2), .val (.int (0 : Int32)), .val (.int (3 : Int32)), .val (.ref a4), .val (.int (0 : Int32)), .val (.int (2 : Int32)), .val (.int (3 : Int32)), .val (.int (1 : Int32)), .val (.int cu)] [(.int (b2 &&& (255 : Int32))), (.ref a1)])) _
    refine st107 _ ?_
    show Steps p.tables e below (T107.setTop (mkF m 166 #[.val (.ref a1), .val (.ref a2), .val (.int (0 : Int32)), .val (.int (3 : Int32)), .val (.ref a4), .val (.int (0 : Int32)), .val (.int (2 : Int32)), .val (.int (3 : Int32)), .val (.int (1 : Int32)), .val (.int cu)] [])) _
    refine XS.iload X107.here hx rfl (hb hby d4_166) rfl ?_
    show Steps p.tables e below (T107.setTop (mkF m 168 #[.val (.ref a1), .val (.ref a2), .val (.int (0 : Int32)), .val (.int (3 : Int32)), .val (.ref a4), .val (.int (0 : Int32)), .val (.int (2 : Int32)), .val (.int (3 : Int32)), .val (.int (1 : Int32)), .val (.int cu)] [(.int (1 : Int32))])) _
    exact own_retI X107 hx Bd.returns (hb hby d4_168) hr
  · show QD Z a1 a4 M (own_upd f 0 (.int (own_out cu))) (1 : Int32) (0 : Int32) h0 n0 _ T107.heap _
    rw [e107]
    exact ⟨_, rfl, N107, KC107, f109, F107, f110, (f108.cast (fun i _ => by rw [← hch, own_lowA h1]))⟩
set_option maxRecDepth 65536 in
set_option maxHeartbeats 40000000 in
theorem rmDB3 (l : Launch) (Z : State) (a0 : Array Value) (hw : ∀ d ∈ tables_1, d.before a0 Z = true) (ws : List Jvm.Cond) (a1 : Addr) (a2 : Addr) (a4 : Addr) (M : Nat) (f : Nat → Value) (fb : Nat → Value) (cu : Int32) (b0 : Int32) (b1 : Int32) (b2 : Int32) (h0 : Heap) (n0 : Nat) (Z0 : n0 ≤ h0.size) (Ex : Exa Z h0 a1 "com/example/cellwright/cellwright/hive/Utf16Le$Decoder") (Fh : Fld Z h0 a1 "com/example/cellwright/cellwright/hive/Utf16Le$Decoder" "high" "C" (.int (0 : Int32))) (At : OwnA Z h0 a4 .char M f) (hM : 0 < M) (g_a1 : n0 ≤ a1) (g_a4 : n0 ≤ a4) (n41 : a4 ≠ a1) (hch : own_ch cu) (Fo : Fld Z h0 a1 "com/example/cellwright/cellwright/hive/Utf16Le$Decoder" "oddByte" "I" (.int (-1 : Int32))) (Ab : OwnA Z h0 a2 .byte 3 fb) (n21 : a2 ≠ a1) (n24 : a2 ≠ a4) (v0 : fb 0 = .int b0) (v1 : fb 1 = .int b1) (v2 : fb 2 = .int b2) (hc : (((b0 &&& (255 : Int32)) ||| ((b1 &&& (255 : Int32)) <<< ((8 : Int32) &&& 31))).toUInt32.toUInt16.toUInt32.toInt32) = cu) (h1 : (57343 : Int32) < cu) :
    MetFree l (⟨"com/example/cellwright/cellwright/hive/Utf16Le$Decoder", "decode", "([BII[CI)I"⟩ : MethodName) (head1 (Jvm.Cond.code (⟨"com/example/cellwright/cellwright/hive/Utf16Le$Decoder", "decode", "([BII[CI)I"⟩ : MethodName) prog_97_method_3_code 10 (some .int) :: ws) ({ frames := 2, cells := 0, slots := 0, locals := 31 } : Room)) (fun a U => a = #[(.ref a1), (.ref a2), (.int (0 : Int32)), (.int (3 : Int32)), (.ref a4), (.int (0 : Int32))] ∧ Z.Warmed39 U.vm ∧ U.heap = h0) (fun _ _ _ _ _ => True) (fun _ U o U' => ∃ v L, o = .returned v ∧ QD Z a1 a4 M (own_upd f 0 (.int (own_out cu))) (1 : Int32) (0 : Int32) h0 n0 v U'.heap L ∧ FrameEnd U o U' L ({ frames := 2, cells := 0, slots := 0, locals := 31 } : Room).cells ({ frames := 2, cells := 0, slots := 0, locals := 31 } : Room).slots) := by
  refine MetFree.of_bodySF (plainFor_of_name own_pn2) hisR ?_
  intro p e s m args below meth c s₁ Bd hml0 hP hK
  obtain ⟨rfl, hZ, hh⟩ := hP
  have hx := Bd.exec
  have hby := Bd.bytes
  have hml : c.maxLocals = 10 := hml0
  have hown : s.vm.findClass "com/example/cellwright/cellwright/hive/Utf16Le$Decoder" = some m.cls := findClass_of_methodNamed Bd.named
  have hnm := (name_of_methodNamed Bd.named Bd.method).1
  have X0 : Stand p l e ({ frames := 2, cells := 0, slots := 0, locals := 31 } : Room) s m #[(.ref a1), (.ref a2), (.int (0 : Int32)), (.int (3 : Int32)), (.ref a4), (.int (0 : Int32))] below meth c s₁ [] 0 0 := Stand.of_body Bd
  have e0 : s₁.heap = h0 := by rw [← hh, Bd.state]; rfl
  have N0 := Fr.nil n0
  have ef : entryFrame m #[(.ref a1), (.ref a2), (.int (0 : Int32)), (.int (3 : Int32)), (.ref a4), (.int (0 : Int32))] 10 = mkF m 0 #[.val (.ref a1), .val (.ref a2), .val (.int (0 : Int32)), .val (.int (3 : Int32)), .val (.ref a4), .val (.int (0 : Int32)), .unset, .unset, .unset, .unset] [] := by first | (simp [entryFrame, mkF, argsToLocals, Value.category]; done) | rfl
  have pre0 : ∀ t, Steps p.tables e below (s₁.setTop (mkF m 0 #[.val (.ref a1), .val (.ref a2), .val (.int (0 : Int32)), .val (.int (3 : Int32)), .val (.ref a4), .val (.int (0 : Int32)), .unset, .unset, .unset, .unset] [])) t → Steps p.tables e below (s₁.setTop (entryFrame m #[(.ref a1), (.ref a2), (.int (0 : Int32)), (.int (3 : Int32)), (.ref a4), (.int (0 : Int32))] 10)) t := fun t k => castTop ef k
  obtain ⟨T101, X101, e101, st101⟩ := getF X0 hx hZ hown (host := "") (Or.inl (hw _ (List.mem_of_getElem? (i := 16) rfl))) Via.refl e0 Fo (g := (mkF m 13 #[.val (.ref a1), .val (.ref a2), .val (.int (0 : Int32)), .val (.int (3 : Int32)), .val (.ref a4), .val (.int (0 : Int32)), .val (.int (0 : Int32)), .val (.int (3 : Int32)), .val (.int (0 : Int32)), .unset] [(.ref a1)])) rfl rfl (hb hby d4_13)
  obtain ⟨T102, X102, e102, st102⟩ := getF X101 hx hZ hown (host := "") (Or.inl (hw _ (List.mem_of_getElem? (i := 23) rfl))) Via.refl e101 Fh (g := (mkF m 96 #[.val (.ref a1), .val (.ref a2), .val (.int (0 : Int32)), .val (.int (3 : Int32)), .val (.ref a4), .val (.int (0 : Int32)), .val (.int (0 : Int32)), .val (.int (3 : Int32)), .val (.int (0 : Int32)), .val (.int cu)] [(.ref a1)])) rfl rfl (hb hby d4_96)
  have hb106 : ¬ cu < (55296 : Int32) := by simp only [Int32.lt_iff_toInt_lt, own_l1, own_l2, own_l3, own_l4, own_l5] at *; omega
  have hb113 : (57343 : Int32) < cu := by simp only [Int32.lt_iff_toInt_lt, own_l1, own_l2, own_l3, own_l4, own_l5] at *; omega
  obtain ⟨T103, h103, X103, e103, W103, V103, st103⟩ := own_stC X102 hx hZ e102 At (j := (0 : Int32)) 0 (by decide) rfl hM (g := (mkF m 122 #[.val (.ref a1), .val (.ref a2), .val (.int (0 : Int32)), .val (.int (3 : Int32)), .val (.ref a4), .val (.int (0 : Int32)), .val (.int (0 : Int32)), .val (.int (3 : Int32)), .val (.int (0 : Int32)), .val (.int cu)] [(.int cu), (.int (0 : Int32)), (.ref a4)])) rfl rfl (hb hby d4_122)
  have Z103 : n0 ≤ h103.size := Nat.le_trans Z0 (Nat.le_of_eq W103.size.symm)
  have KC103 : Keep h0 h103 [a1, a4] := (Keep.refl h0 [a1, a4]).wr W103 (Or.inl (List.mem_of_getElem? (i := 1) rfl))
  have N103 := Fr.snoc X103 N0 g_a4
  have f104 := (Ab.other W103 n24)
  have f105 := (Ex.wr W103)
  have f106 := (Fo.other W103 (Or.inl (Ne.symm n41)))
  obtain ⟨T107, h107, X107, e107, W107, st107⟩ := putF X103 hx hZ hown (host := "") (Or.inl (hw _ (List.mem_of_getElem? (i := 16) rfl))) Via.refl e103 f106 f105 (Or.inl (hw _ (List.mem_of_getElem? (i := 17) rfl))) (hw _ (List.mem_of_getElem? (i := 8) rfl)) (ty := .int) (by decide) rfl rfl (g := (mkF m 163 #[.val (.ref a1), .val (.ref a2), .val (.int (0 : Int32)), .val (.int (3 : Int32)), .val (.ref a4), .val (.int (0 : Int32)), .val (.int (2 : Int32)), .val (.int (3 : Int32)), .val (.int (1 : Int32)), .val (.int cu)] [(.int (b2 &&& (255 : Int32))), (.ref a1)])) rfl rfl (hb hby d4_163)
  have F107 := f106.same W107
  have Z107 : n0 ≤ h107.size := Nat.le_trans Z103 (Nat.le_of_eq W107.size.symm)
  have KC107 : Keep h0 h107 [a1, a4] := KC103.wr W107 (Or.inl (List.mem_of_getElem? (i := 0) rfl))
  have N107 := Fr.snoc X107 N103 g_a1
  have f108 := (V103.other W107 n41)
  have f109 := (f105.wr W107)
  have f110 := ((Fh.other W103 (Or.inl (Ne.symm n41))).other W107 (Or.inr (slot_ne (Or.inl (hw _ (List.mem_of_getElem? (i := 24) rfl))) (Or.inl (hw _ (List.mem_of_getElem? (i := 17) rfl))) (by decide) (t := .char) (t' := .int) (by decide) (by decide))))
  obtain ⟨fs, hr, hrun, hended, hW, hsame⟩ := X107.leave (v := some (.int (1 : Int32))) (fun h => by rw [Bd.returns] at h; cases h)
  refine ⟨_, _, pre0 _ ?_, hrun, hended, _, _, rfl, ?_, ⟨_, rfl⟩, hW, hsame.mono (by decide) (by decide)⟩
  · show Steps p.tables e below (s₁.setTop (mkF m 0 #[.val (.ref a1), .val (.ref a2), .val (.int (0 : Int32)), .val (.int (3 : Int32)), .val (.ref a4), .val (.int (0 : Int32)), .unset, .unset, .unset, .unset] [])) _
    refine XS.iloadN X0.here hx rfl (hb hby d4_0) rfl ?_
    show Steps p.tables e below (s₁.setTop (mkF m 1 #[.val (.ref a1), .val (.ref a2), .val (.int (0 : Int32)), .val (.int (3 : Int32)), .val (.ref a4), .val (.int (0 : Int32)), .unset, .unset, .unset, .unset] [(.int (0 : Int32))])) _
    refine XS.istore X0.here hx rfl (hb hby d4_1) rfl (l' := #[.val (.ref a1), .val (.ref a2), .val (.int (0 : Int32)), .val (.int (3 : Int32)), .val (.ref a4), .val (.int (0 : Int32)), .val (.int (0 : Int32)), .unset, .unset, .unset]) rfl ?_
    show Steps p.tables e below (s₁.setTop (mkF m 3 #[.val (.ref a1), .val (.ref a2), .val (.int (0 : Int32)), .val (.int (3 : Int32)), .val (.ref a4), .val (.int (0 : Int32)), .val (.int (0 : Int32)), .unset, .unset, .unset] [])) _
    refine XS.iloadN X0.here hx rfl (hb hby d4_3) rfl ?_
    show Steps p.tables e below (s₁.setTop (mkF m 4 #[.val (.ref a1), .val (.ref a2), .val (.int (0 : Int32)), .val (.int (3 : Int32)), .val (.ref a4), .val (.int (0 : Int32)), .val (.int (0 : Int32)), .unset, .unset, .unset] [(.int (0 : Int32))])) _
    refine XS.iloadN X0.here hx rfl (hb hby d4_4) rfl ?_
    show Steps p.tables e below (s₁.setTop (mkF m 5 #[.val (.ref a1), .val (.ref a2), .val (.int (0 : Int32)), .val (.int (3 : Int32)), .val (.ref a4), .val (.int (0 : Int32)), .val (.int (0 : Int32)), .unset, .unset, .unset] [(.int (3 : Int32)), (.int (0 : Int32))])) _
    refine XS.iadd X0.here hx rfl (hb hby d4_5) rfl ?_
    show Steps p.tables e below (s₁.setTop (mkF m 6 #[.val (.ref a1), .val (.ref a2), .val (.int (0 : Int32)), .val (.int (3 : Int32)), .val (.ref a4), .val (.int (0 : Int32)), .val (.int (0 : Int32)), .unset, .unset, .unset] [(.int (3 : Int32))])) _
    refine XS.istore X0.here hx rfl (hb hby d4_6) rfl (l' := #[.val (.ref a1), .val (.ref a2), .val (.int (0 : Int32)), .val (.int (3 : Int32)), .val (.ref a4), .val (.int (0 : Int32)), .val (.int (0 : Int32)), .val (.int (3 : Int32)), .unset, .unset]) rfl ?_
    show Steps p.tables e below (s₁.setTop (mkF m 8 #[.val (.ref a1), .val (.ref a2), .val (.int (0 : Int32)), .val (.int (3 : Int32)), .val (.ref a4), .val (.int (0 : Int32)), .val (.int (0 : Int32)), .val (.int (3 : Int32)), .unset, .unset] [])) _
    refine XS.iload X0.here hx rfl (hb hby d4_8) rfl ?_
    show Steps p.tables e below (s₁.setTop (mkF m 10 #[.val (.ref a1), .val (.ref a2), .val (.int (0 : Int32)), .val (.int (3 : Int32)), .val (.ref a4), .val (.int (0 : Int32)), .val (.int (0 : Int32)), .val (.int (3 : Int32)), .unset, .unset] [(.int (0 : Int32))])) _
    refine XS.istore X0.here hx rfl (hb hby d4_10) rfl (l' := #[.val (.ref a1), .val (.ref a2), .val (.int (0 : Int32)), .val (.int (3 : Int32)), .val (.ref a4), .val (.int (0 : Int32)), .val (.int (0 : Int32)), .val (.int (3 : Int32)), .val (.int (0 : Int32)), .unset]) rfl ?_
    show Steps p.tables e below (s₁.setTop (mkF m 12 #[.val (.ref a1), .val (.ref a2), .val (.int (0 : Int32)), .val (.int (3 : Int32)), .val (.ref a4), .val (.int (0 : Int32)), .val (.int (0 : Int32)), .val (.int (3 : Int32)), .val (.int (0 : Int32)), .unset] [])) _
    refine XS.aloadN X0.here hx rfl (hb hby d4_12) rfl rfl ?_
    show Steps p.tables e below (s₁.setTop (mkF m 13 #[.val (.ref a1), .val (.ref a2), .val (.int (0 : Int32)), .val (.int (3 : Int32)), .val (.ref a4), .val (.int (0 : Int32)), .val (.int (0 : Int32)), .val (.int (3 : Int32)), .val (.int (0 : Int32)), .unset] [(.ref a1)])) _
    refine st101 _ ?_
    show Steps p.tables e below (T101.setTop (mkF m 16 #[.val (.ref a1), .val (.ref a2), .val (.int (0 : Int32)), .val (.int (3 : Int32)), .val (.ref a4), .val (.int (0 : Int32)), .val (.int (0 : Int32)), .val (.int (3 : Int32)), .val (.int (0 : Int32)), .unset] [(.int (-1 : Int32))])) _
    refine XS.ifYes X101.here hx rfl (pc0 := 16) (pc' := 61) rfl (hb hby d4_16) rfl ((if0 _ _).trans (tlt (by decide : (-1 : Int32) < (0 : Int32))).1) (by decide) (by decide) ?_
    show Steps p.tables e below (T101.setTop (mkF m 61 #[.val (.ref a1), .val (.ref a2), .val (.int (0 : Int32)), .val (.int (3 : Int32)), .val (.ref a4), .val (.int (0 : Int32)), .val (.int (0 : Int32)), .val (.int (3 : Int32)), .val (.int (0 : Int32)), .unset] [])) _
    refine XS.iload X101.here hx rfl (hb hby d4_61) rfl ?_
    show Steps p.tables e below (T101.setTop (mkF m 63 #[.val (.ref a1), .val (.ref a2), .val (.int (0 : Int32)), .val (.int (3 : Int32)), .val (.ref a4), .val (.int (0 : Int32)), .val (.int (0 : Int32)), .val (.int (3 : Int32)), .val (.int (0 : Int32)), .unset] [(.int (0 : Int32))])) _
    refine XS.iconst X101.here hx rfl (hb hby d4_63) ?_
    show Steps p.tables e below (T101.setTop (mkF m 64 #[.val (.ref a1), .val (.ref a2), .val (.int (0 : Int32)), .val (.int (3 : Int32)), .val (.ref a4), .val (.int (0 : Int32)), .val (.int (0 : Int32)), .val (.int (3 : Int32)), .val (.int (0 : Int32)), .unset] [(.int (1 : Int32)), (.int (0 : Int32))])) _
    refine XS.iadd X101.here hx rfl (hb hby d4_64) rfl ?_
    show Steps p.tables e below (T101.setTop (mkF m 65 #[.val (.ref a1), .val (.ref a2), .val (.int (0 : Int32)), .val (.int (3 : Int32)), .val (.ref a4), .val (.int (0 : Int32)), .val (.int (0 : Int32)), .val (.int (3 : Int32)), .val (.int (0 : Int32)), .unset] [(.int (1 : Int32))])) _
    refine XS.iload X101.here hx rfl (hb hby d4_65) rfl ?_
    show Steps p.tables e below (T101.setTop (mkF m 67 #[.val (.ref a1), .val (.ref a2), .val (.int (0 : Int32)), .val (.int (3 : Int32)), .val (.ref a4), .val (.int (0 : Int32)), .val (.int (0 : Int32)), .val (.int (3 : Int32)), .val (.int (0 : Int32)), .unset] [(.int (3 : Int32)), (.int (1 : Int32))])) _
    refine XS.icmpNo X101.here hx rfl (hb hby d4_67) rfl (tlt (by decide : (1 : Int32) < (3 : Int32))).2.1 ?_
    show Steps p.tables e below (T101.setTop (mkF m 70 #[.val (.ref a1), .val (.ref a2), .val (.int (0 : Int32)), .val (.int (3 : Int32)), .val (.ref a4), .val (.int (0 : Int32)), .val (.int (0 : Int32)), .val (.int (3 : Int32)), .val (.int (0 : Int32)), .unset] [])) _
    refine XS.aloadN X101.here hx rfl (hb hby d4_70) rfl rfl ?_
    show Steps p.tables e below (T101.setTop (mkF m 71 #[.val (.ref a1), .val (.ref a2), .val (.int (0 : Int32)), .val (.int (3 : Int32)), .val (.ref a4), .val (.int (0 : Int32)), .val (.int (0 : Int32)), .val (.int (3 : Int32)), .val (.int (0 : Int32)), .unset] [(.ref a2)])) _
    refine XS.iload X101.here hx rfl (hb hby d4_71) rfl ?_
    show Steps p.tables e below (T101.setTop (mkF m 73 #[.val (.ref a1), .val (.ref a2), .val (.int (0 : Int32)), .val (.int (3 : Int32)), .val (.ref a4), .val (.int (0 : Int32)), .val (.int (0 : Int32)), .val (.int (3 : Int32)), .val (.int (0 : Int32)), .unset] [(.int (0 : Int32)), (.ref a2)])) _
    refine own_ldB X101 hx hZ e101 Ab (j := (0 : Int32)) 0 (by decide) rfl (by decide) (v := (.int b0)) v0 (g := (mkF m 73 #[.val (.ref a1), .val (.ref a2), .val (.int (0 : Int32)), .val (.int (3 : Int32)), .val (.ref a4), .val (.int (0 : Int32)), .val (.int (0 : Int32)), .val (.int (3 : Int32)), .val (.int (0 : Int32)), .unset] [(.int (0 : Int32)), (.ref a2)])) rfl rfl (hb hby d4_73) _ ?_
    show Steps p.tables e below (T101.setTop (mkF m 74 #[.val (.ref a1), .val (.ref a2), .val (.int (0 : Int32)), .val (.int (3 : Int32)), .val (.ref a4), .val (.int (0 : Int32)), .val (.int (0 : Int32)), .val (.int (3 : Int32)), .val (.int (0 : Int32)), .unset] [(.int b0)])) _
    refine XS.sipush X101.here hx rfl (hb hby d4_74) ?_
    show Steps p.tables e below (T101.setTop (mkF m 77 #[.val (.ref a1), .val (.ref a2), .val (.int (0 : Int32)), .val (.int (3 : Int32)), .val (.ref a4), .val (.int (0 : Int32)), .val (.int (0 : Int32)), .val (.int (3 : Int32)), .val (.int (0 : Int32)), .unset] [(.int (255 : Int32)), (.int b0)])) _
    refine XS.iand X101.here hx rfl (hb hby d4_77) rfl ?_
    show Steps p.tables e below (T101.setTop (mkF m 78 #[.val (.ref a1), .val (.ref a2), .val (.int (0 : Int32)), .val (.int (3 : Int32)), .val (.ref a4), .val (.int (0 : Int32)), .val (.int (0 : Int32)), .val (.int (3 : Int32)), .val (.int (0 : Int32)), .unset] [(.int (b0 &&& (255 : Int32)))])) _
    refine XS.aloadN X101.here hx rfl (hb hby d4_78) rfl rfl ?_
    show Steps p.tables e below (T101.setTop (mkF m 79 #[.val (.ref a1), .val (.ref a2), .val (.int (0 : Int32)), .val (.int (3 : Int32)), .val (.ref a4), .val (.int (0 : Int32)), .val (.int (0 : Int32)), .val (.int (3 : Int32)), .val (.int (0 : Int32)), .unset] [(.ref a2), (.int (b0 &&& (255 : Int32)))])) _
    refine XS.iload X101.here hx rfl (hb hby d4_79) rfl ?_
    show Steps p.tables e below (T101.setTop (mkF m 81 #[.val (.ref a1), .val (.ref a2), .val (.int (0 : Int32)), .val (.int (3 : Int32)), .val (.ref a4), .val (.int (0 : Int32)), .val (.int (0 : Int32)), .val (.int (3 : Int32)), .val (.int (0 : Int32)), .unset] [(.int (0 : Int32)), (.ref a2), (.int (b0 &&& (255 : Int32)))])) _
    refine XS.iconst X101.here hx rfl (hb hby d4_81) ?_
    show Steps p.tables e below (T101.setTop (mkF m 82 #[.val (.ref a1), .val (.ref a2), .val (.int (0 : Int32)), .val (.int (3 : Int32)), .val (.ref a4), .val (.int (0 : Int32)), .val (.int (0 : Int32)), .val (.int (3 : Int32)), .val (.int (0 : Int32)), .unset] [(.int (1 : Int32)), (.int (0 : Int32)), (.ref a2), (.int (b0 &&& (255 : Int32)))])) _
    refine XS.iadd X101.here hx rfl (hb hby d4_82) rfl ?_
    show Steps p.tables e below (T101.setTop (mkF m 83 #[.val (.ref a1), .val (.ref a2), .val (.int (0 : Int32)), .val (.int (3 : Int32)), .val (.ref a4), .val (.int (0 : Int32)), .val (.int (0 : Int32)), .val (.int (3 : Int32)), .val (.int (0 : Int32)), .unset] [(.int (1 : Int32)), (.ref a2), (.int (b0 &&& (255 : Int32)))])) _
    refine own_ldB X101 hx hZ e101 Ab (j := (1 : Int32)) 1 (by decide) rfl (by decide) (v := (.int b1)) v1 (g := (mkF m 83 #[.val (.ref a1), .val (.ref a2), .val (.int (0 : Int32)), .val (.int (3 : Int32)), .val (.ref a4), .val (.int (0 : Int32)), .val (.int (0 : Int32)), .val (.int (3 : Int32)), .val (.int (0 : Int32)), .unset] [(.int (1 : Int32)), (.ref a2), (.int (b0 &&& (255 : Int32)))])) rfl rfl (hb hby d4_83) _ ?_
    show Steps p.tables e below (T101.setTop (mkF m 84 #[.val (.ref a1), .val (.ref a2), .val (.int (0 : Int32)), .val (.int (3 : Int32)), .val (.ref a4), .val (.int (0 : Int32)), .val (.int (0 : Int32)), .val (.int (3 : Int32)), .val (.int (0 : Int32)), .unset] [(.int b1), (.int (b0 &&& (255 : Int32)))])) _
    refine XS.sipush X101.here hx rfl (hb hby d4_84) ?_
    show Steps p.tables e below (T101.setTop (mkF m 87 #[.val (.ref a1), .val (.ref a2), .val (.int (0 : Int32)), .val (.int (3 : Int32)), .val (.ref a4), .val (.int (0 : Int32)), .val (.int (0 : Int32)), .val (.int (3 : Int32)), .val (.int (0 : Int32)), .unset] [(.int (255 : Int32)), (.int b1), (.int (b0 &&& (255 : Int32)))])) _
    refine XS.iand X101.here hx rfl (hb hby d4_87) rfl ?_
    show Steps p.tables e below (T101.setTop (mkF m 88 #[.val (.ref a1), .val (.ref a2), .val (.int (0 : Int32)), .val (.int (3 : Int32)), .val (.ref a4), .val (.int (0 : Int32)), .val (.int (0 : Int32)), .val (.int (3 : Int32)), .val (.int (0 : Int32)), .unset] [(.int (b1 &&& (255 : Int32))), (.int (b0 &&& (255 : Int32)))])) _
    refine XS.bipush X101.here hx rfl (hb hby d4_88) ?_
    show Steps p.tables e below (T101.setTop (mkF m 90 #[.val (.ref a1), .val (.ref a2), .val (.int (0 : Int32)), .val (.int (3 : Int32)), .val (.ref a4), .val (.int (0 : Int32)), .val (.int (0 : Int32)), .val (.int (3 : Int32)), .val (.int (0 : Int32)), .unset] [(.int (8 : Int32)), (.int (b1 &&& (255 : Int32))), (.int (b0 &&& (255 : Int32)))])) _
    refine XS.ishl X101.here hx rfl (hb hby d4_90) rfl ?_
    show Steps p.tables e below (T101.setTop (mkF m 91 #[.val (.ref a1), .val (.ref a2), .val (.int (0 : Int32)), .val (.int (3 : Int32)), .val (.ref a4), .val (.int (0 : Int32)), .val (.int (0 : Int32)), .val (.int (3 : Int32)), .val (.int (0 : Int32)), .unset] [(.int ((b1 &&& (255 : Int32)) <<< ((8 : Int32) &&& 31))), (.int (b0 &&& (255 : Int32)))])) _
    refine XS.ior X101.here hx rfl (hb hby d4_91) rfl ?_
    show Steps p.tables e below (T101.setTop (mkF m 92 #[.val (.ref a1), .val (.ref a2), .val (.int (0 : Int32)), .val (.int (3 : Int32)), .val (.ref a4), .val (.int (0 : Int32)), .val (.int (0 : Int32)), .val (.int (3 : Int32)), .val (.int (0 : Int32)), .unset] [(.int ((b0 &&& (255 : Int32)) ||| ((b1 &&& (255 : Int32)) <<< ((8 : Int32) &&& 31))))])) _
    refine XS.i2c X101.here hx rfl (hb hby d4_92) rfl ?_
    show Steps p.tables e below (T101.setTop (mkF m 93 #[.val (.ref a1), .val (.ref a2), .val (.int (0 : Int32)), .val (.int (3 : Int32)), .val (.ref a4), .val (.int (0 : Int32)), .val (.int (0 : Int32)), .val (.int (3 : Int32)), .val (.int (0 : Int32)), .unset] [(.int (((b0 &&& (255 : Int32)) ||| ((b1 &&& (255 : Int32)) <<< ((8 : Int32) &&& 31))).toUInt32.toUInt16.toUInt32.toInt32))])) _
    rw [hc]
    show Steps p.tables e below (T101.setTop (mkF m 93 #[.val (.ref a1), .val (.ref a2), .val (.int (0 : Int32)), .val (.int (3 : Int32)), .val (.ref a4), .val (.int (0 : Int32)), .val (.int (0 : Int32)), .val (.int (3 : Int32)), .val (.int (0 : Int32)), .unset] [(.int cu)])) _
    refine XS.istore X101.here hx rfl (hb hby d4_93) rfl (l' := #[.val (.ref a1), .val (.ref a2), .val (.int (0 : Int32)), .val (.int (3 : Int32)), .val (.ref a4), .val (.int (0 : Int32)), .val (.int (0 : Int32)), .val (.int (3 : Int32)), .val (.int (0 : Int32)), .val (.int cu)]) rfl ?_
    show Steps p.tables e below (T101.setTop (mkF m 95 #[.val (.ref a1), .val (.ref a2), .val (.int (0 : Int32)), .val (.int (3 : Int32)), .val (.ref a4), .val (.int (0 : Int32)), .val (.int (0 : Int32)), .val (.int (3 : Int32)), .val (.int (0 : Int32)), .val (.int cu)] [])) _
    refine XS.aloadN X101.here hx rfl (hb hby d4_95) rfl rfl ?_
    show Steps p.tables e below (T101.setTop (mkF m 96 #[.val (.ref a1), .val (.ref a2), .val (.int (0 : Int32)), .val (.int (3 : Int32)), .val (.ref a4), .val (.int (0 : Int32)), .val (.int (0 : Int32)), .val (.int (3 : Int32)), .val (.int (0 : Int32)), .val (.int cu)] [(.ref a1)])) _
    refine st102 _ ?_
    show Steps p.tables e below (T102.setTop (mkF m 99 #[.val (.ref a1), .val (.ref a2), .val (.int (0 : Int32)), .val (.int (3 : Int32)), .val (.ref a4), .val (.int (0 : Int32)), .val (.int (0 : Int32)), .val (.int (3 : Int32)), .val (.int (0 : Int32)), .val (.int cu)] [(.int (0 : Int32))])) _
    refine XS.ifNo X102.here hx rfl (hb hby d4_99) rfl ((if0 _ _).trans (teq rfl).2) ?_
    show Steps p.tables e below (T102.setTop (mkF m 102 #[.val (.ref a1), .val (.ref a2), .val (.int (0 : Int32)), .val (.int (3 : Int32)), .val (.ref a4), .val (.int (0 : Int32)), .val (.int (0 : Int32)), .val (.int (3 : Int32)), .val (.int (0 : Int32)), .val (.int cu)] [])) _
    refine XS.iload X102.here hx rfl (hb hby d4_102) rfl ?_
    show Steps p.tables e below (T102.setTop (mkF m 104 #[.val (.ref a1), .val (.ref a2), .val (.int (0 : Int32)), .val (.int (3 : Int32)), .val (.ref a4), .val (.int (0 : Int32)), .val (.int (0 : Int32)), .val (.int (3 : Int32)), .val (.int (0 : Int32)), .val (.int cu)] [(.int cu)])) _
    refine X102.ldcInt hx hown (mvT hZ (hw _ (List.mem_of_getElem? (i := 25) rfl))) (g := (mkF m 104 #[.val (.ref a1), .val (.ref a2), .val (.int (0 : Int32)), .val (.int (3 : Int32)), .val (.ref a4), .val (.int (0 : Int32)), .val (.int (0 : Int32)), .val (.int (3 : Int32)), .val (.int (0 : Int32)), .val (.int cu)] [(.int cu)])) rfl (hb hby d4_104) _ ?_
    show Steps p.tables e below (T102.setTop (mkF m 106 #[.val (.ref a1), .val (.ref a2), .val (.int (0 : Int32)), .val (.int (3 : Int32)), .val (.ref a4), .val (.int (0 : Int32)), .val (.int (0 : Int32)), .val (.int (3 : Int32)), .val (.int (0 : Int32)), .val (.int cu)] [(.int (55296 : Int32)), (.int cu)])) _
    refine XS.icmpNo X102.here hx rfl (hb hby d4_106) rfl (flt hb106).1 ?_
    show Steps p.tables e below (T102.setTop (mkF m 109 #[.val (.ref a1), .val (.ref a2), .val (.int (0 : Int32)), .val (.int (3 : Int32)), .val (.ref a4), .val (.int (0 : Int32)), .val (.int (0 : Int32)), .val (.int (3 : Int32)), .val (.int (0 : Int32)), .val (.int cu)] [])) _
    refine XS.iload X102.here hx rfl (hb hby d4_109) rfl ?_
    show Steps p.tables e below (T102.setTop (mkF m 111 #[.val (.ref a1), .val (.ref a2), .val (.int (0 : Int32)), .val (.int (3 : Int32)), .val (.ref a4), .val (.int (0 : Int32)), .val (.int (0 : Int32)), .val (.int (3 : Int32)), .val (.int (0 : Int32)), .val (.int cu)] [(.int cu)])) _
    refine X102.ldcInt hx hown (mvT hZ (hw _ (List.mem_of_getElem? (i := 34) rfl))) (g := (mkF m 111 #[.val (.ref a1), .val (.ref a2), .val (.int (0 : Int32)), .val (.int (3 : Int32)), .val (.ref a4), .val (.int (0 : Int32)), .val (.int (0 : Int32)), .val (.int (3 : Int32)), .val (.int (0 : Int32)), .val (.int cu)] [(.int cu)])) rfl (hb hby d4_111) _ ?_
    show Steps p.tables e below (T102.setTop (mkF m 113 #[.val (.ref a1), .val (.ref a2), .val (.int (0 : Int32)), .val (.int (3 : Int32)), .val (.ref a4), .val (.int (0 : Int32)), .val (.int (0 : Int32)), .val (.int (3 : Int32)), .val (.int (0 : Int32)), .val (.int cu)] [(.int (57343 : Int32)), (.int cu)])) _
    refine XS.icmpNo X102.here hx rfl (hb hby d4_113) rfl (tlt hb113).2.2.2 ?_
    show Steps p.tables e below (T102.setTop (mkF m 116 #[.val (.ref a1), .val (.ref a2), .val (.int (0 : Int32)), .val (.int (3 : Int32)), .val (.ref a4), .val (.int (0 : Int32)), .val (.int (0 : Int32)), .val (.int (3 : Int32)), .val (.int (0 : Int32)), .val (.int cu)] [])) _
    refine XS.aload X102.here hx rfl (hb hby d4_116) rfl rfl ?_
    show Steps p.tables e below (T102.setTop (mkF m 118 #[.val (.ref a1), .val (.ref a2), .val (.int (0 : Int32)), .val (.int (3 : Int32)), .val (.ref a4), .val (.int (0 : Int32)), .val (.int (0 : Int32)), .val (.int (3 : Int32)), .val (.int (0 : Int32)), .val (.int cu)] [(.ref a4)])) _
    refine XS.iload X102.here hx rfl (hb hby d4_118) rfl ?_
    show Steps p.tables e below (T102.setTop (mkF m 120 #[.val (.ref a1), .val (.ref a2), .val (.int (0 : Int32)), .val (.int (3 : Int32)), .val (.ref a4), .val (.int (0 : Int32)), .val (.int (0 : Int32)), .val (.int (3 : Int32)), .val (.int (0 : Int32)), .val (.int cu)] [(.int (0 : Int32)), (.ref a4)])) _
    refine XS.iload X102.here hx rfl (hb hby d4_120) rfl ?_
    show Steps p.tables e below (T102.setTop (mkF m 122 #[.val (.ref a1), .val (.ref a2), .val (.int (0 : Int32)), .val (.int (3 : Int32)), .val (.ref a4), .val (.int (0 : Int32)), .val (.int (0 : Int32)), .val (.int (3 : Int32)), .val (.int (0 : Int32)), .val (.int cu)] [(.int cu), (.int (0 : Int32)), (.ref a4)])) _
    refine st103 _ ?_
    show Steps p.tables e below (T103.setTop (mkF m 123 #[.val (.ref a1), .val (.ref a2), .val (.int (0 : Int32)), .val (.int (3 : Int32)), .val (.ref a4), .val (.int (0 : Int32)), .val (.int (0 : Int32)), .val (.int (3 : Int32)), .val (.int (0 : Int32)), .val (.int cu)] [])) _
    refine XS.iinc X103.here hx rfl (hb hby d4_123) rfl (l' := #[.val (.ref a1), .val (.ref a2), .val (.int (0 : Int32)), .val (.int (3 : Int32)), .val (.ref a4), .val (.int (0 : Int32)), .val (.int (0 : Int32)), .val (.int (3 : Int32)), .val (.int (1 : Int32)), .val (.int cu)]) rfl ?_
    show Steps p.tables e below (T103.setTop (mkF m 126 #[.val (.ref a1), .val (.ref a2), .val (.int (0 : Int32)), .val (.int (3 : Int32)), .val (.ref a4), .val (.int (0 : Int32)), .val (.int (0 : Int32)), .val (.int (3 : Int32)), .val (.int (1 : Int32)), .val (.int cu)] [])) _
    refine XS.goto X103.here hx rfl (pc0 := 126) (pc' := 141) rfl (hb hby d4_126) (by decide) (by decide) ?_
    show Steps p.tables e below (T103.setTop (mkF m 141 #[.val (.ref a1), .val (.ref a2), .val (.int (0 : Int32)), .val (.int (3 : Int32)), .val (.ref a4), .val (.int (0 : Int32)), .val (.int (0 : Int32)), .val (.int (3 : Int32)), .val (.int (1 : Int32)), .val (.int cu)] [])) _
    refine XS.iinc X103.here hx rfl (hb hby d4_141) rfl (l' := #[.val (.ref a1), .val (.ref a2), .val (.int (0 : Int32)), .val (.int (3 : Int32)), .val (.ref a4), .val (.int (0 : Int32)), .val (.int (2 : Int32)), .val (.int (3 : Int32)), .val (.int (1 : Int32)), .val (.int cu)]) rfl ?_
    show Steps p.tables e below (T103.setTop (mkF m 144 #[.val (.ref a1), .val (.ref a2), .val (.int (0 : Int32)), .val (.int (3 : Int32)), .val (.ref a4), .val (.int (0 : Int32)), .val (.int (2 : Int32)), .val (.int (3 : Int32)), .val (.int (1 : Int32)), .val (.int cu)] [])) _
    refine XS.goto X103.here hx rfl (pc0 := 144) (pc' := 61) rfl (hb hby d4_144) (by decide) (by decide) ?_
    show Steps p.tables e below (T103.setTop (mkF m 61 #[.val (.ref a1), .val (.ref a2), .val (.int (0 : Int32)), .val (.int (3 : Int32)), .val (.ref a4), .val (.int (0 : Int32)), .val (.int (2 : Int32)), .val (.int (3 : Int32)), .val (.int (1 : Int32)), .val (.int cu)] [])) _
    refine XS.iload X103.here hx rfl (hb hby d4_61) rfl ?_
    show Steps p.tables e below (T103.setTop (mkF m 63 #[.val (.ref a1), .val (.ref a2), .val (.int (0 : Int32)), .val (.int (3 : Int32)), .val (.ref a4), .val (.int (0 : Int32)), .val (.int (2 : Int32)), .val (.int (3 : Int32)), .val (.int (1 : Int32)), .val (.int cu)] [(.int (2 : Int32))])) _
    refine XS.iconst X103.here hx rfl (hb hby d4_63) ?_
    show Steps p.tables e below (T103.setTop (mkF m 64 #[.val (.ref a1), .val (.ref a2), .val (.int (0 : Int32)), .val (.int (3 : Int32)), .val (.ref a4), .val (.int (0 : Int32)), .val (.int (2 : Int32)), .val (.int (3 : Int32)), .val (.int (1 : Int32)), .val (.int cu)] [(.int (1 : Int32)), (.int (2 : Int32))])) _
    refine XS.iadd X103.here hx rfl (hb hby d4_64) rfl ?_
    show Steps p.tables e below (T103.setTop (mkF m 65 #[.val (.ref a1), .val (.ref a2), .val (.int (0 : Int32)), .val (.int (3 : Int32)), .val (.ref a4), .val (.int (0 : Int32)), .val (.int (2 : Int32)), .val (.int (3 : Int32)), .val (.int (1 : Int32)), .val (.int cu)] [(.int (3 : Int32))])) _
    refine XS.iload X103.here hx rfl (hb hby d4_65) rfl ?_
    show Steps p.tables e below (T103.setTop (mkF m 67 #[.val (.ref a1), .val (.ref a2), .val (.int (0 : Int32)), .val (.int (3 : Int32)), .val (.ref a4), .val (.int (0 : Int32)), .val (.int (2 : Int32)), .val (.int (3 : Int32)), .val (.int (1 : Int32)), .val (.int cu)] [(.int (3 : Int32)), (.int (3 : Int32))])) _
    refine XS.icmpYes X103.here hx rfl (pc0 := 67) (pc' := 147) rfl (hb hby d4_67) rfl (flt (by decide : ¬ (3 : Int32) < (3 : Int32))).2.1 (by decide) (by decide) ?_
    show Steps p.tables e below (T103.setTop (mkF m 147 #[.val (.ref a1), .val (.ref a2), .val (.int (0 : Int32)), .val (.int (3 : Int32)), .val (.ref a4), .val (.int (0 : Int32)), .val (.int (2 : Int32)), .val (.int (3 : Int32)), .val (.int (1 : Int32)), .val (.int cu)] [])) _
    refine XS.iload X103.here hx rfl (hb hby d4_147) rfl ?_
    show Steps p.tables e below (T103.setTop (mkF m 149 #[.val (.ref a1), .val (.ref a2), .val (.int (0 : Int32)), .val (.int (3 : Int32)), .val (.ref a4), .val (.int (0 : Int32)), .val (.int (2 : Int32)), .val (.int (3 : Int32)), .val (.int (1 : Int32)), .val (.int cu)] [(.int (2 : Int32))])) _
    refine XS.iload X103.here hx rfl (hb hby d4_149) rfl ?_
    show Steps p.tables e below (T103.setTop (mkF m 151 #[.val (.ref a1), .val (.ref a2), .val (.int (0 : Int32)), .val (.int (3 : Int32)), .val (.ref a4), .val (.int (0 : Int32)), .val (.int (2 : Int32)), .val (.int (3 : Int32)), .val (.int (1 : Int32)), .val (.int cu)] [(.int (3 : Int32)), (.int (2 : Int32))])) _
    refine XS.icmpNo X103.here hx rfl (hb hby d4_151) rfl (tlt (by decide : (2 : Int32) < (3 : Int32))).2.1 ?_
    show Steps p.tables e below (T103.setTop (mkF m 154 #[.val (.ref a1), .val (.ref a2), .val (.int (0 : Int32)), .val (.int (3 : Int32)), .val (.ref a4), .val (.int (0 : Int32)), .val (.int (2 : Int32)), .val (.int (3 : Int32)), .val (.int (1 : Int32)), .val (.int cu)] [])) _
    refine XS.aloadN X103.here hx rfl (hb hby d4_154) rfl rfl ?_
    show Steps p.tables e below (T103.setTop (mkF m 155 #[.val (.ref a1), .val (.ref a2), .val (.int (0 : Int32)), .val (.int (3 : Int32)), .val (.ref a4), .val (.int (0 : Int32)), .val (.int (2 : Int32)), .val (.int (3 : Int32)), .val (.int (1 : Int32)), .val (.int cu)] [(.ref a1)])) _
    refine XS.aloadN X103.here hx rfl (hb hby d4_155) rfl rfl ?_
    show Steps p.tables e below (T103.setTop (mkF m 156 #[.val (.ref a1), .val (.ref a2), .val (.int (0 : Int32)), .val (.int (3 : Int32)), .val (.ref a4), .val (.int (0 : Int32)), .val (.int (2 : Int32)), .val (.int (3 : Int32)), .val (.int (1 : Int32)), .val (.int cu)] [(.ref a2), (.ref a1)])) _
    refine XS.iload X103.here hx rfl (hb hby d4_156) rfl ?_
    show Steps p.tables e below (T103.setTop (mkF m 158 #[.val (.ref a1), .val (.ref a2), .val (.int (0 : Int32)), .val (.int (3 : Int32)), .val (.ref a4), .val (.int (0 : Int32)), .val (.int (2 : Int32)), .val (.int (3 : Int32)), .val (.int (1 : Int32)), .val (.int cu)] [(.int (2 : Int32)), (.ref a2), (.ref a1)])) _
    refine own_ldB X103 hx hZ e103 f104 (j := (2 : Int32)) 2 (by decide) rfl (by decide) (v := (.int b2)) v2 (g := (mkF m 158 #[.val (.ref a1), .val (.ref a2), .val (.int (0 : Int32)), .val (.int (3 : Int32)), .val (.ref a4), .val (.int (0 : Int32)), .val (.int (2 : Int32)), .val (.int (3 : Int32)), .val (.int (1 : Int32)), .val (.int cu)] [(.int (2 : Int32)), (.ref a2), (.ref a1)])) rfl rfl (hb hby d4_158) _ ?_
    show Steps p.tables e below (T103.setTop (mkF m 159 #[.val (.ref a1), .val (.ref a2), .val (.int (0 : Int32)), .val (.int (3 : Int32)), .val (.ref a4), .val (.int (0 : Int32)), .val (.int (2 : Int32)), .val (.int (3 : Int32)), .val (.int (1 : Int32)), .val (.int cu)] [(.int b2), (.ref a1)])) _
    refine XS.sipush X103.here hx rfl (hb hby d4_159) ?_
    show Steps p.tables e below (T103.setTop (mkF m 162 #[.val (.ref a1), .val (.ref a2), .val (.int (0 : Int32)), .val (.int (3 : Int32)), .val (.ref a4), .val (.int (0 : Int32)), .val (.int (2 : Int32)), .val (.int (3 : Int32)), .val (.int (1 : Int32)), .val (.int cu)] [(.int (255 : Int32)), (.int b2), (.ref a1)])) _
    refine XS.iand X103.here hx rfl (hb hby d4_162) rfl ?_
    show Steps p.tables e below (T103.setTop (mkF m 163 #[.val (.ref a1), .val (.ref a2), .val (.int (0 : Int32)), .val (.int (3 : Int32)), .val (.ref a4), .val (.int (0 : Int32)), .val (.int (2 : Int32)), .val (.int (3 : Int32)), .val (.int (1 : Int32)), .val (.int cu)] [(.int (b2 &&& (255 : Int32))), (.ref a1)])) _
    refine st107 _ ?_
    show Steps p.tables e below (T107.setTop (mkF m 166 #[.val (.ref a1), .val (.ref a2), .val (.int (0 : Int32)), .val (.int (3 : Int32)), .val (.ref a4), .val (.int (0 : Int32)), .val (.int (2 : Int32)), .val (.int (3 : Int32)), .val (.int (1 : Int32)), .val (.int cu)] [])) _
    refine XS.iload X107.here hx rfl (hb hby d4_166) rfl ?_
    show Steps p.tables e below (T107.setTop (mkF m 168 #[.val (.ref a1), .val (.ref a2), .val (.int (0 : Int32)), .val (.int (3 : Int32)), .val (.ref a4), .val (.int (0 : Int32)), .val (.int (2 : Int32)), .val (.int (3 : Int32)), .val (.int (1 : Int32)), .val (.int cu)] [(.int (1 : Int32))])) _
    exact own_retI X107 hx Bd.returns (hb hby d4_168) hr
  · show QD Z a1 a4 M (own_upd f 0 (.int (own_out cu))) (1 : Int32) (0 : Int32) h0 n0 _ T107.heap _
    rw [e107]
    exact ⟨_, rfl, N107, KC107, f109, F107, f110, (f108.cast (fun i _ => by rw [← hch, own_lowB h1]))⟩
set_option maxRecDepth 65536 in
set_option maxHeartbeats 40000000 in
theorem rmDH3 (l : Launch) (Z : State) (a0 : Array Value) (hw : ∀ d ∈ tables_1, d.before a0 Z = true) (ws : List Jvm.Cond) (a1 : Addr) (a2 : Addr) (a4 : Addr) (M : Nat) (f : Nat → Value) (fb : Nat → Value) (cu : Int32) (b0 : Int32) (b1 : Int32) (b2 : Int32) (h0 : Heap) (n0 : Nat) (Z0 : n0 ≤ h0.size) (Ex : Exa Z h0 a1 "com/example/cellwright/cellwright/hive/Utf16Le$Decoder") (Fh : Fld Z h0 a1 "com/example/cellwright/cellwright/hive/Utf16Le$Decoder" "high" "C" (.int (0 : Int32))) (At : OwnA Z h0 a4 .char M f) (hM : 0 < M) (g_a1 : n0 ≤ a1) (g_a4 : n0 ≤ a4) (n41 : a4 ≠ a1) (hch : own_ch cu) (Fo : Fld Z h0 a1 "com/example/cellwright/cellwright/hive/Utf16Le$Decoder" "oddByte" "I" (.int (-1 : Int32))) (Ab : OwnA Z h0 a2 .byte 3 fb) (n21 : a2 ≠ a1) (n24 : a2 ≠ a4) (v0 : fb 0 = .int b0) (v1 : fb 1 = .int b1) (v2 : fb 2 = .int b2) (hc : (((b0 &&& (255 : Int32)) ||| ((b1 &&& (255 : Int32)) <<< ((8 : Int32) &&& 31))).toUInt32.toUInt16.toUInt32.toInt32) = cu) (h1 : ¬ cu < (55296 : Int32)) (h2 : ¬ (56319 : Int32) < cu) :
    MetFree l (⟨"com/example/cellwright/cellwright/hive/Utf16Le$Decoder", "decode", "([BII[CI)I"⟩ : MethodName) (head1 (Jvm.Cond.code (⟨"com/example/cellwright/cellwright/hive/Utf16Le$Decoder", "decode", "([BII[CI)I"⟩ : MethodName) prog_97_method_3_code 10 (some .int) :: ws) ({ frames := 2, cells := 0, slots := 0, locals := 31 } : Room)) (fun a U => a = #[(.ref a1), (.ref a2), (.int (0 : Int32)), (.int (3 : Int32)), (.ref a4), (.int (0 : Int32))] ∧ Z.Warmed39 U.vm ∧ U.heap = h0) (fun _ _ _ _ _ => True) (fun _ U o U' => ∃ v L, o = .returned v ∧ QD Z a1 a4 M f (0 : Int32) cu h0 n0 v U'.heap L ∧ FrameEnd U o U' L ({ frames := 2, cells := 0, slots := 0, locals := 31 } : Room).cells ({ frames := 2, cells := 0, slots := 0, locals := 31 } : Room).slots) := by
  refine MetFree.of_bodySF (plainFor_of_name own_pn2) hisR ?_
  intro p e s m args below meth c s₁ Bd hml0 hP hK
  obtain ⟨rfl, hZ, hh⟩ := hP
  have hx := Bd.exec
  have hby := Bd.bytes
  have hml : c.maxLocals = 10 := hml0
  have hown : s.vm.findClass "com/example/cellwright/cellwright/hive/Utf16Le$Decoder" = some m.cls := findClass_of_methodNamed Bd.named
  have hnm := (name_of_methodNamed Bd.named Bd.method).1
  have X0 : Stand p l e ({ frames := 2, cells := 0, slots := 0, locals := 31 } : Room) s m #[(.ref a1), (.ref a2), (.int (0 : Int32)), (.int (3 : Int32)), (.ref a4), (.int (0 : Int32))] below meth c s₁ [] 0 0 := Stand.of_body Bd
  have e0 : s₁.heap = h0 := by rw [← hh, Bd.state]; rfl
  have N0 := Fr.nil n0
  have ef : entryFrame m #[(.ref a1), (.ref a2), (.int (0 : Int32)), (.int (3 : Int32)), (.ref a4), (.int (0 : Int32))] 10 = mkF m 0 #[.val (.ref a1), .val (.ref a2), .val (.int (0 : Int32)), .val (.int (3 : Int32)), .val (.ref a4), .val (.int (0 : Int32)), .unset, .unset, .unset, .unset] [] := by first | (simp [entryFrame, mkF, argsToLocals, Value.category]; done) | rfl
  have pre0 : ∀ t, Steps p.tables e below (s₁.setTop (mkF m 0 #[.val (.ref a1), .val (.ref a2), .val (.int (0 : Int32)), .val (.int (3 : Int32)), .val (.ref a4), .val (.int (0 : Int32)), .unset, .unset, .unset, .unset] [])) t → Steps p.tables e below (s₁.setTop (entryFrame m #[(.ref a1), (.ref a2), (.int (0 : Int32)), (.int (3 : Int32)), (.ref a4), (.int (0 : Int32))] 10)) t := fun t k => castTop ef k
  obtain ⟨T101, X101, e101, st101⟩ := getF X0 hx hZ hown (host := "") (Or.inl (hw _ (List.mem_of_getElem? (i := 16) rfl))) Via.refl e0 Fo (g := (mkF m 13 #[.val (.ref a1), .val (.ref a2), .val (.int (0 : Int32)), .val (.int (3 : Int32)), .val (.ref a4), .val (.int (0 : Int32)), .val (.int (0 : Int32)), .val (.int (3 : Int32)), .val (.int (0 : Int32)), .unset] [(.ref a1)])) rfl rfl (hb hby d4_13)
  obtain ⟨T102, X102, e102, st102⟩ := getF X101 hx hZ hown (host := "") (Or.inl (hw _ (List.mem_of_getElem? (i := 23) rfl))) Via.refl e101 Fh (g := (mkF m 96 #[.val (.ref a1), .val (.ref a2), .val (.int (0 : Int32)), .val (.int (3 : Int32)), .val (.ref a4), .val (.int (0 : Int32)), .val (.int (0 : Int32)), .val (.int (3 : Int32)), .val (.int (0 : Int32)), .val (.int cu)] [(.ref a1)])) rfl rfl (hb hby d4_96)
  have hb106 : ¬ cu < (55296 : Int32) := by simp only [Int32.lt_iff_toInt_lt, own_l1, own_l2, own_l3, own_l4, own_l5] at *; omega
  have hb113 : ¬ (57343 : Int32) < cu := by simp only [Int32.lt_iff_toInt_lt, own_l1, own_l2, own_l3, own_l4, own_l5] at *; omega
  obtain ⟨cq103, q103, q103'⟩ := Ex.cell
  obtain ⟨_, _, ⟨T103, L103, k103, n103⟩, -, X103, ⟨Lc103, hQ103, l103, y103, z103⟩, st103⟩ := X102.privateBack hx (y := (⟨"com/example/cellwright/cellwright/hive/Utf16Le$Decoder", "unit", "(C[CI)I"⟩ : MethodName)) hown (mvT hZ (hw _ (List.mem_of_getElem? (i := 35) rfl))) (mvT hZ (hw _ (List.mem_of_getElem? (i := 36) rfl))) (own_selP (y' := (⟨"com/example/cellwright/cellwright/hive/Utf16Le$Decoder", "decode", "([BII[CI)I"⟩ : MethodName)) (mvT hZ (hw _ (List.mem_of_getElem? (i := 21) rfl))) rfl (Cond.privateMethod_at (mvP hZ (hw _ (List.mem_of_getElem? (i := 37) rfl)) (args := #[]))) (mvT hZ (hw _ (List.mem_of_getElem? (i := 36) rfl))) (by decide)) (Cond.privateMethod_at (mvP hZ (hw _ (List.mem_of_getElem? (i := 37) rfl)) (args := #[]))) (mvT hZ (hw _ (List.mem_of_getElem? (i := 38) rfl))) (by decide) (backOf (W := 0) (rmUH l Z a0 hw [] a1 cu a4 M f (-1 : Int32) h0 n0 Z0 Ex Fo Fh At hM g_a1 g_a4 n41 hch h1 h2) hZ (hw _ (List.mem_of_getElem? (i := 38) rfl)) (hw _ (List.mem_of_getElem? (i := 9) rfl)) (by decide) (by decide)) (g := (mkF m 136 #[.val (.ref a1), .val (.ref a2), .val (.int (0 : Int32)), .val (.int (3 : Int32)), .val (.ref a4), .val (.int (0 : Int32)), .val (.int (0 : Int32)), .val (.int (3 : Int32)), .val (.int (0 : Int32)), .val (.int cu)] [(.int (0 : Int32)), (.ref a4), (.int cu), (.ref a1)])) rfl (by rw [hml]; rfl) (Steps.refl _) (a := a1) (by rw [e102]; exact q103) q103' (argsL := [(.int cu), (.ref a4), (.int (0 : Int32))]) (rest := []) (lenOf own_pd1 rfl) rfl (by show 2 * 0 + _ ≤ _; exact Nat.le_of_eq rfl) (hb hby d4_136) (fun _ _ => ⟨rfl, e102, (by decide : 0 + 0 ≤ _), (by decide : 0 + 0 ≤ _)⟩)
  dsimp only [Pt.U, Pt.locs, Pt.cells, Pt.slots] at X103 l103 y103 z103 st103 hQ103
  subst l103 y103 z103
  obtain ⟨o103, rfl, Nq103, K103, Ex103, Fo103, Fh103, At103⟩ := hQ103
  have Z103 : n0 ≤ T103.heap.size := Nat.le_trans Z0 K103.1
  have KC103 : Keep h0 T103.heap [a1, a4] := (Keep.refl h0 [a1, a4]).trans K103 (allS (Or.inl (List.mem_of_getElem? (i := 0) rfl)) (allS (Or.inl (List.mem_of_getElem? (i := 1) rfl)) all0))
  have N103 := Fr.app N0 Nq103
  have f104 := (Ab.keep K103 (ninS n21 (ninS n24 nin0)))
  obtain ⟨T105, h105, X105, e105, W105, st105⟩ := putF X103 hx hZ hown (host := "") (Or.inl (hw _ (List.mem_of_getElem? (i := 16) rfl))) Via.refl rfl Fo103 Ex103 (Or.inl (hw _ (List.mem_of_getElem? (i := 17) rfl))) (hw _ (List.mem_of_getElem? (i := 8) rfl)) (ty := .int) (by decide) rfl rfl (g := (mkF m 163 #[.val (.ref a1), .val (.ref a2), .val (.int (0 : Int32)), .val (.int (3 : Int32)), .val (.ref a4), .val (.int (0 : Int32)), .val (.int (2 : Int32)), .val (.int (3 : Int32)), .val (.int (0 : Int32)), .val (.int cu)] [(.int (b2 &&& (255 : Int32))), (.ref a1)])) rfl rfl (hb hby d4_163)
  have F105 := Fo103.same W105
  have Z105 : n0 ≤ h105.size := Nat.le_trans Z103 (Nat.le_of_eq W105.size.symm)
  have KC105 : Keep h0 h105 [a1, a4] := KC103.wr W105 (Or.inl (List.mem_of_getElem? (i := 0) rfl))
  have N105 := Fr.snoc X105 N103 g_a1
  have f106 := (At103.other W105 n41)
  have f107 := (Ex103.wr W105)
  have f108 := (Fh103.other W105 (Or.inr (slot_ne (Or.inl (hw _ (List.mem_of_getElem? (i := 24) rfl))) (Or.inl (hw _ (List.mem_of_getElem? (i := 17) rfl))) (by decide) (t := .char) (t' := .int) (by decide) (by decide))))
  obtain ⟨fs, hr, hrun, hended, hW, hsame⟩ := X105.leave (v := some (.int (0 : Int32))) (fun h => by rw [Bd.returns] at h; cases h)
  refine ⟨_, _, pre0 _ ?_, hrun, hended, _, _, rfl, ?_, ⟨_, rfl⟩, hW, hsame.mono (by decide) (by decide)⟩
  · show Steps p.tables e below (s₁.setTop (mkF m 0 #[.val (.ref a1), .val (.ref a2), .val (.int (0 : Int32)), .val (.int (3 : Int32)), .val (.ref a4), .val (.int (0 : Int32)), .unset, .unset, .unset, .unset] [])) _
    refine XS.iloadN X0.here hx rfl (hb hby d4_0) rfl ?_
    show Steps p.tables e below (s₁.setTop (mkF m 1 #[.val (.ref a1), .val (.ref a2), .val (.int (0 : Int32)), .val (.int (3 : Int32)), .val (.ref a4), .val (.int (0 : Int32)), .unset, .unset, .unset, .unset] [(.int (0 : Int32))])) _
    refine XS.istore X0.here hx rfl (hb hby d4_1) rfl (l' := #[.val (.ref a1), .val (.ref a2), .val (.int (0 : Int32)), .val (.int (3 : Int32)), .val (.ref a4), .val (.int (0 : Int32)), .val (.int (0 : Int32)), .unset, .unset, .unset]) rfl ?_
    show Steps p.tables e below (s₁.setTop (mkF m 3 #[.val (.ref a1), .val (.ref a2), .val (.int (0 : Int32)), .val (.int (3 : Int32)), .val (.ref a4), .val (.int (0 : Int32)), .val (.int (0 : Int32)), .unset, .unset, .unset] [])) _
    refine XS.iloadN X0.here hx rfl (hb hby d4_3) rfl ?_
    show Steps p.tables e below (s₁.setTop (mkF m 4 #[.val (.ref a1), .val (.ref a2), .val (.int (0 : Int32)), .val (.int (3 : Int32)), .val (.ref a4), .val (.int (0 : Int32)), .val (.int (0 : Int32)), .unset, .unset, .unset] [(.int (0 : Int32))])) _
    refine XS.iloadN X0.here hx rfl (hb hby d4_4) rfl ?_
    show Steps p.tables e below (s₁.setTop (mkF m 5 #[.val (.ref a1), .val (.ref a2), .val (.int (0 : Int32)), .val (.int (3 : Int32)), .val (.ref a4), .val (.int (0 : Int32)), .val (.int (0 : Int32)), .unset, .unset, .unset] [(.int (3 : Int32)), (.int (0 : Int32))])) _
    refine XS.iadd X0.here hx rfl (hb hby d4_5) rfl ?_
    show Steps p.tables e below (s₁.setTop (mkF m 6 #[.val (.ref a1), .val (.ref a2), .val (.int (0 : Int32)), .val (.int (3 : Int32)), .val (.ref a4), .val (.int (0 : Int32)), .val (.int (0 : Int32)), .unset, .unset, .unset] [(.int (3 : Int32))])) _
    refine XS.istore X0.here hx rfl (hb hby d4_6) rfl (l' := #[.val (.ref a1), .val (.ref a2), .val (.int (0 : Int32)), .val (.int (3 : Int32)), .val (.ref a4), .val (.int (0 : Int32)), .val (.int (0 : Int32)), .val (.int (3 : Int32)), .unset, .unset]) rfl ?_
    show Steps p.tables e below (s₁.setTop (mkF m 8 #[.val (.ref a1), .val (.ref a2), .val (.int (0 : Int32)), .val (.int (3 : Int32)), .val (.ref a4), .val (.int (0 : Int32)), .val (.int (0 : Int32)), .val (.int (3 : Int32)), .unset, .unset] [])) _
    refine XS.iload X0.here hx rfl (hb hby d4_8) rfl ?_
    show Steps p.tables e below (s₁.setTop (mkF m 10 #[.val (.ref a1), .val (.ref a2), .val (.int (0 : Int32)), .val (.int (3 : Int32)), .val (.ref a4), .val (.int (0 : Int32)), .val (.int (0 : Int32)), .val (.int (3 : Int32)), .unset, .unset] [(.int (0 : Int32))])) _
    refine XS.istore X0.here hx rfl (hb hby d4_10) rfl (l' := #[.val (.ref a1), .val (.ref a2), .val (.int (0 : Int32)), .val (.int (3 : Int32)), .val (.ref a4), .val (.int (0 : Int32)), .val (.int (0 : Int32)), .val (.int (3 : Int32)), .val (.int (0 : Int32)), .unset]) rfl ?_
    show Steps p.tables e below (s₁.setTop (mkF m 12 #[.val (.ref a1), .val (.ref a2), .val (.int (0 : Int32)), .val (.int (3 : Int32)), .val (.ref a4), .val (.int (0 : Int32)), .val (.int (0 : Int32)), .val (.int (3 : Int32)), .val (.int (0 : Int32)), .unset] [])) _
    refine XS.aloadN X0.here hx rfl (hb hby d4_12) rfl rfl ?_
    show Steps p.tables e below (s₁.setTop (mkF m 13 #[.val (.ref a1), .val (.ref a2), .val (.int (0 : Int32)), .val (.int (3 : Int32)), .val (.ref a4), .val (.int (0 : Int32)), .val (.int (0 : Int32)), .val (.int (3 : Int32)), .val (.int (0 : Int32)), .unset] [(.ref a1)])) _
    refine st101 _ ?_
    show Steps p.tables e below (T101.setTop (mkF m 16 #[.val (.ref a1), .val (.ref a2), .val (.int (0 : Int32)), .val (.int (3 : Int32)), .val (.ref a4), .val (.int (0 : Int32)), .val (.int (0 : Int32)), .val (.int (3 : Int32)), .val (.int (0 : Int32)), .unset] [(.int (-1 : Int32))])) _
    refine XS.ifYes X101.here hx rfl (pc0 := 16) (pc' := 61) rfl (hb hby d4_16) rfl ((if0 _ _).trans (tlt (by decide : (-1 : Int32) < (0 : Int32))).1) (by decide) (by decide) ?_
    show Steps p.tables e below (T101.setTop (mkF m 61 #[.val (.ref a1), .val (.ref a2), .val (.int (0 : Int32)), .val (.int (3 : Int32)), .val (.ref a4), .val (.int (0 : Int32)), .val (.int (0 : Int32)), .val (.int (3 : Int32)), .val (.int (0 : Int32)), .unset] [])) _
    refine XS.iload X101.here hx rfl (hb hby d4_61) rfl ?_
    show Steps p.tables e below (T101.setTop (mkF m 63 #[.val (.ref a1), .val (.ref a2), .val (.int (0 : Int32)), .val (.int (3 : Int32)), .val (.ref a4), .val (.int (0 : Int32)), .val (.int (0 : Int32)), .val (.int (3 : Int32)), .val (.int (0 : Int32)), .unset] [(.int (0 : Int32))])) _
    refine XS.iconst X101.here hx rfl (hb hby d4_63) ?_
    show Steps p.tables e below (T101.setTop (mkF m 64 #[.val (.ref a1), .val (.ref a2), .val (.int (0 : Int32)), .val (.int (3 : Int32)), .val (.ref a4), .val (.int (0 : Int32)), .val (.int (0 : Int32)), .val (.int (3 : Int32)), .val (.int (0 : Int32)), .unset] [(.int (1 : Int32)), (.int (0 : Int32))])) _
    refine XS.iadd X101.here hx rfl (hb hby d4_64) rfl ?_
    show Steps p.tables e below (T101.setTop (mkF m 65 #[.val (.ref a1), .val (.ref a2), .val (.int (0 : Int32)), .val (.int (3 : Int32)), .val (.ref a4), .val (.int (0 : Int32)), .val (.int (0 : Int32)), .val (.int (3 : Int32)), .val (.int (0 : Int32)), .unset] [(.int (1 : Int32))])) _
    refine XS.iload X101.here hx rfl (hb hby d4_65) rfl ?_
    show Steps p.tables e below (T101.setTop (mkF m 67 #[.val (.ref a1), .val (.ref a2), .val (.int (0 : Int32)), .val (.int (3 : Int32)), .val (.ref a4), .val (.int (0 : Int32)), .val (.int (0 : Int32)), .val (.int (3 : Int32)), .val (.int (0 : Int32)), .unset] [(.int (3 : Int32)), (.int (1 : Int32))])) _
    refine XS.icmpNo X101.here hx rfl (hb hby d4_67) rfl (tlt (by decide : (1 : Int32) < (3 : Int32))).2.1 ?_
    show Steps p.tables e below (T101.setTop (mkF m 70 #[.val (.ref a1), .val (.ref a2), .val (.int (0 : Int32)), .val (.int (3 : Int32)), .val (.ref a4), .val (.int (0 : Int32)), .val (.int (0 : Int32)), .val (.int (3 : Int32)), .val (.int (0 : Int32)), .unset] [])) _
    refine XS.aloadN X101.here hx rfl (hb hby d4_70) rfl rfl ?_
    show Steps p.tables e below (T101.setTop (mkF m 71 #[.val (.ref a1), .val (.ref a2), .val (.int (0 : Int32)), .val (.int (3 : Int32)), .val (.ref a4), .val (.int (0 : Int32)), .val (.int (0 : Int32)), .val (.int (3 : Int32)), .val (.int (0 : Int32)), .unset] [(.ref a2)])) _
    refine XS.iload X101.here hx rfl (hb hby d4_71) rfl ?_
    show Steps p.tables e below (T101.setTop (mkF m 73 #[.val (.ref a1), .val (.ref a2), .val (.int (0 : Int32)), .val (.int (3 : Int32)), .val (.ref a4), .val (.int (0 : Int32)), .val (.int (0 : Int32)), .val (.int (3 : Int32)), .val (.int (0 : Int32)), .unset] [(.int (0 : Int32)), (.ref a2)])) _
    refine own_ldB X101 hx hZ e101 Ab (j := (0 : Int32)) 0 (by decide) rfl (by decide) (v := (.int b0)) v0 (g := (mkF m 73 #[.val (.ref a1), .val (.ref a2), .val (.int (0 : Int32)), .val (.int (3 : Int32)), .val (.ref a4), .val (.int (0 : Int32)), .val (.int (0 : Int32)), .val (.int (3 : Int32)), .val (.int (0 : Int32)), .unset] [(.int (0 : Int32)), (.ref a2)])) rfl rfl (hb hby d4_73) _ ?_
    show Steps p.tables e below (T101.setTop (mkF m 74 #[.val (.ref a1), .val (.ref a2), .val (.int (0 : Int32)), .val (.int (3 : Int32)), .val (.ref a4), .val (.int (0 : Int32)), .val (.int (0 : Int32)), .val (.int (3 : Int32)), .val (.int (0 : Int32)), .unset] [(.int b0)])) _
    refine XS.sipush X101.here hx rfl (hb hby d4_74) ?_
    show Steps p.tables e below (T101.setTop (mkF m 77 #[.val (.ref a1), .val (.ref a2), .val (.int (0 : Int32)), .val (.int (3 : Int32)), .val (.ref a4), .val (.int (0 : Int32)), .val (.int (0 : Int32)), .val (.int (3 : Int32)), .val (.int (0 : Int32)), .unset] [(.int (255 : Int32)), (.int b0)])) _
    refine XS.iand X101.here hx rfl (hb hby d4_77) rfl ?_
    show Steps p.tables e below (T101.setTop (mkF m 78 #[.val (.ref a1), .val (.ref a2), .val (.int (0 : Int32)), .val (.int (3 : Int32)), .val (.ref a4), .val (.int (0 : Int32)), .val (.int (0 : Int32)), .val (.int (3 : Int32)), .val (.int (0 : Int32)), .unset] [(.int (b0 &&& (255 : Int32)))])) _
    refine XS.aloadN X101.here hx rfl (hb hby d4_78) rfl rfl ?_
    show Steps p.tables e below (T101.setTop (mkF m 79 #[.val (.ref a1), .val (.ref a2), .val (.int (0 : Int32)), .val (.int (3 : Int32)), .val (.ref a4), .val (.int (0 : Int32)), .val (.int (0 : Int32)), .val (.int (3 : Int32)), .val (.int (0 : Int32)), .unset] [(.ref a2), (.int (b0 &&& (255 : Int32)))])) _
    refine XS.iload X101.here hx rfl (hb hby d4_79) rfl ?_
    show Steps p.tables e below (T101.setTop (mkF m 81 #[.val (.ref a1), .val (.ref a2), .val (.int (0 : Int32)), .val (.int (3 : Int32)), .val (.ref a4), .val (.int (0 : Int32)), .val (.int (0 : Int32)), .val (.int (3 : Int32)), .val (.int (0 : Int32)), .unset] [(.int (0 : Int32)), (.ref a2), (.int (b0 &&& (255 : Int32)))])) _
    refine XS.iconst X101.here hx rfl (hb hby d4_81) ?_
    show Steps p.tables e below (T101.setTop (mkF m 82 #[.val (.ref a1), .val (.ref a2), .val (.int (0 : Int32)), .val (.int (3 : Int32)), .val (.ref a4), .val (.int (0 : Int32)), .val (.int (0 : Int32)), .val (.int (3 : Int32)), .val (.int (0 : Int32)), .unset] [(.int (1 : Int32)), (.int (0 : Int32)), (.ref a2), (.int (b0 &&& (255 : Int32)))])) _
    refine XS.iadd X101.here hx rfl (hb hby d4_82) rfl ?_
    show Steps p.tables e below (T101.setTop (mkF m 83 #[.val (.ref a1), .val (.ref a2), .val (.int (0 : Int32)), .val (.int (3 : Int32)), .val (.ref a4), .val (.int (0 : Int32)), .val (.int (0 : Int32)), .val (.int (3 : Int32)), .val (.int (0 : Int32)), .unset] [(.int (1 : Int32)), (.ref a2), (.int (b0 &&& (255 : Int32)))])) _
    refine own_ldB X101 hx hZ e101 Ab (j := (1 : Int32)) 1 (by decide) rfl (by decide) (v := (.int b1)) v1 (g := (mkF m 83 #[.val (.ref a1), .val (.ref a2), .val (.int (0 : Int32)), .val (.int (3 : Int32)), .val (.ref a4), .val (.int (0 : Int32)), .val (.int (0 : Int32)), .val (.int (3 : Int32)), .val (.int (0 : Int32)), .unset] [(.int (1 : Int32)), (.ref a2), (.int (b0 &&& (255 : Int32)))])) rfl rfl (hb hby d4_83) _ ?_
    show Steps p.tables e below (T101.setTop (mkF m 84 #[.val (.ref a1), .val (.ref a2), .val (.int (0 : Int32)), .val (.int (3 : Int32)), .val (.ref a4), .val (.int (0 : Int32)), .val (.int (0 : Int32)), .val (.int (3 : Int32)), .val (.int (0 : Int32)), .unset] [(.int b1), (.int (b0 &&& (255 : Int32)))])) _
    refine XS.sipush X101.here hx rfl (hb hby d4_84) ?_
    show Steps p.tables e below (T101.setTop (mkF m 87 #[.val (.ref a1), .val (.ref a2), .val (.int (0 : Int32)), .val (.int (3 : Int32)), .val (.ref a4), .val (.int (0 : Int32)), .val (.int (0 : Int32)), .val (.int (3 : Int32)), .val (.int (0 : Int32)), .unset] [(.int (255 : Int32)), (.int b1), (.int (b0 &&& (255 : Int32)))])) _
    refine XS.iand X101.here hx rfl (hb hby d4_87) rfl ?_
    show Steps p.tables e below (T101.setTop (mkF m 88 #[.val (.ref a1), .val (.ref a2), .val (.int (0 : Int32)), .val (.int (3 : Int32)), .val (.ref a4), .val (.int (0 : Int32)), .val (.int (0 : Int32)), .val (.int (3 : Int32)), .val (.int (0 : Int32)), .unset] [(.int (b1 &&& (255 : Int32))), (.int (b0 &&& (255 : Int32)))])) _
    refine XS.bipush X101.here hx rfl (hb hby d4_88) ?_
    show Steps p.tables e below (T101.setTop (mkF m 90 #[.val (.ref a1), .val (.ref a2), .val (.int (0 : Int32)), .val (.int (3 : Int32)), .val (.ref a4), .val (.int (0 : Int32)), .val (.int (0 : Int32)), .val (.int (3 : Int32)), .val (.int (0 : Int32)), .unset] [(.int (8 : Int32)), (.int (b1 &&& (255 : Int32))), (.int (b0 &&& (255 : Int32)))])) _
    refine XS.ishl X101.here hx rfl (hb hby d4_90) rfl ?_
    show Steps p.tables e below (T101.setTop (mkF m 91 #[.val (.ref a1), .val (.ref a2), .val (.int (0 : Int32)), .val (.int (3 : Int32)), .val (.ref a4), .val (.int (0 : Int32)), .val (.int (0 : Int32)), .val (.int (3 : Int32)), .val (.int (0 : Int32)), .unset] [(.int ((b1 &&& (255 : Int32)) <<< ((8 : Int32) &&& 31))), (.int (b0 &&& (255 : Int32)))])) _
    refine XS.ior X101.here hx rfl (hb hby d4_91) rfl ?_
    show Steps p.tables e below (T101.setTop (mkF m 92 #[.val (.ref a1), .val (.ref a2), .val (.int (0 : Int32)), .val (.int (3 : Int32)), .val (.ref a4), .val (.int (0 : Int32)), .val (.int (0 : Int32)), .val (.int (3 : Int32)), .val (.int (0 : Int32)), .unset] [(.int ((b0 &&& (255 : Int32)) ||| ((b1 &&& (255 : Int32)) <<< ((8 : Int32) &&& 31))))])) _
    refine XS.i2c X101.here hx rfl (hb hby d4_92) rfl ?_
    show Steps p.tables e below (T101.setTop (mkF m 93 #[.val (.ref a1), .val (.ref a2), .val (.int (0 : Int32)), .val (.int (3 : Int32)), .val (.ref a4), .val (.int (0 : Int32)), .val (.int (0 : Int32)), .val (.int (3 : Int32)), .val (.int (0 : Int32)), .unset] [(.int (((b0 &&& (255 : Int32)) ||| ((b1 &&& (255 : Int32)) <<< ((8 : Int32) &&& 31))).toUInt32.toUInt16.toUInt32.toInt32))])) _
    rw [hc]
    show Steps p.tables e below (T101.setTop (mkF m 93 #[.val (.ref a1), .val (.ref a2), .val (.int (0 : Int32)), .val (.int (3 : Int32)), .val (.ref a4), .val (.int (0 : Int32)), .val (.int (0 : Int32)), .val (.int (3 : Int32)), .val (.int (0 : Int32)), .unset] [(.int cu)])) _
    refine XS.istore X101.here hx rfl (hb hby d4_93) rfl (l' := #[.val (.ref a1), .val (.ref a2), .val (.int (0 : Int32)), .val (.int (3 : Int32)), .val (.ref a4), .val (.int (0 : Int32)), .val (.int (0 : Int32)), .val (.int (3 : Int32)), .val (.int (0 : Int32)), .val (.int cu)]) rfl ?_
    show Steps p.tables e below (T101.setTop (mkF m 95 #[.val (.ref a1), .val (.ref a2), .val (.int (0 : Int32)), .val (.int (3 : Int32)), .val (.ref a4), .val (.int (0 : Int32)), .val (.int (0 : Int32)), .val (.int (3 : Int32)), .val (.int (0 : Int32)), .val (.int cu)] [])) _
    refine XS.aloadN X101.here hx rfl (hb hby d4_95) rfl rfl ?_
    show Steps p.tables e below (T101.setTop (mkF m 96 #[.val (.ref a1), .val (.ref a2), .val (.int (0 : Int32)), .val (.int (3 : Int32)), .val (.ref a4), .val (.int (0 : Int32)), .val (.int (0 : Int32)), .val (.int (3 : Int32)), .val (.int (0 : Int32)), .val (.int cu)] [(.ref a1)])) _
    refine st102 _ ?_
    show Steps p.tables e below (T102.setTop (mkF m 99 #[.val (.ref a1), .val (.ref a2), .val (.int (0 : Int32)), .val (.int (3 : Int32)), .val (.ref a4), .val (.int (0 : Int32)), .val (.int (0 : Int32)), .val (.int (3 : Int32)), .val (.int (0 : Int32)), .val (.int cu)] [(.int (0 : Int32))])) _
    refine XS.ifNo X102.here hx rfl (hb hby d4_99) rfl ((if0 _ _).trans (teq rfl).2) ?_
    show Steps p.tables e below (T102.setTop (mkF m 102 #[.val (.ref a1), .val (.ref a2), .val (.int (0 : Int32)), .val (.int (3 : Int32)), .val (.ref a4), .val (.int (0 : Int32)), .val (.int (0 : Int32)), .val (.int (3 : Int32)), .val (.int (0 : Int32)), .val (.int cu)] [])) _
    refine XS.iload X102.here hx rfl (hb hby d4_102) rfl ?_
    show Steps p.tables e below (T102.setTop (mkF m 104 #[.val (.ref a1), .val (.ref a2), .val (.int (0 : Int32)), .val (.int (3 : Int32)), .val (.ref a4), .val (.int (0 : Int32)), .val (.int (0 : Int32)), .val (.int (3 : Int32)), .val (.int (0 : Int32)), .val (.int cu)] [(.int cu)])) _
    refine X102.ldcInt hx hown (mvT hZ (hw _ (List.mem_of_getElem? (i := 25) rfl))) (g := (mkF m 104 #[.val (.ref a1), .val (.ref a2), .val (.int (0 : Int32)), .val (.int (3 : Int32)), .val (.ref a4), .val (.int (0 : Int32)), .val (.int (0 : Int32)), .val (.int (3 : Int32)), .val (.int (0 : Int32)), .val (.int cu)] [(.int cu)])) rfl (hb hby d4_104) _ ?_
    show Steps p.tables e below (T102.setTop (mkF m 106 #[.val (.ref a1), .val (.ref a2), .val (.int (0 : Int32)), .val (.int (3 : Int32)), .val (.ref a4), .val (.int (0 : Int32)), .val (.int (0 : Int32)), .val (.int (3 : Int32)), .val (.int (0 : Int32)), .val (.int cu)] [(.int (55296 : Int32)), (.int cu)])) _
    refine XS.icmpNo X102.here hx rfl (hb hby d4_106) rfl (flt hb106).1 ?_
    show Steps p.tables e below (T102.setTop (mkF m 109 #[.val (.ref a1), .val (.ref a2), .val (.int (0 : Int32)), .val (.int (3 : Int32)), .val (.ref a4), .val (.int (0 : Int32)), .val (.int (0 : Int32)), .val (.int (3 : Int32)), .val (.int (0 : Int32)), .val (.int cu)] [])) _
    refine XS.iload X102.here hx rfl (hb hby d4_109) rfl ?_
    show Steps p.tables e below (T102.setTop (mkF m 111 #[.val (.ref a1), .val (.ref a2), .val (.int (0 : Int32)), .val (.int (3 : Int32)), .val (.ref a4), .val (.int (0 : Int32)), .val (.int (0 : Int32)), .val (.int (3 : Int32)), .val (.int (0 : Int32)), .val (.int cu)] [(.int cu)])) _
    refine X102.ldcInt hx hown (mvT hZ (hw _ (List.mem_of_getElem? (i := 34) rfl))) (g := (mkF m 111 #[.val (.ref a1), .val (.ref a2), .val (.int (0 : Int32)), .val (.int (3 : Int32)), .val (.ref a4), .val (.int (0 : Int32)), .val (.int (0 : Int32)), .val (.int (3 : Int32)), .val (.int (0 : Int32)), .val (.int cu)] [(.int cu)])) rfl (hb hby d4_111) _ ?_
    show Steps p.tables e below (T102.setTop (mkF m 113 #[.val (.ref a1), .val (.ref a2), .val (.int (0 : Int32)), .val (.int (3 : Int32)), .val (.ref a4), .val (.int (0 : Int32)), .val (.int (0 : Int32)), .val (.int (3 : Int32)), .val (.int (0 : Int32)), .val (.int cu)] [(.int (57343 : Int32)), (.int cu)])) _
    refine XS.icmpYes X102.here hx rfl (pc0 := 113) (pc' := 129) rfl (hb hby d4_113) rfl (flt hb113).2.2.2 (by decide) (by decide) ?_
    show Steps p.tables e below (T102.setTop (mkF m 129 #[.val (.ref a1), .val (.ref a2), .val (.int (0 : Int32)), .val (.int (3 : Int32)), .val (.ref a4), .val (.int (0 : Int32)), .val (.int (0 : Int32)), .val (.int (3 : Int32)), .val (.int (0 : Int32)), .val (.int cu)] [])) _
    refine XS.aloadN X102.here hx rfl (hb hby d4_129) rfl rfl ?_
    show Steps p.tables e below (T102.setTop (mkF m 130 #[.val (.ref a1), .val (.ref a2), .val (.int (0 : Int32)), .val (.int (3 : Int32)), .val (.ref a4), .val (.int (0 : Int32)), .val (.int (0 : Int32)), .val (.int (3 : Int32)), .val (.int (0 : Int32)), .val (.int cu)] [(.ref a1)])) _
    refine XS.iload X102.here hx rfl (hb hby d4_130) rfl ?_
    show Steps p.tables e below (T102.setTop (mkF m 132 #[.val (.ref a1), .val (.ref a2), .val (.int (0 : Int32)), .val (.int (3 : Int32)), .val (.ref a4), .val (.int (0 : Int32)), .val (.int (0 : Int32)), .val (.int (3 : Int32)), .val (.int (0 : Int32)), .val (.int cu)] [(.int cu), (.ref a1)])) _
    refine XS.aload X102.here hx rfl (hb hby d4_132) rfl rfl ?_
    show Steps p.tables e below (T102.setTop (mkF m 134 #[.val (.ref a1), .val (.ref a2), .val (.int (0 : Int32)), .val (.int (3 : Int32)), .val (.ref a4), .val (.int (0 : Int32)), .val (.int (0 : Int32)), .val (.int (3 : Int32)), .val (.int (0 : Int32)), .val (.int cu)] [(.ref a4), (.int cu), (.ref a1)])) _
    refine XS.iload X102.here hx rfl (hb hby d4_134) rfl ?_
    show Steps p.tables e below (T102.setTop (mkF m 136 #[.val (.ref a1), .val (.ref a2), .val (.int (0 : Int32)), .val (.int (3 : Int32)), .val (.ref a4), .val (.int (0 : Int32)), .val (.int (0 : Int32)), .val (.int (3 : Int32)), .val (.int (0 : Int32)), .val (.int cu)] [(.int (0 : Int32)), (.ref a4), (.int cu), (.ref a1)])) _
    refine st103.trans ?_
    show Steps p.tables e below (T103.setTop (mkF m 139 #[.val (.ref a1), .val (.ref a2), .val (.int (0 : Int32)), .val (.int (3 : Int32)), .val (.ref a4), .val (.int (0 : Int32)), .val (.int (0 : Int32)), .val (.int (3 : Int32)), .val (.int (0 : Int32)), .val (.int cu)] [(.int (0 : Int32))])) _
    refine XS.istore X103.here hx rfl (hb hby d4_139) rfl (l' := #[.val (.ref a1), .val (.ref a2), .val (.int (0 : Int32)), .val (.int (3 : Int32)), .val (.ref a4), .val (.int (0 : Int32)), .val (.int (0 : Int32)), .val (.int (3 : Int32)), .val (.int (0 : Int32)), .val (.int cu)]) rfl ?_
    show Steps p.tables e below (T103.setTop (mkF m 141 #[.val (.ref a1), .val (.ref a2), .val (.int (0 : Int32)), .val (.int (3 : Int32)), .val (.ref a4), .val (.int (0 : Int32)), .val (.int (0 : Int32)), .val (.int (3 : Int32)), .val (.int (0 : Int32)), .val (.int cu)] [])) _
    refine XS.iinc X103.here hx rfl (hb hby d4_141) rfl (l' := #[.val (.ref a1), .val (.ref a2), .val (.int (0 : Int32)), .val (.int (3 : Int32)), .val (.ref a4), .val (.int (0 : Int32)), .val (.int (2 : Int32)), .val (.int (3 : Int32)), .val (.int (0 : Int32)), .val (.int cu)]) rfl ?_
    show Steps p.tables e below (T103.setTop (mkF m 144 #[.val (.ref a1), .val (.ref a2), .val (.int (0 : Int32)), .val (.int (3 : Int32)), .val (.ref a4), .val (.int (0 : Int32)), .val (.int (2 : Int32)), .val (.int (3 : Int32)), .val (.int (0 : Int32)), .val (.int cu)] [])) _
    refine XS.goto X103.here hx rfl (pc0 := 144) (pc' := 61) rfl (hb hby d4_144) (by decide) (by decide) ?_
    show Steps p.tables e below (T103.setTop (mkF m 61 #[.val (.ref a1), .val (.ref a2), .val (.int (0 : Int32)), .val (.int (3 : Int32)), .val (.ref a4), .val (.int (0 : Int32)), .val (.int (2 : Int32)), .val (.int (3 : Int32)), .val (.int (0 : Int32)), .val (.int cu)] [])) _
    refine XS.iload X103.here hx rfl (hb hby d4_61) rfl ?_
    show Steps p.tables e below (T103.setTop (mkF m 63 #[.val (.ref a1), .val (.ref a2), .val (.int (0 : Int32)), .val (.int (3 : Int32)), .val (.ref a4), .val (.int (0 : Int32)), .val (.int (2 : Int32)), .val (.int (3 : Int32)), .val (.int (0 : Int32)), .val (.int cu)] [(.int (2 : Int32))])) _
    refine XS.iconst X103.here hx rfl (hb hby d4_63) ?_
    show Steps p.tables e below (T103.setTop (mkF m 64 #[.val (.ref a1), .val (.ref a2), .val (.int (0 : Int32)), .val (.int (3 : Int32)), .val (.ref a4), .val (.int (0 : Int32)), .val (.int (2 : Int32)), .val (.int (3 : Int32)), .val (.int (0 : Int32)), .val (.int cu)] [(.int (1 : Int32)), (.int (2 : Int32))])) _
    refine XS.iadd X103.here hx rfl (hb hby d4_64) rfl ?_
    show Steps p.tables e below (T103.setTop (mkF m 65 #[.val (.ref a1), .val (.ref a2), .val (.int (0 : Int32)), .val (.int (3 : Int32)), .val (.ref a4), .val (.int (0 : Int32)), .val (.int (2 : Int32)), .val (.int (3 : Int32)), .val (.int (0 : Int32)), .val (.int cu)] [(.int (3 : Int32))])) _
    refine XS.iload X103.here hx rfl (hb hby d4_65) rfl ?_
    show Steps p.tables e below (T103.setTop (mkF m 67 #[.val (.ref a1), .val (.ref a2), .val (.int (0 : Int32)), .val (.int (3 : Int32)), .val (.ref a4), .val (.int (0 : Int32)), .val (.int (2 : Int32)), .val (.int (3 : Int32)), .val (.int (0 : Int32)), .val (.int cu)] [(.int (3 : Int32)), (.int (3 : Int32))])) _
    refine XS.icmpYes X103.here hx rfl (pc0 := 67) (pc' := 147) rfl (hb hby d4_67) rfl (flt (by decide : ¬ (3 : Int32) < (3 : Int32))).2.1 (by decide) (by decide) ?_
    show Steps p.tables e below (T103.setTop (mkF m 147 #[.val (.ref a1), .val (.ref a2), .val (.int (0 : Int32)), .val (.int (3 : Int32)), .val (.ref a4), .val (.int (0 : Int32)), .val (.int (2 : Int32)), .val (.int (3 : Int32)), .val (.int (0 : Int32)), .val (.int cu)] [])) _
    refine XS.iload X103.here hx rfl (hb hby d4_147) rfl ?_
    show Steps p.tables e below (T103.setTop (mkF m 149 #[.val (.ref a1), .val (.ref a2), .val (.int (0 : Int32)), .val (.int (3 : Int32)), .val (.ref a4), .val (.int (0 : Int32)), .val (.int (2 : Int32)), .val (.int (3 : Int32)), .val (.int (0 : Int32)), .val (.int cu)] [(.int (2 : Int32))])) _
    refine XS.iload X103.here hx rfl (hb hby d4_149) rfl ?_
    show Steps p.tables e below (T103.setTop (mkF m 151 #[.val (.ref a1), .val (.ref a2), .val (.int (0 : Int32)), .val (.int (3 : Int32)), .val (.ref a4), .val (.int (0 : Int32)), .val (.int (2 : Int32)), .val (.int (3 : Int32)), .val (.int (0 : Int32)), .val (.int cu)] [(.int (3 : Int32)), (.int (2 : Int32))])) _
    refine XS.icmpNo X103.here hx rfl (hb hby d4_151) rfl (tlt (by decide : (2 : Int32) < (3 : Int32))).2.1 ?_
    show Steps p.tables e below (T103.setTop (mkF m 154 #[.val (.ref a1), .val (.ref a2), .val (.int (0 : Int32)), .val (.int (3 : Int32)), .val (.ref a4), .val (.int (0 : Int32)), .val (.int (2 : Int32)), .val (.int (3 : Int32)), .val (.int (0 : Int32)), .val (.int cu)] [])) _
    refine XS.aloadN X103.here hx rfl (hb hby d4_154) rfl rfl ?_
    show Steps p.tables e below (T103.setTop (mkF m 155 #[.val (.ref a1), .val (.ref a2), .val (.int (0 : Int32)), .val (.int (3 : Int32)), .val (.ref a4), .val (.int (0 : Int32)), .val (.int (2 : Int32)), .val (.int (3 : Int32)), .val (.int (0 : Int32)), .val (.int cu)] [(.ref a1)])) _
    refine XS.aloadN X103.here hx rfl (hb hby d4_155) rfl rfl ?_
    show Steps p.tables e below (T103.setTop (mkF m 156 #[.val (.ref a1), .val (.ref a2), .val (.int (0 : Int32)), .val (.int (3 : Int32)), .val (.ref a4), .val (.int (0 : Int32)), .val (.int (2 : Int32)), .val (.int (3 : Int32)), .val (.int (0 : Int32)), .val (.int cu)] [(.ref a2), (.ref a1)])) _
    refine XS.iload X103.here hx rfl (hb hby d4_156) rfl ?_
    show Steps p.tables e below (T103.setTop (mkF m 158 #[.val (.ref a1), .val (.ref a2), .val (.int (0 : Int32)), .val (.int (3 : Int32)), .val (.ref a4), .val (.int (0 : Int32)), .val (.int (2 : Int32)), .val (.int (3 : Int32)), .val (.int (0 : Int32)), .val (.int cu)] [(.int (2 : Int32)), (.ref a2), (.ref a1)])) _
    refine own_ldB X103 hx hZ rfl f104 (j := (2 : Int32)) 2 (by decide) rfl (by decide) (v := (.int b2)) v2 (g := (mkF m 158 #[.val (.ref a1), .val (.ref a2), .val (.int (0 : Int32)), .val (.int (3 : Int32)), .val (.ref a4), .val (.int (0 : Int32)), .val (.int (2 : Int32)), .val (.int (3 : Int32)), .val (.int (0 : Int32)), .val (.int cu)] [(.int (2 : Int32)), (.ref a2), (.ref a1)])) rfl rfl (hb hby d4_158) _ ?_
    show Steps p.tables e below (T103.setTop (mkF m 159 #[.val (.ref a1), .val (.ref a2), .val (.int (0 : Int32)), .val (.int (3 : Int32)), .val (.ref a4), .val (.int (0 : Int32)), .val (.int (2 : Int32)), .val (.int (3 : Int32)), .val (.int (0 : Int32)), .val (.int cu)] [(.int b2), (.ref a1)])) _
    refine XS.sipush X103.here hx rfl (hb hby d4_159) ?_
    show Steps p.tables e below (T103.setTop (mkF m 162 #[.val (.ref a1), .val (.ref a2), .val (.int (0 : Int32)), .val (.int (3 : Int32)), .val (.ref a4), .val (.int (0 : Int32)), .val (.int (2 : Int32)), .val (.int (3 : Int32)), .val (.int (0 : Int32)), .val (.int cu)] [(.int (255 : Int32)), (.int b2), (.ref a1)])) _
    refine XS.iand X103.here hx rfl (hb hby d4_162) rfl ?_
    show Steps p.tables e below (T103.setTop (mkF m 163 #[.val (.ref a1), .val (.ref a2), .val (.int (0 : Int32)), .val (.int (3 : Int32)), .val (.ref a4), .val (.int (0 : Int32)), .val (.int (2 : Int32)), .val (.int (3 : Int32)), .val (.int (0 : Int32)), .val (.int cu)] [(.int (b2 &&& (255 : Int32))), (.ref a1)])) _
    refine st105 _ ?_
    show Steps p.tables e below (T105.setTop (mkF m 166 #[.val (.ref a1), .val (.ref a2), .val (.int (0 : Int32)), .val (.int (3 : Int32)), .val (.ref a4), .val (.int (0 : Int32)), .val (.int (2 : Int32)), .val (.int (3 : Int32)), .val (.int (0 : Int32)), .val (.int cu)] [])) _
    refine XS.iload X105.here hx rfl (hb hby d4_166) rfl ?_
    show Steps p.tables e below (T105.setTop (mkF m 168 #[.val (.ref a1), .val (.ref a2), .val (.int (0 : Int32)), .val (.int (3 : Int32)), .val (.ref a4), .val (.int (0 : Int32)), .val (.int (2 : Int32)), .val (.int (3 : Int32)), .val (.int (0 : Int32)), .val (.int cu)] [(.int (0 : Int32))])) _
    exact own_retI X105 hx Bd.returns (hb hby d4_168) hr
  · show QD Z a1 a4 M f (0 : Int32) cu h0 n0 _ T105.heap _
    rw [e105]
    exact ⟨_, rfl, N105, KC105, f107, F105, f108, f106⟩
set_option maxRecDepth 65536 in
set_option maxHeartbeats 40000000 in
theorem rmDL3 (l : Launch) (Z : State) (a0 : Array Value) (hw : ∀ d ∈ tables_1, d.before a0 Z = true) (ws : List Jvm.Cond) (a1 : Addr) (a2 : Addr) (a4 : Addr) (M : Nat) (f : Nat → Value) (fb : Nat → Value) (cu : Int32) (b0 : Int32) (b1 : Int32) (b2 : Int32) (h0 : Heap) (n0 : Nat) (Z0 : n0 ≤ h0.size) (Ex : Exa Z h0 a1 "com/example/cellwright/cellwright/hive/Utf16Le$Decoder") (Fh : Fld Z h0 a1 "com/example/cellwright/cellwright/hive/Utf16Le$Decoder" "high" "C" (.int (0 : Int32))) (At : OwnA Z h0 a4 .char M f) (hM : 0 < M) (g_a1 : n0 ≤ a1) (g_a4 : n0 ≤ a4) (n41 : a4 ≠ a1) (hch : own_ch cu) (Fo : Fld Z h0 a1 "com/example/cellwright/cellwright/hive/Utf16Le$Decoder" "oddByte" "I" (.int (-1 : Int32))) (Ab : OwnA Z h0 a2 .byte 3 fb) (n21 : a2 ≠ a1) (n24 : a2 ≠ a4) (v0 : fb 0 = .int b0) (v1 : fb 1 = .int b1) (v2 : fb 2 = .int b2) (hc : (((b0 &&& (255 : Int32)) ||| ((b1 &&& (255 : Int32)) <<< ((8 : Int32) &&& 31))).toUInt32.toUInt16.toUInt32.toInt32) = cu) (h1 : ¬ cu < (56320 : Int32)) (h2 : ¬ (57343 : Int32) < cu) :
    MetFree l (⟨"com/example/cellwright/cellwright/hive/Utf16Le$Decoder", "decode", "([BII[CI)I"⟩ : MethodName) (head1 (Jvm.Cond.code (⟨"com/example/cellwright/cellwright/hive/Utf16Le$Decoder", "decode", "([BII[CI)I"⟩ : MethodName) prog_97_method_3_code 10 (some .int) :: ws) ({ frames := 2, cells := 0, slots := 0, locals := 31 } : Room)) (fun a U => a = #[(.ref a1), (.ref a2), (.int (0 : Int32)), (.int (3 : Int32)), (.ref a4), (.int (0 : Int32))] ∧ Z.Warmed39 U.vm ∧ U.heap = h0) (fun _ _ _ _ _ => True) (fun _ U o U' => ∃ v L, o = .returned v ∧ QD Z a1 a4 M (own_upd f 0 (.int (own_out cu))) (1 : Int32) (0 : Int32) h0 n0 v U'.heap L ∧ FrameEnd U o U' L ({ frames := 2, cells := 0, slots := 0, locals := 31 } : Room).cells ({ frames := 2, cells := 0, slots := 0, locals := 31 } : Room).slots) := by
  refine MetFree.of_bodySF (plainFor_of_name own_pn2) hisR ?_
  intro p e s m args below meth c s₁ Bd hml0 hP hK
  obtain ⟨rfl, hZ, hh⟩ := hP
  have hx := Bd.exec
  have hby := Bd.bytes
  have hml : c.maxLocals = 10 := hml0
  have hown : s.vm.findClass "com/example/cellwright/cellwright/hive/Utf16Le$Decoder" = some m.cls := findClass_of_methodNamed Bd.named
  have hnm := (name_of_methodNamed Bd.named Bd.method).1
  have X0 : Stand p l e ({ frames := 2, cells := 0, slots := 0, locals := 31 } : Room) s m #[(.ref a1), (.ref a2), (.int (0 : Int32)), (.int (3 : Int32)), (.ref a4), (.int (0 : Int32))] below meth c s₁ [] 0 0 := Stand.of_body Bd
  have e0 : s₁.heap = h0 := by rw [← hh, Bd.state]; rfl
  have N0 := Fr.nil n0
  have ef : entryFrame m #[(.ref a1), (.ref a2), (.int (0 : Int32)), (.int (3 : Int32)), (.ref a4), (.int (0 : Int32))] 10 = mkF m 0 #[.val (.ref a1), .val (.ref a2), .val (.int (0 : Int32)), .val (.int (3 : Int32)), .val (.ref a4), .val (.int (0 : Int32)), .unset, .unset, .unset, .unset] [] := by first | (simp [entryFrame, mkF, argsToLocals, Value.category]; done) | rfl
  have pre0 : ∀ t, Steps p.tables e below (s₁.setTop (mkF m 0 #[.val (.ref a1), .val (.ref a2), .val (.int (0 : Int32)), .val (.int (3 : Int32)), .val (.ref a4), .val (.int (0 : Int32)), .unset, .unset, .unset, .unset] [])) t → Steps p.tables e below (s₁.setTop (entryFrame m #[(.ref a1), (.ref a2), (.int (0 : Int32)), (.int (3 : Int32)), (.ref a4), (.int (0 : Int32))] 10)) t := fun t k => castTop ef k
  obtain ⟨T101, X101, e101, st101⟩ := getF X0 hx hZ hown (host := "") (Or.inl (hw _ (List.mem_of_getElem? (i := 16) rfl))) Via.refl e0 Fo (g := (mkF m 13 #[.val (.ref a1), .val (.ref a2), .val (.int (0 : Int32)), .val (.int (3 : Int32)), .val (.ref a4), .val (.int (0 : Int32)), .val (.int (0 : Int32)), .val (.int (3 : Int32)), .val (.int (0 : Int32)), .unset] [(.ref a1)])) rfl rfl (hb hby d4_13)
  obtain ⟨T102, X102, e102, st102⟩ := getF X101 hx hZ hown (host := "") (Or.inl (hw _ (List.mem_of_getElem? (i := 23) rfl))) Via.refl e101 Fh (g := (mkF m 96 #[.val (.ref a1), .val (.ref a2), .val (.int (0 : Int32)), .val (.int (3 : Int32)), .val (.ref a4), .val (.int (0 : Int32)), .val (.int (0 : Int32)), .val (.int (3 : Int32)), .val (.int (0 : Int32)), .val (.int cu)] [(.ref a1)])) rfl rfl (hb hby d4_96)
  have hb106 : ¬ cu < (55296 : Int32) := by simp only [Int32.lt_iff_toInt_lt, own_l1, own_l2, own_l3, own_l4, own_l5] at *; omega
  have hb113 : ¬ (57343 : Int32) < cu := by simp only [Int32.lt_iff_toInt_lt, own_l1, own_l2, own_l3, own_l4, own_l5] at *; omega
  obtain ⟨cq103, q103, q103'⟩ := Ex.cell
  obtain ⟨_, _, ⟨T103, L103, k103, n103⟩, -, X103, ⟨Lc103, hQ103, l103, y103, z103⟩, st103⟩ := X102.privateBack hx (y := (⟨"com/example/cellwright/cellwright/hive/Utf16Le$Decoder", "unit", "(C[CI)I"⟩ : MethodName)) hown (mvT hZ (hw _ (List.mem_of_getElem? (i := 35) rfl))) (mvT hZ (hw _ (List.mem_of_getElem? (i := 36) rfl))) (own_selP (y' := (⟨"com/example/cellwright/cellwright/hive/Utf16Le$Decoder", "decode", "([BII[CI)I"⟩ : MethodName)) (mvT hZ (hw _ (List.mem_of_getElem? (i := 21) rfl))) rfl (Cond.privateMethod_at (mvP hZ (hw _ (List.mem_of_getElem? (i := 37) rfl)) (args := #[]))) (mvT hZ (hw _ (List.mem_of_getElem? (i := 36) rfl))) (by decide)) (Cond.privateMethod_at (mvP hZ (hw _ (List.mem_of_getElem? (i := 37) rfl)) (args := #[]))) (mvT hZ (hw _ (List.mem_of_getElem? (i := 38) rfl))) (by decide) (backOf (W := 0) (rmUL l Z a0 hw [] a1 cu a4 M f (-1 : Int32) h0 n0 Z0 Ex Fo Fh At hM g_a1 g_a4 n41 hch h1 h2) hZ (hw _ (List.mem_of_getElem? (i := 38) rfl)) (hw _ (List.mem_of_getElem? (i := 9) rfl)) (by decide) (by decide)) (g := (mkF m 136 #[.val (.ref a1), .val (.ref a2), .val (.int (0 : Int32)), .val (.int (3 : Int32)), .val (.ref a4), .val (.int (0 : Int32)), .val (.int (0 : Int32)), .val (.int (3 : Int32)), .val (.int (0 : Int32)), .val (.int cu)] [(.int (0 : Int32)), (.ref a4), (.int cu), (.ref a1)])) rfl (by rw [hml]; rfl) (Steps.refl _) (a := a1) (by rw [e102]; exact q103) q103' (argsL := [(.int cu), (.ref a4), (.int (0 : Int32))]) (rest := []) (lenOf own_pd1 rfl) rfl (by show 2 * 0 + _ ≤ _; exact Nat.le_of_eq rfl) (hb hby d4_136) (fun _ _ => ⟨rfl, e102, (by decide : 0 + 0 ≤ _), (by decide : 0 + 0 ≤ _)⟩)
  dsimp only [Pt.U, Pt.locs, Pt.cells, Pt.slots] at X103 l103 y103 z103 st103 hQ103
  subst l103 y103 z103
  obtain ⟨o103, rfl, Nq103, K103, Ex103, Fo103, Fh103, At103⟩ := hQ103
  have Z103 : n0 ≤ T103.heap.size := Nat.le_trans Z0 K103.1
  have KC103 : Keep h0 T103.heap [a1, a4] := (Keep.refl h0 [a1, a4]).trans K103 (allS (Or.inl (List.mem_of_getElem? (i := 0) rfl)) (allS (Or.inl (List.mem_of_getElem? (i := 1) rfl)) all0))
  have N103 := Fr.app N0 Nq103
  have f104 := (Ab.keep K103 (ninS n21 (ninS n24 nin0)))
  obtain ⟨T105, h105, X105, e105, W105, st105⟩ := putF X103 hx hZ hown (host := "") (Or.inl (hw _ (List.mem_of_getElem? (i := 16) rfl))) Via.refl rfl Fo103 Ex103 (Or.inl (hw _ (List.mem_of_getElem? (i := 17) rfl))) (hw _ (List.mem_of_getElem? (i := 8) rfl)) (ty := .int) (by decide) rfl rfl (g := (mkF m 163 #[.val (.ref a1), .val (.ref a2), .val (.int (0 : Int32)), .val (.int (3 : Int32)), .val (.ref a4), .val (.int (0 : Int32)), .val (.int (2 : Int32)), .val (.int (3 : Int32)), .val (.int (1 : Int32)), .val (.int cu)] [(.int (b2 &&& (255 : Int32))), (.ref a1)])) rfl rfl (hb hby d4_163)
  have F105 := Fo103.same W105
  have Z105 : n0 ≤ h105.size := Nat.le_trans Z103 (Nat.le_of_eq W105.size.symm)
  have KC105 : Keep h0 h105 [a1, a4] := KC103.wr W105 (Or.inl (List.mem_of_getElem? (i := 0) rfl))
  have N105 := Fr.snoc X105 N103 g_a1
  have f106 := (At103.other W105 n41)
  have f107 := (Ex103.wr W105)
  have f108 := (Fh103.other W105 (Or.inr (slot_ne (Or.inl (hw _ (List.mem_of_getElem? (i := 24) rfl))) (Or.inl (hw _ (List.mem_of_getElem? (i := 17) rfl))) (by decide) (t := .char) (t' := .int) (by decide) (by decide))))
  obtain ⟨fs, hr, hrun, hended, hW, hsame⟩ := X105.leave (v := some (.int (1 : Int32))) (fun h => by rw [Bd.returns] at h; cases h)
  refine ⟨_, _, pre0 _ ?_, hrun, hended, _, _, rfl, ?_, ⟨_, rfl⟩, hW, hsame.mono (by decide) (by decide)⟩
  · show Steps p.tables e below (s₁.setTop (mkF m 0 #[.val (.ref a1), .val (.ref a2), .val (.int (0 : Int32)), .val (.int (3 : Int32)), .val (.ref a4), .val (.int (0 : Int32)), .unset, .unset, .unset, .unset] [])) _
    refine XS.iloadN X0.here hx rfl (hb hby d4_0) rfl ?_
    show Steps p.tables e below (s₁.setTop (mkF m 1 #[.val (.ref a1), .val (.ref a2), .val (.int (0 : Int32)), .val (.int (3 : Int32)), .val (.ref a4), .val (.int (0 : Int32)), .unset, .unset, .unset, .unset] [(.int (0 : Int32))])) _
    refine XS.istore X0.here hx rfl (hb hby d4_1) rfl (l' := #[.val (.ref a1), .val (.ref a2), .val (.int (0 : Int32)), .val (.int (3 : Int32)), .val (.ref a4), .val (.int (0 : Int32)), .val (.int (0 : Int32)), .unset, .unset, .unset]) rfl ?_
    show Steps p.tables e below (s₁.setTop (mkF m 3 #[.val (.ref a1), .val (.ref a2), .val (.int (0 : Int32)), .val (.int (3 : Int32)), .val (.ref a4), .val (.int (0 : Int32)), .val (.int (0 : Int32)), .unset, .unset, .unset] [])) _
    refine XS.iloadN X0.here hx rfl (hb hby d4_3) rfl ?_
    show Steps p.tables e below (s₁.setTop (mkF m 4 #[.val (.ref a1), .val (.ref a2), .val (.int (0 : Int32)), .val (.int (3 : Int32)), .val (.ref a4), .val (.int (0 : Int32)), .val (.int (0 : Int32)), .unset, .unset, .unset] [(.int (0 : Int32))])) _
    refine XS.iloadN X0.here hx rfl (hb hby d4_4) rfl ?_
    show Steps p.tables e below (s₁.setTop (mkF m 5 #[.val (.ref a1), .val (.ref a2), .val (.int (0 : Int32)), .val (.int (3 : Int32)), .val (.ref a4), .val (.int (0 : Int32)), .val (.int (0 : Int32)), .unset, .unset, .unset] [(.int (3 : Int32)), (.int (0 : Int32))])) _
    refine XS.iadd X0.here hx rfl (hb hby d4_5) rfl ?_
    show Steps p.tables e below (s₁.setTop (mkF m 6 #[.val (.ref a1), .val (.ref a2), .val (.int (0 : Int32)), .val (.int (3 : Int32)), .val (.ref a4), .val (.int (0 : Int32)), .val (.int (0 : Int32)), .unset, .unset, .unset] [(.int (3 : Int32))])) _
    refine XS.istore X0.here hx rfl (hb hby d4_6) rfl (l' := #[.val (.ref a1), .val (.ref a2), .val (.int (0 : Int32)), .val (.int (3 : Int32)), .val (.ref a4), .val (.int (0 : Int32)), .val (.int (0 : Int32)), .val (.int (3 : Int32)), .unset, .unset]) rfl ?_
    show Steps p.tables e below (s₁.setTop (mkF m 8 #[.val (.ref a1), .val (.ref a2), .val (.int (0 : Int32)), .val (.int (3 : Int32)), .val (.ref a4), .val (.int (0 : Int32)), .val (.int (0 : Int32)), .val (.int (3 : Int32)), .unset, .unset] [])) _
    refine XS.iload X0.here hx rfl (hb hby d4_8) rfl ?_
    show Steps p.tables e below (s₁.setTop (mkF m 10 #[.val (.ref a1), .val (.ref a2), .val (.int (0 : Int32)), .val (.int (3 : Int32)), .val (.ref a4), .val (.int (0 : Int32)), .val (.int (0 : Int32)), .val (.int (3 : Int32)), .unset, .unset] [(.int (0 : Int32))])) _
    refine XS.istore X0.here hx rfl (hb hby d4_10) rfl (l' := #[.val (.ref a1), .val (.ref a2), .val (.int (0 : Int32)), .val (.int (3 : Int32)), .val (.ref a4), .val (.int (0 : Int32)), .val (.int (0 : Int32)), .val (.int (3 : Int32)), .val (.int (0 : Int32)), .unset]) rfl ?_
    show Steps p.tables e below (s₁.setTop (mkF m 12 #[.val (.ref a1), .val (.ref a2), .val (.int (0 : Int32)), .val (.int (3 : Int32)), .val (.ref a4), .val (.int (0 : Int32)), .val (.int (0 : Int32)), .val (.int (3 : Int32)), .val (.int (0 : Int32)), .unset] [])) _
    refine XS.aloadN X0.here hx rfl (hb hby d4_12) rfl rfl ?_
    show Steps p.tables e below (s₁.setTop (mkF m 13 #[.val (.ref a1), .val (.ref a2), .val (.int (0 : Int32)), .val (.int (3 : Int32)), .val (.ref a4), .val (.int (0 : Int32)), .val (.int (0 : Int32)), .val (.int (3 : Int32)), .val (.int (0 : Int32)), .unset] [(.ref a1)])) _
    refine st101 _ ?_
    show Steps p.tables e below (T101.setTop (mkF m 16 #[.val (.ref a1), .val (.ref a2), .val (.int (0 : Int32)), .val (.int (3 : Int32)), .val (.ref a4), .val (.int (0 : Int32)), .val (.int (0 : Int32)), .val (.int (3 : Int32)), .val (.int (0 : Int32)), .unset] [(.int (-1 : Int32))])) _
    refine XS.ifYes X101.here hx rfl (pc0 := 16) (pc' := 61) rfl (hb hby d4_16) rfl ((if0 _ _).trans (tlt (by decide : (-1 : Int32) < (0 : Int32))).1) (by decide) (by decide) ?_
    show Steps p.tables e below (T101.setTop (mkF m 61 #[.val (.ref a1), .val (.ref a2), .val (.int (0 : Int32)), .val (.int (3 : Int32)), .val (.ref a4), .val (.int (0 : Int32)), .val (.int (0 : Int32)), .val (.int (3 : Int32)), .val (.int (0 : Int32)), .unset] [])) _
    refine XS.iload X101.here hx rfl (hb hby d4_61) rfl ?_
    show Steps p.tables e below (T101.setTop (mkF m 63 #[.val (.ref a1), .val (.ref a2), .val (.int (0 : Int32)), .val (.int (3 : Int32)), .val (.ref a4), .val (.int (0 : Int32)), .val (.int (0 : Int32)), .val (.int (3 : Int32)), .val (.int (0 : Int32)), .unset] [(.int (0 : Int32))])) _
    refine XS.iconst X101.here hx rfl (hb hby d4_63) ?_
    show Steps p.tables e below (T101.setTop (mkF m 64 #[.val (.ref a1), .val (.ref a2), .val (.int (0 : Int32)), .val (.int (3 : Int32)), .val (.ref a4), .val (.int (0 : Int32)), .val (.int (0 : Int32)), .val (.int (3 : Int32)), .val (.int (0 : Int32)), .unset] [(.int (1 : Int32)), (.int (0 : Int32))])) _
    refine XS.iadd X101.here hx rfl (hb hby d4_64) rfl ?_
    show Steps p.tables e below (T101.setTop (mkF m 65 #[.val (.ref a1), .val (.ref a2), .val (.int (0 : Int32)), .val (.int (3 : Int32)), .val (.ref a4), .val (.int (0 : Int32)), .val (.int (0 : Int32)), .val (.int (3 : Int32)), .val (.int (0 : Int32)), .unset] [(.int (1 : Int32))])) _
    refine XS.iload X101.here hx rfl (hb hby d4_65) rfl ?_
    show Steps p.tables e below (T101.setTop (mkF m 67 #[.val (.ref a1), .val (.ref a2), .val (.int (0 : Int32)), .val (.int (3 : Int32)), .val (.ref a4), .val (.int (0 : Int32)), .val (.int (0 : Int32)), .val (.int (3 : Int32)), .val (.int (0 : Int32)), .unset] [(.int (3 : Int32)), (.int (1 : Int32))])) _
    refine XS.icmpNo X101.here hx rfl (hb hby d4_67) rfl (tlt (by decide : (1 : Int32) < (3 : Int32))).2.1 ?_
    show Steps p.tables e below (T101.setTop (mkF m 70 #[.val (.ref a1), .val (.ref a2), .val (.int (0 : Int32)), .val (.int (3 : Int32)), .val (.ref a4), .val (.int (0 : Int32)), .val (.int (0 : Int32)), .val (.int (3 : Int32)), .val (.int (0 : Int32)), .unset] [])) _
    refine XS.aloadN X101.here hx rfl (hb hby d4_70) rfl rfl ?_
    show Steps p.tables e below (T101.setTop (mkF m 71 #[.val (.ref a1), .val (.ref a2), .val (.int (0 : Int32)), .val (.int (3 : Int32)), .val (.ref a4), .val (.int (0 : Int32)), .val (.int (0 : Int32)), .val (.int (3 : Int32)), .val (.int (0 : Int32)), .unset] [(.ref a2)])) _
    refine XS.iload X101.here hx rfl (hb hby d4_71) rfl ?_
    show Steps p.tables e below (T101.setTop (mkF m 73 #[.val (.ref a1), .val (.ref a2), .val (.int (0 : Int32)), .val (.int (3 : Int32)), .val (.ref a4), .val (.int (0 : Int32)), .val (.int (0 : Int32)), .val (.int (3 : Int32)), .val (.int (0 : Int32)), .unset] [(.int (0 : Int32)), (.ref a2)])) _
    refine own_ldB X101 hx hZ e101 Ab (j := (0 : Int32)) 0 (by decide) rfl (by decide) (v := (.int b0)) v0 (g := (mkF m 73 #[.val (.ref a1), .val (.ref a2), .val (.int (0 : Int32)), .val (.int (3 : Int32)), .val (.ref a4), .val (.int (0 : Int32)), .val (.int (0 : Int32)), .val (.int (3 : Int32)), .val (.int (0 : Int32)), .unset] [(.int (0 : Int32)), (.ref a2)])) rfl rfl (hb hby d4_73) _ ?_
    show Steps p.tables e below (T101.setTop (mkF m 74 #[.val (.ref a1), .val (.ref a2), .val (.int (0 : Int32)), .val (.int (3 : Int32)), .val (.ref a4), .val (.int (0 : Int32)), .val (.int (0 : Int32)), .val (.int (3 : Int32)), .val (.int (0 : Int32)), .unset] [(.int b0)])) _
    refine XS.sipush X101.here hx rfl (hb hby d4_74) ?_
    show Steps p.tables e below (T101.setTop (mkF m 77 #[.val (.ref a1), .val (.ref a2), .val (.int (0 : Int32)), .val (.int (3 : Int32)), .val (.ref a4), .val (.int (0 : Int32)), .val (.int (0 : Int32)), .val (.int (3 : Int32)), .val (.int (0 : Int32)), .unset] [(.int (255 : Int32)), (.int b0)])) _
    refine XS.iand X101.here hx rfl (hb hby d4_77) rfl ?_
    show Steps p.tables e below (T101.setTop (mkF m 78 #[.val (.ref a1), .val (.ref a2), .val (.int (0 : Int32)), .val (.int (3 : Int32)), .val (.ref a4), .val (.int (0 : Int32)), .val (.int (0 : Int32)), .val (.int (3 : Int32)), .val (.int (0 : Int32)), .unset] [(.int (b0 &&& (255 : Int32)))])) _
    refine XS.aloadN X101.here hx rfl (hb hby d4_78) rfl rfl ?_
    show Steps p.tables e below (T101.setTop (mkF m 79 #[.val (.ref a1), .val (.ref a2), .val (.int (0 : Int32)), .val (.int (3 : Int32)), .val (.ref a4), .val (.int (0 : Int32)), .val (.int (0 : Int32)), .val (.int (3 : Int32)), .val (.int (0 : Int32)), .unset] [(.ref a2), (.int (b0 &&& (255 : Int32)))])) _
    refine XS.iload X101.here hx rfl (hb hby d4_79) rfl ?_
    show Steps p.tables e below (T101.setTop (mkF m 81 #[.val (.ref a1), .val (.ref a2), .val (.int (0 : Int32)), .val (.int (3 : Int32)), .val (.ref a4), .val (.int (0 : Int32)), .val (.int (0 : Int32)), .val (.int (3 : Int32)), .val (.int (0 : Int32)), .unset] [(.int (0 : Int32)), (.ref a2), (.int (b0 &&& (255 : Int32)))])) _
    refine XS.iconst X101.here hx rfl (hb hby d4_81) ?_
    show Steps p.tables e below (T101.setTop (mkF m 82 #[.val (.ref a1), .val (.ref a2), .val (.int (0 : Int32)), .val (.int (3 : Int32)), .val (.ref a4), .val (.int (0 : Int32)), .val (.int (0 : Int32)), .val (.int (3 : Int32)), .val (.int (0 : Int32)), .unset] [(.int (1 : Int32)), (.int (0 : Int32)), (.ref a2), (.int (b0 &&& (255 : Int32)))])) _
    refine XS.iadd X101.here hx rfl (hb hby d4_82) rfl ?_
    show Steps p.tables e below (T101.setTop (mkF m 83 #[.val (.ref a1), .val (.ref a2), .val (.int (0 : Int32)), .val (.int (3 : Int32)), .val (.ref a4), .val (.int (0 : Int32)), .val (.int (0 : Int32)), .val (.int (3 : Int32)), .val (.int (0 : Int32)), .unset] [(.int (1 : Int32)), (.ref a2), (.int (b0 &&& (255 : Int32)))])) _
    refine own_ldB X101 hx hZ e101 Ab (j := (1 : Int32)) 1 (by decide) rfl (by decide) (v := (.int b1)) v1 (g := (mkF m 83 #[.val (.ref a1), .val (.ref a2), .val (.int (0 : Int32)), .val (.int (3 : Int32)), .val (.ref a4), .val (.int (0 : Int32)), .val (.int (0 : Int32)), .val (.int (3 : Int32)), .val (.int (0 : Int32)), .unset] [(.int (1 : Int32)), (.ref a2), (.int (b0 &&& (255 : Int32)))])) rfl rfl (hb hby d4_83) _ ?_
    show Steps p.tables e below (T101.setTop (mkF m 84 #[.val (.ref a1), .val (.ref a2), .val (.int (0 : Int32)), .val (.int (3 : Int32)), .val (.ref a4), .val (.int (0 : Int32)), .val (.int (0 : Int32)), .val (.int (3 : Int32)), .val (.int (0 : Int32)), .unset] [(.int b1), (.int (b0 &&& (255 : Int32)))])) _
    refine XS.sipush X101.here hx rfl (hb hby d4_84) ?_
    show Steps p.tables e below (T101.setTop (mkF m 87 #[.val (.ref a1), .val (.ref a2), .val (.int (0 : Int32)), .val (.int (3 : Int32)), .val (.ref a4), .val (.int (0 : Int32)), .val (.int (0 : Int32)), .val (.int (3 : Int32)), .val (.int (0 : Int32)), .unset] [(.int (255 : Int32)), (.int b1), (.int (b0 &&& (255 : Int32)))])) _
    refine XS.iand X101.here hx rfl (hb hby d4_87) rfl ?_
    show Steps p.tables e below (T101.setTop (mkF m 88 #[.val (.ref a1), .val (.ref a2), .val (.int (0 : Int32)), .val (.int (3 : Int32)), .val (.ref a4), .val (.int (0 : Int32)), .val (.int (0 : Int32)), .val (.int (3 : Int32)), .val (.int (0 : Int32)), .unset] [(.int (b1 &&& (255 : Int32))), (.int (b0 &&& (255 : Int32)))])) _
    refine XS.bipush X101.here hx rfl (hb hby d4_88) ?_
    show Steps p.tables e below (T101.setTop (mkF m 90 #[.val (.ref a1), .val (.ref a2), .val (.int (0 : Int32)), .val (.int (3 : Int32)), .val (.ref a4), .val (.int (0 : Int32)), .val (.int (0 : Int32)), .val (.int (3 : Int32)), .val (.int (0 : Int32)), .unset] [(.int (8 : Int32)), (.int (b1 &&& (255 : Int32))), (.int (b0 &&& (255 : Int32)))])) _
    refine XS.ishl X101.here hx rfl (hb hby d4_90) rfl ?_
    show Steps p.tables e below (T101.setTop (mkF m 91 #[.val (.ref a1), .val (.ref a2), .val (.int (0 : Int32)), .val (.int (3 : Int32)), .val (.ref a4), .val (.int (0 : Int32)), .val (.int (0 : Int32)), .val (.int (3 : Int32)), .val (.int (0 : Int32)), .unset] [(.int ((b1 &&& (255 : Int32)) <<< ((8 : Int32) &&& 31))), (.int (b0 &&& (255 : Int32)))])) _
    refine XS.ior X101.here hx rfl (hb hby d4_91) rfl ?_
    show Steps p.tables e below (T101.setTop (mkF m 92 #[.val (.ref a1), .val (.ref a2), .val (.int (0 : Int32)), .val (.int (3 : Int32)), .val (.ref a4), .val (.int (0 : Int32)), .val (.int (0 : Int32)), .val (.int (3 : Int32)), .val (.int (0 : Int32)), .unset] [(.int ((b0 &&& (255 : Int32)) ||| ((b1 &&& (255 : Int32)) <<< ((8 : Int32) &&& 31))))])) _
    refine XS.i2c X101.here hx rfl (hb hby d4_92) rfl ?_
    show Steps p.tables e below (T101.setTop (mkF m 93 #[.val (.ref a1), .val (.ref a2), .val (.int (0 : Int32)), .val (.int (3 : Int32)), .val (.ref a4), .val (.int (0 : Int32)), .val (.int (0 : Int32)), .val (.int (3 : Int32)), .val (.int (0 : Int32)), .unset] [(.int (((b0 &&& (255 : Int32)) ||| ((b1 &&& (255 : Int32)) <<< ((8 : Int32) &&& 31))).toUInt32.toUInt16.toUInt32.toInt32))])) _
    rw [hc]
    show Steps p.tables e below (T101.setTop (mkF m 93 #[.val (.ref a1), .val (.ref a2), .val (.int (0 : Int32)), .val (.int (3 : Int32)), .val (.ref a4), .val (.int (0 : Int32)), .val (.int (0 : Int32)), .val (.int (3 : Int32)), .val (.int (0 : Int32)), .unset] [(.int cu)])) _
    refine XS.istore X101.here hx rfl (hb hby d4_93) rfl (l' := #[.val (.ref a1), .val (.ref a2), .val (.int (0 : Int32)), .val (.int (3 : Int32)), .val (.ref a4), .val (.int (0 : Int32)), .val (.int (0 : Int32)), .val (.int (3 : Int32)), .val (.int (0 : Int32)), .val (.int cu)]) rfl ?_
    show Steps p.tables e below (T101.setTop (mkF m 95 #[.val (.ref a1), .val (.ref a2), .val (.int (0 : Int32)), .val (.int (3 : Int32)), .val (.ref a4), .val (.int (0 : Int32)), .val (.int (0 : Int32)), .val (.int (3 : Int32)), .val (.int (0 : Int32)), .val (.int cu)] [])) _
    refine XS.aloadN X101.here hx rfl (hb hby d4_95) rfl rfl ?_
    show Steps p.tables e below (T101.setTop (mkF m 96 #[.val (.ref a1), .val (.ref a2), .val (.int (0 : Int32)), .val (.int (3 : Int32)), .val (.ref a4), .val (.int (0 : Int32)), .val (.int (0 : Int32)), .val (.int (3 : Int32)), .val (.int (0 : Int32)), .val (.int cu)] [(.ref a1)])) _
    refine st102 _ ?_
    show Steps p.tables e below (T102.setTop (mkF m 99 #[.val (.ref a1), .val (.ref a2), .val (.int (0 : Int32)), .val (.int (3 : Int32)), .val (.ref a4), .val (.int (0 : Int32)), .val (.int (0 : Int32)), .val (.int (3 : Int32)), .val (.int (0 : Int32)), .val (.int cu)] [(.int (0 : Int32))])) _
    refine XS.ifNo X102.here hx rfl (hb hby d4_99) rfl ((if0 _ _).trans (teq rfl).2) ?_
    show Steps p.tables e below (T102.setTop (mkF m 102 #[.val (.ref a1), .val (.ref a2), .val (.int (0 : Int32)), .val (.int (3 : Int32)), .val (.ref a4), .val (.int (0 : Int32)), .val (.int (0 : Int32)), .val (.int (3 : Int32)), .val (.int (0 : Int32)), .val (.int cu)] [])) _
    refine XS.iload X102.here hx rfl (hb hby d4_102) rfl ?_
    show Steps p.tables e below (T102.setTop (mkF m 104 #[.val (.ref a1), .val (.ref a2), .val (.int (0 : Int32)), .val (.int (3 : Int32)), .val (.ref a4), .val (.int (0 : Int32)), .val (.int (0 : Int32)), .val (.int (3 : Int32)), .val (.int (0 : Int32)), .val (.int cu)] [(.int cu)])) _
    refine X102.ldcInt hx hown (mvT hZ (hw _ (List.mem_of_getElem? (i := 25) rfl))) (g := (mkF m 104 #[.val (.ref a1), .val (.ref a2), .val (.int (0 : Int32)), .val (.int (3 : Int32)), .val (.ref a4), .val (.int (0 : Int32)), .val (.int (0 : Int32)), .val (.int (3 : Int32)), .val (.int (0 : Int32)), .val (.int cu)] [(.int cu)])) rfl (hb hby d4_104) _ ?_
    show Steps p.tables e below (T102.setTop (mkF m 106 #[.val (.ref a1), .val (.ref a2), .val (.int (0 : Int32)), .val (.int (3 : Int32)), .val (.ref a4), .val (.int (0 : Int32)), .val (.int (0 : Int32)), .val (.int (3 : Int32)), .val (.int (0 : Int32)), .val (.int cu)] [(.int (55296 : Int32)), (.int cu)])) _
    refine XS.icmpNo X102.here hx rfl (hb hby d4_106) rfl (flt hb106).1 ?_
    show Steps p.tables e below (T102.setTop (mkF m 109 #[.val (.ref a1), .val (.ref a2), .val (.int (0 : Int32)), .val (.int (3 : Int32)), .val (.ref a4), .val (.int (0 : Int32)), .val (.int (0 : Int32)), .val (.int (3 : Int32)), .val (.int (0 : Int32)), .val (.int cu)] [])) _
    refine XS.iload X102.here hx rfl (hb hby d4_109) rfl ?_
    show Steps p.tables e below (T102.setTop (mkF m 111 #[.val (.ref a1), .val (.ref a2), .val (.int (0 : Int32)), .val (.int (3 : Int32)), .val (.ref a4), .val (.int (0 : Int32)), .val (.int (0 : Int32)), .val (.int (3 : Int32)), .val (.int (0 : Int32)), .val (.int cu)] [(.int cu)])) _
    refine X102.ldcInt hx hown (mvT hZ (hw _ (List.mem_of_getElem? (i := 34) rfl))) (g := (mkF m 111 #[.val (.ref a1), .val (.ref a2), .val (.int (0 : Int32)), .val (.int (3 : Int32)), .val (.ref a4), .val (.int (0 : Int32)), .val (.int (0 : Int32)), .val (.int (3 : Int32)), .val (.int (0 : Int32)), .val (.int cu)] [(.int cu)])) rfl (hb hby d4_111) _ ?_
    show Steps p.tables e below (T102.setTop (mkF m 113 #[.val (.ref a1), .val (.ref a2), .val (.int (0 : Int32)), .val (.int (3 : Int32)), .val (.ref a4), .val (.int (0 : Int32)), .val (.int (0 : Int32)), .val (.int (3 : Int32)), .val (.int (0 : Int32)), .val (.int cu)] [(.int (57343 : Int32)), (.int cu)])) _
    refine XS.icmpYes X102.here hx rfl (pc0 := 113) (pc' := 129) rfl (hb hby d4_113) rfl (flt hb113).2.2.2 (by decide) (by decide) ?_
    show Steps p.tables e below (T102.setTop (mkF m 129 #[.val (.ref a1), .val (.ref a2), .val (.int (0 : Int32)), .val (.int (3 : Int32)), .val (.ref a4), .val (.int (0 : Int32)), .val (.int (0 : Int32)), .val (.int (3 : Int32)), .val (.int (0 : Int32)), .val (.int cu)] [])) _
    refine XS.aloadN X102.here hx rfl (hb hby d4_129) rfl rfl ?_
    show Steps p.tables e below (T102.setTop (mkF m 130 #[.val (.ref a1), .val (.ref a2), .val (.int (0 : Int32)), .val (.int (3 : Int32)), .val (.ref a4), .val (.int (0 : Int32)), .val (.int (0 : Int32)), .val (.int (3 : Int32)), .val (.int (0 : Int32)), .val (.int cu)] [(.ref a1)])) _
    refine XS.iload X102.here hx rfl (hb hby d4_130) rfl ?_
    show Steps p.tables e below (T102.setTop (mkF m 132 #[.val (.ref a1), .val (.ref a2), .val (.int (0 : Int32)), .val (.int (3 : Int32)), .val (.ref a4), .val (.int (0 : Int32)), .val (.int (0 : Int32)), .val (.int (3 : Int32)), .val (.int (0 : Int32)), .val (.int cu)] [(.int cu), (.ref a1)])) _
    refine XS.aload X102.here hx rfl (hb hby d4_132) rfl rfl ?_
    show Steps p.tables e below (T102.setTop (mkF m 134 #[.val (.ref a1), .val (.ref a2), .val (.int (0 : Int32)), .val (.int (3 : Int32)), .val (.ref a4), .val (.int (0 : Int32)), .val (.int (0 : Int32)), .val (.int (3 : Int32)), .val (.int (0 : Int32)), .val (.int cu)] [(.ref a4), (.int cu), (.ref a1)])) _
    refine XS.iload X102.here hx rfl (hb hby d4_134) rfl ?_
    show Steps p.tables e below (T102.setTop (mkF m 136 #[.val (.ref a1), .val (.ref a2), .val (.int (0 : Int32)), .val (.int (3 : Int32)), .val (.ref a4), .val (.int (0 : Int32)), .val (.int (0 : Int32)), .val (.int (3 : Int32)), .val (.int (0 : Int32)), .val (.int cu)] [(.int (0 : Int32)), (.ref a4), (.int cu), (.ref a1)])) _
    refine st103.trans ?_
    show Steps p.tables e below (T103.setTop (mkF m 139 #[.val (.ref a1), .val (.ref a2), .val (.int (0 : Int32)), .val (.int (3 : Int32)), .val (.ref a4), .val (.int (0 : Int32)), .val (.int (0 : Int32)), .val (.int (3 : Int32)), .val (.int (0 : Int32)), .val (.int cu)] [(.int (1 : Int32))])) _
    refine XS.istore X103.here hx rfl (hb hby d4_139) rfl (l' := #[.val (.ref a1), .val (.ref a2), .val (.int (0 : Int32)), .val (.int (3 : Int32)), .val (.ref a4), .val (.int (0 : Int32)), .val (.int (0 : Int32)), .val (.int (3 : Int32)), .val (.int (1 : Int32)), .val (.int cu)]) rfl ?_
    show Steps p.tables e below (T103.setTop (mkF m 141 #[.val (.ref a1), .val (.ref a2), .val (.int (0 : Int32)), .val (.int (3 : Int32)), .val (.ref a4), .val (.int (0 : Int32)), .val (.int (0 : Int32)), .val (.int (3 : Int32)), .val (.int (1 : Int32)), .val (.int cu)] [])) _
    refine XS.iinc X103.here hx rfl (hb hby d4_141) rfl (l' := #[.val (.ref a1), .val (.ref a2), .val (.int (0 : Int32)), .val (.int (3 : Int32)), .val (.ref a4), .val (.int (0 : Int32)), .val (.int (2 : Int32)), .val (.int (3 : Int32)), .val (.int (1 : Int32)), .val (.int cu)]) rfl ?_
    show Steps p.tables e below (T103.setTop (mkF m 144 #[.val (.ref a1), .val (.ref a2), .val (.int (0 : Int32)), .val (.int (3 : Int32)), .val (.ref a4), .val (.int (0 : Int32)), .val (.int (2 : Int32)), .val (.int (3 : Int32)), .val (.int (1 : Int32)), .val (.int cu)] [])) _
    refine XS.goto X103.here hx rfl (pc0 := 144) (pc' := 61) rfl (hb hby d4_144) (by decide) (by decide) ?_
    show Steps p.tables e below (T103.setTop (mkF m 61 #[.val (.ref a1), .val (.ref a2), .val (.int (0 : Int32)), .val (.int (3 : Int32)), .val (.ref a4), .val (.int (0 : Int32)), .val (.int (2 : Int32)), .val (.int (3 : Int32)), .val (.int (1 : Int32)), .val (.int cu)] [])) _
    refine XS.iload X103.here hx rfl (hb hby d4_61) rfl ?_
    show Steps p.tables e below (T103.setTop (mkF m 63 #[.val (.ref a1), .val (.ref a2), .val (.int (0 : Int32)), .val (.int (3 : Int32)), .val (.ref a4), .val (.int (0 : Int32)), .val (.int (2 : Int32)), .val (.int (3 : Int32)), .val (.int (1 : Int32)), .val (.int cu)] [(.int (2 : Int32))])) _
    refine XS.iconst X103.here hx rfl (hb hby d4_63) ?_
    show Steps p.tables e below (T103.setTop (mkF m 64 #[.val (.ref a1), .val (.ref a2), .val (.int (0 : Int32)), .val (.int (3 : Int32)), .val (.ref a4), .val (.int (0 : Int32)), .val (.int (2 : Int32)), .val (.int (3 : Int32)), .val (.int (1 : Int32)), .val (.int cu)] [(.int (1 : Int32)), (.int (2 : Int32))])) _
    refine XS.iadd X103.here hx rfl (hb hby d4_64) rfl ?_
    show Steps p.tables e below (T103.setTop (mkF m 65 #[.val (.ref a1), .val (.ref a2), .val (.int (0 : Int32)), .val (.int (3 : Int32)), .val (.ref a4), .val (.int (0 : Int32)), .val (.int (2 : Int32)), .val (.int (3 : Int32)), .val (.int (1 : Int32)), .val (.int cu)] [(.int (3 : Int32))])) _
    refine XS.iload X103.here hx rfl (hb hby d4_65) rfl ?_
    show Steps p.tables e below (T103.setTop (mkF m 67 #[.val (.ref a1), .val (.ref a2), .val (.int (0 : Int32)), .val (.int (3 : Int32)), .val (.ref a4), .val (.int (0 : Int32)), .val (.int (2 : Int32)), .val (.int (3 : Int32)), .val (.int (1 : Int32)), .val (.int cu)] [(.int (3 : Int32)), (.int (3 : Int32))])) _
    refine XS.icmpYes X103.here hx rfl (pc0 := 67) (pc' := 147) rfl (hb hby d4_67) rfl (flt (by decide : ¬ (3 : Int32) < (3 : Int32))).2.1 (by decide) (by decide) ?_
    show Steps p.tables e below (T103.setTop (mkF m 147 #[.val (.ref a1), .val (.ref a2), .val (.int (0 : Int32)), .val (.int (3 : Int32)), .val (.ref a4), .val (.int (0 : Int32)), .val (.int (2 : Int32)), .val (.int (3 : Int32)), .val (.int (1 : Int32)), .val (.int cu)] [])) _
    refine XS.iload X103.here hx rfl (hb hby d4_147) rfl ?_
    show Steps p.tables e below (T103.setTop (mkF m 149 #[.val (.ref a1), .val (.ref a2), .val (.int (0 : Int32)), .val (.int (3 : Int32)), .val (.ref a4), .val (.int (0 : Int32)), .val (.int (2 : Int32)), .val (.int (3 : Int32)), .val (.int (1 : Int32)), .val (.int cu)] [(.int (2 : Int32))])) _
    refine XS.iload X103.here hx rfl (hb hby d4_149) rfl ?_
    show Steps p.tables e below (T103.setTop (mkF m 151 #[.val (.ref a1), .val (.ref a2), .val (.int (0 : Int32)), .val (.int (3 : Int32)), .val (.ref a4), .val (.int (0 : Int32)), .val (.int (2 : Int32)), .val (.int (3 : Int32)), .val (.int (1 : Int32)), .val (.int cu)] [(.int (3 : Int32)), (.int (2 : Int32))])) _
    refine XS.icmpNo X103.here hx rfl (hb hby d4_151) rfl (tlt (by decide : (2 : Int32) < (3 : Int32))).2.1 ?_
    show Steps p.tables e below (T103.setTop (mkF m 154 #[.val (.ref a1), .val (.ref a2), .val (.int (0 : Int32)), .val (.int (3 : Int32)), .val (.ref a4), .val (.int (0 : Int32)), .val (.int (2 : Int32)), .val (.int (3 : Int32)), .val (.int (1 : Int32)), .val (.int cu)] [])) _
    refine XS.aloadN X103.here hx rfl (hb hby d4_154) rfl rfl ?_
    show Steps p.tables e below (T103.setTop (mkF m 155 #[.val (.ref a1), .val (.ref a2), .val (.int (0 : Int32)), .val (.int (3 : Int32)), .val (.ref a4), .val (.int (0 : Int32)), .val (.int (2 : Int32)), .val (.int (3 : Int32)), .val (.int (1 : Int32)), .val (.int cu)] [(.ref a1)])) _
    refine XS.aloadN X103.here hx rfl (hb hby d4_155) rfl rfl ?_
    show Steps p.tables e below (T103.setTop (mkF m 156 #[.val (.ref a1), .val (.ref a2), .val (.int (0 : Int32)), .val (.int (3 : Int32)), .val (.ref a4), .val (.int (0 : Int32)), .val (.int (2 : Int32)), .val (.int (3 : Int32)), .val (.int (1 : Int32)), .val (.int cu)] [(.ref a2), (.ref a1)])) _
    refine XS.iload X103.here hx rfl (hb hby d4_156) rfl ?_
    show Steps p.tables e below (T103.setTop (mkF m 158 #[.val (.ref a1), .val (.ref a2), .val (.int (0 : Int32)), .val (.int (3 : Int32)), .val (.ref a4), .val (.int (0 : Int32)), .val (.int (2 : Int32)), .val (.int (3 : Int32)), .val (.int (1 : Int32)), .val (.int cu)] [(.int (2 : Int32)), (.ref a2), (.ref a1)])) _
    refine own_ldB X103 hx hZ rfl f104 (j := (2 : Int32)) 2 (by decide) rfl (by decide) (v := (.int b2)) v2 (g := (mkF m 158 #[.val (.ref a1), .val (.ref a2), .val (.int (0 : Int32)), .val (.int (3 : Int32)), .val (.ref a4), .val (.int (0 : Int32)), .val (.int (2 : Int32)), .val (.int (3 : Int32)), .val (.int (1 : Int32)), .val (.int cu)] [(.int (2 : Int32)), (.ref a2), (.ref a1)])) rfl rfl (hb hby d4_158) _ ?_
    show Steps p.tables e below (T103.setTop (mkF m 159 #[.val (.ref a1), .val (.ref a2), .val (.int (0 : Int32)), .val (.int (3 : Int32)), .val (.ref a4), .val (.int (0 : Int32)), .val (.int (2 : Int32)), .val (.int (3 : Int32)), .val (.int (1 : Int32)), .val (.int cu)] [(.int b2), (.ref a1)])) _
    refine XS.sipush X103.here hx rfl (hb hby d4_159) ?_
    show Steps p.tables e below (T103.setTop (mkF m 162 #[.val (.ref a1), .val (.ref a2), .val (.int (0 : Int32)), .val (.int (3 : Int32)), .val (.ref a4), .val (.int (0 : Int32)), .val (.int (2 : Int32)), .val (.int (3 : Int32)), .val (.int (1 : Int32)), .val (.int cu)] [(.int (255 : Int32)), (.int b2), (.ref a1)])) _
    refine XS.iand X103.here hx rfl (hb hby d4_162) rfl ?_
    show Steps p.tables e below (T103.setTop (mkF m 163 #[.val (.ref a1), .val (.ref a2), .val (.int (0 : Int32)), .val (.int (3 : Int32)), .val (.ref a4), .val (.int (0 : Int32)), .val (.int (2 : Int32)), .val (.int (3 : Int32)), .val (.int (1 : Int32)), .val (.int cu)] [(.int (b2 &&& (255 : Int32))), (.ref a1)])) _
    refine st105 _ ?_
    show Steps p.tables e below (T105.setTop (mkF m 166 #[.val (.ref a1), .val (.ref a2), .val (.int (0 : Int32)), .val (.int (3 : Int32)), .val (.ref a4), .val (.int (0 : Int32)), .val (.int (2 : Int32)), .val (.int (3 : Int32)), .val (.int (1 : Int32)), .val (.int cu)] [])) _
    refine XS.iload X105.here hx rfl (hb hby d4_166) rfl ?_
    show Steps p.tables e below (T105.setTop (mkF m 168 #[.val (.ref a1), .val (.ref a2), .val (.int (0 : Int32)), .val (.int (3 : Int32)), .val (.ref a4), .val (.int (0 : Int32)), .val (.int (2 : Int32)), .val (.int (3 : Int32)), .val (.int (1 : Int32)), .val (.int cu)] [(.int (1 : Int32))])) _
    exact own_retI X105 hx Bd.returns (hb hby d4_168) hr
  · show QD Z a1 a4 M (own_upd f 0 (.int (own_out cu))) (1 : Int32) (0 : Int32) h0 n0 _ T105.heap _
    rw [e105]
    exact ⟨_, rfl, N105, KC105, f107, F105, f108, (f106.cast (fun i _ => by rw [own_lowL h1 h2]))⟩
set_option maxRecDepth 65536 in
set_option maxHeartbeats 40000000 in
theorem rmDN3 (l : Launch) (Z : State) (a0 : Array Value) (hw : ∀ d ∈ tables_1, d.before a0 Z = true) (ws : List Jvm.Cond) (a1 : Addr) (a2 : Addr) (a4 : Addr) (M : Nat) (f : Nat → Value) (fb : Nat → Value) (cu : Int32) (b0 : Int32) (b1 : Int32) (b2 : Int32) (h0 : Heap) (n0 : Nat) (Z0 : n0 ≤ h0.size) (Ex : Exa Z h0 a1 "com/example/cellwright/cellwright/hive/Utf16Le$Decoder") (Fh : Fld Z h0 a1 "com/example/cellwright/cellwright/hive/Utf16Le$Decoder" "high" "C" (.int (0 : Int32))) (At : OwnA Z h0 a4 .char M f) (hM : 0 < M) (g_a1 : n0 ≤ a1) (g_a4 : n0 ≤ a4) (n41 : a4 ≠ a1) (hch : own_ch cu) (Fo : Fld Z h0 a1 "com/example/cellwright/cellwright/hive/Utf16Le$Decoder" "oddByte" "I" (.int (-1 : Int32))) (Ab : OwnA Z h0 a2 .byte 3 fb) (n21 : a2 ≠ a1) (n24 : a2 ≠ a4) (v0 : fb 0 = .int b0) (v1 : fb 1 = .int b1) (v2 : fb 2 = .int b2) (hc : (((b0 &&& (255 : Int32)) ||| ((b1 &&& (255 : Int32)) <<< ((8 : Int32) &&& 31))).toUInt32.toUInt16.toUInt32.toInt32) = cu) (h1 : cu < (55296 : Int32) ∨ (56319 : Int32) < cu) :
    MetFree l (⟨"com/example/cellwright/cellwright/hive/Utf16Le$Decoder", "decode", "([BII[CI)I"⟩ : MethodName) (head1 (Jvm.Cond.code (⟨"com/example/cellwright/cellwright/hive/Utf16Le$Decoder", "decode", "([BII[CI)I"⟩ : MethodName) prog_97_method_3_code 10 (some .int) :: ws) ({ frames := 2, cells := 0, slots := 0, locals := 31 } : Room)) (fun a U => a = #[(.ref a1), (.ref a2), (.int (0 : Int32)), (.int (3 : Int32)), (.ref a4), (.int (0 : Int32))] ∧ Z.Warmed39 U.vm ∧ U.heap = h0) (fun _ _ _ _ _ => True) (fun _ U o U' => ∃ v L, o = .returned v ∧ QD Z a1 a4 M (own_upd f 0 (.int (own_out cu))) (1 : Int32) (0 : Int32) h0 n0 v U'.heap L ∧ FrameEnd U o U' L ({ frames := 2, cells := 0, slots := 0, locals := 31 } : Room).cells ({ frames := 2, cells := 0, slots := 0, locals := 31 } : Room).slots) := by
  rcases h1 with h1 | h1
  · exact rmDA3 l Z a0 hw ws a1 a2 a4 M f fb cu b0 b1 b2 h0 n0 Z0 Ex Fh At hM g_a1 g_a4 n41 hch Fo Ab n21 n24 v0 v1 v2 hc h1
  · by_cases h2 : (57343 : Int32) < cu
    · exact rmDB3 l Z a0 hw ws a1 a2 a4 M f fb cu b0 b1 b2 h0 n0 Z0 Ex Fh At hM g_a1 g_a4 n41 hch Fo Ab n21 n24 v0 v1 v2 hc h2
    · exact rmDL3 l Z a0 hw ws a1 a2 a4 M f fb cu b0 b1 b2 h0 n0 Z0 Ex Fh At hM g_a1 g_a4 n41 hch Fo Ab n21 n24 v0 v1 v2 hc (by simp only [Int32.lt_iff_toInt_lt, own_l1, own_l2, own_l3, own_l4, own_l5] at *; omega) h2
def QF (Z : State) (a1 a4 : Addr) (M : Nat) (f : Nat → Value) (r : Int32) (h0 : Heap) (n0 : Nat) (v : Option Value) (h : Heap) (L : List Loc) : Prop := v = some (.int r) ∧ Fr n0 L ∧ Keep h0 h [a1, a4] ∧ Exa Z h a1 "com/example/cellwright/cellwright/hive/Utf16Le$Decoder" ∧ Fld Z h a1 "com/example/cellwright/cellwright/hive/Utf16Le$Decoder" "oddByte" "I" (.int (-1 : Int32)) ∧ Fld Z h a1 "com/example/cellwright/cellwright/hive/Utf16Le$Decoder" "high" "C" (.int (0 : Int32)) ∧ OwnA Z h a4 .char M f
set_option maxRecDepth 65536 in
set_option maxHeartbeats 40000000 in
theorem rmFH (l : Launch) (Z : State) (a0 : Array Value) (hw : ∀ d ∈ tables_1, d.before a0 Z = true) (ws : List Jvm.Cond) (a1 : Addr) (a4 : Addr) (pa : Int32) (M : Nat) (f : Nat → Value) (o : Int32) (k : Nat) (cu : Int32) (h0 : Heap) (n0 : Nat) (Z0 : n0 ≤ h0.size) (Ex : Exa Z h0 a1 "com/example/cellwright/cellwright/hive/Utf16Le$Decoder") (Fo : Fld Z h0 a1 "com/example/cellwright/cellwright/hive/Utf16Le$Decoder" "oddByte" "I" (.int o)) (Fh : Fld Z h0 a1 "com/example/cellwright/cellwright/hive/Utf16Le$Decoder" "high" "C" (.int cu)) (At : OwnA Z h0 a4 .char M f) (g_a1 : n0 ≤ a1) (g_a4 : n0 ≤ a4) (n41 : a4 ≠ a1) (hj : ¬ pa < 0) (hk : pa.toNatClampNeg = k) (hn : k < M) (hnz : ¬ cu = (0 : Int32)) :
    MetFree l (⟨"com/example/cellwright/cellwright/hive/Utf16Le$Decoder", "finish", "([CI)I"⟩ : MethodName) (head1 (Jvm.Cond.code (⟨"com/example/cellwright/cellwright/hive/Utf16Le$Decoder", "finish", "([CI)I"⟩ : MethodName) prog_97_method_4_code 4 (some .int) :: ws) ({ frames := 0, cells := 0, slots := 0, locals := 0 } : Room)) (fun a U => a = #[(.ref a1), (.ref a4), (.int pa)] ∧ Z.Warmed39 U.vm ∧ U.heap = h0) (fun _ _ _ _ _ => True) (fun _ U o U' => ∃ v L, o = .returned v ∧ QF Z a1 a4 M (own_upd f k (.int (65533 : Int32))) (pa + (1 : Int32)) h0 n0 v U'.heap L ∧ FrameEnd U o U' L ({ frames := 0, cells := 0, slots := 0, locals := 0 } : Room).cells ({ frames := 0, cells := 0, slots := 0, locals := 0 } : Room).slots) := by
  refine MetFree.of_bodySF (plainFor_of_name own_pn2) hisR ?_
  intro p e s m args below meth c s₁ Bd hml0 hP hK
  obtain ⟨rfl, hZ, hh⟩ := hP
  have hx := Bd.exec
  have hby := Bd.bytes
  have hml : c.maxLocals = 4 := hml0
  have hown : s.vm.findClass "com/example/cellwright/cellwright/hive/Utf16Le$Decoder" = some m.cls := findClass_of_methodNamed Bd.named
  have hnm := (name_of_methodNamed Bd.named Bd.method).1
  have X0 : Stand p l e ({ frames := 0, cells := 0, slots := 0, locals := 0 } : Room) s m #[(.ref a1), (.ref a4), (.int pa)] below meth c s₁ [] 0 0 := Stand.of_body Bd
  have e0 : s₁.heap = h0 := by rw [← hh, Bd.state]; rfl
  have N0 := Fr.nil n0
  have ef : entryFrame m #[(.ref a1), (.ref a4), (.int pa)] 4 = mkF m 0 #[.val (.ref a1), .val (.ref a4), .val (.int pa), .unset] [] := by first | (simp [entryFrame, mkF, argsToLocals, Value.category]; done) | rfl
  have pre0 : ∀ t, Steps p.tables e below (s₁.setTop (mkF m 0 #[.val (.ref a1), .val (.ref a4), .val (.int pa), .unset] [])) t → Steps p.tables e below (s₁.setTop (entryFrame m #[(.ref a1), (.ref a4), (.int pa)] 4)) t := fun t k => castTop ef k
  obtain ⟨T101, X101, e101, st101⟩ := getF X0 hx hZ hown (host := "") (Or.inl (hw _ (List.mem_of_getElem? (i := 23) rfl))) Via.refl e0 Fh (g := (mkF m 3 #[.val (.ref a1), .val (.ref a4), .val (.int pa), .val (.int pa)] [(.ref a1)])) rfl rfl (hb hby d6_3)
  obtain ⟨T102, h102, X102, e102, W102, V102, st102⟩ := own_stC X101 hx hZ e101 At (j := pa) k hj hk hn (g := (mkF m 13 #[.val (.ref a1), .val (.ref a4), .val (.int pa), .val (.int pa)] [(.int (65533 : Int32)), (.int pa), (.ref a4)])) rfl rfl (hb hby d6_13)
  have Z102 : n0 ≤ h102.size := Nat.le_trans Z0 (Nat.le_of_eq W102.size.symm)
  have KC102 : Keep h0 h102 [a1, a4] := (Keep.refl h0 [a1, a4]).wr W102 (Or.inl (List.mem_of_getElem? (i := 1) rfl))
  have N102 := Fr.snoc X102 N0 g_a4
  have f103 := (Ex.wr W102)
  have f104 := (Fh.other W102 (Or.inl (Ne.symm n41)))
  obtain ⟨T105, h105, X105, e105, W105, st105⟩ := putFN X102 hx hZ hown (hw _ (List.mem_of_getElem? (i := 23) rfl)) Via.refl e102 f104 f103 (Or.inl (hw _ (List.mem_of_getElem? (i := 24) rfl))) (hw _ (List.mem_of_getElem? (i := 8) rfl)) (ty := .char) (v' := .int (0 : Int32)) (by decide) rfl rfl (g := (mkF m 19 #[.val (.ref a1), .val (.ref a4), .val (.int pa), .val (.int (pa + (1 : Int32)))] [(.int (0 : Int32)), (.ref a1)])) rfl rfl (hb hby d6_19)
  have F105 := f104.same W105
  have Z105 : n0 ≤ h105.size := Nat.le_trans Z102 (Nat.le_of_eq W105.size.symm)
  have KC105 : Keep h0 h105 [a1, a4] := KC102.wr W105 (Or.inl (List.mem_of_getElem? (i := 0) rfl))
  have N105 := Fr.snoc X105 N102 g_a1
  have f106 := (f103.wr W105)
  have f107 := ((Fo.other W102 (Or.inl (Ne.symm n41))).other W105 (Or.inr (slot_ne (Or.inl (hw _ (List.mem_of_getElem? (i := 17) rfl))) (Or.inl (hw _ (List.mem_of_getElem? (i := 24) rfl))) (by decide) (t := .int) (t' := .char) (by decide) (by decide))))
  obtain ⟨T108, h108, X108, e108, W108, st108⟩ := putF X105 hx hZ hown (host := "") (Or.inl (hw _ (List.mem_of_getElem? (i := 16) rfl))) Via.refl e105 f107 f106 (Or.inl (hw _ (List.mem_of_getElem? (i := 17) rfl))) (hw _ (List.mem_of_getElem? (i := 8) rfl)) (ty := .int) (by decide) rfl rfl (g := (mkF m 24 #[.val (.ref a1), .val (.ref a4), .val (.int pa), .val (.int (pa + (1 : Int32)))] [(.int (-1 : Int32)), (.ref a1)])) rfl rfl (hb hby d6_24)
  have F108 := f107.same W108
  have Z108 : n0 ≤ h108.size := Nat.le_trans Z105 (Nat.le_of_eq W108.size.symm)
  have KC108 : Keep h0 h108 [a1, a4] := KC105.wr W108 (Or.inl (List.mem_of_getElem? (i := 0) rfl))
  have N108 := Fr.snoc X108 N105 g_a1
  have f109 := (f106.wr W108)
  have f110 := (F105.other W108 (Or.inr (slot_ne (Or.inl (hw _ (List.mem_of_getElem? (i := 24) rfl))) (Or.inl (hw _ (List.mem_of_getElem? (i := 17) rfl))) (by decide) (t := .char) (t' := .int) (by decide) (by decide))))
  have f111 := ((V102.other W105 n41).other W108 n41)
  obtain ⟨fs, hr, hrun, hended, hW, hsame⟩ := X108.leave (v := some (.int (pa + (1 : Int32)))) (fun h => by rw [Bd.returns] at h; cases h)
  refine ⟨_, _, pre0 _ ?_, hrun, hended, _, _, rfl, ?_, ⟨_, rfl⟩, hW, hsame.mono (by decide) (by decide)⟩
  · show Steps p.tables e below (s₁.setTop (mkF m 0 #[.val (.ref a1), .val (.ref a4), .val (.int pa), .unset] [])) _
    refine XS.iloadN X0.here hx rfl (hb hby d6_0) rfl ?_
    show Steps p.tables e below (s₁.setTop (mkF m 1 #[.val (.ref a1), .val (.ref a4), .val (.int pa), .unset] [(.int pa)])) _
    refine XS.istoreN X0.here hx rfl (hb hby d6_1) rfl (l' := #[.val (.ref a1), .val (.ref a4), .val (.int pa), .val (.int pa)]) rfl ?_
    show Steps p.tables e below (s₁.setTop (mkF m 2 #[.val (.ref a1), .val (.ref a4), .val (.int pa), .val (.int pa)] [])) _
    refine XS.aloadN X0.here hx rfl (hb hby d6_2) rfl rfl ?_
    show Steps p.tables e below (s₁.setTop (mkF m 3 #[.val (.ref a1), .val (.ref a4), .val (.int pa), .val (.int pa)] [(.ref a1)])) _
    refine st101 _ ?_
    show Steps p.tables e below (T101.setTop (mkF m 6 #[.val (.ref a1), .val (.ref a4), .val (.int pa), .val (.int pa)] [(.int cu)])) _
    refine XS.ifNo X101.here hx rfl (hb hby d6_6) rfl ((if0 _ _).trans (feq hnz).1) ?_
    show Steps p.tables e below (T101.setTop (mkF m 9 #[.val (.ref a1), .val (.ref a4), .val (.int pa), .val (.int pa)] [])) _
    refine XS.aloadN X101.here hx rfl (hb hby d6_9) rfl rfl ?_
    show Steps p.tables e below (T101.setTop (mkF m 10 #[.val (.ref a1), .val (.ref a4), .val (.int pa), .val (.int pa)] [(.ref a4)])) _
    refine XS.iloadN X101.here hx rfl (hb hby d6_10) rfl ?_
    show Steps p.tables e below (T101.setTop (mkF m 11 #[.val (.ref a1), .val (.ref a4), .val (.int pa), .val (.int pa)] [(.int pa), (.ref a4)])) _
    refine X101.ldcInt hx hown (mvT hZ (hw _ (List.mem_of_getElem? (i := 46) rfl))) (g := (mkF m 11 #[.val (.ref a1), .val (.ref a4), .val (.int pa), .val (.int pa)] [(.int pa), (.ref a4)])) rfl (hb hby d6_11) _ ?_
    show Steps p.tables e below (T101.setTop (mkF m 13 #[.val (.ref a1), .val (.ref a4), .val (.int pa), .val (.int pa)] [(.int (65533 : Int32)), (.int pa), (.ref a4)])) _
    refine st102 _ ?_
    show Steps p.tables e below (T102.setTop (mkF m 14 #[.val (.ref a1), .val (.ref a4), .val (.int pa), .val (.int pa)] [])) _
    refine XS.iinc X102.here hx rfl (hb hby d6_14) rfl (l' := #[.val (.ref a1), .val (.ref a4), .val (.int pa), .val (.int (pa + (1 : Int32)))]) rfl ?_
    show Steps p.tables e below (T102.setTop (mkF m 17 #[.val (.ref a1), .val (.ref a4), .val (.int pa), .val (.int (pa + (1 : Int32)))] [])) _
    refine XS.aloadN X102.here hx rfl (hb hby d6_17) rfl rfl ?_
    show Steps p.tables e below (T102.setTop (mkF m 18 #[.val (.ref a1), .val (.ref a4), .val (.int pa), .val (.int (pa + (1 : Int32)))] [(.ref a1)])) _
    refine XS.iconst X102.here hx rfl (hb hby d6_18) ?_
    show Steps p.tables e below (T102.setTop (mkF m 19 #[.val (.ref a1), .val (.ref a4), .val (.int pa), .val (.int (pa + (1 : Int32)))] [(.int (0 : Int32)), (.ref a1)])) _
    refine st105 _ ?_
    show Steps p.tables e below (T105.setTop (mkF m 22 #[.val (.ref a1), .val (.ref a4), .val (.int pa), .val (.int (pa + (1 : Int32)))] [])) _
    refine XS.aloadN X105.here hx rfl (hb hby d6_22) rfl rfl ?_
    show Steps p.tables e below (T105.setTop (mkF m 23 #[.val (.ref a1), .val (.ref a4), .val (.int pa), .val (.int (pa + (1 : Int32)))] [(.ref a1)])) _
    refine XS.iconst X105.here hx rfl (hb hby d6_23) ?_
    show Steps p.tables e below (T105.setTop (mkF m 24 #[.val (.ref a1), .val (.ref a4), .val (.int pa), .val (.int (pa + (1 : Int32)))] [(.int (-1 : Int32)), (.ref a1)])) _
    refine st108 _ ?_
    show Steps p.tables e below (T108.setTop (mkF m 27 #[.val (.ref a1), .val (.ref a4), .val (.int pa), .val (.int (pa + (1 : Int32)))] [])) _
    refine XS.iloadN X108.here hx rfl (hb hby d6_27) rfl ?_
    show Steps p.tables e below (T108.setTop (mkF m 28 #[.val (.ref a1), .val (.ref a4), .val (.int pa), .val (.int (pa + (1 : Int32)))] [(.int (pa + (1 : Int32)))])) _
    exact own_retI X108 hx Bd.returns (hb hby d6_28) hr
  · show QF Z a1 a4 M (own_upd f k (.int (65533 : Int32))) (pa + (1 : Int32)) h0 n0 _ T108.heap _
    rw [e108]
    exact ⟨rfl, N108, KC108, f109, F108, f110, f111⟩
set_option maxRecDepth 65536 in
set_option maxHeartbeats 40000000 in
theorem rmFN (l : Launch) (Z : State) (a0 : Array Value) (hw : ∀ d ∈ tables_1, d.before a0 Z = true) (ws : List Jvm.Cond) (a1 : Addr) (a4 : Addr) (pa : Int32) (M : Nat) (f : Nat → Value) (o : Int32) (h0 : Heap) (n0 : Nat) (Z0 : n0 ≤ h0.size) (Ex : Exa Z h0 a1 "com/example/cellwright/cellwright/hive/Utf16Le$Decoder") (Fo : Fld Z h0 a1 "com/example/cellwright/cellwright/hive/Utf16Le$Decoder" "oddByte" "I" (.int o)) (Fh : Fld Z h0 a1 "com/example/cellwright/cellwright/hive/Utf16Le$Decoder" "high" "C" (.int (0 : Int32))) (At : OwnA Z h0 a4 .char M f) (g_a1 : n0 ≤ a1) (g_a4 : n0 ≤ a4) (n41 : a4 ≠ a1) :
    MetFree l (⟨"com/example/cellwright/cellwright/hive/Utf16Le$Decoder", "finish", "([CI)I"⟩ : MethodName) (head1 (Jvm.Cond.code (⟨"com/example/cellwright/cellwright/hive/Utf16Le$Decoder", "finish", "([CI)I"⟩ : MethodName) prog_97_method_4_code 4 (some .int) :: ws) ({ frames := 0, cells := 0, slots := 0, locals := 0 } : Room)) (fun a U => a = #[(.ref a1), (.ref a4), (.int pa)] ∧ Z.Warmed39 U.vm ∧ U.heap = h0) (fun _ _ _ _ _ => True) (fun _ U o U' => ∃ v L, o = .returned v ∧ QF Z a1 a4 M f pa h0 n0 v U'.heap L ∧ FrameEnd U o U' L ({ frames := 0, cells := 0, slots := 0, locals := 0 } : Room).cells ({ frames := 0, cells := 0, slots := 0, locals := 0 } : Room).slots) := by
  refine MetFree.of_bodySF (plainFor_of_name own_pn2) hisR ?_
  intro p e s m args below meth c s₁ Bd hml0 hP hK
  obtain ⟨rfl, hZ, hh⟩ := hP
  have hx := Bd.exec
  have hby := Bd.bytes
  have hml : c.maxLocals = 4 := hml0
  have hown : s.vm.findClass "com/example/cellwright/cellwright/hive/Utf16Le$Decoder" = some m.cls := findClass_of_methodNamed Bd.named
  have hnm := (name_of_methodNamed Bd.named Bd.method).1
  have X0 : Stand p l e ({ frames := 0, cells := 0, slots := 0, locals := 0 } : Room) s m #[(.ref a1), (.ref a4), (.int pa)] below meth c s₁ [] 0 0 := Stand.of_body Bd
  have e0 : s₁.heap = h0 := by rw [← hh, Bd.state]; rfl
  have N0 := Fr.nil n0
  have ef : entryFrame m #[(.ref a1), (.ref a4), (.int pa)] 4 = mkF m 0 #[.val (.ref a1), .val (.ref a4), .val (.int pa), .unset] [] := by first | (simp [entryFrame, mkF, argsToLocals, Value.category]; done) | rfl
  have pre0 : ∀ t, Steps p.tables e below (s₁.setTop (mkF m 0 #[.val (.ref a1), .val (.ref a4), .val (.int pa), .unset] [])) t → Steps p.tables e below (s₁.setTop (entryFrame m #[(.ref a1), (.ref a4), (.int pa)] 4)) t := fun t k => castTop ef k
  obtain ⟨T101, X101, e101, st101⟩ := getF X0 hx hZ hown (host := "") (Or.inl (hw _ (List.mem_of_getElem? (i := 23) rfl))) Via.refl e0 Fh (g := (mkF m 3 #[.val (.ref a1), .val (.ref a4), .val (.int pa), .val (.int pa)] [(.ref a1)])) rfl rfl (hb hby d6_3)
  obtain ⟨T102, h102, X102, e102, W102, st102⟩ := putFN X101 hx hZ hown (hw _ (List.mem_of_getElem? (i := 23) rfl)) Via.refl e101 Fh Ex (Or.inl (hw _ (List.mem_of_getElem? (i := 24) rfl))) (hw _ (List.mem_of_getElem? (i := 8) rfl)) (ty := .char) (v' := .int (0 : Int32)) (by decide) rfl rfl (g := (mkF m 19 #[.val (.ref a1), .val (.ref a4), .val (.int pa), .val (.int pa)] [(.int (0 : Int32)), (.ref a1)])) rfl rfl (hb hby d6_19)
  have F102 := Fh.same W102
  have Z102 : n0 ≤ h102.size := Nat.le_trans Z0 (Nat.le_of_eq W102.size.symm)
  have KC102 : Keep h0 h102 [a1, a4] := (Keep.refl h0 [a1, a4]).wr W102 (Or.inl (List.mem_of_getElem? (i := 0) rfl))
  have N102 := Fr.snoc X102 N0 g_a1
  have f103 := (Ex.wr W102)
  have f104 := (Fo.other W102 (Or.inr (slot_ne (Or.inl (hw _ (List.mem_of_getElem? (i := 17) rfl))) (Or.inl (hw _ (List.mem_of_getElem? (i := 24) rfl))) (by decide) (t := .int) (t' := .char) (by decide) (by decide))))
  obtain ⟨T105, h105, X105, e105, W105, st105⟩ := putF X102 hx hZ hown (host := "") (Or.inl (hw _ (List.mem_of_getElem? (i := 16) rfl))) Via.refl e102 f104 f103 (Or.inl (hw _ (List.mem_of_getElem? (i := 17) rfl))) (hw _ (List.mem_of_getElem? (i := 8) rfl)) (ty := .int) (by decide) rfl rfl (g := (mkF m 24 #[.val (.ref a1), .val (.ref a4), .val (.int pa), .val (.int pa)] [(.int (-1 : Int32)), (.ref a1)])) rfl rfl (hb hby d6_24)
  have F105 := f104.same W105
  have Z105 : n0 ≤ h105.size := Nat.le_trans Z102 (Nat.le_of_eq W105.size.symm)
  have KC105 : Keep h0 h105 [a1, a4] := KC102.wr W105 (Or.inl (List.mem_of_getElem? (i := 0) rfl))
  have N105 := Fr.snoc X105 N102 g_a1
  have f106 := (f103.wr W105)
  have f107 := (F102.other W105 (Or.inr (slot_ne (Or.inl (hw _ (List.mem_of_getElem? (i := 24) rfl))) (Or.inl (hw _ (List.mem_of_getElem? (i := 17) rfl))) (by decide) (t := .char) (t' := .int) (by decide) (by decide))))
  have f108 := ((At.other W102 n41).other W105 n41)
  obtain ⟨fs, hr, hrun, hended, hW, hsame⟩ := X105.leave (v := some (.int pa)) (fun h => by rw [Bd.returns] at h; cases h)
  refine ⟨_, _, pre0 _ ?_, hrun, hended, _, _, rfl, ?_, ⟨_, rfl⟩, hW, hsame.mono (by decide) (by decide)⟩
  · show Steps p.tables e below (s₁.setTop (mkF m 0 #[.val (.ref a1), .val (.ref a4), .val (.int pa), .unset] [])) _
    refine XS.iloadN X0.here hx rfl (hb hby d6_0) rfl ?_
    show Steps p.tables e below (s₁.setTop (mkF m 1 #[.val (.ref a1), .val (.ref a4), .val (.int pa), .unset] [(.int pa)])) _
    refine XS.istoreN X0.here hx rfl (hb hby d6_1) rfl (l' := #[.val (.ref a1), .val (.ref a4), .val (.int pa), .val (.int pa)]) rfl ?_
    show Steps p.tables e below (s₁.setTop (mkF m 2 #[.val (.ref a1), .val (.ref a4), .val (.int pa), .val (.int pa)] [])) _
    refine XS.aloadN X0.here hx rfl (hb hby d6_2) rfl rfl ?_
    show Steps p.tables e below (s₁.setTop (mkF m 3 #[.val (.ref a1), .val (.ref a4), .val (.int pa), .val (.int pa)] [(.ref a1)])) _
    refine st101 _ ?_
    show Steps p.tables e below (T101.setTop (mkF m 6 #[.val (.ref a1), .val (.ref a4), .val (.int pa), .val (.int pa)] [(.int (0 : Int32))])) _
    refine XS.ifYes X101.here hx rfl (pc0 := 6) (pc' := 17) rfl (hb hby d6_6) rfl ((if0 _ _).trans (teq rfl).1) (by decide) (by decide) ?_
    show Steps p.tables e below (T101.setTop (mkF m 17 #[.val (.ref a1), .val (.ref a4), .val (.int pa), .val (.int pa)] [])) _
    refine XS.aloadN X101.here hx rfl (hb hby d6_17) rfl rfl ?_
    show Steps p.tables e below (T101.setTop (mkF m 18 #[.val (.ref a1), .val (.ref a4), .val (.int pa), .val (.int pa)] [(.ref a1)])) _
    refine XS.iconst X101.here hx rfl (hb hby d6_18) ?_
    show Steps p.tables e below (T101.setTop (mkF m 19 #[.val (.ref a1), .val (.ref a4), .val (.int pa), .val (.int pa)] [(.int (0 : Int32)), (.ref a1)])) _
    refine st102 _ ?_
    show Steps p.tables e below (T102.setTop (mkF m 22 #[.val (.ref a1), .val (.ref a4), .val (.int pa), .val (.int pa)] [])) _
    refine XS.aloadN X102.here hx rfl (hb hby d6_22) rfl rfl ?_
    show Steps p.tables e below (T102.setTop (mkF m 23 #[.val (.ref a1), .val (.ref a4), .val (.int pa), .val (.int pa)] [(.ref a1)])) _
    refine XS.iconst X102.here hx rfl (hb hby d6_23) ?_
    show Steps p.tables e below (T102.setTop (mkF m 24 #[.val (.ref a1), .val (.ref a4), .val (.int pa), .val (.int pa)] [(.int (-1 : Int32)), (.ref a1)])) _
    refine st105 _ ?_
    show Steps p.tables e below (T105.setTop (mkF m 27 #[.val (.ref a1), .val (.ref a4), .val (.int pa), .val (.int pa)] [])) _
    refine XS.iloadN X105.here hx rfl (hb hby d6_27) rfl ?_
    show Steps p.tables e below (T105.setTop (mkF m 28 #[.val (.ref a1), .val (.ref a4), .val (.int pa), .val (.int pa)] [(.int pa)])) _
    exact own_retI X105 hx Bd.returns (hb hby d6_28) hr
  · show QF Z a1 a4 M f pa h0 n0 _ T105.heap _
    rw [e105]
    exact ⟨rfl, N105, KC105, f106, F105, f107, f108⟩
theorem own_nn (x : Int8) : x.toInt32.toInt8.toInt32 = x.toInt32 := by simp
theorem own_hnz {c : Int32} (h : ¬ c < (55296 : Int32)) : ¬ c = (0 : Int32) := fun q => h (by rw [q]; decide)
theorem own_ex (sel : Int32) : ∃ x : Nat, ((sel.toUInt32 >>> ((5 : Int32) &&& 31).toUInt32).toInt32 &&& (3 : Int32)).toInt = (x : Int) ∧ x ≤ 3 := by
  have e := Jvm.Kit.i32_mask ((sel.toUInt32 >>> ((5 : Int32) &&& 31).toUInt32).toInt32) 3 (k := 2) (by decide) (by decide)
  refine ⟨(((sel.toUInt32 >>> ((5 : Int32) &&& 31).toUInt32).toInt32).toInt % 2 ^ 2).toNat, ?_, ?_⟩ <;> omega
theorem own_aaH {aa sel : Int32} (h : aa = (0 : Int32) + ((sel.toUInt32 >>> ((5 : Int32) &&& 31).toUInt32).toInt32 &&& (3 : Int32))) : ¬ aa < 0 ∧ ∃ k, aa.toNatClampNeg = k ∧ 0 ≤ k ∧ k ≤ 4 := by
  obtain ⟨x, hx, h3⟩ := own_ex sel
  obtain ⟨h1, h2⟩ := own_ix (j := 0) (k := 0) (by decide) rfl hx (by omega)
  rw [← h] at h1 h2
  exact ⟨h1, _, h2, by omega, by omega⟩
theorem own_aaN {aa sel : Int32} (h : aa = (1 : Int32) + ((sel.toUInt32 >>> ((5 : Int32) &&& 31).toUInt32).toInt32 &&& (3 : Int32))) : ¬ aa < 0 ∧ ∃ k, aa.toNatClampNeg = k ∧ 1 ≤ k ∧ k ≤ 4 := by
  obtain ⟨x, hx, h3⟩ := own_ex sel
  obtain ⟨h1, h2⟩ := own_ix (j := 1) (k := 1) (by decide) rfl hx (by omega)
  rw [← h] at h1 h2
  exact ⟨h1, _, h2, by omega, by omega⟩
theorem own_255 (i : Nat) (hi : i < 32) : (255#32).getLsbD i = decide (i < 8) := by
  rw [show (255#32) = BitVec.ofNat 32 (2 ^ 8 - 1) from rfl, BitVec.getLsbD_ofNat, Nat.testBit_two_pow_sub_one]
  simp [hi]
theorem own_low8 (w : BitVec 32) (i : Nat) (hi : i < 32) : (BitVec.signExtend 32 (BitVec.signExtend 8 w) &&& 255#32).getLsbD i = (decide (i < 8) && w.getLsbD i) := by
  rw [BitVec.signExtend_eq_setWidth_of_le w (by decide), BitVec.getLsbD_and, BitVec.getLsbD_signExtend, own_255 i hi]
  by_cases h : i < 8
  · simp [h, hi]
  · simp [h]
theorem own_join16 (w : BitVec 32) (h : w = (w.setWidth 16).setWidth 32) : (((BitVec.signExtend 32 (BitVec.signExtend 8 w) &&& 255#32) ||| (BitVec.signExtend 32 (BitVec.signExtend 8 (w >>> 8)) &&& 255#32) <<< 8).setWidth 16).setWidth 32 = w := by
  apply BitVec.eq_of_getLsbD_eq
  intro i hi
  have hw : w.getLsbD i = (decide (i < 16) && w.getLsbD i) := by
    conv => lhs; rw [h]
    simp [BitVec.getLsbD_setWidth, hi]
  rw [hw]
  simp only [BitVec.getLsbD_setWidth, BitVec.getLsbD_or, BitVec.getLsbD_shiftLeft, hi, decide_true, Bool.true_and]
  rw [own_low8 w i hi, own_low8 _ (i - 8) (by omega), BitVec.getLsbD_ushiftRight]
  by_cases h1 : i < 8
  · simp [h1, show i < 16 by omega]
  · by_cases h2 : i < 16
    · simp [h1, h2, show i - 8 < 8 by omega, show 8 + (i - 8) = i by omega]
    · simp [h2]
theorem own_join {c : Int32} (h : own_ch c) : (((c.toInt8.toInt32 &&& (255 : Int32)) ||| (((((c.toUInt32 >>> ((8 : Int32) &&& 31).toUInt32).toInt32).toInt8.toInt32) &&& (255 : Int32)) <<< ((8 : Int32) &&& 31))).toUInt32.toUInt16.toUInt32.toInt32) = c := by
  apply Int32.toBitVec_inj.mp
  exact own_join16 c.toBitVec (congrArg Int32.toBitVec h)

def QLaw (n0 : Nat) (v : Option Value) (h : Heap) (L : List Loc) : Prop := v = some (.int 1) ∧ Fr n0 L
set_option maxRecDepth 65536 in
set_option maxHeartbeats 40000000 in
theorem sg0 {p : Program} {l : Launch} {e : Env} {s : State} {m : MethodId} {args : Array Value} {below : List Frame} {meth : Method} {c : Code} {T0 : State} {locs : List Loc} {Z : State} {a0 : Array Value} (p0 : Int32) (p1 : Int32) (p2 : Int32) (p3 : Int32) (h0 : Heap) (n0 : Nat) (Z0 : n0 ≤ h0.size) (X0 : Stand p l e room_1 s m args below meth c T0 locs 0 0) (N0 : Fr n0 locs) (hx : p.tables.exec = Jvm.exec) (hZ : Z.Warmed39 s.vm) (hw : ∀ d ∈ tables_1, d.before a0 Z = true) (hby : c.code = code) (hml : c.maxLocals = 20) (hown : s.vm.findClass "com/example/cellwright/cellwright/hive/DecoderFinishPinLaw" = some m.cls) (e0 : T0.heap = h0)  :
    ∃ (T' : State) (locs' : List Loc) (cu : Int32) (d : Int32), Stand p l e room_1 s m args below meth c T' locs' 0 0 ∧ Fr n0 locs' ∧ n0 ≤ T'.heap.size ∧ own_ch cu ∧ own_ch d ∧
      ∀ target, Steps p.tables e below (T'.setTop (mkF m 16 #[.val (.int p0), .val (.int p1), .val (.int p2), .val (.int p3), .val (.int cu), .val (.int d), .unset, .unset, .unset, .unset, .unset, .unset, .unset, .unset, .unset, .unset, .unset, .unset, .unset, .unset] [])) target → Steps p.tables e below (T0.setTop (mkF m 0 #[.val (.int p0), .val (.int p1), .val (.int p2), .val (.int p3), .unset, .unset, .unset, .unset, .unset, .unset, .unset, .unset, .unset, .unset, .unset, .unset, .unset, .unset, .unset, .unset] [])) target := by
  obtain ⟨_, _, ⟨T101, L101, k101, n101⟩, -, X101, ⟨Lc101, hQ101, l101, y101, z101⟩, st101⟩ := Jvm.LawKit.callS X0 hx (y := (⟨"com/example/cellwright/cellwright/hive/DecoderFinishPinLaw", "pick", "(II)C"⟩ : MethodName)) hown (mvT hZ (hw _ (List.mem_of_getElem? (i := 0) rfl))) (mvT hZ (hw _ (List.mem_of_getElem? (i := 1) rfl))) (mvT hZ (hw _ (List.mem_of_getElem? (i := 2) rfl))) (mvT hZ (hw _ (List.mem_of_getElem? (i := 3) rfl))) (by decide) (backOf (W := 0) (rm_pick l Z a0 hw [] p2 p0 h0 n0 Z0 ) hZ (hw _ (List.mem_of_getElem? (i := 3) rfl)) (hw _ (List.mem_of_getElem? (i := 2) rfl)) (by decide) (by decide)) (g := (mkF m 2 #[.val (.int p0), .val (.int p1), .val (.int p2), .val (.int p3), .unset, .unset, .unset, .unset, .unset, .unset, .unset, .unset, .unset, .unset, .unset, .unset, .unset, .unset, .unset, .unset] [(.int p0), (.int p2)])) rfl (by rw [hml]; rfl) (argsL := [(.int p2), (.int p0)]) (rest := []) (lenOf own_pd2 rfl) rfl (by show 2 * 0 + _ ≤ _; exact Nat.le_of_eq rfl) (hb hby at_2) (fun _ _ => ⟨rfl, e0, (by decide : 0 + 0 ≤ _), (by decide : 0 + 0 ≤ _)⟩)
  dsimp only [Pt.U, Pt.locs, Pt.cells, Pt.slots] at X101 l101 y101 z101 st101 hQ101
  subst l101 y101 z101
  obtain ⟨cu, rfl, hch_cu, Nq101, e101⟩ := hQ101
  have N101 := Fr.app N0 Nq101
  obtain ⟨_, _, ⟨T102, L102, k102, n102⟩, -, X102, ⟨Lc102, hQ102, l102, y102, z102⟩, st102⟩ := Jvm.LawKit.callS X101 hx (y := (⟨"com/example/cellwright/cellwright/hive/DecoderFinishPinLaw", "pick", "(II)C"⟩ : MethodName)) hown (mvT hZ (hw _ (List.mem_of_getElem? (i := 0) rfl))) (mvT hZ (hw _ (List.mem_of_getElem? (i := 1) rfl))) (mvT hZ (hw _ (List.mem_of_getElem? (i := 2) rfl))) (mvT hZ (hw _ (List.mem_of_getElem? (i := 3) rfl))) (by decide) (backOf (W := 0) (rm_pick l Z a0 hw [] ((p2.toUInt32 >>> ((2 : Int32) &&& 31).toUInt32).toInt32) p1 h0 n0 Z0 ) hZ (hw _ (List.mem_of_getElem? (i := 3) rfl)) (hw _ (List.mem_of_getElem? (i := 2) rfl)) (by decide) (by decide)) (g := (mkF m 11 #[.val (.int p0), .val (.int p1), .val (.int p2), .val (.int p3), .val (.int cu), .unset, .unset, .unset, .unset, .unset, .unset, .unset, .unset, .unset, .unset, .unset, .unset, .unset, .unset, .unset] [(.int p1), (.int ((p2.toUInt32 >>> ((2 : Int32) &&& 31).toUInt32).toInt32))])) rfl (by rw [hml]; rfl) (argsL := [(.int ((p2.toUInt32 >>> ((2 : Int32) &&& 31).toUInt32).toInt32)), (.int p1)]) (rest := []) (lenOf own_pd2 rfl) rfl (by show 2 * 0 + _ ≤ _; exact Nat.le_of_eq rfl) (hb hby at_11) (fun _ _ => ⟨rfl, e101, (by decide : 0 + 0 ≤ _), (by decide : 0 + 0 ≤ _)⟩)
  dsimp only [Pt.U, Pt.locs, Pt.cells, Pt.slots] at X102 l102 y102 z102 st102 hQ102
  subst l102 y102 z102
  obtain ⟨d, rfl, hch_d, Nq102, e102⟩ := hQ102
  have N102 := Fr.app N101 Nq102
  have Zend : n0 ≤ T102.heap.size := by rw [e102]; exact Z0
  have eend := e102
  refine ⟨T102, _, cu, d, X102, N102, Zend, hch_cu, hch_d, fun target kt => ?_⟩
  show Steps p.tables e below (T0.setTop (mkF m 0 #[.val (.int p0), .val (.int p1), .val (.int p2), .val (.int p3), .unset, .unset, .unset, .unset, .unset, .unset, .unset, .unset, .unset, .unset, .unset, .unset, .unset, .unset, .unset, .unset] [])) _
  refine XS.iloadN X0.here hx rfl (hb hby at_0) rfl ?_
  show Steps p.tables e below (T0.setTop (mkF m 1 #[.val (.int p0), .val (.int p1), .val (.int p2), .val (.int p3), .unset, .unset, .unset, .unset, .unset, .unset, .unset, .unset, .unset, .unset, .unset, .unset, .unset, .unset, .unset, .unset] [(.int p2)])) _
  refine XS.iloadN X0.here hx rfl (hb hby at_1) rfl ?_
  show Steps p.tables e below (T0.setTop (mkF m 2 #[.val (.int p0), .val (.int p1), .val (.int p2), .val (.int p3), .unset, .unset, .unset, .unset, .unset, .unset, .unset, .unset, .unset, .unset, .unset, .unset, .unset, .unset, .unset, .unset] [(.int p0), (.int p2)])) _
  refine st101 _ ?_
  show Steps p.tables e below (T101.setTop (mkF m 5 #[.val (.int p0), .val (.int p1), .val (.int p2), .val (.int p3), .unset, .unset, .unset, .unset, .unset, .unset, .unset, .unset, .unset, .unset, .unset, .unset, .unset, .unset, .unset, .unset] [(.int cu)])) _
  refine XS.istore X101.here hx rfl (hb hby at_5) rfl (l' := #[.val (.int p0), .val (.int p1), .val (.int p2), .val (.int p3), .val (.int cu), .unset, .unset, .unset, .unset, .unset, .unset, .unset, .unset, .unset, .unset, .unset, .unset, .unset, .unset, .unset]) rfl ?_
  show Steps p.tables e below (T101.setTop (mkF m 7 #[.val (.int p0), .val (.int p1), .val (.int p2), .val (.int p3), .val (.int cu), .unset, .unset, .unset, .unset, .unset, .unset, .unset, .unset, .unset, .unset, .unset, .unset, .unset, .unset, .unset] [])) _
  refine XS.iloadN X101.here hx rfl (hb hby at_7) rfl ?_
  show Steps p.tables e below (T101.setTop (mkF m 8 #[.val (.int p0), .val (.int p1), .val (.int p2), .val (.int p3), .val (.int cu), .unset, .unset, .unset, .unset, .unset, .unset, .unset, .unset, .unset, .unset, .unset, .unset, .unset, .unset, .unset] [(.int p2)])) _
  refine XS.iconst X101.here hx rfl (hb hby at_8) ?_
  show Steps p.tables e below (T101.setTop (mkF m 9 #[.val (.int p0), .val (.int p1), .val (.int p2), .val (.int p3), .val (.int cu), .unset, .unset, .unset, .unset, .unset, .unset, .unset, .unset, .unset, .unset, .unset, .unset, .unset, .unset, .unset] [(.int (2 : Int32)), (.int p2)])) _
  refine XS.iushr X101.here hx rfl (hb hby at_9) rfl ?_
  show Steps p.tables e below (T101.setTop (mkF m 10 #[.val (.int p0), .val (.int p1), .val (.int p2), .val (.int p3), .val (.int cu), .unset, .unset, .unset, .unset, .unset, .unset, .unset, .unset, .unset, .unset, .unset, .unset, .unset, .unset, .unset] [(.int ((p2.toUInt32 >>> ((2 : Int32) &&& 31).toUInt32).toInt32))])) _
  refine XS.iloadN X101.here hx rfl (hb hby at_10) rfl ?_
  show Steps p.tables e below (T101.setTop (mkF m 11 #[.val (.int p0), .val (.int p1), .val (.int p2), .val (.int p3), .val (.int cu), .unset, .unset, .unset, .unset, .unset, .unset, .unset, .unset, .unset, .unset, .unset, .unset, .unset, .unset, .unset] [(.int p1), (.int ((p2.toUInt32 >>> ((2 : Int32) &&& 31).toUInt32).toInt32))])) _
  refine st102 _ ?_
  show Steps p.tables e below (T102.setTop (mkF m 14 #[.val (.int p0), .val (.int p1), .val (.int p2), .val (.int p3), .val (.int cu), .unset, .unset, .unset, .unset, .unset, .unset, .unset, .unset, .unset, .unset, .unset, .unset, .unset, .unset, .unset] [(.int d)])) _
  refine XS.istore X102.here hx rfl (hb hby at_14) rfl (l' := #[.val (.int p0), .val (.int p1), .val (.int p2), .val (.int p3), .val (.int cu), .val (.int d), .unset, .unset, .unset, .unset, .unset, .unset, .unset, .unset, .unset, .unset, .unset, .unset, .unset, .unset]) rfl ?_
  exact kt
set_option maxRecDepth 65536 in
set_option maxHeartbeats 40000000 in
theorem sg1H3 {p : Program} {l : Launch} {e : Env} {s : State} {m : MethodId} {args : Array Value} {below : List Frame} {meth : Method} {c : Code} {T0 : State} {locs : List Loc} {Z : State} {a0 : Array Value} (p0 : Int32) (p1 : Int32) (p2 : Int32) (p3 : Int32) (cu : Int32) (d : Int32) (h0 : Heap) (n0 : Nat) (Z0 : n0 ≤ h0.size) (X0 : Stand p l e room_1 s m args below meth c T0 locs 0 0) (N0 : Fr n0 locs) (hx : p.tables.exec = Jvm.exec) (hZ : Z.Warmed39 s.vm) (hw : ∀ d ∈ tables_1, d.before a0 Z = true) (hby : c.code = code) (hml : c.maxLocals = 20) (hown : s.vm.findClass "com/example/cellwright/cellwright/hive/DecoderFinishPinLaw" = some m.cls) (e0 : T0.heap = h0) (hch_cu : own_ch cu) (h1 : ¬ cu < (55296 : Int32)) (h2 : ¬ (56319 : Int32) < cu) (hb21 : ¬ (((p2.toUInt32 >>> ((4 : Int32) &&& 31).toUInt32).toInt32) &&& (1 : Int32)) = (0 : Int32)) :
    ∃ (T' : State) (locs' : List Loc) (s0 : Slot) (s1 : Slot) (s2 : Slot) (s3 : Slot) (s4 : Slot) (s6 : Slot) (s7 : Slot) (s8 : Slot) (s10 : Slot) (s13 : Slot) (s14 : Slot) (s16 : Slot) (s17 : Slot) (b9 : Addr) (b11 : Addr) (b12 : Addr), Stand p l e room_1 s m args below meth c T' locs' 5 19 ∧ Fr n0 locs' ∧ n0 ≤ T'.heap.size ∧ n0 ≤ b11 ∧ n0 ≤ b12 ∧ b9 ≠ b12 ∧ b9 ≠ b11 ∧ b11 ≠ b12 ∧ OwnA Z T'.heap b9 .byte 2 (own_upd (own_upd (fun _ => (.int (0 : Int32))) 0 (.int (d.toInt8.toInt32).toInt8.toInt32)) 1 (.int (((d.toUInt32 >>> ((8 : Int32) &&& 31).toUInt32).toInt32).toInt8.toInt32).toInt8.toInt32)) ∧ OwnA Z T'.heap b11 .char 4 (fun _ => .int (0 : Int32)) ∧ Exa Z T'.heap b12 "com/example/cellwright/cellwright/hive/Utf16Le$Decoder" ∧ Fld Z T'.heap b12 "com/example/cellwright/cellwright/hive/Utf16Le$Decoder" "oddByte" "I" (.int (-1 : Int32)) ∧ Fld Z T'.heap b12 "com/example/cellwright/cellwright/hive/Utf16Le$Decoder" "high" "C" (.int (0 : Int32)) ∧
      ∀ target, Steps p.tables e below (T'.setTop (mkF m 273 #[s0, s1, s2, s3, s4, .val (.int d), s6, s7, s8, .val (.ref b9), s10, .val (.ref b11), .val (.ref b12), s13, s14, .val (.int (1 : Int32)), s16, s17, .unset, .unset] [])) target → Steps p.tables e below (T0.setTop (mkF m 16 #[.val (.int p0), .val (.int p1), .val (.int p2), .val (.int p3), .val (.int cu), .val (.int d), .unset, .unset, .unset, .unset, .unset, .unset, .unset, .unset, .unset, .unset, .unset, .unset, .unset, .unset] [])) target := by
  obtain ⟨T101, h101, k101, X101, e101, E101, A101, Ex101, st101⟩ := newPE X0 hx hZ (aty := .byte) (hw _ (List.mem_of_getElem? (i := 5) rfl)) e0 (g := (mkF m 48 #[.val (.int p0), .val (.int p1), .val (.int p2), .val (.int p3), .val (.int cu), .val (.int d), .val (.int (1 : Int32)), .val (.int (((p2.toUInt32 >>> ((5 : Int32) &&& 31).toUInt32).toInt32) &&& (3 : Int32))), .unset, .unset, .unset, .unset, .unset, .unset, .unset, .unset, .unset, .unset, .unset, .unset] [(.int (3 : Int32))])) rfl (hb hby at_48) rfl (by decide) (cap := 3) (by decide) (by decide) (by decide) (by decide) (ad := "[B") (by decide)
  obtain ⟨b101, g101⟩ : ∃ z, z = h0.size := ⟨_, rfl⟩
  rw [← g101] at A101 Ex101 st101
  have g_b101 : n0 ≤ b101 := Nat.le_trans Z0 (Nat.le_of_eq g101.symm)
  have sz_b101 : h0.size ≤ b101 := Nat.le_trans (Keep.refl h0 []).1 (Nat.le_of_eq g101.symm)
  have Z101 : n0 ≤ h101.size := Nat.le_trans Z0 E101.1
  have KC101 : Keep h0 h101 [] := (Keep.refl h0 []).ext E101
  have V101 : OwnA Z h101 b101 .byte 3 (fun _ => (.int (0 : Int32))) := OwnA.new A101 rfl
  obtain ⟨T102, h102, X102, e102, W102, V102, st102⟩ := own_stB X101 hx hZ e101 V101 (j := (0 : Int32)) 0 (by decide) rfl (by decide) (g := (mkF m 58 #[.val (.int p0), .val (.int p1), .val (.int p2), .val (.int p3), .val (.int cu), .val (.int d), .val (.int (1 : Int32)), .val (.int (((p2.toUInt32 >>> ((5 : Int32) &&& 31).toUInt32).toInt32) &&& (3 : Int32))), .val (.ref b101), .unset, .unset, .unset, .unset, .unset, .unset, .unset, .unset, .unset, .unset, .unset] [(.int (cu.toInt8.toInt32)), (.int (0 : Int32)), (.ref b101)])) rfl rfl (hb hby at_58)
  have Z102 : n0 ≤ h102.size := Nat.le_trans Z101 (Nat.le_of_eq W102.size.symm)
  have KC102 : Keep h0 h102 [] := KC101.wr W102 (Or.inr sz_b101)
  have N102 := Fr.snoc X102 N0 g_b101
  obtain ⟨T103, h103, X103, e103, W103, V103, st103⟩ := own_stB X102 hx hZ e102 V102 (j := (1 : Int32)) 1 (by decide) rfl (by decide) (g := (mkF m 68 #[.val (.int p0), .val (.int p1), .val (.int p2), .val (.int p3), .val (.int cu), .val (.int d), .val (.int (1 : Int32)), .val (.int (((p2.toUInt32 >>> ((5 : Int32) &&& 31).toUInt32).toInt32) &&& (3 : Int32))), .val (.ref b101), .unset, .unset, .unset, .unset, .unset, .unset, .unset, .unset, .unset, .unset, .unset] [(.int (((cu.toUInt32 >>> ((8 : Int32) &&& 31).toUInt32).toInt32).toInt8.toInt32)), (.int (1 : Int32)), (.ref b101)])) rfl rfl (hb hby at_68)
  have Z103 : n0 ≤ h103.size := Nat.le_trans Z102 (Nat.le_of_eq W103.size.symm)
  have KC103 : Keep h0 h103 [] := KC102.wr W103 (Or.inr sz_b101)
  have N103 := Fr.snoc X103 N102 g_b101
  obtain ⟨T104, h104, X104, e104, W104, V104, st104⟩ := own_stB X103 hx hZ e103 V103 (j := (2 : Int32)) 2 (by decide) rfl (by decide) (g := (mkF m 79 #[.val (.int p0), .val (.int p1), .val (.int p2), .val (.int p3), .val (.int cu), .val (.int d), .val (.int (1 : Int32)), .val (.int (((p2.toUInt32 >>> ((5 : Int32) &&& 31).toUInt32).toInt32) &&& (3 : Int32))), .val (.ref b101), .unset, .unset, .unset, .unset, .unset, .unset, .unset, .unset, .unset, .unset, .unset] [(.int (p3.toInt8.toInt32)), (.int (2 : Int32)), (.ref b101)])) rfl rfl (hb hby at_79)
  have Z104 : n0 ≤ h104.size := Nat.le_trans Z103 (Nat.le_of_eq W104.size.symm)
  have KC104 : Keep h0 h104 [] := KC103.wr W104 (Or.inr sz_b101)
  have N104 := Fr.snoc X104 N103 g_b101
  obtain ⟨T105, h105, k105, X105, e105, E105, A105, Ex105, st105⟩ := newPE X104 hx hZ (aty := .byte) (hw _ (List.mem_of_getElem? (i := 5) rfl)) e104 (g := (mkF m 81 #[.val (.int p0), .val (.int p1), .val (.int p2), .val (.int p3), .val (.int cu), .val (.int d), .val (.int (1 : Int32)), .val (.int (((p2.toUInt32 >>> ((5 : Int32) &&& 31).toUInt32).toInt32) &&& (3 : Int32))), .val (.ref b101), .unset, .unset, .unset, .unset, .unset, .unset, .unset, .unset, .unset, .unset, .unset] [(.int (2 : Int32))])) rfl (hb hby at_81) rfl (by decide) (cap := 2) (by decide) (by decide) (by decide) (by decide) (ad := "[B") (by decide)
  obtain ⟨b105, g105⟩ : ∃ z, z = h104.size := ⟨_, rfl⟩
  rw [← g105] at A105 Ex105 st105
  have f106 := (((Ex101.wr W102).wr W103).wr W104)
  have ne_b101_b105 : b101 ≠ b105 := Nat.ne_of_lt (Nat.lt_of_lt_of_le f106.lt (Nat.le_of_eq g105.symm))
  have g_b105 : n0 ≤ b105 := Nat.le_trans Z104 (Nat.le_of_eq g105.symm)
  have sz_b105 : h0.size ≤ b105 := Nat.le_trans KC104.1 (Nat.le_of_eq g105.symm)
  have Z105 : n0 ≤ h105.size := Nat.le_trans Z104 E105.1
  have KC105 : Keep h0 h105 [] := KC104.ext E105
  have V105 : OwnA Z h105 b105 .byte 2 (fun _ => (.int (0 : Int32))) := OwnA.new A105 rfl
  obtain ⟨T107, h107, X107, e107, W107, V107, st107⟩ := own_stB X105 hx hZ e105 V105 (j := (0 : Int32)) 0 (by decide) rfl (by decide) (g := (mkF m 91 #[.val (.int p0), .val (.int p1), .val (.int p2), .val (.int p3), .val (.int cu), .val (.int d), .val (.int (1 : Int32)), .val (.int (((p2.toUInt32 >>> ((5 : Int32) &&& 31).toUInt32).toInt32) &&& (3 : Int32))), .val (.ref b101), .val (.ref b105), .unset, .unset, .unset, .unset, .unset, .unset, .unset, .unset, .unset, .unset] [(.int (d.toInt8.toInt32)), (.int (0 : Int32)), (.ref b105)])) rfl rfl (hb hby at_91)
  have Z107 : n0 ≤ h107.size := Nat.le_trans Z105 (Nat.le_of_eq W107.size.symm)
  have KC107 : Keep h0 h107 [] := KC105.wr W107 (Or.inr sz_b105)
  have N107 := Fr.snoc X107 N104 g_b105
  obtain ⟨T108, h108, X108, e108, W108, V108, st108⟩ := own_stB X107 hx hZ e107 V107 (j := (1 : Int32)) 1 (by decide) rfl (by decide) (g := (mkF m 101 #[.val (.int p0), .val (.int p1), .val (.int p2), .val (.int p3), .val (.int cu), .val (.int d), .val (.int (1 : Int32)), .val (.int (((p2.toUInt32 >>> ((5 : Int32) &&& 31).toUInt32).toInt32) &&& (3 : Int32))), .val (.ref b101), .val (.ref b105), .unset, .unset, .unset, .unset, .unset, .unset, .unset, .unset, .unset, .unset] [(.int (((d.toUInt32 >>> ((8 : Int32) &&& 31).toUInt32).toInt32).toInt8.toInt32)), (.int (1 : Int32)), (.ref b105)])) rfl rfl (hb hby at_101)
  have Z108 : n0 ≤ h108.size := Nat.le_trans Z107 (Nat.le_of_eq W108.size.symm)
  have KC108 : Keep h0 h108 [] := KC107.wr W108 (Or.inr sz_b105)
  have N108 := Fr.snoc X108 N107 g_b105
  obtain ⟨T109, h109, k109, X109, e109, E109, A109, Ex109, st109⟩ := newPE X108 hx hZ (aty := .char) (hw _ (List.mem_of_getElem? (i := 6) rfl)) e108 (g := (mkF m 104 #[.val (.int p0), .val (.int p1), .val (.int p2), .val (.int p3), .val (.int cu), .val (.int d), .val (.int (1 : Int32)), .val (.int (((p2.toUInt32 >>> ((5 : Int32) &&& 31).toUInt32).toInt32) &&& (3 : Int32))), .val (.ref b101), .val (.ref b105), .unset, .unset, .unset, .unset, .unset, .unset, .unset, .unset, .unset, .unset] [(.int (8 : Int32))])) rfl (hb hby at_104) rfl (by decide) (cap := 8) (by decide) (by decide) (by decide) (by decide) (ad := "[C") (by decide)
  obtain ⟨b109, g109⟩ : ∃ z, z = h108.size := ⟨_, rfl⟩
  rw [← g109] at A109 Ex109 st109
  have f110 := (((f106.ext E105).wr W107).wr W108)
  have f111 := ((Ex105.wr W107).wr W108)
  have ne_b101_b109 : b101 ≠ b109 := Nat.ne_of_lt (Nat.lt_of_lt_of_le f110.lt (Nat.le_of_eq g109.symm))
  have ne_b105_b109 : b105 ≠ b109 := Nat.ne_of_lt (Nat.lt_of_lt_of_le f111.lt (Nat.le_of_eq g109.symm))
  have g_b109 : n0 ≤ b109 := Nat.le_trans Z108 (Nat.le_of_eq g109.symm)
  have sz_b109 : h0.size ≤ b109 := Nat.le_trans KC108.1 (Nat.le_of_eq g109.symm)
  have Z109 : n0 ≤ h109.size := Nat.le_trans Z108 E109.1
  have KC109 : Keep h0 h109 [] := KC108.ext E109
  have V109 : OwnA Z h109 b109 .char 8 (fun _ => (.int (0 : Int32))) := OwnA.new A109 rfl
  obtain ⟨T112, h112, k112, X112, e112, E112, A112, Ex112, st112⟩ := newPE X109 hx hZ (aty := .char) (hw _ (List.mem_of_getElem? (i := 6) rfl)) e109 (g := (mkF m 109 #[.val (.int p0), .val (.int p1), .val (.int p2), .val (.int p3), .val (.int cu), .val (.int d), .val (.int (1 : Int32)), .val (.int (((p2.toUInt32 >>> ((5 : Int32) &&& 31).toUInt32).toInt32) &&& (3 : Int32))), .val (.ref b101), .val (.ref b105), .val (.ref b109), .unset, .unset, .unset, .unset, .unset, .unset, .unset, .unset, .unset] [(.int (4 : Int32))])) rfl (hb hby at_109) rfl (by decide) (cap := 4) (by decide) (by decide) (by decide) (by decide) (ad := "[C") (by decide)
  obtain ⟨b112, g112⟩ : ∃ z, z = h109.size := ⟨_, rfl⟩
  rw [← g112] at A112 Ex112 st112
  have f113 := (f110.ext E109)
  have f114 := (f111.ext E109)
  have ne_b101_b112 : b101 ≠ b112 := Nat.ne_of_lt (Nat.lt_of_lt_of_le f113.lt (Nat.le_of_eq g112.symm))
  have ne_b105_b112 : b105 ≠ b112 := Nat.ne_of_lt (Nat.lt_of_lt_of_le f114.lt (Nat.le_of_eq g112.symm))
  have ne_b109_b112 : b109 ≠ b112 := Nat.ne_of_lt (Nat.lt_of_lt_of_le Ex109.lt (Nat.le_of_eq g112.symm))
  have g_b112 : n0 ≤ b112 := Nat.le_trans Z109 (Nat.le_of_eq g112.symm)
  have sz_b112 : h0.size ≤ b112 := Nat.le_trans KC109.1 (Nat.le_of_eq g112.symm)
  have Z112 : n0 ≤ h112.size := Nat.le_trans Z109 E112.1
  have KC112 : Keep h0 h112 [] := KC109.ext E112
  have V112 : OwnA Z h112 b112 .char 4 (fun _ => (.int (0 : Int32))) := OwnA.new A112 rfl
  obtain ⟨T115, h115, X115, e115, E115, A115, D115, -, st115⟩ := newO X112 hx hZ hown (hw _ (List.mem_of_getElem? (i := 7) rfl)) (hw _ (List.mem_of_getElem? (i := 8) rfl)) (hw _ (List.mem_of_getElem? (i := 9) rfl)) e112 (g := (mkF m 113 #[.val (.int p0), .val (.int p1), .val (.int p2), .val (.int p3), .val (.int cu), .val (.int d), .val (.int (1 : Int32)), .val (.int (((p2.toUInt32 >>> ((5 : Int32) &&& 31).toUInt32).toInt32) &&& (3 : Int32))), .val (.ref b101), .val (.ref b105), .val (.ref b109), .val (.ref b112), .unset, .unset, .unset, .unset, .unset, .unset, .unset, .unset] [])) rfl (hb hby at_113) (by decide) (by decide)
  obtain ⟨b115, g115⟩ : ∃ z, z = h112.size := ⟨_, rfl⟩
  rw [← g115] at A115 D115 st115
  have f116 := (f113.ext E112)
  have f117 := (f114.ext E112)
  have f118 := (Ex109.ext E112)
  have ne_b101_b115 : b101 ≠ b115 := Nat.ne_of_lt (Nat.lt_of_lt_of_le f116.lt (Nat.le_of_eq g115.symm))
  have ne_b105_b115 : b105 ≠ b115 := Nat.ne_of_lt (Nat.lt_of_lt_of_le f117.lt (Nat.le_of_eq g115.symm))
  have ne_b109_b115 : b109 ≠ b115 := Nat.ne_of_lt (Nat.lt_of_lt_of_le f118.lt (Nat.le_of_eq g115.symm))
  have ne_b112_b115 : b112 ≠ b115 := Nat.ne_of_lt (Nat.lt_of_lt_of_le Ex112.lt (Nat.le_of_eq g115.symm))
  have g_b115 : n0 ≤ b115 := Nat.le_trans Z112 (Nat.le_of_eq g115.symm)
  have sz_b115 : h0.size ≤ b115 := Nat.le_trans KC112.1 (Nat.le_of_eq g115.symm)
  have Z115 : n0 ≤ h115.size := Nat.le_trans Z112 E115.1
  have KC115 : Keep h0 h115 [] := KC112.ext E115
  have F_oddByte_b115 : Fld Z h115 b115 "com/example/cellwright/cellwright/hive/Utf16Le$Decoder" "oddByte" "I" (.int (0 : Int32)) := D115 (Or.inl (hw _ (List.mem_of_getElem? (i := 17) rfl))) (ty := .int) (by decide)
  have F_high_b115 : Fld Z h115 b115 "com/example/cellwright/cellwright/hive/Utf16Le$Decoder" "high" "C" (.int (0 : Int32)) := D115 (Or.inl (hw _ (List.mem_of_getElem? (i := 24) rfl))) (ty := .char) (by decide)
  obtain ⟨_, _, ⟨T119, L119, k119, n119⟩, -, X119, ⟨Lc119, hQ119, l119, y119, z119⟩, st119⟩ := X115.specialBack hx (y := (⟨"com/example/cellwright/cellwright/hive/Utf16Le$Decoder", "<init>", "()V"⟩ : MethodName)) rfl hown (mvT hZ (hw _ (List.mem_of_getElem? (i := 10) rfl))) (mvT hZ (hw _ (List.mem_of_getElem? (i := 11) rfl))) (mvT hZ (hw _ (List.mem_of_getElem? (i := 12) rfl))) (by decide) (backOf (W := 1) (rmI l Z a0 hw [] b115 h115 n0 Z115 A115 F_oddByte_b115 F_high_b115 g_b115) hZ (hw _ (List.mem_of_getElem? (i := 12) rfl)) (hw _ (List.mem_of_getElem? (i := 9) rfl)) (by decide) (by decide)) (g := (mkF m 117 #[.val (.int p0), .val (.int p1), .val (.int p2), .val (.int p3), .val (.int cu), .val (.int d), .val (.int (1 : Int32)), .val (.int (((p2.toUInt32 >>> ((5 : Int32) &&& 31).toUInt32).toInt32) &&& (3 : Int32))), .val (.ref b101), .val (.ref b105), .val (.ref b109), .val (.ref b112), .unset, .unset, .unset, .unset, .unset, .unset, .unset, .unset] [(.ref b115), (.ref b115)])) rfl (by rw [hml]; rfl) (Steps.refl _) (a := b115) (argsL := []) (rest := [(.ref b115)]) (lenOf own_pd3 rfl) rfl (by show 2 * 0 + _ ≤ _; exact Nat.le_of_eq rfl) (hb hby at_117) (fun _ _ => ⟨rfl, e115, (by decide : 5 + 0 ≤ _), (by decide : 19 + 0 ≤ _)⟩)
  dsimp only [Pt.U, Pt.locs, Pt.cells, Pt.slots] at X119 l119 y119 z119 st119 hQ119
  subst l119 y119 z119
  obtain ⟨rfl, Nq119, K119, Ex119, Fo119, Fh119⟩ := hQ119
  have Z119 : n0 ≤ T119.heap.size := Nat.le_trans Z115 K119.1
  have KC119 : Keep h0 T119.heap [] := KC115.trans K119 (allS (Or.inr sz_b115) all0)
  have N119 := Fr.app N108 Nq119
  have f120 := (((((((V104.ext E105).other W107 ne_b101_b105).other W108 ne_b101_b105).ext E109).ext E112).ext E115).keep K119 (ninS ne_b101_b115 nin0))
  have f121 := (((V109.ext E112).ext E115).keep K119 (ninS ne_b109_b115 nin0))
  obtain ⟨cq122, kq122, q122a, q122b, q122c⟩ := isOf hZ rfl Ex119
  obtain ⟨_, _, ⟨T122, L122, k122, n122⟩, -, X122, ⟨Lc122, hQ122, l122, y122, z122⟩, st122⟩ := X119.virtualBack hx (y := (⟨"com/example/cellwright/cellwright/hive/Utf16Le$Decoder", "decode", "([BII[CI)I"⟩ : MethodName)) (z := (⟨"com/example/cellwright/cellwright/hive/Utf16Le$Decoder", "decode", "([BII[CI)I"⟩ : MethodName)) hown (mvT hZ (hw _ (List.mem_of_getElem? (i := 18) rfl))) (mvT hZ (hw _ (List.mem_of_getElem? (i := 19) rfl))) (notFace_of_selects (args := #[]) (mvT hZ (hw _ (List.mem_of_getElem? (i := 21) rfl)))) (mvT hZ (hw _ (List.mem_of_getElem? (i := 21) rfl))) (mvT hZ (hw _ (List.mem_of_getElem? (i := 20) rfl))) (by decide) (backOf (W := 0) (rmDH3 l Z a0 hw [] b115 b101 b109 8 _ _ cu (cu.toInt8.toInt32) (((cu.toUInt32 >>> ((8 : Int32) &&& 31).toUInt32).toInt32).toInt8.toInt32) (p3.toInt8.toInt32) T119.heap n0 Z119 Ex119 Fh119 f121 (by decide) g_b115 g_b109 ne_b109_b115 hch_cu Fo119 f120 ne_b101_b115 ne_b101_b109 (congrArg Value.int (own_nn _)) (congrArg Value.int (own_nn _)) (congrArg Value.int (own_nn _)) (own_join hch_cu) h1 h2) hZ (hw _ (List.mem_of_getElem? (i := 22) rfl)) (hw _ (List.mem_of_getElem? (i := 9) rfl)) (by decide) (by decide)) q122a q122c (g := (mkF m 133 #[.val (.int p0), .val (.int p1), .val (.int p2), .val (.int p3), .val (.int cu), .val (.int d), .val (.int (1 : Int32)), .val (.int (((p2.toUInt32 >>> ((5 : Int32) &&& 31).toUInt32).toInt32) &&& (3 : Int32))), .val (.ref b101), .val (.ref b105), .val (.ref b109), .val (.ref b112), .val (.ref b115), .unset, .unset, .unset, .unset, .unset, .unset, .unset] [(.int (0 : Int32)), (.ref b109), (.int (3 : Int32)), (.int (0 : Int32)), (.ref b101), (.ref b115)])) rfl (by rw [hml]; rfl) (Steps.refl _) (argsL := [(.ref b101), (.int (0 : Int32)), (.int (3 : Int32)), (.ref b109), (.int (0 : Int32))]) (rest := []) (lenOf own_pd4 rfl) rfl (by show 2 * 0 + _ ≤ _; exact Nat.le_of_eq rfl) (hb hby at_133) (fun _ _ => ⟨rfl, rfl, (by decide : 5 + 0 ≤ _), (by decide : 19 + 0 ≤ _)⟩)
  dsimp only [Pt.U, Pt.locs, Pt.cells, Pt.slots] at X122 l122 y122 z122 st122 hQ122
  subst l122 y122 z122
  obtain ⟨o122, rfl, Nq122, K122, Ex122, Fo122, Fh122, At122⟩ := hQ122
  have Z122 : n0 ≤ T122.heap.size := Nat.le_trans Z119 K122.1
  have KC122 : Keep h0 T122.heap [] := KC119.trans K122 (allS (Or.inr sz_b115) (allS (Or.inr sz_b109) all0))
  have N122 := Fr.app N119 Nq122
  obtain ⟨_, _, ⟨T123, L123, k123, n123⟩, -, X123, ⟨Lc123, hQ123, l123, y123, z123⟩, st123⟩ := Jvm.LawKit.callS X122 hx (y := (⟨"com/example/cellwright/cellwright/hive/DecoderFinishPinLaw", "isHigh", "(C)Z"⟩ : MethodName)) hown (mvT hZ (hw _ (List.mem_of_getElem? (i := 26) rfl))) (mvT hZ (hw _ (List.mem_of_getElem? (i := 27) rfl))) (mvT hZ (hw _ (List.mem_of_getElem? (i := 2) rfl))) (mvT hZ (hw _ (List.mem_of_getElem? (i := 28) rfl))) (by decide) (backOf (W := 0) (rm_ihH l Z a0 hw [] cu T122.heap n0 Z122 h1 h2) hZ (hw _ (List.mem_of_getElem? (i := 28) rfl)) (hw _ (List.mem_of_getElem? (i := 2) rfl)) (by decide) (by decide)) (g := (mkF m 140 #[.val (.int p0), .val (.int p1), .val (.int p2), .val (.int p3), .val (.int cu), .val (.int d), .val (.int (1 : Int32)), .val (.int (((p2.toUInt32 >>> ((5 : Int32) &&& 31).toUInt32).toInt32) &&& (3 : Int32))), .val (.ref b101), .val (.ref b105), .val (.ref b109), .val (.ref b112), .val (.ref b115), .val (.int (0 : Int32)), .unset, .unset, .unset, .unset, .unset, .unset] [(.int cu)])) rfl (by rw [hml]; rfl) (argsL := [(.int cu)]) (rest := []) (lenOf own_pd0 rfl) rfl (by show 2 * 0 + _ ≤ _; exact Nat.le_of_eq rfl) (hb hby at_140) (fun _ _ => ⟨rfl, rfl, (by decide : 5 + 0 ≤ _), (by decide : 19 + 0 ≤ _)⟩)
  dsimp only [Pt.U, Pt.locs, Pt.cells, Pt.slots] at X123 l123 y123 z123 st123 hQ123
  subst l123 y123 z123
  obtain ⟨rfl, Nq123, e123⟩ := hQ123
  have N123 := Fr.app N122 Nq123
  obtain ⟨aa, hv_aa⟩ : ∃ z : Int32, z = ((0 : Int32) + (((p2.toUInt32 >>> ((5 : Int32) &&& 31).toUInt32).toInt32) &&& (3 : Int32))) := ⟨_, rfl⟩
  obtain ⟨hj, k, hk, hk1, hk4⟩ := own_aaH hv_aa
  obtain ⟨cq124, kq124, q124a, q124b, q124c⟩ := isOf hZ e123 Ex122
  obtain ⟨_, _, ⟨T124, L124, k124, n124⟩, -, X124, ⟨Lc124, hQ124, l124, y124, z124⟩, st124⟩ := X123.virtualBack hx (y := (⟨"com/example/cellwright/cellwright/hive/Utf16Le$Decoder", "finish", "([CI)I"⟩ : MethodName)) (z := (⟨"com/example/cellwright/cellwright/hive/Utf16Le$Decoder", "finish", "([CI)I"⟩ : MethodName)) hown (mvT hZ (hw _ (List.mem_of_getElem? (i := 29) rfl))) (mvT hZ (hw _ (List.mem_of_getElem? (i := 30) rfl))) (notFace_of_selects (args := #[]) (mvT hZ (hw _ (List.mem_of_getElem? (i := 32) rfl)))) (mvT hZ (hw _ (List.mem_of_getElem? (i := 32) rfl))) (mvT hZ (hw _ (List.mem_of_getElem? (i := 31) rfl))) (by decide) (backOf (W := 0) (rmFH l Z a0 hw [] b115 b109 aa 8 _ o122 k cu T122.heap n0 Z122 Ex122 Fo122 Fh122 At122 g_b115 g_b109 ne_b109_b115 hj hk (by omega) (own_hnz h1)) hZ (hw _ (List.mem_of_getElem? (i := 33) rfl)) (hw _ (List.mem_of_getElem? (i := 9) rfl)) (by decide) (by decide)) q124a q124c (g := (mkF m 180 #[.val (.int p0), .val (.int p1), .val (.int p2), .val (.int p3), .val (.int cu), .val (.int d), .val (.int (1 : Int32)), .val (.int (((p2.toUInt32 >>> ((5 : Int32) &&& 31).toUInt32).toInt32) &&& (3 : Int32))), .val (.ref b101), .val (.ref b105), .val (.ref b109), .val (.ref b112), .val (.ref b115), .val (.int (0 : Int32)), .val (.int (1 : Int32)), .val (.int (1 : Int32)), .val (.int aa), .unset, .unset, .unset] [(.int aa), (.ref b109), (.ref b115)])) rfl (by rw [hml]; rfl) (Steps.refl _) (argsL := [(.ref b109), (.int aa)]) (rest := []) (lenOf own_pd5 rfl) rfl (by show 2 * 0 + _ ≤ _; exact Nat.le_of_eq rfl) (hb hby at_180) (fun _ _ => ⟨rfl, e123, (by decide : 5 + 0 ≤ _), (by decide : 19 + 0 ≤ _)⟩)
  dsimp only [Pt.U, Pt.locs, Pt.cells, Pt.slots] at X124 l124 y124 z124 st124 hQ124
  subst l124 y124 z124
  obtain ⟨rfl, Nq124, K124, Ex124, Fo124, Fh124, At124⟩ := hQ124
  have Z124 : n0 ≤ T124.heap.size := Nat.le_trans Z122 K124.1
  have KC124 : Keep h0 T124.heap [] := KC122.trans K124 (allS (Or.inr sz_b115) (allS (Or.inr sz_b109) all0))
  have N124 := Fr.app N123 Nq124
  have f125 := ((((((V108.ext E109).ext E112).ext E115).keep K119 (ninS ne_b105_b115 nin0)).keep K122 (ninS ne_b105_b115 (ninS ne_b105_b109 nin0))).keep K124 (ninS ne_b105_b115 (ninS ne_b105_b109 nin0)))
  have f126 := ((((V112.ext E115).keep K119 (ninS ne_b112_b115 nin0)).keep K122 (ninS ne_b112_b115 (ninS (Ne.symm ne_b109_b112) nin0))).keep K124 (ninS ne_b112_b115 (ninS (Ne.symm ne_b109_b112) nin0)))
  have Zend : n0 ≤ T124.heap.size := Z124
  refine ⟨T124, _, (.val (.int p0)), (.val (.int p1)), (.val (.int p2)), (.val (.int p3)), (.val (.int cu)), (.val (.int (1 : Int32))), (.val (.int (((p2.toUInt32 >>> ((5 : Int32) &&& 31).toUInt32).toInt32) &&& (3 : Int32)))), (.val (.ref b101)), (.val (.ref b109)), (.val (.int (0 : Int32))), (.val (.int (1 : Int32))), (.val (.int aa)), (.val (.int (aa + (1 : Int32)))), b105, b112, b115, X124, N124, Zend, g_b112, g_b115, ne_b105_b115, ne_b105_b112, ne_b112_b115, f125, f126, Ex124, Fo124, Fh124, fun target kt => ?_⟩
  show Steps p.tables e below (T0.setTop (mkF m 16 #[.val (.int p0), .val (.int p1), .val (.int p2), .val (.int p3), .val (.int cu), .val (.int d), .unset, .unset, .unset, .unset, .unset, .unset, .unset, .unset, .unset, .unset, .unset, .unset, .unset, .unset] [])) _
  refine XS.iloadN X0.here hx rfl (hb hby at_16) rfl ?_
  show Steps p.tables e below (T0.setTop (mkF m 17 #[.val (.int p0), .val (.int p1), .val (.int p2), .val (.int p3), .val (.int cu), .val (.int d), .unset, .unset, .unset, .unset, .unset, .unset, .unset, .unset, .unset, .unset, .unset, .unset, .unset, .unset] [(.int p2)])) _
  refine XS.iconst X0.here hx rfl (hb hby at_17) ?_
  show Steps p.tables e below (T0.setTop (mkF m 18 #[.val (.int p0), .val (.int p1), .val (.int p2), .val (.int p3), .val (.int cu), .val (.int d), .unset, .unset, .unset, .unset, .unset, .unset, .unset, .unset, .unset, .unset, .unset, .unset, .unset, .unset] [(.int (4 : Int32)), (.int p2)])) _
  refine XS.iushr X0.here hx rfl (hb hby at_18) rfl ?_
  show Steps p.tables e below (T0.setTop (mkF m 19 #[.val (.int p0), .val (.int p1), .val (.int p2), .val (.int p3), .val (.int cu), .val (.int d), .unset, .unset, .unset, .unset, .unset, .unset, .unset, .unset, .unset, .unset, .unset, .unset, .unset, .unset] [(.int ((p2.toUInt32 >>> ((4 : Int32) &&& 31).toUInt32).toInt32))])) _
  refine XS.iconst X0.here hx rfl (hb hby at_19) ?_
  show Steps p.tables e below (T0.setTop (mkF m 20 #[.val (.int p0), .val (.int p1), .val (.int p2), .val (.int p3), .val (.int cu), .val (.int d), .unset, .unset, .unset, .unset, .unset, .unset, .unset, .unset, .unset, .unset, .unset, .unset, .unset, .unset] [(.int (1 : Int32)), (.int ((p2.toUInt32 >>> ((4 : Int32) &&& 31).toUInt32).toInt32))])) _
  refine XS.iand X0.here hx rfl (hb hby at_20) rfl ?_
  show Steps p.tables e below (T0.setTop (mkF m 21 #[.val (.int p0), .val (.int p1), .val (.int p2), .val (.int p3), .val (.int cu), .val (.int d), .unset, .unset, .unset, .unset, .unset, .unset, .unset, .unset, .unset, .unset, .unset, .unset, .unset, .unset] [(.int (((p2.toUInt32 >>> ((4 : Int32) &&& 31).toUInt32).toInt32) &&& (1 : Int32)))])) _
  refine XS.ifNo X0.here hx rfl (hb hby at_21) rfl ((if0 _ _).trans (feq hb21).1) ?_
  show Steps p.tables e below (T0.setTop (mkF m 24 #[.val (.int p0), .val (.int p1), .val (.int p2), .val (.int p3), .val (.int cu), .val (.int d), .unset, .unset, .unset, .unset, .unset, .unset, .unset, .unset, .unset, .unset, .unset, .unset, .unset, .unset] [])) _
  refine XS.iconst X0.here hx rfl (hb hby at_24) ?_
  show Steps p.tables e below (T0.setTop (mkF m 25 #[.val (.int p0), .val (.int p1), .val (.int p2), .val (.int p3), .val (.int cu), .val (.int d), .unset, .unset, .unset, .unset, .unset, .unset, .unset, .unset, .unset, .unset, .unset, .unset, .unset, .unset] [(.int (1 : Int32))])) _
  refine XS.goto X0.here hx rfl (pc0 := 25) (pc' := 29) rfl (hb hby at_25) (by decide) (by decide) ?_
  show Steps p.tables e below (T0.setTop (mkF m 29 #[.val (.int p0), .val (.int p1), .val (.int p2), .val (.int p3), .val (.int cu), .val (.int d), .unset, .unset, .unset, .unset, .unset, .unset, .unset, .unset, .unset, .unset, .unset, .unset, .unset, .unset] [(.int (1 : Int32))])) _
  refine XS.istore X0.here hx rfl (hb hby at_29) rfl (l' := #[.val (.int p0), .val (.int p1), .val (.int p2), .val (.int p3), .val (.int cu), .val (.int d), .val (.int (1 : Int32)), .unset, .unset, .unset, .unset, .unset, .unset, .unset, .unset, .unset, .unset, .unset, .unset, .unset]) rfl ?_
  show Steps p.tables e below (T0.setTop (mkF m 31 #[.val (.int p0), .val (.int p1), .val (.int p2), .val (.int p3), .val (.int cu), .val (.int d), .val (.int (1 : Int32)), .unset, .unset, .unset, .unset, .unset, .unset, .unset, .unset, .unset, .unset, .unset, .unset, .unset] [])) _
  refine XS.iloadN X0.here hx rfl (hb hby at_31) rfl ?_
  show Steps p.tables e below (T0.setTop (mkF m 32 #[.val (.int p0), .val (.int p1), .val (.int p2), .val (.int p3), .val (.int cu), .val (.int d), .val (.int (1 : Int32)), .unset, .unset, .unset, .unset, .unset, .unset, .unset, .unset, .unset, .unset, .unset, .unset, .unset] [(.int p2)])) _
  refine XS.iconst X0.here hx rfl (hb hby at_32) ?_
  show Steps p.tables e below (T0.setTop (mkF m 33 #[.val (.int p0), .val (.int p1), .val (.int p2), .val (.int p3), .val (.int cu), .val (.int d), .val (.int (1 : Int32)), .unset, .unset, .unset, .unset, .unset, .unset, .unset, .unset, .unset, .unset, .unset, .unset, .unset] [(.int (5 : Int32)), (.int p2)])) _
  refine XS.iushr X0.here hx rfl (hb hby at_33) rfl ?_
  show Steps p.tables e below (T0.setTop (mkF m 34 #[.val (.int p0), .val (.int p1), .val (.int p2), .val (.int p3), .val (.int cu), .val (.int d), .val (.int (1 : Int32)), .unset, .unset, .unset, .unset, .unset, .unset, .unset, .unset, .unset, .unset, .unset, .unset, .unset] [(.int ((p2.toUInt32 >>> ((5 : Int32) &&& 31).toUInt32).toInt32))])) _
  refine XS.iconst X0.here hx rfl (hb hby at_34) ?_
  show Steps p.tables e below (T0.setTop (mkF m 35 #[.val (.int p0), .val (.int p1), .val (.int p2), .val (.int p3), .val (.int cu), .val (.int d), .val (.int (1 : Int32)), .unset, .unset, .unset, .unset, .unset, .unset, .unset, .unset, .unset, .unset, .unset, .unset, .unset] [(.int (3 : Int32)), (.int ((p2.toUInt32 >>> ((5 : Int32) &&& 31).toUInt32).toInt32))])) _
  refine XS.iand X0.here hx rfl (hb hby at_35) rfl ?_
  show Steps p.tables e below (T0.setTop (mkF m 36 #[.val (.int p0), .val (.int p1), .val (.int p2), .val (.int p3), .val (.int cu), .val (.int d), .val (.int (1 : Int32)), .unset, .unset, .unset, .unset, .unset, .unset, .unset, .unset, .unset, .unset, .unset, .unset, .unset] [(.int (((p2.toUInt32 >>> ((5 : Int32) &&& 31).toUInt32).toInt32) &&& (3 : Int32)))])) _
  refine XS.istore X0.here hx rfl (hb hby at_36) rfl (l' := #[.val (.int p0), .val (.int p1), .val (.int p2), .val (.int p3), .val (.int cu), .val (.int d), .val (.int (1 : Int32)), .val (.int (((p2.toUInt32 >>> ((5 : Int32) &&& 31).toUInt32).toInt32) &&& (3 : Int32))), .unset, .unset, .unset, .unset, .unset, .unset, .unset, .unset, .unset, .unset, .unset, .unset]) rfl ?_
  show Steps p.tables e below (T0.setTop (mkF m 38 #[.val (.int p0), .val (.int p1), .val (.int p2), .val (.int p3), .val (.int cu), .val (.int d), .val (.int (1 : Int32)), .val (.int (((p2.toUInt32 >>> ((5 : Int32) &&& 31).toUInt32).toInt32) &&& (3 : Int32))), .unset, .unset, .unset, .unset, .unset, .unset, .unset, .unset, .unset, .unset, .unset, .unset] [])) _
  refine XS.iload X0.here hx rfl (hb hby at_38) rfl ?_
  show Steps p.tables e below (T0.setTop (mkF m 40 #[.val (.int p0), .val (.int p1), .val (.int p2), .val (.int p3), .val (.int cu), .val (.int d), .val (.int (1 : Int32)), .val (.int (((p2.toUInt32 >>> ((5 : Int32) &&& 31).toUInt32).toInt32) &&& (3 : Int32))), .unset, .unset, .unset, .unset, .unset, .unset, .unset, .unset, .unset, .unset, .unset, .unset] [(.int (1 : Int32))])) _
  refine XS.ifNo X0.here hx rfl (hb hby at_40) rfl ((if0 _ _).trans (feq (by decide : ¬ (1 : Int32) = (0 : Int32))).1) ?_
  show Steps p.tables e below (T0.setTop (mkF m 43 #[.val (.int p0), .val (.int p1), .val (.int p2), .val (.int p3), .val (.int cu), .val (.int d), .val (.int (1 : Int32)), .val (.int (((p2.toUInt32 >>> ((5 : Int32) &&& 31).toUInt32).toInt32) &&& (3 : Int32))), .unset, .unset, .unset, .unset, .unset, .unset, .unset, .unset, .unset, .unset, .unset, .unset] [])) _
  refine XS.iconst X0.here hx rfl (hb hby at_43) ?_
  show Steps p.tables e below (T0.setTop (mkF m 44 #[.val (.int p0), .val (.int p1), .val (.int p2), .val (.int p3), .val (.int cu), .val (.int d), .val (.int (1 : Int32)), .val (.int (((p2.toUInt32 >>> ((5 : Int32) &&& 31).toUInt32).toInt32) &&& (3 : Int32))), .unset, .unset, .unset, .unset, .unset, .unset, .unset, .unset, .unset, .unset, .unset, .unset] [(.int (3 : Int32))])) _
  refine XS.goto X0.here hx rfl (pc0 := 44) (pc' := 48) rfl (hb hby at_44) (by decide) (by decide) ?_
  show Steps p.tables e below (T0.setTop (mkF m 48 #[.val (.int p0), .val (.int p1), .val (.int p2), .val (.int p3), .val (.int cu), .val (.int d), .val (.int (1 : Int32)), .val (.int (((p2.toUInt32 >>> ((5 : Int32) &&& 31).toUInt32).toInt32) &&& (3 : Int32))), .unset, .unset, .unset, .unset, .unset, .unset, .unset, .unset, .unset, .unset, .unset, .unset] [(.int (3 : Int32))])) _
  refine st101 _ ?_
  show Steps p.tables e below (T101.setTop (mkF m 50 #[.val (.int p0), .val (.int p1), .val (.int p2), .val (.int p3), .val (.int cu), .val (.int d), .val (.int (1 : Int32)), .val (.int (((p2.toUInt32 >>> ((5 : Int32) &&& 31).toUInt32).toInt32) &&& (3 : Int32))), .unset, .unset, .unset, .unset, .unset, .unset, .unset, .unset, .unset, .unset, .unset, .unset] [(.ref b101)])) _
  refine XS.astore X101.here hx rfl (hb hby at_50) rfl rfl (l' := #[.val (.int p0), .val (.int p1), .val (.int p2), .val (.int p3), .val (.int cu), .val (.int d), .val (.int (1 : Int32)), .val (.int (((p2.toUInt32 >>> ((5 : Int32) &&& 31).toUInt32).toInt32) &&& (3 : Int32))), .val (.ref b101), .unset, .unset, .unset, .unset, .unset, .unset, .unset, .unset, .unset, .unset, .unset]) rfl ?_
  show Steps p.tables e below (T101.setTop (mkF m 52 #[.val (.int p0), .val (.int p1), .val (.int p2), .val (.int p3), .val (.int cu), .val (.int d), .val (.int (1 : Int32)), .val (.int (((p2.toUInt32 >>> ((5 : Int32) &&& 31).toUInt32).toInt32) &&& (3 : Int32))), .val (.ref b101), .unset, .unset, .unset, .unset, .unset, .unset, .unset, .unset, .unset, .unset, .unset] [])) _
  refine XS.aload X101.here hx rfl (hb hby at_52) rfl rfl ?_
  show Steps p.tables e below (T101.setTop (mkF m 54 #[.val (.int p0), .val (.int p1), .val (.int p2), .val (.int p3), .val (.int cu), .val (.int d), .val (.int (1 : Int32)), .val (.int (((p2.toUInt32 >>> ((5 : Int32) &&& 31).toUInt32).toInt32) &&& (3 : Int32))), .val (.ref b101), .unset, .unset, .unset, .unset, .unset, .unset, .unset, .unset, .unset, .unset, .unset] [(.ref b101)])) _
  refine XS.iconst X101.here hx rfl (hb hby at_54) ?_
  show Steps p.tables e below (T101.setTop (mkF m 55 #[.val (.int p0), .val (.int p1), .val (.int p2), .val (.int p3), .val (.int cu), .val (.int d), .val (.int (1 : Int32)), .val (.int (((p2.toUInt32 >>> ((5 : Int32) &&& 31).toUInt32).toInt32) &&& (3 : Int32))), .val (.ref b101), .unset, .unset, .unset, .unset, .unset, .unset, .unset, .unset, .unset, .unset, .unset] [(.int (0 : Int32)), (.ref b101)])) _
  refine XS.iload X101.here hx rfl (hb hby at_55) rfl ?_
  show Steps p.tables e below (T101.setTop (mkF m 57 #[.val (.int p0), .val (.int p1), .val (.int p2), .val (.int p3), .val (.int cu), .val (.int d), .val (.int (1 : Int32)), .val (.int (((p2.toUInt32 >>> ((5 : Int32) &&& 31).toUInt32).toInt32) &&& (3 : Int32))), .val (.ref b101), .unset, .unset, .unset, .unset, .unset, .unset, .unset, .unset, .unset, .unset, .unset] [(.int cu), (.int (0 : Int32)), (.ref b101)])) _
  refine XS.i2b X101.here hx rfl (hb hby at_57) rfl ?_
  show Steps p.tables e below (T101.setTop (mkF m 58 #[.val (.int p0), .val (.int p1), .val (.int p2), .val (.int p3), .val (.int cu), .val (.int d), .val (.int (1 : Int32)), .val (.int (((p2.toUInt32 >>> ((5 : Int32) &&& 31).toUInt32).toInt32) &&& (3 : Int32))), .val (.ref b101), .unset, .unset, .unset, .unset, .unset, .unset, .unset, .unset, .unset, .unset, .unset] [(.int (cu.toInt8.toInt32)), (.int (0 : Int32)), (.ref b101)])) _
  refine st102 _ ?_
  show Steps p.tables e below (T102.setTop (mkF m 59 #[.val (.int p0), .val (.int p1), .val (.int p2), .val (.int p3), .val (.int cu), .val (.int d), .val (.int (1 : Int32)), .val (.int (((p2.toUInt32 >>> ((5 : Int32) &&& 31).toUInt32).toInt32) &&& (3 : Int32))), .val (.ref b101), .unset, .unset, .unset, .unset, .unset, .unset, .unset, .unset, .unset, .unset, .unset] [])) _
  refine XS.aload X102.here hx rfl (hb hby at_59) rfl rfl ?_
  show Steps p.tables e below (T102.setTop (mkF m 61 #[.val (.int p0), .val (.int p1), .val (.int p2), .val (.int p3), .val (.int cu), .val (.int d), .val (.int (1 : Int32)), .val (.int (((p2.toUInt32 >>> ((5 : Int32) &&& 31).toUInt32).toInt32) &&& (3 : Int32))), .val (.ref b101), .unset, .unset, .unset, .unset, .unset, .unset, .unset, .unset, .unset, .unset, .unset] [(.ref b101)])) _
  refine XS.iconst X102.here hx rfl (hb hby at_61) ?_
  show Steps p.tables e below (T102.setTop (mkF m 62 #[.val (.int p0), .val (.int p1), .val (.int p2), .val (.int p3), .val (.int cu), .val (.int d), .val (.int (1 : Int32)), .val (.int (((p2.toUInt32 >>> ((5 : Int32) &&& 31).toUInt32).toInt32) &&& (3 : Int32))), .val (.ref b101), .unset, .unset, .unset, .unset, .unset, .unset, .unset, .unset, .unset, .unset, .unset] [(.int (1 : Int32)), (.ref b101)])) _
  refine XS.iload X102.here hx rfl (hb hby at_62) rfl ?_
  show Steps p.tables e below (T102.setTop (mkF m 64 #[.val (.int p0), .val (.int p1), .val (.int p2), .val (.int p3), .val (.int cu), .val (.int d), .val (.int (1 : Int32)), .val (.int (((p2.toUInt32 >>> ((5 : Int32) &&& 31).toUInt32).toInt32) &&& (3 : Int32))), .val (.ref b101), .unset, .unset, .unset, .unset, .unset, .unset, .unset, .unset, .unset, .unset, .unset] [(.int cu), (.int (1 : Int32)), (.ref b101)])) _
  refine XS.bipush X102.here hx rfl (hb hby at_64) ?_
  show Steps p.tables e below (T102.setTop (mkF m 66 #[.val (.int p0), .val (.int p1), .val (.int p2), .val (.int p3), .val (.int cu), .val (.int d), .val (.int (1 : Int32)), .val (.int (((p2.toUInt32 >>> ((5 : Int32) &&& 31).toUInt32).toInt32) &&& (3 : Int32))), .val (.ref b101), .unset, .unset, .unset, .unset, .unset, .unset, .unset, .unset, .unset, .unset, .unset] [(.int (8 : Int32)), (.int cu), (.int (1 : Int32)), (.ref b101)])) _
  refine XS.iushr X102.here hx rfl (hb hby at_66) rfl ?_
  show Steps p.tables e below (T102.setTop (mkF m 67 #[.val (.int p0), .val (.int p1), .val (.int p2), .val (.int p3), .val (.int cu), .val (.int d), .val (.int (1 : Int32)), .val (.int (((p2.toUInt32 >>> ((5 : Int32) &&& 31).toUInt32).toInt32) &&& (3 : Int32))), .val (.ref b101), .unset, .unset, .unset, .unset, .unset, .unset, .unset, .unset, .unset, .unset, .unset] [(.int ((cu.toUInt32 >>> ((8 : Int32) &&& 31).toUInt32).toInt32)), (.int (1 : Int32)), (.ref b101)])) _
  refine XS.i2b X102.here hx rfl (hb hby at_67) rfl ?_
  show Steps p.tables e below (T102.setTop (mkF m 68 #[.val (.int p0), .val (.int p1), .val (.int p2), .val (.int p3), .val (.int cu), .val (.int d), .val (.int (1 : Int32)), .val (.int (((p2.toUInt32 >>> ((5 : Int32) &&& 31).toUInt32).toInt32) &&& (3 : Int32))), .val (.ref b101), .unset, .unset, .unset, .unset, .unset, .unset, .unset, .unset, .unset, .unset, .unset] [(.int (((cu.toUInt32 >>> ((8 : Int32) &&& 31).toUInt32).toInt32).toInt8.toInt32)), (.int (1 : Int32)), (.ref b101)])) _
  refine st103 _ ?_
  show Steps p.tables e below (T103.setTop (mkF m 69 #[.val (.int p0), .val (.int p1), .val (.int p2), .val (.int p3), .val (.int cu), .val (.int d), .val (.int (1 : Int32)), .val (.int (((p2.toUInt32 >>> ((5 : Int32) &&& 31).toUInt32).toInt32) &&& (3 : Int32))), .val (.ref b101), .unset, .unset, .unset, .unset, .unset, .unset, .unset, .unset, .unset, .unset, .unset] [])) _
  refine XS.iload X103.here hx rfl (hb hby at_69) rfl ?_
  show Steps p.tables e below (T103.setTop (mkF m 71 #[.val (.int p0), .val (.int p1), .val (.int p2), .val (.int p3), .val (.int cu), .val (.int d), .val (.int (1 : Int32)), .val (.int (((p2.toUInt32 >>> ((5 : Int32) &&& 31).toUInt32).toInt32) &&& (3 : Int32))), .val (.ref b101), .unset, .unset, .unset, .unset, .unset, .unset, .unset, .unset, .unset, .unset, .unset] [(.int (1 : Int32))])) _
  refine XS.ifNo X103.here hx rfl (hb hby at_71) rfl ((if0 _ _).trans (feq (by decide : ¬ (1 : Int32) = (0 : Int32))).1) ?_
  show Steps p.tables e below (T103.setTop (mkF m 74 #[.val (.int p0), .val (.int p1), .val (.int p2), .val (.int p3), .val (.int cu), .val (.int d), .val (.int (1 : Int32)), .val (.int (((p2.toUInt32 >>> ((5 : Int32) &&& 31).toUInt32).toInt32) &&& (3 : Int32))), .val (.ref b101), .unset, .unset, .unset, .unset, .unset, .unset, .unset, .unset, .unset, .unset, .unset] [])) _
  refine XS.aload X103.here hx rfl (hb hby at_74) rfl rfl ?_
  show Steps p.tables e below (T103.setTop (mkF m 76 #[.val (.int p0), .val (.int p1), .val (.int p2), .val (.int p3), .val (.int cu), .val (.int d), .val (.int (1 : Int32)), .val (.int (((p2.toUInt32 >>> ((5 : Int32) &&& 31).toUInt32).toInt32) &&& (3 : Int32))), .val (.ref b101), .unset, .unset, .unset, .unset, .unset, .unset, .unset, .unset, .unset, .unset, .unset] [(.ref b101)])) _
  refine XS.iconst X103.here hx rfl (hb hby at_76) ?_
  show Steps p.tables e below (T103.setTop (mkF m 77 #[.val (.int p0), .val (.int p1), .val (.int p2), .val (.int p3), .val (.int cu), .val (.int d), .val (.int (1 : Int32)), .val (.int (((p2.toUInt32 >>> ((5 : Int32) &&& 31).toUInt32).toInt32) &&& (3 : Int32))), .val (.ref b101), .unset, .unset, .unset, .unset, .unset, .unset, .unset, .unset, .unset, .unset, .unset] [(.int (2 : Int32)), (.ref b101)])) _
  refine XS.iloadN X103.here hx rfl (hb hby at_77) rfl ?_
  show Steps p.tables e below (T103.setTop (mkF m 78 #[.val (.int p0), .val (.int p1), .val (.int p2), .val (.int p3), .val (.int cu), .val (.int d), .val (.int (1 : Int32)), .val (.int (((p2.toUInt32 >>> ((5 : Int32) &&& 31).toUInt32).toInt32) &&& (3 : Int32))), .val (.ref b101), .unset, .unset, .unset, .unset, .unset, .unset, .unset, .unset, .unset, .unset, .unset] [(.int p3), (.int (2 : Int32)), (.ref b101)])) _
  refine XS.i2b X103.here hx rfl (hb hby at_78) rfl ?_
  show Steps p.tables e below (T103.setTop (mkF m 79 #[.val (.int p0), .val (.int p1), .val (.int p2), .val (.int p3), .val (.int cu), .val (.int d), .val (.int (1 : Int32)), .val (.int (((p2.toUInt32 >>> ((5 : Int32) &&& 31).toUInt32).toInt32) &&& (3 : Int32))), .val (.ref b101), .unset, .unset, .unset, .unset, .unset, .unset, .unset, .unset, .unset, .unset, .unset] [(.int (p3.toInt8.toInt32)), (.int (2 : Int32)), (.ref b101)])) _
  refine st104 _ ?_
  show Steps p.tables e below (T104.setTop (mkF m 80 #[.val (.int p0), .val (.int p1), .val (.int p2), .val (.int p3), .val (.int cu), .val (.int d), .val (.int (1 : Int32)), .val (.int (((p2.toUInt32 >>> ((5 : Int32) &&& 31).toUInt32).toInt32) &&& (3 : Int32))), .val (.ref b101), .unset, .unset, .unset, .unset, .unset, .unset, .unset, .unset, .unset, .unset, .unset] [])) _
  refine XS.iconst X104.here hx rfl (hb hby at_80) ?_
  show Steps p.tables e below (T104.setTop (mkF m 81 #[.val (.int p0), .val (.int p1), .val (.int p2), .val (.int p3), .val (.int cu), .val (.int d), .val (.int (1 : Int32)), .val (.int (((p2.toUInt32 >>> ((5 : Int32) &&& 31).toUInt32).toInt32) &&& (3 : Int32))), .val (.ref b101), .unset, .unset, .unset, .unset, .unset, .unset, .unset, .unset, .unset, .unset, .unset] [(.int (2 : Int32))])) _
  refine st105 _ ?_
  show Steps p.tables e below (T105.setTop (mkF m 83 #[.val (.int p0), .val (.int p1), .val (.int p2), .val (.int p3), .val (.int cu), .val (.int d), .val (.int (1 : Int32)), .val (.int (((p2.toUInt32 >>> ((5 : Int32) &&& 31).toUInt32).toInt32) &&& (3 : Int32))), .val (.ref b101), .unset, .unset, .unset, .unset, .unset, .unset, .unset, .unset, .unset, .unset, .unset] [(.ref b105)])) _
  refine XS.astore X105.here hx rfl (hb hby at_83) rfl rfl (l' := #[.val (.int p0), .val (.int p1), .val (.int p2), .val (.int p3), .val (.int cu), .val (.int d), .val (.int (1 : Int32)), .val (.int (((p2.toUInt32 >>> ((5 : Int32) &&& 31).toUInt32).toInt32) &&& (3 : Int32))), .val (.ref b101), .val (.ref b105), .unset, .unset, .unset, .unset, .unset, .unset, .unset, .unset, .unset, .unset]) rfl ?_
  show Steps p.tables e below (T105.setTop (mkF m 85 #[.val (.int p0), .val (.int p1), .val (.int p2), .val (.int p3), .val (.int cu), .val (.int d), .val (.int (1 : Int32)), .val (.int (((p2.toUInt32 >>> ((5 : Int32) &&& 31).toUInt32).toInt32) &&& (3 : Int32))), .val (.ref b101), .val (.ref b105), .unset, .unset, .unset, .unset, .unset, .unset, .unset, .unset, .unset, .unset] [])) _
  refine XS.aload X105.here hx rfl (hb hby at_85) rfl rfl ?_
  show Steps p.tables e below (T105.setTop (mkF m 87 #[.val (.int p0), .val (.int p1), .val (.int p2), .val (.int p3), .val (.int cu), .val (.int d), .val (.int (1 : Int32)), .val (.int (((p2.toUInt32 >>> ((5 : Int32) &&& 31).toUInt32).toInt32) &&& (3 : Int32))), .val (.ref b101), .val (.ref b105), .unset, .unset, .unset, .unset, .unset, .unset, .unset, .unset, .unset, .unset] [(.ref b105)])) _
  refine XS.iconst X105.here hx rfl (hb hby at_87) ?_
  show Steps p.tables e below (T105.setTop (mkF m 88 #[.val (.int p0), .val (.int p1), .val (.int p2), .val (.int p3), .val (.int cu), .val (.int d), .val (.int (1 : Int32)), .val (.int (((p2.toUInt32 >>> ((5 : Int32) &&& 31).toUInt32).toInt32) &&& (3 : Int32))), .val (.ref b101), .val (.ref b105), .unset, .unset, .unset, .unset, .unset, .unset, .unset, .unset, .unset, .unset] [(.int (0 : Int32)), (.ref b105)])) _
  refine XS.iload X105.here hx rfl (hb hby at_88) rfl ?_
  show Steps p.tables e below (T105.setTop (mkF m 90 #[.val (.int p0), .val (.int p1), .val (.int p2), .val (.int p3), .val (.int cu), .val (.int d), .val (.int (1 : Int32)), .val (.int (((p2.toUInt32 >>> ((5 : Int32) &&& 31).toUInt32).toInt32) &&& (3 : Int32))), .val (.ref b101), .val (.ref b105), .unset, .unset, .unset, .unset, .unset, .unset, .unset, .unset, .unset, .unset] [(.int d), (.int (0 : Int32)), (.ref b105)])) _
  refine XS.i2b X105.here hx rfl (hb hby at_90) rfl ?_
  show Steps p.tables e below (T105.setTop (mkF m 91 #[.val (.int p0), .val (.int p1), .val (.int p2), .val (.int p3), .val (.int cu), .val (.int d), .val (.int (1 : Int32)), .val (.int (((p2.toUInt32 >>> ((5 : Int32) &&& 31).toUInt32).toInt32) &&& (3 : Int32))), .val (.ref b101), .val (.ref b105), .unset, .unset, .unset, .unset, .unset, .unset, .unset, .unset, .unset, .unset] [(.int (d.toInt8.toInt32)), (.int (0 : Int32)), (.ref b105)])) _
  refine st107 _ ?_
  show Steps p.tables e below (T107.setTop (mkF m 92 #[.val (.int p0), .val (.int p1), .val (.int p2), .val (.int p3), .val (.int cu), .val (.int d), .val (.int (1 : Int32)), .val (.int (((p2.toUInt32 >>> ((5 : Int32) &&& 31).toUInt32).toInt32) &&& (3 : Int32))), .val (.ref b101), .val (.ref b105), .unset, .unset, .unset, .unset, .unset, .unset, .unset, .unset, .unset, .unset] [])) _
  refine XS.aload X107.here hx rfl (hb hby at_92) rfl rfl ?_
  show Steps p.tables e below (T107.setTop (mkF m 94 #[.val (.int p0), .val (.int p1), .val (.int p2), .val (.int p3), .val (.int cu), .val (.int d), .val (.int (1 : Int32)), .val (.int (((p2.toUInt32 >>> ((5 : Int32) &&& 31).toUInt32).toInt32) &&& (3 : Int32))), .val (.ref b101), .val (.ref b105), .unset, .unset, .unset, .unset, .unset, .unset, .unset, .unset, .unset, .unset] [(.ref b105)])) _
  refine XS.iconst X107.here hx rfl (hb hby at_94) ?_
  show Steps p.tables e below (T107.setTop (mkF m 95 #[.val (.int p0), .val (.int p1), .val (.int p2), .val (.int p3), .val (.int cu), .val (.int d), .val (.int (1 : Int32)), .val (.int (((p2.toUInt32 >>> ((5 : Int32) &&& 31).toUInt32).toInt32) &&& (3 : Int32))), .val (.ref b101), .val (.ref b105), .unset, .unset, .unset, .unset, .unset, .unset, .unset, .unset, .unset, .unset] [(.int (1 : Int32)), (.ref b105)])) _
  refine XS.iload X107.here hx rfl (hb hby at_95) rfl ?_
  show Steps p.tables e below (T107.setTop (mkF m 97 #[.val (.int p0), .val (.int p1), .val (.int p2), .val (.int p3), .val (.int cu), .val (.int d), .val (.int (1 : Int32)), .val (.int (((p2.toUInt32 >>> ((5 : Int32) &&& 31).toUInt32).toInt32) &&& (3 : Int32))), .val (.ref b101), .val (.ref b105), .unset, .unset, .unset, .unset, .unset, .unset, .unset, .unset, .unset, .unset] [(.int d), (.int (1 : Int32)), (.ref b105)])) _
  refine XS.bipush X107.here hx rfl (hb hby at_97) ?_
  show Steps p.tables e below (T107.setTop (mkF m 99 #[.val (.int p0), .val (.int p1), .val (.int p2), .val (.int p3), .val (.int cu), .val (.int d), .val (.int (1 : Int32)), .val (.int (((p2.toUInt32 >>> ((5 : Int32) &&& 31).toUInt32).toInt32) &&& (3 : Int32))), .val (.ref b101), .val (.ref b105), .unset, .unset, .unset, .unset, .unset, .unset, .unset, .unset, .unset, .unset] [(.int (8 : Int32)), (.int d), (.int (1 : Int32)), (.ref b105)])) _
  refine XS.iushr X107.here hx rfl (hb hby at_99) rfl ?_
  show Steps p.tables e below (T107.setTop (mkF m 100 #[.val (.int p0), .val (.int p1), .val (.int p2), .val (.int p3), .val (.int cu), .val (.int d), .val (.int (1 : Int32)), .val (.int (((p2.toUInt32 >>> ((5 : Int32) &&& 31).toUInt32).toInt32) &&& (3 : Int32))), .val (.ref b101), .val (.ref b105), .unset, .unset, .unset, .unset, .unset, .unset, .unset, .unset, .unset, .unset] [(.int ((d.toUInt32 >>> ((8 : Int32) &&& 31).toUInt32).toInt32)), (.int (1 : Int32)), (.ref b105)])) _
  refine XS.i2b X107.here hx rfl (hb hby at_100) rfl ?_
  show Steps p.tables e below (T107.setTop (mkF m 101 #[.val (.int p0), .val (.int p1), .val (.int p2), .val (.int p3), .val (.int cu), .val (.int d), .val (.int (1 : Int32)), .val (.int (((p2.toUInt32 >>> ((5 : Int32) &&& 31).toUInt32).toInt32) &&& (3 : Int32))), .val (.ref b101), .val (.ref b105), .unset, .unset, .unset, .unset, .unset, .unset, .unset, .unset, .unset, .unset] [(.int (((d.toUInt32 >>> ((8 : Int32) &&& 31).toUInt32).toInt32).toInt8.toInt32)), (.int (1 : Int32)), (.ref b105)])) _
  refine st108 _ ?_
  show Steps p.tables e below (T108.setTop (mkF m 102 #[.val (.int p0), .val (.int p1), .val (.int p2), .val (.int p3), .val (.int cu), .val (.int d), .val (.int (1 : Int32)), .val (.int (((p2.toUInt32 >>> ((5 : Int32) &&& 31).toUInt32).toInt32) &&& (3 : Int32))), .val (.ref b101), .val (.ref b105), .unset, .unset, .unset, .unset, .unset, .unset, .unset, .unset, .unset, .unset] [])) _
  refine XS.bipush X108.here hx rfl (hb hby at_102) ?_
  show Steps p.tables e below (T108.setTop (mkF m 104 #[.val (.int p0), .val (.int p1), .val (.int p2), .val (.int p3), .val (.int cu), .val (.int d), .val (.int (1 : Int32)), .val (.int (((p2.toUInt32 >>> ((5 : Int32) &&& 31).toUInt32).toInt32) &&& (3 : Int32))), .val (.ref b101), .val (.ref b105), .unset, .unset, .unset, .unset, .unset, .unset, .unset, .unset, .unset, .unset] [(.int (8 : Int32))])) _
  refine st109 _ ?_
  show Steps p.tables e below (T109.setTop (mkF m 106 #[.val (.int p0), .val (.int p1), .val (.int p2), .val (.int p3), .val (.int cu), .val (.int d), .val (.int (1 : Int32)), .val (.int (((p2.toUInt32 >>> ((5 : Int32) &&& 31).toUInt32).toInt32) &&& (3 : Int32))), .val (.ref b101), .val (.ref b105), .unset, .unset, .unset, .unset, .unset, .unset, .unset, .unset, .unset, .unset] [(.ref b109)])) _
  refine XS.astore X109.here hx rfl (hb hby at_106) rfl rfl (l' := #[.val (.int p0), .val (.int p1), .val (.int p2), .val (.int p3), .val (.int cu), .val (.int d), .val (.int (1 : Int32)), .val (.int (((p2.toUInt32 >>> ((5 : Int32) &&& 31).toUInt32).toInt32) &&& (3 : Int32))), .val (.ref b101), .val (.ref b105), .val (.ref b109), .unset, .unset, .unset, .unset, .unset, .unset, .unset, .unset, .unset]) rfl ?_
  show Steps p.tables e below (T109.setTop (mkF m 108 #[.val (.int p0), .val (.int p1), .val (.int p2), .val (.int p3), .val (.int cu), .val (.int d), .val (.int (1 : Int32)), .val (.int (((p2.toUInt32 >>> ((5 : Int32) &&& 31).toUInt32).toInt32) &&& (3 : Int32))), .val (.ref b101), .val (.ref b105), .val (.ref b109), .unset, .unset, .unset, .unset, .unset, .unset, .unset, .unset, .unset] [])) _
  refine XS.iconst X109.here hx rfl (hb hby at_108) ?_
  show Steps p.tables e below (T109.setTop (mkF m 109 #[.val (.int p0), .val (.int p1), .val (.int p2), .val (.int p3), .val (.int cu), .val (.int d), .val (.int (1 : Int32)), .val (.int (((p2.toUInt32 >>> ((5 : Int32) &&& 31).toUInt32).toInt32) &&& (3 : Int32))), .val (.ref b101), .val (.ref b105), .val (.ref b109), .unset, .unset, .unset, .unset, .unset, .unset, .unset, .unset, .unset] [(.int (4 : Int32))])) _
  refine st112 _ ?_
  show Steps p.tables e below (T112.setTop (mkF m 111 #[.val (.int p0), .val (.int p1), .val (.int p2), .val (.int p3), .val (.int cu), .val (.int d), .val (.int (1 : Int32)), .val (.int (((p2.toUInt32 >>> ((5 : Int32) &&& 31).toUInt32).toInt32) &&& (3 : Int32))), .val (.ref b101), .val (.ref b105), .val (.ref b109), .unset, .unset, .unset, .unset, .unset, .unset, .unset, .unset, .unset] [(.ref b112)])) _
  refine XS.astore X112.here hx rfl (hb hby at_111) rfl rfl (l' := #[.val (.int p0), .val (.int p1), .val (.int p2), .val (.int p3), .val (.int cu), .val (.int d), .val (.int (1 : Int32)), .val (.int (((p2.toUInt32 >>> ((5 : Int32) &&& 31).toUInt32).toInt32) &&& (3 : Int32))), .val (.ref b101), .val (.ref b105), .val (.ref b109), .val (.ref b112), .unset, .unset, .unset, .unset, .unset, .unset, .unset, .unset]) rfl ?_
  show Steps p.tables e below (T112.setTop (mkF m 113 #[.val (.int p0), .val (.int p1), .val (.int p2), .val (.int p3), .val (.int cu), .val (.int d), .val (.int (1 : Int32)), .val (.int (((p2.toUInt32 >>> ((5 : Int32) &&& 31).toUInt32).toInt32) &&& (3 : Int32))), .val (.ref b101), .val (.ref b105), .val (.ref b109), .val (.ref b112), .unset, .unset, .unset, .unset, .unset, .unset, .unset, .unset] [])) _
  refine st115 _ ?_
  show Steps p.tables e below (T115.setTop (mkF m 116 #[.val (.int p0), .val (.int p1), .val (.int p2), .val (.int p3), .val (.int cu), .val (.int d), .val (.int (1 : Int32)), .val (.int (((p2.toUInt32 >>> ((5 : Int32) &&& 31).toUInt32).toInt32) &&& (3 : Int32))), .val (.ref b101), .val (.ref b105), .val (.ref b109), .val (.ref b112), .unset, .unset, .unset, .unset, .unset, .unset, .unset, .unset] [(.ref b115)])) _
  refine XS.dup X115.here hx rfl (hb hby at_116) rfl rfl ?_
  show Steps p.tables e below (T115.setTop (mkF m 117 #[.val (.int p0), .val (.int p1), .val (.int p2), .val (.int p3), .val (.int cu), .val (.int d), .val (.int (1 : Int32)), .val (.int (((p2.toUInt32 >>> ((5 : Int32) &&& 31).toUInt32).toInt32) &&& (3 : Int32))), .val (.ref b101), .val (.ref b105), .val (.ref b109), .val (.ref b112), .unset, .unset, .unset, .unset, .unset, .unset, .unset, .unset] [(.ref b115), (.ref b115)])) _
  refine st119.trans ?_
  show Steps p.tables e below (T119.setTop (mkF m 120 #[.val (.int p0), .val (.int p1), .val (.int p2), .val (.int p3), .val (.int cu), .val (.int d), .val (.int (1 : Int32)), .val (.int (((p2.toUInt32 >>> ((5 : Int32) &&& 31).toUInt32).toInt32) &&& (3 : Int32))), .val (.ref b101), .val (.ref b105), .val (.ref b109), .val (.ref b112), .unset, .unset, .unset, .unset, .unset, .unset, .unset, .unset] [(.ref b115)])) _
  refine XS.astore X119.here hx rfl (hb hby at_120) rfl rfl (l' := #[.val (.int p0), .val (.int p1), .val (.int p2), .val (.int p3), .val (.int cu), .val (.int d), .val (.int (1 : Int32)), .val (.int (((p2.toUInt32 >>> ((5 : Int32) &&& 31).toUInt32).toInt32) &&& (3 : Int32))), .val (.ref b101), .val (.ref b105), .val (.ref b109), .val (.ref b112), .val (.ref b115), .unset, .unset, .unset, .unset, .unset, .unset, .unset]) rfl ?_
  show Steps p.tables e below (T119.setTop (mkF m 122 #[.val (.int p0), .val (.int p1), .val (.int p2), .val (.int p3), .val (.int cu), .val (.int d), .val (.int (1 : Int32)), .val (.int (((p2.toUInt32 >>> ((5 : Int32) &&& 31).toUInt32).toInt32) &&& (3 : Int32))), .val (.ref b101), .val (.ref b105), .val (.ref b109), .val (.ref b112), .val (.ref b115), .unset, .unset, .unset, .unset, .unset, .unset, .unset] [])) _
  refine XS.aload X119.here hx rfl (hb hby at_122) rfl rfl ?_
  show Steps p.tables e below (T119.setTop (mkF m 124 #[.val (.int p0), .val (.int p1), .val (.int p2), .val (.int p3), .val (.int cu), .val (.int d), .val (.int (1 : Int32)), .val (.int (((p2.toUInt32 >>> ((5 : Int32) &&& 31).toUInt32).toInt32) &&& (3 : Int32))), .val (.ref b101), .val (.ref b105), .val (.ref b109), .val (.ref b112), .val (.ref b115), .unset, .unset, .unset, .unset, .unset, .unset, .unset] [(.ref b115)])) _
  refine XS.aload X119.here hx rfl (hb hby at_124) rfl rfl ?_
  show Steps p.tables e below (T119.setTop (mkF m 126 #[.val (.int p0), .val (.int p1), .val (.int p2), .val (.int p3), .val (.int cu), .val (.int d), .val (.int (1 : Int32)), .val (.int (((p2.toUInt32 >>> ((5 : Int32) &&& 31).toUInt32).toInt32) &&& (3 : Int32))), .val (.ref b101), .val (.ref b105), .val (.ref b109), .val (.ref b112), .val (.ref b115), .unset, .unset, .unset, .unset, .unset, .unset, .unset] [(.ref b101), (.ref b115)])) _
  refine XS.iconst X119.here hx rfl (hb hby at_126) ?_
  show Steps p.tables e below (T119.setTop (mkF m 127 #[.val (.int p0), .val (.int p1), .val (.int p2), .val (.int p3), .val (.int cu), .val (.int d), .val (.int (1 : Int32)), .val (.int (((p2.toUInt32 >>> ((5 : Int32) &&& 31).toUInt32).toInt32) &&& (3 : Int32))), .val (.ref b101), .val (.ref b105), .val (.ref b109), .val (.ref b112), .val (.ref b115), .unset, .unset, .unset, .unset, .unset, .unset, .unset] [(.int (0 : Int32)), (.ref b101), (.ref b115)])) _
  refine XS.aload X119.here hx rfl (hb hby at_127) rfl rfl ?_
  show Steps p.tables e below (T119.setTop (mkF m 129 #[.val (.int p0), .val (.int p1), .val (.int p2), .val (.int p3), .val (.int cu), .val (.int d), .val (.int (1 : Int32)), .val (.int (((p2.toUInt32 >>> ((5 : Int32) &&& 31).toUInt32).toInt32) &&& (3 : Int32))), .val (.ref b101), .val (.ref b105), .val (.ref b109), .val (.ref b112), .val (.ref b115), .unset, .unset, .unset, .unset, .unset, .unset, .unset] [(.ref b101), (.int (0 : Int32)), (.ref b101), (.ref b115)])) _
  refine own_len X119 hx hZ rfl f120 (z := (3 : Int32)) rfl (g := (mkF m 129 #[.val (.int p0), .val (.int p1), .val (.int p2), .val (.int p3), .val (.int cu), .val (.int d), .val (.int (1 : Int32)), .val (.int (((p2.toUInt32 >>> ((5 : Int32) &&& 31).toUInt32).toInt32) &&& (3 : Int32))), .val (.ref b101), .val (.ref b105), .val (.ref b109), .val (.ref b112), .val (.ref b115), .unset, .unset, .unset, .unset, .unset, .unset, .unset] [(.ref b101), (.int (0 : Int32)), (.ref b101), (.ref b115)])) rfl rfl (hb hby at_129) _ ?_
  show Steps p.tables e below (T119.setTop (mkF m 130 #[.val (.int p0), .val (.int p1), .val (.int p2), .val (.int p3), .val (.int cu), .val (.int d), .val (.int (1 : Int32)), .val (.int (((p2.toUInt32 >>> ((5 : Int32) &&& 31).toUInt32).toInt32) &&& (3 : Int32))), .val (.ref b101), .val (.ref b105), .val (.ref b109), .val (.ref b112), .val (.ref b115), .unset, .unset, .unset, .unset, .unset, .unset, .unset] [(.int (3 : Int32)), (.int (0 : Int32)), (.ref b101), (.ref b115)])) _
  refine XS.aload X119.here hx rfl (hb hby at_130) rfl rfl ?_
  show Steps p.tables e below (T119.setTop (mkF m 132 #[.val (.int p0), .val (.int p1), .val (.int p2), .val (.int p3), .val (.int cu), .val (.int d), .val (.int (1 : Int32)), .val (.int (((p2.toUInt32 >>> ((5 : Int32) &&& 31).toUInt32).toInt32) &&& (3 : Int32))), .val (.ref b101), .val (.ref b105), .val (.ref b109), .val (.ref b112), .val (.ref b115), .unset, .unset, .unset, .unset, .unset, .unset, .unset] [(.ref b109), (.int (3 : Int32)), (.int (0 : Int32)), (.ref b101), (.ref b115)])) _
  refine XS.iconst X119.here hx rfl (hb hby at_132) ?_
  show Steps p.tables e below (T119.setTop (mkF m 133 #[.val (.int p0), .val (.int p1), .val (.int p2), .val (.int p3), .val (.int cu), .val (.int d), .val (.int (1 : Int32)), .val (.int (((p2.toUInt32 >>> ((5 : Int32) &&& 31).toUInt32).toInt32) &&& (3 : Int32))), .val (.ref b101), .val (.ref b105), .val (.ref b109), .val (.ref b112), .val (.ref b115), .unset, .unset, .unset, .unset, .unset, .unset, .unset] [(.int (0 : Int32)), (.ref b109), (.int (3 : Int32)), (.int (0 : Int32)), (.ref b101), (.ref b115)])) _
  refine st122.trans ?_
  show Steps p.tables e below (T122.setTop (mkF m 136 #[.val (.int p0), .val (.int p1), .val (.int p2), .val (.int p3), .val (.int cu), .val (.int d), .val (.int (1 : Int32)), .val (.int (((p2.toUInt32 >>> ((5 : Int32) &&& 31).toUInt32).toInt32) &&& (3 : Int32))), .val (.ref b101), .val (.ref b105), .val (.ref b109), .val (.ref b112), .val (.ref b115), .unset, .unset, .unset, .unset, .unset, .unset, .unset] [(.int (0 : Int32))])) _
  refine XS.istore X122.here hx rfl (hb hby at_136) rfl (l' := #[.val (.int p0), .val (.int p1), .val (.int p2), .val (.int p3), .val (.int cu), .val (.int d), .val (.int (1 : Int32)), .val (.int (((p2.toUInt32 >>> ((5 : Int32) &&& 31).toUInt32).toInt32) &&& (3 : Int32))), .val (.ref b101), .val (.ref b105), .val (.ref b109), .val (.ref b112), .val (.ref b115), .val (.int (0 : Int32)), .unset, .unset, .unset, .unset, .unset, .unset]) rfl ?_
  show Steps p.tables e below (T122.setTop (mkF m 138 #[.val (.int p0), .val (.int p1), .val (.int p2), .val (.int p3), .val (.int cu), .val (.int d), .val (.int (1 : Int32)), .val (.int (((p2.toUInt32 >>> ((5 : Int32) &&& 31).toUInt32).toInt32) &&& (3 : Int32))), .val (.ref b101), .val (.ref b105), .val (.ref b109), .val (.ref b112), .val (.ref b115), .val (.int (0 : Int32)), .unset, .unset, .unset, .unset, .unset, .unset] [])) _
  refine XS.iload X122.here hx rfl (hb hby at_138) rfl ?_
  show Steps p.tables e below (T122.setTop (mkF m 140 #[.val (.int p0), .val (.int p1), .val (.int p2), .val (.int p3), .val (.int cu), .val (.int d), .val (.int (1 : Int32)), .val (.int (((p2.toUInt32 >>> ((5 : Int32) &&& 31).toUInt32).toInt32) &&& (3 : Int32))), .val (.ref b101), .val (.ref b105), .val (.ref b109), .val (.ref b112), .val (.ref b115), .val (.int (0 : Int32)), .unset, .unset, .unset, .unset, .unset, .unset] [(.int cu)])) _
  refine st123 _ ?_
  show Steps p.tables e below (T123.setTop (mkF m 143 #[.val (.int p0), .val (.int p1), .val (.int p2), .val (.int p3), .val (.int cu), .val (.int d), .val (.int (1 : Int32)), .val (.int (((p2.toUInt32 >>> ((5 : Int32) &&& 31).toUInt32).toInt32) &&& (3 : Int32))), .val (.ref b101), .val (.ref b105), .val (.ref b109), .val (.ref b112), .val (.ref b115), .val (.int (0 : Int32)), .unset, .unset, .unset, .unset, .unset, .unset] [(.int (1 : Int32))])) _
  refine XS.istore X123.here hx rfl (hb hby at_143) rfl (l' := #[.val (.int p0), .val (.int p1), .val (.int p2), .val (.int p3), .val (.int cu), .val (.int d), .val (.int (1 : Int32)), .val (.int (((p2.toUInt32 >>> ((5 : Int32) &&& 31).toUInt32).toInt32) &&& (3 : Int32))), .val (.ref b101), .val (.ref b105), .val (.ref b109), .val (.ref b112), .val (.ref b115), .val (.int (0 : Int32)), .val (.int (1 : Int32)), .unset, .unset, .unset, .unset, .unset]) rfl ?_
  show Steps p.tables e below (T123.setTop (mkF m 145 #[.val (.int p0), .val (.int p1), .val (.int p2), .val (.int p3), .val (.int cu), .val (.int d), .val (.int (1 : Int32)), .val (.int (((p2.toUInt32 >>> ((5 : Int32) &&& 31).toUInt32).toInt32) &&& (3 : Int32))), .val (.ref b101), .val (.ref b105), .val (.ref b109), .val (.ref b112), .val (.ref b115), .val (.int (0 : Int32)), .val (.int (1 : Int32)), .unset, .unset, .unset, .unset, .unset] [])) _
  refine XS.iload X123.here hx rfl (hb hby at_145) rfl ?_
  show Steps p.tables e below (T123.setTop (mkF m 147 #[.val (.int p0), .val (.int p1), .val (.int p2), .val (.int p3), .val (.int cu), .val (.int d), .val (.int (1 : Int32)), .val (.int (((p2.toUInt32 >>> ((5 : Int32) &&& 31).toUInt32).toInt32) &&& (3 : Int32))), .val (.ref b101), .val (.ref b105), .val (.ref b109), .val (.ref b112), .val (.ref b115), .val (.int (0 : Int32)), .val (.int (1 : Int32)), .unset, .unset, .unset, .unset, .unset] [(.int (0 : Int32))])) _
  refine XS.iload X123.here hx rfl (hb hby at_147) rfl ?_
  show Steps p.tables e below (T123.setTop (mkF m 149 #[.val (.int p0), .val (.int p1), .val (.int p2), .val (.int p3), .val (.int cu), .val (.int d), .val (.int (1 : Int32)), .val (.int (((p2.toUInt32 >>> ((5 : Int32) &&& 31).toUInt32).toInt32) &&& (3 : Int32))), .val (.ref b101), .val (.ref b105), .val (.ref b109), .val (.ref b112), .val (.ref b115), .val (.int (0 : Int32)), .val (.int (1 : Int32)), .unset, .unset, .unset, .unset, .unset] [(.int (1 : Int32)), (.int (0 : Int32))])) _
  refine XS.ifNo X123.here hx rfl (hb hby at_149) rfl ((if0 _ _).trans (feq (by decide : ¬ (1 : Int32) = (0 : Int32))).1) ?_
  show Steps p.tables e below (T123.setTop (mkF m 152 #[.val (.int p0), .val (.int p1), .val (.int p2), .val (.int p3), .val (.int cu), .val (.int d), .val (.int (1 : Int32)), .val (.int (((p2.toUInt32 >>> ((5 : Int32) &&& 31).toUInt32).toInt32) &&& (3 : Int32))), .val (.ref b101), .val (.ref b105), .val (.ref b109), .val (.ref b112), .val (.ref b115), .val (.int (0 : Int32)), .val (.int (1 : Int32)), .unset, .unset, .unset, .unset, .unset] [(.int (0 : Int32))])) _
  refine XS.iconst X123.here hx rfl (hb hby at_152) ?_
  show Steps p.tables e below (T123.setTop (mkF m 153 #[.val (.int p0), .val (.int p1), .val (.int p2), .val (.int p3), .val (.int cu), .val (.int d), .val (.int (1 : Int32)), .val (.int (((p2.toUInt32 >>> ((5 : Int32) &&& 31).toUInt32).toInt32) &&& (3 : Int32))), .val (.ref b101), .val (.ref b105), .val (.ref b109), .val (.ref b112), .val (.ref b115), .val (.int (0 : Int32)), .val (.int (1 : Int32)), .unset, .unset, .unset, .unset, .unset] [(.int (0 : Int32)), (.int (0 : Int32))])) _
  refine XS.goto X123.here hx rfl (pc0 := 153) (pc' := 157) rfl (hb hby at_153) (by decide) (by decide) ?_
  show Steps p.tables e below (T123.setTop (mkF m 157 #[.val (.int p0), .val (.int p1), .val (.int p2), .val (.int p3), .val (.int cu), .val (.int d), .val (.int (1 : Int32)), .val (.int (((p2.toUInt32 >>> ((5 : Int32) &&& 31).toUInt32).toInt32) &&& (3 : Int32))), .val (.ref b101), .val (.ref b105), .val (.ref b109), .val (.ref b112), .val (.ref b115), .val (.int (0 : Int32)), .val (.int (1 : Int32)), .unset, .unset, .unset, .unset, .unset] [(.int (0 : Int32)), (.int (0 : Int32))])) _
  refine XS.icmpNo X123.here hx rfl (hb hby at_157) rfl (teq rfl).2 ?_
  show Steps p.tables e below (T123.setTop (mkF m 160 #[.val (.int p0), .val (.int p1), .val (.int p2), .val (.int p3), .val (.int cu), .val (.int d), .val (.int (1 : Int32)), .val (.int (((p2.toUInt32 >>> ((5 : Int32) &&& 31).toUInt32).toInt32) &&& (3 : Int32))), .val (.ref b101), .val (.ref b105), .val (.ref b109), .val (.ref b112), .val (.ref b115), .val (.int (0 : Int32)), .val (.int (1 : Int32)), .unset, .unset, .unset, .unset, .unset] [])) _
  refine XS.iconst X123.here hx rfl (hb hby at_160) ?_
  show Steps p.tables e below (T123.setTop (mkF m 161 #[.val (.int p0), .val (.int p1), .val (.int p2), .val (.int p3), .val (.int cu), .val (.int d), .val (.int (1 : Int32)), .val (.int (((p2.toUInt32 >>> ((5 : Int32) &&& 31).toUInt32).toInt32) &&& (3 : Int32))), .val (.ref b101), .val (.ref b105), .val (.ref b109), .val (.ref b112), .val (.ref b115), .val (.int (0 : Int32)), .val (.int (1 : Int32)), .unset, .unset, .unset, .unset, .unset] [(.int (1 : Int32))])) _
  refine XS.goto X123.here hx rfl (pc0 := 161) (pc' := 165) rfl (hb hby at_161) (by decide) (by decide) ?_
  show Steps p.tables e below (T123.setTop (mkF m 165 #[.val (.int p0), .val (.int p1), .val (.int p2), .val (.int p3), .val (.int cu), .val (.int d), .val (.int (1 : Int32)), .val (.int (((p2.toUInt32 >>> ((5 : Int32) &&& 31).toUInt32).toInt32) &&& (3 : Int32))), .val (.ref b101), .val (.ref b105), .val (.ref b109), .val (.ref b112), .val (.ref b115), .val (.int (0 : Int32)), .val (.int (1 : Int32)), .unset, .unset, .unset, .unset, .unset] [(.int (1 : Int32))])) _
  refine XS.istore X123.here hx rfl (hb hby at_165) rfl (l' := #[.val (.int p0), .val (.int p1), .val (.int p2), .val (.int p3), .val (.int cu), .val (.int d), .val (.int (1 : Int32)), .val (.int (((p2.toUInt32 >>> ((5 : Int32) &&& 31).toUInt32).toInt32) &&& (3 : Int32))), .val (.ref b101), .val (.ref b105), .val (.ref b109), .val (.ref b112), .val (.ref b115), .val (.int (0 : Int32)), .val (.int (1 : Int32)), .val (.int (1 : Int32)), .unset, .unset, .unset, .unset]) rfl ?_
  show Steps p.tables e below (T123.setTop (mkF m 167 #[.val (.int p0), .val (.int p1), .val (.int p2), .val (.int p3), .val (.int cu), .val (.int d), .val (.int (1 : Int32)), .val (.int (((p2.toUInt32 >>> ((5 : Int32) &&& 31).toUInt32).toInt32) &&& (3 : Int32))), .val (.ref b101), .val (.ref b105), .val (.ref b109), .val (.ref b112), .val (.ref b115), .val (.int (0 : Int32)), .val (.int (1 : Int32)), .val (.int (1 : Int32)), .unset, .unset, .unset, .unset] [])) _
  refine XS.iload X123.here hx rfl (hb hby at_167) rfl ?_
  show Steps p.tables e below (T123.setTop (mkF m 169 #[.val (.int p0), .val (.int p1), .val (.int p2), .val (.int p3), .val (.int cu), .val (.int d), .val (.int (1 : Int32)), .val (.int (((p2.toUInt32 >>> ((5 : Int32) &&& 31).toUInt32).toInt32) &&& (3 : Int32))), .val (.ref b101), .val (.ref b105), .val (.ref b109), .val (.ref b112), .val (.ref b115), .val (.int (0 : Int32)), .val (.int (1 : Int32)), .val (.int (1 : Int32)), .unset, .unset, .unset, .unset] [(.int (0 : Int32))])) _
  refine XS.iload X123.here hx rfl (hb hby at_169) rfl ?_
  show Steps p.tables e below (T123.setTop (mkF m 171 #[.val (.int p0), .val (.int p1), .val (.int p2), .val (.int p3), .val (.int cu), .val (.int d), .val (.int (1 : Int32)), .val (.int (((p2.toUInt32 >>> ((5 : Int32) &&& 31).toUInt32).toInt32) &&& (3 : Int32))), .val (.ref b101), .val (.ref b105), .val (.ref b109), .val (.ref b112), .val (.ref b115), .val (.int (0 : Int32)), .val (.int (1 : Int32)), .val (.int (1 : Int32)), .unset, .unset, .unset, .unset] [(.int (((p2.toUInt32 >>> ((5 : Int32) &&& 31).toUInt32).toInt32) &&& (3 : Int32))), (.int (0 : Int32))])) _
  refine XS.iadd X123.here hx rfl (hb hby at_171) rfl ?_
  show Steps p.tables e below (T123.setTop (mkF m 172 #[.val (.int p0), .val (.int p1), .val (.int p2), .val (.int p3), .val (.int cu), .val (.int d), .val (.int (1 : Int32)), .val (.int (((p2.toUInt32 >>> ((5 : Int32) &&& 31).toUInt32).toInt32) &&& (3 : Int32))), .val (.ref b101), .val (.ref b105), .val (.ref b109), .val (.ref b112), .val (.ref b115), .val (.int (0 : Int32)), .val (.int (1 : Int32)), .val (.int (1 : Int32)), .unset, .unset, .unset, .unset] [(.int ((0 : Int32) + (((p2.toUInt32 >>> ((5 : Int32) &&& 31).toUInt32).toInt32) &&& (3 : Int32))))])) _
  rw [← hv_aa]
  show Steps p.tables e below (T123.setTop (mkF m 172 #[.val (.int p0), .val (.int p1), .val (.int p2), .val (.int p3), .val (.int cu), .val (.int d), .val (.int (1 : Int32)), .val (.int (((p2.toUInt32 >>> ((5 : Int32) &&& 31).toUInt32).toInt32) &&& (3 : Int32))), .val (.ref b101), .val (.ref b105), .val (.ref b109), .val (.ref b112), .val (.ref b115), .val (.int (0 : Int32)), .val (.int (1 : Int32)), .val (.int (1 : Int32)), .unset, .unset, .unset, .unset] [(.int aa)])) _
  refine XS.istore X123.here hx rfl (hb hby at_172) rfl (l' := #[.val (.int p0), .val (.int p1), .val (.int p2), .val (.int p3), .val (.int cu), .val (.int d), .val (.int (1 : Int32)), .val (.int (((p2.toUInt32 >>> ((5 : Int32) &&& 31).toUInt32).toInt32) &&& (3 : Int32))), .val (.ref b101), .val (.ref b105), .val (.ref b109), .val (.ref b112), .val (.ref b115), .val (.int (0 : Int32)), .val (.int (1 : Int32)), .val (.int (1 : Int32)), .val (.int aa), .unset, .unset, .unset]) rfl ?_
  show Steps p.tables e below (T123.setTop (mkF m 174 #[.val (.int p0), .val (.int p1), .val (.int p2), .val (.int p3), .val (.int cu), .val (.int d), .val (.int (1 : Int32)), .val (.int (((p2.toUInt32 >>> ((5 : Int32) &&& 31).toUInt32).toInt32) &&& (3 : Int32))), .val (.ref b101), .val (.ref b105), .val (.ref b109), .val (.ref b112), .val (.ref b115), .val (.int (0 : Int32)), .val (.int (1 : Int32)), .val (.int (1 : Int32)), .val (.int aa), .unset, .unset, .unset] [])) _
  refine XS.aload X123.here hx rfl (hb hby at_174) rfl rfl ?_
  show Steps p.tables e below (T123.setTop (mkF m 176 #[.val (.int p0), .val (.int p1), .val (.int p2), .val (.int p3), .val (.int cu), .val (.int d), .val (.int (1 : Int32)), .val (.int (((p2.toUInt32 >>> ((5 : Int32) &&& 31).toUInt32).toInt32) &&& (3 : Int32))), .val (.ref b101), .val (.ref b105), .val (.ref b109), .val (.ref b112), .val (.ref b115), .val (.int (0 : Int32)), .val (.int (1 : Int32)), .val (.int (1 : Int32)), .val (.int aa), .unset, .unset, .unset] [(.ref b115)])) _
  refine XS.aload X123.here hx rfl (hb hby at_176) rfl rfl ?_
  show Steps p.tables e below (T123.setTop (mkF m 178 #[.val (.int p0), .val (.int p1), .val (.int p2), .val (.int p3), .val (.int cu), .val (.int d), .val (.int (1 : Int32)), .val (.int (((p2.toUInt32 >>> ((5 : Int32) &&& 31).toUInt32).toInt32) &&& (3 : Int32))), .val (.ref b101), .val (.ref b105), .val (.ref b109), .val (.ref b112), .val (.ref b115), .val (.int (0 : Int32)), .val (.int (1 : Int32)), .val (.int (1 : Int32)), .val (.int aa), .unset, .unset, .unset] [(.ref b109), (.ref b115)])) _
  refine XS.iload X123.here hx rfl (hb hby at_178) rfl ?_
  show Steps p.tables e below (T123.setTop (mkF m 180 #[.val (.int p0), .val (.int p1), .val (.int p2), .val (.int p3), .val (.int cu), .val (.int d), .val (.int (1 : Int32)), .val (.int (((p2.toUInt32 >>> ((5 : Int32) &&& 31).toUInt32).toInt32) &&& (3 : Int32))), .val (.ref b101), .val (.ref b105), .val (.ref b109), .val (.ref b112), .val (.ref b115), .val (.int (0 : Int32)), .val (.int (1 : Int32)), .val (.int (1 : Int32)), .val (.int aa), .unset, .unset, .unset] [(.int aa), (.ref b109), (.ref b115)])) _
  refine st124.trans ?_
  show Steps p.tables e below (T124.setTop (mkF m 183 #[.val (.int p0), .val (.int p1), .val (.int p2), .val (.int p3), .val (.int cu), .val (.int d), .val (.int (1 : Int32)), .val (.int (((p2.toUInt32 >>> ((5 : Int32) &&& 31).toUInt32).toInt32) &&& (3 : Int32))), .val (.ref b101), .val (.ref b105), .val (.ref b109), .val (.ref b112), .val (.ref b115), .val (.int (0 : Int32)), .val (.int (1 : Int32)), .val (.int (1 : Int32)), .val (.int aa), .unset, .unset, .unset] [(.int (aa + (1 : Int32)))])) _
  refine XS.istore X124.here hx rfl (hb hby at_183) rfl (l' := #[.val (.int p0), .val (.int p1), .val (.int p2), .val (.int p3), .val (.int cu), .val (.int d), .val (.int (1 : Int32)), .val (.int (((p2.toUInt32 >>> ((5 : Int32) &&& 31).toUInt32).toInt32) &&& (3 : Int32))), .val (.ref b101), .val (.ref b105), .val (.ref b109), .val (.ref b112), .val (.ref b115), .val (.int (0 : Int32)), .val (.int (1 : Int32)), .val (.int (1 : Int32)), .val (.int aa), .val (.int (aa + (1 : Int32))), .unset, .unset]) rfl ?_
  show Steps p.tables e below (T124.setTop (mkF m 185 #[.val (.int p0), .val (.int p1), .val (.int p2), .val (.int p3), .val (.int cu), .val (.int d), .val (.int (1 : Int32)), .val (.int (((p2.toUInt32 >>> ((5 : Int32) &&& 31).toUInt32).toInt32) &&& (3 : Int32))), .val (.ref b101), .val (.ref b105), .val (.ref b109), .val (.ref b112), .val (.ref b115), .val (.int (0 : Int32)), .val (.int (1 : Int32)), .val (.int (1 : Int32)), .val (.int aa), .val (.int (aa + (1 : Int32))), .unset, .unset] [])) _
  refine XS.iload X124.here hx rfl (hb hby at_185) rfl ?_
  show Steps p.tables e below (T124.setTop (mkF m 187 #[.val (.int p0), .val (.int p1), .val (.int p2), .val (.int p3), .val (.int cu), .val (.int d), .val (.int (1 : Int32)), .val (.int (((p2.toUInt32 >>> ((5 : Int32) &&& 31).toUInt32).toInt32) &&& (3 : Int32))), .val (.ref b101), .val (.ref b105), .val (.ref b109), .val (.ref b112), .val (.ref b115), .val (.int (0 : Int32)), .val (.int (1 : Int32)), .val (.int (1 : Int32)), .val (.int aa), .val (.int (aa + (1 : Int32))), .unset, .unset] [(.int (1 : Int32))])) _
  refine XS.ifNo X124.here hx rfl (hb hby at_187) rfl ((if0 _ _).trans (feq (by decide : ¬ (1 : Int32) = (0 : Int32))).1) ?_
  show Steps p.tables e below (T124.setTop (mkF m 190 #[.val (.int p0), .val (.int p1), .val (.int p2), .val (.int p3), .val (.int cu), .val (.int d), .val (.int (1 : Int32)), .val (.int (((p2.toUInt32 >>> ((5 : Int32) &&& 31).toUInt32).toInt32) &&& (3 : Int32))), .val (.ref b101), .val (.ref b105), .val (.ref b109), .val (.ref b112), .val (.ref b115), .val (.int (0 : Int32)), .val (.int (1 : Int32)), .val (.int (1 : Int32)), .val (.int aa), .val (.int (aa + (1 : Int32))), .unset, .unset] [])) _
  refine XS.iload X124.here hx rfl (hb hby at_190) rfl ?_
  show Steps p.tables e below (T124.setTop (mkF m 192 #[.val (.int p0), .val (.int p1), .val (.int p2), .val (.int p3), .val (.int cu), .val (.int d), .val (.int (1 : Int32)), .val (.int (((p2.toUInt32 >>> ((5 : Int32) &&& 31).toUInt32).toInt32) &&& (3 : Int32))), .val (.ref b101), .val (.ref b105), .val (.ref b109), .val (.ref b112), .val (.ref b115), .val (.int (0 : Int32)), .val (.int (1 : Int32)), .val (.int (1 : Int32)), .val (.int aa), .val (.int (aa + (1 : Int32))), .unset, .unset] [(.int (1 : Int32))])) _
  refine XS.ifNo X124.here hx rfl (hb hby at_192) rfl ((if0 _ _).trans (feq (by decide : ¬ (1 : Int32) = (0 : Int32))).1) ?_
  show Steps p.tables e below (T124.setTop (mkF m 195 #[.val (.int p0), .val (.int p1), .val (.int p2), .val (.int p3), .val (.int cu), .val (.int d), .val (.int (1 : Int32)), .val (.int (((p2.toUInt32 >>> ((5 : Int32) &&& 31).toUInt32).toInt32) &&& (3 : Int32))), .val (.ref b101), .val (.ref b105), .val (.ref b109), .val (.ref b112), .val (.ref b115), .val (.int (0 : Int32)), .val (.int (1 : Int32)), .val (.int (1 : Int32)), .val (.int aa), .val (.int (aa + (1 : Int32))), .unset, .unset] [])) _
  refine XS.iload X124.here hx rfl (hb hby at_195) rfl ?_
  show Steps p.tables e below (T124.setTop (mkF m 197 #[.val (.int p0), .val (.int p1), .val (.int p2), .val (.int p3), .val (.int cu), .val (.int d), .val (.int (1 : Int32)), .val (.int (((p2.toUInt32 >>> ((5 : Int32) &&& 31).toUInt32).toInt32) &&& (3 : Int32))), .val (.ref b101), .val (.ref b105), .val (.ref b109), .val (.ref b112), .val (.ref b115), .val (.int (0 : Int32)), .val (.int (1 : Int32)), .val (.int (1 : Int32)), .val (.int aa), .val (.int (aa + (1 : Int32))), .unset, .unset] [(.int (aa + (1 : Int32)))])) _
  refine XS.iload X124.here hx rfl (hb hby at_197) rfl ?_
  show Steps p.tables e below (T124.setTop (mkF m 199 #[.val (.int p0), .val (.int p1), .val (.int p2), .val (.int p3), .val (.int cu), .val (.int d), .val (.int (1 : Int32)), .val (.int (((p2.toUInt32 >>> ((5 : Int32) &&& 31).toUInt32).toInt32) &&& (3 : Int32))), .val (.ref b101), .val (.ref b105), .val (.ref b109), .val (.ref b112), .val (.ref b115), .val (.int (0 : Int32)), .val (.int (1 : Int32)), .val (.int (1 : Int32)), .val (.int aa), .val (.int (aa + (1 : Int32))), .unset, .unset] [(.int aa), (.int (aa + (1 : Int32)))])) _
  refine XS.iconst X124.here hx rfl (hb hby at_199) ?_
  show Steps p.tables e below (T124.setTop (mkF m 200 #[.val (.int p0), .val (.int p1), .val (.int p2), .val (.int p3), .val (.int cu), .val (.int d), .val (.int (1 : Int32)), .val (.int (((p2.toUInt32 >>> ((5 : Int32) &&& 31).toUInt32).toInt32) &&& (3 : Int32))), .val (.ref b101), .val (.ref b105), .val (.ref b109), .val (.ref b112), .val (.ref b115), .val (.int (0 : Int32)), .val (.int (1 : Int32)), .val (.int (1 : Int32)), .val (.int aa), .val (.int (aa + (1 : Int32))), .unset, .unset] [(.int (1 : Int32)), (.int aa), (.int (aa + (1 : Int32)))])) _
  refine XS.iadd X124.here hx rfl (hb hby at_200) rfl ?_
  show Steps p.tables e below (T124.setTop (mkF m 201 #[.val (.int p0), .val (.int p1), .val (.int p2), .val (.int p3), .val (.int cu), .val (.int d), .val (.int (1 : Int32)), .val (.int (((p2.toUInt32 >>> ((5 : Int32) &&& 31).toUInt32).toInt32) &&& (3 : Int32))), .val (.ref b101), .val (.ref b105), .val (.ref b109), .val (.ref b112), .val (.ref b115), .val (.int (0 : Int32)), .val (.int (1 : Int32)), .val (.int (1 : Int32)), .val (.int aa), .val (.int (aa + (1 : Int32))), .unset, .unset] [(.int (aa + (1 : Int32))), (.int (aa + (1 : Int32)))])) _
  refine XS.icmpNo X124.here hx rfl (hb hby at_201) rfl (teq rfl).2 ?_
  show Steps p.tables e below (T124.setTop (mkF m 204 #[.val (.int p0), .val (.int p1), .val (.int p2), .val (.int p3), .val (.int cu), .val (.int d), .val (.int (1 : Int32)), .val (.int (((p2.toUInt32 >>> ((5 : Int32) &&& 31).toUInt32).toInt32) &&& (3 : Int32))), .val (.ref b101), .val (.ref b105), .val (.ref b109), .val (.ref b112), .val (.ref b115), .val (.int (0 : Int32)), .val (.int (1 : Int32)), .val (.int (1 : Int32)), .val (.int aa), .val (.int (aa + (1 : Int32))), .unset, .unset] [])) _
  refine XS.aload X124.here hx rfl (hb hby at_204) rfl rfl ?_
  show Steps p.tables e below (T124.setTop (mkF m 206 #[.val (.int p0), .val (.int p1), .val (.int p2), .val (.int p3), .val (.int cu), .val (.int d), .val (.int (1 : Int32)), .val (.int (((p2.toUInt32 >>> ((5 : Int32) &&& 31).toUInt32).toInt32) &&& (3 : Int32))), .val (.ref b101), .val (.ref b105), .val (.ref b109), .val (.ref b112), .val (.ref b115), .val (.int (0 : Int32)), .val (.int (1 : Int32)), .val (.int (1 : Int32)), .val (.int aa), .val (.int (aa + (1 : Int32))), .unset, .unset] [(.ref b109)])) _
  refine XS.iload X124.here hx rfl (hb hby at_206) rfl ?_
  show Steps p.tables e below (T124.setTop (mkF m 208 #[.val (.int p0), .val (.int p1), .val (.int p2), .val (.int p3), .val (.int cu), .val (.int d), .val (.int (1 : Int32)), .val (.int (((p2.toUInt32 >>> ((5 : Int32) &&& 31).toUInt32).toInt32) &&& (3 : Int32))), .val (.ref b101), .val (.ref b105), .val (.ref b109), .val (.ref b112), .val (.ref b115), .val (.int (0 : Int32)), .val (.int (1 : Int32)), .val (.int (1 : Int32)), .val (.int aa), .val (.int (aa + (1 : Int32))), .unset, .unset] [(.int aa), (.ref b109)])) _
  refine own_ldC X124 hx hZ rfl At124 (j := aa) k hj hk (by omega) (v := (.int (65533 : Int32))) (own_at _ _ _) (g := (mkF m 208 #[.val (.int p0), .val (.int p1), .val (.int p2), .val (.int p3), .val (.int cu), .val (.int d), .val (.int (1 : Int32)), .val (.int (((p2.toUInt32 >>> ((5 : Int32) &&& 31).toUInt32).toInt32) &&& (3 : Int32))), .val (.ref b101), .val (.ref b105), .val (.ref b109), .val (.ref b112), .val (.ref b115), .val (.int (0 : Int32)), .val (.int (1 : Int32)), .val (.int (1 : Int32)), .val (.int aa), .val (.int (aa + (1 : Int32))), .unset, .unset] [(.int aa), (.ref b109)])) rfl rfl (hb hby at_208) _ ?_
  show Steps p.tables e below (T124.setTop (mkF m 209 #[.val (.int p0), .val (.int p1), .val (.int p2), .val (.int p3), .val (.int cu), .val (.int d), .val (.int (1 : Int32)), .val (.int (((p2.toUInt32 >>> ((5 : Int32) &&& 31).toUInt32).toInt32) &&& (3 : Int32))), .val (.ref b101), .val (.ref b105), .val (.ref b109), .val (.ref b112), .val (.ref b115), .val (.int (0 : Int32)), .val (.int (1 : Int32)), .val (.int (1 : Int32)), .val (.int aa), .val (.int (aa + (1 : Int32))), .unset, .unset] [(.int (65533 : Int32))])) _
  refine X124.ldcInt hx hown (mvT hZ (hw _ (List.mem_of_getElem? (i := 47) rfl))) (g := (mkF m 209 #[.val (.int p0), .val (.int p1), .val (.int p2), .val (.int p3), .val (.int cu), .val (.int d), .val (.int (1 : Int32)), .val (.int (((p2.toUInt32 >>> ((5 : Int32) &&& 31).toUInt32).toInt32) &&& (3 : Int32))), .val (.ref b101), .val (.ref b105), .val (.ref b109), .val (.ref b112), .val (.ref b115), .val (.int (0 : Int32)), .val (.int (1 : Int32)), .val (.int (1 : Int32)), .val (.int aa), .val (.int (aa + (1 : Int32))), .unset, .unset] [(.int (65533 : Int32))])) rfl (hb hby at_209) _ ?_
  show Steps p.tables e below (T124.setTop (mkF m 211 #[.val (.int p0), .val (.int p1), .val (.int p2), .val (.int p3), .val (.int cu), .val (.int d), .val (.int (1 : Int32)), .val (.int (((p2.toUInt32 >>> ((5 : Int32) &&& 31).toUInt32).toInt32) &&& (3 : Int32))), .val (.ref b101), .val (.ref b105), .val (.ref b109), .val (.ref b112), .val (.ref b115), .val (.int (0 : Int32)), .val (.int (1 : Int32)), .val (.int (1 : Int32)), .val (.int aa), .val (.int (aa + (1 : Int32))), .unset, .unset] [(.int (65533 : Int32)), (.int (65533 : Int32))])) _
  refine XS.icmpNo X124.here hx rfl (hb hby at_211) rfl (teq rfl).2 ?_
  show Steps p.tables e below (T124.setTop (mkF m 214 #[.val (.int p0), .val (.int p1), .val (.int p2), .val (.int p3), .val (.int cu), .val (.int d), .val (.int (1 : Int32)), .val (.int (((p2.toUInt32 >>> ((5 : Int32) &&& 31).toUInt32).toInt32) &&& (3 : Int32))), .val (.ref b101), .val (.ref b105), .val (.ref b109), .val (.ref b112), .val (.ref b115), .val (.int (0 : Int32)), .val (.int (1 : Int32)), .val (.int (1 : Int32)), .val (.int aa), .val (.int (aa + (1 : Int32))), .unset, .unset] [])) _
  refine XS.iconst X124.here hx rfl (hb hby at_214) ?_
  show Steps p.tables e below (T124.setTop (mkF m 215 #[.val (.int p0), .val (.int p1), .val (.int p2), .val (.int p3), .val (.int cu), .val (.int d), .val (.int (1 : Int32)), .val (.int (((p2.toUInt32 >>> ((5 : Int32) &&& 31).toUInt32).toInt32) &&& (3 : Int32))), .val (.ref b101), .val (.ref b105), .val (.ref b109), .val (.ref b112), .val (.ref b115), .val (.int (0 : Int32)), .val (.int (1 : Int32)), .val (.int (1 : Int32)), .val (.int aa), .val (.int (aa + (1 : Int32))), .unset, .unset] [(.int (1 : Int32))])) _
  refine XS.goto X124.here hx rfl (pc0 := 215) (pc' := 219) rfl (hb hby at_215) (by decide) (by decide) ?_
  show Steps p.tables e below (T124.setTop (mkF m 219 #[.val (.int p0), .val (.int p1), .val (.int p2), .val (.int p3), .val (.int cu), .val (.int d), .val (.int (1 : Int32)), .val (.int (((p2.toUInt32 >>> ((5 : Int32) &&& 31).toUInt32).toInt32) &&& (3 : Int32))), .val (.ref b101), .val (.ref b105), .val (.ref b109), .val (.ref b112), .val (.ref b115), .val (.int (0 : Int32)), .val (.int (1 : Int32)), .val (.int (1 : Int32)), .val (.int aa), .val (.int (aa + (1 : Int32))), .unset, .unset] [(.int (1 : Int32))])) _
  refine XS.istore X124.here hx rfl (hb hby at_219) rfl (l' := #[.val (.int p0), .val (.int p1), .val (.int p2), .val (.int p3), .val (.int cu), .val (.int d), .val (.int (1 : Int32)), .val (.int (((p2.toUInt32 >>> ((5 : Int32) &&& 31).toUInt32).toInt32) &&& (3 : Int32))), .val (.ref b101), .val (.ref b105), .val (.ref b109), .val (.ref b112), .val (.ref b115), .val (.int (0 : Int32)), .val (.int (1 : Int32)), .val (.int (1 : Int32)), .val (.int aa), .val (.int (aa + (1 : Int32))), .unset, .unset]) rfl ?_
  show Steps p.tables e below (T124.setTop (mkF m 221 #[.val (.int p0), .val (.int p1), .val (.int p2), .val (.int p3), .val (.int cu), .val (.int d), .val (.int (1 : Int32)), .val (.int (((p2.toUInt32 >>> ((5 : Int32) &&& 31).toUInt32).toInt32) &&& (3 : Int32))), .val (.ref b101), .val (.ref b105), .val (.ref b109), .val (.ref b112), .val (.ref b115), .val (.int (0 : Int32)), .val (.int (1 : Int32)), .val (.int (1 : Int32)), .val (.int aa), .val (.int (aa + (1 : Int32))), .unset, .unset] [])) _
  refine XS.goto X124.here hx rfl (pc0 := 221) (pc' := 251) rfl (hb hby at_221) (by decide) (by decide) ?_
  show Steps p.tables e below (T124.setTop (mkF m 251 #[.val (.int p0), .val (.int p1), .val (.int p2), .val (.int p3), .val (.int cu), .val (.int d), .val (.int (1 : Int32)), .val (.int (((p2.toUInt32 >>> ((5 : Int32) &&& 31).toUInt32).toInt32) &&& (3 : Int32))), .val (.ref b101), .val (.ref b105), .val (.ref b109), .val (.ref b112), .val (.ref b115), .val (.int (0 : Int32)), .val (.int (1 : Int32)), .val (.int (1 : Int32)), .val (.int aa), .val (.int (aa + (1 : Int32))), .unset, .unset] [])) _
  refine XS.iload X124.here hx rfl (hb hby at_251) rfl ?_
  show Steps p.tables e below (T124.setTop (mkF m 253 #[.val (.int p0), .val (.int p1), .val (.int p2), .val (.int p3), .val (.int cu), .val (.int d), .val (.int (1 : Int32)), .val (.int (((p2.toUInt32 >>> ((5 : Int32) &&& 31).toUInt32).toInt32) &&& (3 : Int32))), .val (.ref b101), .val (.ref b105), .val (.ref b109), .val (.ref b112), .val (.ref b115), .val (.int (0 : Int32)), .val (.int (1 : Int32)), .val (.int (1 : Int32)), .val (.int aa), .val (.int (aa + (1 : Int32))), .unset, .unset] [(.int (1 : Int32))])) _
  refine XS.ifNo X124.here hx rfl (hb hby at_253) rfl ((if0 _ _).trans (feq (by decide : ¬ (1 : Int32) = (0 : Int32))).1) ?_
  show Steps p.tables e below (T124.setTop (mkF m 256 #[.val (.int p0), .val (.int p1), .val (.int p2), .val (.int p3), .val (.int cu), .val (.int d), .val (.int (1 : Int32)), .val (.int (((p2.toUInt32 >>> ((5 : Int32) &&& 31).toUInt32).toInt32) &&& (3 : Int32))), .val (.ref b101), .val (.ref b105), .val (.ref b109), .val (.ref b112), .val (.ref b115), .val (.int (0 : Int32)), .val (.int (1 : Int32)), .val (.int (1 : Int32)), .val (.int aa), .val (.int (aa + (1 : Int32))), .unset, .unset] [])) _
  refine XS.aload X124.here hx rfl (hb hby at_256) rfl rfl ?_
  show Steps p.tables e below (T124.setTop (mkF m 258 #[.val (.int p0), .val (.int p1), .val (.int p2), .val (.int p3), .val (.int cu), .val (.int d), .val (.int (1 : Int32)), .val (.int (((p2.toUInt32 >>> ((5 : Int32) &&& 31).toUInt32).toInt32) &&& (3 : Int32))), .val (.ref b101), .val (.ref b105), .val (.ref b109), .val (.ref b112), .val (.ref b115), .val (.int (0 : Int32)), .val (.int (1 : Int32)), .val (.int (1 : Int32)), .val (.int aa), .val (.int (aa + (1 : Int32))), .unset, .unset] [(.ref b109)])) _
  refine XS.iload X124.here hx rfl (hb hby at_258) rfl ?_
  show Steps p.tables e below (T124.setTop (mkF m 260 #[.val (.int p0), .val (.int p1), .val (.int p2), .val (.int p3), .val (.int cu), .val (.int d), .val (.int (1 : Int32)), .val (.int (((p2.toUInt32 >>> ((5 : Int32) &&& 31).toUInt32).toInt32) &&& (3 : Int32))), .val (.ref b101), .val (.ref b105), .val (.ref b109), .val (.ref b112), .val (.ref b115), .val (.int (0 : Int32)), .val (.int (1 : Int32)), .val (.int (1 : Int32)), .val (.int aa), .val (.int (aa + (1 : Int32))), .unset, .unset] [(.int aa), (.ref b109)])) _
  refine XS.iconst X124.here hx rfl (hb hby at_260) ?_
  show Steps p.tables e below (T124.setTop (mkF m 261 #[.val (.int p0), .val (.int p1), .val (.int p2), .val (.int p3), .val (.int cu), .val (.int d), .val (.int (1 : Int32)), .val (.int (((p2.toUInt32 >>> ((5 : Int32) &&& 31).toUInt32).toInt32) &&& (3 : Int32))), .val (.ref b101), .val (.ref b105), .val (.ref b109), .val (.ref b112), .val (.ref b115), .val (.int (0 : Int32)), .val (.int (1 : Int32)), .val (.int (1 : Int32)), .val (.int aa), .val (.int (aa + (1 : Int32))), .unset, .unset] [(.int (1 : Int32)), (.int aa), (.ref b109)])) _
  refine XS.iadd X124.here hx rfl (hb hby at_261) rfl ?_
  show Steps p.tables e below (T124.setTop (mkF m 262 #[.val (.int p0), .val (.int p1), .val (.int p2), .val (.int p3), .val (.int cu), .val (.int d), .val (.int (1 : Int32)), .val (.int (((p2.toUInt32 >>> ((5 : Int32) &&& 31).toUInt32).toInt32) &&& (3 : Int32))), .val (.ref b101), .val (.ref b105), .val (.ref b109), .val (.ref b112), .val (.ref b115), .val (.int (0 : Int32)), .val (.int (1 : Int32)), .val (.int (1 : Int32)), .val (.int aa), .val (.int (aa + (1 : Int32))), .unset, .unset] [(.int (aa + (1 : Int32))), (.ref b109)])) _
  refine own_ldC X124 hx hZ rfl At124 (j := (aa + (1 : Int32))) (k + 1) (own_ix (d := 1) (i := 1) hj hk rfl (by omega)).1 (own_ix (d := 1) (i := 1) hj hk rfl (by omega)).2 (by omega) (v := (.int (0 : Int32))) (own_off _ _ (by omega)) (g := (mkF m 262 #[.val (.int p0), .val (.int p1), .val (.int p2), .val (.int p3), .val (.int cu), .val (.int d), .val (.int (1 : Int32)), .val (.int (((p2.toUInt32 >>> ((5 : Int32) &&& 31).toUInt32).toInt32) &&& (3 : Int32))), .val (.ref b101), .val (.ref b105), .val (.ref b109), .val (.ref b112), .val (.ref b115), .val (.int (0 : Int32)), .val (.int (1 : Int32)), .val (.int (1 : Int32)), .val (.int aa), .val (.int (aa + (1 : Int32))), .unset, .unset] [(.int (aa + (1 : Int32))), (.ref b109)])) rfl rfl (hb hby at_262) _ ?_
  show Steps p.tables e below (T124.setTop (mkF m 263 #[.val (.int p0), .val (.int p1), .val (.int p2), .val (.int p3), .val (.int cu), .val (.int d), .val (.int (1 : Int32)), .val (.int (((p2.toUInt32 >>> ((5 : Int32) &&& 31).toUInt32).toInt32) &&& (3 : Int32))), .val (.ref b101), .val (.ref b105), .val (.ref b109), .val (.ref b112), .val (.ref b115), .val (.int (0 : Int32)), .val (.int (1 : Int32)), .val (.int (1 : Int32)), .val (.int aa), .val (.int (aa + (1 : Int32))), .unset, .unset] [(.int (0 : Int32))])) _
  refine XS.ifNo X124.here hx rfl (hb hby at_263) rfl ((if0 _ _).trans (teq rfl).2) ?_
  show Steps p.tables e below (T124.setTop (mkF m 266 #[.val (.int p0), .val (.int p1), .val (.int p2), .val (.int p3), .val (.int cu), .val (.int d), .val (.int (1 : Int32)), .val (.int (((p2.toUInt32 >>> ((5 : Int32) &&& 31).toUInt32).toInt32) &&& (3 : Int32))), .val (.ref b101), .val (.ref b105), .val (.ref b109), .val (.ref b112), .val (.ref b115), .val (.int (0 : Int32)), .val (.int (1 : Int32)), .val (.int (1 : Int32)), .val (.int aa), .val (.int (aa + (1 : Int32))), .unset, .unset] [])) _
  refine XS.iconst X124.here hx rfl (hb hby at_266) ?_
  show Steps p.tables e below (T124.setTop (mkF m 267 #[.val (.int p0), .val (.int p1), .val (.int p2), .val (.int p3), .val (.int cu), .val (.int d), .val (.int (1 : Int32)), .val (.int (((p2.toUInt32 >>> ((5 : Int32) &&& 31).toUInt32).toInt32) &&& (3 : Int32))), .val (.ref b101), .val (.ref b105), .val (.ref b109), .val (.ref b112), .val (.ref b115), .val (.int (0 : Int32)), .val (.int (1 : Int32)), .val (.int (1 : Int32)), .val (.int aa), .val (.int (aa + (1 : Int32))), .unset, .unset] [(.int (1 : Int32))])) _
  refine XS.goto X124.here hx rfl (pc0 := 267) (pc' := 271) rfl (hb hby at_267) (by decide) (by decide) ?_
  show Steps p.tables e below (T124.setTop (mkF m 271 #[.val (.int p0), .val (.int p1), .val (.int p2), .val (.int p3), .val (.int cu), .val (.int d), .val (.int (1 : Int32)), .val (.int (((p2.toUInt32 >>> ((5 : Int32) &&& 31).toUInt32).toInt32) &&& (3 : Int32))), .val (.ref b101), .val (.ref b105), .val (.ref b109), .val (.ref b112), .val (.ref b115), .val (.int (0 : Int32)), .val (.int (1 : Int32)), .val (.int (1 : Int32)), .val (.int aa), .val (.int (aa + (1 : Int32))), .unset, .unset] [(.int (1 : Int32))])) _
  refine XS.istore X124.here hx rfl (hb hby at_271) rfl (l' := #[.val (.int p0), .val (.int p1), .val (.int p2), .val (.int p3), .val (.int cu), .val (.int d), .val (.int (1 : Int32)), .val (.int (((p2.toUInt32 >>> ((5 : Int32) &&& 31).toUInt32).toInt32) &&& (3 : Int32))), .val (.ref b101), .val (.ref b105), .val (.ref b109), .val (.ref b112), .val (.ref b115), .val (.int (0 : Int32)), .val (.int (1 : Int32)), .val (.int (1 : Int32)), .val (.int aa), .val (.int (aa + (1 : Int32))), .unset, .unset]) rfl ?_
  exact kt
set_option maxRecDepth 65536 in
set_option maxHeartbeats 40000000 in
theorem sg1H2 {p : Program} {l : Launch} {e : Env} {s : State} {m : MethodId} {args : Array Value} {below : List Frame} {meth : Method} {c : Code} {T0 : State} {locs : List Loc} {Z : State} {a0 : Array Value} (p0 : Int32) (p1 : Int32) (p2 : Int32) (p3 : Int32) (cu : Int32) (d : Int32) (h0 : Heap) (n0 : Nat) (Z0 : n0 ≤ h0.size) (X0 : Stand p l e room_1 s m args below meth c T0 locs 0 0) (N0 : Fr n0 locs) (hx : p.tables.exec = Jvm.exec) (hZ : Z.Warmed39 s.vm) (hw : ∀ d ∈ tables_1, d.before a0 Z = true) (hby : c.code = code) (hml : c.maxLocals = 20) (hown : s.vm.findClass "com/example/cellwright/cellwright/hive/DecoderFinishPinLaw" = some m.cls) (e0 : T0.heap = h0) (hch_cu : own_ch cu) (h1 : ¬ cu < (55296 : Int32)) (h2 : ¬ (56319 : Int32) < cu) (hb21 : (((p2.toUInt32 >>> ((4 : Int32) &&& 31).toUInt32).toInt32) &&& (1 : Int32)) = (0 : Int32)) :
    ∃ (T' : State) (locs' : List Loc) (s0 : Slot) (s1 : Slot) (s2 : Slot) (s3 : Slot) (s4 : Slot) (s6 : Slot) (s7 : Slot) (s8 : Slot) (s10 : Slot) (s13 : Slot) (s14 : Slot) (s16 : Slot) (s17 : Slot) (b9 : Addr) (b11 : Addr) (b12 : Addr), Stand p l e room_1 s m args below meth c T' locs' 5 18 ∧ Fr n0 locs' ∧ n0 ≤ T'.heap.size ∧ n0 ≤ b11 ∧ n0 ≤ b12 ∧ b9 ≠ b12 ∧ b9 ≠ b11 ∧ b11 ≠ b12 ∧ OwnA Z T'.heap b9 .byte 2 (own_upd (own_upd (fun _ => (.int (0 : Int32))) 0 (.int (d.toInt8.toInt32).toInt8.toInt32)) 1 (.int (((d.toUInt32 >>> ((8 : Int32) &&& 31).toUInt32).toInt32).toInt8.toInt32).toInt8.toInt32)) ∧ OwnA Z T'.heap b11 .char 4 (fun _ => .int (0 : Int32)) ∧ Exa Z T'.heap b12 "com/example/cellwright/cellwright/hive/Utf16Le$Decoder" ∧ Fld Z T'.heap b12 "com/example/cellwright/cellwright/hive/Utf16Le$Decoder" "oddByte" "I" (.int (-1 : Int32)) ∧ Fld Z T'.heap b12 "com/example/cellwright/cellwright/hive/Utf16Le$Decoder" "high" "C" (.int (0 : Int32)) ∧
      ∀ target, Steps p.tables e below (T'.setTop (mkF m 273 #[s0, s1, s2, s3, s4, .val (.int d), s6, s7, s8, .val (.ref b9), s10, .val (.ref b11), .val (.ref b12), s13, s14, .val (.int (1 : Int32)), s16, s17, .unset, .unset] [])) target → Steps p.tables e below (T0.setTop (mkF m 16 #[.val (.int p0), .val (.int p1), .val (.int p2), .val (.int p3), .val (.int cu), .val (.int d), .unset, .unset, .unset, .unset, .unset, .unset, .unset, .unset, .unset, .unset, .unset, .unset, .unset, .unset] [])) target := by
  obtain ⟨T101, h101, k101, X101, e101, E101, A101, Ex101, st101⟩ := newPE X0 hx hZ (aty := .byte) (hw _ (List.mem_of_getElem? (i := 5) rfl)) e0 (g := (mkF m 48 #[.val (.int p0), .val (.int p1), .val (.int p2), .val (.int p3), .val (.int cu), .val (.int d), .val (.int (0 : Int32)), .val (.int (((p2.toUInt32 >>> ((5 : Int32) &&& 31).toUInt32).toInt32) &&& (3 : Int32))), .unset, .unset, .unset, .unset, .unset, .unset, .unset, .unset, .unset, .unset, .unset, .unset] [(.int (2 : Int32))])) rfl (hb hby at_48) rfl (by decide) (cap := 2) (by decide) (by decide) (by decide) (by decide) (ad := "[B") (by decide)
  obtain ⟨b101, g101⟩ : ∃ z, z = h0.size := ⟨_, rfl⟩
  rw [← g101] at A101 Ex101 st101
  have g_b101 : n0 ≤ b101 := Nat.le_trans Z0 (Nat.le_of_eq g101.symm)
  have sz_b101 : h0.size ≤ b101 := Nat.le_trans (Keep.refl h0 []).1 (Nat.le_of_eq g101.symm)
  have Z101 : n0 ≤ h101.size := Nat.le_trans Z0 E101.1
  have KC101 : Keep h0 h101 [] := (Keep.refl h0 []).ext E101
  have V101 : OwnA Z h101 b101 .byte 2 (fun _ => (.int (0 : Int32))) := OwnA.new A101 rfl
  obtain ⟨T102, h102, X102, e102, W102, V102, st102⟩ := own_stB X101 hx hZ e101 V101 (j := (0 : Int32)) 0 (by decide) rfl (by decide) (g := (mkF m 58 #[.val (.int p0), .val (.int p1), .val (.int p2), .val (.int p3), .val (.int cu), .val (.int d), .val (.int (0 : Int32)), .val (.int (((p2.toUInt32 >>> ((5 : Int32) &&& 31).toUInt32).toInt32) &&& (3 : Int32))), .val (.ref b101), .unset, .unset, .unset, .unset, .unset, .unset, .unset, .unset, .unset, .unset, .unset] [(.int (cu.toInt8.toInt32)), (.int (0 : Int32)), (.ref b101)])) rfl rfl (hb hby at_58)
  have Z102 : n0 ≤ h102.size := Nat.le_trans Z101 (Nat.le_of_eq W102.size.symm)
  have KC102 : Keep h0 h102 [] := KC101.wr W102 (Or.inr sz_b101)
  have N102 := Fr.snoc X102 N0 g_b101
  obtain ⟨T103, h103, X103, e103, W103, V103, st103⟩ := own_stB X102 hx hZ e102 V102 (j := (1 : Int32)) 1 (by decide) rfl (by decide) (g := (mkF m 68 #[.val (.int p0), .val (.int p1), .val (.int p2), .val (.int p3), .val (.int cu), .val (.int d), .val (.int (0 : Int32)), .val (.int (((p2.toUInt32 >>> ((5 : Int32) &&& 31).toUInt32).toInt32) &&& (3 : Int32))), .val (.ref b101), .unset, .unset, .unset, .unset, .unset, .unset, .unset, .unset, .unset, .unset, .unset] [(.int (((cu.toUInt32 >>> ((8 : Int32) &&& 31).toUInt32).toInt32).toInt8.toInt32)), (.int (1 : Int32)), (.ref b101)])) rfl rfl (hb hby at_68)
  have Z103 : n0 ≤ h103.size := Nat.le_trans Z102 (Nat.le_of_eq W103.size.symm)
  have KC103 : Keep h0 h103 [] := KC102.wr W103 (Or.inr sz_b101)
  have N103 := Fr.snoc X103 N102 g_b101
  obtain ⟨T104, h104, k104, X104, e104, E104, A104, Ex104, st104⟩ := newPE X103 hx hZ (aty := .byte) (hw _ (List.mem_of_getElem? (i := 5) rfl)) e103 (g := (mkF m 81 #[.val (.int p0), .val (.int p1), .val (.int p2), .val (.int p3), .val (.int cu), .val (.int d), .val (.int (0 : Int32)), .val (.int (((p2.toUInt32 >>> ((5 : Int32) &&& 31).toUInt32).toInt32) &&& (3 : Int32))), .val (.ref b101), .unset, .unset, .unset, .unset, .unset, .unset, .unset, .unset, .unset, .unset, .unset] [(.int (2 : Int32))])) rfl (hb hby at_81) rfl (by decide) (cap := 2) (by decide) (by decide) (by decide) (by decide) (ad := "[B") (by decide)
  obtain ⟨b104, g104⟩ : ∃ z, z = h103.size := ⟨_, rfl⟩
  rw [← g104] at A104 Ex104 st104
  have f105 := ((Ex101.wr W102).wr W103)
  have ne_b101_b104 : b101 ≠ b104 := Nat.ne_of_lt (Nat.lt_of_lt_of_le f105.lt (Nat.le_of_eq g104.symm))
  have g_b104 : n0 ≤ b104 := Nat.le_trans Z103 (Nat.le_of_eq g104.symm)
  have sz_b104 : h0.size ≤ b104 := Nat.le_trans KC103.1 (Nat.le_of_eq g104.symm)
  have Z104 : n0 ≤ h104.size := Nat.le_trans Z103 E104.1
  have KC104 : Keep h0 h104 [] := KC103.ext E104
  have V104 : OwnA Z h104 b104 .byte 2 (fun _ => (.int (0 : Int32))) := OwnA.new A104 rfl
  obtain ⟨T106, h106, X106, e106, W106, V106, st106⟩ := own_stB X104 hx hZ e104 V104 (j := (0 : Int32)) 0 (by decide) rfl (by decide) (g := (mkF m 91 #[.val (.int p0), .val (.int p1), .val (.int p2), .val (.int p3), .val (.int cu), .val (.int d), .val (.int (0 : Int32)), .val (.int (((p2.toUInt32 >>> ((5 : Int32) &&& 31).toUInt32).toInt32) &&& (3 : Int32))), .val (.ref b101), .val (.ref b104), .unset, .unset, .unset, .unset, .unset, .unset, .unset, .unset, .unset, .unset] [(.int (d.toInt8.toInt32)), (.int (0 : Int32)), (.ref b104)])) rfl rfl (hb hby at_91)
  have Z106 : n0 ≤ h106.size := Nat.le_trans Z104 (Nat.le_of_eq W106.size.symm)
  have KC106 : Keep h0 h106 [] := KC104.wr W106 (Or.inr sz_b104)
  have N106 := Fr.snoc X106 N103 g_b104
  obtain ⟨T107, h107, X107, e107, W107, V107, st107⟩ := own_stB X106 hx hZ e106 V106 (j := (1 : Int32)) 1 (by decide) rfl (by decide) (g := (mkF m 101 #[.val (.int p0), .val (.int p1), .val (.int p2), .val (.int p3), .val (.int cu), .val (.int d), .val (.int (0 : Int32)), .val (.int (((p2.toUInt32 >>> ((5 : Int32) &&& 31).toUInt32).toInt32) &&& (3 : Int32))), .val (.ref b101), .val (.ref b104), .unset, .unset, .unset, .unset, .unset, .unset, .unset, .unset, .unset, .unset] [(.int (((d.toUInt32 >>> ((8 : Int32) &&& 31).toUInt32).toInt32).toInt8.toInt32)), (.int (1 : Int32)), (.ref b104)])) rfl rfl (hb hby at_101)
  have Z107 : n0 ≤ h107.size := Nat.le_trans Z106 (Nat.le_of_eq W107.size.symm)
  have KC107 : Keep h0 h107 [] := KC106.wr W107 (Or.inr sz_b104)
  have N107 := Fr.snoc X107 N106 g_b104
  obtain ⟨T108, h108, k108, X108, e108, E108, A108, Ex108, st108⟩ := newPE X107 hx hZ (aty := .char) (hw _ (List.mem_of_getElem? (i := 6) rfl)) e107 (g := (mkF m 104 #[.val (.int p0), .val (.int p1), .val (.int p2), .val (.int p3), .val (.int cu), .val (.int d), .val (.int (0 : Int32)), .val (.int (((p2.toUInt32 >>> ((5 : Int32) &&& 31).toUInt32).toInt32) &&& (3 : Int32))), .val (.ref b101), .val (.ref b104), .unset, .unset, .unset, .unset, .unset, .unset, .unset, .unset, .unset, .unset] [(.int (8 : Int32))])) rfl (hb hby at_104) rfl (by decide) (cap := 8) (by decide) (by decide) (by decide) (by decide) (ad := "[C") (by decide)
  obtain ⟨b108, g108⟩ : ∃ z, z = h107.size := ⟨_, rfl⟩
  rw [← g108] at A108 Ex108 st108
  have f109 := (((f105.ext E104).wr W106).wr W107)
  have f110 := ((Ex104.wr W106).wr W107)
  have ne_b101_b108 : b101 ≠ b108 := Nat.ne_of_lt (Nat.lt_of_lt_of_le f109.lt (Nat.le_of_eq g108.symm))
  have ne_b104_b108 : b104 ≠ b108 := Nat.ne_of_lt (Nat.lt_of_lt_of_le f110.lt (Nat.le_of_eq g108.symm))
  have g_b108 : n0 ≤ b108 := Nat.le_trans Z107 (Nat.le_of_eq g108.symm)
  have sz_b108 : h0.size ≤ b108 := Nat.le_trans KC107.1 (Nat.le_of_eq g108.symm)
  have Z108 : n0 ≤ h108.size := Nat.le_trans Z107 E108.1
  have KC108 : Keep h0 h108 [] := KC107.ext E108
  have V108 : OwnA Z h108 b108 .char 8 (fun _ => (.int (0 : Int32))) := OwnA.new A108 rfl
  obtain ⟨T111, h111, k111, X111, e111, E111, A111, Ex111, st111⟩ := newPE X108 hx hZ (aty := .char) (hw _ (List.mem_of_getElem? (i := 6) rfl)) e108 (g := (mkF m 109 #[.val (.int p0), .val (.int p1), .val (.int p2), .val (.int p3), .val (.int cu), .val (.int d), .val (.int (0 : Int32)), .val (.int (((p2.toUInt32 >>> ((5 : Int32) &&& 31).toUInt32).toInt32) &&& (3 : Int32))), .val (.ref b101), .val (.ref b104), .val (.ref b108), .unset, .unset, .unset, .unset, .unset, .unset, .unset, .unset, .unset] [(.int (4 : Int32))])) rfl (hb hby at_109) rfl (by decide) (cap := 4) (by decide) (by decide) (by decide) (by decide) (ad := "[C") (by decide)
  obtain ⟨b111, g111⟩ : ∃ z, z = h108.size := ⟨_, rfl⟩
  rw [← g111] at A111 Ex111 st111
  have f112 := (f109.ext E108)
  have f113 := (f110.ext E108)
  have ne_b101_b111 : b101 ≠ b111 := Nat.ne_of_lt (Nat.lt_of_lt_of_le f112.lt (Nat.le_of_eq g111.symm))
  have ne_b104_b111 : b104 ≠ b111 := Nat.ne_of_lt (Nat.lt_of_lt_of_le f113.lt (Nat.le_of_eq g111.symm))
  have ne_b108_b111 : b108 ≠ b111 := Nat.ne_of_lt (Nat.lt_of_lt_of_le Ex108.lt (Nat.le_of_eq g111.symm))
  have g_b111 : n0 ≤ b111 := Nat.le_trans Z108 (Nat.le_of_eq g111.symm)
  have sz_b111 : h0.size ≤ b111 := Nat.le_trans KC108.1 (Nat.le_of_eq g111.symm)
  have Z111 : n0 ≤ h111.size := Nat.le_trans Z108 E111.1
  have KC111 : Keep h0 h111 [] := KC108.ext E111
  have V111 : OwnA Z h111 b111 .char 4 (fun _ => (.int (0 : Int32))) := OwnA.new A111 rfl
  obtain ⟨T114, h114, X114, e114, E114, A114, D114, -, st114⟩ := newO X111 hx hZ hown (hw _ (List.mem_of_getElem? (i := 7) rfl)) (hw _ (List.mem_of_getElem? (i := 8) rfl)) (hw _ (List.mem_of_getElem? (i := 9) rfl)) e111 (g := (mkF m 113 #[.val (.int p0), .val (.int p1), .val (.int p2), .val (.int p3), .val (.int cu), .val (.int d), .val (.int (0 : Int32)), .val (.int (((p2.toUInt32 >>> ((5 : Int32) &&& 31).toUInt32).toInt32) &&& (3 : Int32))), .val (.ref b101), .val (.ref b104), .val (.ref b108), .val (.ref b111), .unset, .unset, .unset, .unset, .unset, .unset, .unset, .unset] [])) rfl (hb hby at_113) (by decide) (by decide)
  obtain ⟨b114, g114⟩ : ∃ z, z = h111.size := ⟨_, rfl⟩
  rw [← g114] at A114 D114 st114
  have f115 := (f112.ext E111)
  have f116 := (f113.ext E111)
  have f117 := (Ex108.ext E111)
  have ne_b101_b114 : b101 ≠ b114 := Nat.ne_of_lt (Nat.lt_of_lt_of_le f115.lt (Nat.le_of_eq g114.symm))
  have ne_b104_b114 : b104 ≠ b114 := Nat.ne_of_lt (Nat.lt_of_lt_of_le f116.lt (Nat.le_of_eq g114.symm))
  have ne_b108_b114 : b108 ≠ b114 := Nat.ne_of_lt (Nat.lt_of_lt_of_le f117.lt (Nat.le_of_eq g114.symm))
  have ne_b111_b114 : b111 ≠ b114 := Nat.ne_of_lt (Nat.lt_of_lt_of_le Ex111.lt (Nat.le_of_eq g114.symm))
  have g_b114 : n0 ≤ b114 := Nat.le_trans Z111 (Nat.le_of_eq g114.symm)
  have sz_b114 : h0.size ≤ b114 := Nat.le_trans KC111.1 (Nat.le_of_eq g114.symm)
  have Z114 : n0 ≤ h114.size := Nat.le_trans Z111 E114.1
  have KC114 : Keep h0 h114 [] := KC111.ext E114
  have F_oddByte_b114 : Fld Z h114 b114 "com/example/cellwright/cellwright/hive/Utf16Le$Decoder" "oddByte" "I" (.int (0 : Int32)) := D114 (Or.inl (hw _ (List.mem_of_getElem? (i := 17) rfl))) (ty := .int) (by decide)
  have F_high_b114 : Fld Z h114 b114 "com/example/cellwright/cellwright/hive/Utf16Le$Decoder" "high" "C" (.int (0 : Int32)) := D114 (Or.inl (hw _ (List.mem_of_getElem? (i := 24) rfl))) (ty := .char) (by decide)
  obtain ⟨_, _, ⟨T118, L118, k118, n118⟩, -, X118, ⟨Lc118, hQ118, l118, y118, z118⟩, st118⟩ := X114.specialBack hx (y := (⟨"com/example/cellwright/cellwright/hive/Utf16Le$Decoder", "<init>", "()V"⟩ : MethodName)) rfl hown (mvT hZ (hw _ (List.mem_of_getElem? (i := 10) rfl))) (mvT hZ (hw _ (List.mem_of_getElem? (i := 11) rfl))) (mvT hZ (hw _ (List.mem_of_getElem? (i := 12) rfl))) (by decide) (backOf (W := 1) (rmI l Z a0 hw [] b114 h114 n0 Z114 A114 F_oddByte_b114 F_high_b114 g_b114) hZ (hw _ (List.mem_of_getElem? (i := 12) rfl)) (hw _ (List.mem_of_getElem? (i := 9) rfl)) (by decide) (by decide)) (g := (mkF m 117 #[.val (.int p0), .val (.int p1), .val (.int p2), .val (.int p3), .val (.int cu), .val (.int d), .val (.int (0 : Int32)), .val (.int (((p2.toUInt32 >>> ((5 : Int32) &&& 31).toUInt32).toInt32) &&& (3 : Int32))), .val (.ref b101), .val (.ref b104), .val (.ref b108), .val (.ref b111), .unset, .unset, .unset, .unset, .unset, .unset, .unset, .unset] [(.ref b114), (.ref b114)])) rfl (by rw [hml]; rfl) (Steps.refl _) (a := b114) (argsL := []) (rest := [(.ref b114)]) (lenOf own_pd3 rfl) rfl (by show 2 * 0 + _ ≤ _; exact Nat.le_of_eq rfl) (hb hby at_117) (fun _ _ => ⟨rfl, e114, (by decide : 5 + 0 ≤ _), (by decide : 18 + 0 ≤ _)⟩)
  dsimp only [Pt.U, Pt.locs, Pt.cells, Pt.slots] at X118 l118 y118 z118 st118 hQ118
  subst l118 y118 z118
  obtain ⟨rfl, Nq118, K118, Ex118, Fo118, Fh118⟩ := hQ118
  have Z118 : n0 ≤ T118.heap.size := Nat.le_trans Z114 K118.1
  have KC118 : Keep h0 T118.heap [] := KC114.trans K118 (allS (Or.inr sz_b114) all0)
  have N118 := Fr.app N107 Nq118
  have f119 := (((((((V103.ext E104).other W106 ne_b101_b104).other W107 ne_b101_b104).ext E108).ext E111).ext E114).keep K118 (ninS ne_b101_b114 nin0))
  have f120 := (((V108.ext E111).ext E114).keep K118 (ninS ne_b108_b114 nin0))
  obtain ⟨cq121, kq121, q121a, q121b, q121c⟩ := isOf hZ rfl Ex118
  obtain ⟨_, _, ⟨T121, L121, k121, n121⟩, -, X121, ⟨Lc121, hQ121, l121, y121, z121⟩, st121⟩ := X118.virtualBack hx (y := (⟨"com/example/cellwright/cellwright/hive/Utf16Le$Decoder", "decode", "([BII[CI)I"⟩ : MethodName)) (z := (⟨"com/example/cellwright/cellwright/hive/Utf16Le$Decoder", "decode", "([BII[CI)I"⟩ : MethodName)) hown (mvT hZ (hw _ (List.mem_of_getElem? (i := 18) rfl))) (mvT hZ (hw _ (List.mem_of_getElem? (i := 19) rfl))) (notFace_of_selects (args := #[]) (mvT hZ (hw _ (List.mem_of_getElem? (i := 21) rfl)))) (mvT hZ (hw _ (List.mem_of_getElem? (i := 21) rfl))) (mvT hZ (hw _ (List.mem_of_getElem? (i := 20) rfl))) (by decide) (backOf (W := 0) (rmDH2 l Z a0 hw [] b114 b101 b108 8 _ _ cu (cu.toInt8.toInt32) (((cu.toUInt32 >>> ((8 : Int32) &&& 31).toUInt32).toInt32).toInt8.toInt32) T118.heap n0 Z118 Ex118 Fh118 f120 (by decide) g_b114 g_b108 ne_b108_b114 hch_cu Fo118 f119 ne_b101_b114 ne_b101_b108 (congrArg Value.int (own_nn _)) (congrArg Value.int (own_nn _)) (own_join hch_cu) h1 h2) hZ (hw _ (List.mem_of_getElem? (i := 22) rfl)) (hw _ (List.mem_of_getElem? (i := 9) rfl)) (by decide) (by decide)) q121a q121c (g := (mkF m 133 #[.val (.int p0), .val (.int p1), .val (.int p2), .val (.int p3), .val (.int cu), .val (.int d), .val (.int (0 : Int32)), .val (.int (((p2.toUInt32 >>> ((5 : Int32) &&& 31).toUInt32).toInt32) &&& (3 : Int32))), .val (.ref b101), .val (.ref b104), .val (.ref b108), .val (.ref b111), .val (.ref b114), .unset, .unset, .unset, .unset, .unset, .unset, .unset] [(.int (0 : Int32)), (.ref b108), (.int (2 : Int32)), (.int (0 : Int32)), (.ref b101), (.ref b114)])) rfl (by rw [hml]; rfl) (Steps.refl _) (argsL := [(.ref b101), (.int (0 : Int32)), (.int (2 : Int32)), (.ref b108), (.int (0 : Int32))]) (rest := []) (lenOf own_pd4 rfl) rfl (by show 2 * 0 + _ ≤ _; exact Nat.le_of_eq rfl) (hb hby at_133) (fun _ _ => ⟨rfl, rfl, (by decide : 5 + 0 ≤ _), (by decide : 18 + 0 ≤ _)⟩)
  dsimp only [Pt.U, Pt.locs, Pt.cells, Pt.slots] at X121 l121 y121 z121 st121 hQ121
  subst l121 y121 z121
  obtain ⟨o121, rfl, Nq121, K121, Ex121, Fo121, Fh121, At121⟩ := hQ121
  have Z121 : n0 ≤ T121.heap.size := Nat.le_trans Z118 K121.1
  have KC121 : Keep h0 T121.heap [] := KC118.trans K121 (allS (Or.inr sz_b114) (allS (Or.inr sz_b108) all0))
  have N121 := Fr.app N118 Nq121
  obtain ⟨_, _, ⟨T122, L122, k122, n122⟩, -, X122, ⟨Lc122, hQ122, l122, y122, z122⟩, st122⟩ := Jvm.LawKit.callS X121 hx (y := (⟨"com/example/cellwright/cellwright/hive/DecoderFinishPinLaw", "isHigh", "(C)Z"⟩ : MethodName)) hown (mvT hZ (hw _ (List.mem_of_getElem? (i := 26) rfl))) (mvT hZ (hw _ (List.mem_of_getElem? (i := 27) rfl))) (mvT hZ (hw _ (List.mem_of_getElem? (i := 2) rfl))) (mvT hZ (hw _ (List.mem_of_getElem? (i := 28) rfl))) (by decide) (backOf (W := 0) (rm_ihH l Z a0 hw [] cu T121.heap n0 Z121 h1 h2) hZ (hw _ (List.mem_of_getElem? (i := 28) rfl)) (hw _ (List.mem_of_getElem? (i := 2) rfl)) (by decide) (by decide)) (g := (mkF m 140 #[.val (.int p0), .val (.int p1), .val (.int p2), .val (.int p3), .val (.int cu), .val (.int d), .val (.int (0 : Int32)), .val (.int (((p2.toUInt32 >>> ((5 : Int32) &&& 31).toUInt32).toInt32) &&& (3 : Int32))), .val (.ref b101), .val (.ref b104), .val (.ref b108), .val (.ref b111), .val (.ref b114), .val (.int (0 : Int32)), .unset, .unset, .unset, .unset, .unset, .unset] [(.int cu)])) rfl (by rw [hml]; rfl) (argsL := [(.int cu)]) (rest := []) (lenOf own_pd0 rfl) rfl (by show 2 * 0 + _ ≤ _; exact Nat.le_of_eq rfl) (hb hby at_140) (fun _ _ => ⟨rfl, rfl, (by decide : 5 + 0 ≤ _), (by decide : 18 + 0 ≤ _)⟩)
  dsimp only [Pt.U, Pt.locs, Pt.cells, Pt.slots] at X122 l122 y122 z122 st122 hQ122
  subst l122 y122 z122
  obtain ⟨rfl, Nq122, e122⟩ := hQ122
  have N122 := Fr.app N121 Nq122
  obtain ⟨aa, hv_aa⟩ : ∃ z : Int32, z = ((0 : Int32) + (((p2.toUInt32 >>> ((5 : Int32) &&& 31).toUInt32).toInt32) &&& (3 : Int32))) := ⟨_, rfl⟩
  obtain ⟨hj, k, hk, hk1, hk4⟩ := own_aaH hv_aa
  obtain ⟨cq123, kq123, q123a, q123b, q123c⟩ := isOf hZ e122 Ex121
  obtain ⟨_, _, ⟨T123, L123, k123, n123⟩, -, X123, ⟨Lc123, hQ123, l123, y123, z123⟩, st123⟩ := X122.virtualBack hx (y := (⟨"com/example/cellwright/cellwright/hive/Utf16Le$Decoder", "finish", "([CI)I"⟩ : MethodName)) (z := (⟨"com/example/cellwright/cellwright/hive/Utf16Le$Decoder", "finish", "([CI)I"⟩ : MethodName)) hown (mvT hZ (hw _ (List.mem_of_getElem? (i := 29) rfl))) (mvT hZ (hw _ (List.mem_of_getElem? (i := 30) rfl))) (notFace_of_selects (args := #[]) (mvT hZ (hw _ (List.mem_of_getElem? (i := 32) rfl)))) (mvT hZ (hw _ (List.mem_of_getElem? (i := 32) rfl))) (mvT hZ (hw _ (List.mem_of_getElem? (i := 31) rfl))) (by decide) (backOf (W := 0) (rmFH l Z a0 hw [] b114 b108 aa 8 _ o121 k cu T121.heap n0 Z121 Ex121 Fo121 Fh121 At121 g_b114 g_b108 ne_b108_b114 hj hk (by omega) (own_hnz h1)) hZ (hw _ (List.mem_of_getElem? (i := 33) rfl)) (hw _ (List.mem_of_getElem? (i := 9) rfl)) (by decide) (by decide)) q123a q123c (g := (mkF m 180 #[.val (.int p0), .val (.int p1), .val (.int p2), .val (.int p3), .val (.int cu), .val (.int d), .val (.int (0 : Int32)), .val (.int (((p2.toUInt32 >>> ((5 : Int32) &&& 31).toUInt32).toInt32) &&& (3 : Int32))), .val (.ref b101), .val (.ref b104), .val (.ref b108), .val (.ref b111), .val (.ref b114), .val (.int (0 : Int32)), .val (.int (1 : Int32)), .val (.int (1 : Int32)), .val (.int aa), .unset, .unset, .unset] [(.int aa), (.ref b108), (.ref b114)])) rfl (by rw [hml]; rfl) (Steps.refl _) (argsL := [(.ref b108), (.int aa)]) (rest := []) (lenOf own_pd5 rfl) rfl (by show 2 * 0 + _ ≤ _; exact Nat.le_of_eq rfl) (hb hby at_180) (fun _ _ => ⟨rfl, e122, (by decide : 5 + 0 ≤ _), (by decide : 18 + 0 ≤ _)⟩)
  dsimp only [Pt.U, Pt.locs, Pt.cells, Pt.slots] at X123 l123 y123 z123 st123 hQ123
  subst l123 y123 z123
  obtain ⟨rfl, Nq123, K123, Ex123, Fo123, Fh123, At123⟩ := hQ123
  have Z123 : n0 ≤ T123.heap.size := Nat.le_trans Z121 K123.1
  have KC123 : Keep h0 T123.heap [] := KC121.trans K123 (allS (Or.inr sz_b114) (allS (Or.inr sz_b108) all0))
  have N123 := Fr.app N122 Nq123
  have f124 := ((((((V107.ext E108).ext E111).ext E114).keep K118 (ninS ne_b104_b114 nin0)).keep K121 (ninS ne_b104_b114 (ninS ne_b104_b108 nin0))).keep K123 (ninS ne_b104_b114 (ninS ne_b104_b108 nin0)))
  have f125 := ((((V111.ext E114).keep K118 (ninS ne_b111_b114 nin0)).keep K121 (ninS ne_b111_b114 (ninS (Ne.symm ne_b108_b111) nin0))).keep K123 (ninS ne_b111_b114 (ninS (Ne.symm ne_b108_b111) nin0)))
  have Zend : n0 ≤ T123.heap.size := Z123
  refine ⟨T123, _, (.val (.int p0)), (.val (.int p1)), (.val (.int p2)), (.val (.int p3)), (.val (.int cu)), (.val (.int (0 : Int32))), (.val (.int (((p2.toUInt32 >>> ((5 : Int32) &&& 31).toUInt32).toInt32) &&& (3 : Int32)))), (.val (.ref b101)), (.val (.ref b108)), (.val (.int (0 : Int32))), (.val (.int (1 : Int32))), (.val (.int aa)), (.val (.int (aa + (1 : Int32)))), b104, b111, b114, X123, N123, Zend, g_b111, g_b114, ne_b104_b114, ne_b104_b111, ne_b111_b114, f124, f125, Ex123, Fo123, Fh123, fun target kt => ?_⟩
  show Steps p.tables e below (T0.setTop (mkF m 16 #[.val (.int p0), .val (.int p1), .val (.int p2), .val (.int p3), .val (.int cu), .val (.int d), .unset, .unset, .unset, .unset, .unset, .unset, .unset, .unset, .unset, .unset, .unset, .unset, .unset, .unset] [])) _
  refine XS.iloadN X0.here hx rfl (hb hby at_16) rfl ?_
  show Steps p.tables e below (T0.setTop (mkF m 17 #[.val (.int p0), .val (.int p1), .val (.int p2), .val (.int p3), .val (.int cu), .val (.int d), .unset, .unset, .unset, .unset, .unset, .unset, .unset, .unset, .unset, .unset, .unset, .unset, .unset, .unset] [(.int p2)])) _
  refine XS.iconst X0.here hx rfl (hb hby at_17) ?_
  show Steps p.tables e below (T0.setTop (mkF m 18 #[.val (.int p0), .val (.int p1), .val (.int p2), .val (.int p3), .val (.int cu), .val (.int d), .unset, .unset, .unset, .unset, .unset, .unset, .unset, .unset, .unset, .unset, .unset, .unset, .unset, .unset] [(.int (4 : Int32)), (.int p2)])) _
  refine XS.iushr X0.here hx rfl (hb hby at_18) rfl ?_
  show Steps p.tables e below (T0.setTop (mkF m 19 #[.val (.int p0), .val (.int p1), .val (.int p2), .val (.int p3), .val (.int cu), .val (.int d), .unset, .unset, .unset, .unset, .unset, .unset, .unset, .unset, .unset, .unset, .unset, .unset, .unset, .unset] [(.int ((p2.toUInt32 >>> ((4 : Int32) &&& 31).toUInt32).toInt32))])) _
  refine XS.iconst X0.here hx rfl (hb hby at_19) ?_
  show Steps p.tables e below (T0.setTop (mkF m 20 #[.val (.int p0), .val (.int p1), .val (.int p2), .val (.int p3), .val (.int cu), .val (.int d), .unset, .unset, .unset, .unset, .unset, .unset, .unset, .unset, .unset, .unset, .unset, .unset, .unset, .unset] [(.int (1 : Int32)), (.int ((p2.toUInt32 >>> ((4 : Int32) &&& 31).toUInt32).toInt32))])) _
  refine XS.iand X0.here hx rfl (hb hby at_20) rfl ?_
  show Steps p.tables e below (T0.setTop (mkF m 21 #[.val (.int p0), .val (.int p1), .val (.int p2), .val (.int p3), .val (.int cu), .val (.int d), .unset, .unset, .unset, .unset, .unset, .unset, .unset, .unset, .unset, .unset, .unset, .unset, .unset, .unset] [(.int (((p2.toUInt32 >>> ((4 : Int32) &&& 31).toUInt32).toInt32) &&& (1 : Int32)))])) _
  refine XS.ifYes X0.here hx rfl (pc0 := 21) (pc' := 28) rfl (hb hby at_21) rfl ((if0 _ _).trans (teq hb21).1) (by decide) (by decide) ?_
  show Steps p.tables e below (T0.setTop (mkF m 28 #[.val (.int p0), .val (.int p1), .val (.int p2), .val (.int p3), .val (.int cu), .val (.int d), .unset, .unset, .unset, .unset, .unset, .unset, .unset, .unset, .unset, .unset, .unset, .unset, .unset, .unset] [])) _
  refine XS.iconst X0.here hx rfl (hb hby at_28) ?_
  show Steps p.tables e below (T0.setTop (mkF m 29 #[.val (.int p0), .val (.int p1), .val (.int p2), .val (.int p3), .val (.int cu), .val (.int d), .unset, .unset, .unset, .unset, .unset, .unset, .unset, .unset, .unset, .unset, .unset, .unset, .unset, .unset] [(.int (0 : Int32))])) _
  refine XS.istore X0.here hx rfl (hb hby at_29) rfl (l' := #[.val (.int p0), .val (.int p1), .val (.int p2), .val (.int p3), .val (.int cu), .val (.int d), .val (.int (0 : Int32)), .unset, .unset, .unset, .unset, .unset, .unset, .unset, .unset, .unset, .unset, .unset, .unset, .unset]) rfl ?_
  show Steps p.tables e below (T0.setTop (mkF m 31 #[.val (.int p0), .val (.int p1), .val (.int p2), .val (.int p3), .val (.int cu), .val (.int d), .val (.int (0 : Int32)), .unset, .unset, .unset, .unset, .unset, .unset, .unset, .unset, .unset, .unset, .unset, .unset, .unset] [])) _
  refine XS.iloadN X0.here hx rfl (hb hby at_31) rfl ?_
  show Steps p.tables e below (T0.setTop (mkF m 32 #[.val (.int p0), .val (.int p1), .val (.int p2), .val (.int p3), .val (.int cu), .val (.int d), .val (.int (0 : Int32)), .unset, .unset, .unset, .unset, .unset, .unset, .unset, .unset, .unset, .unset, .unset, .unset, .unset] [(.int p2)])) _
  refine XS.iconst X0.here hx rfl (hb hby at_32) ?_
  show Steps p.tables e below (T0.setTop (mkF m 33 #[.val (.int p0), .val (.int p1), .val (.int p2), .val (.int p3), .val (.int cu), .val (.int d), .val (.int (0 : Int32)), .unset, .unset, .unset, .unset, .unset, .unset, .unset, .unset, .unset, .unset, .unset, .unset, .unset] [(.int (5 : Int32)), (.int p2)])) _
  refine XS.iushr X0.here hx rfl (hb hby at_33) rfl ?_
  show Steps p.tables e below (T0.setTop (mkF m 34 #[.val (.int p0), .val (.int p1), .val (.int p2), .val (.int p3), .val (.int cu), .val (.int d), .val (.int (0 : Int32)), .unset, .unset, .unset, .unset, .unset, .unset, .unset, .unset, .unset, .unset, .unset, .unset, .unset] [(.int ((p2.toUInt32 >>> ((5 : Int32) &&& 31).toUInt32).toInt32))])) _
  refine XS.iconst X0.here hx rfl (hb hby at_34) ?_
  show Steps p.tables e below (T0.setTop (mkF m 35 #[.val (.int p0), .val (.int p1), .val (.int p2), .val (.int p3), .val (.int cu), .val (.int d), .val (.int (0 : Int32)), .unset, .unset, .unset, .unset, .unset, .unset, .unset, .unset, .unset, .unset, .unset, .unset, .unset] [(.int (3 : Int32)), (.int ((p2.toUInt32 >>> ((5 : Int32) &&& 31).toUInt32).toInt32))])) _
  refine XS.iand X0.here hx rfl (hb hby at_35) rfl ?_
  show Steps p.tables e below (T0.setTop (mkF m 36 #[.val (.int p0), .val (.int p1), .val (.int p2), .val (.int p3), .val (.int cu), .val (.int d), .val (.int (0 : Int32)), .unset, .unset, .unset, .unset, .unset, .unset, .unset, .unset, .unset, .unset, .unset, .unset, .unset] [(.int (((p2.toUInt32 >>> ((5 : Int32) &&& 31).toUInt32).toInt32) &&& (3 : Int32)))])) _
  refine XS.istore X0.here hx rfl (hb hby at_36) rfl (l' := #[.val (.int p0), .val (.int p1), .val (.int p2), .val (.int p3), .val (.int cu), .val (.int d), .val (.int (0 : Int32)), .val (.int (((p2.toUInt32 >>> ((5 : Int32) &&& 31).toUInt32).toInt32) &&& (3 : Int32))), .unset, .unset, .unset, .unset, .unset, .unset, .unset, .unset, .unset, .unset, .unset, .unset]) rfl ?_
  show Steps p.tables e below (T0.setTop (mkF m 38 #[.val (.int p0), .val (.int p1), .val (.int p2), .val (.int p3), .val (.int cu), .val (.int d), .val (.int (0 : Int32)), .val (.int (((p2.toUInt32 >>> ((5 : Int32) &&& 31).toUInt32).toInt32) &&& (3 : Int32))), .unset, .unset, .unset, .unset, .unset, .unset, .unset, .unset, .unset, .unset, .unset, .unset] [])) _
  refine XS.iload X0.here hx rfl (hb hby at_38) rfl ?_
  show Steps p.tables e below (T0.setTop (mkF m 40 #[.val (.int p0), .val (.int p1), .val (.int p2), .val (.int p3), .val (.int cu), .val (.int d), .val (.int (0 : Int32)), .val (.int (((p2.toUInt32 >>> ((5 : Int32) &&& 31).toUInt32).toInt32) &&& (3 : Int32))), .unset, .unset, .unset, .unset, .unset, .unset, .unset, .unset, .unset, .unset, .unset, .unset] [(.int (0 : Int32))])) _
  refine XS.ifYes X0.here hx rfl (pc0 := 40) (pc' := 47) rfl (hb hby at_40) rfl ((if0 _ _).trans (teq rfl).1) (by decide) (by decide) ?_
  show Steps p.tables e below (T0.setTop (mkF m 47 #[.val (.int p0), .val (.int p1), .val (.int p2), .val (.int p3), .val (.int cu), .val (.int d), .val (.int (0 : Int32)), .val (.int (((p2.toUInt32 >>> ((5 : Int32) &&& 31).toUInt32).toInt32) &&& (3 : Int32))), .unset, .unset, .unset, .unset, .unset, .unset, .unset, .unset, .unset, .unset, .unset, .unset] [])) _
  refine XS.iconst X0.here hx rfl (hb hby at_47) ?_
  show Steps p.tables e below (T0.setTop (mkF m 48 #[.val (.int p0), .val (.int p1), .val (.int p2), .val (.int p3), .val (.int cu), .val (.int d), .val (.int (0 : Int32)), .val (.int (((p2.toUInt32 >>> ((5 : Int32) &&& 31).toUInt32).toInt32) &&& (3 : Int32))), .unset, .unset, .unset, .unset, .unset, .unset, .unset, .unset, .unset, .unset, .unset, .unset] [(.int (2 : Int32))])) _
  refine st101 _ ?_
  show Steps p.tables e below (T101.setTop (mkF m 50 #[.val (.int p0), .val (.int p1), .val (.int p2), .val (.int p3), .val (.int cu), .val (.int d), .val (.int (0 : Int32)), .val (.int (((p2.toUInt32 >>> ((5 : Int32) &&& 31).toUInt32).toInt32) &&& (3 : Int32))), .unset, .unset, .unset, .unset, .unset, .unset, .unset, .unset, .unset, .unset, .unset, .unset] [(.ref b101)])) _
  refine XS.astore X101.here hx rfl (hb hby at_50) rfl rfl (l' := #[.val (.int p0), .val (.int p1), .val (.int p2), .val (.int p3), .val (.int cu), .val (.int d), .val (.int (0 : Int32)), .val (.int (((p2.toUInt32 >>> ((5 : Int32) &&& 31).toUInt32).toInt32) &&& (3 : Int32))), .val (.ref b101), .unset, .unset, .unset, .unset, .unset, .unset, .unset, .unset, .unset, .unset, .unset]) rfl ?_
  show Steps p.tables e below (T101.setTop (mkF m 52 #[.val (.int p0), .val (.int p1), .val (.int p2), .val (.int p3), .val (.int cu), .val (.int d), .val (.int (0 : Int32)), .val (.int (((p2.toUInt32 >>> ((5 : Int32) &&& 31).toUInt32).toInt32) &&& (3 : Int32))), .val (.ref b101), .unset, .unset, .unset, .unset, .unset, .unset, .unset, .unset, .unset, .unset, .unset] [])) _
  refine XS.aload X101.here hx rfl (hb hby at_52) rfl rfl ?_
  show Steps p.tables e below (T101.setTop (mkF m 54 #[.val (.int p0), .val (.int p1), .val (.int p2), .val (.int p3), .val (.int cu), .val (.int d), .val (.int (0 : Int32)), .val (.int (((p2.toUInt32 >>> ((5 : Int32) &&& 31).toUInt32).toInt32) &&& (3 : Int32))), .val (.ref b101), .unset, .unset, .unset, .unset, .unset, .unset, .unset, .unset, .unset, .unset, .unset] [(.ref b101)])) _
  refine XS.iconst X101.here hx rfl (hb hby at_54) ?_
  show Steps p.tables e below (T101.setTop (mkF m 55 #[.val (.int p0), .val (.int p1), .val (.int p2), .val (.int p3), .val (.int cu), .val (.int d), .val (.int (0 : Int32)), .val (.int (((p2.toUInt32 >>> ((5 : Int32) &&& 31).toUInt32).toInt32) &&& (3 : Int32))), .val (.ref b101), .unset, .unset, .unset, .unset, .unset, .unset, .unset, .unset, .unset, .unset, .unset] [(.int (0 : Int32)), (.ref b101)])) _
  refine XS.iload X101.here hx rfl (hb hby at_55) rfl ?_
  show Steps p.tables e below (T101.setTop (mkF m 57 #[.val (.int p0), .val (.int p1), .val (.int p2), .val (.int p3), .val (.int cu), .val (.int d), .val (.int (0 : Int32)), .val (.int (((p2.toUInt32 >>> ((5 : Int32) &&& 31).toUInt32).toInt32) &&& (3 : Int32))), .val (.ref b101), .unset, .unset, .unset, .unset, .unset, .unset, .unset, .unset, .unset, .unset, .unset] [(.int cu), (.int (0 : Int32)), (.ref b101)])) _
  refine XS.i2b X101.here hx rfl (hb hby at_57) rfl ?_
  show Steps p.tables e below (T101.setTop (mkF m 58 #[.val (.int p0), .val (.int p1), .val (.int p2), .val (.int p3), .val (.int cu), .val (.int d), .val (.int (0 : Int32)), .val (.int (((p2.toUInt32 >>> ((5 : Int32) &&& 31).toUInt32).toInt32) &&& (3 : Int32))), .val (.ref b101), .unset, .unset, .unset, .unset, .unset, .unset, .unset, .unset, .unset, .unset, .unset] [(.int (cu.toInt8.toInt32)), (.int (0 : Int32)), (.ref b101)])) _
  refine st102 _ ?_
  show Steps p.tables e below (T102.setTop (mkF m 59 #[.val (.int p0), .val (.int p1), .val (.int p2), .val (.int p3), .val (.int cu), .val (.int d), .val (.int (0 : Int32)), .val (.int (((p2.toUInt32 >>> ((5 : Int32) &&& 31).toUInt32).toInt32) &&& (3 : Int32))), .val (.ref b101), .unset, .unset, .unset, .unset, .unset, .unset, .unset, .unset, .unset, .unset, .unset] [])) _
  refine XS.aload X102.here hx rfl (hb hby at_59) rfl rfl ?_
  show Steps p.tables e below (T102.setTop (mkF m 61 #[.val (.int p0), .val (.int p1), .val (.int p2), .val (.int p3), .val (.int cu), .val (.int d), .val (.int (0 : Int32)), .val (.int (((p2.toUInt32 >>> ((5 : Int32) &&& 31).toUInt32).toInt32) &&& (3 : Int32))), .val (.ref b101), .unset, .unset, .unset, .unset, .unset, .unset, .unset, .unset, .unset, .unset, .unset] [(.ref b101)])) _
  refine XS.iconst X102.here hx rfl (hb hby at_61) ?_
  show Steps p.tables e below (T102.setTop (mkF m 62 #[.val (.int p0), .val (.int p1), .val (.int p2), .val (.int p3), .val (.int cu), .val (.int d), .val (.int (0 : Int32)), .val (.int (((p2.toUInt32 >>> ((5 : Int32) &&& 31).toUInt32).toInt32) &&& (3 : Int32))), .val (.ref b101), .unset, .unset, .unset, .unset, .unset, .unset, .unset, .unset, .unset, .unset, .unset] [(.int (1 : Int32)), (.ref b101)])) _
  refine XS.iload X102.here hx rfl (hb hby at_62) rfl ?_
  show Steps p.tables e below (T102.setTop (mkF m 64 #[.val (.int p0), .val (.int p1), .val (.int p2), .val (.int p3), .val (.int cu), .val (.int d), .val (.int (0 : Int32)), .val (.int (((p2.toUInt32 >>> ((5 : Int32) &&& 31).toUInt32).toInt32) &&& (3 : Int32))), .val (.ref b101), .unset, .unset, .unset, .unset, .unset, .unset, .unset, .unset, .unset, .unset, .unset] [(.int cu), (.int (1 : Int32)), (.ref b101)])) _
  refine XS.bipush X102.here hx rfl (hb hby at_64) ?_
  show Steps p.tables e below (T102.setTop (mkF m 66 #[.val (.int p0), .val (.int p1), .val (.int p2), .val (.int p3), .val (.int cu), .val (.int d), .val (.int (0 : Int32)), .val (.int (((p2.toUInt32 >>> ((5 : Int32) &&& 31).toUInt32).toInt32) &&& (3 : Int32))), .val (.ref b101), .unset, .unset, .unset, .unset, .unset, .unset, .unset, .unset, .unset, .unset, .unset] [(.int (8 : Int32)), (.int cu), (.int (1 : Int32)), (.ref b101)])) _
  refine XS.iushr X102.here hx rfl (hb hby at_66) rfl ?_
  show Steps p.tables e below (T102.setTop (mkF m 67 #[.val (.int p0), .val (.int p1), .val (.int p2), .val (.int p3), .val (.int cu), .val (.int d), .val (.int (0 : Int32)), .val (.int (((p2.toUInt32 >>> ((5 : Int32) &&& 31).toUInt32).toInt32) &&& (3 : Int32))), .val (.ref b101), .unset, .unset, .unset, .unset, .unset, .unset, .unset, .unset, .unset, .unset, .unset] [(.int ((cu.toUInt32 >>> ((8 : Int32) &&& 31).toUInt32).toInt32)), (.int (1 : Int32)), (.ref b101)])) _
  refine XS.i2b X102.here hx rfl (hb hby at_67) rfl ?_
  show Steps p.tables e below (T102.setTop (mkF m 68 #[.val (.int p0), .val (.int p1), .val (.int p2), .val (.int p3), .val (.int cu), .val (.int d), .val (.int (0 : Int32)), .val (.int (((p2.toUInt32 >>> ((5 : Int32) &&& 31).toUInt32).toInt32) &&& (3 : Int32))), .val (.ref b101), .unset, .unset, .unset, .unset, .unset, .unset, .unset, .unset, .unset, .unset, .unset] [(.int (((cu.toUInt32 >>> ((8 : Int32) &&& 31).toUInt32).toInt32).toInt8.toInt32)), (.int (1 : Int32)), (.ref b101)])) _
  refine st103 _ ?_
  show Steps p.tables e below (T103.setTop (mkF m 69 #[.val (.int p0), .val (.int p1), .val (.int p2), .val (.int p3), .val (.int cu), .val (.int d), .val (.int (0 : Int32)), .val (.int (((p2.toUInt32 >>> ((5 : Int32) &&& 31).toUInt32).toInt32) &&& (3 : Int32))), .val (.ref b101), .unset, .unset, .unset, .unset, .unset, .unset, .unset, .unset, .unset, .unset, .unset] [])) _
  refine XS.iload X103.here hx rfl (hb hby at_69) rfl ?_
  show Steps p.tables e below (T103.setTop (mkF m 71 #[.val (.int p0), .val (.int p1), .val (.int p2), .val (.int p3), .val (.int cu), .val (.int d), .val (.int (0 : Int32)), .val (.int (((p2.toUInt32 >>> ((5 : Int32) &&& 31).toUInt32).toInt32) &&& (3 : Int32))), .val (.ref b101), .unset, .unset, .unset, .unset, .unset, .unset, .unset, .unset, .unset, .unset, .unset] [(.int (0 : Int32))])) _
  refine XS.ifYes X103.here hx rfl (pc0 := 71) (pc' := 80) rfl (hb hby at_71) rfl ((if0 _ _).trans (teq rfl).1) (by decide) (by decide) ?_
  show Steps p.tables e below (T103.setTop (mkF m 80 #[.val (.int p0), .val (.int p1), .val (.int p2), .val (.int p3), .val (.int cu), .val (.int d), .val (.int (0 : Int32)), .val (.int (((p2.toUInt32 >>> ((5 : Int32) &&& 31).toUInt32).toInt32) &&& (3 : Int32))), .val (.ref b101), .unset, .unset, .unset, .unset, .unset, .unset, .unset, .unset, .unset, .unset, .unset] [])) _
  refine XS.iconst X103.here hx rfl (hb hby at_80) ?_
  show Steps p.tables e below (T103.setTop (mkF m 81 #[.val (.int p0), .val (.int p1), .val (.int p2), .val (.int p3), .val (.int cu), .val (.int d), .val (.int (0 : Int32)), .val (.int (((p2.toUInt32 >>> ((5 : Int32) &&& 31).toUInt32).toInt32) &&& (3 : Int32))), .val (.ref b101), .unset, .unset, .unset, .unset, .unset, .unset, .unset, .unset, .unset, .unset, .unset] [(.int (2 : Int32))])) _
  refine st104 _ ?_
  show Steps p.tables e below (T104.setTop (mkF m 83 #[.val (.int p0), .val (.int p1), .val (.int p2), .val (.int p3), .val (.int cu), .val (.int d), .val (.int (0 : Int32)), .val (.int (((p2.toUInt32 >>> ((5 : Int32) &&& 31).toUInt32).toInt32) &&& (3 : Int32))), .val (.ref b101), .unset, .unset, .unset, .unset, .unset, .unset, .unset, .unset, .unset, .unset, .unset] [(.ref b104)])) _
  refine XS.astore X104.here hx rfl (hb hby at_83) rfl rfl (l' := #[.val (.int p0), .val (.int p1), .val (.int p2), .val (.int p3), .val (.int cu), .val (.int d), .val (.int (0 : Int32)), .val (.int (((p2.toUInt32 >>> ((5 : Int32) &&& 31).toUInt32).toInt32) &&& (3 : Int32))), .val (.ref b101), .val (.ref b104), .unset, .unset, .unset, .unset, .unset, .unset, .unset, .unset, .unset, .unset]) rfl ?_
  show Steps p.tables e below (T104.setTop (mkF m 85 #[.val (.int p0), .val (.int p1), .val (.int p2), .val (.int p3), .val (.int cu), .val (.int d), .val (.int (0 : Int32)), .val (.int (((p2.toUInt32 >>> ((5 : Int32) &&& 31).toUInt32).toInt32) &&& (3 : Int32))), .val (.ref b101), .val (.ref b104), .unset, .unset, .unset, .unset, .unset, .unset, .unset, .unset, .unset, .unset] [])) _
  refine XS.aload X104.here hx rfl (hb hby at_85) rfl rfl ?_
  show Steps p.tables e below (T104.setTop (mkF m 87 #[.val (.int p0), .val (.int p1), .val (.int p2), .val (.int p3), .val (.int cu), .val (.int d), .val (.int (0 : Int32)), .val (.int (((p2.toUInt32 >>> ((5 : Int32) &&& 31).toUInt32).toInt32) &&& (3 : Int32))), .val (.ref b101), .val (.ref b104), .unset, .unset, .unset, .unset, .unset, .unset, .unset, .unset, .unset, .unset] [(.ref b104)])) _
  refine XS.iconst X104.here hx rfl (hb hby at_87) ?_
  show Steps p.tables e below (T104.setTop (mkF m 88 #[.val (.int p0), .val (.int p1), .val (.int p2), .val (.int p3), .val (.int cu), .val (.int d), .val (.int (0 : Int32)), .val (.int (((p2.toUInt32 >>> ((5 : Int32) &&& 31).toUInt32).toInt32) &&& (3 : Int32))), .val (.ref b101), .val (.ref b104), .unset, .unset, .unset, .unset, .unset, .unset, .unset, .unset, .unset, .unset] [(.int (0 : Int32)), (.ref b104)])) _
  refine XS.iload X104.here hx rfl (hb hby at_88) rfl ?_
  show Steps p.tables e below (T104.setTop (mkF m 90 #[.val (.int p0), .val (.int p1), .val (.int p2), .val (.int p3), .val (.int cu), .val (.int d), .val (.int (0 : Int32)), .val (.int (((p2.toUInt32 >>> ((5 : Int32) &&& 31).toUInt32).toInt32) &&& (3 : Int32))), .val (.ref b101), .val (.ref b104), .unset, .unset, .unset, .unset, .unset, .unset, .unset, .unset, .unset, .unset] [(.int d), (.int (0 : Int32)), (.ref b104)])) _
  refine XS.i2b X104.here hx rfl (hb hby at_90) rfl ?_
  show Steps p.tables e below (T104.setTop (mkF m 91 #[.val (.int p0), .val (.int p1), .val (.int p2), .val (.int p3), .val (.int cu), .val (.int d), .val (.int (0 : Int32)), .val (.int (((p2.toUInt32 >>> ((5 : Int32) &&& 31).toUInt32).toInt32) &&& (3 : Int32))), .val (.ref b101), .val (.ref b104), .unset, .unset, .unset, .unset, .unset, .unset, .unset, .unset, .unset, .unset] [(.int (d.toInt8.toInt32)), (.int (0 : Int32)), (.ref b104)])) _
  refine st106 _ ?_
  show Steps p.tables e below (T106.setTop (mkF m 92 #[.val (.int p0), .val (.int p1), .val (.int p2), .val (.int p3), .val (.int cu), .val (.int d), .val (.int (0 : Int32)), .val (.int (((p2.toUInt32 >>> ((5 : Int32) &&& 31).toUInt32).toInt32) &&& (3 : Int32))), .val (.ref b101), .val (.ref b104), .unset, .unset, .unset, .unset, .unset, .unset, .unset, .unset, .unset, .unset] [])) _
  refine XS.aload X106.here hx rfl (hb hby at_92) rfl rfl ?_
  show Steps p.tables e below (T106.setTop (mkF m 94 #[.val (.int p0), .val (.int p1), .val (.int p2), .val (.int p3), .val (.int cu), .val (.int d), .val (.int (0 : Int32)), .val (.int (((p2.toUInt32 >>> ((5 : Int32) &&& 31).toUInt32).toInt32) &&& (3 : Int32))), .val (.ref b101), .val (.ref b104), .unset, .unset, .unset, .unset, .unset, .unset, .unset, .unset, .unset, .unset] [(.ref b104)])) _
  refine XS.iconst X106.here hx rfl (hb hby at_94) ?_
  show Steps p.tables e below (T106.setTop (mkF m 95 #[.val (.int p0), .val (.int p1), .val (.int p2), .val (.int p3), .val (.int cu), .val (.int d), .val (.int (0 : Int32)), .val (.int (((p2.toUInt32 >>> ((5 : Int32) &&& 31).toUInt32).toInt32) &&& (3 : Int32))), .val (.ref b101), .val (.ref b104), .unset, .unset, .unset, .unset, .unset, .unset, .unset, .unset, .unset, .unset] [(.int (1 : Int32)), (.ref b104)])) _
  refine XS.iload X106.here hx rfl (hb hby at_95) rfl ?_
  show Steps p.tables e below (T106.setTop (mkF m 97 #[.val (.int p0), .val (.int p1), .val (.int p2), .val (.int p3), .val (.int cu), .val (.int d), .val (.int (0 : Int32)), .val (.int (((p2.toUInt32 >>> ((5 : Int32) &&& 31).toUInt32).toInt32) &&& (3 : Int32))), .val (.ref b101), .val (.ref b104), .unset, .unset, .unset, .unset, .unset, .unset, .unset, .unset, .unset, .unset] [(.int d), (.int (1 : Int32)), (.ref b104)])) _
  refine XS.bipush X106.here hx rfl (hb hby at_97) ?_
  show Steps p.tables e below (T106.setTop (mkF m 99 #[.val (.int p0), .val (.int p1), .val (.int p2), .val (.int p3), .val (.int cu), .val (.int d), .val (.int (0 : Int32)), .val (.int (((p2.toUInt32 >>> ((5 : Int32) &&& 31).toUInt32).toInt32) &&& (3 : Int32))), .val (.ref b101), .val (.ref b104), .unset, .unset, .unset, .unset, .unset, .unset, .unset, .unset, .unset, .unset] [(.int (8 : Int32)), (.int d), (.int (1 : Int32)), (.ref b104)])) _
  refine XS.iushr X106.here hx rfl (hb hby at_99) rfl ?_
  show Steps p.tables e below (T106.setTop (mkF m 100 #[.val (.int p0), .val (.int p1), .val (.int p2), .val (.int p3), .val (.int cu), .val (.int d), .val (.int (0 : Int32)), .val (.int (((p2.toUInt32 >>> ((5 : Int32) &&& 31).toUInt32).toInt32) &&& (3 : Int32))), .val (.ref b101), .val (.ref b104), .unset, .unset, .unset, .unset, .unset, .unset, .unset, .unset, .unset, .unset] [(.int ((d.toUInt32 >>> ((8 : Int32) &&& 31).toUInt32).toInt32)), (.int (1 : Int32)), (.ref b104)])) _
  refine XS.i2b X106.here hx rfl (hb hby at_100) rfl ?_
  show Steps p.tables e below (T106.setTop (mkF m 101 #[.val (.int p0), .val (.int p1), .val (.int p2), .val (.int p3), .val (.int cu), .val (.int d), .val (.int (0 : Int32)), .val (.int (((p2.toUInt32 >>> ((5 : Int32) &&& 31).toUInt32).toInt32) &&& (3 : Int32))), .val (.ref b101), .val (.ref b104), .unset, .unset, .unset, .unset, .unset, .unset, .unset, .unset, .unset, .unset] [(.int (((d.toUInt32 >>> ((8 : Int32) &&& 31).toUInt32).toInt32).toInt8.toInt32)), (.int (1 : Int32)), (.ref b104)])) _
  refine st107 _ ?_
  show Steps p.tables e below (T107.setTop (mkF m 102 #[.val (.int p0), .val (.int p1), .val (.int p2), .val (.int p3), .val (.int cu), .val (.int d), .val (.int (0 : Int32)), .val (.int (((p2.toUInt32 >>> ((5 : Int32) &&& 31).toUInt32).toInt32) &&& (3 : Int32))), .val (.ref b101), .val (.ref b104), .unset, .unset, .unset, .unset, .unset, .unset, .unset, .unset, .unset, .unset] [])) _
  refine XS.bipush X107.here hx rfl (hb hby at_102) ?_
  show Steps p.tables e below (T107.setTop (mkF m 104 #[.val (.int p0), .val (.int p1), .val (.int p2), .val (.int p3), .val (.int cu), .val (.int d), .val (.int (0 : Int32)), .val (.int (((p2.toUInt32 >>> ((5 : Int32) &&& 31).toUInt32).toInt32) &&& (3 : Int32))), .val (.ref b101), .val (.ref b104), .unset, .unset, .unset, .unset, .unset, .unset, .unset, .unset, .unset, .unset] [(.int (8 : Int32))])) _
  refine st108 _ ?_
  show Steps p.tables e below (T108.setTop (mkF m 106 #[.val (.int p0), .val (.int p1), .val (.int p2), .val (.int p3), .val (.int cu), .val (.int d), .val (.int (0 : Int32)), .val (.int (((p2.toUInt32 >>> ((5 : Int32) &&& 31).toUInt32).toInt32) &&& (3 : Int32))), .val (.ref b101), .val (.ref b104), .unset, .unset, .unset, .unset, .unset, .unset, .unset, .unset, .unset, .unset] [(.ref b108)])) _
  refine XS.astore X108.here hx rfl (hb hby at_106) rfl rfl (l' := #[.val (.int p0), .val (.int p1), .val (.int p2), .val (.int p3), .val (.int cu), .val (.int d), .val (.int (0 : Int32)), .val (.int (((p2.toUInt32 >>> ((5 : Int32) &&& 31).toUInt32).toInt32) &&& (3 : Int32))), .val (.ref b101), .val (.ref b104), .val (.ref b108), .unset, .unset, .unset, .unset, .unset, .unset, .unset, .unset, .unset]) rfl ?_
  show Steps p.tables e below (T108.setTop (mkF m 108 #[.val (.int p0), .val (.int p1), .val (.int p2), .val (.int p3), .val (.int cu), .val (.int d), .val (.int (0 : Int32)), .val (.int (((p2.toUInt32 >>> ((5 : Int32) &&& 31).toUInt32).toInt32) &&& (3 : Int32))), .val (.ref b101), .val (.ref b104), .val (.ref b108), .unset, .unset, .unset, .unset, .unset, .unset, .unset, .unset, .unset] [])) _
  refine XS.iconst X108.here hx rfl (hb hby at_108) ?_
  show Steps p.tables e below (T108.setTop (mkF m 109 #[.val (.int p0), .val (.int p1), .val (.int p2), .val (.int p3), .val (.int cu), .val (.int d), .val (.int (0 : Int32)), .val (.int (((p2.toUInt32 >>> ((5 : Int32) &&& 31).toUInt32).toInt32) &&& (3 : Int32))), .val (.ref b101), .val (.ref b104), .val (.ref b108), .unset, .unset, .unset, .unset, .unset, .unset, .unset, .unset, .unset] [(.int (4 : Int32))])) _
  refine st111 _ ?_
  show Steps p.tables e below (T111.setTop (mkF m 111 #[.val (.int p0), .val (.int p1), .val (.int p2), .val (.int p3), .val (.int cu), .val (.int d), .val (.int (0 : Int32)), .val (.int (((p2.toUInt32 >>> ((5 : Int32) &&& 31).toUInt32).toInt32) &&& (3 : Int32))), .val (.ref b101), .val (.ref b104), .val (.ref b108), .unset, .unset, .unset, .unset, .unset, .unset, .unset, .unset, .unset] [(.ref b111)])) _
  refine XS.astore X111.here hx rfl (hb hby at_111) rfl rfl (l' := #[.val (.int p0), .val (.int p1), .val (.int p2), .val (.int p3), .val (.int cu), .val (.int d), .val (.int (0 : Int32)), .val (.int (((p2.toUInt32 >>> ((5 : Int32) &&& 31).toUInt32).toInt32) &&& (3 : Int32))), .val (.ref b101), .val (.ref b104), .val (.ref b108), .val (.ref b111), .unset, .unset, .unset, .unset, .unset, .unset, .unset, .unset]) rfl ?_
  show Steps p.tables e below (T111.setTop (mkF m 113 #[.val (.int p0), .val (.int p1), .val (.int p2), .val (.int p3), .val (.int cu), .val (.int d), .val (.int (0 : Int32)), .val (.int (((p2.toUInt32 >>> ((5 : Int32) &&& 31).toUInt32).toInt32) &&& (3 : Int32))), .val (.ref b101), .val (.ref b104), .val (.ref b108), .val (.ref b111), .unset, .unset, .unset, .unset, .unset, .unset, .unset, .unset] [])) _
  refine st114 _ ?_
  show Steps p.tables e below (T114.setTop (mkF m 116 #[.val (.int p0), .val (.int p1), .val (.int p2), .val (.int p3), .val (.int cu), .val (.int d), .val (.int (0 : Int32)), .val (.int (((p2.toUInt32 >>> ((5 : Int32) &&& 31).toUInt32).toInt32) &&& (3 : Int32))), .val (.ref b101), .val (.ref b104), .val (.ref b108), .val (.ref b111), .unset, .unset, .unset, .unset, .unset, .unset, .unset, .unset] [(.ref b114)])) _
  refine XS.dup X114.here hx rfl (hb hby at_116) rfl rfl ?_
  show Steps p.tables e below (T114.setTop (mkF m 117 #[.val (.int p0), .val (.int p1), .val (.int p2), .val (.int p3), .val (.int cu), .val (.int d), .val (.int (0 : Int32)), .val (.int (((p2.toUInt32 >>> ((5 : Int32) &&& 31).toUInt32).toInt32) &&& (3 : Int32))), .val (.ref b101), .val (.ref b104), .val (.ref b108), .val (.ref b111), .unset, .unset, .unset, .unset, .unset, .unset, .unset, .unset] [(.ref b114), (.ref b114)])) _
  refine st118.trans ?_
  show Steps p.tables e below (T118.setTop (mkF m 120 #[.val (.int p0), .val (.int p1), .val (.int p2), .val (.int p3), .val (.int cu), .val (.int d), .val (.int (0 : Int32)), .val (.int (((p2.toUInt32 >>> ((5 : Int32) &&& 31).toUInt32).toInt32) &&& (3 : Int32))), .val (.ref b101), .val (.ref b104), .val (.ref b108), .val (.ref b111), .unset, .unset, .unset, .unset, .unset, .unset, .unset, .unset] [(.ref b114)])) _
  refine XS.astore X118.here hx rfl (hb hby at_120) rfl rfl (l' := #[.val (.int p0), .val (.int p1), .val (.int p2), .val (.int p3), .val (.int cu), .val (.int d), .val (.int (0 : Int32)), .val (.int (((p2.toUInt32 >>> ((5 : Int32) &&& 31).toUInt32).toInt32) &&& (3 : Int32))), .val (.ref b101), .val (.ref b104), .val (.ref b108), .val (.ref b111), .val (.ref b114), .unset, .unset, .unset, .unset, .unset, .unset, .unset]) rfl ?_
  show Steps p.tables e below (T118.setTop (mkF m 122 #[.val (.int p0), .val (.int p1), .val (.int p2), .val (.int p3), .val (.int cu), .val (.int d), .val (.int (0 : Int32)), .val (.int (((p2.toUInt32 >>> ((5 : Int32) &&& 31).toUInt32).toInt32) &&& (3 : Int32))), .val (.ref b101), .val (.ref b104), .val (.ref b108), .val (.ref b111), .val (.ref b114), .unset, .unset, .unset, .unset, .unset, .unset, .unset] [])) _
  refine XS.aload X118.here hx rfl (hb hby at_122) rfl rfl ?_
  show Steps p.tables e below (T118.setTop (mkF m 124 #[.val (.int p0), .val (.int p1), .val (.int p2), .val (.int p3), .val (.int cu), .val (.int d), .val (.int (0 : Int32)), .val (.int (((p2.toUInt32 >>> ((5 : Int32) &&& 31).toUInt32).toInt32) &&& (3 : Int32))), .val (.ref b101), .val (.ref b104), .val (.ref b108), .val (.ref b111), .val (.ref b114), .unset, .unset, .unset, .unset, .unset, .unset, .unset] [(.ref b114)])) _
  refine XS.aload X118.here hx rfl (hb hby at_124) rfl rfl ?_
  show Steps p.tables e below (T118.setTop (mkF m 126 #[.val (.int p0), .val (.int p1), .val (.int p2), .val (.int p3), .val (.int cu), .val (.int d), .val (.int (0 : Int32)), .val (.int (((p2.toUInt32 >>> ((5 : Int32) &&& 31).toUInt32).toInt32) &&& (3 : Int32))), .val (.ref b101), .val (.ref b104), .val (.ref b108), .val (.ref b111), .val (.ref b114), .unset, .unset, .unset, .unset, .unset, .unset, .unset] [(.ref b101), (.ref b114)])) _
  refine XS.iconst X118.here hx rfl (hb hby at_126) ?_
  show Steps p.tables e below (T118.setTop (mkF m 127 #[.val (.int p0), .val (.int p1), .val (.int p2), .val (.int p3), .val (.int cu), .val (.int d), .val (.int (0 : Int32)), .val (.int (((p2.toUInt32 >>> ((5 : Int32) &&& 31).toUInt32).toInt32) &&& (3 : Int32))), .val (.ref b101), .val (.ref b104), .val (.ref b108), .val (.ref b111), .val (.ref b114), .unset, .unset, .unset, .unset, .unset, .unset, .unset] [(.int (0 : Int32)), (.ref b101), (.ref b114)])) _
  refine XS.aload X118.here hx rfl (hb hby at_127) rfl rfl ?_
  show Steps p.tables e below (T118.setTop (mkF m 129 #[.val (.int p0), .val (.int p1), .val (.int p2), .val (.int p3), .val (.int cu), .val (.int d), .val (.int (0 : Int32)), .val (.int (((p2.toUInt32 >>> ((5 : Int32) &&& 31).toUInt32).toInt32) &&& (3 : Int32))), .val (.ref b101), .val (.ref b104), .val (.ref b108), .val (.ref b111), .val (.ref b114), .unset, .unset, .unset, .unset, .unset, .unset, .unset] [(.ref b101), (.int (0 : Int32)), (.ref b101), (.ref b114)])) _
  refine own_len X118 hx hZ rfl f119 (z := (2 : Int32)) rfl (g := (mkF m 129 #[.val (.int p0), .val (.int p1), .val (.int p2), .val (.int p3), .val (.int cu), .val (.int d), .val (.int (0 : Int32)), .val (.int (((p2.toUInt32 >>> ((5 : Int32) &&& 31).toUInt32).toInt32) &&& (3 : Int32))), .val (.ref b101), .val (.ref b104), .val (.ref b108), .val (.ref b111), .val (.ref b114), .unset, .unset, .unset, .unset, .unset, .unset, .unset] [(.ref b101), (.int (0 : Int32)), (.ref b101), (.ref b114)])) rfl rfl (hb hby at_129) _ ?_
  show Steps p.tables e below (T118.setTop (mkF m 130 #[.val (.int p0), .val (.int p1), .val (.int p2), .val (.int p3), .val (.int cu), .val (.int d), .val (.int (0 : Int32)), .val (.int (((p2.toUInt32 >>> ((5 : Int32) &&& 31).toUInt32).toInt32) &&& (3 : Int32))), .val (.ref b101), .val (.ref b104), .val (.ref b108), .val (.ref b111), .val (.ref b114), .unset, .unset, .unset, .unset, .unset, .unset, .unset] [(.int (2 : Int32)), (.int (0 : Int32)), (.ref b101), (.ref b114)])) _
  refine XS.aload X118.here hx rfl (hb hby at_130) rfl rfl ?_
  show Steps p.tables e below (T118.setTop (mkF m 132 #[.val (.int p0), .val (.int p1), .val (.int p2), .val (.int p3), .val (.int cu), .val (.int d), .val (.int (0 : Int32)), .val (.int (((p2.toUInt32 >>> ((5 : Int32) &&& 31).toUInt32).toInt32) &&& (3 : Int32))), .val (.ref b101), .val (.ref b104), .val (.ref b108), .val (.ref b111), .val (.ref b114), .unset, .unset, .unset, .unset, .unset, .unset, .unset] [(.ref b108), (.int (2 : Int32)), (.int (0 : Int32)), (.ref b101), (.ref b114)])) _
  refine XS.iconst X118.here hx rfl (hb hby at_132) ?_
  show Steps p.tables e below (T118.setTop (mkF m 133 #[.val (.int p0), .val (.int p1), .val (.int p2), .val (.int p3), .val (.int cu), .val (.int d), .val (.int (0 : Int32)), .val (.int (((p2.toUInt32 >>> ((5 : Int32) &&& 31).toUInt32).toInt32) &&& (3 : Int32))), .val (.ref b101), .val (.ref b104), .val (.ref b108), .val (.ref b111), .val (.ref b114), .unset, .unset, .unset, .unset, .unset, .unset, .unset] [(.int (0 : Int32)), (.ref b108), (.int (2 : Int32)), (.int (0 : Int32)), (.ref b101), (.ref b114)])) _
  refine st121.trans ?_
  show Steps p.tables e below (T121.setTop (mkF m 136 #[.val (.int p0), .val (.int p1), .val (.int p2), .val (.int p3), .val (.int cu), .val (.int d), .val (.int (0 : Int32)), .val (.int (((p2.toUInt32 >>> ((5 : Int32) &&& 31).toUInt32).toInt32) &&& (3 : Int32))), .val (.ref b101), .val (.ref b104), .val (.ref b108), .val (.ref b111), .val (.ref b114), .unset, .unset, .unset, .unset, .unset, .unset, .unset] [(.int (0 : Int32))])) _
  refine XS.istore X121.here hx rfl (hb hby at_136) rfl (l' := #[.val (.int p0), .val (.int p1), .val (.int p2), .val (.int p3), .val (.int cu), .val (.int d), .val (.int (0 : Int32)), .val (.int (((p2.toUInt32 >>> ((5 : Int32) &&& 31).toUInt32).toInt32) &&& (3 : Int32))), .val (.ref b101), .val (.ref b104), .val (.ref b108), .val (.ref b111), .val (.ref b114), .val (.int (0 : Int32)), .unset, .unset, .unset, .unset, .unset, .unset]) rfl ?_
  show Steps p.tables e below (T121.setTop (mkF m 138 #[.val (.int p0), .val (.int p1), .val (.int p2), .val (.int p3), .val (.int cu), .val (.int d), .val (.int (0 : Int32)), .val (.int (((p2.toUInt32 >>> ((5 : Int32) &&& 31).toUInt32).toInt32) &&& (3 : Int32))), .val (.ref b101), .val (.ref b104), .val (.ref b108), .val (.ref b111), .val (.ref b114), .val (.int (0 : Int32)), .unset, .unset, .unset, .unset, .unset, .unset] [])) _
  refine XS.iload X121.here hx rfl (hb hby at_138) rfl ?_
  show Steps p.tables e below (T121.setTop (mkF m 140 #[.val (.int p0), .val (.int p1), .val (.int p2), .val (.int p3), .val (.int cu), .val (.int d), .val (.int (0 : Int32)), .val (.int (((p2.toUInt32 >>> ((5 : Int32) &&& 31).toUInt32).toInt32) &&& (3 : Int32))), .val (.ref b101), .val (.ref b104), .val (.ref b108), .val (.ref b111), .val (.ref b114), .val (.int (0 : Int32)), .unset, .unset, .unset, .unset, .unset, .unset] [(.int cu)])) _
  refine st122 _ ?_
  show Steps p.tables e below (T122.setTop (mkF m 143 #[.val (.int p0), .val (.int p1), .val (.int p2), .val (.int p3), .val (.int cu), .val (.int d), .val (.int (0 : Int32)), .val (.int (((p2.toUInt32 >>> ((5 : Int32) &&& 31).toUInt32).toInt32) &&& (3 : Int32))), .val (.ref b101), .val (.ref b104), .val (.ref b108), .val (.ref b111), .val (.ref b114), .val (.int (0 : Int32)), .unset, .unset, .unset, .unset, .unset, .unset] [(.int (1 : Int32))])) _
  refine XS.istore X122.here hx rfl (hb hby at_143) rfl (l' := #[.val (.int p0), .val (.int p1), .val (.int p2), .val (.int p3), .val (.int cu), .val (.int d), .val (.int (0 : Int32)), .val (.int (((p2.toUInt32 >>> ((5 : Int32) &&& 31).toUInt32).toInt32) &&& (3 : Int32))), .val (.ref b101), .val (.ref b104), .val (.ref b108), .val (.ref b111), .val (.ref b114), .val (.int (0 : Int32)), .val (.int (1 : Int32)), .unset, .unset, .unset, .unset, .unset]) rfl ?_
  show Steps p.tables e below (T122.setTop (mkF m 145 #[.val (.int p0), .val (.int p1), .val (.int p2), .val (.int p3), .val (.int cu), .val (.int d), .val (.int (0 : Int32)), .val (.int (((p2.toUInt32 >>> ((5 : Int32) &&& 31).toUInt32).toInt32) &&& (3 : Int32))), .val (.ref b101), .val (.ref b104), .val (.ref b108), .val (.ref b111), .val (.ref b114), .val (.int (0 : Int32)), .val (.int (1 : Int32)), .unset, .unset, .unset, .unset, .unset] [])) _
  refine XS.iload X122.here hx rfl (hb hby at_145) rfl ?_
  show Steps p.tables e below (T122.setTop (mkF m 147 #[.val (.int p0), .val (.int p1), .val (.int p2), .val (.int p3), .val (.int cu), .val (.int d), .val (.int (0 : Int32)), .val (.int (((p2.toUInt32 >>> ((5 : Int32) &&& 31).toUInt32).toInt32) &&& (3 : Int32))), .val (.ref b101), .val (.ref b104), .val (.ref b108), .val (.ref b111), .val (.ref b114), .val (.int (0 : Int32)), .val (.int (1 : Int32)), .unset, .unset, .unset, .unset, .unset] [(.int (0 : Int32))])) _
  refine XS.iload X122.here hx rfl (hb hby at_147) rfl ?_
  show Steps p.tables e below (T122.setTop (mkF m 149 #[.val (.int p0), .val (.int p1), .val (.int p2), .val (.int p3), .val (.int cu), .val (.int d), .val (.int (0 : Int32)), .val (.int (((p2.toUInt32 >>> ((5 : Int32) &&& 31).toUInt32).toInt32) &&& (3 : Int32))), .val (.ref b101), .val (.ref b104), .val (.ref b108), .val (.ref b111), .val (.ref b114), .val (.int (0 : Int32)), .val (.int (1 : Int32)), .unset, .unset, .unset, .unset, .unset] [(.int (1 : Int32)), (.int (0 : Int32))])) _
  refine XS.ifNo X122.here hx rfl (hb hby at_149) rfl ((if0 _ _).trans (feq (by decide : ¬ (1 : Int32) = (0 : Int32))).1) ?_
  show Steps p.tables e below (T122.setTop (mkF m 152 #[.val (.int p0), .val (.int p1), .val (.int p2), .val (.int p3), .val (.int cu), .val (.int d), .val (.int (0 : Int32)), .val (.int (((p2.toUInt32 >>> ((5 : Int32) &&& 31).toUInt32).toInt32) &&& (3 : Int32))), .val (.ref b101), .val (.ref b104), .val (.ref b108), .val (.ref b111), .val (.ref b114), .val (.int (0 : Int32)), .val (.int (1 : Int32)), .unset, .unset, .unset, .unset, .unset] [(.int (0 : Int32))])) _
  refine XS.iconst X122.here hx rfl (hb hby at_152) ?_
  show Steps p.tables e below (T122.setTop (mkF m 153 #[.val (.int p0), .val (.int p1), .val (.int p2), .val (.int p3), .val (.int cu), .val (.int d), .val (.int (0 : Int32)), .val (.int (((p2.toUInt32 >>> ((5 : Int32) &&& 31).toUInt32).toInt32) &&& (3 : Int32))), .val (.ref b101), .val (.ref b104), .val (.ref b108), .val (.ref b111), .val (.ref b114), .val (.int (0 : Int32)), .val (.int (1 : Int32)), .unset, .unset, .unset, .unset, .unset] [(.int (0 : Int32)), (.int (0 : Int32))])) _
  refine XS.goto X122.here hx rfl (pc0 := 153) (pc' := 157) rfl (hb hby at_153) (by decide) (by decide) ?_
  show Steps p.tables e below (T122.setTop (mkF m 157 #[.val (.int p0), .val (.int p1), .val (.int p2), .val (.int p3), .val (.int cu), .val (.int d), .val (.int (0 : Int32)), .val (.int (((p2.toUInt32 >>> ((5 : Int32) &&& 31).toUInt32).toInt32) &&& (3 : Int32))), .val (.ref b101), .val (.ref b104), .val (.ref b108), .val (.ref b111), .val (.ref b114), .val (.int (0 : Int32)), .val (.int (1 : Int32)), .unset, .unset, .unset, .unset, .unset] [(.int (0 : Int32)), (.int (0 : Int32))])) _
  refine XS.icmpNo X122.here hx rfl (hb hby at_157) rfl (teq rfl).2 ?_
  show Steps p.tables e below (T122.setTop (mkF m 160 #[.val (.int p0), .val (.int p1), .val (.int p2), .val (.int p3), .val (.int cu), .val (.int d), .val (.int (0 : Int32)), .val (.int (((p2.toUInt32 >>> ((5 : Int32) &&& 31).toUInt32).toInt32) &&& (3 : Int32))), .val (.ref b101), .val (.ref b104), .val (.ref b108), .val (.ref b111), .val (.ref b114), .val (.int (0 : Int32)), .val (.int (1 : Int32)), .unset, .unset, .unset, .unset, .unset] [])) _
  refine XS.iconst X122.here hx rfl (hb hby at_160) ?_
  show Steps p.tables e below (T122.setTop (mkF m 161 #[.val (.int p0), .val (.int p1), .val (.int p2), .val (.int p3), .val (.int cu), .val (.int d), .val (.int (0 : Int32)), .val (.int (((p2.toUInt32 >>> ((5 : Int32) &&& 31).toUInt32).toInt32) &&& (3 : Int32))), .val (.ref b101), .val (.ref b104), .val (.ref b108), .val (.ref b111), .val (.ref b114), .val (.int (0 : Int32)), .val (.int (1 : Int32)), .unset, .unset, .unset, .unset, .unset] [(.int (1 : Int32))])) _
  refine XS.goto X122.here hx rfl (pc0 := 161) (pc' := 165) rfl (hb hby at_161) (by decide) (by decide) ?_
  show Steps p.tables e below (T122.setTop (mkF m 165 #[.val (.int p0), .val (.int p1), .val (.int p2), .val (.int p3), .val (.int cu), .val (.int d), .val (.int (0 : Int32)), .val (.int (((p2.toUInt32 >>> ((5 : Int32) &&& 31).toUInt32).toInt32) &&& (3 : Int32))), .val (.ref b101), .val (.ref b104), .val (.ref b108), .val (.ref b111), .val (.ref b114), .val (.int (0 : Int32)), .val (.int (1 : Int32)), .unset, .unset, .unset, .unset, .unset] [(.int (1 : Int32))])) _
  refine XS.istore X122.here hx rfl (hb hby at_165) rfl (l' := #[.val (.int p0), .val (.int p1), .val (.int p2), .val (.int p3), .val (.int cu), .val (.int d), .val (.int (0 : Int32)), .val (.int (((p2.toUInt32 >>> ((5 : Int32) &&& 31).toUInt32).toInt32) &&& (3 : Int32))), .val (.ref b101), .val (.ref b104), .val (.ref b108), .val (.ref b111), .val (.ref b114), .val (.int (0 : Int32)), .val (.int (1 : Int32)), .val (.int (1 : Int32)), .unset, .unset, .unset, .unset]) rfl ?_
  show Steps p.tables e below (T122.setTop (mkF m 167 #[.val (.int p0), .val (.int p1), .val (.int p2), .val (.int p3), .val (.int cu), .val (.int d), .val (.int (0 : Int32)), .val (.int (((p2.toUInt32 >>> ((5 : Int32) &&& 31).toUInt32).toInt32) &&& (3 : Int32))), .val (.ref b101), .val (.ref b104), .val (.ref b108), .val (.ref b111), .val (.ref b114), .val (.int (0 : Int32)), .val (.int (1 : Int32)), .val (.int (1 : Int32)), .unset, .unset, .unset, .unset] [])) _
  refine XS.iload X122.here hx rfl (hb hby at_167) rfl ?_
  show Steps p.tables e below (T122.setTop (mkF m 169 #[.val (.int p0), .val (.int p1), .val (.int p2), .val (.int p3), .val (.int cu), .val (.int d), .val (.int (0 : Int32)), .val (.int (((p2.toUInt32 >>> ((5 : Int32) &&& 31).toUInt32).toInt32) &&& (3 : Int32))), .val (.ref b101), .val (.ref b104), .val (.ref b108), .val (.ref b111), .val (.ref b114), .val (.int (0 : Int32)), .val (.int (1 : Int32)), .val (.int (1 : Int32)), .unset, .unset, .unset, .unset] [(.int (0 : Int32))])) _
  refine XS.iload X122.here hx rfl (hb hby at_169) rfl ?_
  show Steps p.tables e below (T122.setTop (mkF m 171 #[.val (.int p0), .val (.int p1), .val (.int p2), .val (.int p3), .val (.int cu), .val (.int d), .val (.int (0 : Int32)), .val (.int (((p2.toUInt32 >>> ((5 : Int32) &&& 31).toUInt32).toInt32) &&& (3 : Int32))), .val (.ref b101), .val (.ref b104), .val (.ref b108), .val (.ref b111), .val (.ref b114), .val (.int (0 : Int32)), .val (.int (1 : Int32)), .val (.int (1 : Int32)), .unset, .unset, .unset, .unset] [(.int (((p2.toUInt32 >>> ((5 : Int32) &&& 31).toUInt32).toInt32) &&& (3 : Int32))), (.int (0 : Int32))])) _
  refine XS.iadd X122.here hx rfl (hb hby at_171) rfl ?_
  show Steps p.tables e below (T122.setTop (mkF m 172 #[.val (.int p0), .val (.int p1), .val (.int p2), .val (.int p3), .val (.int cu), .val (.int d), .val (.int (0 : Int32)), .val (.int (((p2.toUInt32 >>> ((5 : Int32) &&& 31).toUInt32).toInt32) &&& (3 : Int32))), .val (.ref b101), .val (.ref b104), .val (.ref b108), .val (.ref b111), .val (.ref b114), .val (.int (0 : Int32)), .val (.int (1 : Int32)), .val (.int (1 : Int32)), .unset, .unset, .unset, .unset] [(.int ((0 : Int32) + (((p2.toUInt32 >>> ((5 : Int32) &&& 31).toUInt32).toInt32) &&& (3 : Int32))))])) _
  rw [← hv_aa]
  show Steps p.tables e below (T122.setTop (mkF m 172 #[.val (.int p0), .val (.int p1), .val (.int p2), .val (.int p3), .val (.int cu), .val (.int d), .val (.int (0 : Int32)), .val (.int (((p2.toUInt32 >>> ((5 : Int32) &&& 31).toUInt32).toInt32) &&& (3 : Int32))), .val (.ref b101), .val (.ref b104), .val (.ref b108), .val (.ref b111), .val (.ref b114), .val (.int (0 : Int32)), .val (.int (1 : Int32)), .val (.int (1 : Int32)), .unset, .unset, .unset, .unset] [(.int aa)])) _
  refine XS.istore X122.here hx rfl (hb hby at_172) rfl (l' := #[.val (.int p0), .val (.int p1), .val (.int p2), .val (.int p3), .val (.int cu), .val (.int d), .val (.int (0 : Int32)), .val (.int (((p2.toUInt32 >>> ((5 : Int32) &&& 31).toUInt32).toInt32) &&& (3 : Int32))), .val (.ref b101), .val (.ref b104), .val (.ref b108), .val (.ref b111), .val (.ref b114), .val (.int (0 : Int32)), .val (.int (1 : Int32)), .val (.int (1 : Int32)), .val (.int aa), .unset, .unset, .unset]) rfl ?_
  show Steps p.tables e below (T122.setTop (mkF m 174 #[.val (.int p0), .val (.int p1), .val (.int p2), .val (.int p3), .val (.int cu), .val (.int d), .val (.int (0 : Int32)), .val (.int (((p2.toUInt32 >>> ((5 : Int32) &&& 31).toUInt32).toInt32) &&& (3 : Int32))), .val (.ref b101), .val (.ref b104), .val (.ref b108), .val (.ref b111), .val (.ref b114), .val (.int (0 : Int32)), .val (.int (1 : Int32)), .val (.int (1 : Int32)), .val (.int aa), .unset, .unset, .unset] [])) _
  refine XS.aload X122.here hx rfl (hb hby at_174) rfl rfl ?_
  show Steps p.tables e below (T122.setTop (mkF m 176 #[.val (.int p0), .val (.int p1), .val (.int p2), .val (.int p3), .val (.int cu), .val (.int d), .val (.int (0 : Int32)), .val (.int (((p2.toUInt32 >>> ((5 : Int32) &&& 31).toUInt32).toInt32) &&& (3 : Int32))), .val (.ref b101), .val (.ref b104), .val (.ref b108), .val (.ref b111), .val (.ref b114), .val (.int (0 : Int32)), .val (.int (1 : Int32)), .val (.int (1 : Int32)), .val (.int aa), .unset, .unset, .unset] [(.ref b114)])) _
  refine XS.aload X122.here hx rfl (hb hby at_176) rfl rfl ?_
  show Steps p.tables e below (T122.setTop (mkF m 178 #[.val (.int p0), .val (.int p1), .val (.int p2), .val (.int p3), .val (.int cu), .val (.int d), .val (.int (0 : Int32)), .val (.int (((p2.toUInt32 >>> ((5 : Int32) &&& 31).toUInt32).toInt32) &&& (3 : Int32))), .val (.ref b101), .val (.ref b104), .val (.ref b108), .val (.ref b111), .val (.ref b114), .val (.int (0 : Int32)), .val (.int (1 : Int32)), .val (.int (1 : Int32)), .val (.int aa), .unset, .unset, .unset] [(.ref b108), (.ref b114)])) _
  refine XS.iload X122.here hx rfl (hb hby at_178) rfl ?_
  show Steps p.tables e below (T122.setTop (mkF m 180 #[.val (.int p0), .val (.int p1), .val (.int p2), .val (.int p3), .val (.int cu), .val (.int d), .val (.int (0 : Int32)), .val (.int (((p2.toUInt32 >>> ((5 : Int32) &&& 31).toUInt32).toInt32) &&& (3 : Int32))), .val (.ref b101), .val (.ref b104), .val (.ref b108), .val (.ref b111), .val (.ref b114), .val (.int (0 : Int32)), .val (.int (1 : Int32)), .val (.int (1 : Int32)), .val (.int aa), .unset, .unset, .unset] [(.int aa), (.ref b108), (.ref b114)])) _
  refine st123.trans ?_
  show Steps p.tables e below (T123.setTop (mkF m 183 #[.val (.int p0), .val (.int p1), .val (.int p2), .val (.int p3), .val (.int cu), .val (.int d), .val (.int (0 : Int32)), .val (.int (((p2.toUInt32 >>> ((5 : Int32) &&& 31).toUInt32).toInt32) &&& (3 : Int32))), .val (.ref b101), .val (.ref b104), .val (.ref b108), .val (.ref b111), .val (.ref b114), .val (.int (0 : Int32)), .val (.int (1 : Int32)), .val (.int (1 : Int32)), .val (.int aa), .unset, .unset, .unset] [(.int (aa + (1 : Int32)))])) _
  refine XS.istore X123.here hx rfl (hb hby at_183) rfl (l' := #[.val (.int p0), .val (.int p1), .val (.int p2), .val (.int p3), .val (.int cu), .val (.int d), .val (.int (0 : Int32)), .val (.int (((p2.toUInt32 >>> ((5 : Int32) &&& 31).toUInt32).toInt32) &&& (3 : Int32))), .val (.ref b101), .val (.ref b104), .val (.ref b108), .val (.ref b111), .val (.ref b114), .val (.int (0 : Int32)), .val (.int (1 : Int32)), .val (.int (1 : Int32)), .val (.int aa), .val (.int (aa + (1 : Int32))), .unset, .unset]) rfl ?_
  show Steps p.tables e below (T123.setTop (mkF m 185 #[.val (.int p0), .val (.int p1), .val (.int p2), .val (.int p3), .val (.int cu), .val (.int d), .val (.int (0 : Int32)), .val (.int (((p2.toUInt32 >>> ((5 : Int32) &&& 31).toUInt32).toInt32) &&& (3 : Int32))), .val (.ref b101), .val (.ref b104), .val (.ref b108), .val (.ref b111), .val (.ref b114), .val (.int (0 : Int32)), .val (.int (1 : Int32)), .val (.int (1 : Int32)), .val (.int aa), .val (.int (aa + (1 : Int32))), .unset, .unset] [])) _
  refine XS.iload X123.here hx rfl (hb hby at_185) rfl ?_
  show Steps p.tables e below (T123.setTop (mkF m 187 #[.val (.int p0), .val (.int p1), .val (.int p2), .val (.int p3), .val (.int cu), .val (.int d), .val (.int (0 : Int32)), .val (.int (((p2.toUInt32 >>> ((5 : Int32) &&& 31).toUInt32).toInt32) &&& (3 : Int32))), .val (.ref b101), .val (.ref b104), .val (.ref b108), .val (.ref b111), .val (.ref b114), .val (.int (0 : Int32)), .val (.int (1 : Int32)), .val (.int (1 : Int32)), .val (.int aa), .val (.int (aa + (1 : Int32))), .unset, .unset] [(.int (1 : Int32))])) _
  refine XS.ifNo X123.here hx rfl (hb hby at_187) rfl ((if0 _ _).trans (feq (by decide : ¬ (1 : Int32) = (0 : Int32))).1) ?_
  show Steps p.tables e below (T123.setTop (mkF m 190 #[.val (.int p0), .val (.int p1), .val (.int p2), .val (.int p3), .val (.int cu), .val (.int d), .val (.int (0 : Int32)), .val (.int (((p2.toUInt32 >>> ((5 : Int32) &&& 31).toUInt32).toInt32) &&& (3 : Int32))), .val (.ref b101), .val (.ref b104), .val (.ref b108), .val (.ref b111), .val (.ref b114), .val (.int (0 : Int32)), .val (.int (1 : Int32)), .val (.int (1 : Int32)), .val (.int aa), .val (.int (aa + (1 : Int32))), .unset, .unset] [])) _
  refine XS.iload X123.here hx rfl (hb hby at_190) rfl ?_
  show Steps p.tables e below (T123.setTop (mkF m 192 #[.val (.int p0), .val (.int p1), .val (.int p2), .val (.int p3), .val (.int cu), .val (.int d), .val (.int (0 : Int32)), .val (.int (((p2.toUInt32 >>> ((5 : Int32) &&& 31).toUInt32).toInt32) &&& (3 : Int32))), .val (.ref b101), .val (.ref b104), .val (.ref b108), .val (.ref b111), .val (.ref b114), .val (.int (0 : Int32)), .val (.int (1 : Int32)), .val (.int (1 : Int32)), .val (.int aa), .val (.int (aa + (1 : Int32))), .unset, .unset] [(.int (1 : Int32))])) _
  refine XS.ifNo X123.here hx rfl (hb hby at_192) rfl ((if0 _ _).trans (feq (by decide : ¬ (1 : Int32) = (0 : Int32))).1) ?_
  show Steps p.tables e below (T123.setTop (mkF m 195 #[.val (.int p0), .val (.int p1), .val (.int p2), .val (.int p3), .val (.int cu), .val (.int d), .val (.int (0 : Int32)), .val (.int (((p2.toUInt32 >>> ((5 : Int32) &&& 31).toUInt32).toInt32) &&& (3 : Int32))), .val (.ref b101), .val (.ref b104), .val (.ref b108), .val (.ref b111), .val (.ref b114), .val (.int (0 : Int32)), .val (.int (1 : Int32)), .val (.int (1 : Int32)), .val (.int aa), .val (.int (aa + (1 : Int32))), .unset, .unset] [])) _
  refine XS.iload X123.here hx rfl (hb hby at_195) rfl ?_
  show Steps p.tables e below (T123.setTop (mkF m 197 #[.val (.int p0), .val (.int p1), .val (.int p2), .val (.int p3), .val (.int cu), .val (.int d), .val (.int (0 : Int32)), .val (.int (((p2.toUInt32 >>> ((5 : Int32) &&& 31).toUInt32).toInt32) &&& (3 : Int32))), .val (.ref b101), .val (.ref b104), .val (.ref b108), .val (.ref b111), .val (.ref b114), .val (.int (0 : Int32)), .val (.int (1 : Int32)), .val (.int (1 : Int32)), .val (.int aa), .val (.int (aa + (1 : Int32))), .unset, .unset] [(.int (aa + (1 : Int32)))])) _
  refine XS.iload X123.here hx rfl (hb hby at_197) rfl ?_
  show Steps p.tables e below (T123.setTop (mkF m 199 #[.val (.int p0), .val (.int p1), .val (.int p2), .val (.int p3), .val (.int cu), .val (.int d), .val (.int (0 : Int32)), .val (.int (((p2.toUInt32 >>> ((5 : Int32) &&& 31).toUInt32).toInt32) &&& (3 : Int32))), .val (.ref b101), .val (.ref b104), .val (.ref b108), .val (.ref b111), .val (.ref b114), .val (.int (0 : Int32)), .val (.int (1 : Int32)), .val (.int (1 : Int32)), .val (.int aa), .val (.int (aa + (1 : Int32))), .unset, .unset] [(.int aa), (.int (aa + (1 : Int32)))])) _
  refine XS.iconst X123.here hx rfl (hb hby at_199) ?_
  show Steps p.tables e below (T123.setTop (mkF m 200 #[.val (.int p0), .val (.int p1), .val (.int p2), .val (.int p3), .val (.int cu), .val (.int d), .val (.int (0 : Int32)), .val (.int (((p2.toUInt32 >>> ((5 : Int32) &&& 31).toUInt32).toInt32) &&& (3 : Int32))), .val (.ref b101), .val (.ref b104), .val (.ref b108), .val (.ref b111), .val (.ref b114), .val (.int (0 : Int32)), .val (.int (1 : Int32)), .val (.int (1 : Int32)), .val (.int aa), .val (.int (aa + (1 : Int32))), .unset, .unset] [(.int (1 : Int32)), (.int aa), (.int (aa + (1 : Int32)))])) _
  refine XS.iadd X123.here hx rfl (hb hby at_200) rfl ?_
  show Steps p.tables e below (T123.setTop (mkF m 201 #[.val (.int p0), .val (.int p1), .val (.int p2), .val (.int p3), .val (.int cu), .val (.int d), .val (.int (0 : Int32)), .val (.int (((p2.toUInt32 >>> ((5 : Int32) &&& 31).toUInt32).toInt32) &&& (3 : Int32))), .val (.ref b101), .val (.ref b104), .val (.ref b108), .val (.ref b111), .val (.ref b114), .val (.int (0 : Int32)), .val (.int (1 : Int32)), .val (.int (1 : Int32)), .val (.int aa), .val (.int (aa + (1 : Int32))), .unset, .unset] [(.int (aa + (1 : Int32))), (.int (aa + (1 : Int32)))])) _
  refine XS.icmpNo X123.here hx rfl (hb hby at_201) rfl (teq rfl).2 ?_
  show Steps p.tables e below (T123.setTop (mkF m 204 #[.val (.int p0), .val (.int p1), .val (.int p2), .val (.int p3), .val (.int cu), .val (.int d), .val (.int (0 : Int32)), .val (.int (((p2.toUInt32 >>> ((5 : Int32) &&& 31).toUInt32).toInt32) &&& (3 : Int32))), .val (.ref b101), .val (.ref b104), .val (.ref b108), .val (.ref b111), .val (.ref b114), .val (.int (0 : Int32)), .val (.int (1 : Int32)), .val (.int (1 : Int32)), .val (.int aa), .val (.int (aa + (1 : Int32))), .unset, .unset] [])) _
  refine XS.aload X123.here hx rfl (hb hby at_204) rfl rfl ?_
  show Steps p.tables e below (T123.setTop (mkF m 206 #[.val (.int p0), .val (.int p1), .val (.int p2), .val (.int p3), .val (.int cu), .val (.int d), .val (.int (0 : Int32)), .val (.int (((p2.toUInt32 >>> ((5 : Int32) &&& 31).toUInt32).toInt32) &&& (3 : Int32))), .val (.ref b101), .val (.ref b104), .val (.ref b108), .val (.ref b111), .val (.ref b114), .val (.int (0 : Int32)), .val (.int (1 : Int32)), .val (.int (1 : Int32)), .val (.int aa), .val (.int (aa + (1 : Int32))), .unset, .unset] [(.ref b108)])) _
  refine XS.iload X123.here hx rfl (hb hby at_206) rfl ?_
  show Steps p.tables e below (T123.setTop (mkF m 208 #[.val (.int p0), .val (.int p1), .val (.int p2), .val (.int p3), .val (.int cu), .val (.int d), .val (.int (0 : Int32)), .val (.int (((p2.toUInt32 >>> ((5 : Int32) &&& 31).toUInt32).toInt32) &&& (3 : Int32))), .val (.ref b101), .val (.ref b104), .val (.ref b108), .val (.ref b111), .val (.ref b114), .val (.int (0 : Int32)), .val (.int (1 : Int32)), .val (.int (1 : Int32)), .val (.int aa), .val (.int (aa + (1 : Int32))), .unset, .unset] [(.int aa), (.ref b108)])) _
  refine own_ldC X123 hx hZ rfl At123 (j := aa) k hj hk (by omega) (v := (.int (65533 : Int32))) (own_at _ _ _) (g := (mkF m 208 #[.val (.int p0), .val (.int p1), .val (.int p2), .val (.int p3), .val (.int cu), .val (.int d), .val (.int (0 : Int32)), .val (.int (((p2.toUInt32 >>> ((5 : Int32) &&& 31).toUInt32).toInt32) &&& (3 : Int32))), .val (.ref b101), .val (.ref b104), .val (.ref b108), .val (.ref b111), .val (.ref b114), .val (.int (0 : Int32)), .val (.int (1 : Int32)), .val (.int (1 : Int32)), .val (.int aa), .val (.int (aa + (1 : Int32))), .unset, .unset] [(.int aa), (.ref b108)])) rfl rfl (hb hby at_208) _ ?_
  show Steps p.tables e below (T123.setTop (mkF m 209 #[.val (.int p0), .val (.int p1), .val (.int p2), .val (.int p3), .val (.int cu), .val (.int d), .val (.int (0 : Int32)), .val (.int (((p2.toUInt32 >>> ((5 : Int32) &&& 31).toUInt32).toInt32) &&& (3 : Int32))), .val (.ref b101), .val (.ref b104), .val (.ref b108), .val (.ref b111), .val (.ref b114), .val (.int (0 : Int32)), .val (.int (1 : Int32)), .val (.int (1 : Int32)), .val (.int aa), .val (.int (aa + (1 : Int32))), .unset, .unset] [(.int (65533 : Int32))])) _
  refine X123.ldcInt hx hown (mvT hZ (hw _ (List.mem_of_getElem? (i := 47) rfl))) (g := (mkF m 209 #[.val (.int p0), .val (.int p1), .val (.int p2), .val (.int p3), .val (.int cu), .val (.int d), .val (.int (0 : Int32)), .val (.int (((p2.toUInt32 >>> ((5 : Int32) &&& 31).toUInt32).toInt32) &&& (3 : Int32))), .val (.ref b101), .val (.ref b104), .val (.ref b108), .val (.ref b111), .val (.ref b114), .val (.int (0 : Int32)), .val (.int (1 : Int32)), .val (.int (1 : Int32)), .val (.int aa), .val (.int (aa + (1 : Int32))), .unset, .unset] [(.int (65533 : Int32))])) rfl (hb hby at_209) _ ?_
  show Steps p.tables e below (T123.setTop (mkF m 211 #[.val (.int p0), .val (.int p1), .val (.int p2), .val (.int p3), .val (.int cu), .val (.int d), .val (.int (0 : Int32)), .val (.int (((p2.toUInt32 >>> ((5 : Int32) &&& 31).toUInt32).toInt32) &&& (3 : Int32))), .val (.ref b101), .val (.ref b104), .val (.ref b108), .val (.ref b111), .val (.ref b114), .val (.int (0 : Int32)), .val (.int (1 : Int32)), .val (.int (1 : Int32)), .val (.int aa), .val (.int (aa + (1 : Int32))), .unset, .unset] [(.int (65533 : Int32)), (.int (65533 : Int32))])) _
  refine XS.icmpNo X123.here hx rfl (hb hby at_211) rfl (teq rfl).2 ?_
  show Steps p.tables e below (T123.setTop (mkF m 214 #[.val (.int p0), .val (.int p1), .val (.int p2), .val (.int p3), .val (.int cu), .val (.int d), .val (.int (0 : Int32)), .val (.int (((p2.toUInt32 >>> ((5 : Int32) &&& 31).toUInt32).toInt32) &&& (3 : Int32))), .val (.ref b101), .val (.ref b104), .val (.ref b108), .val (.ref b111), .val (.ref b114), .val (.int (0 : Int32)), .val (.int (1 : Int32)), .val (.int (1 : Int32)), .val (.int aa), .val (.int (aa + (1 : Int32))), .unset, .unset] [])) _
  refine XS.iconst X123.here hx rfl (hb hby at_214) ?_
  show Steps p.tables e below (T123.setTop (mkF m 215 #[.val (.int p0), .val (.int p1), .val (.int p2), .val (.int p3), .val (.int cu), .val (.int d), .val (.int (0 : Int32)), .val (.int (((p2.toUInt32 >>> ((5 : Int32) &&& 31).toUInt32).toInt32) &&& (3 : Int32))), .val (.ref b101), .val (.ref b104), .val (.ref b108), .val (.ref b111), .val (.ref b114), .val (.int (0 : Int32)), .val (.int (1 : Int32)), .val (.int (1 : Int32)), .val (.int aa), .val (.int (aa + (1 : Int32))), .unset, .unset] [(.int (1 : Int32))])) _
  refine XS.goto X123.here hx rfl (pc0 := 215) (pc' := 219) rfl (hb hby at_215) (by decide) (by decide) ?_
  show Steps p.tables e below (T123.setTop (mkF m 219 #[.val (.int p0), .val (.int p1), .val (.int p2), .val (.int p3), .val (.int cu), .val (.int d), .val (.int (0 : Int32)), .val (.int (((p2.toUInt32 >>> ((5 : Int32) &&& 31).toUInt32).toInt32) &&& (3 : Int32))), .val (.ref b101), .val (.ref b104), .val (.ref b108), .val (.ref b111), .val (.ref b114), .val (.int (0 : Int32)), .val (.int (1 : Int32)), .val (.int (1 : Int32)), .val (.int aa), .val (.int (aa + (1 : Int32))), .unset, .unset] [(.int (1 : Int32))])) _
  refine XS.istore X123.here hx rfl (hb hby at_219) rfl (l' := #[.val (.int p0), .val (.int p1), .val (.int p2), .val (.int p3), .val (.int cu), .val (.int d), .val (.int (0 : Int32)), .val (.int (((p2.toUInt32 >>> ((5 : Int32) &&& 31).toUInt32).toInt32) &&& (3 : Int32))), .val (.ref b101), .val (.ref b104), .val (.ref b108), .val (.ref b111), .val (.ref b114), .val (.int (0 : Int32)), .val (.int (1 : Int32)), .val (.int (1 : Int32)), .val (.int aa), .val (.int (aa + (1 : Int32))), .unset, .unset]) rfl ?_
  show Steps p.tables e below (T123.setTop (mkF m 221 #[.val (.int p0), .val (.int p1), .val (.int p2), .val (.int p3), .val (.int cu), .val (.int d), .val (.int (0 : Int32)), .val (.int (((p2.toUInt32 >>> ((5 : Int32) &&& 31).toUInt32).toInt32) &&& (3 : Int32))), .val (.ref b101), .val (.ref b104), .val (.ref b108), .val (.ref b111), .val (.ref b114), .val (.int (0 : Int32)), .val (.int (1 : Int32)), .val (.int (1 : Int32)), .val (.int aa), .val (.int (aa + (1 : Int32))), .unset, .unset] [])) _
  refine XS.goto X123.here hx rfl (pc0 := 221) (pc' := 251) rfl (hb hby at_221) (by decide) (by decide) ?_
  show Steps p.tables e below (T123.setTop (mkF m 251 #[.val (.int p0), .val (.int p1), .val (.int p2), .val (.int p3), .val (.int cu), .val (.int d), .val (.int (0 : Int32)), .val (.int (((p2.toUInt32 >>> ((5 : Int32) &&& 31).toUInt32).toInt32) &&& (3 : Int32))), .val (.ref b101), .val (.ref b104), .val (.ref b108), .val (.ref b111), .val (.ref b114), .val (.int (0 : Int32)), .val (.int (1 : Int32)), .val (.int (1 : Int32)), .val (.int aa), .val (.int (aa + (1 : Int32))), .unset, .unset] [])) _
  refine XS.iload X123.here hx rfl (hb hby at_251) rfl ?_
  show Steps p.tables e below (T123.setTop (mkF m 253 #[.val (.int p0), .val (.int p1), .val (.int p2), .val (.int p3), .val (.int cu), .val (.int d), .val (.int (0 : Int32)), .val (.int (((p2.toUInt32 >>> ((5 : Int32) &&& 31).toUInt32).toInt32) &&& (3 : Int32))), .val (.ref b101), .val (.ref b104), .val (.ref b108), .val (.ref b111), .val (.ref b114), .val (.int (0 : Int32)), .val (.int (1 : Int32)), .val (.int (1 : Int32)), .val (.int aa), .val (.int (aa + (1 : Int32))), .unset, .unset] [(.int (1 : Int32))])) _
  refine XS.ifNo X123.here hx rfl (hb hby at_253) rfl ((if0 _ _).trans (feq (by decide : ¬ (1 : Int32) = (0 : Int32))).1) ?_
  show Steps p.tables e below (T123.setTop (mkF m 256 #[.val (.int p0), .val (.int p1), .val (.int p2), .val (.int p3), .val (.int cu), .val (.int d), .val (.int (0 : Int32)), .val (.int (((p2.toUInt32 >>> ((5 : Int32) &&& 31).toUInt32).toInt32) &&& (3 : Int32))), .val (.ref b101), .val (.ref b104), .val (.ref b108), .val (.ref b111), .val (.ref b114), .val (.int (0 : Int32)), .val (.int (1 : Int32)), .val (.int (1 : Int32)), .val (.int aa), .val (.int (aa + (1 : Int32))), .unset, .unset] [])) _
  refine XS.aload X123.here hx rfl (hb hby at_256) rfl rfl ?_
  show Steps p.tables e below (T123.setTop (mkF m 258 #[.val (.int p0), .val (.int p1), .val (.int p2), .val (.int p3), .val (.int cu), .val (.int d), .val (.int (0 : Int32)), .val (.int (((p2.toUInt32 >>> ((5 : Int32) &&& 31).toUInt32).toInt32) &&& (3 : Int32))), .val (.ref b101), .val (.ref b104), .val (.ref b108), .val (.ref b111), .val (.ref b114), .val (.int (0 : Int32)), .val (.int (1 : Int32)), .val (.int (1 : Int32)), .val (.int aa), .val (.int (aa + (1 : Int32))), .unset, .unset] [(.ref b108)])) _
  refine XS.iload X123.here hx rfl (hb hby at_258) rfl ?_
  show Steps p.tables e below (T123.setTop (mkF m 260 #[.val (.int p0), .val (.int p1), .val (.int p2), .val (.int p3), .val (.int cu), .val (.int d), .val (.int (0 : Int32)), .val (.int (((p2.toUInt32 >>> ((5 : Int32) &&& 31).toUInt32).toInt32) &&& (3 : Int32))), .val (.ref b101), .val (.ref b104), .val (.ref b108), .val (.ref b111), .val (.ref b114), .val (.int (0 : Int32)), .val (.int (1 : Int32)), .val (.int (1 : Int32)), .val (.int aa), .val (.int (aa + (1 : Int32))), .unset, .unset] [(.int aa), (.ref b108)])) _
  refine XS.iconst X123.here hx rfl (hb hby at_260) ?_
  show Steps p.tables e below (T123.setTop (mkF m 261 #[.val (.int p0), .val (.int p1), .val (.int p2), .val (.int p3), .val (.int cu), .val (.int d), .val (.int (0 : Int32)), .val (.int (((p2.toUInt32 >>> ((5 : Int32) &&& 31).toUInt32).toInt32) &&& (3 : Int32))), .val (.ref b101), .val (.ref b104), .val (.ref b108), .val (.ref b111), .val (.ref b114), .val (.int (0 : Int32)), .val (.int (1 : Int32)), .val (.int (1 : Int32)), .val (.int aa), .val (.int (aa + (1 : Int32))), .unset, .unset] [(.int (1 : Int32)), (.int aa), (.ref b108)])) _
  refine XS.iadd X123.here hx rfl (hb hby at_261) rfl ?_
  show Steps p.tables e below (T123.setTop (mkF m 262 #[.val (.int p0), .val (.int p1), .val (.int p2), .val (.int p3), .val (.int cu), .val (.int d), .val (.int (0 : Int32)), .val (.int (((p2.toUInt32 >>> ((5 : Int32) &&& 31).toUInt32).toInt32) &&& (3 : Int32))), .val (.ref b101), .val (.ref b104), .val (.ref b108), .val (.ref b111), .val (.ref b114), .val (.int (0 : Int32)), .val (.int (1 : Int32)), .val (.int (1 : Int32)), .val (.int aa), .val (.int (aa + (1 : Int32))), .unset, .unset] [(.int (aa + (1 : Int32))), (.ref b108)])) _
  refine own_ldC X123 hx hZ rfl At123 (j := (aa + (1 : Int32))) (k + 1) (own_ix (d := 1) (i := 1) hj hk rfl (by omega)).1 (own_ix (d := 1) (i := 1) hj hk rfl (by omega)).2 (by omega) (v := (.int (0 : Int32))) (own_off _ _ (by omega)) (g := (mkF m 262 #[.val (.int p0), .val (.int p1), .val (.int p2), .val (.int p3), .val (.int cu), .val (.int d), .val (.int (0 : Int32)), .val (.int (((p2.toUInt32 >>> ((5 : Int32) &&& 31).toUInt32).toInt32) &&& (3 : Int32))), .val (.ref b101), .val (.ref b104), .val (.ref b108), .val (.ref b111), .val (.ref b114), .val (.int (0 : Int32)), .val (.int (1 : Int32)), .val (.int (1 : Int32)), .val (.int aa), .val (.int (aa + (1 : Int32))), .unset, .unset] [(.int (aa + (1 : Int32))), (.ref b108)])) rfl rfl (hb hby at_262) _ ?_
  show Steps p.tables e below (T123.setTop (mkF m 263 #[.val (.int p0), .val (.int p1), .val (.int p2), .val (.int p3), .val (.int cu), .val (.int d), .val (.int (0 : Int32)), .val (.int (((p2.toUInt32 >>> ((5 : Int32) &&& 31).toUInt32).toInt32) &&& (3 : Int32))), .val (.ref b101), .val (.ref b104), .val (.ref b108), .val (.ref b111), .val (.ref b114), .val (.int (0 : Int32)), .val (.int (1 : Int32)), .val (.int (1 : Int32)), .val (.int aa), .val (.int (aa + (1 : Int32))), .unset, .unset] [(.int (0 : Int32))])) _
  refine XS.ifNo X123.here hx rfl (hb hby at_263) rfl ((if0 _ _).trans (teq rfl).2) ?_
  show Steps p.tables e below (T123.setTop (mkF m 266 #[.val (.int p0), .val (.int p1), .val (.int p2), .val (.int p3), .val (.int cu), .val (.int d), .val (.int (0 : Int32)), .val (.int (((p2.toUInt32 >>> ((5 : Int32) &&& 31).toUInt32).toInt32) &&& (3 : Int32))), .val (.ref b101), .val (.ref b104), .val (.ref b108), .val (.ref b111), .val (.ref b114), .val (.int (0 : Int32)), .val (.int (1 : Int32)), .val (.int (1 : Int32)), .val (.int aa), .val (.int (aa + (1 : Int32))), .unset, .unset] [])) _
  refine XS.iconst X123.here hx rfl (hb hby at_266) ?_
  show Steps p.tables e below (T123.setTop (mkF m 267 #[.val (.int p0), .val (.int p1), .val (.int p2), .val (.int p3), .val (.int cu), .val (.int d), .val (.int (0 : Int32)), .val (.int (((p2.toUInt32 >>> ((5 : Int32) &&& 31).toUInt32).toInt32) &&& (3 : Int32))), .val (.ref b101), .val (.ref b104), .val (.ref b108), .val (.ref b111), .val (.ref b114), .val (.int (0 : Int32)), .val (.int (1 : Int32)), .val (.int (1 : Int32)), .val (.int aa), .val (.int (aa + (1 : Int32))), .unset, .unset] [(.int (1 : Int32))])) _
  refine XS.goto X123.here hx rfl (pc0 := 267) (pc' := 271) rfl (hb hby at_267) (by decide) (by decide) ?_
  show Steps p.tables e below (T123.setTop (mkF m 271 #[.val (.int p0), .val (.int p1), .val (.int p2), .val (.int p3), .val (.int cu), .val (.int d), .val (.int (0 : Int32)), .val (.int (((p2.toUInt32 >>> ((5 : Int32) &&& 31).toUInt32).toInt32) &&& (3 : Int32))), .val (.ref b101), .val (.ref b104), .val (.ref b108), .val (.ref b111), .val (.ref b114), .val (.int (0 : Int32)), .val (.int (1 : Int32)), .val (.int (1 : Int32)), .val (.int aa), .val (.int (aa + (1 : Int32))), .unset, .unset] [(.int (1 : Int32))])) _
  refine XS.istore X123.here hx rfl (hb hby at_271) rfl (l' := #[.val (.int p0), .val (.int p1), .val (.int p2), .val (.int p3), .val (.int cu), .val (.int d), .val (.int (0 : Int32)), .val (.int (((p2.toUInt32 >>> ((5 : Int32) &&& 31).toUInt32).toInt32) &&& (3 : Int32))), .val (.ref b101), .val (.ref b104), .val (.ref b108), .val (.ref b111), .val (.ref b114), .val (.int (0 : Int32)), .val (.int (1 : Int32)), .val (.int (1 : Int32)), .val (.int aa), .val (.int (aa + (1 : Int32))), .unset, .unset]) rfl ?_
  exact kt
set_option maxRecDepth 65536 in
set_option maxHeartbeats 40000000 in
theorem sg1N3 {p : Program} {l : Launch} {e : Env} {s : State} {m : MethodId} {args : Array Value} {below : List Frame} {meth : Method} {c : Code} {T0 : State} {locs : List Loc} {Z : State} {a0 : Array Value} (p0 : Int32) (p1 : Int32) (p2 : Int32) (p3 : Int32) (cu : Int32) (d : Int32) (h0 : Heap) (n0 : Nat) (Z0 : n0 ≤ h0.size) (X0 : Stand p l e room_1 s m args below meth c T0 locs 0 0) (N0 : Fr n0 locs) (hx : p.tables.exec = Jvm.exec) (hZ : Z.Warmed39 s.vm) (hw : ∀ d ∈ tables_1, d.before a0 Z = true) (hby : c.code = code) (hml : c.maxLocals = 20) (hown : s.vm.findClass "com/example/cellwright/cellwright/hive/DecoderFinishPinLaw" = some m.cls) (e0 : T0.heap = h0) (hch_cu : own_ch cu) (h1 : cu < (55296 : Int32) ∨ (56319 : Int32) < cu) (hb21 : ¬ (((p2.toUInt32 >>> ((4 : Int32) &&& 31).toUInt32).toInt32) &&& (1 : Int32)) = (0 : Int32)) :
    ∃ (T' : State) (locs' : List Loc) (s0 : Slot) (s1 : Slot) (s2 : Slot) (s3 : Slot) (s4 : Slot) (s6 : Slot) (s7 : Slot) (s8 : Slot) (s10 : Slot) (s13 : Slot) (s14 : Slot) (s16 : Slot) (s17 : Slot) (b9 : Addr) (b11 : Addr) (b12 : Addr), Stand p l e room_1 s m args below meth c T' locs' 5 19 ∧ Fr n0 locs' ∧ n0 ≤ T'.heap.size ∧ n0 ≤ b11 ∧ n0 ≤ b12 ∧ b9 ≠ b12 ∧ b9 ≠ b11 ∧ b11 ≠ b12 ∧ OwnA Z T'.heap b9 .byte 2 (own_upd (own_upd (fun _ => (.int (0 : Int32))) 0 (.int (d.toInt8.toInt32).toInt8.toInt32)) 1 (.int (((d.toUInt32 >>> ((8 : Int32) &&& 31).toUInt32).toInt32).toInt8.toInt32).toInt8.toInt32)) ∧ OwnA Z T'.heap b11 .char 4 (fun _ => .int (0 : Int32)) ∧ Exa Z T'.heap b12 "com/example/cellwright/cellwright/hive/Utf16Le$Decoder" ∧ Fld Z T'.heap b12 "com/example/cellwright/cellwright/hive/Utf16Le$Decoder" "oddByte" "I" (.int (-1 : Int32)) ∧ Fld Z T'.heap b12 "com/example/cellwright/cellwright/hive/Utf16Le$Decoder" "high" "C" (.int (0 : Int32)) ∧
      ∀ target, Steps p.tables e below (T'.setTop (mkF m 273 #[s0, s1, s2, s3, s4, .val (.int d), s6, s7, s8, .val (.ref b9), s10, .val (.ref b11), .val (.ref b12), s13, s14, .val (.int (1 : Int32)), s16, s17, .unset, .unset] [])) target → Steps p.tables e below (T0.setTop (mkF m 16 #[.val (.int p0), .val (.int p1), .val (.int p2), .val (.int p3), .val (.int cu), .val (.int d), .unset, .unset, .unset, .unset, .unset, .unset, .unset, .unset, .unset, .unset, .unset, .unset, .unset, .unset] [])) target := by
  obtain ⟨T101, h101, k101, X101, e101, E101, A101, Ex101, st101⟩ := newPE X0 hx hZ (aty := .byte) (hw _ (List.mem_of_getElem? (i := 5) rfl)) e0 (g := (mkF m 48 #[.val (.int p0), .val (.int p1), .val (.int p2), .val (.int p3), .val (.int cu), .val (.int d), .val (.int (1 : Int32)), .val (.int (((p2.toUInt32 >>> ((5 : Int32) &&& 31).toUInt32).toInt32) &&& (3 : Int32))), .unset, .unset, .unset, .unset, .unset, .unset, .unset, .unset, .unset, .unset, .unset, .unset] [(.int (3 : Int32))])) rfl (hb hby at_48) rfl (by decide) (cap := 3) (by decide) (by decide) (by decide) (by decide) (ad := "[B") (by decide)
  obtain ⟨b101, g101⟩ : ∃ z, z = h0.size := ⟨_, rfl⟩
  rw [← g101] at A101 Ex101 st101
  have g_b101 : n0 ≤ b101 := Nat.le_trans Z0 (Nat.le_of_eq g101.symm)
  have sz_b101 : h0.size ≤ b101 := Nat.le_trans (Keep.refl h0 []).1 (Nat.le_of_eq g101.symm)
  have Z101 : n0 ≤ h101.size := Nat.le_trans Z0 E101.1
  have KC101 : Keep h0 h101 [] := (Keep.refl h0 []).ext E101
  have V101 : OwnA Z h101 b101 .byte 3 (fun _ => (.int (0 : Int32))) := OwnA.new A101 rfl
  obtain ⟨T102, h102, X102, e102, W102, V102, st102⟩ := own_stB X101 hx hZ e101 V101 (j := (0 : Int32)) 0 (by decide) rfl (by decide) (g := (mkF m 58 #[.val (.int p0), .val (.int p1), .val (.int p2), .val (.int p3), .val (.int cu), .val (.int d), .val (.int (1 : Int32)), .val (.int (((p2.toUInt32 >>> ((5 : Int32) &&& 31).toUInt32).toInt32) &&& (3 : Int32))), .val (.ref b101), .unset, .unset, .unset, .unset, .unset, .unset, .unset, .unset, .unset, .unset, .unset] [(.int (cu.toInt8.toInt32)), (.int (0 : Int32)), (.ref b101)])) rfl rfl (hb hby at_58)
  have Z102 : n0 ≤ h102.size := Nat.le_trans Z101 (Nat.le_of_eq W102.size.symm)
  have KC102 : Keep h0 h102 [] := KC101.wr W102 (Or.inr sz_b101)
  have N102 := Fr.snoc X102 N0 g_b101
  obtain ⟨T103, h103, X103, e103, W103, V103, st103⟩ := own_stB X102 hx hZ e102 V102 (j := (1 : Int32)) 1 (by decide) rfl (by decide) (g := (mkF m 68 #[.val (.int p0), .val (.int p1), .val (.int p2), .val (.int p3), .val (.int cu), .val (.int d), .val (.int (1 : Int32)), .val (.int (((p2.toUInt32 >>> ((5 : Int32) &&& 31).toUInt32).toInt32) &&& (3 : Int32))), .val (.ref b101), .unset, .unset, .unset, .unset, .unset, .unset, .unset, .unset, .unset, .unset, .unset] [(.int (((cu.toUInt32 >>> ((8 : Int32) &&& 31).toUInt32).toInt32).toInt8.toInt32)), (.int (1 : Int32)), (.ref b101)])) rfl rfl (hb hby at_68)
  have Z103 : n0 ≤ h103.size := Nat.le_trans Z102 (Nat.le_of_eq W103.size.symm)
  have KC103 : Keep h0 h103 [] := KC102.wr W103 (Or.inr sz_b101)
  have N103 := Fr.snoc X103 N102 g_b101
  obtain ⟨T104, h104, X104, e104, W104, V104, st104⟩ := own_stB X103 hx hZ e103 V103 (j := (2 : Int32)) 2 (by decide) rfl (by decide) (g := (mkF m 79 #[.val (.int p0), .val (.int p1), .val (.int p2), .val (.int p3), .val (.int cu), .val (.int d), .val (.int (1 : Int32)), .val (.int (((p2.toUInt32 >>> ((5 : Int32) &&& 31).toUInt32).toInt32) &&& (3 : Int32))), .val (.ref b101), .unset, .unset, .unset, .unset, .unset, .unset, .unset, .unset, .unset, .unset, .unset] [(.int (p3.toInt8.toInt32)), (.int (2 : Int32)), (.ref b101)])) rfl rfl (hb hby at_79)
  have Z104 : n0 ≤ h104.size := Nat.le_trans Z103 (Nat.le_of_eq W104.size.symm)
  have KC104 : Keep h0 h104 [] := KC103.wr W104 (Or.inr sz_b101)
  have N104 := Fr.snoc X104 N103 g_b101
  obtain ⟨T105, h105, k105, X105, e105, E105, A105, Ex105, st105⟩ := newPE X104 hx hZ (aty := .byte) (hw _ (List.mem_of_getElem? (i := 5) rfl)) e104 (g := (mkF m 81 #[.val (.int p0), .val (.int p1), .val (.int p2), .val (.int p3), .val (.int cu), .val (.int d), .val (.int (1 : Int32)), .val (.int (((p2.toUInt32 >>> ((5 : Int32) &&& 31).toUInt32).toInt32) &&& (3 : Int32))), .val (.ref b101), .unset, .unset, .unset, .unset, .unset, .unset, .unset, .unset, .unset, .unset, .unset] [(.int (2 : Int32))])) rfl (hb hby at_81) rfl (by decide) (cap := 2) (by decide) (by decide) (by decide) (by decide) (ad := "[B") (by decide)
  obtain ⟨b105, g105⟩ : ∃ z, z = h104.size := ⟨_, rfl⟩
  rw [← g105] at A105 Ex105 st105
  have f106 := (((Ex101.wr W102).wr W103).wr W104)
  have ne_b101_b105 : b101 ≠ b105 := Nat.ne_of_lt (Nat.lt_of_lt_of_le f106.lt (Nat.le_of_eq g105.symm))
  have g_b105 : n0 ≤ b105 := Nat.le_trans Z104 (Nat.le_of_eq g105.symm)
  have sz_b105 : h0.size ≤ b105 := Nat.le_trans KC104.1 (Nat.le_of_eq g105.symm)
  have Z105 : n0 ≤ h105.size := Nat.le_trans Z104 E105.1
  have KC105 : Keep h0 h105 [] := KC104.ext E105
  have V105 : OwnA Z h105 b105 .byte 2 (fun _ => (.int (0 : Int32))) := OwnA.new A105 rfl
  obtain ⟨T107, h107, X107, e107, W107, V107, st107⟩ := own_stB X105 hx hZ e105 V105 (j := (0 : Int32)) 0 (by decide) rfl (by decide) (g := (mkF m 91 #[.val (.int p0), .val (.int p1), .val (.int p2), .val (.int p3), .val (.int cu), .val (.int d), .val (.int (1 : Int32)), .val (.int (((p2.toUInt32 >>> ((5 : Int32) &&& 31).toUInt32).toInt32) &&& (3 : Int32))), .val (.ref b101), .val (.ref b105), .unset, .unset, .unset, .unset, .unset, .unset, .unset, .unset, .unset, .unset] [(.int (d.toInt8.toInt32)), (.int (0 : Int32)), (.ref b105)])) rfl rfl (hb hby at_91)
  have Z107 : n0 ≤ h107.size := Nat.le_trans Z105 (Nat.le_of_eq W107.size.symm)
  have KC107 : Keep h0 h107 [] := KC105.wr W107 (Or.inr sz_b105)
  have N107 := Fr.snoc X107 N104 g_b105
  obtain ⟨T108, h108, X108, e108, W108, V108, st108⟩ := own_stB X107 hx hZ e107 V107 (j := (1 : Int32)) 1 (by decide) rfl (by decide) (g := (mkF m 101 #[.val (.int p0), .val (.int p1), .val (.int p2), .val (.int p3), .val (.int cu), .val (.int d), .val (.int (1 : Int32)), .val (.int (((p2.toUInt32 >>> ((5 : Int32) &&& 31).toUInt32).toInt32) &&& (3 : Int32))), .val (.ref b101), .val (.ref b105), .unset, .unset, .unset, .unset, .unset, .unset, .unset, .unset, .unset, .unset] [(.int (((d.toUInt32 >>> ((8 : Int32) &&& 31).toUInt32).toInt32).toInt8.toInt32)), (.int (1 : Int32)), (.ref b105)])) rfl rfl (hb hby at_101)
  have Z108 : n0 ≤ h108.size := Nat.le_trans Z107 (Nat.le_of_eq W108.size.symm)
  have KC108 : Keep h0 h108 [] := KC107.wr W108 (Or.inr sz_b105)
  have N108 := Fr.snoc X108 N107 g_b105
  obtain ⟨T109, h109, k109, X109, e109, E109, A109, Ex109, st109⟩ := newPE X108 hx hZ (aty := .char) (hw _ (List.mem_of_getElem? (i := 6) rfl)) e108 (g := (mkF m 104 #[.val (.int p0), .val (.int p1), .val (.int p2), .val (.int p3), .val (.int cu), .val (.int d), .val (.int (1 : Int32)), .val (.int (((p2.toUInt32 >>> ((5 : Int32) &&& 31).toUInt32).toInt32) &&& (3 : Int32))), .val (.ref b101), .val (.ref b105), .unset, .unset, .unset, .unset, .unset, .unset, .unset, .unset, .unset, .unset] [(.int (8 : Int32))])) rfl (hb hby at_104) rfl (by decide) (cap := 8) (by decide) (by decide) (by decide) (by decide) (ad := "[C") (by decide)
  obtain ⟨b109, g109⟩ : ∃ z, z = h108.size := ⟨_, rfl⟩
  rw [← g109] at A109 Ex109 st109
  have f110 := (((f106.ext E105).wr W107).wr W108)
  have f111 := ((Ex105.wr W107).wr W108)
  have ne_b101_b109 : b101 ≠ b109 := Nat.ne_of_lt (Nat.lt_of_lt_of_le f110.lt (Nat.le_of_eq g109.symm))
  have ne_b105_b109 : b105 ≠ b109 := Nat.ne_of_lt (Nat.lt_of_lt_of_le f111.lt (Nat.le_of_eq g109.symm))
  have g_b109 : n0 ≤ b109 := Nat.le_trans Z108 (Nat.le_of_eq g109.symm)
  have sz_b109 : h0.size ≤ b109 := Nat.le_trans KC108.1 (Nat.le_of_eq g109.symm)
  have Z109 : n0 ≤ h109.size := Nat.le_trans Z108 E109.1
  have KC109 : Keep h0 h109 [] := KC108.ext E109
  have V109 : OwnA Z h109 b109 .char 8 (fun _ => (.int (0 : Int32))) := OwnA.new A109 rfl
  obtain ⟨T112, h112, k112, X112, e112, E112, A112, Ex112, st112⟩ := newPE X109 hx hZ (aty := .char) (hw _ (List.mem_of_getElem? (i := 6) rfl)) e109 (g := (mkF m 109 #[.val (.int p0), .val (.int p1), .val (.int p2), .val (.int p3), .val (.int cu), .val (.int d), .val (.int (1 : Int32)), .val (.int (((p2.toUInt32 >>> ((5 : Int32) &&& 31).toUInt32).toInt32) &&& (3 : Int32))), .val (.ref b101), .val (.ref b105), .val (.ref b109), .unset, .unset, .unset, .unset, .unset, .unset, .unset, .unset, .unset] [(.int (4 : Int32))])) rfl (hb hby at_109) rfl (by decide) (cap := 4) (by decide) (by decide) (by decide) (by decide) (ad := "[C") (by decide)
  obtain ⟨b112, g112⟩ : ∃ z, z = h109.size := ⟨_, rfl⟩
  rw [← g112] at A112 Ex112 st112
  have f113 := (f110.ext E109)
  have f114 := (f111.ext E109)
  have ne_b101_b112 : b101 ≠ b112 := Nat.ne_of_lt (Nat.lt_of_lt_of_le f113.lt (Nat.le_of_eq g112.symm))
  have ne_b105_b112 : b105 ≠ b112 := Nat.ne_of_lt (Nat.lt_of_lt_of_le f114.lt (Nat.le_of_eq g112.symm))
  have ne_b109_b112 : b109 ≠ b112 := Nat.ne_of_lt (Nat.lt_of_lt_of_le Ex109.lt (Nat.le_of_eq g112.symm))
  have g_b112 : n0 ≤ b112 := Nat.le_trans Z109 (Nat.le_of_eq g112.symm)
  have sz_b112 : h0.size ≤ b112 := Nat.le_trans KC109.1 (Nat.le_of_eq g112.symm)
  have Z112 : n0 ≤ h112.size := Nat.le_trans Z109 E112.1
  have KC112 : Keep h0 h112 [] := KC109.ext E112
  have V112 : OwnA Z h112 b112 .char 4 (fun _ => (.int (0 : Int32))) := OwnA.new A112 rfl
  obtain ⟨T115, h115, X115, e115, E115, A115, D115, -, st115⟩ := newO X112 hx hZ hown (hw _ (List.mem_of_getElem? (i := 7) rfl)) (hw _ (List.mem_of_getElem? (i := 8) rfl)) (hw _ (List.mem_of_getElem? (i := 9) rfl)) e112 (g := (mkF m 113 #[.val (.int p0), .val (.int p1), .val (.int p2), .val (.int p3), .val (.int cu), .val (.int d), .val (.int (1 : Int32)), .val (.int (((p2.toUInt32 >>> ((5 : Int32) &&& 31).toUInt32).toInt32) &&& (3 : Int32))), .val (.ref b101), .val (.ref b105), .val (.ref b109), .val (.ref b112), .unset, .unset, .unset, .unset, .unset, .unset, .unset, .unset] [])) rfl (hb hby at_113) (by decide) (by decide)
  obtain ⟨b115, g115⟩ : ∃ z, z = h112.size := ⟨_, rfl⟩
  rw [← g115] at A115 D115 st115
  have f116 := (f113.ext E112)
  have f117 := (f114.ext E112)
  have f118 := (Ex109.ext E112)
  have ne_b101_b115 : b101 ≠ b115 := Nat.ne_of_lt (Nat.lt_of_lt_of_le f116.lt (Nat.le_of_eq g115.symm))
  have ne_b105_b115 : b105 ≠ b115 := Nat.ne_of_lt (Nat.lt_of_lt_of_le f117.lt (Nat.le_of_eq g115.symm))
  have ne_b109_b115 : b109 ≠ b115 := Nat.ne_of_lt (Nat.lt_of_lt_of_le f118.lt (Nat.le_of_eq g115.symm))
  have ne_b112_b115 : b112 ≠ b115 := Nat.ne_of_lt (Nat.lt_of_lt_of_le Ex112.lt (Nat.le_of_eq g115.symm))
  have g_b115 : n0 ≤ b115 := Nat.le_trans Z112 (Nat.le_of_eq g115.symm)
  have sz_b115 : h0.size ≤ b115 := Nat.le_trans KC112.1 (Nat.le_of_eq g115.symm)
  have Z115 : n0 ≤ h115.size := Nat.le_trans Z112 E115.1
  have KC115 : Keep h0 h115 [] := KC112.ext E115
  have F_oddByte_b115 : Fld Z h115 b115 "com/example/cellwright/cellwright/hive/Utf16Le$Decoder" "oddByte" "I" (.int (0 : Int32)) := D115 (Or.inl (hw _ (List.mem_of_getElem? (i := 17) rfl))) (ty := .int) (by decide)
  have F_high_b115 : Fld Z h115 b115 "com/example/cellwright/cellwright/hive/Utf16Le$Decoder" "high" "C" (.int (0 : Int32)) := D115 (Or.inl (hw _ (List.mem_of_getElem? (i := 24) rfl))) (ty := .char) (by decide)
  obtain ⟨_, _, ⟨T119, L119, k119, n119⟩, -, X119, ⟨Lc119, hQ119, l119, y119, z119⟩, st119⟩ := X115.specialBack hx (y := (⟨"com/example/cellwright/cellwright/hive/Utf16Le$Decoder", "<init>", "()V"⟩ : MethodName)) rfl hown (mvT hZ (hw _ (List.mem_of_getElem? (i := 10) rfl))) (mvT hZ (hw _ (List.mem_of_getElem? (i := 11) rfl))) (mvT hZ (hw _ (List.mem_of_getElem? (i := 12) rfl))) (by decide) (backOf (W := 1) (rmI l Z a0 hw [] b115 h115 n0 Z115 A115 F_oddByte_b115 F_high_b115 g_b115) hZ (hw _ (List.mem_of_getElem? (i := 12) rfl)) (hw _ (List.mem_of_getElem? (i := 9) rfl)) (by decide) (by decide)) (g := (mkF m 117 #[.val (.int p0), .val (.int p1), .val (.int p2), .val (.int p3), .val (.int cu), .val (.int d), .val (.int (1 : Int32)), .val (.int (((p2.toUInt32 >>> ((5 : Int32) &&& 31).toUInt32).toInt32) &&& (3 : Int32))), .val (.ref b101), .val (.ref b105), .val (.ref b109), .val (.ref b112), .unset, .unset, .unset, .unset, .unset, .unset, .unset, .unset] [(.ref b115), (.ref b115)])) rfl (by rw [hml]; rfl) (Steps.refl _) (a := b115) (argsL := []) (rest := [(.ref b115)]) (lenOf own_pd3 rfl) rfl (by show 2 * 0 + _ ≤ _; exact Nat.le_of_eq rfl) (hb hby at_117) (fun _ _ => ⟨rfl, e115, (by decide : 5 + 0 ≤ _), (by decide : 19 + 0 ≤ _)⟩)
  dsimp only [Pt.U, Pt.locs, Pt.cells, Pt.slots] at X119 l119 y119 z119 st119 hQ119
  subst l119 y119 z119
  obtain ⟨rfl, Nq119, K119, Ex119, Fo119, Fh119⟩ := hQ119
  have Z119 : n0 ≤ T119.heap.size := Nat.le_trans Z115 K119.1
  have KC119 : Keep h0 T119.heap [] := KC115.trans K119 (allS (Or.inr sz_b115) all0)
  have N119 := Fr.app N108 Nq119
  have f120 := (((((((V104.ext E105).other W107 ne_b101_b105).other W108 ne_b101_b105).ext E109).ext E112).ext E115).keep K119 (ninS ne_b101_b115 nin0))
  have f121 := (((V109.ext E112).ext E115).keep K119 (ninS ne_b109_b115 nin0))
  obtain ⟨cq122, kq122, q122a, q122b, q122c⟩ := isOf hZ rfl Ex119
  obtain ⟨_, _, ⟨T122, L122, k122, n122⟩, -, X122, ⟨Lc122, hQ122, l122, y122, z122⟩, st122⟩ := X119.virtualBack hx (y := (⟨"com/example/cellwright/cellwright/hive/Utf16Le$Decoder", "decode", "([BII[CI)I"⟩ : MethodName)) (z := (⟨"com/example/cellwright/cellwright/hive/Utf16Le$Decoder", "decode", "([BII[CI)I"⟩ : MethodName)) hown (mvT hZ (hw _ (List.mem_of_getElem? (i := 18) rfl))) (mvT hZ (hw _ (List.mem_of_getElem? (i := 19) rfl))) (notFace_of_selects (args := #[]) (mvT hZ (hw _ (List.mem_of_getElem? (i := 21) rfl)))) (mvT hZ (hw _ (List.mem_of_getElem? (i := 21) rfl))) (mvT hZ (hw _ (List.mem_of_getElem? (i := 20) rfl))) (by decide) (backOf (W := 0) (rmDN3 l Z a0 hw [] b115 b101 b109 8 _ _ cu (cu.toInt8.toInt32) (((cu.toUInt32 >>> ((8 : Int32) &&& 31).toUInt32).toInt32).toInt8.toInt32) (p3.toInt8.toInt32) T119.heap n0 Z119 Ex119 Fh119 f121 (by decide) g_b115 g_b109 ne_b109_b115 hch_cu Fo119 f120 ne_b101_b115 ne_b101_b109 (congrArg Value.int (own_nn _)) (congrArg Value.int (own_nn _)) (congrArg Value.int (own_nn _)) (own_join hch_cu) h1) hZ (hw _ (List.mem_of_getElem? (i := 22) rfl)) (hw _ (List.mem_of_getElem? (i := 9) rfl)) (by decide) (by decide)) q122a q122c (g := (mkF m 133 #[.val (.int p0), .val (.int p1), .val (.int p2), .val (.int p3), .val (.int cu), .val (.int d), .val (.int (1 : Int32)), .val (.int (((p2.toUInt32 >>> ((5 : Int32) &&& 31).toUInt32).toInt32) &&& (3 : Int32))), .val (.ref b101), .val (.ref b105), .val (.ref b109), .val (.ref b112), .val (.ref b115), .unset, .unset, .unset, .unset, .unset, .unset, .unset] [(.int (0 : Int32)), (.ref b109), (.int (3 : Int32)), (.int (0 : Int32)), (.ref b101), (.ref b115)])) rfl (by rw [hml]; rfl) (Steps.refl _) (argsL := [(.ref b101), (.int (0 : Int32)), (.int (3 : Int32)), (.ref b109), (.int (0 : Int32))]) (rest := []) (lenOf own_pd4 rfl) rfl (by show 2 * 0 + _ ≤ _; exact Nat.le_of_eq rfl) (hb hby at_133) (fun _ _ => ⟨rfl, rfl, (by decide : 5 + 0 ≤ _), (by decide : 19 + 0 ≤ _)⟩)
  dsimp only [Pt.U, Pt.locs, Pt.cells, Pt.slots] at X122 l122 y122 z122 st122 hQ122
  subst l122 y122 z122
  obtain ⟨o122, rfl, Nq122, K122, Ex122, Fo122, Fh122, At122⟩ := hQ122
  have Z122 : n0 ≤ T122.heap.size := Nat.le_trans Z119 K122.1
  have KC122 : Keep h0 T122.heap [] := KC119.trans K122 (allS (Or.inr sz_b115) (allS (Or.inr sz_b109) all0))
  have N122 := Fr.app N119 Nq122
  obtain ⟨_, _, ⟨T123, L123, k123, n123⟩, -, X123, ⟨Lc123, hQ123, l123, y123, z123⟩, st123⟩ := Jvm.LawKit.callS X122 hx (y := (⟨"com/example/cellwright/cellwright/hive/DecoderFinishPinLaw", "isHigh", "(C)Z"⟩ : MethodName)) hown (mvT hZ (hw _ (List.mem_of_getElem? (i := 26) rfl))) (mvT hZ (hw _ (List.mem_of_getElem? (i := 27) rfl))) (mvT hZ (hw _ (List.mem_of_getElem? (i := 2) rfl))) (mvT hZ (hw _ (List.mem_of_getElem? (i := 28) rfl))) (by decide) (backOf (W := 0) (rm_ihN l Z a0 hw [] cu T122.heap n0 Z122 h1) hZ (hw _ (List.mem_of_getElem? (i := 28) rfl)) (hw _ (List.mem_of_getElem? (i := 2) rfl)) (by decide) (by decide)) (g := (mkF m 140 #[.val (.int p0), .val (.int p1), .val (.int p2), .val (.int p3), .val (.int cu), .val (.int d), .val (.int (1 : Int32)), .val (.int (((p2.toUInt32 >>> ((5 : Int32) &&& 31).toUInt32).toInt32) &&& (3 : Int32))), .val (.ref b101), .val (.ref b105), .val (.ref b109), .val (.ref b112), .val (.ref b115), .val (.int (1 : Int32)), .unset, .unset, .unset, .unset, .unset, .unset] [(.int cu)])) rfl (by rw [hml]; rfl) (argsL := [(.int cu)]) (rest := []) (lenOf own_pd0 rfl) rfl (by show 2 * 0 + _ ≤ _; exact Nat.le_of_eq rfl) (hb hby at_140) (fun _ _ => ⟨rfl, rfl, (by decide : 5 + 0 ≤ _), (by decide : 19 + 0 ≤ _)⟩)
  dsimp only [Pt.U, Pt.locs, Pt.cells, Pt.slots] at X123 l123 y123 z123 st123 hQ123
  subst l123 y123 z123
  obtain ⟨rfl, Nq123, e123⟩ := hQ123
  have N123 := Fr.app N122 Nq123
  obtain ⟨aa, hv_aa⟩ : ∃ z : Int32, z = ((1 : Int32) + (((p2.toUInt32 >>> ((5 : Int32) &&& 31).toUInt32).toInt32) &&& (3 : Int32))) := ⟨_, rfl⟩
  obtain ⟨hj, k, hk, hk1, hk4⟩ := own_aaN hv_aa
  obtain ⟨cq124, kq124, q124a, q124b, q124c⟩ := isOf hZ e123 Ex122
  obtain ⟨_, _, ⟨T124, L124, k124, n124⟩, -, X124, ⟨Lc124, hQ124, l124, y124, z124⟩, st124⟩ := X123.virtualBack hx (y := (⟨"com/example/cellwright/cellwright/hive/Utf16Le$Decoder", "finish", "([CI)I"⟩ : MethodName)) (z := (⟨"com/example/cellwright/cellwright/hive/Utf16Le$Decoder", "finish", "([CI)I"⟩ : MethodName)) hown (mvT hZ (hw _ (List.mem_of_getElem? (i := 29) rfl))) (mvT hZ (hw _ (List.mem_of_getElem? (i := 30) rfl))) (notFace_of_selects (args := #[]) (mvT hZ (hw _ (List.mem_of_getElem? (i := 32) rfl)))) (mvT hZ (hw _ (List.mem_of_getElem? (i := 32) rfl))) (mvT hZ (hw _ (List.mem_of_getElem? (i := 31) rfl))) (by decide) (backOf (W := 0) (rmFN l Z a0 hw [] b115 b109 aa 8 _ o122 T122.heap n0 Z122 Ex122 Fo122 Fh122 At122 g_b115 g_b109 ne_b109_b115) hZ (hw _ (List.mem_of_getElem? (i := 33) rfl)) (hw _ (List.mem_of_getElem? (i := 9) rfl)) (by decide) (by decide)) q124a q124c (g := (mkF m 180 #[.val (.int p0), .val (.int p1), .val (.int p2), .val (.int p3), .val (.int cu), .val (.int d), .val (.int (1 : Int32)), .val (.int (((p2.toUInt32 >>> ((5 : Int32) &&& 31).toUInt32).toInt32) &&& (3 : Int32))), .val (.ref b101), .val (.ref b105), .val (.ref b109), .val (.ref b112), .val (.ref b115), .val (.int (1 : Int32)), .val (.int (0 : Int32)), .val (.int (1 : Int32)), .val (.int aa), .unset, .unset, .unset] [(.int aa), (.ref b109), (.ref b115)])) rfl (by rw [hml]; rfl) (Steps.refl _) (argsL := [(.ref b109), (.int aa)]) (rest := []) (lenOf own_pd5 rfl) rfl (by show 2 * 0 + _ ≤ _; exact Nat.le_of_eq rfl) (hb hby at_180) (fun _ _ => ⟨rfl, e123, (by decide : 5 + 0 ≤ _), (by decide : 19 + 0 ≤ _)⟩)
  dsimp only [Pt.U, Pt.locs, Pt.cells, Pt.slots] at X124 l124 y124 z124 st124 hQ124
  subst l124 y124 z124
  obtain ⟨rfl, Nq124, K124, Ex124, Fo124, Fh124, At124⟩ := hQ124
  have Z124 : n0 ≤ T124.heap.size := Nat.le_trans Z122 K124.1
  have KC124 : Keep h0 T124.heap [] := KC122.trans K124 (allS (Or.inr sz_b115) (allS (Or.inr sz_b109) all0))
  have N124 := Fr.app N123 Nq124
  have f125 := ((((((V108.ext E109).ext E112).ext E115).keep K119 (ninS ne_b105_b115 nin0)).keep K122 (ninS ne_b105_b115 (ninS ne_b105_b109 nin0))).keep K124 (ninS ne_b105_b115 (ninS ne_b105_b109 nin0)))
  have f126 := ((((V112.ext E115).keep K119 (ninS ne_b112_b115 nin0)).keep K122 (ninS ne_b112_b115 (ninS (Ne.symm ne_b109_b112) nin0))).keep K124 (ninS ne_b112_b115 (ninS (Ne.symm ne_b109_b112) nin0)))
  have Zend : n0 ≤ T124.heap.size := Z124
  refine ⟨T124, _, (.val (.int p0)), (.val (.int p1)), (.val (.int p2)), (.val (.int p3)), (.val (.int cu)), (.val (.int (1 : Int32))), (.val (.int (((p2.toUInt32 >>> ((5 : Int32) &&& 31).toUInt32).toInt32) &&& (3 : Int32)))), (.val (.ref b101)), (.val (.ref b109)), (.val (.int (1 : Int32))), (.val (.int (0 : Int32))), (.val (.int aa)), (.val (.int aa)), b105, b112, b115, X124, N124, Zend, g_b112, g_b115, ne_b105_b115, ne_b105_b112, ne_b112_b115, f125, f126, Ex124, Fo124, Fh124, fun target kt => ?_⟩
  show Steps p.tables e below (T0.setTop (mkF m 16 #[.val (.int p0), .val (.int p1), .val (.int p2), .val (.int p3), .val (.int cu), .val (.int d), .unset, .unset, .unset, .unset, .unset, .unset, .unset, .unset, .unset, .unset, .unset, .unset, .unset, .unset] [])) _
  refine XS.iloadN X0.here hx rfl (hb hby at_16) rfl ?_
  show Steps p.tables e below (T0.setTop (mkF m 17 #[.val (.int p0), .val (.int p1), .val (.int p2), .val (.int p3), .val (.int cu), .val (.int d), .unset, .unset, .unset, .unset, .unset, .unset, .unset, .unset, .unset, .unset, .unset, .unset, .unset, .unset] [(.int p2)])) _
  refine XS.iconst X0.here hx rfl (hb hby at_17) ?_
  show Steps p.tables e below (T0.setTop (mkF m 18 #[.val (.int p0), .val (.int p1), .val (.int p2), .val (.int p3), .val (.int cu), .val (.int d), .unset, .unset, .unset, .unset, .unset, .unset, .unset, .unset, .unset, .unset, .unset, .unset, .unset, .unset] [(.int (4 : Int32)), (.int p2)])) _
  refine XS.iushr X0.here hx rfl (hb hby at_18) rfl ?_
  show Steps p.tables e below (T0.setTop (mkF m 19 #[.val (.int p0), .val (.int p1), .val (.int p2), .val (.int p3), .val (.int cu), .val (.int d), .unset, .unset, .unset, .unset, .unset, .unset, .unset, .unset, .unset, .unset, .unset, .unset, .unset, .unset] [(.int ((p2.toUInt32 >>> ((4 : Int32) &&& 31).toUInt32).toInt32))])) _
  refine XS.iconst X0.here hx rfl (hb hby at_19) ?_
  show Steps p.tables e below (T0.setTop (mkF m 20 #[.val (.int p0), .val (.int p1), .val (.int p2), .val (.int p3), .val (.int cu), .val (.int d), .unset, .unset, .unset, .unset, .unset, .unset, .unset, .unset, .unset, .unset, .unset, .unset, .unset, .unset] [(.int (1 : Int32)), (.int ((p2.toUInt32 >>> ((4 : Int32) &&& 31).toUInt32).toInt32))])) _
  refine XS.iand X0.here hx rfl (hb hby at_20) rfl ?_
  show Steps p.tables e below (T0.setTop (mkF m 21 #[.val (.int p0), .val (.int p1), .val (.int p2), .val (.int p3), .val (.int cu), .val (.int d), .unset, .unset, .unset, .unset, .unset, .unset, .unset, .unset, .unset, .unset, .unset, .unset, .unset, .unset] [(.int (((p2.toUInt32 >>> ((4 : Int32) &&& 31).toUInt32).toInt32) &&& (1 : Int32)))])) _
  refine XS.ifNo X0.here hx rfl (hb hby at_21) rfl ((if0 _ _).trans (feq hb21).1) ?_
  show Steps p.tables e below (T0.setTop (mkF m 24 #[.val (.int p0), .val (.int p1), .val (.int p2), .val (.int p3), .val (.int cu), .val (.int d), .unset, .unset, .unset, .unset, .unset, .unset, .unset, .unset, .unset, .unset, .unset, .unset, .unset, .unset] [])) _
  refine XS.iconst X0.here hx rfl (hb hby at_24) ?_
  show Steps p.tables e below (T0.setTop (mkF m 25 #[.val (.int p0), .val (.int p1), .val (.int p2), .val (.int p3), .val (.int cu), .val (.int d), .unset, .unset, .unset, .unset, .unset, .unset, .unset, .unset, .unset, .unset, .unset, .unset, .unset, .unset] [(.int (1 : Int32))])) _
  refine XS.goto X0.here hx rfl (pc0 := 25) (pc' := 29) rfl (hb hby at_25) (by decide) (by decide) ?_
  show Steps p.tables e below (T0.setTop (mkF m 29 #[.val (.int p0), .val (.int p1), .val (.int p2), .val (.int p3), .val (.int cu), .val (.int d), .unset, .unset, .unset, .unset, .unset, .unset, .unset, .unset, .unset, .unset, .unset, .unset, .unset, .unset] [(.int (1 : Int32))])) _
  refine XS.istore X0.here hx rfl (hb hby at_29) rfl (l' := #[.val (.int p0), .val (.int p1), .val (.int p2), .val (.int p3), .val (.int cu), .val (.int d), .val (.int (1 : Int32)), .unset, .unset, .unset, .unset, .unset, .unset, .unset, .unset, .unset, .unset, .unset, .unset, .unset]) rfl ?_
  show Steps p.tables e below (T0.setTop (mkF m 31 #[.val (.int p0), .val (.int p1), .val (.int p2), .val (.int p3), .val (.int cu), .val (.int d), .val (.int (1 : Int32)), .unset, .unset, .unset, .unset, .unset, .unset, .unset, .unset, .unset, .unset, .unset, .unset, .unset] [])) _
  refine XS.iloadN X0.here hx rfl (hb hby at_31) rfl ?_
  show Steps p.tables e below (T0.setTop (mkF m 32 #[.val (.int p0), .val (.int p1), .val (.int p2), .val (.int p3), .val (.int cu), .val (.int d), .val (.int (1 : Int32)), .unset, .unset, .unset, .unset, .unset, .unset, .unset, .unset, .unset, .unset, .unset, .unset, .unset] [(.int p2)])) _
  refine XS.iconst X0.here hx rfl (hb hby at_32) ?_
  show Steps p.tables e below (T0.setTop (mkF m 33 #[.val (.int p0), .val (.int p1), .val (.int p2), .val (.int p3), .val (.int cu), .val (.int d), .val (.int (1 : Int32)), .unset, .unset, .unset, .unset, .unset, .unset, .unset, .unset, .unset, .unset, .unset, .unset, .unset] [(.int (5 : Int32)), (.int p2)])) _
  refine XS.iushr X0.here hx rfl (hb hby at_33) rfl ?_
  show Steps p.tables e below (T0.setTop (mkF m 34 #[.val (.int p0), .val (.int p1), .val (.int p2), .val (.int p3), .val (.int cu), .val (.int d), .val (.int (1 : Int32)), .unset, .unset, .unset, .unset, .unset, .unset, .unset, .unset, .unset, .unset, .unset, .unset, .unset] [(.int ((p2.toUInt32 >>> ((5 : Int32) &&& 31).toUInt32).toInt32))])) _
  refine XS.iconst X0.here hx rfl (hb hby at_34) ?_
  show Steps p.tables e below (T0.setTop (mkF m 35 #[.val (.int p0), .val (.int p1), .val (.int p2), .val (.int p3), .val (.int cu), .val (.int d), .val (.int (1 : Int32)), .unset, .unset, .unset, .unset, .unset, .unset, .unset, .unset, .unset, .unset, .unset, .unset, .unset] [(.int (3 : Int32)), (.int ((p2.toUInt32 >>> ((5 : Int32) &&& 31).toUInt32).toInt32))])) _
  refine XS.iand X0.here hx rfl (hb hby at_35) rfl ?_
  show Steps p.tables e below (T0.setTop (mkF m 36 #[.val (.int p0), .val (.int p1), .val (.int p2), .val (.int p3), .val (.int cu), .val (.int d), .val (.int (1 : Int32)), .unset, .unset, .unset, .unset, .unset, .unset, .unset, .unset, .unset, .unset, .unset, .unset, .unset] [(.int (((p2.toUInt32 >>> ((5 : Int32) &&& 31).toUInt32).toInt32) &&& (3 : Int32)))])) _
  refine XS.istore X0.here hx rfl (hb hby at_36) rfl (l' := #[.val (.int p0), .val (.int p1), .val (.int p2), .val (.int p3), .val (.int cu), .val (.int d), .val (.int (1 : Int32)), .val (.int (((p2.toUInt32 >>> ((5 : Int32) &&& 31).toUInt32).toInt32) &&& (3 : Int32))), .unset, .unset, .unset, .unset, .unset, .unset, .unset, .unset, .unset, .unset, .unset, .unset]) rfl ?_
  show Steps p.tables e below (T0.setTop (mkF m 38 #[.val (.int p0), .val (.int p1), .val (.int p2), .val (.int p3), .val (.int cu), .val (.int d), .val (.int (1 : Int32)), .val (.int (((p2.toUInt32 >>> ((5 : Int32) &&& 31).toUInt32).toInt32) &&& (3 : Int32))), .unset, .unset, .unset, .unset, .unset, .unset, .unset, .unset, .unset, .unset, .unset, .unset] [])) _
  refine XS.iload X0.here hx rfl (hb hby at_38) rfl ?_
  show Steps p.tables e below (T0.setTop (mkF m 40 #[.val (.int p0), .val (.int p1), .val (.int p2), .val (.int p3), .val (.int cu), .val (.int d), .val (.int (1 : Int32)), .val (.int (((p2.toUInt32 >>> ((5 : Int32) &&& 31).toUInt32).toInt32) &&& (3 : Int32))), .unset, .unset, .unset, .unset, .unset, .unset, .unset, .unset, .unset, .unset, .unset, .unset] [(.int (1 : Int32))])) _
  refine XS.ifNo X0.here hx rfl (hb hby at_40) rfl ((if0 _ _).trans (feq (by decide : ¬ (1 : Int32) = (0 : Int32))).1) ?_
  show Steps p.tables e below (T0.setTop (mkF m 43 #[.val (.int p0), .val (.int p1), .val (.int p2), .val (.int p3), .val (.int cu), .val (.int d), .val (.int (1 : Int32)), .val (.int (((p2.toUInt32 >>> ((5 : Int32) &&& 31).toUInt32).toInt32) &&& (3 : Int32))), .unset, .unset, .unset, .unset, .unset, .unset, .unset, .unset, .unset, .unset, .unset, .unset] [])) _
  refine XS.iconst X0.here hx rfl (hb hby at_43) ?_
  show Steps p.tables e below (T0.setTop (mkF m 44 #[.val (.int p0), .val (.int p1), .val (.int p2), .val (.int p3), .val (.int cu), .val (.int d), .val (.int (1 : Int32)), .val (.int (((p2.toUInt32 >>> ((5 : Int32) &&& 31).toUInt32).toInt32) &&& (3 : Int32))), .unset, .unset, .unset, .unset, .unset, .unset, .unset, .unset, .unset, .unset, .unset, .unset] [(.int (3 : Int32))])) _
  refine XS.goto X0.here hx rfl (pc0 := 44) (pc' := 48) rfl (hb hby at_44) (by decide) (by decide) ?_
  show Steps p.tables e below (T0.setTop (mkF m 48 #[.val (.int p0), .val (.int p1), .val (.int p2), .val (.int p3), .val (.int cu), .val (.int d), .val (.int (1 : Int32)), .val (.int (((p2.toUInt32 >>> ((5 : Int32) &&& 31).toUInt32).toInt32) &&& (3 : Int32))), .unset, .unset, .unset, .unset, .unset, .unset, .unset, .unset, .unset, .unset, .unset, .unset] [(.int (3 : Int32))])) _
  refine st101 _ ?_
  show Steps p.tables e below (T101.setTop (mkF m 50 #[.val (.int p0), .val (.int p1), .val (.int p2), .val (.int p3), .val (.int cu), .val (.int d), .val (.int (1 : Int32)), .val (.int (((p2.toUInt32 >>> ((5 : Int32) &&& 31).toUInt32).toInt32) &&& (3 : Int32))), .unset, .unset, .unset, .unset, .unset, .unset, .unset, .unset, .unset, .unset, .unset, .unset] [(.ref b101)])) _
  refine XS.astore X101.here hx rfl (hb hby at_50) rfl rfl (l' := #[.val (.int p0), .val (.int p1), .val (.int p2), .val (.int p3), .val (.int cu), .val (.int d), .val (.int (1 : Int32)), .val (.int (((p2.toUInt32 >>> ((5 : Int32) &&& 31).toUInt32).toInt32) &&& (3 : Int32))), .val (.ref b101), .unset, .unset, .unset, .unset, .unset, .unset, .unset, .unset, .unset, .unset, .unset]) rfl ?_
  show Steps p.tables e below (T101.setTop (mkF m 52 #[.val (.int p0), .val (.int p1), .val (.int p2), .val (.int p3), .val (.int cu), .val (.int d), .val (.int (1 : Int32)), .val (.int (((p2.toUInt32 >>> ((5 : Int32) &&& 31).toUInt32).toInt32) &&& (3 : Int32))), .val (.ref b101), .unset, .unset, .unset, .unset, .unset, .unset, .unset, .unset, .unset, .unset, .unset] [])) _
  refine XS.aload X101.here hx rfl (hb hby at_52) rfl rfl ?_
  show Steps p.tables e below (T101.setTop (mkF m 54 #[.val (.int p0), .val (.int p1), .val (.int p2), .val (.int p3), .val (.int cu), .val (.int d), .val (.int (1 : Int32)), .val (.int (((p2.toUInt32 >>> ((5 : Int32) &&& 31).toUInt32).toInt32) &&& (3 : Int32))), .val (.ref b101), .unset, .unset, .unset, .unset, .unset, .unset, .unset, .unset, .unset, .unset, .unset] [(.ref b101)])) _
  refine XS.iconst X101.here hx rfl (hb hby at_54) ?_
  show Steps p.tables e below (T101.setTop (mkF m 55 #[.val (.int p0), .val (.int p1), .val (.int p2), .val (.int p3), .val (.int cu), .val (.int d), .val (.int (1 : Int32)), .val (.int (((p2.toUInt32 >>> ((5 : Int32) &&& 31).toUInt32).toInt32) &&& (3 : Int32))), .val (.ref b101), .unset, .unset, .unset, .unset, .unset, .unset, .unset, .unset, .unset, .unset, .unset] [(.int (0 : Int32)), (.ref b101)])) _
  refine XS.iload X101.here hx rfl (hb hby at_55) rfl ?_
  show Steps p.tables e below (T101.setTop (mkF m 57 #[.val (.int p0), .val (.int p1), .val (.int p2), .val (.int p3), .val (.int cu), .val (.int d), .val (.int (1 : Int32)), .val (.int (((p2.toUInt32 >>> ((5 : Int32) &&& 31).toUInt32).toInt32) &&& (3 : Int32))), .val (.ref b101), .unset, .unset, .unset, .unset, .unset, .unset, .unset, .unset, .unset, .unset, .unset] [(.int cu), (.int (0 : Int32)), (.ref b101)])) _
  refine XS.i2b X101.here hx rfl (hb hby at_57) rfl ?_
  show Steps p.tables e below (T101.setTop (mkF m 58 #[.val (.int p0), .val (.int p1), .val (.int p2), .val (.int p3), .val (.int cu), .val (.int d), .val (.int (1 : Int32)), .val (.int (((p2.toUInt32 >>> ((5 : Int32) &&& 31).toUInt32).toInt32) &&& (3 : Int32))), .val (.ref b101), .unset, .unset, .unset, .unset, .unset, .unset, .unset, .unset, .unset, .unset, .unset] [(.int (cu.toInt8.toInt32)), (.int (0 : Int32)), (.ref b101)])) _
  refine st102 _ ?_
  show Steps p.tables e below (T102.setTop (mkF m 59 #[.val (.int p0), .val (.int p1), .val (.int p2), .val (.int p3), .val (.int cu), .val (.int d), .val (.int (1 : Int32)), .val (.int (((p2.toUInt32 >>> ((5 : Int32) &&& 31).toUInt32).toInt32) &&& (3 : Int32))), .val (.ref b101), .unset, .unset, .unset, .unset, .unset, .unset, .unset, .unset, .unset, .unset, .unset] [])) _
  refine XS.aload X102.here hx rfl (hb hby at_59) rfl rfl ?_
  show Steps p.tables e below (T102.setTop (mkF m 61 #[.val (.int p0), .val (.int p1), .val (.int p2), .val (.int p3), .val (.int cu), .val (.int d), .val (.int (1 : Int32)), .val (.int (((p2.toUInt32 >>> ((5 : Int32) &&& 31).toUInt32).toInt32) &&& (3 : Int32))), .val (.ref b101), .unset, .unset, .unset, .unset, .unset, .unset, .unset, .unset, .unset, .unset, .unset] [(.ref b101)])) _
  refine XS.iconst X102.here hx rfl (hb hby at_61) ?_
  show Steps p.tables e below (T102.setTop (mkF m 62 #[.val (.int p0), .val (.int p1), .val (.int p2), .val (.int p3), .val (.int cu), .val (.int d), .val (.int (1 : Int32)), .val (.int (((p2.toUInt32 >>> ((5 : Int32) &&& 31).toUInt32).toInt32) &&& (3 : Int32))), .val (.ref b101), .unset, .unset, .unset, .unset, .unset, .unset, .unset, .unset, .unset, .unset, .unset] [(.int (1 : Int32)), (.ref b101)])) _
  refine XS.iload X102.here hx rfl (hb hby at_62) rfl ?_
  show Steps p.tables e below (T102.setTop (mkF m 64 #[.val (.int p0), .val (.int p1), .val (.int p2), .val (.int p3), .val (.int cu), .val (.int d), .val (.int (1 : Int32)), .val (.int (((p2.toUInt32 >>> ((5 : Int32) &&& 31).toUInt32).toInt32) &&& (3 : Int32))), .val (.ref b101), .unset, .unset, .unset, .unset, .unset, .unset, .unset, .unset, .unset, .unset, .unset] [(.int cu), (.int (1 : Int32)), (.ref b101)])) _
  refine XS.bipush X102.here hx rfl (hb hby at_64) ?_
  show Steps p.tables e below (T102.setTop (mkF m 66 #[.val (.int p0), .val (.int p1), .val (.int p2), .val (.int p3), .val (.int cu), .val (.int d), .val (.int (1 : Int32)), .val (.int (((p2.toUInt32 >>> ((5 : Int32) &&& 31).toUInt32).toInt32) &&& (3 : Int32))), .val (.ref b101), .unset, .unset, .unset, .unset, .unset, .unset, .unset, .unset, .unset, .unset, .unset] [(.int (8 : Int32)), (.int cu), (.int (1 : Int32)), (.ref b101)])) _
  refine XS.iushr X102.here hx rfl (hb hby at_66) rfl ?_
  show Steps p.tables e below (T102.setTop (mkF m 67 #[.val (.int p0), .val (.int p1), .val (.int p2), .val (.int p3), .val (.int cu), .val (.int d), .val (.int (1 : Int32)), .val (.int (((p2.toUInt32 >>> ((5 : Int32) &&& 31).toUInt32).toInt32) &&& (3 : Int32))), .val (.ref b101), .unset, .unset, .unset, .unset, .unset, .unset, .unset, .unset, .unset, .unset, .unset] [(.int ((cu.toUInt32 >>> ((8 : Int32) &&& 31).toUInt32).toInt32)), (.int (1 : Int32)), (.ref b101)])) _
  refine XS.i2b X102.here hx rfl (hb hby at_67) rfl ?_
  show Steps p.tables e below (T102.setTop (mkF m 68 #[.val (.int p0), .val (.int p1), .val (.int p2), .val (.int p3), .val (.int cu), .val (.int d), .val (.int (1 : Int32)), .val (.int (((p2.toUInt32 >>> ((5 : Int32) &&& 31).toUInt32).toInt32) &&& (3 : Int32))), .val (.ref b101), .unset, .unset, .unset, .unset, .unset, .unset, .unset, .unset, .unset, .unset, .unset] [(.int (((cu.toUInt32 >>> ((8 : Int32) &&& 31).toUInt32).toInt32).toInt8.toInt32)), (.int (1 : Int32)), (.ref b101)])) _
  refine st103 _ ?_
  show Steps p.tables e below (T103.setTop (mkF m 69 #[.val (.int p0), .val (.int p1), .val (.int p2), .val (.int p3), .val (.int cu), .val (.int d), .val (.int (1 : Int32)), .val (.int (((p2.toUInt32 >>> ((5 : Int32) &&& 31).toUInt32).toInt32) &&& (3 : Int32))), .val (.ref b101), .unset, .unset, .unset, .unset, .unset, .unset, .unset, .unset, .unset, .unset, .unset] [])) _
  refine XS.iload X103.here hx rfl (hb hby at_69) rfl ?_
  show Steps p.tables e below (T103.setTop (mkF m 71 #[.val (.int p0), .val (.int p1), .val (.int p2), .val (.int p3), .val (.int cu), .val (.int d), .val (.int (1 : Int32)), .val (.int (((p2.toUInt32 >>> ((5 : Int32) &&& 31).toUInt32).toInt32) &&& (3 : Int32))), .val (.ref b101), .unset, .unset, .unset, .unset, .unset, .unset, .unset, .unset, .unset, .unset, .unset] [(.int (1 : Int32))])) _
  refine XS.ifNo X103.here hx rfl (hb hby at_71) rfl ((if0 _ _).trans (feq (by decide : ¬ (1 : Int32) = (0 : Int32))).1) ?_
  show Steps p.tables e below (T103.setTop (mkF m 74 #[.val (.int p0), .val (.int p1), .val (.int p2), .val (.int p3), .val (.int cu), .val (.int d), .val (.int (1 : Int32)), .val (.int (((p2.toUInt32 >>> ((5 : Int32) &&& 31).toUInt32).toInt32) &&& (3 : Int32))), .val (.ref b101), .unset, .unset, .unset, .unset, .unset, .unset, .unset, .unset, .unset, .unset, .unset] [])) _
  refine XS.aload X103.here hx rfl (hb hby at_74) rfl rfl ?_
  show Steps p.tables e below (T103.setTop (mkF m 76 #[.val (.int p0), .val (.int p1), .val (.int p2), .val (.int p3), .val (.int cu), .val (.int d), .val (.int (1 : Int32)), .val (.int (((p2.toUInt32 >>> ((5 : Int32) &&& 31).toUInt32).toInt32) &&& (3 : Int32))), .val (.ref b101), .unset, .unset, .unset, .unset, .unset, .unset, .unset, .unset, .unset, .unset, .unset] [(.ref b101)])) _
  refine XS.iconst X103.here hx rfl (hb hby at_76) ?_
  show Steps p.tables e below (T103.setTop (mkF m 77 #[.val (.int p0), .val (.int p1), .val (.int p2), .val (.int p3), .val (.int cu), .val (.int d), .val (.int (1 : Int32)), .val (.int (((p2.toUInt32 >>> ((5 : Int32) &&& 31).toUInt32).toInt32) &&& (3 : Int32))), .val (.ref b101), .unset, .unset, .unset, .unset, .unset, .unset, .unset, .unset, .unset, .unset, .unset] [(.int (2 : Int32)), (.ref b101)])) _
  refine XS.iloadN X103.here hx rfl (hb hby at_77) rfl ?_
  show Steps p.tables e below (T103.setTop (mkF m 78 #[.val (.int p0), .val (.int p1), .val (.int p2), .val (.int p3), .val (.int cu), .val (.int d), .val (.int (1 : Int32)), .val (.int (((p2.toUInt32 >>> ((5 : Int32) &&& 31).toUInt32).toInt32) &&& (3 : Int32))), .val (.ref b101), .unset, .unset, .unset, .unset, .unset, .unset, .unset, .unset, .unset, .unset, .unset] [(.int p3), (.int (2 : Int32)), (.ref b101)])) _
  refine XS.i2b X103.here hx rfl (hb hby at_78) rfl ?_
  show Steps p.tables e below (T103.setTop (mkF m 79 #[.val (.int p0), .val (.int p1), .val (.int p2), .val (.int p3), .val (.int cu), .val (.int d), .val (.int (1 : Int32)), .val (.int (((p2.toUInt32 >>> ((5 : Int32) &&& 31).toUInt32).toInt32) &&& (3 : Int32))), .val (.ref b101), .unset, .unset, .unset, .unset, .unset, .unset, .unset, .unset, .unset, .unset, .unset] [(.int (p3.toInt8.toInt32)), (.int (2 : Int32)), (.ref b101)])) _
  refine st104 _ ?_
  show Steps p.tables e below (T104.setTop (mkF m 80 #[.val (.int p0), .val (.int p1), .val (.int p2), .val (.int p3), .val (.int cu), .val (.int d), .val (.int (1 : Int32)), .val (.int (((p2.toUInt32 >>> ((5 : Int32) &&& 31).toUInt32).toInt32) &&& (3 : Int32))), .val (.ref b101), .unset, .unset, .unset, .unset, .unset, .unset, .unset, .unset, .unset, .unset, .unset] [])) _
  refine XS.iconst X104.here hx rfl (hb hby at_80) ?_
  show Steps p.tables e below (T104.setTop (mkF m 81 #[.val (.int p0), .val (.int p1), .val (.int p2), .val (.int p3), .val (.int cu), .val (.int d), .val (.int (1 : Int32)), .val (.int (((p2.toUInt32 >>> ((5 : Int32) &&& 31).toUInt32).toInt32) &&& (3 : Int32))), .val (.ref b101), .unset, .unset, .unset, .unset, .unset, .unset, .unset, .unset, .unset, .unset, .unset] [(.int (2 : Int32))])) _
  refine st105 _ ?_
  show Steps p.tables e below (T105.setTop (mkF m 83 #[.val (.int p0), .val (.int p1), .val (.int p2), .val (.int p3), .val (.int cu), .val (.int d), .val (.int (1 : Int32)), .val (.int (((p2.toUInt32 >>> ((5 : Int32) &&& 31).toUInt32).toInt32) &&& (3 : Int32))), .val (.ref b101), .unset, .unset, .unset, .unset, .unset, .unset, .unset, .unset, .unset, .unset, .unset] [(.ref b105)])) _
  refine XS.astore X105.here hx rfl (hb hby at_83) rfl rfl (l' := #[.val (.int p0), .val (.int p1), .val (.int p2), .val (.int p3), .val (.int cu), .val (.int d), .val (.int (1 : Int32)), .val (.int (((p2.toUInt32 >>> ((5 : Int32) &&& 31).toUInt32).toInt32) &&& (3 : Int32))), .val (.ref b101), .val (.ref b105), .unset, .unset, .unset, .unset, .unset, .unset, .unset, .unset, .unset, .unset]) rfl ?_
  show Steps p.tables e below (T105.setTop (mkF m 85 #[.val (.int p0), .val (.int p1), .val (.int p2), .val (.int p3), .val (.int cu), .val (.int d), .val (.int (1 : Int32)), .val (.int (((p2.toUInt32 >>> ((5 : Int32) &&& 31).toUInt32).toInt32) &&& (3 : Int32))), .val (.ref b101), .val (.ref b105), .unset, .unset, .unset, .unset, .unset, .unset, .unset, .unset, .unset, .unset] [])) _
  refine XS.aload X105.here hx rfl (hb hby at_85) rfl rfl ?_
  show Steps p.tables e below (T105.setTop (mkF m 87 #[.val (.int p0), .val (.int p1), .val (.int p2), .val (.int p3), .val (.int cu), .val (.int d), .val (.int (1 : Int32)), .val (.int (((p2.toUInt32 >>> ((5 : Int32) &&& 31).toUInt32).toInt32) &&& (3 : Int32))), .val (.ref b101), .val (.ref b105), .unset, .unset, .unset, .unset, .unset, .unset, .unset, .unset, .unset, .unset] [(.ref b105)])) _
  refine XS.iconst X105.here hx rfl (hb hby at_87) ?_
  show Steps p.tables e below (T105.setTop (mkF m 88 #[.val (.int p0), .val (.int p1), .val (.int p2), .val (.int p3), .val (.int cu), .val (.int d), .val (.int (1 : Int32)), .val (.int (((p2.toUInt32 >>> ((5 : Int32) &&& 31).toUInt32).toInt32) &&& (3 : Int32))), .val (.ref b101), .val (.ref b105), .unset, .unset, .unset, .unset, .unset, .unset, .unset, .unset, .unset, .unset] [(.int (0 : Int32)), (.ref b105)])) _
  refine XS.iload X105.here hx rfl (hb hby at_88) rfl ?_
  show Steps p.tables e below (T105.setTop (mkF m 90 #[.val (.int p0), .val (.int p1), .val (.int p2), .val (.int p3), .val (.int cu), .val (.int d), .val (.int (1 : Int32)), .val (.int (((p2.toUInt32 >>> ((5 : Int32) &&& 31).toUInt32).toInt32) &&& (3 : Int32))), .val (.ref b101), .val (.ref b105), .unset, .unset, .unset, .unset, .unset, .unset, .unset, .unset, .unset, .unset] [(.int d), (.int (0 : Int32)), (.ref b105)])) _
  refine XS.i2b X105.here hx rfl (hb hby at_90) rfl ?_
  show Steps p.tables e below (T105.setTop (mkF m 91 #[.val (.int p0), .val (.int p1), .val (.int p2), .val (.int p3), .val (.int cu), .val (.int d), .val (.int (1 : Int32)), .val (.int (((p2.toUInt32 >>> ((5 : Int32) &&& 31).toUInt32).toInt32) &&& (3 : Int32))), .val (.ref b101), .val (.ref b105), .unset, .unset, .unset, .unset, .unset, .unset, .unset, .unset, .unset, .unset] [(.int (d.toInt8.toInt32)), (.int (0 : Int32)), (.ref b105)])) _
  refine st107 _ ?_
  show Steps p.tables e below (T107.setTop (mkF m 92 #[.val (.int p0), .val (.int p1), .val (.int p2), .val (.int p3), .val (.int cu), .val (.int d), .val (.int (1 : Int32)), .val (.int (((p2.toUInt32 >>> ((5 : Int32) &&& 31).toUInt32).toInt32) &&& (3 : Int32))), .val (.ref b101), .val (.ref b105), .unset, .unset, .unset, .unset, .unset, .unset, .unset, .unset, .unset, .unset] [])) _
  refine XS.aload X107.here hx rfl (hb hby at_92) rfl rfl ?_
  show Steps p.tables e below (T107.setTop (mkF m 94 #[.val (.int p0), .val (.int p1), .val (.int p2), .val (.int p3), .val (.int cu), .val (.int d), .val (.int (1 : Int32)), .val (.int (((p2.toUInt32 >>> ((5 : Int32) &&& 31).toUInt32).toInt32) &&& (3 : Int32))), .val (.ref b101), .val (.ref b105), .unset, .unset, .unset, .unset, .unset, .unset, .unset, .unset, .unset, .unset] [(.ref b105)])) _
  refine XS.iconst X107.here hx rfl (hb hby at_94) ?_
  show Steps p.tables e below (T107.setTop (mkF m 95 #[.val (.int p0), .val (.int p1), .val (.int p2), .val (.int p3), .val (.int cu), .val (.int d), .val (.int (1 : Int32)), .val (.int (((p2.toUInt32 >>> ((5 : Int32) &&& 31).toUInt32).toInt32) &&& (3 : Int32))), .val (.ref b101), .val (.ref b105), .unset, .unset, .unset, .unset, .unset, .unset, .unset, .unset, .unset, .unset] [(.int (1 : Int32)), (.ref b105)])) _
  refine XS.iload X107.here hx rfl (hb hby at_95) rfl ?_
  show Steps p.tables e below (T107.setTop (mkF m 97 #[.val (.int p0), .val (.int p1), .val (.int p2), .val (.int p3), .val (.int cu), .val (.int d), .val (.int (1 : Int32)), .val (.int (((p2.toUInt32 >>> ((5 : Int32) &&& 31).toUInt32).toInt32) &&& (3 : Int32))), .val (.ref b101), .val (.ref b105), .unset, .unset, .unset, .unset, .unset, .unset, .unset, .unset, .unset, .unset] [(.int d), (.int (1 : Int32)), (.ref b105)])) _
  refine XS.bipush X107.here hx rfl (hb hby at_97) ?_
  show Steps p.tables e below (T107.setTop (mkF m 99 #[.val (.int p0), .val (.int p1), .val (.int p2), .val (.int p3), .val (.int cu), .val (.int d), .val (.int (1 : Int32)), .val (.int (((p2.toUInt32 >>> ((5 : Int32) &&& 31).toUInt32).toInt32) &&& (3 : Int32))), .val (.ref b101), .val (.ref b105), .unset, .unset, .unset, .unset, .unset, .unset, .unset, .unset, .unset, .unset] [(.int (8 : Int32)), (.int d), (.int (1 : Int32)), (.ref b105)])) _
  refine XS.iushr X107.here hx rfl (hb hby at_99) rfl ?_
  show Steps p.tables e below (T107.setTop (mkF m 100 #[.val (.int p0), .val (.int p1), .val (.int p2), .val (.int p3), .val (.int cu), .val (.int d), .val (.int (1 : Int32)), .val (.int (((p2.toUInt32 >>> ((5 : Int32) &&& 31).toUInt32).toInt32) &&& (3 : Int32))), .val (.ref b101), .val (.ref b105), .unset, .unset, .unset, .unset, .unset, .unset, .unset, .unset, .unset, .unset] [(.int ((d.toUInt32 >>> ((8 : Int32) &&& 31).toUInt32).toInt32)), (.int (1 : Int32)), (.ref b105)])) _
  refine XS.i2b X107.here hx rfl (hb hby at_100) rfl ?_
  show Steps p.tables e below (T107.setTop (mkF m 101 #[.val (.int p0), .val (.int p1), .val (.int p2), .val (.int p3), .val (.int cu), .val (.int d), .val (.int (1 : Int32)), .val (.int (((p2.toUInt32 >>> ((5 : Int32) &&& 31).toUInt32).toInt32) &&& (3 : Int32))), .val (.ref b101), .val (.ref b105), .unset, .unset, .unset, .unset, .unset, .unset, .unset, .unset, .unset, .unset] [(.int (((d.toUInt32 >>> ((8 : Int32) &&& 31).toUInt32).toInt32).toInt8.toInt32)), (.int (1 : Int32)), (.ref b105)])) _
  refine st108 _ ?_
  show Steps p.tables e below (T108.setTop (mkF m 102 #[.val (.int p0), .val (.int p1), .val (.int p2), .val (.int p3), .val (.int cu), .val (.int d), .val (.int (1 : Int32)), .val (.int (((p2.toUInt32 >>> ((5 : Int32) &&& 31).toUInt32).toInt32) &&& (3 : Int32))), .val (.ref b101), .val (.ref b105), .unset, .unset, .unset, .unset, .unset, .unset, .unset, .unset, .unset, .unset] [])) _
  refine XS.bipush X108.here hx rfl (hb hby at_102) ?_
  show Steps p.tables e below (T108.setTop (mkF m 104 #[.val (.int p0), .val (.int p1), .val (.int p2), .val (.int p3), .val (.int cu), .val (.int d), .val (.int (1 : Int32)), .val (.int (((p2.toUInt32 >>> ((5 : Int32) &&& 31).toUInt32).toInt32) &&& (3 : Int32))), .val (.ref b101), .val (.ref b105), .unset, .unset, .unset, .unset, .unset, .unset, .unset, .unset, .unset, .unset] [(.int (8 : Int32))])) _
  refine st109 _ ?_
  show Steps p.tables e below (T109.setTop (mkF m 106 #[.val (.int p0), .val (.int p1), .val (.int p2), .val (.int p3), .val (.int cu), .val (.int d), .val (.int (1 : Int32)), .val (.int (((p2.toUInt32 >>> ((5 : Int32) &&& 31).toUInt32).toInt32) &&& (3 : Int32))), .val (.ref b101), .val (.ref b105), .unset, .unset, .unset, .unset, .unset, .unset, .unset, .unset, .unset, .unset] [(.ref b109)])) _
  refine XS.astore X109.here hx rfl (hb hby at_106) rfl rfl (l' := #[.val (.int p0), .val (.int p1), .val (.int p2), .val (.int p3), .val (.int cu), .val (.int d), .val (.int (1 : Int32)), .val (.int (((p2.toUInt32 >>> ((5 : Int32) &&& 31).toUInt32).toInt32) &&& (3 : Int32))), .val (.ref b101), .val (.ref b105), .val (.ref b109), .unset, .unset, .unset, .unset, .unset, .unset, .unset, .unset, .unset]) rfl ?_
  show Steps p.tables e below (T109.setTop (mkF m 108 #[.val (.int p0), .val (.int p1), .val (.int p2), .val (.int p3), .val (.int cu), .val (.int d), .val (.int (1 : Int32)), .val (.int (((p2.toUInt32 >>> ((5 : Int32) &&& 31).toUInt32).toInt32) &&& (3 : Int32))), .val (.ref b101), .val (.ref b105), .val (.ref b109), .unset, .unset, .unset, .unset, .unset, .unset, .unset, .unset, .unset] [])) _
  refine XS.iconst X109.here hx rfl (hb hby at_108) ?_
  show Steps p.tables e below (T109.setTop (mkF m 109 #[.val (.int p0), .val (.int p1), .val (.int p2), .val (.int p3), .val (.int cu), .val (.int d), .val (.int (1 : Int32)), .val (.int (((p2.toUInt32 >>> ((5 : Int32) &&& 31).toUInt32).toInt32) &&& (3 : Int32))), .val (.ref b101), .val (.ref b105), .val (.ref b109), .unset, .unset, .unset, .unset, .unset, .unset, .unset, .unset, .unset] [(.int (4 : Int32))])) _
  refine st112 _ ?_
  show Steps p.tables e below (T112.setTop (mkF m 111 #[.val (.int p0), .val (.int p1), .val (.int p2), .val (.int p3), .val (.int cu), .val (.int d), .val (.int (1 : Int32)), .val (.int (((p2.toUInt32 >>> ((5 : Int32) &&& 31).toUInt32).toInt32) &&& (3 : Int32))), .val (.ref b101), .val (.ref b105), .val (.ref b109), .unset, .unset, .unset, .unset, .unset, .unset, .unset, .unset, .unset] [(.ref b112)])) _
  refine XS.astore X112.here hx rfl (hb hby at_111) rfl rfl (l' := #[.val (.int p0), .val (.int p1), .val (.int p2), .val (.int p3), .val (.int cu), .val (.int d), .val (.int (1 : Int32)), .val (.int (((p2.toUInt32 >>> ((5 : Int32) &&& 31).toUInt32).toInt32) &&& (3 : Int32))), .val (.ref b101), .val (.ref b105), .val (.ref b109), .val (.ref b112), .unset, .unset, .unset, .unset, .unset, .unset, .unset, .unset]) rfl ?_
  show Steps p.tables e below (T112.setTop (mkF m 113 #[.val (.int p0), .val (.int p1), .val (.int p2), .val (.int p3), .val (.int cu), .val (.int d), .val (.int (1 : Int32)), .val (.int (((p2.toUInt32 >>> ((5 : Int32) &&& 31).toUInt32).toInt32) &&& (3 : Int32))), .val (.ref b101), .val (.ref b105), .val (.ref b109), .val (.ref b112), .unset, .unset, .unset, .unset, .unset, .unset, .unset, .unset] [])) _
  refine st115 _ ?_
  show Steps p.tables e below (T115.setTop (mkF m 116 #[.val (.int p0), .val (.int p1), .val (.int p2), .val (.int p3), .val (.int cu), .val (.int d), .val (.int (1 : Int32)), .val (.int (((p2.toUInt32 >>> ((5 : Int32) &&& 31).toUInt32).toInt32) &&& (3 : Int32))), .val (.ref b101), .val (.ref b105), .val (.ref b109), .val (.ref b112), .unset, .unset, .unset, .unset, .unset, .unset, .unset, .unset] [(.ref b115)])) _
  refine XS.dup X115.here hx rfl (hb hby at_116) rfl rfl ?_
  show Steps p.tables e below (T115.setTop (mkF m 117 #[.val (.int p0), .val (.int p1), .val (.int p2), .val (.int p3), .val (.int cu), .val (.int d), .val (.int (1 : Int32)), .val (.int (((p2.toUInt32 >>> ((5 : Int32) &&& 31).toUInt32).toInt32) &&& (3 : Int32))), .val (.ref b101), .val (.ref b105), .val (.ref b109), .val (.ref b112), .unset, .unset, .unset, .unset, .unset, .unset, .unset, .unset] [(.ref b115), (.ref b115)])) _
  refine st119.trans ?_
  show Steps p.tables e below (T119.setTop (mkF m 120 #[.val (.int p0), .val (.int p1), .val (.int p2), .val (.int p3), .val (.int cu), .val (.int d), .val (.int (1 : Int32)), .val (.int (((p2.toUInt32 >>> ((5 : Int32) &&& 31).toUInt32).toInt32) &&& (3 : Int32))), .val (.ref b101), .val (.ref b105), .val (.ref b109), .val (.ref b112), .unset, .unset, .unset, .unset, .unset, .unset, .unset, .unset] [(.ref b115)])) _
  refine XS.astore X119.here hx rfl (hb hby at_120) rfl rfl (l' := #[.val (.int p0), .val (.int p1), .val (.int p2), .val (.int p3), .val (.int cu), .val (.int d), .val (.int (1 : Int32)), .val (.int (((p2.toUInt32 >>> ((5 : Int32) &&& 31).toUInt32).toInt32) &&& (3 : Int32))), .val (.ref b101), .val (.ref b105), .val (.ref b109), .val (.ref b112), .val (.ref b115), .unset, .unset, .unset, .unset, .unset, .unset, .unset]) rfl ?_
  show Steps p.tables e below (T119.setTop (mkF m 122 #[.val (.int p0), .val (.int p1), .val (.int p2), .val (.int p3), .val (.int cu), .val (.int d), .val (.int (1 : Int32)), .val (.int (((p2.toUInt32 >>> ((5 : Int32) &&& 31).toUInt32).toInt32) &&& (3 : Int32))), .val (.ref b101), .val (.ref b105), .val (.ref b109), .val (.ref b112), .val (.ref b115), .unset, .unset, .unset, .unset, .unset, .unset, .unset] [])) _
  refine XS.aload X119.here hx rfl (hb hby at_122) rfl rfl ?_
  show Steps p.tables e below (T119.setTop (mkF m 124 #[.val (.int p0), .val (.int p1), .val (.int p2), .val (.int p3), .val (.int cu), .val (.int d), .val (.int (1 : Int32)), .val (.int (((p2.toUInt32 >>> ((5 : Int32) &&& 31).toUInt32).toInt32) &&& (3 : Int32))), .val (.ref b101), .val (.ref b105), .val (.ref b109), .val (.ref b112), .val (.ref b115), .unset, .unset, .unset, .unset, .unset, .unset, .unset] [(.ref b115)])) _
  refine XS.aload X119.here hx rfl (hb hby at_124) rfl rfl ?_
  show Steps p.tables e below (T119.setTop (mkF m 126 #[.val (.int p0), .val (.int p1), .val (.int p2), .val (.int p3), .val (.int cu), .val (.int d), .val (.int (1 : Int32)), .val (.int (((p2.toUInt32 >>> ((5 : Int32) &&& 31).toUInt32).toInt32) &&& (3 : Int32))), .val (.ref b101), .val (.ref b105), .val (.ref b109), .val (.ref b112), .val (.ref b115), .unset, .unset, .unset, .unset, .unset, .unset, .unset] [(.ref b101), (.ref b115)])) _
  refine XS.iconst X119.here hx rfl (hb hby at_126) ?_
  show Steps p.tables e below (T119.setTop (mkF m 127 #[.val (.int p0), .val (.int p1), .val (.int p2), .val (.int p3), .val (.int cu), .val (.int d), .val (.int (1 : Int32)), .val (.int (((p2.toUInt32 >>> ((5 : Int32) &&& 31).toUInt32).toInt32) &&& (3 : Int32))), .val (.ref b101), .val (.ref b105), .val (.ref b109), .val (.ref b112), .val (.ref b115), .unset, .unset, .unset, .unset, .unset, .unset, .unset] [(.int (0 : Int32)), (.ref b101), (.ref b115)])) _
  refine XS.aload X119.here hx rfl (hb hby at_127) rfl rfl ?_
  show Steps p.tables e below (T119.setTop (mkF m 129 #[.val (.int p0), .val (.int p1), .val (.int p2), .val (.int p3), .val (.int cu), .val (.int d), .val (.int (1 : Int32)), .val (.int (((p2.toUInt32 >>> ((5 : Int32) &&& 31).toUInt32).toInt32) &&& (3 : Int32))), .val (.ref b101), .val (.ref b105), .val (.ref b109), .val (.ref b112), .val (.ref b115), .unset, .unset, .unset, .unset, .unset, .unset, .unset] [(.ref b101), (.int (0 : Int32)), (.ref b101), (.ref b115)])) _
  refine own_len X119 hx hZ rfl f120 (z := (3 : Int32)) rfl (g := (mkF m 129 #[.val (.int p0), .val (.int p1), .val (.int p2), .val (.int p3), .val (.int cu), .val (.int d), .val (.int (1 : Int32)), .val (.int (((p2.toUInt32 >>> ((5 : Int32) &&& 31).toUInt32).toInt32) &&& (3 : Int32))), .val (.ref b101), .val (.ref b105), .val (.ref b109), .val (.ref b112), .val (.ref b115), .unset, .unset, .unset, .unset, .unset, .unset, .unset] [(.ref b101), (.int (0 : Int32)), (.ref b101), (.ref b115)])) rfl rfl (hb hby at_129) _ ?_
  show Steps p.tables e below (T119.setTop (mkF m 130 #[.val (.int p0), .val (.int p1), .val (.int p2), .val (.int p3), .val (.int cu), .val (.int d), .val (.int (1 : Int32)), .val (.int (((p2.toUInt32 >>> ((5 : Int32) &&& 31).toUInt32).toInt32) &&& (3 : Int32))), .val (.ref b101), .val (.ref b105), .val (.ref b109), .val (.ref b112), .val (.ref b115), .unset, .unset, .unset, .unset, .unset, .unset, .unset] [(.int (3 : Int32)), (.int (0 : Int32)), (.ref b101), (.ref b115)])) _
  refine XS.aload X119.here hx rfl (hb hby at_130) rfl rfl ?_
  show Steps p.tables e below (T119.setTop (mkF m 132 #[.val (.int p0), .val (.int p1), .val (.int p2), .val (.int p3), .val (.int cu), .val (.int d), .val (.int (1 : Int32)), .val (.int (((p2.toUInt32 >>> ((5 : Int32) &&& 31).toUInt32).toInt32) &&& (3 : Int32))), .val (.ref b101), .val (.ref b105), .val (.ref b109), .val (.ref b112), .val (.ref b115), .unset, .unset, .unset, .unset, .unset, .unset, .unset] [(.ref b109), (.int (3 : Int32)), (.int (0 : Int32)), (.ref b101), (.ref b115)])) _
  refine XS.iconst X119.here hx rfl (hb hby at_132) ?_
  show Steps p.tables e below (T119.setTop (mkF m 133 #[.val (.int p0), .val (.int p1), .val (.int p2), .val (.int p3), .val (.int cu), .val (.int d), .val (.int (1 : Int32)), .val (.int (((p2.toUInt32 >>> ((5 : Int32) &&& 31).toUInt32).toInt32) &&& (3 : Int32))), .val (.ref b101), .val (.ref b105), .val (.ref b109), .val (.ref b112), .val (.ref b115), .unset, .unset, .unset, .unset, .unset, .unset, .unset] [(.int (0 : Int32)), (.ref b109), (.int (3 : Int32)), (.int (0 : Int32)), (.ref b101), (.ref b115)])) _
  refine st122.trans ?_
  show Steps p.tables e below (T122.setTop (mkF m 136 #[.val (.int p0), .val (.int p1), .val (.int p2), .val (.int p3), .val (.int cu), .val (.int d), .val (.int (1 : Int32)), .val (.int (((p2.toUInt32 >>> ((5 : Int32) &&& 31).toUInt32).toInt32) &&& (3 : Int32))), .val (.ref b101), .val (.ref b105), .val (.ref b109), .val (.ref b112), .val (.ref b115), .unset, .unset, .unset, .unset, .unset, .unset, .unset] [(.int (1 : Int32))])) _
  refine XS.istore X122.here hx rfl (hb hby at_136) rfl (l' := #[.val (.int p0), .val (.int p1), .val (.int p2), .val (.int p3), .val (.int cu), .val (.int d), .val (.int (1 : Int32)), .val (.int (((p2.toUInt32 >>> ((5 : Int32) &&& 31).toUInt32).toInt32) &&& (3 : Int32))), .val (.ref b101), .val (.ref b105), .val (.ref b109), .val (.ref b112), .val (.ref b115), .val (.int (1 : Int32)), .unset, .unset, .unset, .unset, .unset, .unset]) rfl ?_
  show Steps p.tables e below (T122.setTop (mkF m 138 #[.val (.int p0), .val (.int p1), .val (.int p2), .val (.int p3), .val (.int cu), .val (.int d), .val (.int (1 : Int32)), .val (.int (((p2.toUInt32 >>> ((5 : Int32) &&& 31).toUInt32).toInt32) &&& (3 : Int32))), .val (.ref b101), .val (.ref b105), .val (.ref b109), .val (.ref b112), .val (.ref b115), .val (.int (1 : Int32)), .unset, .unset, .unset, .unset, .unset, .unset] [])) _
  refine XS.iload X122.here hx rfl (hb hby at_138) rfl ?_
  show Steps p.tables e below (T122.setTop (mkF m 140 #[.val (.int p0), .val (.int p1), .val (.int p2), .val (.int p3), .val (.int cu), .val (.int d), .val (.int (1 : Int32)), .val (.int (((p2.toUInt32 >>> ((5 : Int32) &&& 31).toUInt32).toInt32) &&& (3 : Int32))), .val (.ref b101), .val (.ref b105), .val (.ref b109), .val (.ref b112), .val (.ref b115), .val (.int (1 : Int32)), .unset, .unset, .unset, .unset, .unset, .unset] [(.int cu)])) _
  refine st123 _ ?_
  show Steps p.tables e below (T123.setTop (mkF m 143 #[.val (.int p0), .val (.int p1), .val (.int p2), .val (.int p3), .val (.int cu), .val (.int d), .val (.int (1 : Int32)), .val (.int (((p2.toUInt32 >>> ((5 : Int32) &&& 31).toUInt32).toInt32) &&& (3 : Int32))), .val (.ref b101), .val (.ref b105), .val (.ref b109), .val (.ref b112), .val (.ref b115), .val (.int (1 : Int32)), .unset, .unset, .unset, .unset, .unset, .unset] [(.int (0 : Int32))])) _
  refine XS.istore X123.here hx rfl (hb hby at_143) rfl (l' := #[.val (.int p0), .val (.int p1), .val (.int p2), .val (.int p3), .val (.int cu), .val (.int d), .val (.int (1 : Int32)), .val (.int (((p2.toUInt32 >>> ((5 : Int32) &&& 31).toUInt32).toInt32) &&& (3 : Int32))), .val (.ref b101), .val (.ref b105), .val (.ref b109), .val (.ref b112), .val (.ref b115), .val (.int (1 : Int32)), .val (.int (0 : Int32)), .unset, .unset, .unset, .unset, .unset]) rfl ?_
  show Steps p.tables e below (T123.setTop (mkF m 145 #[.val (.int p0), .val (.int p1), .val (.int p2), .val (.int p3), .val (.int cu), .val (.int d), .val (.int (1 : Int32)), .val (.int (((p2.toUInt32 >>> ((5 : Int32) &&& 31).toUInt32).toInt32) &&& (3 : Int32))), .val (.ref b101), .val (.ref b105), .val (.ref b109), .val (.ref b112), .val (.ref b115), .val (.int (1 : Int32)), .val (.int (0 : Int32)), .unset, .unset, .unset, .unset, .unset] [])) _
  refine XS.iload X123.here hx rfl (hb hby at_145) rfl ?_
  show Steps p.tables e below (T123.setTop (mkF m 147 #[.val (.int p0), .val (.int p1), .val (.int p2), .val (.int p3), .val (.int cu), .val (.int d), .val (.int (1 : Int32)), .val (.int (((p2.toUInt32 >>> ((5 : Int32) &&& 31).toUInt32).toInt32) &&& (3 : Int32))), .val (.ref b101), .val (.ref b105), .val (.ref b109), .val (.ref b112), .val (.ref b115), .val (.int (1 : Int32)), .val (.int (0 : Int32)), .unset, .unset, .unset, .unset, .unset] [(.int (1 : Int32))])) _
  refine XS.iload X123.here hx rfl (hb hby at_147) rfl ?_
  show Steps p.tables e below (T123.setTop (mkF m 149 #[.val (.int p0), .val (.int p1), .val (.int p2), .val (.int p3), .val (.int cu), .val (.int d), .val (.int (1 : Int32)), .val (.int (((p2.toUInt32 >>> ((5 : Int32) &&& 31).toUInt32).toInt32) &&& (3 : Int32))), .val (.ref b101), .val (.ref b105), .val (.ref b109), .val (.ref b112), .val (.ref b115), .val (.int (1 : Int32)), .val (.int (0 : Int32)), .unset, .unset, .unset, .unset, .unset] [(.int (0 : Int32)), (.int (1 : Int32))])) _
  refine XS.ifYes X123.here hx rfl (pc0 := 149) (pc' := 156) rfl (hb hby at_149) rfl ((if0 _ _).trans (teq rfl).1) (by decide) (by decide) ?_
  show Steps p.tables e below (T123.setTop (mkF m 156 #[.val (.int p0), .val (.int p1), .val (.int p2), .val (.int p3), .val (.int cu), .val (.int d), .val (.int (1 : Int32)), .val (.int (((p2.toUInt32 >>> ((5 : Int32) &&& 31).toUInt32).toInt32) &&& (3 : Int32))), .val (.ref b101), .val (.ref b105), .val (.ref b109), .val (.ref b112), .val (.ref b115), .val (.int (1 : Int32)), .val (.int (0 : Int32)), .unset, .unset, .unset, .unset, .unset] [(.int (1 : Int32))])) _
  refine XS.iconst X123.here hx rfl (hb hby at_156) ?_
  show Steps p.tables e below (T123.setTop (mkF m 157 #[.val (.int p0), .val (.int p1), .val (.int p2), .val (.int p3), .val (.int cu), .val (.int d), .val (.int (1 : Int32)), .val (.int (((p2.toUInt32 >>> ((5 : Int32) &&& 31).toUInt32).toInt32) &&& (3 : Int32))), .val (.ref b101), .val (.ref b105), .val (.ref b109), .val (.ref b112), .val (.ref b115), .val (.int (1 : Int32)), .val (.int (0 : Int32)), .unset, .unset, .unset, .unset, .unset] [(.int (1 : Int32)), (.int (1 : Int32))])) _
  refine XS.icmpNo X123.here hx rfl (hb hby at_157) rfl (teq rfl).2 ?_
  show Steps p.tables e below (T123.setTop (mkF m 160 #[.val (.int p0), .val (.int p1), .val (.int p2), .val (.int p3), .val (.int cu), .val (.int d), .val (.int (1 : Int32)), .val (.int (((p2.toUInt32 >>> ((5 : Int32) &&& 31).toUInt32).toInt32) &&& (3 : Int32))), .val (.ref b101), .val (.ref b105), .val (.ref b109), .val (.ref b112), .val (.ref b115), .val (.int (1 : Int32)), .val (.int (0 : Int32)), .unset, .unset, .unset, .unset, .unset] [])) _
  refine XS.iconst X123.here hx rfl (hb hby at_160) ?_
  show Steps p.tables e below (T123.setTop (mkF m 161 #[.val (.int p0), .val (.int p1), .val (.int p2), .val (.int p3), .val (.int cu), .val (.int d), .val (.int (1 : Int32)), .val (.int (((p2.toUInt32 >>> ((5 : Int32) &&& 31).toUInt32).toInt32) &&& (3 : Int32))), .val (.ref b101), .val (.ref b105), .val (.ref b109), .val (.ref b112), .val (.ref b115), .val (.int (1 : Int32)), .val (.int (0 : Int32)), .unset, .unset, .unset, .unset, .unset] [(.int (1 : Int32))])) _
  refine XS.goto X123.here hx rfl (pc0 := 161) (pc' := 165) rfl (hb hby at_161) (by decide) (by decide) ?_
  show Steps p.tables e below (T123.setTop (mkF m 165 #[.val (.int p0), .val (.int p1), .val (.int p2), .val (.int p3), .val (.int cu), .val (.int d), .val (.int (1 : Int32)), .val (.int (((p2.toUInt32 >>> ((5 : Int32) &&& 31).toUInt32).toInt32) &&& (3 : Int32))), .val (.ref b101), .val (.ref b105), .val (.ref b109), .val (.ref b112), .val (.ref b115), .val (.int (1 : Int32)), .val (.int (0 : Int32)), .unset, .unset, .unset, .unset, .unset] [(.int (1 : Int32))])) _
  refine XS.istore X123.here hx rfl (hb hby at_165) rfl (l' := #[.val (.int p0), .val (.int p1), .val (.int p2), .val (.int p3), .val (.int cu), .val (.int d), .val (.int (1 : Int32)), .val (.int (((p2.toUInt32 >>> ((5 : Int32) &&& 31).toUInt32).toInt32) &&& (3 : Int32))), .val (.ref b101), .val (.ref b105), .val (.ref b109), .val (.ref b112), .val (.ref b115), .val (.int (1 : Int32)), .val (.int (0 : Int32)), .val (.int (1 : Int32)), .unset, .unset, .unset, .unset]) rfl ?_
  show Steps p.tables e below (T123.setTop (mkF m 167 #[.val (.int p0), .val (.int p1), .val (.int p2), .val (.int p3), .val (.int cu), .val (.int d), .val (.int (1 : Int32)), .val (.int (((p2.toUInt32 >>> ((5 : Int32) &&& 31).toUInt32).toInt32) &&& (3 : Int32))), .val (.ref b101), .val (.ref b105), .val (.ref b109), .val (.ref b112), .val (.ref b115), .val (.int (1 : Int32)), .val (.int (0 : Int32)), .val (.int (1 : Int32)), .unset, .unset, .unset, .unset] [])) _
  refine XS.iload X123.here hx rfl (hb hby at_167) rfl ?_
  show Steps p.tables e below (T123.setTop (mkF m 169 #[.val (.int p0), .val (.int p1), .val (.int p2), .val (.int p3), .val (.int cu), .val (.int d), .val (.int (1 : Int32)), .val (.int (((p2.toUInt32 >>> ((5 : Int32) &&& 31).toUInt32).toInt32) &&& (3 : Int32))), .val (.ref b101), .val (.ref b105), .val (.ref b109), .val (.ref b112), .val (.ref b115), .val (.int (1 : Int32)), .val (.int (0 : Int32)), .val (.int (1 : Int32)), .unset, .unset, .unset, .unset] [(.int (1 : Int32))])) _
  refine XS.iload X123.here hx rfl (hb hby at_169) rfl ?_
  show Steps p.tables e below (T123.setTop (mkF m 171 #[.val (.int p0), .val (.int p1), .val (.int p2), .val (.int p3), .val (.int cu), .val (.int d), .val (.int (1 : Int32)), .val (.int (((p2.toUInt32 >>> ((5 : Int32) &&& 31).toUInt32).toInt32) &&& (3 : Int32))), .val (.ref b101), .val (.ref b105), .val (.ref b109), .val (.ref b112), .val (.ref b115), .val (.int (1 : Int32)), .val (.int (0 : Int32)), .val (.int (1 : Int32)), .unset, .unset, .unset, .unset] [(.int (((p2.toUInt32 >>> ((5 : Int32) &&& 31).toUInt32).toInt32) &&& (3 : Int32))), (.int (1 : Int32))])) _
  refine XS.iadd X123.here hx rfl (hb hby at_171) rfl ?_
  show Steps p.tables e below (T123.setTop (mkF m 172 #[.val (.int p0), .val (.int p1), .val (.int p2), .val (.int p3), .val (.int cu), .val (.int d), .val (.int (1 : Int32)), .val (.int (((p2.toUInt32 >>> ((5 : Int32) &&& 31).toUInt32).toInt32) &&& (3 : Int32))), .val (.ref b101), .val (.ref b105), .val (.ref b109), .val (.ref b112), .val (.ref b115), .val (.int (1 : Int32)), .val (.int (0 : Int32)), .val (.int (1 : Int32)), .unset, .unset, .unset, .unset] [(.int ((1 : Int32) + (((p2.toUInt32 >>> ((5 : Int32) &&& 31).toUInt32).toInt32) &&& (3 : Int32))))])) _
  rw [← hv_aa]
  show Steps p.tables e below (T123.setTop (mkF m 172 #[.val (.int p0), .val (.int p1), .val (.int p2), .val (.int p3), .val (.int cu), .val (.int d), .val (.int (1 : Int32)), .val (.int (((p2.toUInt32 >>> ((5 : Int32) &&& 31).toUInt32).toInt32) &&& (3 : Int32))), .val (.ref b101), .val (.ref b105), .val (.ref b109), .val (.ref b112), .val (.ref b115), .val (.int (1 : Int32)), .val (.int (0 : Int32)), .val (.int (1 : Int32)), .unset, .unset, .unset, .unset] [(.int aa)])) _
  refine XS.istore X123.here hx rfl (hb hby at_172) rfl (l' := #[.val (.int p0), .val (.int p1), .val (.int p2), .val (.int p3), .val (.int cu), .val (.int d), .val (.int (1 : Int32)), .val (.int (((p2.toUInt32 >>> ((5 : Int32) &&& 31).toUInt32).toInt32) &&& (3 : Int32))), .val (.ref b101), .val (.ref b105), .val (.ref b109), .val (.ref b112), .val (.ref b115), .val (.int (1 : Int32)), .val (.int (0 : Int32)), .val (.int (1 : Int32)), .val (.int aa), .unset, .unset, .unset]) rfl ?_
  show Steps p.tables e below (T123.setTop (mkF m 174 #[.val (.int p0), .val (.int p1), .val (.int p2), .val (.int p3), .val (.int cu), .val (.int d), .val (.int (1 : Int32)), .val (.int (((p2.toUInt32 >>> ((5 : Int32) &&& 31).toUInt32).toInt32) &&& (3 : Int32))), .val (.ref b101), .val (.ref b105), .val (.ref b109), .val (.ref b112), .val (.ref b115), .val (.int (1 : Int32)), .val (.int (0 : Int32)), .val (.int (1 : Int32)), .val (.int aa), .unset, .unset, .unset] [])) _
  refine XS.aload X123.here hx rfl (hb hby at_174) rfl rfl ?_
  show Steps p.tables e below (T123.setTop (mkF m 176 #[.val (.int p0), .val (.int p1), .val (.int p2), .val (.int p3), .val (.int cu), .val (.int d), .val (.int (1 : Int32)), .val (.int (((p2.toUInt32 >>> ((5 : Int32) &&& 31).toUInt32).toInt32) &&& (3 : Int32))), .val (.ref b101), .val (.ref b105), .val (.ref b109), .val (.ref b112), .val (.ref b115), .val (.int (1 : Int32)), .val (.int (0 : Int32)), .val (.int (1 : Int32)), .val (.int aa), .unset, .unset, .unset] [(.ref b115)])) _
  refine XS.aload X123.here hx rfl (hb hby at_176) rfl rfl ?_
  show Steps p.tables e below (T123.setTop (mkF m 178 #[.val (.int p0), .val (.int p1), .val (.int p2), .val (.int p3), .val (.int cu), .val (.int d), .val (.int (1 : Int32)), .val (.int (((p2.toUInt32 >>> ((5 : Int32) &&& 31).toUInt32).toInt32) &&& (3 : Int32))), .val (.ref b101), .val (.ref b105), .val (.ref b109), .val (.ref b112), .val (.ref b115), .val (.int (1 : Int32)), .val (.int (0 : Int32)), .val (.int (1 : Int32)), .val (.int aa), .unset, .unset, .unset] [(.ref b109), (.ref b115)])) _
  refine XS.iload X123.here hx rfl (hb hby at_178) rfl ?_
  show Steps p.tables e below (T123.setTop (mkF m 180 #[.val (.int p0), .val (.int p1), .val (.int p2), .val (.int p3), .val (.int cu), .val (.int d), .val (.int (1 : Int32)), .val (.int (((p2.toUInt32 >>> ((5 : Int32) &&& 31).toUInt32).toInt32) &&& (3 : Int32))), .val (.ref b101), .val (.ref b105), .val (.ref b109), .val (.ref b112), .val (.ref b115), .val (.int (1 : Int32)), .val (.int (0 : Int32)), .val (.int (1 : Int32)), .val (.int aa), .unset, .unset, .unset] [(.int aa), (.ref b109), (.ref b115)])) _
  refine st124.trans ?_
  show Steps p.tables e below (T124.setTop (mkF m 183 #[.val (.int p0), .val (.int p1), .val (.int p2), .val (.int p3), .val (.int cu), .val (.int d), .val (.int (1 : Int32)), .val (.int (((p2.toUInt32 >>> ((5 : Int32) &&& 31).toUInt32).toInt32) &&& (3 : Int32))), .val (.ref b101), .val (.ref b105), .val (.ref b109), .val (.ref b112), .val (.ref b115), .val (.int (1 : Int32)), .val (.int (0 : Int32)), .val (.int (1 : Int32)), .val (.int aa), .unset, .unset, .unset] [(.int aa)])) _
  refine XS.istore X124.here hx rfl (hb hby at_183) rfl (l' := #[.val (.int p0), .val (.int p1), .val (.int p2), .val (.int p3), .val (.int cu), .val (.int d), .val (.int (1 : Int32)), .val (.int (((p2.toUInt32 >>> ((5 : Int32) &&& 31).toUInt32).toInt32) &&& (3 : Int32))), .val (.ref b101), .val (.ref b105), .val (.ref b109), .val (.ref b112), .val (.ref b115), .val (.int (1 : Int32)), .val (.int (0 : Int32)), .val (.int (1 : Int32)), .val (.int aa), .val (.int aa), .unset, .unset]) rfl ?_
  show Steps p.tables e below (T124.setTop (mkF m 185 #[.val (.int p0), .val (.int p1), .val (.int p2), .val (.int p3), .val (.int cu), .val (.int d), .val (.int (1 : Int32)), .val (.int (((p2.toUInt32 >>> ((5 : Int32) &&& 31).toUInt32).toInt32) &&& (3 : Int32))), .val (.ref b101), .val (.ref b105), .val (.ref b109), .val (.ref b112), .val (.ref b115), .val (.int (1 : Int32)), .val (.int (0 : Int32)), .val (.int (1 : Int32)), .val (.int aa), .val (.int aa), .unset, .unset] [])) _
  refine XS.iload X124.here hx rfl (hb hby at_185) rfl ?_
  show Steps p.tables e below (T124.setTop (mkF m 187 #[.val (.int p0), .val (.int p1), .val (.int p2), .val (.int p3), .val (.int cu), .val (.int d), .val (.int (1 : Int32)), .val (.int (((p2.toUInt32 >>> ((5 : Int32) &&& 31).toUInt32).toInt32) &&& (3 : Int32))), .val (.ref b101), .val (.ref b105), .val (.ref b109), .val (.ref b112), .val (.ref b115), .val (.int (1 : Int32)), .val (.int (0 : Int32)), .val (.int (1 : Int32)), .val (.int aa), .val (.int aa), .unset, .unset] [(.int (0 : Int32))])) _
  refine XS.ifYes X124.here hx rfl (pc0 := 187) (pc' := 224) rfl (hb hby at_187) rfl ((if0 _ _).trans (teq rfl).1) (by decide) (by decide) ?_
  show Steps p.tables e below (T124.setTop (mkF m 224 #[.val (.int p0), .val (.int p1), .val (.int p2), .val (.int p3), .val (.int cu), .val (.int d), .val (.int (1 : Int32)), .val (.int (((p2.toUInt32 >>> ((5 : Int32) &&& 31).toUInt32).toInt32) &&& (3 : Int32))), .val (.ref b101), .val (.ref b105), .val (.ref b109), .val (.ref b112), .val (.ref b115), .val (.int (1 : Int32)), .val (.int (0 : Int32)), .val (.int (1 : Int32)), .val (.int aa), .val (.int aa), .unset, .unset] [])) _
  refine XS.iload X124.here hx rfl (hb hby at_224) rfl ?_
  show Steps p.tables e below (T124.setTop (mkF m 226 #[.val (.int p0), .val (.int p1), .val (.int p2), .val (.int p3), .val (.int cu), .val (.int d), .val (.int (1 : Int32)), .val (.int (((p2.toUInt32 >>> ((5 : Int32) &&& 31).toUInt32).toInt32) &&& (3 : Int32))), .val (.ref b101), .val (.ref b105), .val (.ref b109), .val (.ref b112), .val (.ref b115), .val (.int (1 : Int32)), .val (.int (0 : Int32)), .val (.int (1 : Int32)), .val (.int aa), .val (.int aa), .unset, .unset] [(.int (1 : Int32))])) _
  refine XS.ifNo X124.here hx rfl (hb hby at_226) rfl ((if0 _ _).trans (feq (by decide : ¬ (1 : Int32) = (0 : Int32))).1) ?_
  show Steps p.tables e below (T124.setTop (mkF m 229 #[.val (.int p0), .val (.int p1), .val (.int p2), .val (.int p3), .val (.int cu), .val (.int d), .val (.int (1 : Int32)), .val (.int (((p2.toUInt32 >>> ((5 : Int32) &&& 31).toUInt32).toInt32) &&& (3 : Int32))), .val (.ref b101), .val (.ref b105), .val (.ref b109), .val (.ref b112), .val (.ref b115), .val (.int (1 : Int32)), .val (.int (0 : Int32)), .val (.int (1 : Int32)), .val (.int aa), .val (.int aa), .unset, .unset] [])) _
  refine XS.iload X124.here hx rfl (hb hby at_229) rfl ?_
  show Steps p.tables e below (T124.setTop (mkF m 231 #[.val (.int p0), .val (.int p1), .val (.int p2), .val (.int p3), .val (.int cu), .val (.int d), .val (.int (1 : Int32)), .val (.int (((p2.toUInt32 >>> ((5 : Int32) &&& 31).toUInt32).toInt32) &&& (3 : Int32))), .val (.ref b101), .val (.ref b105), .val (.ref b109), .val (.ref b112), .val (.ref b115), .val (.int (1 : Int32)), .val (.int (0 : Int32)), .val (.int (1 : Int32)), .val (.int aa), .val (.int aa), .unset, .unset] [(.int aa)])) _
  refine XS.iload X124.here hx rfl (hb hby at_231) rfl ?_
  show Steps p.tables e below (T124.setTop (mkF m 233 #[.val (.int p0), .val (.int p1), .val (.int p2), .val (.int p3), .val (.int cu), .val (.int d), .val (.int (1 : Int32)), .val (.int (((p2.toUInt32 >>> ((5 : Int32) &&& 31).toUInt32).toInt32) &&& (3 : Int32))), .val (.ref b101), .val (.ref b105), .val (.ref b109), .val (.ref b112), .val (.ref b115), .val (.int (1 : Int32)), .val (.int (0 : Int32)), .val (.int (1 : Int32)), .val (.int aa), .val (.int aa), .unset, .unset] [(.int aa), (.int aa)])) _
  refine XS.icmpNo X124.here hx rfl (hb hby at_233) rfl (teq rfl).2 ?_
  show Steps p.tables e below (T124.setTop (mkF m 236 #[.val (.int p0), .val (.int p1), .val (.int p2), .val (.int p3), .val (.int cu), .val (.int d), .val (.int (1 : Int32)), .val (.int (((p2.toUInt32 >>> ((5 : Int32) &&& 31).toUInt32).toInt32) &&& (3 : Int32))), .val (.ref b101), .val (.ref b105), .val (.ref b109), .val (.ref b112), .val (.ref b115), .val (.int (1 : Int32)), .val (.int (0 : Int32)), .val (.int (1 : Int32)), .val (.int aa), .val (.int aa), .unset, .unset] [])) _
  refine XS.aload X124.here hx rfl (hb hby at_236) rfl rfl ?_
  show Steps p.tables e below (T124.setTop (mkF m 238 #[.val (.int p0), .val (.int p1), .val (.int p2), .val (.int p3), .val (.int cu), .val (.int d), .val (.int (1 : Int32)), .val (.int (((p2.toUInt32 >>> ((5 : Int32) &&& 31).toUInt32).toInt32) &&& (3 : Int32))), .val (.ref b101), .val (.ref b105), .val (.ref b109), .val (.ref b112), .val (.ref b115), .val (.int (1 : Int32)), .val (.int (0 : Int32)), .val (.int (1 : Int32)), .val (.int aa), .val (.int aa), .unset, .unset] [(.ref b109)])) _
  refine XS.iload X124.here hx rfl (hb hby at_238) rfl ?_
  show Steps p.tables e below (T124.setTop (mkF m 240 #[.val (.int p0), .val (.int p1), .val (.int p2), .val (.int p3), .val (.int cu), .val (.int d), .val (.int (1 : Int32)), .val (.int (((p2.toUInt32 >>> ((5 : Int32) &&& 31).toUInt32).toInt32) &&& (3 : Int32))), .val (.ref b101), .val (.ref b105), .val (.ref b109), .val (.ref b112), .val (.ref b115), .val (.int (1 : Int32)), .val (.int (0 : Int32)), .val (.int (1 : Int32)), .val (.int aa), .val (.int aa), .unset, .unset] [(.int aa), (.ref b109)])) _
  refine own_ldC X124 hx hZ rfl At124 (j := aa) k hj hk (by omega) (v := (.int (0 : Int32))) (own_off _ _ (by omega)) (g := (mkF m 240 #[.val (.int p0), .val (.int p1), .val (.int p2), .val (.int p3), .val (.int cu), .val (.int d), .val (.int (1 : Int32)), .val (.int (((p2.toUInt32 >>> ((5 : Int32) &&& 31).toUInt32).toInt32) &&& (3 : Int32))), .val (.ref b101), .val (.ref b105), .val (.ref b109), .val (.ref b112), .val (.ref b115), .val (.int (1 : Int32)), .val (.int (0 : Int32)), .val (.int (1 : Int32)), .val (.int aa), .val (.int aa), .unset, .unset] [(.int aa), (.ref b109)])) rfl rfl (hb hby at_240) _ ?_
  show Steps p.tables e below (T124.setTop (mkF m 241 #[.val (.int p0), .val (.int p1), .val (.int p2), .val (.int p3), .val (.int cu), .val (.int d), .val (.int (1 : Int32)), .val (.int (((p2.toUInt32 >>> ((5 : Int32) &&& 31).toUInt32).toInt32) &&& (3 : Int32))), .val (.ref b101), .val (.ref b105), .val (.ref b109), .val (.ref b112), .val (.ref b115), .val (.int (1 : Int32)), .val (.int (0 : Int32)), .val (.int (1 : Int32)), .val (.int aa), .val (.int aa), .unset, .unset] [(.int (0 : Int32))])) _
  refine XS.ifNo X124.here hx rfl (hb hby at_241) rfl ((if0 _ _).trans (teq rfl).2) ?_
  show Steps p.tables e below (T124.setTop (mkF m 244 #[.val (.int p0), .val (.int p1), .val (.int p2), .val (.int p3), .val (.int cu), .val (.int d), .val (.int (1 : Int32)), .val (.int (((p2.toUInt32 >>> ((5 : Int32) &&& 31).toUInt32).toInt32) &&& (3 : Int32))), .val (.ref b101), .val (.ref b105), .val (.ref b109), .val (.ref b112), .val (.ref b115), .val (.int (1 : Int32)), .val (.int (0 : Int32)), .val (.int (1 : Int32)), .val (.int aa), .val (.int aa), .unset, .unset] [])) _
  refine XS.iconst X124.here hx rfl (hb hby at_244) ?_
  show Steps p.tables e below (T124.setTop (mkF m 245 #[.val (.int p0), .val (.int p1), .val (.int p2), .val (.int p3), .val (.int cu), .val (.int d), .val (.int (1 : Int32)), .val (.int (((p2.toUInt32 >>> ((5 : Int32) &&& 31).toUInt32).toInt32) &&& (3 : Int32))), .val (.ref b101), .val (.ref b105), .val (.ref b109), .val (.ref b112), .val (.ref b115), .val (.int (1 : Int32)), .val (.int (0 : Int32)), .val (.int (1 : Int32)), .val (.int aa), .val (.int aa), .unset, .unset] [(.int (1 : Int32))])) _
  refine XS.goto X124.here hx rfl (pc0 := 245) (pc' := 249) rfl (hb hby at_245) (by decide) (by decide) ?_
  show Steps p.tables e below (T124.setTop (mkF m 249 #[.val (.int p0), .val (.int p1), .val (.int p2), .val (.int p3), .val (.int cu), .val (.int d), .val (.int (1 : Int32)), .val (.int (((p2.toUInt32 >>> ((5 : Int32) &&& 31).toUInt32).toInt32) &&& (3 : Int32))), .val (.ref b101), .val (.ref b105), .val (.ref b109), .val (.ref b112), .val (.ref b115), .val (.int (1 : Int32)), .val (.int (0 : Int32)), .val (.int (1 : Int32)), .val (.int aa), .val (.int aa), .unset, .unset] [(.int (1 : Int32))])) _
  refine XS.istore X124.here hx rfl (hb hby at_249) rfl (l' := #[.val (.int p0), .val (.int p1), .val (.int p2), .val (.int p3), .val (.int cu), .val (.int d), .val (.int (1 : Int32)), .val (.int (((p2.toUInt32 >>> ((5 : Int32) &&& 31).toUInt32).toInt32) &&& (3 : Int32))), .val (.ref b101), .val (.ref b105), .val (.ref b109), .val (.ref b112), .val (.ref b115), .val (.int (1 : Int32)), .val (.int (0 : Int32)), .val (.int (1 : Int32)), .val (.int aa), .val (.int aa), .unset, .unset]) rfl ?_
  show Steps p.tables e below (T124.setTop (mkF m 251 #[.val (.int p0), .val (.int p1), .val (.int p2), .val (.int p3), .val (.int cu), .val (.int d), .val (.int (1 : Int32)), .val (.int (((p2.toUInt32 >>> ((5 : Int32) &&& 31).toUInt32).toInt32) &&& (3 : Int32))), .val (.ref b101), .val (.ref b105), .val (.ref b109), .val (.ref b112), .val (.ref b115), .val (.int (1 : Int32)), .val (.int (0 : Int32)), .val (.int (1 : Int32)), .val (.int aa), .val (.int aa), .unset, .unset] [])) _
  refine XS.iload X124.here hx rfl (hb hby at_251) rfl ?_
  show Steps p.tables e below (T124.setTop (mkF m 253 #[.val (.int p0), .val (.int p1), .val (.int p2), .val (.int p3), .val (.int cu), .val (.int d), .val (.int (1 : Int32)), .val (.int (((p2.toUInt32 >>> ((5 : Int32) &&& 31).toUInt32).toInt32) &&& (3 : Int32))), .val (.ref b101), .val (.ref b105), .val (.ref b109), .val (.ref b112), .val (.ref b115), .val (.int (1 : Int32)), .val (.int (0 : Int32)), .val (.int (1 : Int32)), .val (.int aa), .val (.int aa), .unset, .unset] [(.int (1 : Int32))])) _
  refine XS.ifNo X124.here hx rfl (hb hby at_253) rfl ((if0 _ _).trans (feq (by decide : ¬ (1 : Int32) = (0 : Int32))).1) ?_
  show Steps p.tables e below (T124.setTop (mkF m 256 #[.val (.int p0), .val (.int p1), .val (.int p2), .val (.int p3), .val (.int cu), .val (.int d), .val (.int (1 : Int32)), .val (.int (((p2.toUInt32 >>> ((5 : Int32) &&& 31).toUInt32).toInt32) &&& (3 : Int32))), .val (.ref b101), .val (.ref b105), .val (.ref b109), .val (.ref b112), .val (.ref b115), .val (.int (1 : Int32)), .val (.int (0 : Int32)), .val (.int (1 : Int32)), .val (.int aa), .val (.int aa), .unset, .unset] [])) _
  refine XS.aload X124.here hx rfl (hb hby at_256) rfl rfl ?_
  show Steps p.tables e below (T124.setTop (mkF m 258 #[.val (.int p0), .val (.int p1), .val (.int p2), .val (.int p3), .val (.int cu), .val (.int d), .val (.int (1 : Int32)), .val (.int (((p2.toUInt32 >>> ((5 : Int32) &&& 31).toUInt32).toInt32) &&& (3 : Int32))), .val (.ref b101), .val (.ref b105), .val (.ref b109), .val (.ref b112), .val (.ref b115), .val (.int (1 : Int32)), .val (.int (0 : Int32)), .val (.int (1 : Int32)), .val (.int aa), .val (.int aa), .unset, .unset] [(.ref b109)])) _
  refine XS.iload X124.here hx rfl (hb hby at_258) rfl ?_
  show Steps p.tables e below (T124.setTop (mkF m 260 #[.val (.int p0), .val (.int p1), .val (.int p2), .val (.int p3), .val (.int cu), .val (.int d), .val (.int (1 : Int32)), .val (.int (((p2.toUInt32 >>> ((5 : Int32) &&& 31).toUInt32).toInt32) &&& (3 : Int32))), .val (.ref b101), .val (.ref b105), .val (.ref b109), .val (.ref b112), .val (.ref b115), .val (.int (1 : Int32)), .val (.int (0 : Int32)), .val (.int (1 : Int32)), .val (.int aa), .val (.int aa), .unset, .unset] [(.int aa), (.ref b109)])) _
  refine XS.iconst X124.here hx rfl (hb hby at_260) ?_
  show Steps p.tables e below (T124.setTop (mkF m 261 #[.val (.int p0), .val (.int p1), .val (.int p2), .val (.int p3), .val (.int cu), .val (.int d), .val (.int (1 : Int32)), .val (.int (((p2.toUInt32 >>> ((5 : Int32) &&& 31).toUInt32).toInt32) &&& (3 : Int32))), .val (.ref b101), .val (.ref b105), .val (.ref b109), .val (.ref b112), .val (.ref b115), .val (.int (1 : Int32)), .val (.int (0 : Int32)), .val (.int (1 : Int32)), .val (.int aa), .val (.int aa), .unset, .unset] [(.int (1 : Int32)), (.int aa), (.ref b109)])) _
  refine XS.iadd X124.here hx rfl (hb hby at_261) rfl ?_
  show Steps p.tables e below (T124.setTop (mkF m 262 #[.val (.int p0), .val (.int p1), .val (.int p2), .val (.int p3), .val (.int cu), .val (.int d), .val (.int (1 : Int32)), .val (.int (((p2.toUInt32 >>> ((5 : Int32) &&& 31).toUInt32).toInt32) &&& (3 : Int32))), .val (.ref b101), .val (.ref b105), .val (.ref b109), .val (.ref b112), .val (.ref b115), .val (.int (1 : Int32)), .val (.int (0 : Int32)), .val (.int (1 : Int32)), .val (.int aa), .val (.int aa), .unset, .unset] [(.int (aa + (1 : Int32))), (.ref b109)])) _
  refine own_ldC X124 hx hZ rfl At124 (j := (aa + (1 : Int32))) (k + 1) (own_ix (d := 1) (i := 1) hj hk rfl (by omega)).1 (own_ix (d := 1) (i := 1) hj hk rfl (by omega)).2 (by omega) (v := (.int (0 : Int32))) (own_off _ _ (by omega)) (g := (mkF m 262 #[.val (.int p0), .val (.int p1), .val (.int p2), .val (.int p3), .val (.int cu), .val (.int d), .val (.int (1 : Int32)), .val (.int (((p2.toUInt32 >>> ((5 : Int32) &&& 31).toUInt32).toInt32) &&& (3 : Int32))), .val (.ref b101), .val (.ref b105), .val (.ref b109), .val (.ref b112), .val (.ref b115), .val (.int (1 : Int32)), .val (.int (0 : Int32)), .val (.int (1 : Int32)), .val (.int aa), .val (.int aa), .unset, .unset] [(.int (aa + (1 : Int32))), (.ref b109)])) rfl rfl (hb hby at_262) _ ?_
  show Steps p.tables e below (T124.setTop (mkF m 263 #[.val (.int p0), .val (.int p1), .val (.int p2), .val (.int p3), .val (.int cu), .val (.int d), .val (.int (1 : Int32)), .val (.int (((p2.toUInt32 >>> ((5 : Int32) &&& 31).toUInt32).toInt32) &&& (3 : Int32))), .val (.ref b101), .val (.ref b105), .val (.ref b109), .val (.ref b112), .val (.ref b115), .val (.int (1 : Int32)), .val (.int (0 : Int32)), .val (.int (1 : Int32)), .val (.int aa), .val (.int aa), .unset, .unset] [(.int (0 : Int32))])) _
  refine XS.ifNo X124.here hx rfl (hb hby at_263) rfl ((if0 _ _).trans (teq rfl).2) ?_
  show Steps p.tables e below (T124.setTop (mkF m 266 #[.val (.int p0), .val (.int p1), .val (.int p2), .val (.int p3), .val (.int cu), .val (.int d), .val (.int (1 : Int32)), .val (.int (((p2.toUInt32 >>> ((5 : Int32) &&& 31).toUInt32).toInt32) &&& (3 : Int32))), .val (.ref b101), .val (.ref b105), .val (.ref b109), .val (.ref b112), .val (.ref b115), .val (.int (1 : Int32)), .val (.int (0 : Int32)), .val (.int (1 : Int32)), .val (.int aa), .val (.int aa), .unset, .unset] [])) _
  refine XS.iconst X124.here hx rfl (hb hby at_266) ?_
  show Steps p.tables e below (T124.setTop (mkF m 267 #[.val (.int p0), .val (.int p1), .val (.int p2), .val (.int p3), .val (.int cu), .val (.int d), .val (.int (1 : Int32)), .val (.int (((p2.toUInt32 >>> ((5 : Int32) &&& 31).toUInt32).toInt32) &&& (3 : Int32))), .val (.ref b101), .val (.ref b105), .val (.ref b109), .val (.ref b112), .val (.ref b115), .val (.int (1 : Int32)), .val (.int (0 : Int32)), .val (.int (1 : Int32)), .val (.int aa), .val (.int aa), .unset, .unset] [(.int (1 : Int32))])) _
  refine XS.goto X124.here hx rfl (pc0 := 267) (pc' := 271) rfl (hb hby at_267) (by decide) (by decide) ?_
  show Steps p.tables e below (T124.setTop (mkF m 271 #[.val (.int p0), .val (.int p1), .val (.int p2), .val (.int p3), .val (.int cu), .val (.int d), .val (.int (1 : Int32)), .val (.int (((p2.toUInt32 >>> ((5 : Int32) &&& 31).toUInt32).toInt32) &&& (3 : Int32))), .val (.ref b101), .val (.ref b105), .val (.ref b109), .val (.ref b112), .val (.ref b115), .val (.int (1 : Int32)), .val (.int (0 : Int32)), .val (.int (1 : Int32)), .val (.int aa), .val (.int aa), .unset, .unset] [(.int (1 : Int32))])) _
  refine XS.istore X124.here hx rfl (hb hby at_271) rfl (l' := #[.val (.int p0), .val (.int p1), .val (.int p2), .val (.int p3), .val (.int cu), .val (.int d), .val (.int (1 : Int32)), .val (.int (((p2.toUInt32 >>> ((5 : Int32) &&& 31).toUInt32).toInt32) &&& (3 : Int32))), .val (.ref b101), .val (.ref b105), .val (.ref b109), .val (.ref b112), .val (.ref b115), .val (.int (1 : Int32)), .val (.int (0 : Int32)), .val (.int (1 : Int32)), .val (.int aa), .val (.int aa), .unset, .unset]) rfl ?_
  exact kt
set_option maxRecDepth 65536 in
set_option maxHeartbeats 40000000 in
theorem sg1N2 {p : Program} {l : Launch} {e : Env} {s : State} {m : MethodId} {args : Array Value} {below : List Frame} {meth : Method} {c : Code} {T0 : State} {locs : List Loc} {Z : State} {a0 : Array Value} (p0 : Int32) (p1 : Int32) (p2 : Int32) (p3 : Int32) (cu : Int32) (d : Int32) (h0 : Heap) (n0 : Nat) (Z0 : n0 ≤ h0.size) (X0 : Stand p l e room_1 s m args below meth c T0 locs 0 0) (N0 : Fr n0 locs) (hx : p.tables.exec = Jvm.exec) (hZ : Z.Warmed39 s.vm) (hw : ∀ d ∈ tables_1, d.before a0 Z = true) (hby : c.code = code) (hml : c.maxLocals = 20) (hown : s.vm.findClass "com/example/cellwright/cellwright/hive/DecoderFinishPinLaw" = some m.cls) (e0 : T0.heap = h0) (hch_cu : own_ch cu) (h1 : cu < (55296 : Int32) ∨ (56319 : Int32) < cu) (hb21 : (((p2.toUInt32 >>> ((4 : Int32) &&& 31).toUInt32).toInt32) &&& (1 : Int32)) = (0 : Int32)) :
    ∃ (T' : State) (locs' : List Loc) (s0 : Slot) (s1 : Slot) (s2 : Slot) (s3 : Slot) (s4 : Slot) (s6 : Slot) (s7 : Slot) (s8 : Slot) (s10 : Slot) (s13 : Slot) (s14 : Slot) (s16 : Slot) (s17 : Slot) (b9 : Addr) (b11 : Addr) (b12 : Addr), Stand p l e room_1 s m args below meth c T' locs' 5 18 ∧ Fr n0 locs' ∧ n0 ≤ T'.heap.size ∧ n0 ≤ b11 ∧ n0 ≤ b12 ∧ b9 ≠ b12 ∧ b9 ≠ b11 ∧ b11 ≠ b12 ∧ OwnA Z T'.heap b9 .byte 2 (own_upd (own_upd (fun _ => (.int (0 : Int32))) 0 (.int (d.toInt8.toInt32).toInt8.toInt32)) 1 (.int (((d.toUInt32 >>> ((8 : Int32) &&& 31).toUInt32).toInt32).toInt8.toInt32).toInt8.toInt32)) ∧ OwnA Z T'.heap b11 .char 4 (fun _ => .int (0 : Int32)) ∧ Exa Z T'.heap b12 "com/example/cellwright/cellwright/hive/Utf16Le$Decoder" ∧ Fld Z T'.heap b12 "com/example/cellwright/cellwright/hive/Utf16Le$Decoder" "oddByte" "I" (.int (-1 : Int32)) ∧ Fld Z T'.heap b12 "com/example/cellwright/cellwright/hive/Utf16Le$Decoder" "high" "C" (.int (0 : Int32)) ∧
      ∀ target, Steps p.tables e below (T'.setTop (mkF m 273 #[s0, s1, s2, s3, s4, .val (.int d), s6, s7, s8, .val (.ref b9), s10, .val (.ref b11), .val (.ref b12), s13, s14, .val (.int (1 : Int32)), s16, s17, .unset, .unset] [])) target → Steps p.tables e below (T0.setTop (mkF m 16 #[.val (.int p0), .val (.int p1), .val (.int p2), .val (.int p3), .val (.int cu), .val (.int d), .unset, .unset, .unset, .unset, .unset, .unset, .unset, .unset, .unset, .unset, .unset, .unset, .unset, .unset] [])) target := by
  obtain ⟨T101, h101, k101, X101, e101, E101, A101, Ex101, st101⟩ := newPE X0 hx hZ (aty := .byte) (hw _ (List.mem_of_getElem? (i := 5) rfl)) e0 (g := (mkF m 48 #[.val (.int p0), .val (.int p1), .val (.int p2), .val (.int p3), .val (.int cu), .val (.int d), .val (.int (0 : Int32)), .val (.int (((p2.toUInt32 >>> ((5 : Int32) &&& 31).toUInt32).toInt32) &&& (3 : Int32))), .unset, .unset, .unset, .unset, .unset, .unset, .unset, .unset, .unset, .unset, .unset, .unset] [(.int (2 : Int32))])) rfl (hb hby at_48) rfl (by decide) (cap := 2) (by decide) (by decide) (by decide) (by decide) (ad := "[B") (by decide)
  obtain ⟨b101, g101⟩ : ∃ z, z = h0.size := ⟨_, rfl⟩
  rw [← g101] at A101 Ex101 st101
  have g_b101 : n0 ≤ b101 := Nat.le_trans Z0 (Nat.le_of_eq g101.symm)
  have sz_b101 : h0.size ≤ b101 := Nat.le_trans (Keep.refl h0 []).1 (Nat.le_of_eq g101.symm)
  have Z101 : n0 ≤ h101.size := Nat.le_trans Z0 E101.1
  have KC101 : Keep h0 h101 [] := (Keep.refl h0 []).ext E101
  have V101 : OwnA Z h101 b101 .byte 2 (fun _ => (.int (0 : Int32))) := OwnA.new A101 rfl
  obtain ⟨T102, h102, X102, e102, W102, V102, st102⟩ := own_stB X101 hx hZ e101 V101 (j := (0 : Int32)) 0 (by decide) rfl (by decide) (g := (mkF m 58 #[.val (.int p0), .val (.int p1), .val (.int p2), .val (.int p3), .val (.int cu), .val (.int d), .val (.int (0 : Int32)), .val (.int (((p2.toUInt32 >>> ((5 : Int32) &&& 31).toUInt32).toInt32) &&& (3 : Int32))), .val (.ref b101), .unset, .unset, .unset, .unset, .unset, .unset, .unset, .unset, .unset, .unset, .unset] [(.int (cu.toInt8.toInt32)), (.int (0 : Int32)), (.ref b101)])) rfl rfl (hb hby at_58)
  have Z102 : n0 ≤ h102.size := Nat.le_trans Z101 (Nat.le_of_eq W102.size.symm)
  have KC102 : Keep h0 h102 [] := KC101.wr W102 (Or.inr sz_b101)
  have N102 := Fr.snoc X102 N0 g_b101
  obtain ⟨T103, h103, X103, e103, W103, V103, st103⟩ := own_stB X102 hx hZ e102 V102 (j := (1 : Int32)) 1 (by decide) rfl (by decide) (g := (mkF m 68 #[.val (.int p0), .val (.int p1), .val (.int p2), .val (.int p3), .val (.int cu), .val (.int d), .val (.int (0 : Int32)), .val (.int (((p2.toUInt32 >>> ((5 : Int32) &&& 31).toUInt32).toInt32) &&& (3 : Int32))), .val (.ref b101), .unset, .unset, .unset, .unset, .unset, .unset, .unset, .unset, .unset, .unset, .unset] [(.int (((cu.toUInt32 >>> ((8 : Int32) &&& 31).toUInt32).toInt32).toInt8.toInt32)), (.int (1 : Int32)), (.ref b101)])) rfl rfl (hb hby at_68)
  have Z103 : n0 ≤ h103.size := Nat.le_trans Z102 (Nat.le_of_eq W103.size.symm)
  have KC103 : Keep h0 h103 [] := KC102.wr W103 (Or.inr sz_b101)
  have N103 := Fr.snoc X103 N102 g_b101
  obtain ⟨T104, h104, k104, X104, e104, E104, A104, Ex104, st104⟩ := newPE X103 hx hZ (aty := .byte) (hw _ (List.mem_of_getElem? (i := 5) rfl)) e103 (g := (mkF m 81 #[.val (.int p0), .val (.int p1), .val (.int p2), .val (.int p3), .val (.int cu), .val (.int d), .val (.int (0 : Int32)), .val (.int (((p2.toUInt32 >>> ((5 : Int32) &&& 31).toUInt32).toInt32) &&& (3 : Int32))), .val (.ref b101), .unset, .unset, .unset, .unset, .unset, .unset, .unset, .unset, .unset, .unset, .unset] [(.int (2 : Int32))])) rfl (hb hby at_81) rfl (by decide) (cap := 2) (by decide) (by decide) (by decide) (by decide) (ad := "[B") (by decide)
  obtain ⟨b104, g104⟩ : ∃ z, z = h103.size := ⟨_, rfl⟩
  rw [← g104] at A104 Ex104 st104
  have f105 := ((Ex101.wr W102).wr W103)
  have ne_b101_b104 : b101 ≠ b104 := Nat.ne_of_lt (Nat.lt_of_lt_of_le f105.lt (Nat.le_of_eq g104.symm))
  have g_b104 : n0 ≤ b104 := Nat.le_trans Z103 (Nat.le_of_eq g104.symm)
  have sz_b104 : h0.size ≤ b104 := Nat.le_trans KC103.1 (Nat.le_of_eq g104.symm)
  have Z104 : n0 ≤ h104.size := Nat.le_trans Z103 E104.1
  have KC104 : Keep h0 h104 [] := KC103.ext E104
  have V104 : OwnA Z h104 b104 .byte 2 (fun _ => (.int (0 : Int32))) := OwnA.new A104 rfl
  obtain ⟨T106, h106, X106, e106, W106, V106, st106⟩ := own_stB X104 hx hZ e104 V104 (j := (0 : Int32)) 0 (by decide) rfl (by decide) (g := (mkF m 91 #[.val (.int p0), .val (.int p1), .val (.int p2), .val (.int p3), .val (.int cu), .val (.int d), .val (.int (0 : Int32)), .val (.int (((p2.toUInt32 >>> ((5 : Int32) &&& 31).toUInt32).toInt32) &&& (3 : Int32))), .val (.ref b101), .val (.ref b104), .unset, .unset, .unset, .unset, .unset, .unset, .unset, .unset, .unset, .unset] [(.int (d.toInt8.toInt32)), (.int (0 : Int32)), (.ref b104)])) rfl rfl (hb hby at_91)
  have Z106 : n0 ≤ h106.size := Nat.le_trans Z104 (Nat.le_of_eq W106.size.symm)
  have KC106 : Keep h0 h106 [] := KC104.wr W106 (Or.inr sz_b104)
  have N106 := Fr.snoc X106 N103 g_b104
  obtain ⟨T107, h107, X107, e107, W107, V107, st107⟩ := own_stB X106 hx hZ e106 V106 (j := (1 : Int32)) 1 (by decide) rfl (by decide) (g := (mkF m 101 #[.val (.int p0), .val (.int p1), .val (.int p2), .val (.int p3), .val (.int cu), .val (.int d), .val (.int (0 : Int32)), .val (.int (((p2.toUInt32 >>> ((5 : Int32) &&& 31).toUInt32).toInt32) &&& (3 : Int32))), .val (.ref b101), .val (.ref b104), .unset, .unset, .unset, .unset, .unset, .unset, .unset, .unset, .unset, .unset] [(.int (((d.toUInt32 >>> ((8 : Int32) &&& 31).toUInt32).toInt32).toInt8.toInt32)), (.int (1 : Int32)), (.ref b104)])) rfl rfl (hb hby at_101)
  have Z107 : n0 ≤ h107.size := Nat.le_trans Z106 (Nat.le_of_eq W107.size.symm)
  have KC107 : Keep h0 h107 [] := KC106.wr W107 (Or.inr sz_b104)
  have N107 := Fr.snoc X107 N106 g_b104
  obtain ⟨T108, h108, k108, X108, e108, E108, A108, Ex108, st108⟩ := newPE X107 hx hZ (aty := .char) (hw _ (List.mem_of_getElem? (i := 6) rfl)) e107 (g := (mkF m 104 #[.val (.int p0), .val (.int p1), .val (.int p2), .val (.int p3), .val (.int cu), .val (.int d), .val (.int (0 : Int32)), .val (.int (((p2.toUInt32 >>> ((5 : Int32) &&& 31).toUInt32).toInt32) &&& (3 : Int32))), .val (.ref b101), .val (.ref b104), .unset, .unset, .unset, .unset, .unset, .unset, .unset, .unset, .unset, .unset] [(.int (8 : Int32))])) rfl (hb hby at_104) rfl (by decide) (cap := 8) (by decide) (by decide) (by decide) (by decide) (ad := "[C") (by decide)
  obtain ⟨b108, g108⟩ : ∃ z, z = h107.size := ⟨_, rfl⟩
  rw [← g108] at A108 Ex108 st108
  have f109 := (((f105.ext E104).wr W106).wr W107)
  have f110 := ((Ex104.wr W106).wr W107)
  have ne_b101_b108 : b101 ≠ b108 := Nat.ne_of_lt (Nat.lt_of_lt_of_le f109.lt (Nat.le_of_eq g108.symm))
  have ne_b104_b108 : b104 ≠ b108 := Nat.ne_of_lt (Nat.lt_of_lt_of_le f110.lt (Nat.le_of_eq g108.symm))
  have g_b108 : n0 ≤ b108 := Nat.le_trans Z107 (Nat.le_of_eq g108.symm)
  have sz_b108 : h0.size ≤ b108 := Nat.le_trans KC107.1 (Nat.le_of_eq g108.symm)
  have Z108 : n0 ≤ h108.size := Nat.le_trans Z107 E108.1
  have KC108 : Keep h0 h108 [] := KC107.ext E108
  have V108 : OwnA Z h108 b108 .char 8 (fun _ => (.int (0 : Int32))) := OwnA.new A108 rfl
  obtain ⟨T111, h111, k111, X111, e111, E111, A111, Ex111, st111⟩ := newPE X108 hx hZ (aty := .char) (hw _ (List.mem_of_getElem? (i := 6) rfl)) e108 (g := (mkF m 109 #[.val (.int p0), .val (.int p1), .val (.int p2), .val (.int p3), .val (.int cu), .val (.int d), .val (.int (0 : Int32)), .val (.int (((p2.toUInt32 >>> ((5 : Int32) &&& 31).toUInt32).toInt32) &&& (3 : Int32))), .val (.ref b101), .val (.ref b104), .val (.ref b108), .unset, .unset, .unset, .unset, .unset, .unset, .unset, .unset, .unset] [(.int (4 : Int32))])) rfl (hb hby at_109) rfl (by decide) (cap := 4) (by decide) (by decide) (by decide) (by decide) (ad := "[C") (by decide)
  obtain ⟨b111, g111⟩ : ∃ z, z = h108.size := ⟨_, rfl⟩
  rw [← g111] at A111 Ex111 st111
  have f112 := (f109.ext E108)
  have f113 := (f110.ext E108)
  have ne_b101_b111 : b101 ≠ b111 := Nat.ne_of_lt (Nat.lt_of_lt_of_le f112.lt (Nat.le_of_eq g111.symm))
  have ne_b104_b111 : b104 ≠ b111 := Nat.ne_of_lt (Nat.lt_of_lt_of_le f113.lt (Nat.le_of_eq g111.symm))
  have ne_b108_b111 : b108 ≠ b111 := Nat.ne_of_lt (Nat.lt_of_lt_of_le Ex108.lt (Nat.le_of_eq g111.symm))
  have g_b111 : n0 ≤ b111 := Nat.le_trans Z108 (Nat.le_of_eq g111.symm)
  have sz_b111 : h0.size ≤ b111 := Nat.le_trans KC108.1 (Nat.le_of_eq g111.symm)
  have Z111 : n0 ≤ h111.size := Nat.le_trans Z108 E111.1
  have KC111 : Keep h0 h111 [] := KC108.ext E111
  have V111 : OwnA Z h111 b111 .char 4 (fun _ => (.int (0 : Int32))) := OwnA.new A111 rfl
  obtain ⟨T114, h114, X114, e114, E114, A114, D114, -, st114⟩ := newO X111 hx hZ hown (hw _ (List.mem_of_getElem? (i := 7) rfl)) (hw _ (List.mem_of_getElem? (i := 8) rfl)) (hw _ (List.mem_of_getElem? (i := 9) rfl)) e111 (g := (mkF m 113 #[.val (.int p0), .val (.int p1), .val (.int p2), .val (.int p3), .val (.int cu), .val (.int d), .val (.int (0 : Int32)), .val (.int (((p2.toUInt32 >>> ((5 : Int32) &&& 31).toUInt32).toInt32) &&& (3 : Int32))), .val (.ref b101), .val (.ref b104), .val (.ref b108), .val (.ref b111), .unset, .unset, .unset, .unset, .unset, .unset, .unset, .unset] [])) rfl (hb hby at_113) (by decide) (by decide)
  obtain ⟨b114, g114⟩ : ∃ z, z = h111.size := ⟨_, rfl⟩
  rw [← g114] at A114 D114 st114
  have f115 := (f112.ext E111)
  have f116 := (f113.ext E111)
  have f117 := (Ex108.ext E111)
  have ne_b101_b114 : b101 ≠ b114 := Nat.ne_of_lt (Nat.lt_of_lt_of_le f115.lt (Nat.le_of_eq g114.symm))
  have ne_b104_b114 : b104 ≠ b114 := Nat.ne_of_lt (Nat.lt_of_lt_of_le f116.lt (Nat.le_of_eq g114.symm))
  have ne_b108_b114 : b108 ≠ b114 := Nat.ne_of_lt (Nat.lt_of_lt_of_le f117.lt (Nat.le_of_eq g114.symm))
  have ne_b111_b114 : b111 ≠ b114 := Nat.ne_of_lt (Nat.lt_of_lt_of_le Ex111.lt (Nat.le_of_eq g114.symm))
  have g_b114 : n0 ≤ b114 := Nat.le_trans Z111 (Nat.le_of_eq g114.symm)
  have sz_b114 : h0.size ≤ b114 := Nat.le_trans KC111.1 (Nat.le_of_eq g114.symm)
  have Z114 : n0 ≤ h114.size := Nat.le_trans Z111 E114.1
  have KC114 : Keep h0 h114 [] := KC111.ext E114
  have F_oddByte_b114 : Fld Z h114 b114 "com/example/cellwright/cellwright/hive/Utf16Le$Decoder" "oddByte" "I" (.int (0 : Int32)) := D114 (Or.inl (hw _ (List.mem_of_getElem? (i := 17) rfl))) (ty := .int) (by decide)
  have F_high_b114 : Fld Z h114 b114 "com/example/cellwright/cellwright/hive/Utf16Le$Decoder" "high" "C" (.int (0 : Int32)) := D114 (Or.inl (hw _ (List.mem_of_getElem? (i := 24) rfl))) (ty := .char) (by decide)
  obtain ⟨_, _, ⟨T118, L118, k118, n118⟩, -, X118, ⟨Lc118, hQ118, l118, y118, z118⟩, st118⟩ := X114.specialBack hx (y := (⟨"com/example/cellwright/cellwright/hive/Utf16Le$Decoder", "<init>", "()V"⟩ : MethodName)) rfl hown (mvT hZ (hw _ (List.mem_of_getElem? (i := 10) rfl))) (mvT hZ (hw _ (List.mem_of_getElem? (i := 11) rfl))) (mvT hZ (hw _ (List.mem_of_getElem? (i := 12) rfl))) (by decide) (backOf (W := 1) (rmI l Z a0 hw [] b114 h114 n0 Z114 A114 F_oddByte_b114 F_high_b114 g_b114) hZ (hw _ (List.mem_of_getElem? (i := 12) rfl)) (hw _ (List.mem_of_getElem? (i := 9) rfl)) (by decide) (by decide)) (g := (mkF m 117 #[.val (.int p0), .val (.int p1), .val (.int p2), .val (.int p3), .val (.int cu), .val (.int d), .val (.int (0 : Int32)), .val (.int (((p2.toUInt32 >>> ((5 : Int32) &&& 31).toUInt32).toInt32) &&& (3 : Int32))), .val (.ref b101), .val (.ref b104), .val (.ref b108), .val (.ref b111), .unset, .unset, .unset, .unset, .unset, .unset, .unset, .unset] [(.ref b114), (.ref b114)])) rfl (by rw [hml]; rfl) (Steps.refl _) (a := b114) (argsL := []) (rest := [(.ref b114)]) (lenOf own_pd3 rfl) rfl (by show 2 * 0 + _ ≤ _; exact Nat.le_of_eq rfl) (hb hby at_117) (fun _ _ => ⟨rfl, e114, (by decide : 5 + 0 ≤ _), (by decide : 18 + 0 ≤ _)⟩)
  dsimp only [Pt.U, Pt.locs, Pt.cells, Pt.slots] at X118 l118 y118 z118 st118 hQ118
  subst l118 y118 z118
  obtain ⟨rfl, Nq118, K118, Ex118, Fo118, Fh118⟩ := hQ118
  have Z118 : n0 ≤ T118.heap.size := Nat.le_trans Z114 K118.1
  have KC118 : Keep h0 T118.heap [] := KC114.trans K118 (allS (Or.inr sz_b114) all0)
  have N118 := Fr.app N107 Nq118
  have f119 := (((((((V103.ext E104).other W106 ne_b101_b104).other W107 ne_b101_b104).ext E108).ext E111).ext E114).keep K118 (ninS ne_b101_b114 nin0))
  have f120 := (((V108.ext E111).ext E114).keep K118 (ninS ne_b108_b114 nin0))
  obtain ⟨cq121, kq121, q121a, q121b, q121c⟩ := isOf hZ rfl Ex118
  obtain ⟨_, _, ⟨T121, L121, k121, n121⟩, -, X121, ⟨Lc121, hQ121, l121, y121, z121⟩, st121⟩ := X118.virtualBack hx (y := (⟨"com/example/cellwright/cellwright/hive/Utf16Le$Decoder", "decode", "([BII[CI)I"⟩ : MethodName)) (z := (⟨"com/example/cellwright/cellwright/hive/Utf16Le$Decoder", "decode", "([BII[CI)I"⟩ : MethodName)) hown (mvT hZ (hw _ (List.mem_of_getElem? (i := 18) rfl))) (mvT hZ (hw _ (List.mem_of_getElem? (i := 19) rfl))) (notFace_of_selects (args := #[]) (mvT hZ (hw _ (List.mem_of_getElem? (i := 21) rfl)))) (mvT hZ (hw _ (List.mem_of_getElem? (i := 21) rfl))) (mvT hZ (hw _ (List.mem_of_getElem? (i := 20) rfl))) (by decide) (backOf (W := 0) (rmDN2 l Z a0 hw [] b114 b101 b108 8 _ _ cu (cu.toInt8.toInt32) (((cu.toUInt32 >>> ((8 : Int32) &&& 31).toUInt32).toInt32).toInt8.toInt32) T118.heap n0 Z118 Ex118 Fh118 f120 (by decide) g_b114 g_b108 ne_b108_b114 hch_cu Fo118 f119 ne_b101_b114 ne_b101_b108 (congrArg Value.int (own_nn _)) (congrArg Value.int (own_nn _)) (own_join hch_cu) h1) hZ (hw _ (List.mem_of_getElem? (i := 22) rfl)) (hw _ (List.mem_of_getElem? (i := 9) rfl)) (by decide) (by decide)) q121a q121c (g := (mkF m 133 #[.val (.int p0), .val (.int p1), .val (.int p2), .val (.int p3), .val (.int cu), .val (.int d), .val (.int (0 : Int32)), .val (.int (((p2.toUInt32 >>> ((5 : Int32) &&& 31).toUInt32).toInt32) &&& (3 : Int32))), .val (.ref b101), .val (.ref b104), .val (.ref b108), .val (.ref b111), .val (.ref b114), .unset, .unset, .unset, .unset, .unset, .unset, .unset] [(.int (0 : Int32)), (.ref b108), (.int (2 : Int32)), (.int (0 : Int32)), (.ref b101), (.ref b114)])) rfl (by rw [hml]; rfl) (Steps.refl _) (argsL := [(.ref b101), (.int (0 : Int32)), (.int (2 : Int32)), (.ref b108), (.int (0 : Int32))]) (rest := []) (lenOf own_pd4 rfl) rfl (by show 2 * 0 + _ ≤ _; exact Nat.le_of_eq rfl) (hb hby at_133) (fun _ _ => ⟨rfl, rfl, (by decide : 5 + 0 ≤ _), (by decide : 18 + 0 ≤ _)⟩)
  dsimp only [Pt.U, Pt.locs, Pt.cells, Pt.slots] at X121 l121 y121 z121 st121 hQ121
  subst l121 y121 z121
  obtain ⟨o121, rfl, Nq121, K121, Ex121, Fo121, Fh121, At121⟩ := hQ121
  have Z121 : n0 ≤ T121.heap.size := Nat.le_trans Z118 K121.1
  have KC121 : Keep h0 T121.heap [] := KC118.trans K121 (allS (Or.inr sz_b114) (allS (Or.inr sz_b108) all0))
  have N121 := Fr.app N118 Nq121
  obtain ⟨_, _, ⟨T122, L122, k122, n122⟩, -, X122, ⟨Lc122, hQ122, l122, y122, z122⟩, st122⟩ := Jvm.LawKit.callS X121 hx (y := (⟨"com/example/cellwright/cellwright/hive/DecoderFinishPinLaw", "isHigh", "(C)Z"⟩ : MethodName)) hown (mvT hZ (hw _ (List.mem_of_getElem? (i := 26) rfl))) (mvT hZ (hw _ (List.mem_of_getElem? (i := 27) rfl))) (mvT hZ (hw _ (List.mem_of_getElem? (i := 2) rfl))) (mvT hZ (hw _ (List.mem_of_getElem? (i := 28) rfl))) (by decide) (backOf (W := 0) (rm_ihN l Z a0 hw [] cu T121.heap n0 Z121 h1) hZ (hw _ (List.mem_of_getElem? (i := 28) rfl)) (hw _ (List.mem_of_getElem? (i := 2) rfl)) (by decide) (by decide)) (g := (mkF m 140 #[.val (.int p0), .val (.int p1), .val (.int p2), .val (.int p3), .val (.int cu), .val (.int d), .val (.int (0 : Int32)), .val (.int (((p2.toUInt32 >>> ((5 : Int32) &&& 31).toUInt32).toInt32) &&& (3 : Int32))), .val (.ref b101), .val (.ref b104), .val (.ref b108), .val (.ref b111), .val (.ref b114), .val (.int (1 : Int32)), .unset, .unset, .unset, .unset, .unset, .unset] [(.int cu)])) rfl (by rw [hml]; rfl) (argsL := [(.int cu)]) (rest := []) (lenOf own_pd0 rfl) rfl (by show 2 * 0 + _ ≤ _; exact Nat.le_of_eq rfl) (hb hby at_140) (fun _ _ => ⟨rfl, rfl, (by decide : 5 + 0 ≤ _), (by decide : 18 + 0 ≤ _)⟩)
  dsimp only [Pt.U, Pt.locs, Pt.cells, Pt.slots] at X122 l122 y122 z122 st122 hQ122
  subst l122 y122 z122
  obtain ⟨rfl, Nq122, e122⟩ := hQ122
  have N122 := Fr.app N121 Nq122
  obtain ⟨aa, hv_aa⟩ : ∃ z : Int32, z = ((1 : Int32) + (((p2.toUInt32 >>> ((5 : Int32) &&& 31).toUInt32).toInt32) &&& (3 : Int32))) := ⟨_, rfl⟩
  obtain ⟨hj, k, hk, hk1, hk4⟩ := own_aaN hv_aa
  obtain ⟨cq123, kq123, q123a, q123b, q123c⟩ := isOf hZ e122 Ex121
  obtain ⟨_, _, ⟨T123, L123, k123, n123⟩, -, X123, ⟨Lc123, hQ123, l123, y123, z123⟩, st123⟩ := X122.virtualBack hx (y := (⟨"com/example/cellwright/cellwright/hive/Utf16Le$Decoder", "finish", "([CI)I"⟩ : MethodName)) (z := (⟨"com/example/cellwright/cellwright/hive/Utf16Le$Decoder", "finish", "([CI)I"⟩ : MethodName)) hown (mvT hZ (hw _ (List.mem_of_getElem? (i := 29) rfl))) (mvT hZ (hw _ (List.mem_of_getElem? (i := 30) rfl))) (notFace_of_selects (args := #[]) (mvT hZ (hw _ (List.mem_of_getElem? (i := 32) rfl)))) (mvT hZ (hw _ (List.mem_of_getElem? (i := 32) rfl))) (mvT hZ (hw _ (List.mem_of_getElem? (i := 31) rfl))) (by decide) (backOf (W := 0) (rmFN l Z a0 hw [] b114 b108 aa 8 _ o121 T121.heap n0 Z121 Ex121 Fo121 Fh121 At121 g_b114 g_b108 ne_b108_b114) hZ (hw _ (List.mem_of_getElem? (i := 33) rfl)) (hw _ (List.mem_of_getElem? (i := 9) rfl)) (by decide) (by decide)) q123a q123c (g := (mkF m 180 #[.val (.int p0), .val (.int p1), .val (.int p2), .val (.int p3), .val (.int cu), .val (.int d), .val (.int (0 : Int32)), .val (.int (((p2.toUInt32 >>> ((5 : Int32) &&& 31).toUInt32).toInt32) &&& (3 : Int32))), .val (.ref b101), .val (.ref b104), .val (.ref b108), .val (.ref b111), .val (.ref b114), .val (.int (1 : Int32)), .val (.int (0 : Int32)), .val (.int (1 : Int32)), .val (.int aa), .unset, .unset, .unset] [(.int aa), (.ref b108), (.ref b114)])) rfl (by rw [hml]; rfl) (Steps.refl _) (argsL := [(.ref b108), (.int aa)]) (rest := []) (lenOf own_pd5 rfl) rfl (by show 2 * 0 + _ ≤ _; exact Nat.le_of_eq rfl) (hb hby at_180) (fun _ _ => ⟨rfl, e122, (by decide : 5 + 0 ≤ _), (by decide : 18 + 0 ≤ _)⟩)
  dsimp only [Pt.U, Pt.locs, Pt.cells, Pt.slots] at X123 l123 y123 z123 st123 hQ123
  subst l123 y123 z123
  obtain ⟨rfl, Nq123, K123, Ex123, Fo123, Fh123, At123⟩ := hQ123
  have Z123 : n0 ≤ T123.heap.size := Nat.le_trans Z121 K123.1
  have KC123 : Keep h0 T123.heap [] := KC121.trans K123 (allS (Or.inr sz_b114) (allS (Or.inr sz_b108) all0))
  have N123 := Fr.app N122 Nq123
  have f124 := ((((((V107.ext E108).ext E111).ext E114).keep K118 (ninS ne_b104_b114 nin0)).keep K121 (ninS ne_b104_b114 (ninS ne_b104_b108 nin0))).keep K123 (ninS ne_b104_b114 (ninS ne_b104_b108 nin0)))
  have f125 := ((((V111.ext E114).keep K118 (ninS ne_b111_b114 nin0)).keep K121 (ninS ne_b111_b114 (ninS (Ne.symm ne_b108_b111) nin0))).keep K123 (ninS ne_b111_b114 (ninS (Ne.symm ne_b108_b111) nin0)))
  have Zend : n0 ≤ T123.heap.size := Z123
  refine ⟨T123, _, (.val (.int p0)), (.val (.int p1)), (.val (.int p2)), (.val (.int p3)), (.val (.int cu)), (.val (.int (0 : Int32))), (.val (.int (((p2.toUInt32 >>> ((5 : Int32) &&& 31).toUInt32).toInt32) &&& (3 : Int32)))), (.val (.ref b101)), (.val (.ref b108)), (.val (.int (1 : Int32))), (.val (.int (0 : Int32))), (.val (.int aa)), (.val (.int aa)), b104, b111, b114, X123, N123, Zend, g_b111, g_b114, ne_b104_b114, ne_b104_b111, ne_b111_b114, f124, f125, Ex123, Fo123, Fh123, fun target kt => ?_⟩
  show Steps p.tables e below (T0.setTop (mkF m 16 #[.val (.int p0), .val (.int p1), .val (.int p2), .val (.int p3), .val (.int cu), .val (.int d), .unset, .unset, .unset, .unset, .unset, .unset, .unset, .unset, .unset, .unset, .unset, .unset, .unset, .unset] [])) _
  refine XS.iloadN X0.here hx rfl (hb hby at_16) rfl ?_
  show Steps p.tables e below (T0.setTop (mkF m 17 #[.val (.int p0), .val (.int p1), .val (.int p2), .val (.int p3), .val (.int cu), .val (.int d), .unset, .unset, .unset, .unset, .unset, .unset, .unset, .unset, .unset, .unset, .unset, .unset, .unset, .unset] [(.int p2)])) _
  refine XS.iconst X0.here hx rfl (hb hby at_17) ?_
  show Steps p.tables e below (T0.setTop (mkF m 18 #[.val (.int p0), .val (.int p1), .val (.int p2), .val (.int p3), .val (.int cu), .val (.int d), .unset, .unset, .unset, .unset, .unset, .unset, .unset, .unset, .unset, .unset, .unset, .unset, .unset, .unset] [(.int (4 : Int32)), (.int p2)])) _
  refine XS.iushr X0.here hx rfl (hb hby at_18) rfl ?_
  show Steps p.tables e below (T0.setTop (mkF m 19 #[.val (.int p0), .val (.int p1), .val (.int p2), .val (.int p3), .val (.int cu), .val (.int d), .unset, .unset, .unset, .unset, .unset, .unset, .unset, .unset, .unset, .unset, .unset, .unset, .unset, .unset] [(.int ((p2.toUInt32 >>> ((4 : Int32) &&& 31).toUInt32).toInt32))])) _
  refine XS.iconst X0.here hx rfl (hb hby at_19) ?_
  show Steps p.tables e below (T0.setTop (mkF m 20 #[.val (.int p0), .val (.int p1), .val (.int p2), .val (.int p3), .val (.int cu), .val (.int d), .unset, .unset, .unset, .unset, .unset, .unset, .unset, .unset, .unset, .unset, .unset, .unset, .unset, .unset] [(.int (1 : Int32)), (.int ((p2.toUInt32 >>> ((4 : Int32) &&& 31).toUInt32).toInt32))])) _
  refine XS.iand X0.here hx rfl (hb hby at_20) rfl ?_
  show Steps p.tables e below (T0.setTop (mkF m 21 #[.val (.int p0), .val (.int p1), .val (.int p2), .val (.int p3), .val (.int cu), .val (.int d), .unset, .unset, .unset, .unset, .unset, .unset, .unset, .unset, .unset, .unset, .unset, .unset, .unset, .unset] [(.int (((p2.toUInt32 >>> ((4 : Int32) &&& 31).toUInt32).toInt32) &&& (1 : Int32)))])) _
  refine XS.ifYes X0.here hx rfl (pc0 := 21) (pc' := 28) rfl (hb hby at_21) rfl ((if0 _ _).trans (teq hb21).1) (by decide) (by decide) ?_
  show Steps p.tables e below (T0.setTop (mkF m 28 #[.val (.int p0), .val (.int p1), .val (.int p2), .val (.int p3), .val (.int cu), .val (.int d), .unset, .unset, .unset, .unset, .unset, .unset, .unset, .unset, .unset, .unset, .unset, .unset, .unset, .unset] [])) _
  refine XS.iconst X0.here hx rfl (hb hby at_28) ?_
  show Steps p.tables e below (T0.setTop (mkF m 29 #[.val (.int p0), .val (.int p1), .val (.int p2), .val (.int p3), .val (.int cu), .val (.int d), .unset, .unset, .unset, .unset, .unset, .unset, .unset, .unset, .unset, .unset, .unset, .unset, .unset, .unset] [(.int (0 : Int32))])) _
  refine XS.istore X0.here hx rfl (hb hby at_29) rfl (l' := #[.val (.int p0), .val (.int p1), .val (.int p2), .val (.int p3), .val (.int cu), .val (.int d), .val (.int (0 : Int32)), .unset, .unset, .unset, .unset, .unset, .unset, .unset, .unset, .unset, .unset, .unset, .unset, .unset]) rfl ?_
  show Steps p.tables e below (T0.setTop (mkF m 31 #[.val (.int p0), .val (.int p1), .val (.int p2), .val (.int p3), .val (.int cu), .val (.int d), .val (.int (0 : Int32)), .unset, .unset, .unset, .unset, .unset, .unset, .unset, .unset, .unset, .unset, .unset, .unset, .unset] [])) _
  refine XS.iloadN X0.here hx rfl (hb hby at_31) rfl ?_
  show Steps p.tables e below (T0.setTop (mkF m 32 #[.val (.int p0), .val (.int p1), .val (.int p2), .val (.int p3), .val (.int cu), .val (.int d), .val (.int (0 : Int32)), .unset, .unset, .unset, .unset, .unset, .unset, .unset, .unset, .unset, .unset, .unset, .unset, .unset] [(.int p2)])) _
  refine XS.iconst X0.here hx rfl (hb hby at_32) ?_
  show Steps p.tables e below (T0.setTop (mkF m 33 #[.val (.int p0), .val (.int p1), .val (.int p2), .val (.int p3), .val (.int cu), .val (.int d), .val (.int (0 : Int32)), .unset, .unset, .unset, .unset, .unset, .unset, .unset, .unset, .unset, .unset, .unset, .unset, .unset] [(.int (5 : Int32)), (.int p2)])) _
  refine XS.iushr X0.here hx rfl (hb hby at_33) rfl ?_
  show Steps p.tables e below (T0.setTop (mkF m 34 #[.val (.int p0), .val (.int p1), .val (.int p2), .val (.int p3), .val (.int cu), .val (.int d), .val (.int (0 : Int32)), .unset, .unset, .unset, .unset, .unset, .unset, .unset, .unset, .unset, .unset, .unset, .unset, .unset] [(.int ((p2.toUInt32 >>> ((5 : Int32) &&& 31).toUInt32).toInt32))])) _
  refine XS.iconst X0.here hx rfl (hb hby at_34) ?_
  show Steps p.tables e below (T0.setTop (mkF m 35 #[.val (.int p0), .val (.int p1), .val (.int p2), .val (.int p3), .val (.int cu), .val (.int d), .val (.int (0 : Int32)), .unset, .unset, .unset, .unset, .unset, .unset, .unset, .unset, .unset, .unset, .unset, .unset, .unset] [(.int (3 : Int32)), (.int ((p2.toUInt32 >>> ((5 : Int32) &&& 31).toUInt32).toInt32))])) _
  refine XS.iand X0.here hx rfl (hb hby at_35) rfl ?_
  show Steps p.tables e below (T0.setTop (mkF m 36 #[.val (.int p0), .val (.int p1), .val (.int p2), .val (.int p3), .val (.int cu), .val (.int d), .val (.int (0 : Int32)), .unset, .unset, .unset, .unset, .unset, .unset, .unset, .unset, .unset, .unset, .unset, .unset, .unset] [(.int (((p2.toUInt32 >>> ((5 : Int32) &&& 31).toUInt32).toInt32) &&& (3 : Int32)))])) _
  refine XS.istore X0.here hx rfl (hb hby at_36) rfl (l' := #[.val (.int p0), .val (.int p1), .val (.int p2), .val (.int p3), .val (.int cu), .val (.int d), .val (.int (0 : Int32)), .val (.int (((p2.toUInt32 >>> ((5 : Int32) &&& 31).toUInt32).toInt32) &&& (3 : Int32))), .unset, .unset, .unset, .unset, .unset, .unset, .unset, .unset, .unset, .unset, .unset, .unset]) rfl ?_
  show Steps p.tables e below (T0.setTop (mkF m 38 #[.val (.int p0), .val (.int p1), .val (.int p2), .val (.int p3), .val (.int cu), .val (.int d), .val (.int (0 : Int32)), .val (.int (((p2.toUInt32 >>> ((5 : Int32) &&& 31).toUInt32).toInt32) &&& (3 : Int32))), .unset, .unset, .unset, .unset, .unset, .unset, .unset, .unset, .unset, .unset, .unset, .unset] [])) _
  refine XS.iload X0.here hx rfl (hb hby at_38) rfl ?_
  show Steps p.tables e below (T0.setTop (mkF m 40 #[.val (.int p0), .val (.int p1), .val (.int p2), .val (.int p3), .val (.int cu), .val (.int d), .val (.int (0 : Int32)), .val (.int (((p2.toUInt32 >>> ((5 : Int32) &&& 31).toUInt32).toInt32) &&& (3 : Int32))), .unset, .unset, .unset, .unset, .unset, .unset, .unset, .unset, .unset, .unset, .unset, .unset] [(.int (0 : Int32))])) _
  refine XS.ifYes X0.here hx rfl (pc0 := 40) (pc' := 47) rfl (hb hby at_40) rfl ((if0 _ _).trans (teq rfl).1) (by decide) (by decide) ?_
  show Steps p.tables e below (T0.setTop (mkF m 47 #[.val (.int p0), .val (.int p1), .val (.int p2), .val (.int p3), .val (.int cu), .val (.int d), .val (.int (0 : Int32)), .val (.int (((p2.toUInt32 >>> ((5 : Int32) &&& 31).toUInt32).toInt32) &&& (3 : Int32))), .unset, .unset, .unset, .unset, .unset, .unset, .unset, .unset, .unset, .unset, .unset, .unset] [])) _
  refine XS.iconst X0.here hx rfl (hb hby at_47) ?_
  show Steps p.tables e below (T0.setTop (mkF m 48 #[.val (.int p0), .val (.int p1), .val (.int p2), .val (.int p3), .val (.int cu), .val (.int d), .val (.int (0 : Int32)), .val (.int (((p2.toUInt32 >>> ((5 : Int32) &&& 31).toUInt32).toInt32) &&& (3 : Int32))), .unset, .unset, .unset, .unset, .unset, .unset, .unset, .unset, .unset, .unset, .unset, .unset] [(.int (2 : Int32))])) _
  refine st101 _ ?_
  show Steps p.tables e below (T101.setTop (mkF m 50 #[.val (.int p0), .val (.int p1), .val (.int p2), .val (.int p3), .val (.int cu), .val (.int d), .val (.int (0 : Int32)), .val (.int (((p2.toUInt32 >>> ((5 : Int32) &&& 31).toUInt32).toInt32) &&& (3 : Int32))), .unset, .unset, .unset, .unset, .unset, .unset, .unset, .unset, .unset, .unset, .unset, .unset] [(.ref b101)])) _
  refine XS.astore X101.here hx rfl (hb hby at_50) rfl rfl (l' := #[.val (.int p0), .val (.int p1), .val (.int p2), .val (.int p3), .val (.int cu), .val (.int d), .val (.int (0 : Int32)), .val (.int (((p2.toUInt32 >>> ((5 : Int32) &&& 31).toUInt32).toInt32) &&& (3 : Int32))), .val (.ref b101), .unset, .unset, .unset, .unset, .unset, .unset, .unset, .unset, .unset, .unset, .unset]) rfl ?_
  show Steps p.tables e below (T101.setTop (mkF m 52 #[.val (.int p0), .val (.int p1), .val (.int p2), .val (.int p3), .val (.int cu), .val (.int d), .val (.int (0 : Int32)), .val (.int (((p2.toUInt32 >>> ((5 : Int32) &&& 31).toUInt32).toInt32) &&& (3 : Int32))), .val (.ref b101), .unset, .unset, .unset, .unset, .unset, .unset, .unset, .unset, .unset, .unset, .unset] [])) _
  refine XS.aload X101.here hx rfl (hb hby at_52) rfl rfl ?_
  show Steps p.tables e below (T101.setTop (mkF m 54 #[.val (.int p0), .val (.int p1), .val (.int p2), .val (.int p3), .val (.int cu), .val (.int d), .val (.int (0 : Int32)), .val (.int (((p2.toUInt32 >>> ((5 : Int32) &&& 31).toUInt32).toInt32) &&& (3 : Int32))), .val (.ref b101), .unset, .unset, .unset, .unset, .unset, .unset, .unset, .unset, .unset, .unset, .unset] [(.ref b101)])) _
  refine XS.iconst X101.here hx rfl (hb hby at_54) ?_
  show Steps p.tables e below (T101.setTop (mkF m 55 #[.val (.int p0), .val (.int p1), .val (.int p2), .val (.int p3), .val (.int cu), .val (.int d), .val (.int (0 : Int32)), .val (.int (((p2.toUInt32 >>> ((5 : Int32) &&& 31).toUInt32).toInt32) &&& (3 : Int32))), .val (.ref b101), .unset, .unset, .unset, .unset, .unset, .unset, .unset, .unset, .unset, .unset, .unset] [(.int (0 : Int32)), (.ref b101)])) _
  refine XS.iload X101.here hx rfl (hb hby at_55) rfl ?_
  show Steps p.tables e below (T101.setTop (mkF m 57 #[.val (.int p0), .val (.int p1), .val (.int p2), .val (.int p3), .val (.int cu), .val (.int d), .val (.int (0 : Int32)), .val (.int (((p2.toUInt32 >>> ((5 : Int32) &&& 31).toUInt32).toInt32) &&& (3 : Int32))), .val (.ref b101), .unset, .unset, .unset, .unset, .unset, .unset, .unset, .unset, .unset, .unset, .unset] [(.int cu), (.int (0 : Int32)), (.ref b101)])) _
  refine XS.i2b X101.here hx rfl (hb hby at_57) rfl ?_
  show Steps p.tables e below (T101.setTop (mkF m 58 #[.val (.int p0), .val (.int p1), .val (.int p2), .val (.int p3), .val (.int cu), .val (.int d), .val (.int (0 : Int32)), .val (.int (((p2.toUInt32 >>> ((5 : Int32) &&& 31).toUInt32).toInt32) &&& (3 : Int32))), .val (.ref b101), .unset, .unset, .unset, .unset, .unset, .unset, .unset, .unset, .unset, .unset, .unset] [(.int (cu.toInt8.toInt32)), (.int (0 : Int32)), (.ref b101)])) _
  refine st102 _ ?_
  show Steps p.tables e below (T102.setTop (mkF m 59 #[.val (.int p0), .val (.int p1), .val (.int p2), .val (.int p3), .val (.int cu), .val (.int d), .val (.int (0 : Int32)), .val (.int (((p2.toUInt32 >>> ((5 : Int32) &&& 31).toUInt32).toInt32) &&& (3 : Int32))), .val (.ref b101), .unset, .unset, .unset, .unset, .unset, .unset, .unset, .unset, .unset, .unset, .unset] [])) _
  refine XS.aload X102.here hx rfl (hb hby at_59) rfl rfl ?_
  show Steps p.tables e below (T102.setTop (mkF m 61 #[.val (.int p0), .val (.int p1), .val (.int p2), .val (.int p3), .val (.int cu), .val (.int d), .val (.int (0 : Int32)), .val (.int (((p2.toUInt32 >>> ((5 : Int32) &&& 31).toUInt32).toInt32) &&& (3 : Int32))), .val (.ref b101), .unset, .unset, .unset, .unset, .unset, .unset, .unset, .unset, .unset, .unset, .unset] [(.ref b101)])) _
  refine XS.iconst X102.here hx rfl (hb hby at_61) ?_
  show Steps p.tables e below (T102.setTop (mkF m 62 #[.val (.int p0), .val (.int p1), .val (.int p2), .val (.int p3), .val (.int cu), .val (.int d), .val (.int (0 : Int32)), .val (.int (((p2.toUInt32 >>> ((5 : Int32) &&& 31).toUInt32).toInt32) &&& (3 : Int32))), .val (.ref b101), .unset, .unset, .unset, .unset, .unset, .unset, .unset, .unset, .unset, .unset, .unset] [(.int (1 : Int32)), (.ref b101)])) _
  refine XS.iload X102.here hx rfl (hb hby at_62) rfl ?_
  show Steps p.tables e below (T102.setTop (mkF m 64 #[.val (.int p0), .val (.int p1), .val (.int p2), .val (.int p3), .val (.int cu), .val (.int d), .val (.int (0 : Int32)), .val (.int (((p2.toUInt32 >>> ((5 : Int32) &&& 31).toUInt32).toInt32) &&& (3 : Int32))), .val (.ref b101), .unset, .unset, .unset, .unset, .unset, .unset, .unset, .unset, .unset, .unset, .unset] [(.int cu), (.int (1 : Int32)), (.ref b101)])) _
  refine XS.bipush X102.here hx rfl (hb hby at_64) ?_
  show Steps p.tables e below (T102.setTop (mkF m 66 #[.val (.int p0), .val (.int p1), .val (.int p2), .val (.int p3), .val (.int cu), .val (.int d), .val (.int (0 : Int32)), .val (.int (((p2.toUInt32 >>> ((5 : Int32) &&& 31).toUInt32).toInt32) &&& (3 : Int32))), .val (.ref b101), .unset, .unset, .unset, .unset, .unset, .unset, .unset, .unset, .unset, .unset, .unset] [(.int (8 : Int32)), (.int cu), (.int (1 : Int32)), (.ref b101)])) _
  refine XS.iushr X102.here hx rfl (hb hby at_66) rfl ?_
  show Steps p.tables e below (T102.setTop (mkF m 67 #[.val (.int p0), .val (.int p1), .val (.int p2), .val (.int p3), .val (.int cu), .val (.int d), .val (.int (0 : Int32)), .val (.int (((p2.toUInt32 >>> ((5 : Int32) &&& 31).toUInt32).toInt32) &&& (3 : Int32))), .val (.ref b101), .unset, .unset, .unset, .unset, .unset, .unset, .unset, .unset, .unset, .unset, .unset] [(.int ((cu.toUInt32 >>> ((8 : Int32) &&& 31).toUInt32).toInt32)), (.int (1 : Int32)), (.ref b101)])) _
  refine XS.i2b X102.here hx rfl (hb hby at_67) rfl ?_
  show Steps p.tables e below (T102.setTop (mkF m 68 #[.val (.int p0), .val (.int p1), .val (.int p2), .val (.int p3), .val (.int cu), .val (.int d), .val (.int (0 : Int32)), .val (.int (((p2.toUInt32 >>> ((5 : Int32) &&& 31).toUInt32).toInt32) &&& (3 : Int32))), .val (.ref b101), .unset, .unset, .unset, .unset, .unset, .unset, .unset, .unset, .unset, .unset, .unset] [(.int (((cu.toUInt32 >>> ((8 : Int32) &&& 31).toUInt32).toInt32).toInt8.toInt32)), (.int (1 : Int32)), (.ref b101)])) _
  refine st103 _ ?_
  show Steps p.tables e below (T103.setTop (mkF m 69 #[.val (.int p0), .val (.int p1), .val (.int p2), .val (.int p3), .val (.int cu), .val (.int d), .val (.int (0 : Int32)), .val (.int (((p2.toUInt32 >>> ((5 : Int32) &&& 31).toUInt32).toInt32) &&& (3 : Int32))), .val (.ref b101), .unset, .unset, .unset, .unset, .unset, .unset, .unset, .unset, .unset, .unset, .unset] [])) _
  refine XS.iload X103.here hx rfl (hb hby at_69) rfl ?_
  show Steps p.tables e below (T103.setTop (mkF m 71 #[.val (.int p0), .val (.int p1), .val (.int p2), .val (.int p3), .val (.int cu), .val (.int d), .val (.int (0 : Int32)), .val (.int (((p2.toUInt32 >>> ((5 : Int32) &&& 31).toUInt32).toInt32) &&& (3 : Int32))), .val (.ref b101), .unset, .unset, .unset, .unset, .unset, .unset, .unset, .unset, .unset, .unset, .unset] [(.int (0 : Int32))])) _
  refine XS.ifYes X103.here hx rfl (pc0 := 71) (pc' := 80) rfl (hb hby at_71) rfl ((if0 _ _).trans (teq rfl).1) (by decide) (by decide) ?_
  show Steps p.tables e below (T103.setTop (mkF m 80 #[.val (.int p0), .val (.int p1), .val (.int p2), .val (.int p3), .val (.int cu), .val (.int d), .val (.int (0 : Int32)), .val (.int (((p2.toUInt32 >>> ((5 : Int32) &&& 31).toUInt32).toInt32) &&& (3 : Int32))), .val (.ref b101), .unset, .unset, .unset, .unset, .unset, .unset, .unset, .unset, .unset, .unset, .unset] [])) _
  refine XS.iconst X103.here hx rfl (hb hby at_80) ?_
  show Steps p.tables e below (T103.setTop (mkF m 81 #[.val (.int p0), .val (.int p1), .val (.int p2), .val (.int p3), .val (.int cu), .val (.int d), .val (.int (0 : Int32)), .val (.int (((p2.toUInt32 >>> ((5 : Int32) &&& 31).toUInt32).toInt32) &&& (3 : Int32))), .val (.ref b101), .unset, .unset, .unset, .unset, .unset, .unset, .unset, .unset, .unset, .unset, .unset] [(.int (2 : Int32))])) _
  refine st104 _ ?_
  show Steps p.tables e below (T104.setTop (mkF m 83 #[.val (.int p0), .val (.int p1), .val (.int p2), .val (.int p3), .val (.int cu), .val (.int d), .val (.int (0 : Int32)), .val (.int (((p2.toUInt32 >>> ((5 : Int32) &&& 31).toUInt32).toInt32) &&& (3 : Int32))), .val (.ref b101), .unset, .unset, .unset, .unset, .unset, .unset, .unset, .unset, .unset, .unset, .unset] [(.ref b104)])) _
  refine XS.astore X104.here hx rfl (hb hby at_83) rfl rfl (l' := #[.val (.int p0), .val (.int p1), .val (.int p2), .val (.int p3), .val (.int cu), .val (.int d), .val (.int (0 : Int32)), .val (.int (((p2.toUInt32 >>> ((5 : Int32) &&& 31).toUInt32).toInt32) &&& (3 : Int32))), .val (.ref b101), .val (.ref b104), .unset, .unset, .unset, .unset, .unset, .unset, .unset, .unset, .unset, .unset]) rfl ?_
  show Steps p.tables e below (T104.setTop (mkF m 85 #[.val (.int p0), .val (.int p1), .val (.int p2), .val (.int p3), .val (.int cu), .val (.int d), .val (.int (0 : Int32)), .val (.int (((p2.toUInt32 >>> ((5 : Int32) &&& 31).toUInt32).toInt32) &&& (3 : Int32))), .val (.ref b101), .val (.ref b104), .unset, .unset, .unset, .unset, .unset, .unset, .unset, .unset, .unset, .unset] [])) _
  refine XS.aload X104.here hx rfl (hb hby at_85) rfl rfl ?_
  show Steps p.tables e below (T104.setTop (mkF m 87 #[.val (.int p0), .val (.int p1), .val (.int p2), .val (.int p3), .val (.int cu), .val (.int d), .val (.int (0 : Int32)), .val (.int (((p2.toUInt32 >>> ((5 : Int32) &&& 31).toUInt32).toInt32) &&& (3 : Int32))), .val (.ref b101), .val (.ref b104), .unset, .unset, .unset, .unset, .unset, .unset, .unset, .unset, .unset, .unset] [(.ref b104)])) _
  refine XS.iconst X104.here hx rfl (hb hby at_87) ?_
  show Steps p.tables e below (T104.setTop (mkF m 88 #[.val (.int p0), .val (.int p1), .val (.int p2), .val (.int p3), .val (.int cu), .val (.int d), .val (.int (0 : Int32)), .val (.int (((p2.toUInt32 >>> ((5 : Int32) &&& 31).toUInt32).toInt32) &&& (3 : Int32))), .val (.ref b101), .val (.ref b104), .unset, .unset, .unset, .unset, .unset, .unset, .unset, .unset, .unset, .unset] [(.int (0 : Int32)), (.ref b104)])) _
  refine XS.iload X104.here hx rfl (hb hby at_88) rfl ?_
  show Steps p.tables e below (T104.setTop (mkF m 90 #[.val (.int p0), .val (.int p1), .val (.int p2), .val (.int p3), .val (.int cu), .val (.int d), .val (.int (0 : Int32)), .val (.int (((p2.toUInt32 >>> ((5 : Int32) &&& 31).toUInt32).toInt32) &&& (3 : Int32))), .val (.ref b101), .val (.ref b104), .unset, .unset, .unset, .unset, .unset, .unset, .unset, .unset, .unset, .unset] [(.int d), (.int (0 : Int32)), (.ref b104)])) _
  refine XS.i2b X104.here hx rfl (hb hby at_90) rfl ?_
  show Steps p.tables e below (T104.setTop (mkF m 91 #[.val (.int p0), .val (.int p1), .val (.int p2), .val (.int p3), .val (.int cu), .val (.int d), .val (.int (0 : Int32)), .val (.int (((p2.toUInt32 >>> ((5 : Int32) &&& 31).toUInt32).toInt32) &&& (3 : Int32))), .val (.ref b101), .val (.ref b104), .unset, .unset, .unset, .unset, .unset, .unset, .unset, .unset, .unset, .unset] [(.int (d.toInt8.toInt32)), (.int (0 : Int32)), (.ref b104)])) _
  refine st106 _ ?_
  show Steps p.tables e below (T106.setTop (mkF m 92 #[.val (.int p0), .val (.int p1), .val (.int p2), .val (.int p3), .val (.int cu), .val (.int d), .val (.int (0 : Int32)), .val (.int (((p2.toUInt32 >>> ((5 : Int32) &&& 31).toUInt32).toInt32) &&& (3 : Int32))), .val (.ref b101), .val (.ref b104), .unset, .unset, .unset, .unset, .unset, .unset, .unset, .unset, .unset, .unset] [])) _
  refine XS.aload X106.here hx rfl (hb hby at_92) rfl rfl ?_
  show Steps p.tables e below (T106.setTop (mkF m 94 #[.val (.int p0), .val (.int p1), .val (.int p2), .val (.int p3), .val (.int cu), .val (.int d), .val (.int (0 : Int32)), .val (.int (((p2.toUInt32 >>> ((5 : Int32) &&& 31).toUInt32).toInt32) &&& (3 : Int32))), .val (.ref b101), .val (.ref b104), .unset, .unset, .unset, .unset, .unset, .unset, .unset, .unset, .unset, .unset] [(.ref b104)])) _
  refine XS.iconst X106.here hx rfl (hb hby at_94) ?_
  show Steps p.tables e below (T106.setTop (mkF m 95 #[.val (.int p0), .val (.int p1), .val (.int p2), .val (.int p3), .val (.int cu), .val (.int d), .val (.int (0 : Int32)), .val (.int (((p2.toUInt32 >>> ((5 : Int32) &&& 31).toUInt32).toInt32) &&& (3 : Int32))), .val (.ref b101), .val (.ref b104), .unset, .unset, .unset, .unset, .unset, .unset, .unset, .unset, .unset, .unset] [(.int (1 : Int32)), (.ref b104)])) _
  refine XS.iload X106.here hx rfl (hb hby at_95) rfl ?_
  show Steps p.tables e below (T106.setTop (mkF m 97 #[.val (.int p0), .val (.int p1), .val (.int p2), .val (.int p3), .val (.int cu), .val (.int d), .val (.int (0 : Int32)), .val (.int (((p2.toUInt32 >>> ((5 : Int32) &&& 31).toUInt32).toInt32) &&& (3 : Int32))), .val (.ref b101), .val (.ref b104), .unset, .unset, .unset, .unset, .unset, .unset, .unset, .unset, .unset, .unset] [(.int d), (.int (1 : Int32)), (.ref b104)])) _
  refine XS.bipush X106.here hx rfl (hb hby at_97) ?_
  show Steps p.tables e below (T106.setTop (mkF m 99 #[.val (.int p0), .val (.int p1), .val (.int p2), .val (.int p3), .val (.int cu), .val (.int d), .val (.int (0 : Int32)), .val (.int (((p2.toUInt32 >>> ((5 : Int32) &&& 31).toUInt32).toInt32) &&& (3 : Int32))), .val (.ref b101), .val (.ref b104), .unset, .unset, .unset, .unset, .unset, .unset, .unset, .unset, .unset, .unset] [(.int (8 : Int32)), (.int d), (.int (1 : Int32)), (.ref b104)])) _
  refine XS.iushr X106.here hx rfl (hb hby at_99) rfl ?_
  show Steps p.tables e below (T106.setTop (mkF m 100 #[.val (.int p0), .val (.int p1), .val (.int p2), .val (.int p3), .val (.int cu), .val (.int d), .val (.int (0 : Int32)), .val (.int (((p2.toUInt32 >>> ((5 : Int32) &&& 31).toUInt32).toInt32) &&& (3 : Int32))), .val (.ref b101), .val (.ref b104), .unset, .unset, .unset, .unset, .unset, .unset, .unset, .unset, .unset, .unset] [(.int ((d.toUInt32 >>> ((8 : Int32) &&& 31).toUInt32).toInt32)), (.int (1 : Int32)), (.ref b104)])) _
  refine XS.i2b X106.here hx rfl (hb hby at_100) rfl ?_
  show Steps p.tables e below (T106.setTop (mkF m 101 #[.val (.int p0), .val (.int p1), .val (.int p2), .val (.int p3), .val (.int cu), .val (.int d), .val (.int (0 : Int32)), .val (.int (((p2.toUInt32 >>> ((5 : Int32) &&& 31).toUInt32).toInt32) &&& (3 : Int32))), .val (.ref b101), .val (.ref b104), .unset, .unset, .unset, .unset, .unset, .unset, .unset, .unset, .unset, .unset] [(.int (((d.toUInt32 >>> ((8 : Int32) &&& 31).toUInt32).toInt32).toInt8.toInt32)), (.int (1 : Int32)), (.ref b104)])) _
  refine st107 _ ?_
  show Steps p.tables e below (T107.setTop (mkF m 102 #[.val (.int p0), .val (.int p1), .val (.int p2), .val (.int p3), .val (.int cu), .val (.int d), .val (.int (0 : Int32)), .val (.int (((p2.toUInt32 >>> ((5 : Int32) &&& 31).toUInt32).toInt32) &&& (3 : Int32))), .val (.ref b101), .val (.ref b104), .unset, .unset, .unset, .unset, .unset, .unset, .unset, .unset, .unset, .unset] [])) _
  refine XS.bipush X107.here hx rfl (hb hby at_102) ?_
  show Steps p.tables e below (T107.setTop (mkF m 104 #[.val (.int p0), .val (.int p1), .val (.int p2), .val (.int p3), .val (.int cu), .val (.int d), .val (.int (0 : Int32)), .val (.int (((p2.toUInt32 >>> ((5 : Int32) &&& 31).toUInt32).toInt32) &&& (3 : Int32))), .val (.ref b101), .val (.ref b104), .unset, .unset, .unset, .unset, .unset, .unset, .unset, .unset, .unset, .unset] [(.int (8 : Int32))])) _
  refine st108 _ ?_
  show Steps p.tables e below (T108.setTop (mkF m 106 #[.val (.int p0), .val (.int p1), .val (.int p2), .val (.int p3), .val (.int cu), .val (.int d), .val (.int (0 : Int32)), .val (.int (((p2.toUInt32 >>> ((5 : Int32) &&& 31).toUInt32).toInt32) &&& (3 : Int32))), .val (.ref b101), .val (.ref b104), .unset, .unset, .unset, .unset, .unset, .unset, .unset, .unset, .unset, .unset] [(.ref b108)])) _
  refine XS.astore X108.here hx rfl (hb hby at_106) rfl rfl (l' := #[.val (.int p0), .val (.int p1), .val (.int p2), .val (.int p3), .val (.int cu), .val (.int d), .val (.int (0 : Int32)), .val (.int (((p2.toUInt32 >>> ((5 : Int32) &&& 31).toUInt32).toInt32) &&& (3 : Int32))), .val (.ref b101), .val (.ref b104), .val (.ref b108), .unset, .unset, .unset, .unset, .unset, .unset, .unset, .unset, .unset]) rfl ?_
  show Steps p.tables e below (T108.setTop (mkF m 108 #[.val (.int p0), .val (.int p1), .val (.int p2), .val (.int p3), .val (.int cu), .val (.int d), .val (.int (0 : Int32)), .val (.int (((p2.toUInt32 >>> ((5 : Int32) &&& 31).toUInt32).toInt32) &&& (3 : Int32))), .val (.ref b101), .val (.ref b104), .val (.ref b108), .unset, .unset, .unset, .unset, .unset, .unset, .unset, .unset, .unset] [])) _
  refine XS.iconst X108.here hx rfl (hb hby at_108) ?_
  show Steps p.tables e below (T108.setTop (mkF m 109 #[.val (.int p0), .val (.int p1), .val (.int p2), .val (.int p3), .val (.int cu), .val (.int d), .val (.int (0 : Int32)), .val (.int (((p2.toUInt32 >>> ((5 : Int32) &&& 31).toUInt32).toInt32) &&& (3 : Int32))), .val (.ref b101), .val (.ref b104), .val (.ref b108), .unset, .unset, .unset, .unset, .unset, .unset, .unset, .unset, .unset] [(.int (4 : Int32))])) _
  refine st111 _ ?_
  show Steps p.tables e below (T111.setTop (mkF m 111 #[.val (.int p0), .val (.int p1), .val (.int p2), .val (.int p3), .val (.int cu), .val (.int d), .val (.int (0 : Int32)), .val (.int (((p2.toUInt32 >>> ((5 : Int32) &&& 31).toUInt32).toInt32) &&& (3 : Int32))), .val (.ref b101), .val (.ref b104), .val (.ref b108), .unset, .unset, .unset, .unset, .unset, .unset, .unset, .unset, .unset] [(.ref b111)])) _
  refine XS.astore X111.here hx rfl (hb hby at_111) rfl rfl (l' := #[.val (.int p0), .val (.int p1), .val (.int p2), .val (.int p3), .val (.int cu), .val (.int d), .val (.int (0 : Int32)), .val (.int (((p2.toUInt32 >>> ((5 : Int32) &&& 31).toUInt32).toInt32) &&& (3 : Int32))), .val (.ref b101), .val (.ref b104), .val (.ref b108), .val (.ref b111), .unset, .unset, .unset, .unset, .unset, .unset, .unset, .unset]) rfl ?_
  show Steps p.tables e below (T111.setTop (mkF m 113 #[.val (.int p0), .val (.int p1), .val (.int p2), .val (.int p3), .val (.int cu), .val (.int d), .val (.int (0 : Int32)), .val (.int (((p2.toUInt32 >>> ((5 : Int32) &&& 31).toUInt32).toInt32) &&& (3 : Int32))), .val (.ref b101), .val (.ref b104), .val (.ref b108), .val (.ref b111), .unset, .unset, .unset, .unset, .unset, .unset, .unset, .unset] [])) _
  refine st114 _ ?_
  show Steps p.tables e below (T114.setTop (mkF m 116 #[.val (.int p0), .val (.int p1), .val (.int p2), .val (.int p3), .val (.int cu), .val (.int d), .val (.int (0 : Int32)), .val (.int (((p2.toUInt32 >>> ((5 : Int32) &&& 31).toUInt32).toInt32) &&& (3 : Int32))), .val (.ref b101), .val (.ref b104), .val (.ref b108), .val (.ref b111), .unset, .unset, .unset, .unset, .unset, .unset, .unset, .unset] [(.ref b114)])) _
  refine XS.dup X114.here hx rfl (hb hby at_116) rfl rfl ?_
  show Steps p.tables e below (T114.setTop (mkF m 117 #[.val (.int p0), .val (.int p1), .val (.int p2), .val (.int p3), .val (.int cu), .val (.int d), .val (.int (0 : Int32)), .val (.int (((p2.toUInt32 >>> ((5 : Int32) &&& 31).toUInt32).toInt32) &&& (3 : Int32))), .val (.ref b101), .val (.ref b104), .val (.ref b108), .val (.ref b111), .unset, .unset, .unset, .unset, .unset, .unset, .unset, .unset] [(.ref b114), (.ref b114)])) _
  refine st118.trans ?_
  show Steps p.tables e below (T118.setTop (mkF m 120 #[.val (.int p0), .val (.int p1), .val (.int p2), .val (.int p3), .val (.int cu), .val (.int d), .val (.int (0 : Int32)), .val (.int (((p2.toUInt32 >>> ((5 : Int32) &&& 31).toUInt32).toInt32) &&& (3 : Int32))), .val (.ref b101), .val (.ref b104), .val (.ref b108), .val (.ref b111), .unset, .unset, .unset, .unset, .unset, .unset, .unset, .unset] [(.ref b114)])) _
  refine XS.astore X118.here hx rfl (hb hby at_120) rfl rfl (l' := #[.val (.int p0), .val (.int p1), .val (.int p2), .val (.int p3), .val (.int cu), .val (.int d), .val (.int (0 : Int32)), .val (.int (((p2.toUInt32 >>> ((5 : Int32) &&& 31).toUInt32).toInt32) &&& (3 : Int32))), .val (.ref b101), .val (.ref b104), .val (.ref b108), .val (.ref b111), .val (.ref b114), .unset, .unset, .unset, .unset, .unset, .unset, .unset]) rfl ?_
  show Steps p.tables e below (T118.setTop (mkF m 122 #[.val (.int p0), .val (.int p1), .val (.int p2), .val (.int p3), .val (.int cu), .val (.int d), .val (.int (0 : Int32)), .val (.int (((p2.toUInt32 >>> ((5 : Int32) &&& 31).toUInt32).toInt32) &&& (3 : Int32))), .val (.ref b101), .val (.ref b104), .val (.ref b108), .val (.ref b111), .val (.ref b114), .unset, .unset, .unset, .unset, .unset, .unset, .unset] [])) _
  refine XS.aload X118.here hx rfl (hb hby at_122) rfl rfl ?_
  show Steps p.tables e below (T118.setTop (mkF m 124 #[.val (.int p0), .val (.int p1), .val (.int p2), .val (.int p3), .val (.int cu), .val (.int d), .val (.int (0 : Int32)), .val (.int (((p2.toUInt32 >>> ((5 : Int32) &&& 31).toUInt32).toInt32) &&& (3 : Int32))), .val (.ref b101), .val (.ref b104), .val (.ref b108), .val (.ref b111), .val (.ref b114), .unset, .unset, .unset, .unset, .unset, .unset, .unset] [(.ref b114)])) _
  refine XS.aload X118.here hx rfl (hb hby at_124) rfl rfl ?_
  show Steps p.tables e below (T118.setTop (mkF m 126 #[.val (.int p0), .val (.int p1), .val (.int p2), .val (.int p3), .val (.int cu), .val (.int d), .val (.int (0 : Int32)), .val (.int (((p2.toUInt32 >>> ((5 : Int32) &&& 31).toUInt32).toInt32) &&& (3 : Int32))), .val (.ref b101), .val (.ref b104), .val (.ref b108), .val (.ref b111), .val (.ref b114), .unset, .unset, .unset, .unset, .unset, .unset, .unset] [(.ref b101), (.ref b114)])) _
  refine XS.iconst X118.here hx rfl (hb hby at_126) ?_
  show Steps p.tables e below (T118.setTop (mkF m 127 #[.val (.int p0), .val (.int p1), .val (.int p2), .val (.int p3), .val (.int cu), .val (.int d), .val (.int (0 : Int32)), .val (.int (((p2.toUInt32 >>> ((5 : Int32) &&& 31).toUInt32).toInt32) &&& (3 : Int32))), .val (.ref b101), .val (.ref b104), .val (.ref b108), .val (.ref b111), .val (.ref b114), .unset, .unset, .unset, .unset, .unset, .unset, .unset] [(.int (0 : Int32)), (.ref b101), (.ref b114)])) _
  refine XS.aload X118.here hx rfl (hb hby at_127) rfl rfl ?_
  show Steps p.tables e below (T118.setTop (mkF m 129 #[.val (.int p0), .val (.int p1), .val (.int p2), .val (.int p3), .val (.int cu), .val (.int d), .val (.int (0 : Int32)), .val (.int (((p2.toUInt32 >>> ((5 : Int32) &&& 31).toUInt32).toInt32) &&& (3 : Int32))), .val (.ref b101), .val (.ref b104), .val (.ref b108), .val (.ref b111), .val (.ref b114), .unset, .unset, .unset, .unset, .unset, .unset, .unset] [(.ref b101), (.int (0 : Int32)), (.ref b101), (.ref b114)])) _
  refine own_len X118 hx hZ rfl f119 (z := (2 : Int32)) rfl (g := (mkF m 129 #[.val (.int p0), .val (.int p1), .val (.int p2), .val (.int p3), .val (.int cu), .val (.int d), .val (.int (0 : Int32)), .val (.int (((p2.toUInt32 >>> ((5 : Int32) &&& 31).toUInt32).toInt32) &&& (3 : Int32))), .val (.ref b101), .val (.ref b104), .val (.ref b108), .val (.ref b111), .val (.ref b114), .unset, .unset, .unset, .unset, .unset, .unset, .unset] [(.ref b101), (.int (0 : Int32)), (.ref b101), (.ref b114)])) rfl rfl (hb hby at_129) _ ?_
  show Steps p.tables e below (T118.setTop (mkF m 130 #[.val (.int p0), .val (.int p1), .val (.int p2), .val (.int p3), .val (.int cu), .val (.int d), .val (.int (0 : Int32)), .val (.int (((p2.toUInt32 >>> ((5 : Int32) &&& 31).toUInt32).toInt32) &&& (3 : Int32))), .val (.ref b101), .val (.ref b104), .val (.ref b108), .val (.ref b111), .val (.ref b114), .unset, .unset, .unset, .unset, .unset, .unset, .unset] [(.int (2 : Int32)), (.int (0 : Int32)), (.ref b101), (.ref b114)])) _
  refine XS.aload X118.here hx rfl (hb hby at_130) rfl rfl ?_
  show Steps p.tables e below (T118.setTop (mkF m 132 #[.val (.int p0), .val (.int p1), .val (.int p2), .val (.int p3), .val (.int cu), .val (.int d), .val (.int (0 : Int32)), .val (.int (((p2.toUInt32 >>> ((5 : Int32) &&& 31).toUInt32).toInt32) &&& (3 : Int32))), .val (.ref b101), .val (.ref b104), .val (.ref b108), .val (.ref b111), .val (.ref b114), .unset, .unset, .unset, .unset, .unset, .unset, .unset] [(.ref b108), (.int (2 : Int32)), (.int (0 : Int32)), (.ref b101), (.ref b114)])) _
  refine XS.iconst X118.here hx rfl (hb hby at_132) ?_
  show Steps p.tables e below (T118.setTop (mkF m 133 #[.val (.int p0), .val (.int p1), .val (.int p2), .val (.int p3), .val (.int cu), .val (.int d), .val (.int (0 : Int32)), .val (.int (((p2.toUInt32 >>> ((5 : Int32) &&& 31).toUInt32).toInt32) &&& (3 : Int32))), .val (.ref b101), .val (.ref b104), .val (.ref b108), .val (.ref b111), .val (.ref b114), .unset, .unset, .unset, .unset, .unset, .unset, .unset] [(.int (0 : Int32)), (.ref b108), (.int (2 : Int32)), (.int (0 : Int32)), (.ref b101), (.ref b114)])) _
  refine st121.trans ?_
  show Steps p.tables e below (T121.setTop (mkF m 136 #[.val (.int p0), .val (.int p1), .val (.int p2), .val (.int p3), .val (.int cu), .val (.int d), .val (.int (0 : Int32)), .val (.int (((p2.toUInt32 >>> ((5 : Int32) &&& 31).toUInt32).toInt32) &&& (3 : Int32))), .val (.ref b101), .val (.ref b104), .val (.ref b108), .val (.ref b111), .val (.ref b114), .unset, .unset, .unset, .unset, .unset, .unset, .unset] [(.int (1 : Int32))])) _
  refine XS.istore X121.here hx rfl (hb hby at_136) rfl (l' := #[.val (.int p0), .val (.int p1), .val (.int p2), .val (.int p3), .val (.int cu), .val (.int d), .val (.int (0 : Int32)), .val (.int (((p2.toUInt32 >>> ((5 : Int32) &&& 31).toUInt32).toInt32) &&& (3 : Int32))), .val (.ref b101), .val (.ref b104), .val (.ref b108), .val (.ref b111), .val (.ref b114), .val (.int (1 : Int32)), .unset, .unset, .unset, .unset, .unset, .unset]) rfl ?_
  show Steps p.tables e below (T121.setTop (mkF m 138 #[.val (.int p0), .val (.int p1), .val (.int p2), .val (.int p3), .val (.int cu), .val (.int d), .val (.int (0 : Int32)), .val (.int (((p2.toUInt32 >>> ((5 : Int32) &&& 31).toUInt32).toInt32) &&& (3 : Int32))), .val (.ref b101), .val (.ref b104), .val (.ref b108), .val (.ref b111), .val (.ref b114), .val (.int (1 : Int32)), .unset, .unset, .unset, .unset, .unset, .unset] [])) _
  refine XS.iload X121.here hx rfl (hb hby at_138) rfl ?_
  show Steps p.tables e below (T121.setTop (mkF m 140 #[.val (.int p0), .val (.int p1), .val (.int p2), .val (.int p3), .val (.int cu), .val (.int d), .val (.int (0 : Int32)), .val (.int (((p2.toUInt32 >>> ((5 : Int32) &&& 31).toUInt32).toInt32) &&& (3 : Int32))), .val (.ref b101), .val (.ref b104), .val (.ref b108), .val (.ref b111), .val (.ref b114), .val (.int (1 : Int32)), .unset, .unset, .unset, .unset, .unset, .unset] [(.int cu)])) _
  refine st122 _ ?_
  show Steps p.tables e below (T122.setTop (mkF m 143 #[.val (.int p0), .val (.int p1), .val (.int p2), .val (.int p3), .val (.int cu), .val (.int d), .val (.int (0 : Int32)), .val (.int (((p2.toUInt32 >>> ((5 : Int32) &&& 31).toUInt32).toInt32) &&& (3 : Int32))), .val (.ref b101), .val (.ref b104), .val (.ref b108), .val (.ref b111), .val (.ref b114), .val (.int (1 : Int32)), .unset, .unset, .unset, .unset, .unset, .unset] [(.int (0 : Int32))])) _
  refine XS.istore X122.here hx rfl (hb hby at_143) rfl (l' := #[.val (.int p0), .val (.int p1), .val (.int p2), .val (.int p3), .val (.int cu), .val (.int d), .val (.int (0 : Int32)), .val (.int (((p2.toUInt32 >>> ((5 : Int32) &&& 31).toUInt32).toInt32) &&& (3 : Int32))), .val (.ref b101), .val (.ref b104), .val (.ref b108), .val (.ref b111), .val (.ref b114), .val (.int (1 : Int32)), .val (.int (0 : Int32)), .unset, .unset, .unset, .unset, .unset]) rfl ?_
  show Steps p.tables e below (T122.setTop (mkF m 145 #[.val (.int p0), .val (.int p1), .val (.int p2), .val (.int p3), .val (.int cu), .val (.int d), .val (.int (0 : Int32)), .val (.int (((p2.toUInt32 >>> ((5 : Int32) &&& 31).toUInt32).toInt32) &&& (3 : Int32))), .val (.ref b101), .val (.ref b104), .val (.ref b108), .val (.ref b111), .val (.ref b114), .val (.int (1 : Int32)), .val (.int (0 : Int32)), .unset, .unset, .unset, .unset, .unset] [])) _
  refine XS.iload X122.here hx rfl (hb hby at_145) rfl ?_
  show Steps p.tables e below (T122.setTop (mkF m 147 #[.val (.int p0), .val (.int p1), .val (.int p2), .val (.int p3), .val (.int cu), .val (.int d), .val (.int (0 : Int32)), .val (.int (((p2.toUInt32 >>> ((5 : Int32) &&& 31).toUInt32).toInt32) &&& (3 : Int32))), .val (.ref b101), .val (.ref b104), .val (.ref b108), .val (.ref b111), .val (.ref b114), .val (.int (1 : Int32)), .val (.int (0 : Int32)), .unset, .unset, .unset, .unset, .unset] [(.int (1 : Int32))])) _
  refine XS.iload X122.here hx rfl (hb hby at_147) rfl ?_
  show Steps p.tables e below (T122.setTop (mkF m 149 #[.val (.int p0), .val (.int p1), .val (.int p2), .val (.int p3), .val (.int cu), .val (.int d), .val (.int (0 : Int32)), .val (.int (((p2.toUInt32 >>> ((5 : Int32) &&& 31).toUInt32).toInt32) &&& (3 : Int32))), .val (.ref b101), .val (.ref b104), .val (.ref b108), .val (.ref b111), .val (.ref b114), .val (.int (1 : Int32)), .val (.int (0 : Int32)), .unset, .unset, .unset, .unset, .unset] [(.int (0 : Int32)), (.int (1 : Int32))])) _
  refine XS.ifYes X122.here hx rfl (pc0 := 149) (pc' := 156) rfl (hb hby at_149) rfl ((if0 _ _).trans (teq rfl).1) (by decide) (by decide) ?_
  show Steps p.tables e below (T122.setTop (mkF m 156 #[.val (.int p0), .val (.int p1), .val (.int p2), .val (.int p3), .val (.int cu), .val (.int d), .val (.int (0 : Int32)), .val (.int (((p2.toUInt32 >>> ((5 : Int32) &&& 31).toUInt32).toInt32) &&& (3 : Int32))), .val (.ref b101), .val (.ref b104), .val (.ref b108), .val (.ref b111), .val (.ref b114), .val (.int (1 : Int32)), .val (.int (0 : Int32)), .unset, .unset, .unset, .unset, .unset] [(.int (1 : Int32))])) _
  refine XS.iconst X122.here hx rfl (hb hby at_156) ?_
  show Steps p.tables e below (T122.setTop (mkF m 157 #[.val (.int p0), .val (.int p1), .val (.int p2), .val (.int p3), .val (.int cu), .val (.int d), .val (.int (0 : Int32)), .val (.int (((p2.toUInt32 >>> ((5 : Int32) &&& 31).toUInt32).toInt32) &&& (3 : Int32))), .val (.ref b101), .val (.ref b104), .val (.ref b108), .val (.ref b111), .val (.ref b114), .val (.int (1 : Int32)), .val (.int (0 : Int32)), .unset, .unset, .unset, .unset, .unset] [(.int (1 : Int32)), (.int (1 : Int32))])) _
  refine XS.icmpNo X122.here hx rfl (hb hby at_157) rfl (teq rfl).2 ?_
  show Steps p.tables e below (T122.setTop (mkF m 160 #[.val (.int p0), .val (.int p1), .val (.int p2), .val (.int p3), .val (.int cu), .val (.int d), .val (.int (0 : Int32)), .val (.int (((p2.toUInt32 >>> ((5 : Int32) &&& 31).toUInt32).toInt32) &&& (3 : Int32))), .val (.ref b101), .val (.ref b104), .val (.ref b108), .val (.ref b111), .val (.ref b114), .val (.int (1 : Int32)), .val (.int (0 : Int32)), .unset, .unset, .unset, .unset, .unset] [])) _
  refine XS.iconst X122.here hx rfl (hb hby at_160) ?_
  show Steps p.tables e below (T122.setTop (mkF m 161 #[.val (.int p0), .val (.int p1), .val (.int p2), .val (.int p3), .val (.int cu), .val (.int d), .val (.int (0 : Int32)), .val (.int (((p2.toUInt32 >>> ((5 : Int32) &&& 31).toUInt32).toInt32) &&& (3 : Int32))), .val (.ref b101), .val (.ref b104), .val (.ref b108), .val (.ref b111), .val (.ref b114), .val (.int (1 : Int32)), .val (.int (0 : Int32)), .unset, .unset, .unset, .unset, .unset] [(.int (1 : Int32))])) _
  refine XS.goto X122.here hx rfl (pc0 := 161) (pc' := 165) rfl (hb hby at_161) (by decide) (by decide) ?_
  show Steps p.tables e below (T122.setTop (mkF m 165 #[.val (.int p0), .val (.int p1), .val (.int p2), .val (.int p3), .val (.int cu), .val (.int d), .val (.int (0 : Int32)), .val (.int (((p2.toUInt32 >>> ((5 : Int32) &&& 31).toUInt32).toInt32) &&& (3 : Int32))), .val (.ref b101), .val (.ref b104), .val (.ref b108), .val (.ref b111), .val (.ref b114), .val (.int (1 : Int32)), .val (.int (0 : Int32)), .unset, .unset, .unset, .unset, .unset] [(.int (1 : Int32))])) _
  refine XS.istore X122.here hx rfl (hb hby at_165) rfl (l' := #[.val (.int p0), .val (.int p1), .val (.int p2), .val (.int p3), .val (.int cu), .val (.int d), .val (.int (0 : Int32)), .val (.int (((p2.toUInt32 >>> ((5 : Int32) &&& 31).toUInt32).toInt32) &&& (3 : Int32))), .val (.ref b101), .val (.ref b104), .val (.ref b108), .val (.ref b111), .val (.ref b114), .val (.int (1 : Int32)), .val (.int (0 : Int32)), .val (.int (1 : Int32)), .unset, .unset, .unset, .unset]) rfl ?_
  show Steps p.tables e below (T122.setTop (mkF m 167 #[.val (.int p0), .val (.int p1), .val (.int p2), .val (.int p3), .val (.int cu), .val (.int d), .val (.int (0 : Int32)), .val (.int (((p2.toUInt32 >>> ((5 : Int32) &&& 31).toUInt32).toInt32) &&& (3 : Int32))), .val (.ref b101), .val (.ref b104), .val (.ref b108), .val (.ref b111), .val (.ref b114), .val (.int (1 : Int32)), .val (.int (0 : Int32)), .val (.int (1 : Int32)), .unset, .unset, .unset, .unset] [])) _
  refine XS.iload X122.here hx rfl (hb hby at_167) rfl ?_
  show Steps p.tables e below (T122.setTop (mkF m 169 #[.val (.int p0), .val (.int p1), .val (.int p2), .val (.int p3), .val (.int cu), .val (.int d), .val (.int (0 : Int32)), .val (.int (((p2.toUInt32 >>> ((5 : Int32) &&& 31).toUInt32).toInt32) &&& (3 : Int32))), .val (.ref b101), .val (.ref b104), .val (.ref b108), .val (.ref b111), .val (.ref b114), .val (.int (1 : Int32)), .val (.int (0 : Int32)), .val (.int (1 : Int32)), .unset, .unset, .unset, .unset] [(.int (1 : Int32))])) _
  refine XS.iload X122.here hx rfl (hb hby at_169) rfl ?_
  show Steps p.tables e below (T122.setTop (mkF m 171 #[.val (.int p0), .val (.int p1), .val (.int p2), .val (.int p3), .val (.int cu), .val (.int d), .val (.int (0 : Int32)), .val (.int (((p2.toUInt32 >>> ((5 : Int32) &&& 31).toUInt32).toInt32) &&& (3 : Int32))), .val (.ref b101), .val (.ref b104), .val (.ref b108), .val (.ref b111), .val (.ref b114), .val (.int (1 : Int32)), .val (.int (0 : Int32)), .val (.int (1 : Int32)), .unset, .unset, .unset, .unset] [(.int (((p2.toUInt32 >>> ((5 : Int32) &&& 31).toUInt32).toInt32) &&& (3 : Int32))), (.int (1 : Int32))])) _
  refine XS.iadd X122.here hx rfl (hb hby at_171) rfl ?_
  show Steps p.tables e below (T122.setTop (mkF m 172 #[.val (.int p0), .val (.int p1), .val (.int p2), .val (.int p3), .val (.int cu), .val (.int d), .val (.int (0 : Int32)), .val (.int (((p2.toUInt32 >>> ((5 : Int32) &&& 31).toUInt32).toInt32) &&& (3 : Int32))), .val (.ref b101), .val (.ref b104), .val (.ref b108), .val (.ref b111), .val (.ref b114), .val (.int (1 : Int32)), .val (.int (0 : Int32)), .val (.int (1 : Int32)), .unset, .unset, .unset, .unset] [(.int ((1 : Int32) + (((p2.toUInt32 >>> ((5 : Int32) &&& 31).toUInt32).toInt32) &&& (3 : Int32))))])) _
  rw [← hv_aa]
  show Steps p.tables e below (T122.setTop (mkF m 172 #[.val (.int p0), .val (.int p1), .val (.int p2), .val (.int p3), .val (.int cu), .val (.int d), .val (.int (0 : Int32)), .val (.int (((p2.toUInt32 >>> ((5 : Int32) &&& 31).toUInt32).toInt32) &&& (3 : Int32))), .val (.ref b101), .val (.ref b104), .val (.ref b108), .val (.ref b111), .val (.ref b114), .val (.int (1 : Int32)), .val (.int (0 : Int32)), .val (.int (1 : Int32)), .unset, .unset, .unset, .unset] [(.int aa)])) _
  refine XS.istore X122.here hx rfl (hb hby at_172) rfl (l' := #[.val (.int p0), .val (.int p1), .val (.int p2), .val (.int p3), .val (.int cu), .val (.int d), .val (.int (0 : Int32)), .val (.int (((p2.toUInt32 >>> ((5 : Int32) &&& 31).toUInt32).toInt32) &&& (3 : Int32))), .val (.ref b101), .val (.ref b104), .val (.ref b108), .val (.ref b111), .val (.ref b114), .val (.int (1 : Int32)), .val (.int (0 : Int32)), .val (.int (1 : Int32)), .val (.int aa), .unset, .unset, .unset]) rfl ?_
  show Steps p.tables e below (T122.setTop (mkF m 174 #[.val (.int p0), .val (.int p1), .val (.int p2), .val (.int p3), .val (.int cu), .val (.int d), .val (.int (0 : Int32)), .val (.int (((p2.toUInt32 >>> ((5 : Int32) &&& 31).toUInt32).toInt32) &&& (3 : Int32))), .val (.ref b101), .val (.ref b104), .val (.ref b108), .val (.ref b111), .val (.ref b114), .val (.int (1 : Int32)), .val (.int (0 : Int32)), .val (.int (1 : Int32)), .val (.int aa), .unset, .unset, .unset] [])) _
  refine XS.aload X122.here hx rfl (hb hby at_174) rfl rfl ?_
  show Steps p.tables e below (T122.setTop (mkF m 176 #[.val (.int p0), .val (.int p1), .val (.int p2), .val (.int p3), .val (.int cu), .val (.int d), .val (.int (0 : Int32)), .val (.int (((p2.toUInt32 >>> ((5 : Int32) &&& 31).toUInt32).toInt32) &&& (3 : Int32))), .val (.ref b101), .val (.ref b104), .val (.ref b108), .val (.ref b111), .val (.ref b114), .val (.int (1 : Int32)), .val (.int (0 : Int32)), .val (.int (1 : Int32)), .val (.int aa), .unset, .unset, .unset] [(.ref b114)])) _
  refine XS.aload X122.here hx rfl (hb hby at_176) rfl rfl ?_
  show Steps p.tables e below (T122.setTop (mkF m 178 #[.val (.int p0), .val (.int p1), .val (.int p2), .val (.int p3), .val (.int cu), .val (.int d), .val (.int (0 : Int32)), .val (.int (((p2.toUInt32 >>> ((5 : Int32) &&& 31).toUInt32).toInt32) &&& (3 : Int32))), .val (.ref b101), .val (.ref b104), .val (.ref b108), .val (.ref b111), .val (.ref b114), .val (.int (1 : Int32)), .val (.int (0 : Int32)), .val (.int (1 : Int32)), .val (.int aa), .unset, .unset, .unset] [(.ref b108), (.ref b114)])) _
  refine XS.iload X122.here hx rfl (hb hby at_178) rfl ?_
  show Steps p.tables e below (T122.setTop (mkF m 180 #[.val (.int p0), .val (.int p1), .val (.int p2), .val (.int p3), .val (.int cu), .val (.int d), .val (.int (0 : Int32)), .val (.int (((p2.toUInt32 >>> ((5 : Int32) &&& 31).toUInt32).toInt32) &&& (3 : Int32))), .val (.ref b101), .val (.ref b104), .val (.ref b108), .val (.ref b111), .val (.ref b114), .val (.int (1 : Int32)), .val (.int (0 : Int32)), .val (.int (1 : Int32)), .val (.int aa), .unset, .unset, .unset] [(.int aa), (.ref b108), (.ref b114)])) _
  refine st123.trans ?_
  show Steps p.tables e below (T123.setTop (mkF m 183 #[.val (.int p0), .val (.int p1), .val (.int p2), .val (.int p3), .val (.int cu), .val (.int d), .val (.int (0 : Int32)), .val (.int (((p2.toUInt32 >>> ((5 : Int32) &&& 31).toUInt32).toInt32) &&& (3 : Int32))), .val (.ref b101), .val (.ref b104), .val (.ref b108), .val (.ref b111), .val (.ref b114), .val (.int (1 : Int32)), .val (.int (0 : Int32)), .val (.int (1 : Int32)), .val (.int aa), .unset, .unset, .unset] [(.int aa)])) _
  refine XS.istore X123.here hx rfl (hb hby at_183) rfl (l' := #[.val (.int p0), .val (.int p1), .val (.int p2), .val (.int p3), .val (.int cu), .val (.int d), .val (.int (0 : Int32)), .val (.int (((p2.toUInt32 >>> ((5 : Int32) &&& 31).toUInt32).toInt32) &&& (3 : Int32))), .val (.ref b101), .val (.ref b104), .val (.ref b108), .val (.ref b111), .val (.ref b114), .val (.int (1 : Int32)), .val (.int (0 : Int32)), .val (.int (1 : Int32)), .val (.int aa), .val (.int aa), .unset, .unset]) rfl ?_
  show Steps p.tables e below (T123.setTop (mkF m 185 #[.val (.int p0), .val (.int p1), .val (.int p2), .val (.int p3), .val (.int cu), .val (.int d), .val (.int (0 : Int32)), .val (.int (((p2.toUInt32 >>> ((5 : Int32) &&& 31).toUInt32).toInt32) &&& (3 : Int32))), .val (.ref b101), .val (.ref b104), .val (.ref b108), .val (.ref b111), .val (.ref b114), .val (.int (1 : Int32)), .val (.int (0 : Int32)), .val (.int (1 : Int32)), .val (.int aa), .val (.int aa), .unset, .unset] [])) _
  refine XS.iload X123.here hx rfl (hb hby at_185) rfl ?_
  show Steps p.tables e below (T123.setTop (mkF m 187 #[.val (.int p0), .val (.int p1), .val (.int p2), .val (.int p3), .val (.int cu), .val (.int d), .val (.int (0 : Int32)), .val (.int (((p2.toUInt32 >>> ((5 : Int32) &&& 31).toUInt32).toInt32) &&& (3 : Int32))), .val (.ref b101), .val (.ref b104), .val (.ref b108), .val (.ref b111), .val (.ref b114), .val (.int (1 : Int32)), .val (.int (0 : Int32)), .val (.int (1 : Int32)), .val (.int aa), .val (.int aa), .unset, .unset] [(.int (0 : Int32))])) _
  refine XS.ifYes X123.here hx rfl (pc0 := 187) (pc' := 224) rfl (hb hby at_187) rfl ((if0 _ _).trans (teq rfl).1) (by decide) (by decide) ?_
  show Steps p.tables e below (T123.setTop (mkF m 224 #[.val (.int p0), .val (.int p1), .val (.int p2), .val (.int p3), .val (.int cu), .val (.int d), .val (.int (0 : Int32)), .val (.int (((p2.toUInt32 >>> ((5 : Int32) &&& 31).toUInt32).toInt32) &&& (3 : Int32))), .val (.ref b101), .val (.ref b104), .val (.ref b108), .val (.ref b111), .val (.ref b114), .val (.int (1 : Int32)), .val (.int (0 : Int32)), .val (.int (1 : Int32)), .val (.int aa), .val (.int aa), .unset, .unset] [])) _
  refine XS.iload X123.here hx rfl (hb hby at_224) rfl ?_
  show Steps p.tables e below (T123.setTop (mkF m 226 #[.val (.int p0), .val (.int p1), .val (.int p2), .val (.int p3), .val (.int cu), .val (.int d), .val (.int (0 : Int32)), .val (.int (((p2.toUInt32 >>> ((5 : Int32) &&& 31).toUInt32).toInt32) &&& (3 : Int32))), .val (.ref b101), .val (.ref b104), .val (.ref b108), .val (.ref b111), .val (.ref b114), .val (.int (1 : Int32)), .val (.int (0 : Int32)), .val (.int (1 : Int32)), .val (.int aa), .val (.int aa), .unset, .unset] [(.int (1 : Int32))])) _
  refine XS.ifNo X123.here hx rfl (hb hby at_226) rfl ((if0 _ _).trans (feq (by decide : ¬ (1 : Int32) = (0 : Int32))).1) ?_
  show Steps p.tables e below (T123.setTop (mkF m 229 #[.val (.int p0), .val (.int p1), .val (.int p2), .val (.int p3), .val (.int cu), .val (.int d), .val (.int (0 : Int32)), .val (.int (((p2.toUInt32 >>> ((5 : Int32) &&& 31).toUInt32).toInt32) &&& (3 : Int32))), .val (.ref b101), .val (.ref b104), .val (.ref b108), .val (.ref b111), .val (.ref b114), .val (.int (1 : Int32)), .val (.int (0 : Int32)), .val (.int (1 : Int32)), .val (.int aa), .val (.int aa), .unset, .unset] [])) _
  refine XS.iload X123.here hx rfl (hb hby at_229) rfl ?_
  show Steps p.tables e below (T123.setTop (mkF m 231 #[.val (.int p0), .val (.int p1), .val (.int p2), .val (.int p3), .val (.int cu), .val (.int d), .val (.int (0 : Int32)), .val (.int (((p2.toUInt32 >>> ((5 : Int32) &&& 31).toUInt32).toInt32) &&& (3 : Int32))), .val (.ref b101), .val (.ref b104), .val (.ref b108), .val (.ref b111), .val (.ref b114), .val (.int (1 : Int32)), .val (.int (0 : Int32)), .val (.int (1 : Int32)), .val (.int aa), .val (.int aa), .unset, .unset] [(.int aa)])) _
  refine XS.iload X123.here hx rfl (hb hby at_231) rfl ?_
  show Steps p.tables e below (T123.setTop (mkF m 233 #[.val (.int p0), .val (.int p1), .val (.int p2), .val (.int p3), .val (.int cu), .val (.int d), .val (.int (0 : Int32)), .val (.int (((p2.toUInt32 >>> ((5 : Int32) &&& 31).toUInt32).toInt32) &&& (3 : Int32))), .val (.ref b101), .val (.ref b104), .val (.ref b108), .val (.ref b111), .val (.ref b114), .val (.int (1 : Int32)), .val (.int (0 : Int32)), .val (.int (1 : Int32)), .val (.int aa), .val (.int aa), .unset, .unset] [(.int aa), (.int aa)])) _
  refine XS.icmpNo X123.here hx rfl (hb hby at_233) rfl (teq rfl).2 ?_
  show Steps p.tables e below (T123.setTop (mkF m 236 #[.val (.int p0), .val (.int p1), .val (.int p2), .val (.int p3), .val (.int cu), .val (.int d), .val (.int (0 : Int32)), .val (.int (((p2.toUInt32 >>> ((5 : Int32) &&& 31).toUInt32).toInt32) &&& (3 : Int32))), .val (.ref b101), .val (.ref b104), .val (.ref b108), .val (.ref b111), .val (.ref b114), .val (.int (1 : Int32)), .val (.int (0 : Int32)), .val (.int (1 : Int32)), .val (.int aa), .val (.int aa), .unset, .unset] [])) _
  refine XS.aload X123.here hx rfl (hb hby at_236) rfl rfl ?_
  show Steps p.tables e below (T123.setTop (mkF m 238 #[.val (.int p0), .val (.int p1), .val (.int p2), .val (.int p3), .val (.int cu), .val (.int d), .val (.int (0 : Int32)), .val (.int (((p2.toUInt32 >>> ((5 : Int32) &&& 31).toUInt32).toInt32) &&& (3 : Int32))), .val (.ref b101), .val (.ref b104), .val (.ref b108), .val (.ref b111), .val (.ref b114), .val (.int (1 : Int32)), .val (.int (0 : Int32)), .val (.int (1 : Int32)), .val (.int aa), .val (.int aa), .unset, .unset] [(.ref b108)])) _
  refine XS.iload X123.here hx rfl (hb hby at_238) rfl ?_
  show Steps p.tables e below (T123.setTop (mkF m 240 #[.val (.int p0), .val (.int p1), .val (.int p2), .val (.int p3), .val (.int cu), .val (.int d), .val (.int (0 : Int32)), .val (.int (((p2.toUInt32 >>> ((5 : Int32) &&& 31).toUInt32).toInt32) &&& (3 : Int32))), .val (.ref b101), .val (.ref b104), .val (.ref b108), .val (.ref b111), .val (.ref b114), .val (.int (1 : Int32)), .val (.int (0 : Int32)), .val (.int (1 : Int32)), .val (.int aa), .val (.int aa), .unset, .unset] [(.int aa), (.ref b108)])) _
  refine own_ldC X123 hx hZ rfl At123 (j := aa) k hj hk (by omega) (v := (.int (0 : Int32))) (own_off _ _ (by omega)) (g := (mkF m 240 #[.val (.int p0), .val (.int p1), .val (.int p2), .val (.int p3), .val (.int cu), .val (.int d), .val (.int (0 : Int32)), .val (.int (((p2.toUInt32 >>> ((5 : Int32) &&& 31).toUInt32).toInt32) &&& (3 : Int32))), .val (.ref b101), .val (.ref b104), .val (.ref b108), .val (.ref b111), .val (.ref b114), .val (.int (1 : Int32)), .val (.int (0 : Int32)), .val (.int (1 : Int32)), .val (.int aa), .val (.int aa), .unset, .unset] [(.int aa), (.ref b108)])) rfl rfl (hb hby at_240) _ ?_
  show Steps p.tables e below (T123.setTop (mkF m 241 #[.val (.int p0), .val (.int p1), .val (.int p2), .val (.int p3), .val (.int cu), .val (.int d), .val (.int (0 : Int32)), .val (.int (((p2.toUInt32 >>> ((5 : Int32) &&& 31).toUInt32).toInt32) &&& (3 : Int32))), .val (.ref b101), .val (.ref b104), .val (.ref b108), .val (.ref b111), .val (.ref b114), .val (.int (1 : Int32)), .val (.int (0 : Int32)), .val (.int (1 : Int32)), .val (.int aa), .val (.int aa), .unset, .unset] [(.int (0 : Int32))])) _
  refine XS.ifNo X123.here hx rfl (hb hby at_241) rfl ((if0 _ _).trans (teq rfl).2) ?_
  show Steps p.tables e below (T123.setTop (mkF m 244 #[.val (.int p0), .val (.int p1), .val (.int p2), .val (.int p3), .val (.int cu), .val (.int d), .val (.int (0 : Int32)), .val (.int (((p2.toUInt32 >>> ((5 : Int32) &&& 31).toUInt32).toInt32) &&& (3 : Int32))), .val (.ref b101), .val (.ref b104), .val (.ref b108), .val (.ref b111), .val (.ref b114), .val (.int (1 : Int32)), .val (.int (0 : Int32)), .val (.int (1 : Int32)), .val (.int aa), .val (.int aa), .unset, .unset] [])) _
  refine XS.iconst X123.here hx rfl (hb hby at_244) ?_
  show Steps p.tables e below (T123.setTop (mkF m 245 #[.val (.int p0), .val (.int p1), .val (.int p2), .val (.int p3), .val (.int cu), .val (.int d), .val (.int (0 : Int32)), .val (.int (((p2.toUInt32 >>> ((5 : Int32) &&& 31).toUInt32).toInt32) &&& (3 : Int32))), .val (.ref b101), .val (.ref b104), .val (.ref b108), .val (.ref b111), .val (.ref b114), .val (.int (1 : Int32)), .val (.int (0 : Int32)), .val (.int (1 : Int32)), .val (.int aa), .val (.int aa), .unset, .unset] [(.int (1 : Int32))])) _
  refine XS.goto X123.here hx rfl (pc0 := 245) (pc' := 249) rfl (hb hby at_245) (by decide) (by decide) ?_
  show Steps p.tables e below (T123.setTop (mkF m 249 #[.val (.int p0), .val (.int p1), .val (.int p2), .val (.int p3), .val (.int cu), .val (.int d), .val (.int (0 : Int32)), .val (.int (((p2.toUInt32 >>> ((5 : Int32) &&& 31).toUInt32).toInt32) &&& (3 : Int32))), .val (.ref b101), .val (.ref b104), .val (.ref b108), .val (.ref b111), .val (.ref b114), .val (.int (1 : Int32)), .val (.int (0 : Int32)), .val (.int (1 : Int32)), .val (.int aa), .val (.int aa), .unset, .unset] [(.int (1 : Int32))])) _
  refine XS.istore X123.here hx rfl (hb hby at_249) rfl (l' := #[.val (.int p0), .val (.int p1), .val (.int p2), .val (.int p3), .val (.int cu), .val (.int d), .val (.int (0 : Int32)), .val (.int (((p2.toUInt32 >>> ((5 : Int32) &&& 31).toUInt32).toInt32) &&& (3 : Int32))), .val (.ref b101), .val (.ref b104), .val (.ref b108), .val (.ref b111), .val (.ref b114), .val (.int (1 : Int32)), .val (.int (0 : Int32)), .val (.int (1 : Int32)), .val (.int aa), .val (.int aa), .unset, .unset]) rfl ?_
  show Steps p.tables e below (T123.setTop (mkF m 251 #[.val (.int p0), .val (.int p1), .val (.int p2), .val (.int p3), .val (.int cu), .val (.int d), .val (.int (0 : Int32)), .val (.int (((p2.toUInt32 >>> ((5 : Int32) &&& 31).toUInt32).toInt32) &&& (3 : Int32))), .val (.ref b101), .val (.ref b104), .val (.ref b108), .val (.ref b111), .val (.ref b114), .val (.int (1 : Int32)), .val (.int (0 : Int32)), .val (.int (1 : Int32)), .val (.int aa), .val (.int aa), .unset, .unset] [])) _
  refine XS.iload X123.here hx rfl (hb hby at_251) rfl ?_
  show Steps p.tables e below (T123.setTop (mkF m 253 #[.val (.int p0), .val (.int p1), .val (.int p2), .val (.int p3), .val (.int cu), .val (.int d), .val (.int (0 : Int32)), .val (.int (((p2.toUInt32 >>> ((5 : Int32) &&& 31).toUInt32).toInt32) &&& (3 : Int32))), .val (.ref b101), .val (.ref b104), .val (.ref b108), .val (.ref b111), .val (.ref b114), .val (.int (1 : Int32)), .val (.int (0 : Int32)), .val (.int (1 : Int32)), .val (.int aa), .val (.int aa), .unset, .unset] [(.int (1 : Int32))])) _
  refine XS.ifNo X123.here hx rfl (hb hby at_253) rfl ((if0 _ _).trans (feq (by decide : ¬ (1 : Int32) = (0 : Int32))).1) ?_
  show Steps p.tables e below (T123.setTop (mkF m 256 #[.val (.int p0), .val (.int p1), .val (.int p2), .val (.int p3), .val (.int cu), .val (.int d), .val (.int (0 : Int32)), .val (.int (((p2.toUInt32 >>> ((5 : Int32) &&& 31).toUInt32).toInt32) &&& (3 : Int32))), .val (.ref b101), .val (.ref b104), .val (.ref b108), .val (.ref b111), .val (.ref b114), .val (.int (1 : Int32)), .val (.int (0 : Int32)), .val (.int (1 : Int32)), .val (.int aa), .val (.int aa), .unset, .unset] [])) _
  refine XS.aload X123.here hx rfl (hb hby at_256) rfl rfl ?_
  show Steps p.tables e below (T123.setTop (mkF m 258 #[.val (.int p0), .val (.int p1), .val (.int p2), .val (.int p3), .val (.int cu), .val (.int d), .val (.int (0 : Int32)), .val (.int (((p2.toUInt32 >>> ((5 : Int32) &&& 31).toUInt32).toInt32) &&& (3 : Int32))), .val (.ref b101), .val (.ref b104), .val (.ref b108), .val (.ref b111), .val (.ref b114), .val (.int (1 : Int32)), .val (.int (0 : Int32)), .val (.int (1 : Int32)), .val (.int aa), .val (.int aa), .unset, .unset] [(.ref b108)])) _
  refine XS.iload X123.here hx rfl (hb hby at_258) rfl ?_
  show Steps p.tables e below (T123.setTop (mkF m 260 #[.val (.int p0), .val (.int p1), .val (.int p2), .val (.int p3), .val (.int cu), .val (.int d), .val (.int (0 : Int32)), .val (.int (((p2.toUInt32 >>> ((5 : Int32) &&& 31).toUInt32).toInt32) &&& (3 : Int32))), .val (.ref b101), .val (.ref b104), .val (.ref b108), .val (.ref b111), .val (.ref b114), .val (.int (1 : Int32)), .val (.int (0 : Int32)), .val (.int (1 : Int32)), .val (.int aa), .val (.int aa), .unset, .unset] [(.int aa), (.ref b108)])) _
  refine XS.iconst X123.here hx rfl (hb hby at_260) ?_
  show Steps p.tables e below (T123.setTop (mkF m 261 #[.val (.int p0), .val (.int p1), .val (.int p2), .val (.int p3), .val (.int cu), .val (.int d), .val (.int (0 : Int32)), .val (.int (((p2.toUInt32 >>> ((5 : Int32) &&& 31).toUInt32).toInt32) &&& (3 : Int32))), .val (.ref b101), .val (.ref b104), .val (.ref b108), .val (.ref b111), .val (.ref b114), .val (.int (1 : Int32)), .val (.int (0 : Int32)), .val (.int (1 : Int32)), .val (.int aa), .val (.int aa), .unset, .unset] [(.int (1 : Int32)), (.int aa), (.ref b108)])) _
  refine XS.iadd X123.here hx rfl (hb hby at_261) rfl ?_
  show Steps p.tables e below (T123.setTop (mkF m 262 #[.val (.int p0), .val (.int p1), .val (.int p2), .val (.int p3), .val (.int cu), .val (.int d), .val (.int (0 : Int32)), .val (.int (((p2.toUInt32 >>> ((5 : Int32) &&& 31).toUInt32).toInt32) &&& (3 : Int32))), .val (.ref b101), .val (.ref b104), .val (.ref b108), .val (.ref b111), .val (.ref b114), .val (.int (1 : Int32)), .val (.int (0 : Int32)), .val (.int (1 : Int32)), .val (.int aa), .val (.int aa), .unset, .unset] [(.int (aa + (1 : Int32))), (.ref b108)])) _
  refine own_ldC X123 hx hZ rfl At123 (j := (aa + (1 : Int32))) (k + 1) (own_ix (d := 1) (i := 1) hj hk rfl (by omega)).1 (own_ix (d := 1) (i := 1) hj hk rfl (by omega)).2 (by omega) (v := (.int (0 : Int32))) (own_off _ _ (by omega)) (g := (mkF m 262 #[.val (.int p0), .val (.int p1), .val (.int p2), .val (.int p3), .val (.int cu), .val (.int d), .val (.int (0 : Int32)), .val (.int (((p2.toUInt32 >>> ((5 : Int32) &&& 31).toUInt32).toInt32) &&& (3 : Int32))), .val (.ref b101), .val (.ref b104), .val (.ref b108), .val (.ref b111), .val (.ref b114), .val (.int (1 : Int32)), .val (.int (0 : Int32)), .val (.int (1 : Int32)), .val (.int aa), .val (.int aa), .unset, .unset] [(.int (aa + (1 : Int32))), (.ref b108)])) rfl rfl (hb hby at_262) _ ?_
  show Steps p.tables e below (T123.setTop (mkF m 263 #[.val (.int p0), .val (.int p1), .val (.int p2), .val (.int p3), .val (.int cu), .val (.int d), .val (.int (0 : Int32)), .val (.int (((p2.toUInt32 >>> ((5 : Int32) &&& 31).toUInt32).toInt32) &&& (3 : Int32))), .val (.ref b101), .val (.ref b104), .val (.ref b108), .val (.ref b111), .val (.ref b114), .val (.int (1 : Int32)), .val (.int (0 : Int32)), .val (.int (1 : Int32)), .val (.int aa), .val (.int aa), .unset, .unset] [(.int (0 : Int32))])) _
  refine XS.ifNo X123.here hx rfl (hb hby at_263) rfl ((if0 _ _).trans (teq rfl).2) ?_
  show Steps p.tables e below (T123.setTop (mkF m 266 #[.val (.int p0), .val (.int p1), .val (.int p2), .val (.int p3), .val (.int cu), .val (.int d), .val (.int (0 : Int32)), .val (.int (((p2.toUInt32 >>> ((5 : Int32) &&& 31).toUInt32).toInt32) &&& (3 : Int32))), .val (.ref b101), .val (.ref b104), .val (.ref b108), .val (.ref b111), .val (.ref b114), .val (.int (1 : Int32)), .val (.int (0 : Int32)), .val (.int (1 : Int32)), .val (.int aa), .val (.int aa), .unset, .unset] [])) _
  refine XS.iconst X123.here hx rfl (hb hby at_266) ?_
  show Steps p.tables e below (T123.setTop (mkF m 267 #[.val (.int p0), .val (.int p1), .val (.int p2), .val (.int p3), .val (.int cu), .val (.int d), .val (.int (0 : Int32)), .val (.int (((p2.toUInt32 >>> ((5 : Int32) &&& 31).toUInt32).toInt32) &&& (3 : Int32))), .val (.ref b101), .val (.ref b104), .val (.ref b108), .val (.ref b111), .val (.ref b114), .val (.int (1 : Int32)), .val (.int (0 : Int32)), .val (.int (1 : Int32)), .val (.int aa), .val (.int aa), .unset, .unset] [(.int (1 : Int32))])) _
  refine XS.goto X123.here hx rfl (pc0 := 267) (pc' := 271) rfl (hb hby at_267) (by decide) (by decide) ?_
  show Steps p.tables e below (T123.setTop (mkF m 271 #[.val (.int p0), .val (.int p1), .val (.int p2), .val (.int p3), .val (.int cu), .val (.int d), .val (.int (0 : Int32)), .val (.int (((p2.toUInt32 >>> ((5 : Int32) &&& 31).toUInt32).toInt32) &&& (3 : Int32))), .val (.ref b101), .val (.ref b104), .val (.ref b108), .val (.ref b111), .val (.ref b114), .val (.int (1 : Int32)), .val (.int (0 : Int32)), .val (.int (1 : Int32)), .val (.int aa), .val (.int aa), .unset, .unset] [(.int (1 : Int32))])) _
  refine XS.istore X123.here hx rfl (hb hby at_271) rfl (l' := #[.val (.int p0), .val (.int p1), .val (.int p2), .val (.int p3), .val (.int cu), .val (.int d), .val (.int (0 : Int32)), .val (.int (((p2.toUInt32 >>> ((5 : Int32) &&& 31).toUInt32).toInt32) &&& (3 : Int32))), .val (.ref b101), .val (.ref b104), .val (.ref b108), .val (.ref b111), .val (.ref b114), .val (.int (1 : Int32)), .val (.int (0 : Int32)), .val (.int (1 : Int32)), .val (.int aa), .val (.int aa), .unset, .unset]) rfl ?_
  exact kt
set_option maxRecDepth 65536 in
set_option maxHeartbeats 40000000 in
theorem sg2H {p : Program} {l : Launch} {e : Env} {s : State} {m : MethodId} {args : Array Value} {below : List Frame} {meth : Method} {c : Code} {T0 : State} {locs : List Loc} {Z : State} {a0 : Array Value} (d : Int32) (b9 : Addr) (b11 : Addr) (b12 : Addr) (s0 : Slot) (s1 : Slot) (s2 : Slot) (s3 : Slot) (s4 : Slot) (s6 : Slot) (s7 : Slot) (s8 : Slot) (s10 : Slot) (s13 : Slot) (s14 : Slot) (s16 : Slot) (s17 : Slot) (h0 : Heap) (n0 : Nat) (Z0 : n0 ≤ h0.size) (X0 : Stand p l e room_1 s m args below meth c T0 locs 5 19) (N0 : Fr n0 locs) (hx : p.tables.exec = Jvm.exec) (hZ : Z.Warmed39 s.vm) (hw : ∀ d ∈ tables_1, d.before a0 Z = true) (hby : c.code = code) (hml : c.maxLocals = 20) (hown : s.vm.findClass "com/example/cellwright/cellwright/hive/DecoderFinishPinLaw" = some m.cls) (e0 : T0.heap = h0) (hch_d : own_ch d) (h1 : ¬ d < (55296 : Int32)) (h2 : ¬ (56319 : Int32) < d) (g_b11 : n0 ≤ b11) (g_b12 : n0 ≤ b12) (n912 : b9 ≠ b12) (n911 : b9 ≠ b11) (n1112 : b11 ≠ b12) (A9 : OwnA Z h0 b9 .byte 2 (own_upd (own_upd (fun _ => (.int (0 : Int32))) 0 (.int (d.toInt8.toInt32).toInt8.toInt32)) 1 (.int (((d.toUInt32 >>> ((8 : Int32) &&& 31).toUInt32).toInt32).toInt8.toInt32).toInt8.toInt32))) (A11 : OwnA Z h0 b11 .char 4 (fun _ => .int (0 : Int32))) (E12 : Exa Z h0 b12 "com/example/cellwright/cellwright/hive/Utf16Le$Decoder") (Fo12 : Fld Z h0 b12 "com/example/cellwright/cellwright/hive/Utf16Le$Decoder" "oddByte" "I" (.int (-1 : Int32))) (Fh12 : Fld Z h0 b12 "com/example/cellwright/cellwright/hive/Utf16Le$Decoder" "high" "C" (.int (0 : Int32))) :
    ∃ (T' : State) (locs' : List Loc) (Ls : Array Slot), Stand p l e room_1 s m args below meth c T' locs' 5 19 ∧ Fr n0 locs' ∧ n0 ≤ T'.heap.size ∧ True ∧
      ∀ target, Steps p.tables e below (T'.setTop (mkF m 432 Ls [(.int (1 : Int32))])) target → Steps p.tables e below (T0.setTop (mkF m 273 #[s0, s1, s2, s3, s4, .val (.int d), s6, s7, s8, .val (.ref b9), s10, .val (.ref b11), .val (.ref b12), s13, s14, .val (.int (1 : Int32)), s16, s17, .unset, .unset] [])) target := by
  obtain ⟨cq101, kq101, q101a, q101b, q101c⟩ := isOf hZ e0 E12
  obtain ⟨_, _, ⟨T101, L101, k101, n101⟩, -, X101, ⟨Lc101, hQ101, l101, y101, z101⟩, st101⟩ := X0.virtualBack hx (y := (⟨"com/example/cellwright/cellwright/hive/Utf16Le$Decoder", "decode", "([BII[CI)I"⟩ : MethodName)) (z := (⟨"com/example/cellwright/cellwright/hive/Utf16Le$Decoder", "decode", "([BII[CI)I"⟩ : MethodName)) hown (mvT hZ (hw _ (List.mem_of_getElem? (i := 18) rfl))) (mvT hZ (hw _ (List.mem_of_getElem? (i := 19) rfl))) (notFace_of_selects (args := #[]) (mvT hZ (hw _ (List.mem_of_getElem? (i := 21) rfl)))) (mvT hZ (hw _ (List.mem_of_getElem? (i := 21) rfl))) (mvT hZ (hw _ (List.mem_of_getElem? (i := 20) rfl))) (by decide) (backOf (W := 0) (rmDH2 l Z a0 hw [] b12 b9 b11 4 _ _ d (d.toInt8.toInt32) (((d.toUInt32 >>> ((8 : Int32) &&& 31).toUInt32).toInt32).toInt8.toInt32) h0 n0 Z0 E12 Fh12 A11 (by decide) g_b12 g_b11 n1112 hch_d Fo12 A9 n912 n911 (congrArg Value.int (own_nn _)) (congrArg Value.int (own_nn _)) (own_join hch_d) h1 h2) hZ (hw _ (List.mem_of_getElem? (i := 22) rfl)) (hw _ (List.mem_of_getElem? (i := 9) rfl)) (by decide) (by decide)) q101a q101c (g := (mkF m 282 #[s0, s1, s2, s3, s4, .val (.int d), s6, s7, s8, .val (.ref b9), s10, .val (.ref b11), .val (.ref b12), s13, s14, .val (.int (1 : Int32)), s16, s17, .unset, .unset] [(.int (0 : Int32)), (.ref b11), (.int (2 : Int32)), (.int (0 : Int32)), (.ref b9), (.ref b12)])) rfl (by rw [hml]; rfl) (Steps.refl _) (argsL := [(.ref b9), (.int (0 : Int32)), (.int (2 : Int32)), (.ref b11), (.int (0 : Int32))]) (rest := []) (lenOf own_pd4 rfl) rfl (by show 2 * 0 + _ ≤ _; exact Nat.le_of_eq rfl) (hb hby at_282) (fun _ _ => ⟨rfl, e0, (by decide : 5 + 0 ≤ _), (by decide : 19 + 0 ≤ _)⟩)
  dsimp only [Pt.U, Pt.locs, Pt.cells, Pt.slots] at X101 l101 y101 z101 st101 hQ101
  subst l101 y101 z101
  obtain ⟨o101, rfl, Nq101, K101, Ex101, Fo101, Fh101, At101⟩ := hQ101
  have Z101 : n0 ≤ T101.heap.size := Nat.le_trans Z0 K101.1
  have KC101 : Keep h0 T101.heap [b12, b11] := (Keep.refl h0 [b12, b11]).trans K101 (allS (Or.inl (List.mem_of_getElem? (i := 0) rfl)) (allS (Or.inl (List.mem_of_getElem? (i := 1) rfl)) all0))
  have N101 := Fr.app N0 Nq101
  obtain ⟨_, _, ⟨T102, L102, k102, n102⟩, -, X102, ⟨Lc102, hQ102, l102, y102, z102⟩, st102⟩ := Jvm.LawKit.callS X101 hx (y := (⟨"com/example/cellwright/cellwright/hive/DecoderFinishPinLaw", "isHigh", "(C)Z"⟩ : MethodName)) hown (mvT hZ (hw _ (List.mem_of_getElem? (i := 26) rfl))) (mvT hZ (hw _ (List.mem_of_getElem? (i := 27) rfl))) (mvT hZ (hw _ (List.mem_of_getElem? (i := 2) rfl))) (mvT hZ (hw _ (List.mem_of_getElem? (i := 28) rfl))) (by decide) (backOf (W := 0) (rm_ihH l Z a0 hw [] d T101.heap n0 Z101 h1 h2) hZ (hw _ (List.mem_of_getElem? (i := 28) rfl)) (hw _ (List.mem_of_getElem? (i := 2) rfl)) (by decide) (by decide)) (g := (mkF m 289 #[s0, s1, s2, s3, s4, .val (.int d), s6, s7, s8, .val (.ref b9), s10, .val (.ref b11), .val (.ref b12), s13, s14, .val (.int (1 : Int32)), s16, s17, .val (.int (0 : Int32)), .unset] [(.int d)])) rfl (by rw [hml]; rfl) (argsL := [(.int d)]) (rest := []) (lenOf own_pd0 rfl) rfl (by show 2 * 0 + _ ≤ _; exact Nat.le_of_eq rfl) (hb hby at_289) (fun _ _ => ⟨rfl, rfl, (by decide : 5 + 0 ≤ _), (by decide : 19 + 0 ≤ _)⟩)
  dsimp only [Pt.U, Pt.locs, Pt.cells, Pt.slots] at X102 l102 y102 z102 st102 hQ102
  subst l102 y102 z102
  obtain ⟨rfl, Nq102, e102⟩ := hQ102
  have N102 := Fr.app N101 Nq102
  obtain ⟨cq103, kq103, q103a, q103b, q103c⟩ := isOf hZ e102 Ex101
  obtain ⟨_, _, ⟨T103, L103, k103, n103⟩, -, X103, ⟨Lc103, hQ103, l103, y103, z103⟩, st103⟩ := X102.virtualBack hx (y := (⟨"com/example/cellwright/cellwright/hive/Utf16Le$Decoder", "finish", "([CI)I"⟩ : MethodName)) (z := (⟨"com/example/cellwright/cellwright/hive/Utf16Le$Decoder", "finish", "([CI)I"⟩ : MethodName)) hown (mvT hZ (hw _ (List.mem_of_getElem? (i := 29) rfl))) (mvT hZ (hw _ (List.mem_of_getElem? (i := 30) rfl))) (notFace_of_selects (args := #[]) (mvT hZ (hw _ (List.mem_of_getElem? (i := 32) rfl)))) (mvT hZ (hw _ (List.mem_of_getElem? (i := 32) rfl))) (mvT hZ (hw _ (List.mem_of_getElem? (i := 31) rfl))) (by decide) (backOf (W := 0) (rmFH l Z a0 hw [] b12 b11 (0 : Int32) 4 _ o101 0 d T101.heap n0 Z101 Ex101 Fo101 Fh101 At101 g_b12 g_b11 n1112 (by decide) rfl (by decide) (own_hnz h1)) hZ (hw _ (List.mem_of_getElem? (i := 33) rfl)) (hw _ (List.mem_of_getElem? (i := 9) rfl)) (by decide) (by decide)) q103a q103c (g := (mkF m 361 #[s0, s1, s2, s3, s4, .val (.int d), s6, s7, s8, .val (.ref b9), s10, .val (.ref b11), .val (.ref b12), s13, s14, .val (.int (1 : Int32)), s16, s17, .val (.int (0 : Int32)), .unset] [(.int (0 : Int32)), (.ref b11), (.ref b12)])) rfl (by rw [hml]; rfl) (Steps.refl _) (argsL := [(.ref b11), (.int (0 : Int32))]) (rest := []) (lenOf own_pd5 rfl) rfl (by show 2 * 0 + _ ≤ _; exact Nat.le_of_eq rfl) (hb hby at_361) (fun _ _ => ⟨rfl, e102, (by decide : 5 + 0 ≤ _), (by decide : 19 + 0 ≤ _)⟩)
  dsimp only [Pt.U, Pt.locs, Pt.cells, Pt.slots] at X103 l103 y103 z103 st103 hQ103
  subst l103 y103 z103
  obtain ⟨rfl, Nq103, K103, Ex103, Fo103, Fh103, At103⟩ := hQ103
  have Z103 : n0 ≤ T103.heap.size := Nat.le_trans Z101 K103.1
  have KC103 : Keep h0 T103.heap [b12, b11] := KC101.trans K103 (allS (Or.inl (List.mem_of_getElem? (i := 0) rfl)) (allS (Or.inl (List.mem_of_getElem? (i := 1) rfl)) all0))
  have N103 := Fr.app N102 Nq103
  obtain ⟨_, _, ⟨T104, L104, k104, n104⟩, -, X104, ⟨Lc104, hQ104, l104, y104, z104⟩, st104⟩ := Jvm.LawKit.callS X103 hx (y := (⟨"com/example/cellwright/cellwright/hive/DecoderFinishPinLaw", "isHigh", "(C)Z"⟩ : MethodName)) hown (mvT hZ (hw _ (List.mem_of_getElem? (i := 26) rfl))) (mvT hZ (hw _ (List.mem_of_getElem? (i := 27) rfl))) (mvT hZ (hw _ (List.mem_of_getElem? (i := 2) rfl))) (mvT hZ (hw _ (List.mem_of_getElem? (i := 28) rfl))) (by decide) (backOf (W := 0) (rm_ihH l Z a0 hw [] d T103.heap n0 Z103 h1 h2) hZ (hw _ (List.mem_of_getElem? (i := 28) rfl)) (hw _ (List.mem_of_getElem? (i := 2) rfl)) (by decide) (by decide)) (g := (mkF m 368 #[s0, s1, s2, s3, s4, .val (.int d), s6, s7, s8, .val (.ref b9), s10, .val (.ref b11), .val (.ref b12), s13, s14, .val (.int (1 : Int32)), s16, s17, .val (.int (0 : Int32)), .val (.int (1 : Int32))] [(.int d)])) rfl (by rw [hml]; rfl) (argsL := [(.int d)]) (rest := []) (lenOf own_pd0 rfl) rfl (by show 2 * 0 + _ ≤ _; exact Nat.le_of_eq rfl) (hb hby at_368) (fun _ _ => ⟨rfl, rfl, (by decide : 5 + 0 ≤ _), (by decide : 19 + 0 ≤ _)⟩)
  dsimp only [Pt.U, Pt.locs, Pt.cells, Pt.slots] at X104 l104 y104 z104 st104 hQ104
  subst l104 y104 z104
  obtain ⟨rfl, Nq104, e104⟩ := hQ104
  have N104 := Fr.app N103 Nq104
  have Zend : n0 ≤ T104.heap.size := by rw [e104]; exact Z103
  have eend := e104
  refine ⟨T104, _, #[s0, s1, s2, s3, s4, .val (.int d), s6, s7, s8, .val (.ref b9), s10, .val (.ref b11), .val (.ref b12), s13, s14, .val (.int (1 : Int32)), s16, s17, .val (.int (0 : Int32)), .val (.int (1 : Int32))], X104, N104, Zend, trivial, fun target kt => ?_⟩
  show Steps p.tables e below (T0.setTop (mkF m 273 #[s0, s1, s2, s3, s4, .val (.int d), s6, s7, s8, .val (.ref b9), s10, .val (.ref b11), .val (.ref b12), s13, s14, .val (.int (1 : Int32)), s16, s17, .unset, .unset] [])) _
  refine XS.aload X0.here hx rfl (hb hby at_273) rfl rfl ?_
  show Steps p.tables e below (T0.setTop (mkF m 275 #[s0, s1, s2, s3, s4, .val (.int d), s6, s7, s8, .val (.ref b9), s10, .val (.ref b11), .val (.ref b12), s13, s14, .val (.int (1 : Int32)), s16, s17, .unset, .unset] [(.ref b12)])) _
  refine XS.aload X0.here hx rfl (hb hby at_275) rfl rfl ?_
  show Steps p.tables e below (T0.setTop (mkF m 277 #[s0, s1, s2, s3, s4, .val (.int d), s6, s7, s8, .val (.ref b9), s10, .val (.ref b11), .val (.ref b12), s13, s14, .val (.int (1 : Int32)), s16, s17, .unset, .unset] [(.ref b9), (.ref b12)])) _
  refine XS.iconst X0.here hx rfl (hb hby at_277) ?_
  show Steps p.tables e below (T0.setTop (mkF m 278 #[s0, s1, s2, s3, s4, .val (.int d), s6, s7, s8, .val (.ref b9), s10, .val (.ref b11), .val (.ref b12), s13, s14, .val (.int (1 : Int32)), s16, s17, .unset, .unset] [(.int (0 : Int32)), (.ref b9), (.ref b12)])) _
  refine XS.iconst X0.here hx rfl (hb hby at_278) ?_
  show Steps p.tables e below (T0.setTop (mkF m 279 #[s0, s1, s2, s3, s4, .val (.int d), s6, s7, s8, .val (.ref b9), s10, .val (.ref b11), .val (.ref b12), s13, s14, .val (.int (1 : Int32)), s16, s17, .unset, .unset] [(.int (2 : Int32)), (.int (0 : Int32)), (.ref b9), (.ref b12)])) _
  refine XS.aload X0.here hx rfl (hb hby at_279) rfl rfl ?_
  show Steps p.tables e below (T0.setTop (mkF m 281 #[s0, s1, s2, s3, s4, .val (.int d), s6, s7, s8, .val (.ref b9), s10, .val (.ref b11), .val (.ref b12), s13, s14, .val (.int (1 : Int32)), s16, s17, .unset, .unset] [(.ref b11), (.int (2 : Int32)), (.int (0 : Int32)), (.ref b9), (.ref b12)])) _
  refine XS.iconst X0.here hx rfl (hb hby at_281) ?_
  show Steps p.tables e below (T0.setTop (mkF m 282 #[s0, s1, s2, s3, s4, .val (.int d), s6, s7, s8, .val (.ref b9), s10, .val (.ref b11), .val (.ref b12), s13, s14, .val (.int (1 : Int32)), s16, s17, .unset, .unset] [(.int (0 : Int32)), (.ref b11), (.int (2 : Int32)), (.int (0 : Int32)), (.ref b9), (.ref b12)])) _
  refine st101.trans ?_
  show Steps p.tables e below (T101.setTop (mkF m 285 #[s0, s1, s2, s3, s4, .val (.int d), s6, s7, s8, .val (.ref b9), s10, .val (.ref b11), .val (.ref b12), s13, s14, .val (.int (1 : Int32)), s16, s17, .unset, .unset] [(.int (0 : Int32))])) _
  refine XS.istore X101.here hx rfl (hb hby at_285) rfl (l' := #[s0, s1, s2, s3, s4, .val (.int d), s6, s7, s8, .val (.ref b9), s10, .val (.ref b11), .val (.ref b12), s13, s14, .val (.int (1 : Int32)), s16, s17, .val (.int (0 : Int32)), .unset]) rfl ?_
  show Steps p.tables e below (T101.setTop (mkF m 287 #[s0, s1, s2, s3, s4, .val (.int d), s6, s7, s8, .val (.ref b9), s10, .val (.ref b11), .val (.ref b12), s13, s14, .val (.int (1 : Int32)), s16, s17, .val (.int (0 : Int32)), .unset] [])) _
  refine XS.iload X101.here hx rfl (hb hby at_287) rfl ?_
  show Steps p.tables e below (T101.setTop (mkF m 289 #[s0, s1, s2, s3, s4, .val (.int d), s6, s7, s8, .val (.ref b9), s10, .val (.ref b11), .val (.ref b12), s13, s14, .val (.int (1 : Int32)), s16, s17, .val (.int (0 : Int32)), .unset] [(.int d)])) _
  refine st102 _ ?_
  show Steps p.tables e below (T102.setTop (mkF m 292 #[s0, s1, s2, s3, s4, .val (.int d), s6, s7, s8, .val (.ref b9), s10, .val (.ref b11), .val (.ref b12), s13, s14, .val (.int (1 : Int32)), s16, s17, .val (.int (0 : Int32)), .unset] [(.int (1 : Int32))])) _
  refine XS.ifNo X102.here hx rfl (hb hby at_292) rfl ((if0 _ _).trans (feq (by decide : ¬ (1 : Int32) = (0 : Int32))).1) ?_
  show Steps p.tables e below (T102.setTop (mkF m 295 #[s0, s1, s2, s3, s4, .val (.int d), s6, s7, s8, .val (.ref b9), s10, .val (.ref b11), .val (.ref b12), s13, s14, .val (.int (1 : Int32)), s16, s17, .val (.int (0 : Int32)), .unset] [])) _
  refine XS.iload X102.here hx rfl (hb hby at_295) rfl ?_
  show Steps p.tables e below (T102.setTop (mkF m 297 #[s0, s1, s2, s3, s4, .val (.int d), s6, s7, s8, .val (.ref b9), s10, .val (.ref b11), .val (.ref b12), s13, s14, .val (.int (1 : Int32)), s16, s17, .val (.int (0 : Int32)), .unset] [(.int (1 : Int32))])) _
  refine XS.ifNo X102.here hx rfl (hb hby at_297) rfl ((if0 _ _).trans (feq (by decide : ¬ (1 : Int32) = (0 : Int32))).1) ?_
  show Steps p.tables e below (T102.setTop (mkF m 300 #[s0, s1, s2, s3, s4, .val (.int d), s6, s7, s8, .val (.ref b9), s10, .val (.ref b11), .val (.ref b12), s13, s14, .val (.int (1 : Int32)), s16, s17, .val (.int (0 : Int32)), .unset] [])) _
  refine XS.iload X102.here hx rfl (hb hby at_300) rfl ?_
  show Steps p.tables e below (T102.setTop (mkF m 302 #[s0, s1, s2, s3, s4, .val (.int d), s6, s7, s8, .val (.ref b9), s10, .val (.ref b11), .val (.ref b12), s13, s14, .val (.int (1 : Int32)), s16, s17, .val (.int (0 : Int32)), .unset] [(.int (0 : Int32))])) _
  refine XS.ifNo X102.here hx rfl (hb hby at_302) rfl ((if0 _ _).trans (teq rfl).2) ?_
  show Steps p.tables e below (T102.setTop (mkF m 305 #[s0, s1, s2, s3, s4, .val (.int d), s6, s7, s8, .val (.ref b9), s10, .val (.ref b11), .val (.ref b12), s13, s14, .val (.int (1 : Int32)), s16, s17, .val (.int (0 : Int32)), .unset] [])) _
  refine XS.iconst X102.here hx rfl (hb hby at_305) ?_
  show Steps p.tables e below (T102.setTop (mkF m 306 #[s0, s1, s2, s3, s4, .val (.int d), s6, s7, s8, .val (.ref b9), s10, .val (.ref b11), .val (.ref b12), s13, s14, .val (.int (1 : Int32)), s16, s17, .val (.int (0 : Int32)), .unset] [(.int (1 : Int32))])) _
  refine XS.goto X102.here hx rfl (pc0 := 306) (pc' := 310) rfl (hb hby at_306) (by decide) (by decide) ?_
  show Steps p.tables e below (T102.setTop (mkF m 310 #[s0, s1, s2, s3, s4, .val (.int d), s6, s7, s8, .val (.ref b9), s10, .val (.ref b11), .val (.ref b12), s13, s14, .val (.int (1 : Int32)), s16, s17, .val (.int (0 : Int32)), .unset] [(.int (1 : Int32))])) _
  refine XS.istore X102.here hx rfl (hb hby at_310) rfl (l' := #[s0, s1, s2, s3, s4, .val (.int d), s6, s7, s8, .val (.ref b9), s10, .val (.ref b11), .val (.ref b12), s13, s14, .val (.int (1 : Int32)), s16, s17, .val (.int (0 : Int32)), .unset]) rfl ?_
  show Steps p.tables e below (T102.setTop (mkF m 312 #[s0, s1, s2, s3, s4, .val (.int d), s6, s7, s8, .val (.ref b9), s10, .val (.ref b11), .val (.ref b12), s13, s14, .val (.int (1 : Int32)), s16, s17, .val (.int (0 : Int32)), .unset] [])) _
  refine XS.goto X102.here hx rfl (pc0 := 312) (pc' := 355) rfl (hb hby at_312) (by decide) (by decide) ?_
  show Steps p.tables e below (T102.setTop (mkF m 355 #[s0, s1, s2, s3, s4, .val (.int d), s6, s7, s8, .val (.ref b9), s10, .val (.ref b11), .val (.ref b12), s13, s14, .val (.int (1 : Int32)), s16, s17, .val (.int (0 : Int32)), .unset] [])) _
  refine XS.aload X102.here hx rfl (hb hby at_355) rfl rfl ?_
  show Steps p.tables e below (T102.setTop (mkF m 357 #[s0, s1, s2, s3, s4, .val (.int d), s6, s7, s8, .val (.ref b9), s10, .val (.ref b11), .val (.ref b12), s13, s14, .val (.int (1 : Int32)), s16, s17, .val (.int (0 : Int32)), .unset] [(.ref b12)])) _
  refine XS.aload X102.here hx rfl (hb hby at_357) rfl rfl ?_
  show Steps p.tables e below (T102.setTop (mkF m 359 #[s0, s1, s2, s3, s4, .val (.int d), s6, s7, s8, .val (.ref b9), s10, .val (.ref b11), .val (.ref b12), s13, s14, .val (.int (1 : Int32)), s16, s17, .val (.int (0 : Int32)), .unset] [(.ref b11), (.ref b12)])) _
  refine XS.iload X102.here hx rfl (hb hby at_359) rfl ?_
  show Steps p.tables e below (T102.setTop (mkF m 361 #[s0, s1, s2, s3, s4, .val (.int d), s6, s7, s8, .val (.ref b9), s10, .val (.ref b11), .val (.ref b12), s13, s14, .val (.int (1 : Int32)), s16, s17, .val (.int (0 : Int32)), .unset] [(.int (0 : Int32)), (.ref b11), (.ref b12)])) _
  refine st103.trans ?_
  show Steps p.tables e below (T103.setTop (mkF m 364 #[s0, s1, s2, s3, s4, .val (.int d), s6, s7, s8, .val (.ref b9), s10, .val (.ref b11), .val (.ref b12), s13, s14, .val (.int (1 : Int32)), s16, s17, .val (.int (0 : Int32)), .unset] [(.int (1 : Int32))])) _
  refine XS.istore X103.here hx rfl (hb hby at_364) rfl (l' := #[s0, s1, s2, s3, s4, .val (.int d), s6, s7, s8, .val (.ref b9), s10, .val (.ref b11), .val (.ref b12), s13, s14, .val (.int (1 : Int32)), s16, s17, .val (.int (0 : Int32)), .val (.int (1 : Int32))]) rfl ?_
  show Steps p.tables e below (T103.setTop (mkF m 366 #[s0, s1, s2, s3, s4, .val (.int d), s6, s7, s8, .val (.ref b9), s10, .val (.ref b11), .val (.ref b12), s13, s14, .val (.int (1 : Int32)), s16, s17, .val (.int (0 : Int32)), .val (.int (1 : Int32))] [])) _
  refine XS.iload X103.here hx rfl (hb hby at_366) rfl ?_
  show Steps p.tables e below (T103.setTop (mkF m 368 #[s0, s1, s2, s3, s4, .val (.int d), s6, s7, s8, .val (.ref b9), s10, .val (.ref b11), .val (.ref b12), s13, s14, .val (.int (1 : Int32)), s16, s17, .val (.int (0 : Int32)), .val (.int (1 : Int32))] [(.int d)])) _
  refine st104 _ ?_
  show Steps p.tables e below (T104.setTop (mkF m 371 #[s0, s1, s2, s3, s4, .val (.int d), s6, s7, s8, .val (.ref b9), s10, .val (.ref b11), .val (.ref b12), s13, s14, .val (.int (1 : Int32)), s16, s17, .val (.int (0 : Int32)), .val (.int (1 : Int32))] [(.int (1 : Int32))])) _
  refine XS.ifNo X104.here hx rfl (hb hby at_371) rfl ((if0 _ _).trans (feq (by decide : ¬ (1 : Int32) = (0 : Int32))).1) ?_
  show Steps p.tables e below (T104.setTop (mkF m 374 #[s0, s1, s2, s3, s4, .val (.int d), s6, s7, s8, .val (.ref b9), s10, .val (.ref b11), .val (.ref b12), s13, s14, .val (.int (1 : Int32)), s16, s17, .val (.int (0 : Int32)), .val (.int (1 : Int32))] [])) _
  refine XS.iload X104.here hx rfl (hb hby at_374) rfl ?_
  show Steps p.tables e below (T104.setTop (mkF m 376 #[s0, s1, s2, s3, s4, .val (.int d), s6, s7, s8, .val (.ref b9), s10, .val (.ref b11), .val (.ref b12), s13, s14, .val (.int (1 : Int32)), s16, s17, .val (.int (0 : Int32)), .val (.int (1 : Int32))] [(.int (1 : Int32))])) _
  refine XS.ifNo X104.here hx rfl (hb hby at_376) rfl ((if0 _ _).trans (feq (by decide : ¬ (1 : Int32) = (0 : Int32))).1) ?_
  show Steps p.tables e below (T104.setTop (mkF m 379 #[s0, s1, s2, s3, s4, .val (.int d), s6, s7, s8, .val (.ref b9), s10, .val (.ref b11), .val (.ref b12), s13, s14, .val (.int (1 : Int32)), s16, s17, .val (.int (0 : Int32)), .val (.int (1 : Int32))] [])) _
  refine XS.iload X104.here hx rfl (hb hby at_379) rfl ?_
  show Steps p.tables e below (T104.setTop (mkF m 381 #[s0, s1, s2, s3, s4, .val (.int d), s6, s7, s8, .val (.ref b9), s10, .val (.ref b11), .val (.ref b12), s13, s14, .val (.int (1 : Int32)), s16, s17, .val (.int (0 : Int32)), .val (.int (1 : Int32))] [(.int (1 : Int32))])) _
  refine XS.iconst X104.here hx rfl (hb hby at_381) ?_
  show Steps p.tables e below (T104.setTop (mkF m 382 #[s0, s1, s2, s3, s4, .val (.int d), s6, s7, s8, .val (.ref b9), s10, .val (.ref b11), .val (.ref b12), s13, s14, .val (.int (1 : Int32)), s16, s17, .val (.int (0 : Int32)), .val (.int (1 : Int32))] [(.int (1 : Int32)), (.int (1 : Int32))])) _
  refine XS.icmpNo X104.here hx rfl (hb hby at_382) rfl (teq rfl).2 ?_
  show Steps p.tables e below (T104.setTop (mkF m 385 #[s0, s1, s2, s3, s4, .val (.int d), s6, s7, s8, .val (.ref b9), s10, .val (.ref b11), .val (.ref b12), s13, s14, .val (.int (1 : Int32)), s16, s17, .val (.int (0 : Int32)), .val (.int (1 : Int32))] [])) _
  refine XS.aload X104.here hx rfl (hb hby at_385) rfl rfl ?_
  show Steps p.tables e below (T104.setTop (mkF m 387 #[s0, s1, s2, s3, s4, .val (.int d), s6, s7, s8, .val (.ref b9), s10, .val (.ref b11), .val (.ref b12), s13, s14, .val (.int (1 : Int32)), s16, s17, .val (.int (0 : Int32)), .val (.int (1 : Int32))] [(.ref b11)])) _
  refine XS.iconst X104.here hx rfl (hb hby at_387) ?_
  show Steps p.tables e below (T104.setTop (mkF m 388 #[s0, s1, s2, s3, s4, .val (.int d), s6, s7, s8, .val (.ref b9), s10, .val (.ref b11), .val (.ref b12), s13, s14, .val (.int (1 : Int32)), s16, s17, .val (.int (0 : Int32)), .val (.int (1 : Int32))] [(.int (0 : Int32)), (.ref b11)])) _
  refine own_ldC X104 hx hZ e104 At103 (j := (0 : Int32)) 0 (by decide) rfl (by decide) (v := (.int (65533 : Int32))) rfl (g := (mkF m 388 #[s0, s1, s2, s3, s4, .val (.int d), s6, s7, s8, .val (.ref b9), s10, .val (.ref b11), .val (.ref b12), s13, s14, .val (.int (1 : Int32)), s16, s17, .val (.int (0 : Int32)), .val (.int (1 : Int32))] [(.int (0 : Int32)), (.ref b11)])) rfl rfl (hb hby at_388) _ ?_
  show Steps p.tables e below (T104.setTop (mkF m 389 #[s0, s1, s2, s3, s4, .val (.int d), s6, s7, s8, .val (.ref b9), s10, .val (.ref b11), .val (.ref b12), s13, s14, .val (.int (1 : Int32)), s16, s17, .val (.int (0 : Int32)), .val (.int (1 : Int32))] [(.int (65533 : Int32))])) _
  refine X104.ldcInt hx hown (mvT hZ (hw _ (List.mem_of_getElem? (i := 47) rfl))) (g := (mkF m 389 #[s0, s1, s2, s3, s4, .val (.int d), s6, s7, s8, .val (.ref b9), s10, .val (.ref b11), .val (.ref b12), s13, s14, .val (.int (1 : Int32)), s16, s17, .val (.int (0 : Int32)), .val (.int (1 : Int32))] [(.int (65533 : Int32))])) rfl (hb hby at_389) _ ?_
  show Steps p.tables e below (T104.setTop (mkF m 391 #[s0, s1, s2, s3, s4, .val (.int d), s6, s7, s8, .val (.ref b9), s10, .val (.ref b11), .val (.ref b12), s13, s14, .val (.int (1 : Int32)), s16, s17, .val (.int (0 : Int32)), .val (.int (1 : Int32))] [(.int (65533 : Int32)), (.int (65533 : Int32))])) _
  refine XS.icmpNo X104.here hx rfl (hb hby at_391) rfl (teq rfl).2 ?_
  show Steps p.tables e below (T104.setTop (mkF m 394 #[s0, s1, s2, s3, s4, .val (.int d), s6, s7, s8, .val (.ref b9), s10, .val (.ref b11), .val (.ref b12), s13, s14, .val (.int (1 : Int32)), s16, s17, .val (.int (0 : Int32)), .val (.int (1 : Int32))] [])) _
  refine XS.iconst X104.here hx rfl (hb hby at_394) ?_
  show Steps p.tables e below (T104.setTop (mkF m 395 #[s0, s1, s2, s3, s4, .val (.int d), s6, s7, s8, .val (.ref b9), s10, .val (.ref b11), .val (.ref b12), s13, s14, .val (.int (1 : Int32)), s16, s17, .val (.int (0 : Int32)), .val (.int (1 : Int32))] [(.int (1 : Int32))])) _
  refine XS.goto X104.here hx rfl (pc0 := 395) (pc' := 399) rfl (hb hby at_395) (by decide) (by decide) ?_
  show Steps p.tables e below (T104.setTop (mkF m 399 #[s0, s1, s2, s3, s4, .val (.int d), s6, s7, s8, .val (.ref b9), s10, .val (.ref b11), .val (.ref b12), s13, s14, .val (.int (1 : Int32)), s16, s17, .val (.int (0 : Int32)), .val (.int (1 : Int32))] [(.int (1 : Int32))])) _
  refine XS.istore X104.here hx rfl (hb hby at_399) rfl (l' := #[s0, s1, s2, s3, s4, .val (.int d), s6, s7, s8, .val (.ref b9), s10, .val (.ref b11), .val (.ref b12), s13, s14, .val (.int (1 : Int32)), s16, s17, .val (.int (0 : Int32)), .val (.int (1 : Int32))]) rfl ?_
  show Steps p.tables e below (T104.setTop (mkF m 401 #[s0, s1, s2, s3, s4, .val (.int d), s6, s7, s8, .val (.ref b9), s10, .val (.ref b11), .val (.ref b12), s13, s14, .val (.int (1 : Int32)), s16, s17, .val (.int (0 : Int32)), .val (.int (1 : Int32))] [])) _
  refine XS.goto X104.here hx rfl (pc0 := 401) (pc' := 430) rfl (hb hby at_401) (by decide) (by decide) ?_
  show Steps p.tables e below (T104.setTop (mkF m 430 #[s0, s1, s2, s3, s4, .val (.int d), s6, s7, s8, .val (.ref b9), s10, .val (.ref b11), .val (.ref b12), s13, s14, .val (.int (1 : Int32)), s16, s17, .val (.int (0 : Int32)), .val (.int (1 : Int32))] [])) _
  refine XS.iload X104.here hx rfl (hb hby at_430) rfl ?_
  exact kt
set_option maxRecDepth 65536 in
set_option maxHeartbeats 40000000 in
theorem sg2N {p : Program} {l : Launch} {e : Env} {s : State} {m : MethodId} {args : Array Value} {below : List Frame} {meth : Method} {c : Code} {T0 : State} {locs : List Loc} {Z : State} {a0 : Array Value} (d : Int32) (b9 : Addr) (b11 : Addr) (b12 : Addr) (s0 : Slot) (s1 : Slot) (s2 : Slot) (s3 : Slot) (s4 : Slot) (s6 : Slot) (s7 : Slot) (s8 : Slot) (s10 : Slot) (s13 : Slot) (s14 : Slot) (s16 : Slot) (s17 : Slot) (h0 : Heap) (n0 : Nat) (Z0 : n0 ≤ h0.size) (X0 : Stand p l e room_1 s m args below meth c T0 locs 5 19) (N0 : Fr n0 locs) (hx : p.tables.exec = Jvm.exec) (hZ : Z.Warmed39 s.vm) (hw : ∀ d ∈ tables_1, d.before a0 Z = true) (hby : c.code = code) (hml : c.maxLocals = 20) (hown : s.vm.findClass "com/example/cellwright/cellwright/hive/DecoderFinishPinLaw" = some m.cls) (e0 : T0.heap = h0) (hch_d : own_ch d) (h1 : d < (55296 : Int32) ∨ (56319 : Int32) < d) (g_b11 : n0 ≤ b11) (g_b12 : n0 ≤ b12) (n912 : b9 ≠ b12) (n911 : b9 ≠ b11) (n1112 : b11 ≠ b12) (A9 : OwnA Z h0 b9 .byte 2 (own_upd (own_upd (fun _ => (.int (0 : Int32))) 0 (.int (d.toInt8.toInt32).toInt8.toInt32)) 1 (.int (((d.toUInt32 >>> ((8 : Int32) &&& 31).toUInt32).toInt32).toInt8.toInt32).toInt8.toInt32))) (A11 : OwnA Z h0 b11 .char 4 (fun _ => .int (0 : Int32))) (E12 : Exa Z h0 b12 "com/example/cellwright/cellwright/hive/Utf16Le$Decoder") (Fo12 : Fld Z h0 b12 "com/example/cellwright/cellwright/hive/Utf16Le$Decoder" "oddByte" "I" (.int (-1 : Int32))) (Fh12 : Fld Z h0 b12 "com/example/cellwright/cellwright/hive/Utf16Le$Decoder" "high" "C" (.int (0 : Int32))) :
    ∃ (T' : State) (locs' : List Loc) (Ls : Array Slot), Stand p l e room_1 s m args below meth c T' locs' 5 19 ∧ Fr n0 locs' ∧ n0 ≤ T'.heap.size ∧ True ∧
      ∀ target, Steps p.tables e below (T'.setTop (mkF m 432 Ls [(.int (1 : Int32))])) target → Steps p.tables e below (T0.setTop (mkF m 273 #[s0, s1, s2, s3, s4, .val (.int d), s6, s7, s8, .val (.ref b9), s10, .val (.ref b11), .val (.ref b12), s13, s14, .val (.int (1 : Int32)), s16, s17, .unset, .unset] [])) target := by
  obtain ⟨cq101, kq101, q101a, q101b, q101c⟩ := isOf hZ e0 E12
  obtain ⟨_, _, ⟨T101, L101, k101, n101⟩, -, X101, ⟨Lc101, hQ101, l101, y101, z101⟩, st101⟩ := X0.virtualBack hx (y := (⟨"com/example/cellwright/cellwright/hive/Utf16Le$Decoder", "decode", "([BII[CI)I"⟩ : MethodName)) (z := (⟨"com/example/cellwright/cellwright/hive/Utf16Le$Decoder", "decode", "([BII[CI)I"⟩ : MethodName)) hown (mvT hZ (hw _ (List.mem_of_getElem? (i := 18) rfl))) (mvT hZ (hw _ (List.mem_of_getElem? (i := 19) rfl))) (notFace_of_selects (args := #[]) (mvT hZ (hw _ (List.mem_of_getElem? (i := 21) rfl)))) (mvT hZ (hw _ (List.mem_of_getElem? (i := 21) rfl))) (mvT hZ (hw _ (List.mem_of_getElem? (i := 20) rfl))) (by decide) (backOf (W := 0) (rmDN2 l Z a0 hw [] b12 b9 b11 4 _ _ d (d.toInt8.toInt32) (((d.toUInt32 >>> ((8 : Int32) &&& 31).toUInt32).toInt32).toInt8.toInt32) h0 n0 Z0 E12 Fh12 A11 (by decide) g_b12 g_b11 n1112 hch_d Fo12 A9 n912 n911 (congrArg Value.int (own_nn _)) (congrArg Value.int (own_nn _)) (own_join hch_d) h1) hZ (hw _ (List.mem_of_getElem? (i := 22) rfl)) (hw _ (List.mem_of_getElem? (i := 9) rfl)) (by decide) (by decide)) q101a q101c (g := (mkF m 282 #[s0, s1, s2, s3, s4, .val (.int d), s6, s7, s8, .val (.ref b9), s10, .val (.ref b11), .val (.ref b12), s13, s14, .val (.int (1 : Int32)), s16, s17, .unset, .unset] [(.int (0 : Int32)), (.ref b11), (.int (2 : Int32)), (.int (0 : Int32)), (.ref b9), (.ref b12)])) rfl (by rw [hml]; rfl) (Steps.refl _) (argsL := [(.ref b9), (.int (0 : Int32)), (.int (2 : Int32)), (.ref b11), (.int (0 : Int32))]) (rest := []) (lenOf own_pd4 rfl) rfl (by show 2 * 0 + _ ≤ _; exact Nat.le_of_eq rfl) (hb hby at_282) (fun _ _ => ⟨rfl, e0, (by decide : 5 + 0 ≤ _), (by decide : 19 + 0 ≤ _)⟩)
  dsimp only [Pt.U, Pt.locs, Pt.cells, Pt.slots] at X101 l101 y101 z101 st101 hQ101
  subst l101 y101 z101
  obtain ⟨o101, rfl, Nq101, K101, Ex101, Fo101, Fh101, At101⟩ := hQ101
  have Z101 : n0 ≤ T101.heap.size := Nat.le_trans Z0 K101.1
  have KC101 : Keep h0 T101.heap [b12, b11] := (Keep.refl h0 [b12, b11]).trans K101 (allS (Or.inl (List.mem_of_getElem? (i := 0) rfl)) (allS (Or.inl (List.mem_of_getElem? (i := 1) rfl)) all0))
  have N101 := Fr.app N0 Nq101
  obtain ⟨_, _, ⟨T102, L102, k102, n102⟩, -, X102, ⟨Lc102, hQ102, l102, y102, z102⟩, st102⟩ := Jvm.LawKit.callS X101 hx (y := (⟨"com/example/cellwright/cellwright/hive/DecoderFinishPinLaw", "isHigh", "(C)Z"⟩ : MethodName)) hown (mvT hZ (hw _ (List.mem_of_getElem? (i := 26) rfl))) (mvT hZ (hw _ (List.mem_of_getElem? (i := 27) rfl))) (mvT hZ (hw _ (List.mem_of_getElem? (i := 2) rfl))) (mvT hZ (hw _ (List.mem_of_getElem? (i := 28) rfl))) (by decide) (backOf (W := 0) (rm_ihN l Z a0 hw [] d T101.heap n0 Z101 h1) hZ (hw _ (List.mem_of_getElem? (i := 28) rfl)) (hw _ (List.mem_of_getElem? (i := 2) rfl)) (by decide) (by decide)) (g := (mkF m 289 #[s0, s1, s2, s3, s4, .val (.int d), s6, s7, s8, .val (.ref b9), s10, .val (.ref b11), .val (.ref b12), s13, s14, .val (.int (1 : Int32)), s16, s17, .val (.int (1 : Int32)), .unset] [(.int d)])) rfl (by rw [hml]; rfl) (argsL := [(.int d)]) (rest := []) (lenOf own_pd0 rfl) rfl (by show 2 * 0 + _ ≤ _; exact Nat.le_of_eq rfl) (hb hby at_289) (fun _ _ => ⟨rfl, rfl, (by decide : 5 + 0 ≤ _), (by decide : 19 + 0 ≤ _)⟩)
  dsimp only [Pt.U, Pt.locs, Pt.cells, Pt.slots] at X102 l102 y102 z102 st102 hQ102
  subst l102 y102 z102
  obtain ⟨rfl, Nq102, e102⟩ := hQ102
  have N102 := Fr.app N101 Nq102
  obtain ⟨_, _, ⟨T103, L103, k103, n103⟩, -, X103, ⟨Lc103, hQ103, l103, y103, z103⟩, st103⟩ := Jvm.LawKit.callS X102 hx (y := (⟨"com/example/cellwright/cellwright/hive/DecoderFinishPinLaw", "isLow", "(C)Z"⟩ : MethodName)) hown (mvT hZ (hw _ (List.mem_of_getElem? (i := 53) rfl))) (mvT hZ (hw _ (List.mem_of_getElem? (i := 54) rfl))) (mvT hZ (hw _ (List.mem_of_getElem? (i := 2) rfl))) (mvT hZ (hw _ (List.mem_of_getElem? (i := 55) rfl))) (by decide) (backOf (W := 1) (rm_il l Z a0 hw [] d T101.heap n0 Z101 ) hZ (hw _ (List.mem_of_getElem? (i := 55) rfl)) (hw _ (List.mem_of_getElem? (i := 2) rfl)) (by decide) (by decide)) (g := (mkF m 332 #[s0, s1, s2, s3, s4, .val (.int d), s6, s7, s8, .val (.ref b9), s10, .val (.ref b11), .val (.ref b12), s13, s14, .val (.int (1 : Int32)), s16, s17, .val (.int (1 : Int32)), .unset] [(.int d), (.int (own_out d))])) rfl (by rw [hml]; rfl) (argsL := [(.int d)]) (rest := [(.int (own_out d))]) (lenOf own_pd0 rfl) rfl (by show 2 * 0 + _ ≤ _; exact Nat.le_of_eq rfl) (hb hby at_332) (fun _ _ => ⟨rfl, e102, (by decide : 5 + 0 ≤ _), (by decide : 19 + 0 ≤ _)⟩)
  dsimp only [Pt.U, Pt.locs, Pt.cells, Pt.slots] at X103 l103 y103 z103 st103 hQ103
  subst l103 y103 z103
  obtain ⟨rfl, Nq103, e103⟩ := hQ103
  have N103 := Fr.app N102 Nq103
  have rg104 : ∀ target, Steps p.tables e below (T103.setTop (mkF m 345 #[s0, s1, s2, s3, s4, .val (.int d), s6, s7, s8, .val (.ref b9), s10, .val (.ref b11), .val (.ref b12), s13, s14, .val (.int (1 : Int32)), s16, s17, .val (.int (1 : Int32)), .unset] [(.int (if (own_low d) = (0 : Int32) then d else (65533 : Int32))), (.int (own_out d))])) target → Steps p.tables e below (T103.setTop (mkF m 335 #[s0, s1, s2, s3, s4, .val (.int d), s6, s7, s8, .val (.ref b9), s10, .val (.ref b11), .val (.ref b12), s13, s14, .val (.int (1 : Int32)), s16, s17, .val (.int (1 : Int32)), .unset] [(.int (own_low d)), (.int (own_out d))])) target := by
    intro target kt
    by_cases hr104_0 : (own_low d) = (0 : Int32)
    · show Steps p.tables e below (T103.setTop (mkF m 335 #[s0, s1, s2, s3, s4, .val (.int d), s6, s7, s8, .val (.ref b9), s10, .val (.ref b11), .val (.ref b12), s13, s14, .val (.int (1 : Int32)), s16, s17, .val (.int (1 : Int32)), .unset] [(.int (own_low d)), (.int (own_out d))])) _
      refine XS.ifYes X103.here hx rfl (pc0 := 335) (pc' := 343) rfl (hb hby at_335) rfl ((if0 _ _).trans (teq hr104_0).1) (by decide) (by decide) ?_
      show Steps p.tables e below (T103.setTop (mkF m 343 #[s0, s1, s2, s3, s4, .val (.int d), s6, s7, s8, .val (.ref b9), s10, .val (.ref b11), .val (.ref b12), s13, s14, .val (.int (1 : Int32)), s16, s17, .val (.int (1 : Int32)), .unset] [(.int (own_out d))])) _
      refine XS.iload X103.here hx rfl (hb hby at_343) rfl ?_
      simp only [if_pos hr104_0] at kt
      exact kt
    · show Steps p.tables e below (T103.setTop (mkF m 335 #[s0, s1, s2, s3, s4, .val (.int d), s6, s7, s8, .val (.ref b9), s10, .val (.ref b11), .val (.ref b12), s13, s14, .val (.int (1 : Int32)), s16, s17, .val (.int (1 : Int32)), .unset] [(.int (own_low d)), (.int (own_out d))])) _
      refine XS.ifNo X103.here hx rfl (hb hby at_335) rfl ((if0 _ _).trans (feq hr104_0).1) ?_
      show Steps p.tables e below (T103.setTop (mkF m 338 #[s0, s1, s2, s3, s4, .val (.int d), s6, s7, s8, .val (.ref b9), s10, .val (.ref b11), .val (.ref b12), s13, s14, .val (.int (1 : Int32)), s16, s17, .val (.int (1 : Int32)), .unset] [(.int (own_out d))])) _
      refine X103.ldcInt hx hown (mvT hZ (hw _ (List.mem_of_getElem? (i := 47) rfl))) (g := (mkF m 338 #[s0, s1, s2, s3, s4, .val (.int d), s6, s7, s8, .val (.ref b9), s10, .val (.ref b11), .val (.ref b12), s13, s14, .val (.int (1 : Int32)), s16, s17, .val (.int (1 : Int32)), .unset] [(.int (own_out d))])) rfl (hb hby at_338) _ ?_
      show Steps p.tables e below (T103.setTop (mkF m 340 #[s0, s1, s2, s3, s4, .val (.int d), s6, s7, s8, .val (.ref b9), s10, .val (.ref b11), .val (.ref b12), s13, s14, .val (.int (1 : Int32)), s16, s17, .val (.int (1 : Int32)), .unset] [(.int (65533 : Int32)), (.int (own_out d))])) _
      refine XS.goto X103.here hx rfl (pc0 := 340) (pc' := 345) rfl (hb hby at_340) (by decide) (by decide) ?_
      simp only [if_neg hr104_0] at kt
      exact kt
  obtain ⟨cq105, kq105, q105a, q105b, q105c⟩ := isOf hZ e103 Ex101
  obtain ⟨_, _, ⟨T105, L105, k105, n105⟩, -, X105, ⟨Lc105, hQ105, l105, y105, z105⟩, st105⟩ := X103.virtualBack hx (y := (⟨"com/example/cellwright/cellwright/hive/Utf16Le$Decoder", "finish", "([CI)I"⟩ : MethodName)) (z := (⟨"com/example/cellwright/cellwright/hive/Utf16Le$Decoder", "finish", "([CI)I"⟩ : MethodName)) hown (mvT hZ (hw _ (List.mem_of_getElem? (i := 29) rfl))) (mvT hZ (hw _ (List.mem_of_getElem? (i := 30) rfl))) (notFace_of_selects (args := #[]) (mvT hZ (hw _ (List.mem_of_getElem? (i := 32) rfl)))) (mvT hZ (hw _ (List.mem_of_getElem? (i := 32) rfl))) (mvT hZ (hw _ (List.mem_of_getElem? (i := 31) rfl))) (by decide) (backOf (W := 0) (rmFN l Z a0 hw [] b12 b11 (1 : Int32) 4 _ o101 T101.heap n0 Z101 Ex101 Fo101 Fh101 At101 g_b12 g_b11 n1112) hZ (hw _ (List.mem_of_getElem? (i := 33) rfl)) (hw _ (List.mem_of_getElem? (i := 9) rfl)) (by decide) (by decide)) q105a q105c (g := (mkF m 361 #[s0, s1, s2, s3, s4, .val (.int d), s6, s7, s8, .val (.ref b9), s10, .val (.ref b11), .val (.ref b12), s13, s14, .val (.int (1 : Int32)), s16, s17, .val (.int (1 : Int32)), .unset] [(.int (1 : Int32)), (.ref b11), (.ref b12)])) rfl (by rw [hml]; rfl) (Steps.refl _) (argsL := [(.ref b11), (.int (1 : Int32))]) (rest := []) (lenOf own_pd5 rfl) rfl (by show 2 * 0 + _ ≤ _; exact Nat.le_of_eq rfl) (hb hby at_361) (fun _ _ => ⟨rfl, e103, (by decide : 5 + 0 ≤ _), (by decide : 19 + 0 ≤ _)⟩)
  dsimp only [Pt.U, Pt.locs, Pt.cells, Pt.slots] at X105 l105 y105 z105 st105 hQ105
  subst l105 y105 z105
  obtain ⟨rfl, Nq105, K105, Ex105, Fo105, Fh105, At105⟩ := hQ105
  have Z105 : n0 ≤ T105.heap.size := Nat.le_trans Z101 K105.1
  have KC105 : Keep h0 T105.heap [b12, b11] := KC101.trans K105 (allS (Or.inl (List.mem_of_getElem? (i := 0) rfl)) (allS (Or.inl (List.mem_of_getElem? (i := 1) rfl)) all0))
  have N105 := Fr.app N103 Nq105
  obtain ⟨_, _, ⟨T106, L106, k106, n106⟩, -, X106, ⟨Lc106, hQ106, l106, y106, z106⟩, st106⟩ := Jvm.LawKit.callS X105 hx (y := (⟨"com/example/cellwright/cellwright/hive/DecoderFinishPinLaw", "isHigh", "(C)Z"⟩ : MethodName)) hown (mvT hZ (hw _ (List.mem_of_getElem? (i := 26) rfl))) (mvT hZ (hw _ (List.mem_of_getElem? (i := 27) rfl))) (mvT hZ (hw _ (List.mem_of_getElem? (i := 2) rfl))) (mvT hZ (hw _ (List.mem_of_getElem? (i := 28) rfl))) (by decide) (backOf (W := 0) (rm_ihN l Z a0 hw [] d T105.heap n0 Z105 h1) hZ (hw _ (List.mem_of_getElem? (i := 28) rfl)) (hw _ (List.mem_of_getElem? (i := 2) rfl)) (by decide) (by decide)) (g := (mkF m 368 #[s0, s1, s2, s3, s4, .val (.int d), s6, s7, s8, .val (.ref b9), s10, .val (.ref b11), .val (.ref b12), s13, s14, .val (.int (1 : Int32)), s16, s17, .val (.int (1 : Int32)), .val (.int (1 : Int32))] [(.int d)])) rfl (by rw [hml]; rfl) (argsL := [(.int d)]) (rest := []) (lenOf own_pd0 rfl) rfl (by show 2 * 0 + _ ≤ _; exact Nat.le_of_eq rfl) (hb hby at_368) (fun _ _ => ⟨rfl, rfl, (by decide : 5 + 0 ≤ _), (by decide : 19 + 0 ≤ _)⟩)
  dsimp only [Pt.U, Pt.locs, Pt.cells, Pt.slots] at X106 l106 y106 z106 st106 hQ106
  subst l106 y106 z106
  obtain ⟨rfl, Nq106, e106⟩ := hQ106
  have N106 := Fr.app N105 Nq106
  have Zend : n0 ≤ T106.heap.size := by rw [e106]; exact Z105
  have eend := e106
  refine ⟨T106, _, #[s0, s1, s2, s3, s4, .val (.int d), s6, s7, s8, .val (.ref b9), s10, .val (.ref b11), .val (.ref b12), s13, s14, .val (.int (1 : Int32)), s16, s17, .val (.int (1 : Int32)), .val (.int (1 : Int32))], X106, N106, Zend, trivial, fun target kt => ?_⟩
  show Steps p.tables e below (T0.setTop (mkF m 273 #[s0, s1, s2, s3, s4, .val (.int d), s6, s7, s8, .val (.ref b9), s10, .val (.ref b11), .val (.ref b12), s13, s14, .val (.int (1 : Int32)), s16, s17, .unset, .unset] [])) _
  refine XS.aload X0.here hx rfl (hb hby at_273) rfl rfl ?_
  show Steps p.tables e below (T0.setTop (mkF m 275 #[s0, s1, s2, s3, s4, .val (.int d), s6, s7, s8, .val (.ref b9), s10, .val (.ref b11), .val (.ref b12), s13, s14, .val (.int (1 : Int32)), s16, s17, .unset, .unset] [(.ref b12)])) _
  refine XS.aload X0.here hx rfl (hb hby at_275) rfl rfl ?_
  show Steps p.tables e below (T0.setTop (mkF m 277 #[s0, s1, s2, s3, s4, .val (.int d), s6, s7, s8, .val (.ref b9), s10, .val (.ref b11), .val (.ref b12), s13, s14, .val (.int (1 : Int32)), s16, s17, .unset, .unset] [(.ref b9), (.ref b12)])) _
  refine XS.iconst X0.here hx rfl (hb hby at_277) ?_
  show Steps p.tables e below (T0.setTop (mkF m 278 #[s0, s1, s2, s3, s4, .val (.int d), s6, s7, s8, .val (.ref b9), s10, .val (.ref b11), .val (.ref b12), s13, s14, .val (.int (1 : Int32)), s16, s17, .unset, .unset] [(.int (0 : Int32)), (.ref b9), (.ref b12)])) _
  refine XS.iconst X0.here hx rfl (hb hby at_278) ?_
  show Steps p.tables e below (T0.setTop (mkF m 279 #[s0, s1, s2, s3, s4, .val (.int d), s6, s7, s8, .val (.ref b9), s10, .val (.ref b11), .val (.ref b12), s13, s14, .val (.int (1 : Int32)), s16, s17, .unset, .unset] [(.int (2 : Int32)), (.int (0 : Int32)), (.ref b9), (.ref b12)])) _
  refine XS.aload X0.here hx rfl (hb hby at_279) rfl rfl ?_
  show Steps p.tables e below (T0.setTop (mkF m 281 #[s0, s1, s2, s3, s4, .val (.int d), s6, s7, s8, .val (.ref b9), s10, .val (.ref b11), .val (.ref b12), s13, s14, .val (.int (1 : Int32)), s16, s17, .unset, .unset] [(.ref b11), (.int (2 : Int32)), (.int (0 : Int32)), (.ref b9), (.ref b12)])) _
  refine XS.iconst X0.here hx rfl (hb hby at_281) ?_
  show Steps p.tables e below (T0.setTop (mkF m 282 #[s0, s1, s2, s3, s4, .val (.int d), s6, s7, s8, .val (.ref b9), s10, .val (.ref b11), .val (.ref b12), s13, s14, .val (.int (1 : Int32)), s16, s17, .unset, .unset] [(.int (0 : Int32)), (.ref b11), (.int (2 : Int32)), (.int (0 : Int32)), (.ref b9), (.ref b12)])) _
  refine st101.trans ?_
  show Steps p.tables e below (T101.setTop (mkF m 285 #[s0, s1, s2, s3, s4, .val (.int d), s6, s7, s8, .val (.ref b9), s10, .val (.ref b11), .val (.ref b12), s13, s14, .val (.int (1 : Int32)), s16, s17, .unset, .unset] [(.int (1 : Int32))])) _
  refine XS.istore X101.here hx rfl (hb hby at_285) rfl (l' := #[s0, s1, s2, s3, s4, .val (.int d), s6, s7, s8, .val (.ref b9), s10, .val (.ref b11), .val (.ref b12), s13, s14, .val (.int (1 : Int32)), s16, s17, .val (.int (1 : Int32)), .unset]) rfl ?_
  show Steps p.tables e below (T101.setTop (mkF m 287 #[s0, s1, s2, s3, s4, .val (.int d), s6, s7, s8, .val (.ref b9), s10, .val (.ref b11), .val (.ref b12), s13, s14, .val (.int (1 : Int32)), s16, s17, .val (.int (1 : Int32)), .unset] [])) _
  refine XS.iload X101.here hx rfl (hb hby at_287) rfl ?_
  show Steps p.tables e below (T101.setTop (mkF m 289 #[s0, s1, s2, s3, s4, .val (.int d), s6, s7, s8, .val (.ref b9), s10, .val (.ref b11), .val (.ref b12), s13, s14, .val (.int (1 : Int32)), s16, s17, .val (.int (1 : Int32)), .unset] [(.int d)])) _
  refine st102 _ ?_
  show Steps p.tables e below (T102.setTop (mkF m 292 #[s0, s1, s2, s3, s4, .val (.int d), s6, s7, s8, .val (.ref b9), s10, .val (.ref b11), .val (.ref b12), s13, s14, .val (.int (1 : Int32)), s16, s17, .val (.int (1 : Int32)), .unset] [(.int (0 : Int32))])) _
  refine XS.ifYes X102.here hx rfl (pc0 := 292) (pc' := 315) rfl (hb hby at_292) rfl ((if0 _ _).trans (teq rfl).1) (by decide) (by decide) ?_
  show Steps p.tables e below (T102.setTop (mkF m 315 #[s0, s1, s2, s3, s4, .val (.int d), s6, s7, s8, .val (.ref b9), s10, .val (.ref b11), .val (.ref b12), s13, s14, .val (.int (1 : Int32)), s16, s17, .val (.int (1 : Int32)), .unset] [])) _
  refine XS.iload X102.here hx rfl (hb hby at_315) rfl ?_
  show Steps p.tables e below (T102.setTop (mkF m 317 #[s0, s1, s2, s3, s4, .val (.int d), s6, s7, s8, .val (.ref b9), s10, .val (.ref b11), .val (.ref b12), s13, s14, .val (.int (1 : Int32)), s16, s17, .val (.int (1 : Int32)), .unset] [(.int (1 : Int32))])) _
  refine XS.ifNo X102.here hx rfl (hb hby at_317) rfl ((if0 _ _).trans (feq (by decide : ¬ (1 : Int32) = (0 : Int32))).1) ?_
  show Steps p.tables e below (T102.setTop (mkF m 320 #[s0, s1, s2, s3, s4, .val (.int d), s6, s7, s8, .val (.ref b9), s10, .val (.ref b11), .val (.ref b12), s13, s14, .val (.int (1 : Int32)), s16, s17, .val (.int (1 : Int32)), .unset] [])) _
  refine XS.iload X102.here hx rfl (hb hby at_320) rfl ?_
  show Steps p.tables e below (T102.setTop (mkF m 322 #[s0, s1, s2, s3, s4, .val (.int d), s6, s7, s8, .val (.ref b9), s10, .val (.ref b11), .val (.ref b12), s13, s14, .val (.int (1 : Int32)), s16, s17, .val (.int (1 : Int32)), .unset] [(.int (1 : Int32))])) _
  refine XS.iconst X102.here hx rfl (hb hby at_322) ?_
  show Steps p.tables e below (T102.setTop (mkF m 323 #[s0, s1, s2, s3, s4, .val (.int d), s6, s7, s8, .val (.ref b9), s10, .val (.ref b11), .val (.ref b12), s13, s14, .val (.int (1 : Int32)), s16, s17, .val (.int (1 : Int32)), .unset] [(.int (1 : Int32)), (.int (1 : Int32))])) _
  refine XS.icmpNo X102.here hx rfl (hb hby at_323) rfl (teq rfl).2 ?_
  show Steps p.tables e below (T102.setTop (mkF m 326 #[s0, s1, s2, s3, s4, .val (.int d), s6, s7, s8, .val (.ref b9), s10, .val (.ref b11), .val (.ref b12), s13, s14, .val (.int (1 : Int32)), s16, s17, .val (.int (1 : Int32)), .unset] [])) _
  refine XS.aload X102.here hx rfl (hb hby at_326) rfl rfl ?_
  show Steps p.tables e below (T102.setTop (mkF m 328 #[s0, s1, s2, s3, s4, .val (.int d), s6, s7, s8, .val (.ref b9), s10, .val (.ref b11), .val (.ref b12), s13, s14, .val (.int (1 : Int32)), s16, s17, .val (.int (1 : Int32)), .unset] [(.ref b11)])) _
  refine XS.iconst X102.here hx rfl (hb hby at_328) ?_
  show Steps p.tables e below (T102.setTop (mkF m 329 #[s0, s1, s2, s3, s4, .val (.int d), s6, s7, s8, .val (.ref b9), s10, .val (.ref b11), .val (.ref b12), s13, s14, .val (.int (1 : Int32)), s16, s17, .val (.int (1 : Int32)), .unset] [(.int (0 : Int32)), (.ref b11)])) _
  refine own_ldC X102 hx hZ e102 At101 (j := (0 : Int32)) 0 (by decide) rfl (by decide) (v := (.int (own_out d))) rfl (g := (mkF m 329 #[s0, s1, s2, s3, s4, .val (.int d), s6, s7, s8, .val (.ref b9), s10, .val (.ref b11), .val (.ref b12), s13, s14, .val (.int (1 : Int32)), s16, s17, .val (.int (1 : Int32)), .unset] [(.int (0 : Int32)), (.ref b11)])) rfl rfl (hb hby at_329) _ ?_
  show Steps p.tables e below (T102.setTop (mkF m 330 #[s0, s1, s2, s3, s4, .val (.int d), s6, s7, s8, .val (.ref b9), s10, .val (.ref b11), .val (.ref b12), s13, s14, .val (.int (1 : Int32)), s16, s17, .val (.int (1 : Int32)), .unset] [(.int (own_out d))])) _
  refine XS.iload X102.here hx rfl (hb hby at_330) rfl ?_
  show Steps p.tables e below (T102.setTop (mkF m 332 #[s0, s1, s2, s3, s4, .val (.int d), s6, s7, s8, .val (.ref b9), s10, .val (.ref b11), .val (.ref b12), s13, s14, .val (.int (1 : Int32)), s16, s17, .val (.int (1 : Int32)), .unset] [(.int d), (.int (own_out d))])) _
  refine st103 _ ?_
  show Steps p.tables e below (T103.setTop (mkF m 335 #[s0, s1, s2, s3, s4, .val (.int d), s6, s7, s8, .val (.ref b9), s10, .val (.ref b11), .val (.ref b12), s13, s14, .val (.int (1 : Int32)), s16, s17, .val (.int (1 : Int32)), .unset] [(.int (own_low d)), (.int (own_out d))])) _
  refine rg104 _ ?_
  show Steps p.tables e below (T103.setTop (mkF m 345 #[s0, s1, s2, s3, s4, .val (.int d), s6, s7, s8, .val (.ref b9), s10, .val (.ref b11), .val (.ref b12), s13, s14, .val (.int (1 : Int32)), s16, s17, .val (.int (1 : Int32)), .unset] [(.int (if (own_low d) = (0 : Int32) then d else (65533 : Int32))), (.int (own_out d))])) _
  refine XS.icmpNo X103.here hx rfl (hb hby at_345) rfl (teq rfl).2 ?_
  show Steps p.tables e below (T103.setTop (mkF m 348 #[s0, s1, s2, s3, s4, .val (.int d), s6, s7, s8, .val (.ref b9), s10, .val (.ref b11), .val (.ref b12), s13, s14, .val (.int (1 : Int32)), s16, s17, .val (.int (1 : Int32)), .unset] [])) _
  refine XS.iconst X103.here hx rfl (hb hby at_348) ?_
  show Steps p.tables e below (T103.setTop (mkF m 349 #[s0, s1, s2, s3, s4, .val (.int d), s6, s7, s8, .val (.ref b9), s10, .val (.ref b11), .val (.ref b12), s13, s14, .val (.int (1 : Int32)), s16, s17, .val (.int (1 : Int32)), .unset] [(.int (1 : Int32))])) _
  refine XS.goto X103.here hx rfl (pc0 := 349) (pc' := 353) rfl (hb hby at_349) (by decide) (by decide) ?_
  show Steps p.tables e below (T103.setTop (mkF m 353 #[s0, s1, s2, s3, s4, .val (.int d), s6, s7, s8, .val (.ref b9), s10, .val (.ref b11), .val (.ref b12), s13, s14, .val (.int (1 : Int32)), s16, s17, .val (.int (1 : Int32)), .unset] [(.int (1 : Int32))])) _
  refine XS.istore X103.here hx rfl (hb hby at_353) rfl (l' := #[s0, s1, s2, s3, s4, .val (.int d), s6, s7, s8, .val (.ref b9), s10, .val (.ref b11), .val (.ref b12), s13, s14, .val (.int (1 : Int32)), s16, s17, .val (.int (1 : Int32)), .unset]) rfl ?_
  show Steps p.tables e below (T103.setTop (mkF m 355 #[s0, s1, s2, s3, s4, .val (.int d), s6, s7, s8, .val (.ref b9), s10, .val (.ref b11), .val (.ref b12), s13, s14, .val (.int (1 : Int32)), s16, s17, .val (.int (1 : Int32)), .unset] [])) _
  refine XS.aload X103.here hx rfl (hb hby at_355) rfl rfl ?_
  show Steps p.tables e below (T103.setTop (mkF m 357 #[s0, s1, s2, s3, s4, .val (.int d), s6, s7, s8, .val (.ref b9), s10, .val (.ref b11), .val (.ref b12), s13, s14, .val (.int (1 : Int32)), s16, s17, .val (.int (1 : Int32)), .unset] [(.ref b12)])) _
  refine XS.aload X103.here hx rfl (hb hby at_357) rfl rfl ?_
  show Steps p.tables e below (T103.setTop (mkF m 359 #[s0, s1, s2, s3, s4, .val (.int d), s6, s7, s8, .val (.ref b9), s10, .val (.ref b11), .val (.ref b12), s13, s14, .val (.int (1 : Int32)), s16, s17, .val (.int (1 : Int32)), .unset] [(.ref b11), (.ref b12)])) _
  refine XS.iload X103.here hx rfl (hb hby at_359) rfl ?_
  show Steps p.tables e below (T103.setTop (mkF m 361 #[s0, s1, s2, s3, s4, .val (.int d), s6, s7, s8, .val (.ref b9), s10, .val (.ref b11), .val (.ref b12), s13, s14, .val (.int (1 : Int32)), s16, s17, .val (.int (1 : Int32)), .unset] [(.int (1 : Int32)), (.ref b11), (.ref b12)])) _
  refine st105.trans ?_
  show Steps p.tables e below (T105.setTop (mkF m 364 #[s0, s1, s2, s3, s4, .val (.int d), s6, s7, s8, .val (.ref b9), s10, .val (.ref b11), .val (.ref b12), s13, s14, .val (.int (1 : Int32)), s16, s17, .val (.int (1 : Int32)), .unset] [(.int (1 : Int32))])) _
  refine XS.istore X105.here hx rfl (hb hby at_364) rfl (l' := #[s0, s1, s2, s3, s4, .val (.int d), s6, s7, s8, .val (.ref b9), s10, .val (.ref b11), .val (.ref b12), s13, s14, .val (.int (1 : Int32)), s16, s17, .val (.int (1 : Int32)), .val (.int (1 : Int32))]) rfl ?_
  show Steps p.tables e below (T105.setTop (mkF m 366 #[s0, s1, s2, s3, s4, .val (.int d), s6, s7, s8, .val (.ref b9), s10, .val (.ref b11), .val (.ref b12), s13, s14, .val (.int (1 : Int32)), s16, s17, .val (.int (1 : Int32)), .val (.int (1 : Int32))] [])) _
  refine XS.iload X105.here hx rfl (hb hby at_366) rfl ?_
  show Steps p.tables e below (T105.setTop (mkF m 368 #[s0, s1, s2, s3, s4, .val (.int d), s6, s7, s8, .val (.ref b9), s10, .val (.ref b11), .val (.ref b12), s13, s14, .val (.int (1 : Int32)), s16, s17, .val (.int (1 : Int32)), .val (.int (1 : Int32))] [(.int d)])) _
  refine st106 _ ?_
  show Steps p.tables e below (T106.setTop (mkF m 371 #[s0, s1, s2, s3, s4, .val (.int d), s6, s7, s8, .val (.ref b9), s10, .val (.ref b11), .val (.ref b12), s13, s14, .val (.int (1 : Int32)), s16, s17, .val (.int (1 : Int32)), .val (.int (1 : Int32))] [(.int (0 : Int32))])) _
  refine XS.ifYes X106.here hx rfl (pc0 := 371) (pc' := 404) rfl (hb hby at_371) rfl ((if0 _ _).trans (teq rfl).1) (by decide) (by decide) ?_
  show Steps p.tables e below (T106.setTop (mkF m 404 #[s0, s1, s2, s3, s4, .val (.int d), s6, s7, s8, .val (.ref b9), s10, .val (.ref b11), .val (.ref b12), s13, s14, .val (.int (1 : Int32)), s16, s17, .val (.int (1 : Int32)), .val (.int (1 : Int32))] [])) _
  refine XS.iload X106.here hx rfl (hb hby at_404) rfl ?_
  show Steps p.tables e below (T106.setTop (mkF m 406 #[s0, s1, s2, s3, s4, .val (.int d), s6, s7, s8, .val (.ref b9), s10, .val (.ref b11), .val (.ref b12), s13, s14, .val (.int (1 : Int32)), s16, s17, .val (.int (1 : Int32)), .val (.int (1 : Int32))] [(.int (1 : Int32))])) _
  refine XS.ifNo X106.here hx rfl (hb hby at_406) rfl ((if0 _ _).trans (feq (by decide : ¬ (1 : Int32) = (0 : Int32))).1) ?_
  show Steps p.tables e below (T106.setTop (mkF m 409 #[s0, s1, s2, s3, s4, .val (.int d), s6, s7, s8, .val (.ref b9), s10, .val (.ref b11), .val (.ref b12), s13, s14, .val (.int (1 : Int32)), s16, s17, .val (.int (1 : Int32)), .val (.int (1 : Int32))] [])) _
  refine XS.iload X106.here hx rfl (hb hby at_409) rfl ?_
  show Steps p.tables e below (T106.setTop (mkF m 411 #[s0, s1, s2, s3, s4, .val (.int d), s6, s7, s8, .val (.ref b9), s10, .val (.ref b11), .val (.ref b12), s13, s14, .val (.int (1 : Int32)), s16, s17, .val (.int (1 : Int32)), .val (.int (1 : Int32))] [(.int (1 : Int32))])) _
  refine XS.iload X106.here hx rfl (hb hby at_411) rfl ?_
  show Steps p.tables e below (T106.setTop (mkF m 413 #[s0, s1, s2, s3, s4, .val (.int d), s6, s7, s8, .val (.ref b9), s10, .val (.ref b11), .val (.ref b12), s13, s14, .val (.int (1 : Int32)), s16, s17, .val (.int (1 : Int32)), .val (.int (1 : Int32))] [(.int (1 : Int32)), (.int (1 : Int32))])) _
  refine XS.icmpNo X106.here hx rfl (hb hby at_413) rfl (teq rfl).2 ?_
  show Steps p.tables e below (T106.setTop (mkF m 416 #[s0, s1, s2, s3, s4, .val (.int d), s6, s7, s8, .val (.ref b9), s10, .val (.ref b11), .val (.ref b12), s13, s14, .val (.int (1 : Int32)), s16, s17, .val (.int (1 : Int32)), .val (.int (1 : Int32))] [])) _
  refine XS.aload X106.here hx rfl (hb hby at_416) rfl rfl ?_
  show Steps p.tables e below (T106.setTop (mkF m 418 #[s0, s1, s2, s3, s4, .val (.int d), s6, s7, s8, .val (.ref b9), s10, .val (.ref b11), .val (.ref b12), s13, s14, .val (.int (1 : Int32)), s16, s17, .val (.int (1 : Int32)), .val (.int (1 : Int32))] [(.ref b11)])) _
  refine XS.iconst X106.here hx rfl (hb hby at_418) ?_
  show Steps p.tables e below (T106.setTop (mkF m 419 #[s0, s1, s2, s3, s4, .val (.int d), s6, s7, s8, .val (.ref b9), s10, .val (.ref b11), .val (.ref b12), s13, s14, .val (.int (1 : Int32)), s16, s17, .val (.int (1 : Int32)), .val (.int (1 : Int32))] [(.int (1 : Int32)), (.ref b11)])) _
  refine own_ldC X106 hx hZ e106 At105 (j := (1 : Int32)) 1 (by decide) rfl (by decide) (v := (.int (0 : Int32))) rfl (g := (mkF m 419 #[s0, s1, s2, s3, s4, .val (.int d), s6, s7, s8, .val (.ref b9), s10, .val (.ref b11), .val (.ref b12), s13, s14, .val (.int (1 : Int32)), s16, s17, .val (.int (1 : Int32)), .val (.int (1 : Int32))] [(.int (1 : Int32)), (.ref b11)])) rfl rfl (hb hby at_419) _ ?_
  show Steps p.tables e below (T106.setTop (mkF m 420 #[s0, s1, s2, s3, s4, .val (.int d), s6, s7, s8, .val (.ref b9), s10, .val (.ref b11), .val (.ref b12), s13, s14, .val (.int (1 : Int32)), s16, s17, .val (.int (1 : Int32)), .val (.int (1 : Int32))] [(.int (0 : Int32))])) _
  refine XS.ifNo X106.here hx rfl (hb hby at_420) rfl ((if0 _ _).trans (teq rfl).2) ?_
  show Steps p.tables e below (T106.setTop (mkF m 423 #[s0, s1, s2, s3, s4, .val (.int d), s6, s7, s8, .val (.ref b9), s10, .val (.ref b11), .val (.ref b12), s13, s14, .val (.int (1 : Int32)), s16, s17, .val (.int (1 : Int32)), .val (.int (1 : Int32))] [])) _
  refine XS.iconst X106.here hx rfl (hb hby at_423) ?_
  show Steps p.tables e below (T106.setTop (mkF m 424 #[s0, s1, s2, s3, s4, .val (.int d), s6, s7, s8, .val (.ref b9), s10, .val (.ref b11), .val (.ref b12), s13, s14, .val (.int (1 : Int32)), s16, s17, .val (.int (1 : Int32)), .val (.int (1 : Int32))] [(.int (1 : Int32))])) _
  refine XS.goto X106.here hx rfl (pc0 := 424) (pc' := 428) rfl (hb hby at_424) (by decide) (by decide) ?_
  show Steps p.tables e below (T106.setTop (mkF m 428 #[s0, s1, s2, s3, s4, .val (.int d), s6, s7, s8, .val (.ref b9), s10, .val (.ref b11), .val (.ref b12), s13, s14, .val (.int (1 : Int32)), s16, s17, .val (.int (1 : Int32)), .val (.int (1 : Int32))] [(.int (1 : Int32))])) _
  refine XS.istore X106.here hx rfl (hb hby at_428) rfl (l' := #[s0, s1, s2, s3, s4, .val (.int d), s6, s7, s8, .val (.ref b9), s10, .val (.ref b11), .val (.ref b12), s13, s14, .val (.int (1 : Int32)), s16, s17, .val (.int (1 : Int32)), .val (.int (1 : Int32))]) rfl ?_
  show Steps p.tables e below (T106.setTop (mkF m 430 #[s0, s1, s2, s3, s4, .val (.int d), s6, s7, s8, .val (.ref b9), s10, .val (.ref b11), .val (.ref b12), s13, s14, .val (.int (1 : Int32)), s16, s17, .val (.int (1 : Int32)), .val (.int (1 : Int32))] [])) _
  refine XS.iload X106.here hx rfl (hb hby at_430) rfl ?_
  exact kt
set_option maxRecDepth 65536 in
set_option maxHeartbeats 40000000 in
theorem rm0 (l : Launch) (Z : State) (a0 : Array Value) (hw : ∀ d ∈ tables_1, d.before a0 Z = true) (ws : List Jvm.Cond) (p0 : Int32) (p1 : Int32) (p2 : Int32) (p3 : Int32) (h0 : Heap) (n0 : Nat) (Z0 : n0 ≤ h0.size)  :
    MetFree l x (head1 (Jvm.Cond.code x code maxLocals ret :: ws) room_1) (fun a U => a = #[(.int p0), (.int p1), (.int p2), (.int p3)] ∧ Z.Warmed39 U.vm ∧ U.heap = h0) (fun _ _ _ _ _ => True) (fun _ U o U' => ∃ v L, o = .returned v ∧ QLaw n0 v U'.heap L ∧ FrameEnd U o U' L room_1.cells room_1.slots) := by
  refine MetFree.of_bodySF (plainFor_of_name own_pn0) hisR ?_
  intro p e s m args below meth c s₁ Bd hml0 hP hK
  obtain ⟨rfl, hZ, hh⟩ := hP
  have hx := Bd.exec
  have hby := Bd.bytes
  have hml : c.maxLocals = 20 := hml0
  have hown : s.vm.findClass "com/example/cellwright/cellwright/hive/DecoderFinishPinLaw" = some m.cls := findClass_of_methodNamed Bd.named
  have X0 : Stand p l e room_1 s m #[(.int p0), (.int p1), (.int p2), (.int p3)] below meth c s₁ [] 0 0 := Stand.of_body Bd
  have e0 : s₁.heap = h0 := by rw [← hh, Bd.state]; rfl
  have ef : entryFrame m #[(.int p0), (.int p1), (.int p2), (.int p3)] maxLocals = mkF m 0 #[.val (.int p0), .val (.int p1), .val (.int p2), .val (.int p3), .unset, .unset, .unset, .unset, .unset, .unset, .unset, .unset, .unset, .unset, .unset, .unset, .unset, .unset, .unset, .unset] [] := by first | (simp [entryFrame, mkF, argsToLocals, Value.category, maxLocals]; done) | rfl
  obtain ⟨T1, L1, cc, dd, X1, N1, Z1, hcc, hdd, st1⟩ := sg0 p0 p1 p2 p3 h0 n0 Z0 X0 (Fr.nil n0) hx hZ hw hby hml hown e0
  have two : ∃ (T2 : State) (L2 : List Loc) (s0 : Slot) (s1 : Slot) (s2 : Slot) (s3 : Slot) (s4 : Slot) (s6 : Slot) (s7 : Slot) (s8 : Slot) (s10 : Slot) (s13 : Slot) (s14 : Slot) (s16 : Slot) (s17 : Slot) (b9 b11 b12 : Addr), Stand p l e room_1 s m #[(.int p0), (.int p1), (.int p2), (.int p3)] below meth c T2 L2 5 19 ∧ Fr n0 L2 ∧ n0 ≤ T2.heap.size ∧ n0 ≤ b11 ∧ n0 ≤ b12 ∧ b9 ≠ b12 ∧ b9 ≠ b11 ∧ b11 ≠ b12 ∧ OwnA Z T2.heap b9 .byte 2 (own_upd (own_upd (fun _ => (.int (0 : Int32))) 0 (.int (dd.toInt8.toInt32).toInt8.toInt32)) 1 (.int (((dd.toUInt32 >>> ((8 : Int32) &&& 31).toUInt32).toInt32).toInt8.toInt32).toInt8.toInt32)) ∧ OwnA Z T2.heap b11 .char 4 (fun _ => .int (0 : Int32)) ∧ Exa Z T2.heap b12 "com/example/cellwright/cellwright/hive/Utf16Le$Decoder" ∧ Fld Z T2.heap b12 "com/example/cellwright/cellwright/hive/Utf16Le$Decoder" "oddByte" "I" (.int (-1 : Int32)) ∧ Fld Z T2.heap b12 "com/example/cellwright/cellwright/hive/Utf16Le$Decoder" "high" "C" (.int (0 : Int32)) ∧ ∀ target, Steps p.tables e below (T2.setTop (mkF m 273 #[s0, s1, s2, s3, s4, .val (.int dd), s6, s7, s8, .val (.ref b9), s10, .val (.ref b11), .val (.ref b12), s13, s14, .val (.int (1 : Int32)), s16, s17, .unset, .unset] [])) target → Steps p.tables e below (T1.setTop (mkF m 16 #[.val (.int p0), .val (.int p1), .val (.int p2), .val (.int p3), .val (.int cc), .val (.int dd), .unset, .unset, .unset, .unset, .unset, .unset, .unset, .unset, .unset, .unset, .unset, .unset, .unset, .unset] [])) target := by
    by_cases hodd : (((p2.toUInt32 >>> ((4 : Int32) &&& 31).toUInt32).toInt32) &&& (1 : Int32)) = (0 : Int32)
    · by_cases h1 : cc < (55296 : Int32)
      · obtain ⟨T2, L2, s0, s1, s2, s3, s4, s6, s7, s8, s10, s13, s14, s16, s17, b9, b11, b12, X2, N2, Z2, g11, g12, n912, n911, n1112, A9, A11, E12, Fo12, Fh12, st2⟩ := sg1N2 p0 p1 p2 p3 cc dd T1.heap n0 Z1 X1 N1 hx hZ hw hby hml hown rfl hcc (Or.inl h1) hodd
        exact ⟨T2, L2, s0, s1, s2, s3, s4, s6, s7, s8, s10, s13, s14, s16, s17, b9, b11, b12, X2.more (by decide) (by decide), N2, Z2, g11, g12, n912, n911, n1112, A9, A11, E12, Fo12, Fh12, st2⟩
      · by_cases h2 : (56319 : Int32) < cc
        · obtain ⟨T2, L2, s0, s1, s2, s3, s4, s6, s7, s8, s10, s13, s14, s16, s17, b9, b11, b12, X2, N2, Z2, g11, g12, n912, n911, n1112, A9, A11, E12, Fo12, Fh12, st2⟩ := sg1N2 p0 p1 p2 p3 cc dd T1.heap n0 Z1 X1 N1 hx hZ hw hby hml hown rfl hcc (Or.inr h2) hodd
          exact ⟨T2, L2, s0, s1, s2, s3, s4, s6, s7, s8, s10, s13, s14, s16, s17, b9, b11, b12, X2.more (by decide) (by decide), N2, Z2, g11, g12, n912, n911, n1112, A9, A11, E12, Fo12, Fh12, st2⟩
        · obtain ⟨T2, L2, s0, s1, s2, s3, s4, s6, s7, s8, s10, s13, s14, s16, s17, b9, b11, b12, X2, N2, Z2, g11, g12, n912, n911, n1112, A9, A11, E12, Fo12, Fh12, st2⟩ := sg1H2 p0 p1 p2 p3 cc dd T1.heap n0 Z1 X1 N1 hx hZ hw hby hml hown rfl hcc h1 h2 hodd
          exact ⟨T2, L2, s0, s1, s2, s3, s4, s6, s7, s8, s10, s13, s14, s16, s17, b9, b11, b12, X2.more (by decide) (by decide), N2, Z2, g11, g12, n912, n911, n1112, A9, A11, E12, Fo12, Fh12, st2⟩
    · by_cases h1 : cc < (55296 : Int32)
      · obtain ⟨T2, L2, s0, s1, s2, s3, s4, s6, s7, s8, s10, s13, s14, s16, s17, b9, b11, b12, X2, N2, Z2, g11, g12, n912, n911, n1112, A9, A11, E12, Fo12, Fh12, st2⟩ := sg1N3 p0 p1 p2 p3 cc dd T1.heap n0 Z1 X1 N1 hx hZ hw hby hml hown rfl hcc (Or.inl h1) hodd
        exact ⟨T2, L2, s0, s1, s2, s3, s4, s6, s7, s8, s10, s13, s14, s16, s17, b9, b11, b12, X2.more (by decide) (by decide), N2, Z2, g11, g12, n912, n911, n1112, A9, A11, E12, Fo12, Fh12, st2⟩
      · by_cases h2 : (56319 : Int32) < cc
        · obtain ⟨T2, L2, s0, s1, s2, s3, s4, s6, s7, s8, s10, s13, s14, s16, s17, b9, b11, b12, X2, N2, Z2, g11, g12, n912, n911, n1112, A9, A11, E12, Fo12, Fh12, st2⟩ := sg1N3 p0 p1 p2 p3 cc dd T1.heap n0 Z1 X1 N1 hx hZ hw hby hml hown rfl hcc (Or.inr h2) hodd
          exact ⟨T2, L2, s0, s1, s2, s3, s4, s6, s7, s8, s10, s13, s14, s16, s17, b9, b11, b12, X2.more (by decide) (by decide), N2, Z2, g11, g12, n912, n911, n1112, A9, A11, E12, Fo12, Fh12, st2⟩
        · obtain ⟨T2, L2, s0, s1, s2, s3, s4, s6, s7, s8, s10, s13, s14, s16, s17, b9, b11, b12, X2, N2, Z2, g11, g12, n912, n911, n1112, A9, A11, E12, Fo12, Fh12, st2⟩ := sg1H3 p0 p1 p2 p3 cc dd T1.heap n0 Z1 X1 N1 hx hZ hw hby hml hown rfl hcc h1 h2 hodd
          exact ⟨T2, L2, s0, s1, s2, s3, s4, s6, s7, s8, s10, s13, s14, s16, s17, b9, b11, b12, X2.more (by decide) (by decide), N2, Z2, g11, g12, n912, n911, n1112, A9, A11, E12, Fo12, Fh12, st2⟩
  obtain ⟨T2, L2, s0, s1, s2, s3, s4, s6, s7, s8, s10, s13, s14, s16, s17, b9, b11, b12, X2, N2, Z2, g11, g12, n912, n911, n1112, A9, A11, E12, Fo12, Fh12, st2⟩ := two
  have three : ∃ (T3 : State) (L3 : List Loc) (Ls : Array Slot), Stand p l e room_1 s m #[(.int p0), (.int p1), (.int p2), (.int p3)] below meth c T3 L3 5 19 ∧ Fr n0 L3 ∧ ∀ target, Steps p.tables e below (T3.setTop (mkF m 432 Ls [(.int (1 : Int32))])) target → Steps p.tables e below (T2.setTop (mkF m 273 #[s0, s1, s2, s3, s4, .val (.int dd), s6, s7, s8, .val (.ref b9), s10, .val (.ref b11), .val (.ref b12), s13, s14, .val (.int (1 : Int32)), s16, s17, .unset, .unset] [])) target := by
    by_cases h1 : dd < (55296 : Int32)
    · obtain ⟨T3, L3, Ls, X3, N3, -, -, st3⟩ := sg2N dd b9 b11 b12 s0 s1 s2 s3 s4 s6 s7 s8 s10 s13 s14 s16 s17 T2.heap n0 Z2 X2 N2 hx hZ hw hby hml hown rfl hdd (Or.inl h1) g11 g12 n912 n911 n1112 A9 A11 E12 Fo12 Fh12
      exact ⟨T3, L3, Ls, X3, N3, st3⟩
    · by_cases h2 : (56319 : Int32) < dd
      · obtain ⟨T3, L3, Ls, X3, N3, -, -, st3⟩ := sg2N dd b9 b11 b12 s0 s1 s2 s3 s4 s6 s7 s8 s10 s13 s14 s16 s17 T2.heap n0 Z2 X2 N2 hx hZ hw hby hml hown rfl hdd (Or.inr h2) g11 g12 n912 n911 n1112 A9 A11 E12 Fo12 Fh12
        exact ⟨T3, L3, Ls, X3, N3, st3⟩
      · obtain ⟨T3, L3, Ls, X3, N3, -, -, st3⟩ := sg2H dd b9 b11 b12 s0 s1 s2 s3 s4 s6 s7 s8 s10 s13 s14 s16 s17 T2.heap n0 Z2 X2 N2 hx hZ hw hby hml hown rfl hdd h1 h2 g11 g12 n912 n911 n1112 A9 A11 E12 Fo12 Fh12
        exact ⟨T3, L3, Ls, X3, N3, st3⟩
  obtain ⟨T3, L3, Ls, X3, N3, st3⟩ := three
  obtain ⟨fs, hr, hrun, hended, hW, hsame⟩ := X3.leave (v := some (.int (1 : Int32))) (fun h => by rw [Bd.returns] at h; cases h)
  refine ⟨_, _, castTop ef (st1 _ (st2 _ (st3 _ ?_))), hrun, hended, _, _, rfl, ?_, ⟨_, rfl⟩, hW, hsame.mono (by decide) (by decide)⟩
  · exact retN X3 hx (t := .boolean) Bd.returns (by simp) (hb hby at_432) hr
  · exact ⟨rfl, N3⟩
set_option maxRecDepth 65536 in
set_option maxHeartbeats 40000000 in
theorem comes_1 {Post : Tables → Env → Array Value → State → Outcome → State → Prop} (hpost : ∀ tb e args s v u, (limb_1_1.after args s (.returned v) u = true ∧ limb_1_2.after args s (.returned v) u = true ∧ True) → FrameEnd s (.returned v) u (Jvm.fieldLocs frame_1_writes args s ++ Jvm.arrayLocs frame_1_arrays args s ++ Jvm.staticLocs frame_1_statics s) 24 128 → Post tb e args s (.returned v) u) :
    ArmFor flags0 classFile x code maxLocals ret World_1 tables_1 room_1 Calls_1 rest_1 Pre_1 Post := by
  intro l hfl _ _ p e ha hc hk s m args below hf hA hF happ hP
  obtain ⟨hcalls, hrest, hpre⟩ := hP
  obtain ⟨-, -, -, hnamed, -, -, -, hat⟩ := (Spec.applies_iff hf).mp happ
  obtain ⟨hg, hn⟩ := and_e (Cond.before_iff.mp (show (Jvm.Cond.and given_1 narrow_1).before args s = true from hpre))
  obtain ⟨hcnt, hg0⟩ := and_e hg
  obtain ⟨ha0, hg1⟩ := and_e hg0
  obtain ⟨ha1, hg2⟩ := and_e hg1
  obtain ⟨ha2, hg3⟩ := and_e hg2
  have ha3 := hg3
  obtain ⟨w0, w1, w2, w3, rfl⟩ : ∃ w0 w1 w2 w3 : Value, args = #[w0, w1, w2, w3] := by
    have hs : args.size = 4 := by simpa [Cond.value, given_1] using hcnt
    obtain ⟨L⟩ := args
    match L, hs with
    | [w0, w1, w2, w3], _ => exact ⟨w0, w1, w2, w3, rfl⟩
  have hw := fun d (hd : d ∈ tables_1) => atoms_spec (ws := Jvm.Cond.code x code maxLocals ret :: tables_1) hat d (List.mem_cons_of_mem _ hd)
  have hfit : Fit s := fun {y c} hc i hi => by
    obtain ⟨ha, rfl⟩ := Array.getElem?_eq_some_iff.mp hc
    have q := List.all_eq_true.mp ((Array.all_eq_true_iff_forall_mem.mp hF) _ (Array.getElem_mem ha)) i (List.mem_range.mpr hi)
    simpa [Array.getElem?_eq_getElem hi] using q
  obtain ⟨i0, ei0⟩ := is_v ha0
  obtain rfl : w0 = (.int i0) := Option.some.inj ei0
  obtain ⟨i1, ei1⟩ := is_v ha1
  obtain rfl : w1 = (.int i1) := Option.some.inj ei1
  obtain ⟨i2, ei2⟩ := is_v ha2
  obtain rfl : w2 = (.int i2) := Option.some.inj ei2
  obtain ⟨i3, ei3⟩ := is_v ha3
  obtain rfl : w3 = (.int i3) := Option.some.inj ei3
  obtain ⟨n, o, h1, h2, h3, _, L, rfl, ⟨rfl, N⟩, hq⟩ := rm0 l s _ hw tables_1 i0 i1 i2 i3 s.heap s.heap.size (Nat.le_refl _)  p e ha hc hk s m _ below hf ((Spec.applies_iff_loose hf).mp happ).1 ⟨rfl, State.Warmed39.refl s, rfl⟩ trivial
  refine ⟨n, _, h1, h2, h3, hpost _ _ _ _ _ _ ⟨Cond.after_iff.mpr rfl, Cond.after_iff.mpr (eq_i res_at (Term.int_eval (1)) rfl), trivial⟩ ⟨hq.1, hq.2.1, (hq.2.2.sift fun y hy => Or.inr (N y hy)).mono (by decide) (by decide)⟩⟩
theorem main_1_1 : Claimed_1_1 := comes_1 fun _ _ _ _ _ _ h hF => ⟨h.1, hF⟩
theorem main_1_2 : Claimed_1_2 := comes_1 fun _ _ _ _ _ _ h hF => ⟨h.2.1, hF⟩
end Jvm.Pilot.@@N@@
namespace Jvm.Pilot.@@N@@
open Jvm Jvm.ClassFile Sem Op Lib Jvm.Free Jvm.Stand Jvm.Pilot.@@N@@.Jvm.D
/-! MADE BY PROGRAM (witnessworld.py) out of the Statement's table words and the real class files: 14 classes; the members and pool entries that the words name. The judged class is class 1, her method 4. -/
namespace start1
open Jvm.ClassFile
def u (s : String) : CpInfo := .utf8 (stringToUtf16 s)
/-- a pool by its gaps: so many unusable entries, then the entry; so many at the end -/
def gap : Nat → List CpInfo → List CpInfo
  | 0, r => r
  | n + 1, r => .unusable :: gap n r
def poolList (es : List (Nat × CpInfo)) (last : Nat) : List CpInfo := es.foldr (fun e r => gap e.1 (e.2 :: r)) (gap last [])
def pool (es : List (Nat × CpInfo)) (last : Nat) : Array CpInfo := ⟨poolList es last⟩
def fileOf (pool : Array CpInfo) (this : Nat) (attrs : Array Attribute := #[]) (ms : Array MethodInfo := #[]) (fl : Nat := 33) (sup : Nat := 0) (ifs : Array Nat := #[]) (fds : Array FieldInfo := #[]) : ClassFile where
  minorVersion := 0
  majorVersion := 65
  constantPool := pool
  accessFlags := fl
  thisClass := this
  superClass := sup
  interfaces := ifs
  fields := fds
  methods := ms
  attributes := attrs
def plain (name : String) (sup : Option ClassId) : Class where
  name := name
  kind := .ordinary
  loader := none
  accessFlags := 33
  super := sup
  interfaces := #[]
  cf := none
  fields := #[]
  methods := #[]
  instanceTypes := #[]
  staticTypes := #[]
  resolved := #[]
  callSites := []
  init := .initialized
  statics := none
  mirror := none

def pool0 : Array CpInfo := pool [(5, u "<init>"), (0, u "()V"), (1, .class_ 10), (1, u "java/lang/Object")] 113

def k0c0 : Code := { maxStack := 0, maxLocals := 1, code := object_method_1_code, exceptionTable := #[], attributes := #[] }
def k0m0 : Method := { name := "<init>", desc := "()V", sig := { parameters := [], returnType := none }, accessFlags := 1, code := some k0c0 }
/-- java/lang/Object -/
def k0 : Class := { plain "java/lang/Object" none with
  accessFlags := 33
  interfaces := #[]
  cf := some (fileOf pool0 8 #[] #[{ accessFlags := 1, nameIndex := 5, descriptorIndex := 6, attributes := #[] }] 33 0 #[] #[])
  fields := #[]
  methods := #[k0m0]
  instanceTypes := #[]
  staticTypes := #[]
  resolved := Array.replicate 124 none
  statics := none }

def pool1 : Array CpInfo := pool [(2, .class_ 4), (0, .nameAndType 5 6), (0, u "java/lang/Object"), (0, u "<init>"), (0, u "()V"), (0, .integer 55296), (0, .integer 56320), (0, .integer 56319), (0, .integer 57343), (0, .methodref 12 13), (0, .class_ 14), (0, .nameAndType 15 16), (0, u "com/example/cellwright/cellwright/hive/DecoderFinishPinLaw"), (0, u "pick"), (0, u "(II)C"), (0, .class_ 18), (0, u "com/example/cellwright/cellwright/hive/Utf16Le$Decoder"), (0, .methodref 17 3), (0, .methodref 17 21), (0, .nameAndType 22 23), (0, u "decode"), (0, u "([BII[CI)I"), (0, .methodref 12 25), (0, .nameAndType 26 27), (0, u "isHigh"), (0, u "(C)Z"), (0, .methodref 17 29), (0, .nameAndType 30 31), (0, u "finish"), (0, u "([CI)I"), (0, .integer 65533), (0, .methodref 12 34), (0, .nameAndType 35 27), (0, u "isLow"), (3, u "law"), (0, u "(IIII)Z")] 10

def k1m0 : Method := { name := "<init>", desc := "()V", sig := { parameters := [], returnType := none }, accessFlags := 1, code := none }
def k1c1 : Code := { maxStack := 3, maxLocals := 3, code := method_2_code, exceptionTable := #[], attributes := #[] }
def k1m1 : Method := { name := "pick", desc := "(II)C", sig := { parameters := [.int, .int], returnType := some .char }, accessFlags := 10, code := some k1c1 }
def k1c2 : Code := { maxStack := 2, maxLocals := 1, code := method_3_code, exceptionTable := #[], attributes := #[] }
def k1m2 : Method := { name := "isHigh", desc := "(C)Z", sig := { parameters := [.char], returnType := some .boolean }, accessFlags := 10, code := some k1c2 }
def k1c3 : Code := { maxStack := 2, maxLocals := 1, code := method_4_code, exceptionTable := #[], attributes := #[] }
def k1m3 : Method := { name := "isLow", desc := "(C)Z", sig := { parameters := [.char], returnType := some .boolean }, accessFlags := 10, code := some k1c3 }
def k1c4 : Code := { maxStack := 6, maxLocals := 20, code := code, exceptionTable := #[], attributes := #[] }
def k1m4 : Method := { name := "law", desc := "(IIII)Z", sig := { parameters := [.int, .int, .int, .int], returnType := some .boolean }, accessFlags := 9, code := some k1c4 }
/-- com/example/cellwright/cellwright/hive/DecoderFinishPinLaw -/
def k1 : Class := { plain "com/example/cellwright/cellwright/hive/DecoderFinishPinLaw" (some 0) with
  accessFlags := 49
  interfaces := #[]
  cf := some (fileOf pool1 12 #[] #[{ accessFlags := 1, nameIndex := 5, descriptorIndex := 6, attributes := #[] }, { accessFlags := 10, nameIndex := 15, descriptorIndex := 16, attributes := #[] }, { accessFlags := 10, nameIndex := 26, descriptorIndex := 27, attributes := #[] }, { accessFlags := 10, nameIndex := 35, descriptorIndex := 27, attributes := #[] }, { accessFlags := 9, nameIndex := 39, descriptorIndex := 40, attributes := #[] }] 49 2 #[] #[])
  fields := #[]
  methods := #[k1m0, k1m1, k1m2, k1m3, k1m4]
  instanceTypes := #[]
  staticTypes := #[]
  resolved := Array.replicate 51 none
  statics := none }

def pool2 : Array CpInfo := pool [(1, .class_ 2), (0, u "com/example/cellwright/cellwright/hive/Utf16Le"), (0, .methodref 4 5), (0, .class_ 6), (0, .nameAndType 7 8), (0, u "java/lang/Object"), (0, u "<init>"), (0, u "()V"), (0, .fieldref 10 11), (0, .class_ 12), (0, .nameAndType 13 14), (0, u "com/example/cellwright/cellwright/hive/Utf16Le$Decoder"), (0, u "oddByte"), (0, u "I"), (0, .class_ 16), (0, u "java/lang/Character"), (0, .methodref 10 18), (0, .nameAndType 19 20), (0, u "unit"), (0, u "(C[CI)I"), (0, .fieldref 10 22), (0, .nameAndType 23 24), (0, u "high"), (0, u "C"), (0, .integer 55296), (0, .integer 57343), (0, .integer 65533), (0, .methodref 15 29), (0, .nameAndType 30 31), (0, u "isLowSurrogate"), (0, u "(C)Z"), (0, .methodref 15 33), (0, .nameAndType 34 31), (0, u "isHighSurrogate"), (4, u "decode"), (0, u "([BII[CI)I"), (1, u "finish"), (0, u "([CI)I")] 7

def k2c0 : Code := { maxStack := 2, maxLocals := 1, code := prog_97_method_1_code, exceptionTable := #[], attributes := #[] }
def k2m0 : Method := { name := "<init>", desc := "()V", sig := { parameters := [], returnType := none }, accessFlags := 0, code := some k2c0 }
def k2c1 : Code := { maxStack := 4, maxLocals := 10, code := prog_97_method_3_code, exceptionTable := #[], attributes := #[] }
def k2m1 : Method := { name := "decode", desc := "([BII[CI)I", sig := { parameters := [(.array .byte), .int, .int, (.array .char), .int], returnType := some .int }, accessFlags := 0, code := some k2c1 }
def k2c2 : Code := { maxStack := 3, maxLocals := 4, code := prog_97_method_4_code, exceptionTable := #[], attributes := #[] }
def k2m2 : Method := { name := "finish", desc := "([CI)I", sig := { parameters := [(.array .char), .int], returnType := some .int }, accessFlags := 0, code := some k2c2 }
def k2c3 : Code := { maxStack := 3, maxLocals := 6, code := prog_97_method_5_code, exceptionTable := #[], attributes := #[] }
def k2m3 : Method := { name := "unit", desc := "(C[CI)I", sig := { parameters := [.char, (.array .char), .int], returnType := some .int }, accessFlags := 2, code := some k2c3 }
/-- com/example/cellwright/cellwright/hive/Utf16Le$Decoder -/
def k2 : Class := { plain "com/example/cellwright/cellwright/hive/Utf16Le$Decoder" (some 0) with
  accessFlags := 48
  interfaces := #[]
  cf := some (fileOf pool2 10 #[.nestHost 1] #[{ accessFlags := 0, nameIndex := 7, descriptorIndex := 8, attributes := #[] }, { accessFlags := 0, nameIndex := 39, descriptorIndex := 40, attributes := #[] }, { accessFlags := 0, nameIndex := 42, descriptorIndex := 43, attributes := #[] }, { accessFlags := 2, nameIndex := 19, descriptorIndex := 20, attributes := #[] }] 48 4 #[] #[{ accessFlags := 2, nameIndex := 13, descriptorIndex := 14, attributes := #[] }, { accessFlags := 2, nameIndex := 23, descriptorIndex := 24, attributes := #[] }])
  fields := #[{ name := "oddByte", type := .int, accessFlags := 2, slot := 0, constantValue := 0 }, { name := "high", type := .char, accessFlags := 2, slot := 1, constantValue := 0 }]
  methods := #[k2m0, k2m1, k2m2, k2m3]
  instanceTypes := #[.int, .char]
  staticTypes := #[]
  resolved := Array.replicate 51 none
  statics := none }

def pool3 : Array CpInfo := pool [(1, .class_ 2), (0, u "java/io/Serializable"), (0, .class_ 4), (0, u "java/lang/Object")] 2

/-- java/io/Serializable -/
def k3 : Class := { plain "java/io/Serializable" (some 0) with
  accessFlags := 1537
  interfaces := #[]
  cf := some (fileOf pool3 1 #[] #[] 1537 3 #[] #[])
  fields := #[]
  methods := #[]
  instanceTypes := #[]
  staticTypes := #[]
  resolved := Array.replicate 7 none
  statics := none }

def pool4 : Array CpInfo := pool [(1, .class_ 2), (0, u "java/lang/Comparable"), (0, .class_ 4), (0, u "java/lang/Object")] 7

/-- java/lang/Comparable -/
def k4 : Class := { plain "java/lang/Comparable" (some 0) with
  accessFlags := 1537
  interfaces := #[]
  cf := some (fileOf pool4 1 #[] #[] 1537 3 #[] #[])
  fields := #[]
  methods := #[]
  instanceTypes := #[]
  staticTypes := #[]
  resolved := Array.replicate 12 none
  statics := none }

def pool5 : Array CpInfo := pool [(1, .class_ 2), (0, u "java/lang/constant/Constable"), (0, .class_ 4), (0, u "java/lang/Object")] 6

/-- java/lang/constant/Constable -/
def k5 : Class := { plain "java/lang/constant/Constable" (some 0) with
  accessFlags := 1537
  interfaces := #[]
  cf := some (fileOf pool5 1 #[] #[] 1537 3 #[] #[])
  fields := #[]
  methods := #[]
  instanceTypes := #[]
  staticTypes := #[]
  resolved := Array.replicate 11 none
  statics := none }

def pool6 : Array CpInfo := pool [(1, .class_ 2), (0, u "java/lang/Character"), (18, u "value"), (0, u "C"), (19, .class_ 44), (1, u "java/lang/Object"), (3, .class_ 50), (1, u "java/lang/Character$CharacterCache"), (24, .integer 55296), (0, .integer 56320), (0, .integer 57344), (2, u "isHighSurrogate"), (0, u "(C)Z"), (2, u "isLowSurrogate"), (199, u "$assertionsDisabled"), (0, u "Z"), (21, .class_ 309), (1, u "java/lang/Character$UnicodeBlock"), (73, u "TYPE"), (0, u "Ljava/lang/Class;"), (0, .class_ 386), (0, u "java/io/Serializable"), (0, .class_ 388), (0, u "java/lang/Comparable"), (0, .class_ 390), (0, u "java/lang/constant/Constable"), (0, u "MIN_RADIX"), (0, u "I"), (2, u "MAX_RADIX"), (1, u "MIN_VALUE"), (1, u "MAX_VALUE"), (3, u "UNASSIGNED"), (0, u "B"), (0, u "UPPERCASE_LETTER"), (1, u "LOWERCASE_LETTER"), (0, u "TITLECASE_LETTER"), (1, u "MODIFIER_LETTER"), (1, u "OTHER_LETTER"), (1, u "NON_SPACING_MARK"), (1, u "ENCLOSING_MARK"), (1, u "COMBINING_SPACING_MARK"), (1, u "DECIMAL_DIGIT_NUMBER"), (1, u "LETTER_NUMBER"), (1, u "OTHER_NUMBER"), (1, u "SPACE_SEPARATOR"), (1, u "LINE_SEPARATOR"), (1, u "PARAGRAPH_SEPARATOR"), (1, u "CONTROL"), (1, u "FORMAT"), (1, u "PRIVATE_USE"), (1, u "SURROGATE"), (1, u "DASH_PUNCTUATION"), (1, u "START_PUNCTUATION"), (1, u "END_PUNCTUATION"), (1, u "CONNECTOR_PUNCTUATION"), (1, u "OTHER_PUNCTUATION"), (1, u "MATH_SYMBOL"), (1, u "CURRENCY_SYMBOL"), (1, u "MODIFIER_SYMBOL"), (1, u "OTHER_SYMBOL"), (1, u "INITIAL_QUOTE_PUNCTUATION"), (1, u "FINAL_QUOTE_PUNCTUATION"), (1, u "ERROR"), (1, u "DIRECTIONALITY_UNDEFINED"), (0, u "DIRECTIONALITY_LEFT_TO_RIGHT"), (0, u "DIRECTIONALITY_RIGHT_TO_LEFT"), (0, u "DIRECTIONALITY_RIGHT_TO_LEFT_ARABIC"), (0, u "DIRECTIONALITY_EUROPEAN_NUMBER"), (0, u "DIRECTIONALITY_EUROPEAN_NUMBER_SEPARATOR"), (0, u "DIRECTIONALITY_EUROPEAN_NUMBER_TERMINATOR"), (0, u "DIRECTIONALITY_ARABIC_NUMBER"), (0, u "DIRECTIONALITY_COMMON_NUMBER_SEPARATOR"), (0, u "DIRECTIONALITY_NONSPACING_MARK"), (0, u "DIRECTIONALITY_BOUNDARY_NEUTRAL"), (0, u "DIRECTIONALITY_PARAGRAPH_SEPARATOR"), (0, u "DIRECTIONALITY_SEGMENT_SEPARATOR"), (0, u "DIRECTIONALITY_WHITESPACE"), (0, u "DIRECTIONALITY_OTHER_NEUTRALS"), (0, u "DIRECTIONALITY_LEFT_TO_RIGHT_EMBEDDING"), (0, u "DIRECTIONALITY_LEFT_TO_RIGHT_OVERRIDE"), (0, u "DIRECTIONALITY_RIGHT_TO_LEFT_EMBEDDING"), (0, u "DIRECTIONALITY_RIGHT_TO_LEFT_OVERRIDE"), (1, u "DIRECTIONALITY_POP_DIRECTIONAL_FORMAT"), (0, u "DIRECTIONALITY_LEFT_TO_RIGHT_ISOLATE"), (0, u "DIRECTIONALITY_RIGHT_TO_LEFT_ISOLATE"), (0, u "DIRECTIONALITY_FIRST_STRONG_ISOLATE"), (0, u "DIRECTIONALITY_POP_DIRECTIONAL_ISOLATE"), (0, u "MIN_HIGH_SURROGATE"), (0, u "MAX_HIGH_SURROGATE"), (1, u "MIN_LOW_SURROGATE"), (0, u "MAX_LOW_SURROGATE"), (1, u "MIN_SURROGATE"), (0, u "MAX_SURROGATE"), (0, u "MIN_SUPPLEMENTARY_CODE_POINT"), (0, u "MIN_CODE_POINT"), (0, u "MAX_CODE_POINT"), (1, u "serialVersionUID"), (0, u "J"), (2, u "SIZE"), (0, u "BYTES"), (88, .class_ 596), (0, u "java/lang/Character$UnicodeScript"), (0, .class_ 598), (0, u "java/lang/Character$Subset")] 5

def k6c0 : Code := { maxStack := 2, maxLocals := 1, code := jdk_89_method_14_code, exceptionTable := #[], attributes := #[] }
def k6m0 : Method := { name := "isHighSurrogate", desc := "(C)Z", sig := { parameters := [.char], returnType := some .boolean }, accessFlags := 9, code := some k6c0 }
def k6c1 : Code := { maxStack := 2, maxLocals := 1, code := jdk_89_method_15_code, exceptionTable := #[], attributes := #[] }
def k6m1 : Method := { name := "isLowSurrogate", desc := "(C)Z", sig := { parameters := [.char], returnType := some .boolean }, accessFlags := 9, code := some k6c1 }
/-- java/lang/Character -/
def k6 : Class := { plain "java/lang/Character" (some 0) with
  accessFlags := 49
  interfaces := #[3, 4, 5]
  cf := some (fileOf pool6 1 #[.nestMembers #[48, 595, 307, 597]] #[{ accessFlags := 9, nameIndex := 80, descriptorIndex := 81, attributes := #[] }, { accessFlags := 9, nameIndex := 84, descriptorIndex := 81, attributes := #[] }] 49 42 #[385, 387, 389] #[{ accessFlags := 25, nameIndex := 391, descriptorIndex := 392, attributes := #[] }, { accessFlags := 25, nameIndex := 395, descriptorIndex := 392, attributes := #[] }, { accessFlags := 25, nameIndex := 397, descriptorIndex := 22, attributes := #[] }, { accessFlags := 25, nameIndex := 399, descriptorIndex := 22, attributes := #[] }, { accessFlags := 25, nameIndex := 383, descriptorIndex := 384, attributes := #[] }, { accessFlags := 25, nameIndex := 403, descriptorIndex := 404, attributes := #[] }, { accessFlags := 25, nameIndex := 405, descriptorIndex := 404, attributes := #[] }, { accessFlags := 25, nameIndex := 407, descriptorIndex := 404, attributes := #[] }, { accessFlags := 25, nameIndex := 408, descriptorIndex := 404, attributes := #[] }, { accessFlags := 25, nameIndex := 410, descriptorIndex := 404, attributes := #[] }, { accessFlags := 25, nameIndex := 412, descriptorIndex := 404, attributes := #[] }, { accessFlags := 25, nameIndex := 414, descriptorIndex := 404, attributes := #[] }, { accessFlags := 25, nameIndex := 416, descriptorIndex := 404, attributes := #[] }, { accessFlags := 25, nameIndex := 418, descriptorIndex := 404, attributes := #[] }, { accessFlags := 25, nameIndex := 420, descriptorIndex := 404, attributes := #[] }, { accessFlags := 25, nameIndex := 422, descriptorIndex := 404, attributes := #[] }, { accessFlags := 25, nameIndex := 424, descriptorIndex := 404, attributes := #[] }, { accessFlags := 25, nameIndex := 426, descriptorIndex := 404, attributes := #[] }, { accessFlags := 25, nameIndex := 428, descriptorIndex := 404, attributes := #[] }, { accessFlags := 25, nameIndex := 430, descriptorIndex := 404, attributes := #[] }, { accessFlags := 25, nameIndex := 432, descriptorIndex := 404, attributes := #[] }, { accessFlags := 25, nameIndex := 434, descriptorIndex := 404, attributes := #[] }, { accessFlags := 25, nameIndex := 436, descriptorIndex := 404, attributes := #[] }, { accessFlags := 25, nameIndex := 438, descriptorIndex := 404, attributes := #[] }, { accessFlags := 25, nameIndex := 440, descriptorIndex := 404, attributes := #[] }, { accessFlags := 25, nameIndex := 442, descriptorIndex := 404, attributes := #[] }, { accessFlags := 25, nameIndex := 444, descriptorIndex := 404, attributes := #[] }, { accessFlags := 25, nameIndex := 446, descriptorIndex := 404, attributes := #[] }, { accessFlags := 25, nameIndex := 448, descriptorIndex := 404, attributes := #[] }, { accessFlags := 25, nameIndex := 450, descriptorIndex := 404, attributes := #[] }, { accessFlags := 25, nameIndex := 452, descriptorIndex := 404, attributes := #[] }, { accessFlags := 25, nameIndex := 454, descriptorIndex := 404, attributes := #[] }, { accessFlags := 25, nameIndex := 456, descriptorIndex := 404, attributes := #[] }, { accessFlags := 25, nameIndex := 458, descriptorIndex := 404, attributes := #[] }, { accessFlags := 25, nameIndex := 460, descriptorIndex := 404, attributes := #[] }, { accessFlags := 24, nameIndex := 462, descriptorIndex := 392, attributes := #[] }, { accessFlags := 25, nameIndex := 464, descriptorIndex := 404, attributes := #[] }, { accessFlags := 25, nameIndex := 465, descriptorIndex := 404, attributes := #[] }, { accessFlags := 25, nameIndex := 466, descriptorIndex := 404, attributes := #[] }, { accessFlags := 25, nameIndex := 467, descriptorIndex := 404, attributes := #[] }, { accessFlags := 25, nameIndex := 468, descriptorIndex := 404, attributes := #[] }, { accessFlags := 25, nameIndex := 469, descriptorIndex := 404, attributes := #[] }, { accessFlags := 25, nameIndex := 470, descriptorIndex := 404, attributes := #[] }, { accessFlags := 25, nameIndex := 471, descriptorIndex := 404, attributes := #[] }, { accessFlags := 25, nameIndex := 472, descriptorIndex := 404, attributes := #[] }, { accessFlags := 25, nameIndex := 473, descriptorIndex := 404, attributes := #[] }, { accessFlags := 25, nameIndex := 474, descriptorIndex := 404, attributes := #[] }, { accessFlags := 25, nameIndex := 475, descriptorIndex := 404, attributes := #[] }, { accessFlags := 25, nameIndex := 476, descriptorIndex := 404, attributes := #[] }, { accessFlags := 25, nameIndex := 477, descriptorIndex := 404, attributes := #[] }, { accessFlags := 25, nameIndex := 478, descriptorIndex := 404, attributes := #[] }, { accessFlags := 25, nameIndex := 479, descriptorIndex := 404, attributes := #[] }, { accessFlags := 25, nameIndex := 480, descriptorIndex := 404, attributes := #[] }, { accessFlags := 25, nameIndex := 481, descriptorIndex := 404, attributes := #[] }, { accessFlags := 25, nameIndex := 482, descriptorIndex := 404, attributes := #[] }, { accessFlags := 25, nameIndex := 484, descriptorIndex := 404, attributes := #[] }, { accessFlags := 25, nameIndex := 485, descriptorIndex := 404, attributes := #[] }, { accessFlags := 25, nameIndex := 486, descriptorIndex := 404, attributes := #[] }, { accessFlags := 25, nameIndex := 487, descriptorIndex := 404, attributes := #[] }, { accessFlags := 25, nameIndex := 488, descriptorIndex := 404, attributes := #[] }, { accessFlags := 25, nameIndex := 489, descriptorIndex := 22, attributes := #[] }, { accessFlags := 25, nameIndex := 490, descriptorIndex := 22, attributes := #[] }, { accessFlags := 25, nameIndex := 492, descriptorIndex := 22, attributes := #[] }, { accessFlags := 25, nameIndex := 493, descriptorIndex := 22, attributes := #[] }, { accessFlags := 25, nameIndex := 495, descriptorIndex := 22, attributes := #[] }, { accessFlags := 25, nameIndex := 496, descriptorIndex := 22, attributes := #[] }, { accessFlags := 25, nameIndex := 497, descriptorIndex := 392, attributes := #[] }, { accessFlags := 25, nameIndex := 498, descriptorIndex := 392, attributes := #[] }, { accessFlags := 25, nameIndex := 499, descriptorIndex := 392, attributes := #[] }, { accessFlags := 18, nameIndex := 21, descriptorIndex := 22, attributes := #[] }, { accessFlags := 26, nameIndex := 501, descriptorIndex := 502, attributes := #[] }, { accessFlags := 25, nameIndex := 505, descriptorIndex := 392, attributes := #[] }, { accessFlags := 25, nameIndex := 506, descriptorIndex := 392, attributes := #[] }, { accessFlags := 4120, nameIndex := 284, descriptorIndex := 285, attributes := #[] }])
  fields := #[{ name := "MIN_RADIX", type := .int, accessFlags := 25, slot := 0, constantValue := 0 }, { name := "MAX_RADIX", type := .int, accessFlags := 25, slot := 1, constantValue := 0 }, { name := "MIN_VALUE", type := .char, accessFlags := 25, slot := 2, constantValue := 0 }, { name := "MAX_VALUE", type := .char, accessFlags := 25, slot := 3, constantValue := 0 }, { name := "TYPE", type := (.object "java/lang/Class"), accessFlags := 25, slot := 4, constantValue := 0 }, { name := "UNASSIGNED", type := .byte, accessFlags := 25, slot := 5, constantValue := 0 }, { name := "UPPERCASE_LETTER", type := .byte, accessFlags := 25, slot := 6, constantValue := 0 }, { name := "LOWERCASE_LETTER", type := .byte, accessFlags := 25, slot := 7, constantValue := 0 }, { name := "TITLECASE_LETTER", type := .byte, accessFlags := 25, slot := 8, constantValue := 0 }, { name := "MODIFIER_LETTER", type := .byte, accessFlags := 25, slot := 9, constantValue := 0 }, { name := "OTHER_LETTER", type := .byte, accessFlags := 25, slot := 10, constantValue := 0 }, { name := "NON_SPACING_MARK", type := .byte, accessFlags := 25, slot := 11, constantValue := 0 }, { name := "ENCLOSING_MARK", type := .byte, accessFlags := 25, slot := 12, constantValue := 0 }, { name := "COMBINING_SPACING_MARK", type := .byte, accessFlags := 25, slot := 13, constantValue := 0 }, { name := "DECIMAL_DIGIT_NUMBER", type := .byte, accessFlags := 25, slot := 14, constantValue := 0 }, { name := "LETTER_NUMBER", type := .byte, accessFlags := 25, slot := 15, constantValue := 0 }, { name := "OTHER_NUMBER", type := .byte, accessFlags := 25, slot := 16, constantValue := 0 }, { name := "SPACE_SEPARATOR", type := .byte, accessFlags := 25, slot := 17, constantValue := 0 }, { name := "LINE_SEPARATOR", type := .byte, accessFlags := 25, slot := 18, constantValue := 0 }, { name := "PARAGRAPH_SEPARATOR", type := .byte, accessFlags := 25, slot := 19, constantValue := 0 }, { name := "CONTROL", type := .byte, accessFlags := 25, slot := 20, constantValue := 0 }, { name := "FORMAT", type := .byte, accessFlags := 25, slot := 21, constantValue := 0 }, { name := "PRIVATE_USE", type := .byte, accessFlags := 25, slot := 22, constantValue := 0 }, { name := "SURROGATE", type := .byte, accessFlags := 25, slot := 23, constantValue := 0 }, { name := "DASH_PUNCTUATION", type := .byte, accessFlags := 25, slot := 24, constantValue := 0 }, { name := "START_PUNCTUATION", type := .byte, accessFlags := 25, slot := 25, constantValue := 0 }, { name := "END_PUNCTUATION", type := .byte, accessFlags := 25, slot := 26, constantValue := 0 }, { name := "CONNECTOR_PUNCTUATION", type := .byte, accessFlags := 25, slot := 27, constantValue := 0 }, { name := "OTHER_PUNCTUATION", type := .byte, accessFlags := 25, slot := 28, constantValue := 0 }, { name := "MATH_SYMBOL", type := .byte, accessFlags := 25, slot := 29, constantValue := 0 }, { name := "CURRENCY_SYMBOL", type := .byte, accessFlags := 25, slot := 30, constantValue := 0 }, { name := "MODIFIER_SYMBOL", type := .byte, accessFlags := 25, slot := 31, constantValue := 0 }, { name := "OTHER_SYMBOL", type := .byte, accessFlags := 25, slot := 32, constantValue := 0 }, { name := "INITIAL_QUOTE_PUNCTUATION", type := .byte, accessFlags := 25, slot := 33, constantValue := 0 }, { name := "FINAL_QUOTE_PUNCTUATION", type := .byte, accessFlags := 25, slot := 34, constantValue := 0 }, { name := "ERROR", type := .int, accessFlags := 24, slot := 35, constantValue := 0 }, { name := "DIRECTIONALITY_UNDEFINED", type := .byte, accessFlags := 25, slot := 36, constantValue := 0 }, { name := "DIRECTIONALITY_LEFT_TO_RIGHT", type := .byte, accessFlags := 25, slot := 37, constantValue := 0 }, { name := "DIRECTIONALITY_RIGHT_TO_LEFT", type := .byte, accessFlags := 25, slot := 38, constantValue := 0 }, { name := "DIRECTIONALITY_RIGHT_TO_LEFT_ARABIC", type := .byte, accessFlags := 25, slot := 39, constantValue := 0 }, { name := "DIRECTIONALITY_EUROPEAN_NUMBER", type := .byte, accessFlags := 25, slot := 40, constantValue := 0 }, { name := "DIRECTIONALITY_EUROPEAN_NUMBER_SEPARATOR", type := .byte, accessFlags := 25, slot := 41, constantValue := 0 }, { name := "DIRECTIONALITY_EUROPEAN_NUMBER_TERMINATOR", type := .byte, accessFlags := 25, slot := 42, constantValue := 0 }, { name := "DIRECTIONALITY_ARABIC_NUMBER", type := .byte, accessFlags := 25, slot := 43, constantValue := 0 }, { name := "DIRECTIONALITY_COMMON_NUMBER_SEPARATOR", type := .byte, accessFlags := 25, slot := 44, constantValue := 0 }, { name := "DIRECTIONALITY_NONSPACING_MARK", type := .byte, accessFlags := 25, slot := 45, constantValue := 0 }, { name := "DIRECTIONALITY_BOUNDARY_NEUTRAL", type := .byte, accessFlags := 25, slot := 46, constantValue := 0 }, { name := "DIRECTIONALITY_PARAGRAPH_SEPARATOR", type := .byte, accessFlags := 25, slot := 47, constantValue := 0 }, { name := "DIRECTIONALITY_SEGMENT_SEPARATOR", type := .byte, accessFlags := 25, slot := 48, constantValue := 0 }, { name := "DIRECTIONALITY_WHITESPACE", type := .byte, accessFlags := 25, slot := 49, constantValue := 0 }, { name := "DIRECTIONALITY_OTHER_NEUTRALS", type := .byte, accessFlags := 25, slot := 50, constantValue := 0 }, { name := "DIRECTIONALITY_LEFT_TO_RIGHT_EMBEDDING", type := .byte, accessFlags := 25, slot := 51, constantValue := 0 }, { name := "DIRECTIONALITY_LEFT_TO_RIGHT_OVERRIDE", type := .byte, accessFlags := 25, slot := 52, constantValue := 0 }, { name := "DIRECTIONALITY_RIGHT_TO_LEFT_EMBEDDING", type := .byte, accessFlags := 25, slot := 53, constantValue := 0 }, { name := "DIRECTIONALITY_RIGHT_TO_LEFT_OVERRIDE", type := .byte, accessFlags := 25, slot := 54, constantValue := 0 }, { name := "DIRECTIONALITY_POP_DIRECTIONAL_FORMAT", type := .byte, accessFlags := 25, slot := 55, constantValue := 0 }, { name := "DIRECTIONALITY_LEFT_TO_RIGHT_ISOLATE", type := .byte, accessFlags := 25, slot := 56, constantValue := 0 }, { name := "DIRECTIONALITY_RIGHT_TO_LEFT_ISOLATE", type := .byte, accessFlags := 25, slot := 57, constantValue := 0 }, { name := "DIRECTIONALITY_FIRST_STRONG_ISOLATE", type := .byte, accessFlags := 25, slot := 58, constantValue := 0 }, { name := "DIRECTIONALITY_POP_DIRECTIONAL_ISOLATE", type := .byte, accessFlags := 25, slot := 59, constantValue := 0 }, { name := "MIN_HIGH_SURROGATE", type := .char, accessFlags := 25, slot := 60, constantValue := 0 }, { name := "MAX_HIGH_SURROGATE", type := .char, accessFlags := 25, slot := 61, constantValue := 0 }, { name := "MIN_LOW_SURROGATE", type := .char, accessFlags := 25, slot := 62, constantValue := 0 }, { name := "MAX_LOW_SURROGATE", type := .char, accessFlags := 25, slot := 63, constantValue := 0 }, { name := "MIN_SURROGATE", type := .char, accessFlags := 25, slot := 64, constantValue := 0 }, { name := "MAX_SURROGATE", type := .char, accessFlags := 25, slot := 65, constantValue := 0 }, { name := "MIN_SUPPLEMENTARY_CODE_POINT", type := .int, accessFlags := 25, slot := 66, constantValue := 0 }, { name := "MIN_CODE_POINT", type := .int, accessFlags := 25, slot := 67, constantValue := 0 }, { name := "MAX_CODE_POINT", type := .int, accessFlags := 25, slot := 68, constantValue := 0 }, { name := "value", type := .char, accessFlags := 18, slot := 0, constantValue := 0 }, { name := "serialVersionUID", type := .long, accessFlags := 26, slot := 69, constantValue := 0 }, { name := "SIZE", type := .int, accessFlags := 25, slot := 70, constantValue := 0 }, { name := "BYTES", type := .int, accessFlags := 25, slot := 71, constantValue := 0 }, { name := "$assertionsDisabled", type := .boolean, accessFlags := 4120, slot := 72, constantValue := 0 }]
  methods := #[k6m0, k6m1]
  instanceTypes := #[.char]
  staticTypes := #[.int, .int, .char, .char, (.object "java/lang/Class"), .byte, .byte, .byte, .byte, .byte, .byte, .byte, .byte, .byte, .byte, .byte, .byte, .byte, .byte, .byte, .byte, .byte, .byte, .byte, .byte, .byte, .byte, .byte, .byte, .byte, .byte, .byte, .byte, .byte, .byte, .int, .byte, .byte, .byte, .byte, .byte, .byte, .byte, .byte, .byte, .byte, .byte, .byte, .byte, .byte, .byte, .byte, .byte, .byte, .byte, .byte, .byte, .byte, .byte, .byte, .char, .char, .char, .char, .char, .char, .int, .int, .int, .long, .int, .int, .boolean]
  resolved := Array.replicate 604 none
  statics := none }

def pool7 : Array CpInfo := pool [(1, u "java/lang/Cloneable"), (0, .class_ 1), (0, u "java/lang/Object"), (0, .class_ 3)] 3

/-- java/lang/Cloneable -/
def k7 : Class := { plain "java/lang/Cloneable" (some 0) with
  accessFlags := 1537
  interfaces := #[]
  cf := some (fileOf pool7 2 #[] #[] 1537 4 #[] #[])
  fields := #[]
  methods := #[]
  instanceTypes := #[]
  staticTypes := #[]
  resolved := Array.replicate 8 none
  statics := none }

/-- the primitive byte -/
def k8 : Class := { plain "byte" none with kind := .primitive 'B', accessFlags := 0x411 }
/-- [B -/
def k9 : Class := { plain "[B" (some 0) with kind := .array 8 .byte, interfaces := #[7, 3], accessFlags := 1041 }

/-- the primitive char -/
def k10 : Class := { plain "char" none with kind := .primitive 'C', accessFlags := 0x411 }
/-- [C -/
def k11 : Class := { plain "[C" (some 0) with kind := .array 10 .char, interfaces := #[7, 3], accessFlags := 1041 }

/-- the primitive int -/
def k12 : Class := { plain "int" none with kind := .primitive 'I', accessFlags := 0x411 }
/-- [I -/
def k13 : Class := { plain "[I" (some 0) with kind := .array 12 .int, interfaces := #[7, 3], accessFlags := 1041 }

def heap : Heap := #[]
def classes : Array Class := #[k0, k1, k2, k3, k4, k5, k6, k7, k8, k9, k10, k11, k12, k13]
def interned : List (Array UInt16 × Addr) := []
def slotsUsed : Nat := 0
def theMethod : MethodId := ⟨1, 4⟩
def args0 : Array Value := #[.int 5, .int 6, .int 7, .int 8]
def aboutOver (below : List Frame) : State where
  vm := { classes := classes, interned := interned.toArray }
  heap := heap
  slotsUsed := slotsUsed
  threads := #[{ frames := .invoking theMethod args0 :: below }]
def below0 : List Frame := [.native { method := ⟨0, 0⟩, args := #[] }]
def about1 : State := aboutOver below0
def p0 : Program := .bare "" "" ""
def e0 : Env := launch0.env 0 0 0
theorem w_frames : about1.frames = Frame.invoking theMethod args0 :: below0 := rfl
set_option maxRecDepth 65536 in
theorem w_args : argsFit about1.vm theMethod args0 = true := by decide +kernel
set_option maxRecDepth 65536 in
theorem w_heap : heapFits about1 = true := by decide +kernel
set_option maxRecDepth 65536 in
theorem w_runnable : about1.curStatus? = some .runnable := by decide +kernel
set_option maxRecDepth 65536 in
theorem w_alone : about1.alone = true := by decide +kernel
set_option maxRecDepth 65536 in
theorem w_named : about1.methodNamed? x = some theMethod := by decide +kernel
set_option maxRecDepth 65536 in
theorem w_hears : about1.hears theMethod below0 = true := by decide +kernel
set_option maxRecDepth 65536 in
theorem w_ripe : about1.ripe theMethod args0 below0 = true := by decide +kernel
theorem w_running : about1.status = .running := rfl
set_option maxRecDepth 65536 in
theorem w_room : about1.hasRoom e0.platform room_1 = true :=
  launch0.hasRoom_least _ room_1 (by decide +kernel) (by decide +kernel) (by decide +kernel) (by decide +kernel) (by decide +kernel) (by decide +kernel)
theorem allAtoms_all (ts : List Jvm.Cond) (a : Array Jvm.Value) (st : Jvm.State) : (allAtoms ts).before a st = ts.all (fun c => c.before a st) := by
  induction ts with
  | nil => rfl
  | cons c t ih =>
    show (Jvm.Cond.and c (allAtoms t)).before a st = _
    rw [Jvm.Cond.before_and, ih, List.all_cons]
def words1 : List Jvm.Cond := Jvm.Cond.code x code maxLocals ret :: tables_1
/-- a 'code' word, met by the world's own term for the bytes: nothing is compared byte by byte -/
theorem code_word {y : MethodName} {bytes : ByteArray} {mx : Nat} {rt : Option FieldType} {a : Array Value} {s : State} {m : MethodId} {meth : Method} {c : Code} (h1 : s.methodNamed? y = some m) (h2 : s.vm.method? m = some meth) (h3 : meth.code = some c) (h4 : c.code = bytes)
    (h5 : (c.maxLocals == mx && c.exceptionTable.isEmpty && decide (c.maxStack ≤ mostOperands) && decide (meth.sig.returnType = rt) && !meth.locks && decide (parseMethodDescriptor y.desc = some meth.sig)) = true) : (Jvm.Cond.code y bytes mx rt).before a s = true := by
  simp only [Bool.and_eq_true, beq_iff_eq, Bool.not_eq_true', decide_eq_true_eq] at h5
  obtain ⟨⟨⟨⟨⟨g1, g2⟩, g3⟩, g4⟩, g5⟩, g6⟩ := h5
  simp [Cond.before, Cond.holds, Cond.value, h1, h2, h3, h4, g1, g2, g3, g4, g5, g6]
def isCode : Jvm.Cond → Bool
  | .code _ _ _ _ => true
  | _ => false
theorem all_split {L : List Jvm.Cond} {P : Jvm.Cond → Bool} (h1 : L.all (fun c => isCode c || P c) = true) (h2 : ∀ c ∈ L.filter isCode, P c = true) : L.all P = true := by
  refine List.all_eq_true.mpr fun c hc => ?_
  have h := List.all_eq_true.mp h1 c hc
  rcases Bool.eq_false_or_eq_true (isCode c) with hi | hi
  · exact h2 c (List.mem_filter.mpr ⟨hc, hi⟩)
  · simpa [hi] using h
set_option maxRecDepth 65536 in
theorem w_c0 : (Jvm.Cond.code x code maxLocals ret).before args0 about1 = true := code_word (m := ⟨1, 4⟩) (meth := k1m4) (c := k1c4) (by decide +kernel) rfl rfl rfl (by decide +kernel)
set_option maxRecDepth 65536 in
theorem w_c1 : (Jvm.Cond.code ({ cls := "com/example/cellwright/cellwright/hive/DecoderFinishPinLaw", name := "pick", desc := "(II)C" } : Jvm.MethodName) method_2_code (3 : Nat) (Option.some Jvm.ClassFile.FieldType.char)).before args0 about1 = true := code_word (m := ⟨1, 1⟩) (meth := k1m1) (c := k1c1) (by decide +kernel) rfl rfl rfl (by decide +kernel)
set_option maxRecDepth 65536 in
theorem w_c2 : (Jvm.Cond.code ({ cls := "com/example/cellwright/cellwright/hive/Utf16Le$Decoder", name := "<init>", desc := "()V" } : Jvm.MethodName) prog_97_method_1_code (1 : Nat) (Option.none : Option Jvm.ClassFile.FieldType)).before args0 about1 = true := code_word (m := ⟨2, 0⟩) (meth := k2m0) (c := k2c0) (by decide +kernel) rfl rfl rfl (by decide +kernel)
set_option maxRecDepth 65536 in
theorem w_c3 : (Jvm.Cond.code ({ cls := "java/lang/Object", name := "<init>", desc := "()V" } : Jvm.MethodName) object_method_1_code (1 : Nat) (Option.none : Option Jvm.ClassFile.FieldType)).before args0 about1 = true := code_word (m := ⟨0, 0⟩) (meth := k0m0) (c := k0c0) (by decide +kernel) rfl rfl rfl (by decide +kernel)
set_option maxRecDepth 65536 in
theorem w_c4 : (Jvm.Cond.code ({ cls := "com/example/cellwright/cellwright/hive/Utf16Le$Decoder", name := "decode", desc := "([BII[CI)I" } : Jvm.MethodName) prog_97_method_3_code (10 : Nat) (Option.some Jvm.ClassFile.FieldType.int)).before args0 about1 = true := code_word (m := ⟨2, 1⟩) (meth := k2m1) (c := k2c1) (by decide +kernel) rfl rfl rfl (by decide +kernel)
set_option maxRecDepth 65536 in
theorem w_c5 : (Jvm.Cond.code ({ cls := "com/example/cellwright/cellwright/hive/DecoderFinishPinLaw", name := "isHigh", desc := "(C)Z" } : Jvm.MethodName) method_3_code (1 : Nat) (Option.some Jvm.ClassFile.FieldType.boolean)).before args0 about1 = true := code_word (m := ⟨1, 2⟩) (meth := k1m2) (c := k1c2) (by decide +kernel) rfl rfl rfl (by decide +kernel)
set_option maxRecDepth 65536 in
theorem w_c6 : (Jvm.Cond.code ({ cls := "com/example/cellwright/cellwright/hive/Utf16Le$Decoder", name := "finish", desc := "([CI)I" } : Jvm.MethodName) prog_97_method_4_code (4 : Nat) (Option.some Jvm.ClassFile.FieldType.int)).before args0 about1 = true := code_word (m := ⟨2, 2⟩) (meth := k2m2) (c := k2c2) (by decide +kernel) rfl rfl rfl (by decide +kernel)
set_option maxRecDepth 65536 in
theorem w_c7 : (Jvm.Cond.code ({ cls := "com/example/cellwright/cellwright/hive/Utf16Le$Decoder", name := "unit", desc := "(C[CI)I" } : Jvm.MethodName) prog_97_method_5_code (6 : Nat) (Option.some Jvm.ClassFile.FieldType.int)).before args0 about1 = true := code_word (m := ⟨2, 3⟩) (meth := k2m3) (c := k2c3) (by decide +kernel) rfl rfl rfl (by decide +kernel)
set_option maxRecDepth 65536 in
theorem w_c8 : (Jvm.Cond.code ({ cls := "java/lang/Character", name := "isHighSurrogate", desc := "(C)Z" } : Jvm.MethodName) jdk_89_method_14_code (1 : Nat) (Option.some Jvm.ClassFile.FieldType.boolean)).before args0 about1 = true := code_word (m := ⟨6, 0⟩) (meth := k6m0) (c := k6c0) (by decide +kernel) rfl rfl rfl (by decide +kernel)
set_option maxRecDepth 65536 in
theorem w_c9 : (Jvm.Cond.code ({ cls := "java/lang/Character", name := "isLowSurrogate", desc := "(C)Z" } : Jvm.MethodName) jdk_89_method_15_code (1 : Nat) (Option.some Jvm.ClassFile.FieldType.boolean)).before args0 about1 = true := code_word (m := ⟨6, 1⟩) (meth := k6m1) (c := k6c1) (by decide +kernel) rfl rfl rfl (by decide +kernel)
set_option maxRecDepth 65536 in
theorem w_c10 : (Jvm.Cond.code ({ cls := "com/example/cellwright/cellwright/hive/DecoderFinishPinLaw", name := "isLow", desc := "(C)Z" } : Jvm.MethodName) method_4_code (1 : Nat) (Option.some Jvm.ClassFile.FieldType.boolean)).before args0 about1 = true := code_word (m := ⟨1, 3⟩) (meth := k1m3) (c := k1c3) (by decide +kernel) rfl rfl rfl (by decide +kernel)
def codes1 : List Jvm.Cond := [Jvm.Cond.code x code maxLocals ret, Jvm.Cond.code ({ cls := "com/example/cellwright/cellwright/hive/DecoderFinishPinLaw", name := "pick", desc := "(II)C" } : Jvm.MethodName) method_2_code (3 : Nat) (Option.some Jvm.ClassFile.FieldType.char), Jvm.Cond.code ({ cls := "com/example/cellwright/cellwright/hive/Utf16Le$Decoder", name := "<init>", desc := "()V" } : Jvm.MethodName) prog_97_method_1_code (1 : Nat) (Option.none : Option Jvm.ClassFile.FieldType), Jvm.Cond.code ({ cls := "java/lang/Object", name := "<init>", desc := "()V" } : Jvm.MethodName) object_method_1_code (1 : Nat) (Option.none : Option Jvm.ClassFile.FieldType), Jvm.Cond.code ({ cls := "com/example/cellwright/cellwright/hive/Utf16Le$Decoder", name := "decode", desc := "([BII[CI)I" } : Jvm.MethodName) prog_97_method_3_code (10 : Nat) (Option.some Jvm.ClassFile.FieldType.int), Jvm.Cond.code ({ cls := "com/example/cellwright/cellwright/hive/DecoderFinishPinLaw", name := "isHigh", desc := "(C)Z" } : Jvm.MethodName) method_3_code (1 : Nat) (Option.some Jvm.ClassFile.FieldType.boolean), Jvm.Cond.code ({ cls := "com/example/cellwright/cellwright/hive/Utf16Le$Decoder", name := "finish", desc := "([CI)I" } : Jvm.MethodName) prog_97_method_4_code (4 : Nat) (Option.some Jvm.ClassFile.FieldType.int), Jvm.Cond.code ({ cls := "com/example/cellwright/cellwright/hive/Utf16Le$Decoder", name := "unit", desc := "(C[CI)I" } : Jvm.MethodName) prog_97_method_5_code (6 : Nat) (Option.some Jvm.ClassFile.FieldType.int), Jvm.Cond.code ({ cls := "java/lang/Character", name := "isHighSurrogate", desc := "(C)Z" } : Jvm.MethodName) jdk_89_method_14_code (1 : Nat) (Option.some Jvm.ClassFile.FieldType.boolean), Jvm.Cond.code ({ cls := "java/lang/Character", name := "isLowSurrogate", desc := "(C)Z" } : Jvm.MethodName) jdk_89_method_15_code (1 : Nat) (Option.some Jvm.ClassFile.FieldType.boolean), Jvm.Cond.code ({ cls := "com/example/cellwright/cellwright/hive/DecoderFinishPinLaw", name := "isLow", desc := "(C)Z" } : Jvm.MethodName) method_4_code (1 : Nat) (Option.some Jvm.ClassFile.FieldType.boolean)]
set_option maxRecDepth 65536 in
theorem codes_eq : words1.filter isCode = codes1 := rfl
theorem w_codes : ∀ c ∈ words1.filter isCode, c.before args0 about1 = true := by
  rw [codes_eq]
  intro c hc
  simp only [codes1, List.mem_cons, List.not_mem_nil, or_false] at hc
  rcases hc with rfl | rfl | rfl | rfl | rfl | rfl | rfl | rfl | rfl | rfl | rfl
  · exact w_c0
  · exact w_c1
  · exact w_c2
  · exact w_c3
  · exact w_c4
  · exact w_c5
  · exact w_c6
  · exact w_c7
  · exact w_c8
  · exact w_c9
  · exact w_c10
set_option maxRecDepth 65536 in
theorem w_t1 : (words1.take 24).all (fun c => isCode c || c.before args0 about1) = true := by decide +kernel
set_option maxRecDepth 65536 in
theorem w_t2 : ((words1.drop 24).take 24).all (fun c => isCode c || c.before args0 about1) = true := by decide +kernel
set_option maxRecDepth 65536 in
theorem w_t3 : ((words1.drop 24).drop 24).all (fun c => isCode c || c.before args0 about1) = true := by decide +kernel
theorem w_tables : (allAtoms (Jvm.Cond.code x code maxLocals ret :: tables_1)).before args0 about1 = true := by
  rw [allAtoms_all]
  show words1.all (fun c => c.before args0 about1) = true
  refine all_split ?_ w_codes
  rw [← List.take_append_drop 24 words1, List.all_append, w_t1, ← List.take_append_drop 24 (words1.drop 24), List.all_append, w_t2, w_t3]
  rfl
set_option maxRecDepth 65536 in
theorem w_case : (Jvm.Cond.and given_1 narrow_1).before args0 about1 = true := by decide +kernel
theorem w_applies : (headSpec (Jvm.Cond.code x code maxLocals ret :: tables_1) room_1).applies x e0.platform about1 = true :=
  (Spec.applies_iff w_frames).mpr ⟨w_running, w_runnable, w_alone, w_named, w_hears, w_ripe, w_room, w_tables⟩
theorem atStart : AtStart classFile x code maxLocals ret World_1 tables_1 room_1 Calls_1 rest_1 Pre_1 launch0 p0 e0 about1 theMethod args0 below0 :=
  ⟨lists_1, trivial, launch0.admits_env _ _ _, launch0.least_env, fairChoices_fair.cas, fairChoices_fair.clock, w_frames, w_args, w_heap, w_applies, trivial, trivial, w_case⟩
end start1
theorem witness_1 : WitnessClaimed_1 := ⟨start1.p0, start1.e0, start1.about1, start1.theMethod, start1.args0, start1.below0, start1.atStart⟩
end Jvm.Pilot.@@N@@
