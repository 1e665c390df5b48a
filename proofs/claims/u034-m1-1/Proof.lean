import JvmDerived
import JvmDerived.Pilot.@@N@@Statement
import JvmDerived.Pilot.@@N@@Code
set_option linter.unusedVariables false
set_option linter.unusedSimpArgs false
@@BLOCK:NumsL.lean.txt@@
namespace Jvm.Pilot.@@N@@
open Jvm Jvm.ClassFile Sem Op Lib Jvm.Free Jvm.Stand Jvm.LawKit Jvm.RoadKit Bundle Jvm.Pilot.@@N@@.Jvm.D
section OwnKit
variable {p : Program} {l : Launch} {e : Env} {R : Room} {s : State} {m : MethodId} {args : Array Value} {below : List Frame} {meth : Method} {c : Code} {T : State} {locs : List Loc} {cells slots : Nat} {Z : State} {h h' : Heap} {a b : Addr} {ty : FieldType} {n sl : Nat} {f : Nat → Value} {v : Value} {ws : List Addr}
theorem own_retI (X : Stand p l e R s m args below meth c T locs cells slots) (hx : p.tables.exec = Jvm.exec) {pc : Nat} {Ls : Array Slot} {z : Int32} {rest : List Value} (hret : meth.sig.returnType = some .int) (hd : decode c.code pc = .ok (.ireturn, 1)) {fs : List Frame}
    (hl : ∀ (f : JFrame) (acts : List Action), f.method = m → f.locked = none → f.entered = [] → (doReturn e (T.setTop f) acts (some (.int z))).1 = T.setFrames fs) : Steps p.tables e below (T.setTop (mkF m pc Ls (.int z :: rest))) (T.setFrames fs) := by
  have hm' : T.vm.method? m = some meth := X.method'
  have hn : narrow .int (.int z) = .int z := rfl
  show Steps p.tables e below (T.setTop { method := m, pc := pc, locals := Ls, stack := _ :: rest, locked := none }) _
  jvm_step X.here [X.here.top, hx, hd, hm', hret, hn]
  first | (intro acts; rw [hl _ acts rfl rfl rfl]) | rw [hl _ _ rfl rfl rfl]
  exact Steps.refl _
theorem own_retA (X : Stand p l e R s m args below meth c T locs cells slots) (hx : p.tables.exec = Jvm.exec) {pc : Nat} {Ls : Array Slot} {w : Addr} {rest : List Value} {t : FieldType} (ht : t.isReference = true) (hret : meth.sig.returnType = some t) (hd : decode c.code pc = .ok (.areturn, 1)) {fs : List Frame}
    (hl : ∀ (f : JFrame) (acts : List Action), f.method = m → f.locked = none → f.entered = [] → (doReturn e (T.setTop f) acts (some (.ref w))).1 = T.setFrames fs) : Steps p.tables e below (T.setTop (mkF m pc Ls (.ref w :: rest))) (T.setFrames fs) := by
  have hm' : T.vm.method? m = some meth := X.method'
  show Steps p.tables e below (T.setTop { method := m, pc := pc, locals := Ls, stack := _ :: rest, locked := none }) _
  jvm_step X.here [X.here.top, hx, hd, hm', hret, ht, Value.isRef]
  first | (intro acts; rw [hl _ acts rfl rfl rfl]) | rw [hl _ _ rfl rfl rfl]
  exact Steps.refl _
theorem own_retL (X : Stand p l e R s m args below meth c T locs cells slots) (hx : p.tables.exec = Jvm.exec) {pc : Nat} {Ls : Array Slot} {w : Int64} {rest : List Value} (hret : meth.sig.returnType = some .long) (hd : decode c.code pc = .ok (.lreturn, 1)) {fs : List Frame}
    (hl : ∀ (f : JFrame) (acts : List Action), f.method = m → f.locked = none → f.entered = [] → (doReturn e (T.setTop f) acts (some (.long w))).1 = T.setFrames fs) : Steps p.tables e below (T.setTop (mkF m pc Ls (.long w :: rest))) (T.setFrames fs) := by
  have hm' : T.vm.method? m = some meth := X.method'
  show Steps p.tables e below (T.setTop { method := m, pc := pc, locals := Ls, stack := _ :: rest, locked := none }) _
  jvm_step X.here [X.here.top, hx, hd, hm', hret]
  first | (intro acts; rw [hl _ acts rfl rfl rfl]) | rw [hl _ _ rfl rfl rfl]
  exact Steps.refl _
/-- an array: its kind, its length, what lies at each place -/
def OwnA (Z : State) (h : Heap) (a : Addr) (ty : FieldType) (n : Nat) (f : Nat → Value) : Prop :=
  ∃ c : Cell, Arr Z h a c ty ∧ c.slots.size = n ∧ (∀ i, i < n → c.slots[i]? = some (f i)) ∧ ∀ i, i < n → fits ty (f i) = true
def own_upd (f : Nat → Value) (j : Nat) (v : Value) : Nat → Value := fun i => if i = j then v else f i
theorem own_at (f : Nat → Value) (j : Nat) (v : Value) : own_upd f j v j = v := if_pos rfl
theorem own_off (f : Nat → Value) {i j : Nat} (v : Value) (q : i ≠ j) : own_upd f j v i = f i := if_neg q
theorem OwnA.lt (F : OwnA Z h a ty n f) : a < h.size := by obtain ⟨c, A, -⟩ := F; exact A.lt
theorem OwnA.ext (F : OwnA Z h a ty n f) (E : Ext h h') : OwnA Z h' a ty n f := by obtain ⟨c, A, r⟩ := F; exact ⟨c, A.ext E, r⟩
theorem OwnA.other (F : OwnA Z h b ty n f) (W : Wr h h' a sl v) (q : b ≠ a) : OwnA Z h' b ty n f := by obtain ⟨c, A, r⟩ := F; exact ⟨c, A.other W q, r⟩
theorem OwnA.keep (F : OwnA Z h a ty n f) (K : Keep h h' ws) (q : a ∉ ws) : OwnA Z h' a ty n f := by obtain ⟨c, A, r⟩ := F; exact ⟨c, ⟨K.2.1 a c A.1 q, A.2⟩, r⟩
theorem OwnA.cast {f' : Nat → Value} (F : OwnA Z h a ty n f) (q : ∀ i, i < n → f i = f' i) : OwnA Z h a ty n f' := by
  obtain ⟨c, A, r1, r2, r3⟩ := F
  exact ⟨c, A, r1, fun i hi => by rw [← q i hi]; exact r2 i hi, fun i hi => by rw [← q i hi]; exact r3 i hi⟩
theorem OwnA.set {k : Nat} (F : OwnA Z h a ty n f) (W : Wr h h' a k v) (hv : fits ty v = true) : OwnA Z h' a ty n (own_upd f k v) := by
  obtain ⟨c, A, r1, r2, r3⟩ := F
  refine ⟨_, A.same W, by rw [sz_set]; exact r1, fun i hi => ?_, fun i hi => ?_⟩
  · by_cases q : i = k
    · subst q
      rw [own_at]
      have : i < c.slots.size := by rw [r1]; exact hi
      simp [Cell.setSlot, this]
    · rw [own_off _ _ q, ← r2 i hi]
      simp only [Cell.setSlot]
      rw [Array.getElem?_setIfInBounds_ne (Ne.symm q)]
  · by_cases q : i = k
    · subst q; rw [own_at]; exact hv
    · rw [own_off _ _ q]; exact r3 i hi
theorem OwnA.new {k : ClassId} {z : Int32} (A : Arr Z h a (newA k ty z) ty) (hz : z.toNatClampNeg = n) : OwnA Z h a ty n (fun _ => defaultValue ty) := by
  refine ⟨_, A, by rw [sz_new]; exact hz, fun i hi => ?_, fun i _ => by cases ty <;> rfl⟩
  subst hz; simp [newA, hi]
theorem own_in {c : Cell} {j : Int32} {k : Nat} (r1 : c.slots.size = n) (hj : ¬ j < 0) (hk : j.toNatClampNeg = k) (hn : k < n) : ¬ (j < 0 ∨ c.slots.size ≤ j.toNatClampNeg) := by
  rintro (q | q)
  · exact hj q
  · omega
theorem own_stB (X : Stand p l e R s m args below meth c T locs cells slots) (hx : p.tables.exec = Jvm.exec) (hZ : Z.Warmed39 s.vm) (eT : T.heap = h) (F : OwnA Z h a .byte n f) {j x : Int32} (k : Nat) (hj : ¬ j < 0) (hk : j.toNatClampNeg = k) (hn : k < n) {g : JFrame} (hg : g.method = m) {rest : List Value} (hs : g.stack = .int x :: .int j :: .ref a :: rest) (hd : decode c.code g.pc = .ok (.bastore, 1)) :
    ∃ T' h', Stand p l e R s m args below meth c T' (locs ++ [⟨a, k⟩]) cells slots ∧ T'.heap = h' ∧ Wr h h' a k (.int x.toInt8.toInt32) ∧ OwnA Z h' a .byte n (own_upd f k (.int x.toInt8.toInt32)) ∧ ∀ target, Steps p.tables e below (T'.setTop { g with pc := g.pc + 1, stack := rest }) target → Steps p.tables e below (T.setTop g) target := by
  obtain ⟨c0, A, r1, r2, r3⟩ := F
  obtain ⟨T', h', X', e', W', st⟩ := stB X hx hZ eT A (own_in r1 hj hk hn) hg hs hd
  subst hk
  exact ⟨T', h', X', e', W', OwnA.set ⟨c0, A, r1, r2, r3⟩ W' (fits_nar_byte _), st⟩
theorem own_stC (X : Stand p l e R s m args below meth c T locs cells slots) (hx : p.tables.exec = Jvm.exec) (hZ : Z.Warmed39 s.vm) (eT : T.heap = h) (F : OwnA Z h a .char n f) {j x : Int32} (k : Nat) (hj : ¬ j < 0) (hk : j.toNatClampNeg = k) (hn : k < n) {g : JFrame} (hg : g.method = m) {rest : List Value} (hs : g.stack = .int x :: .int j :: .ref a :: rest) (hd : decode c.code g.pc = .ok (.castore, 1)) :
    ∃ T' h', Stand p l e R s m args below meth c T' (locs ++ [⟨a, k⟩]) cells slots ∧ T'.heap = h' ∧ Wr h h' a k (.int x.toUInt32.toUInt16.toUInt32.toInt32) ∧ OwnA Z h' a .char n (own_upd f k (.int x.toUInt32.toUInt16.toUInt32.toInt32)) ∧ ∀ target, Steps p.tables e below (T'.setTop { g with pc := g.pc + 1, stack := rest }) target → Steps p.tables e below (T.setTop g) target := by
  obtain ⟨c0, A, r1, r2, r3⟩ := F
  obtain ⟨T', h', X', e', W', st⟩ := stC X hx hZ eT A (own_in r1 hj hk hn) hg hs hd
  subst hk
  exact ⟨T', h', X', e', W', OwnA.set ⟨c0, A, r1, r2, r3⟩ W' (fits_nar_char _), st⟩
theorem own_stJ (X : Stand p l e R s m args below meth c T locs cells slots) (hx : p.tables.exec = Jvm.exec) (hZ : Z.Warmed39 s.vm) (eT : T.heap = h) (F : OwnA Z h a .long n f) {j : Int32} {x : Int64} (k : Nat) (hj : ¬ j < 0) (hk : j.toNatClampNeg = k) (hn : k < n) {g : JFrame} (hg : g.method = m) {rest : List Value} (hs : g.stack = .long x :: .int j :: .ref a :: rest) (hd : decode c.code g.pc = .ok (.lastore, 1)) :
    ∃ T' h', Stand p l e R s m args below meth c T' (locs ++ [⟨a, k⟩]) cells slots ∧ T'.heap = h' ∧ Wr h h' a k (.long x) ∧ OwnA Z h' a .long n (own_upd f k (.long x)) ∧ ∀ target, Steps p.tables e below (T'.setTop { g with pc := g.pc + 1, stack := rest }) target → Steps p.tables e below (T.setTop g) target := by
  obtain ⟨c0, A, r1, r2, r3⟩ := F
  obtain ⟨T', h', X', e', W', st⟩ := stJ X hx hZ eT A (own_in r1 hj hk hn) hg hs hd
  subst hk
  exact ⟨T', h', X', e', W', OwnA.set ⟨c0, A, r1, r2, r3⟩ W' rfl, st⟩
theorem own_stR (X : Stand p l e R s m args below meth c T locs cells slots) (hx : p.tables.exec = Jvm.exec) (hZ : Z.Warmed39 s.vm) (eT : T.heap = h) (F : OwnA Z h a ty n f) (hty : ty.isReference = true) (So : Sto Z h a v) (hv : fits ty v = true) {j : Int32} (k : Nat) (hj : ¬ j < 0) (hk : j.toNatClampNeg = k) (hn : k < n) {g : JFrame} (hg : g.method = m) {rest : List Value} (hs : g.stack = v :: .int j :: .ref a :: rest) (hd : decode c.code g.pc = .ok (.aastore, 1)) :
    ∃ T' h', Stand p l e R s m args below meth c T' (locs ++ [⟨a, k⟩]) cells slots ∧ T'.heap = h' ∧ Wr h h' a k v ∧ OwnA Z h' a ty n (own_upd f k v) ∧ ∀ target, Steps p.tables e below (T'.setTop { g with pc := g.pc + 1, stack := rest }) target → Steps p.tables e below (T.setTop g) target := by
  obtain ⟨c0, A, r1, r2, r3⟩ := F
  obtain ⟨T', h', X', e', W', st⟩ := stR X hx hZ eT A (own_in r1 hj hk hn) hty So hg hs hd
  subst hk
  exact ⟨T', h', X', e', W', OwnA.set ⟨c0, A, r1, r2, r3⟩ W' hv, st⟩
theorem own_ldB (X : Stand p l e R s m args below meth c T locs cells slots) (hx : p.tables.exec = Jvm.exec) (hZ : Z.Warmed39 s.vm) (eT : T.heap = h) (F : OwnA Z h a .byte n f) {j : Int32} (k : Nat) (hj : ¬ j < 0) (hk : j.toNatClampNeg = k) (hn : k < n) (hv : f k = v) {g : JFrame} (hg : g.method = m) {rest : List Value} (hs : g.stack = .int j :: .ref a :: rest) (hd : decode c.code g.pc = .ok (.baload, 1)) :
    ∀ target, Steps p.tables e below (T.setTop { g with pc := g.pc + 1, stack := v :: rest }) target → Steps p.tables e below (T.setTop g) target := by
  obtain ⟨c0, A, r1, r2, r3⟩ := F
  subst hk hv
  exact X.baloadBytes hx (j := j) (by rw [eT]; exact A.1) (State.isArrayOf_alike hZ.alike A.2.1) A.2.2 (own_in r1 hj rfl hn) (r2 _ hn) hg hs hd
theorem own_ldC (X : Stand p l e R s m args below meth c T locs cells slots) (hx : p.tables.exec = Jvm.exec) (hZ : Z.Warmed39 s.vm) (eT : T.heap = h) (F : OwnA Z h a .char n f) {j : Int32} (k : Nat) (hj : ¬ j < 0) (hk : j.toNatClampNeg = k) (hn : k < n) (hv : f k = v) {g : JFrame} (hg : g.method = m) {rest : List Value} (hs : g.stack = .int j :: .ref a :: rest) (hd : decode c.code g.pc = .ok (.caload, 1)) :
    ∀ target, Steps p.tables e below (T.setTop { g with pc := g.pc + 1, stack := v :: rest }) target → Steps p.tables e below (T.setTop g) target := by
  obtain ⟨c0, A, r1, r2, r3⟩ := F
  subst hk hv
  exact X.caload hx (j := j) (by rw [eT]; exact A.1) (State.isArrayOf_alike hZ.alike A.2.1) A.2.2 (own_in r1 hj rfl hn) (r2 _ hn) hg hs hd
theorem own_ldJ (X : Stand p l e R s m args below meth c T locs cells slots) (hx : p.tables.exec = Jvm.exec) (hZ : Z.Warmed39 s.vm) (eT : T.heap = h) (F : OwnA Z h a .long n f) {j : Int32} (k : Nat) (hj : ¬ j < 0) (hk : j.toNatClampNeg = k) (hn : k < n) (hv : f k = v) {g : JFrame} (hg : g.method = m) {rest : List Value} (hs : g.stack = .int j :: .ref a :: rest) (hd : decode c.code g.pc = .ok (.laload, 1)) :
    ∀ target, Steps p.tables e below (T.setTop { g with pc := g.pc + 1, stack := v :: rest }) target → Steps p.tables e below (T.setTop g) target := by
  obtain ⟨c0, A, r1, r2, r3⟩ := F
  subst hk hv
  exact X.laload hx (j := j) (by rw [eT]; exact A.1) (State.isArrayOf_alike hZ.alike A.2.1) A.2.2 (own_in r1 hj rfl hn) (r2 _ hn) hg hs hd
theorem own_ldR (X : Stand p l e R s m args below meth c T locs cells slots) (hx : p.tables.exec = Jvm.exec) (hZ : Z.Warmed39 s.vm) (eT : T.heap = h) (F : OwnA Z h a ty n f) (hty : ty.isReference = true) {j : Int32} (k : Nat) (hj : ¬ j < 0) (hk : j.toNatClampNeg = k) (hn : k < n) (hv : f k = v) {g : JFrame} (hg : g.method = m) {rest : List Value} (hs : g.stack = .int j :: .ref a :: rest) (hd : decode c.code g.pc = .ok (.aaload, 1)) :
    ∀ target, Steps p.tables e below (T.setTop { g with pc := g.pc + 1, stack := v :: rest }) target → Steps p.tables e below (T.setTop g) target := by
  obtain ⟨c0, A, r1, r2, r3⟩ := F
  subst hk hv
  exact X.aaload hx (j := j) (by rw [eT]; exact A.1) (State.isArrayOf_alike hZ.alike A.2.1) hty A.2.2 (own_in r1 hj rfl hn) (r2 _ hn) hg hs hd
theorem own_len (X : Stand p l e R s m args below meth c T locs cells slots) (hx : p.tables.exec = Jvm.exec) (hZ : Z.Warmed39 s.vm) (eT : T.heap = h) (F : OwnA Z h a ty n f) {z : Int32} (hz : n.toInt32 = z) {g : JFrame} (hg : g.method = m) {rest : List Value} (hs : g.stack = .ref a :: rest) (hd : decode c.code g.pc = .ok (.arraylength, 1)) :
    ∀ target, Steps p.tables e below (T.setTop { g with pc := g.pc + 1, stack := .int z :: rest }) target → Steps p.tables e below (T.setTop g) target := by
  obtain ⟨c0, A, r1, r2, r3⟩ := F
  subst hz r1
  exact X.arraylength hx (by rw [eT]; exact A.1) (State.isArrayOf_alike hZ.alike A.2.1) hg hs hd
theorem own_clone (X : Stand p l e R s m args below meth c T locs cells slots) (hx : p.tables.exec = Jvm.exec) (hZ : Z.Warmed39 s.vm) {a0 : Array Value} {own ad : String} {index : Nat} (hown : s.vm.findClass own = some m.cls)
    (w1 : (Jvm.Cond.methodLink own index ⟨ad, "clone", "()Ljava/lang/Object;"⟩).before a0 Z = true) (w2 : (Jvm.Cond.sameMethod ad "java/lang/Object" "clone" "()Ljava/lang/Object;").before a0 Z = true) (w3 : (Jvm.Cond.native ⟨"java/lang/Object", "clone", "()Ljava/lang/Object;"⟩).before a0 Z = true)
    (w4 : (Jvm.Cond.instanceMethod ⟨"java/lang/Object", "clone", "()Ljava/lang/Object;"⟩).before a0 Z = true) (w5 : (Jvm.Cond.selects ad ⟨ad, "clone", "()Ljava/lang/Object;"⟩ ⟨"java/lang/Object", "clone", "()Ljava/lang/Object;"⟩).before a0 Z = true) (w6 : (Jvm.Cond.castable ad "java/lang/Cloneable").before a0 Z = true)
    (eT : T.heap = h) (F : OwnA Z h a ty n f) (E : Exa Z h a ad) {g : JFrame} (hg : g.method = m) (hsize : g.locals.size = c.maxLocals) {rest : List Value} (hs : g.stack = .ref a :: rest) (hd : decode c.code g.pc = .ok (.invokevirtual index, 3))
    (hf : 1 ≤ R.frames) {W cap : Nat} (hW : 2 * g.monitorRoom + (rest.map fun v => v.category).sum ≤ W) (hl : W + 14 ≤ R.locals) (hcap : n ≤ cap) (hc : cells + 1 ≤ R.cells) (hsl : slots + cap ≤ R.slots) :
    ∃ T' h', Stand p l e R s m args below meth c T' locs (cells + 1) (slots + cap) ∧ T'.heap = h' ∧ Ext h h' ∧ OwnA Z h' h.size ty n f ∧ Exa Z h' h.size ad ∧
      ∀ target, Steps p.tables e below (T'.setTop { g with pc := g.pc + 3, stack := .ref h.size :: rest }) target → Steps p.tables e below (T.setTop g) target := by
  obtain ⟨c0, A, r1, r2, r3⟩ := F
  have FC : FitC Z c0 := fitC_of A fun i hi v hv => by
    rw [r1] at hi; rw [r2 i hi] at hv; cases hv; exact r3 i hi
  obtain ⟨T', h', X', e', ex, A', E', st⟩ := cloneA X hx hZ hown w1 w2 w3 w4 w5 w6 eT A E FC hg hsize hs hd hf hW hl (by rw [r1]; exact hcap) hc hsl
  exact ⟨T', h', X', e', ex, ⟨cloneOf c0, A', r1, r2, r3⟩, E', st⟩
theorem own_selP {s : State} {args : Array Value} {y y' : MethodName} (hsel : (Jvm.Cond.selects y.cls y' y').before args s = true) (hc : y'.cls = y.cls) (hpriv : s.PrivateAt y) (hinst : (Jvm.Cond.instanceMethod y).before args s = true) (hy : y.cls ≠ "java/lang/invoke/MethodHandle" ∧ y.cls ≠ "java/lang/invoke/VarHandle") :
    (Jvm.Cond.selects y.cls y y).before args s = true := by
  obtain ⟨c2, r2, m2, a1, a2, q3, a4, kP, hkP, hkPi⟩ := Cond.selects_spec hsel
  have hf := findClass_of_methodNamed q3
  rw [hc] at hf
  exact Stand.selects_self_of_private hf hkP hkPi hpriv hinst hy
theorem own_fcast {C nm d : String} {x y : Int32} (F : Fld Z h a C nm d (.int x)) (q : x = y) : Fld Z h a C nm d (.int y) := q ▸ F
theorem own_ix {j d : Int32} {k i : Nat} (hj : ¬ j < 0) (hk : j.toNatClampNeg = k) (hd : d.toInt = (i : Int)) (hlt : k + i < 2147483648) : ¬ (j + d) < 0 ∧ (j + d).toNatClampNeg = k + i := by
  have e0 : (0 : Int32).toInt = 0 := rfl
  simp only [Int32.lt_iff_toInt_lt, e0, Int32.toNatClampNeg] at hj hk ⊢
  rw [Int32.toInt_add, hd]
  have : (j.toInt + (i : Int)).bmod (2 ^ 32) = j.toInt + (i : Int) := bmod32 (by omega) (by omega)
  rw [this]
  omega
theorem own_mask31 (x : Int32) : 0 ≤ (x &&& (2147483647 : Int32)).toInt := (c_andS x 2147483647).2.2 (by decide)
theorem own_rem {x y : Int32} (hx : 0 ≤ x.toInt) (hy : 0 < y.toInt) : 0 ≤ (x % y).toInt ∧ (x % y).toInt < y.toInt := by
  rw [Int32.toInt_mod]
  exact ⟨Int.tmod_nonneg _ hx, Int.tmod_lt_of_pos _ hy⟩
theorem own_lcEq {x y : Int64} (q : x = y) : lcmpW x y = 0 := by subst q; simp [lcmpW, Int64.lt_irrefl]
theorem own_lcNe {x y : Int64} (q : ¬ x = y) : ¬ lcmpW x y = 0 := by
  by_cases h : x > y
  · rw [lcmpW, if_pos h]; decide
  · rw [lcmpW, if_neg h, if_neg q]; decide
theorem own_lcGt {x y : Int64} (q : y < x) : (0 : Int32) < lcmpW x y := by rw [lcmpW, if_pos q]; decide
theorem own_lcLe {x y : Int64} (q : ¬ y < x) : ¬ (0 : Int32) < lcmpW x y := by
  rw [lcmpW, if_neg q]
  by_cases h : x = y
  · rw [if_pos h]; decide
  · rw [if_neg h]; decide
theorem own_lcLt {x y : Int64} (q : x < y) : lcmpW x y < 0 := by
  rw [lcmpW, if_neg (fun z => Int64.lt_irrefl (Int64.lt_trans z q)), if_neg (fun z => Int64.lt_irrefl (z ▸ q))]; decide
theorem own_lcGe {x y : Int64} (q : ¬ x < y) : ¬ lcmpW x y < 0 := by
  by_cases h : x > y
  · rw [lcmpW, if_pos h]; decide
  · rw [lcmpW, if_neg h, if_pos (Int64.le_antisymm (Int64.not_lt.mp h) (Int64.not_lt.mp q))]; decide
end OwnKit

theorem d1_0 : decode prog_82_method_2_code 0 = .ok (.iload_n 0, 1) := by decide +kernel
theorem d1_1 : decode prog_82_method_2_code 1 = .ok (.tableswitch 99 4 23 #[95, 95, 95, 95, 99, 95, 95, 99, 99, 95, 99, 99, 99, 99, 99, 95, 99, 99, 95, 95], 95) := by decide +kernel
theorem d1_96 : decode prog_82_method_2_code 96 = .ok (.iconst 1, 1) := by decide +kernel
theorem d1_97 : decode prog_82_method_2_code 97 = .ok (.goto 4, 3) := by decide +kernel
theorem d1_100 : decode prog_82_method_2_code 100 = .ok (.iconst 0, 1) := by decide +kernel
theorem d1_101 : decode prog_82_method_2_code 101 = .ok (.ireturn, 1) := by decide +kernel
theorem own_pn0 : plainName "com/example/sorted_map_store/sortedmapstore/client/Protocol" = true := by first | (simp [plainName, overriddenIn]; done) | decide +kernel
theorem own_pn1 : plainName "com/example/sorted_map_store/sortedmapstore/client/ProtocolGrowsWithTablePinLaw" = true := by first | (simp [plainName, overriddenIn]; done) | decide +kernel
theorem own_pd0 : parseMethodDescriptor "(B)Z" = some ⟨[.byte], some .boolean⟩ := by decide +kernel
def own_offs : Array Int := #[95, 95, 95, 95, 99, 95, 95, 99, 99, 95, 99, 99, 99, 99, 99, 95, 99, 99, 95, 95]
def QZ (x : Int32) (h0 : Heap) (n0 : Nat) (v : Option Value) (h : Heap) (L : List Loc) : Prop := v = some (.int x) ∧ Fr n0 L ∧ h = h0
set_option maxRecDepth 65536 in
set_option maxHeartbeats 40000000 in
theorem rmGO (l : Launch) (Z : State) (a0 : Array Value) (hw : ∀ d ∈ tables_1, d.before a0 Z = true) (ws : List Jvm.Cond) (p1 : Int32) (h0 : Heap) (n0 : Nat) (Z0 : n0 ≤ h0.size) (hout : p1.toInt < 4 ∨ p1.toInt > 23) :
    MetFree l (⟨"com/example/sorted_map_store/sortedmapstore/client/Protocol", "growsWithTable", "(B)Z"⟩ : MethodName) (head1 (Jvm.Cond.code (⟨"com/example/sorted_map_store/sortedmapstore/client/Protocol", "growsWithTable", "(B)Z"⟩ : MethodName) prog_82_method_2_code 1 (some .boolean) :: ws) ({ frames := 0, cells := 0, slots := 0, locals := 0 } : Room)) (fun a U => a = #[(.int p1)] ∧ Z.Warmed39 U.vm ∧ U.heap = h0) (fun _ _ _ _ _ => True) (fun _ U o U' => ∃ v L, o = .returned v ∧ QZ (0 : Int32) h0 n0 v U'.heap L ∧ FrameEnd U o U' L ({ frames := 0, cells := 0, slots := 0, locals := 0 } : Room).cells ({ frames := 0, cells := 0, slots := 0, locals := 0 } : Room).slots) := by
  refine MetFree.of_bodySF (plainFor_of_name own_pn0) hisR ?_
  intro p e s m args below meth c s₁ Bd hml0 hP hK
  obtain ⟨rfl, hZ, hh⟩ := hP
  have hx := Bd.exec
  have hby := Bd.bytes
  have hml : c.maxLocals = 1 := hml0
  have hown : s.vm.findClass "com/example/sorted_map_store/sortedmapstore/client/Protocol" = some m.cls := findClass_of_methodNamed Bd.named
  have hnm := (name_of_methodNamed Bd.named Bd.method).1
  have X0 : Stand p l e ({ frames := 0, cells := 0, slots := 0, locals := 0 } : Room) s m #[(.int p1)] below meth c s₁ [] 0 0 := Stand.of_body Bd
  have e0 : s₁.heap = h0 := by rw [← hh, Bd.state]; rfl
  have N0 := Fr.nil n0
  have ef : entryFrame m #[(.int p1)] 1 = mkF m 0 #[.val (.int p1)] [] := by first | (simp [entryFrame, mkF, argsToLocals, Value.category]; done) | rfl
  have pre0 : ∀ t, Steps p.tables e below (s₁.setTop (mkF m 0 #[.val (.int p1)] [])) t → Steps p.tables e below (s₁.setTop (entryFrame m #[(.int p1)] 1)) t := fun t k => castTop ef k
  obtain ⟨fs, hr, hrun, hended, hW, hsame⟩ := X0.leave (v := some (.int (0 : Int32))) (fun h => by rw [Bd.returns] at h; cases h)
  refine ⟨_, _, pre0 _ ?_, hrun, hended, _, _, rfl, ?_, ⟨_, rfl⟩, hW, hsame.mono (by decide) (by decide)⟩
  · show Steps p.tables e below (s₁.setTop (mkF m 0 #[.val (.int p1)] [])) _
    refine XS.iloadN X0.here hx rfl (hb hby d1_0) rfl ?_
    show Steps p.tables e below (s₁.setTop (mkF m 1 #[.val (.int p1)] [(.int p1)])) _
    refine XS.tswOut X0.here hx rfl (pc0 := 1) (pc' := 100) rfl (hb hby d1_1) rfl hout (by decide) (by decide) ?_
    show Steps p.tables e below (s₁.setTop (mkF m 100 #[.val (.int p1)] [])) _
    refine XS.iconst X0.here hx rfl (hb hby d1_100) ?_
    show Steps p.tables e below (s₁.setTop (mkF m 101 #[.val (.int p1)] [(.int (0 : Int32))])) _
    exact retN X0 hx (t := .boolean) Bd.returns (by simp) (hb hby d1_101) hr
  · show QZ (0 : Int32) h0 n0 _ s₁.heap _
    rw [e0]
    exact ⟨rfl, N0, rfl⟩
set_option maxRecDepth 65536 in
set_option maxHeartbeats 40000000 in
theorem rmGN (l : Launch) (Z : State) (a0 : Array Value) (hw : ∀ d ∈ tables_1, d.before a0 Z = true) (ws : List Jvm.Cond) (p1 : Int32) (h0 : Heap) (n0 : Nat) (Z0 : n0 ≤ h0.size) (hin : ¬ (p1.toInt < 4 ∨ p1.toInt > 23)) (hoff : own_offs[(p1.toInt - 4).toNat]? = some 99) :
    MetFree l (⟨"com/example/sorted_map_store/sortedmapstore/client/Protocol", "growsWithTable", "(B)Z"⟩ : MethodName) (head1 (Jvm.Cond.code (⟨"com/example/sorted_map_store/sortedmapstore/client/Protocol", "growsWithTable", "(B)Z"⟩ : MethodName) prog_82_method_2_code 1 (some .boolean) :: ws) ({ frames := 0, cells := 0, slots := 0, locals := 0 } : Room)) (fun a U => a = #[(.int p1)] ∧ Z.Warmed39 U.vm ∧ U.heap = h0) (fun _ _ _ _ _ => True) (fun _ U o U' => ∃ v L, o = .returned v ∧ QZ (0 : Int32) h0 n0 v U'.heap L ∧ FrameEnd U o U' L ({ frames := 0, cells := 0, slots := 0, locals := 0 } : Room).cells ({ frames := 0, cells := 0, slots := 0, locals := 0 } : Room).slots) := by
  refine MetFree.of_bodySF (plainFor_of_name own_pn0) hisR ?_
  intro p e s m args below meth c s₁ Bd hml0 hP hK
  obtain ⟨rfl, hZ, hh⟩ := hP
  have hx := Bd.exec
  have hby := Bd.bytes
  have hml : c.maxLocals = 1 := hml0
  have hown : s.vm.findClass "com/example/sorted_map_store/sortedmapstore/client/Protocol" = some m.cls := findClass_of_methodNamed Bd.named
  have hnm := (name_of_methodNamed Bd.named Bd.method).1
  have X0 : Stand p l e ({ frames := 0, cells := 0, slots := 0, locals := 0 } : Room) s m #[(.int p1)] below meth c s₁ [] 0 0 := Stand.of_body Bd
  have e0 : s₁.heap = h0 := by rw [← hh, Bd.state]; rfl
  have N0 := Fr.nil n0
  have ef : entryFrame m #[(.int p1)] 1 = mkF m 0 #[.val (.int p1)] [] := by first | (simp [entryFrame, mkF, argsToLocals, Value.category]; done) | rfl
  have pre0 : ∀ t, Steps p.tables e below (s₁.setTop (mkF m 0 #[.val (.int p1)] [])) t → Steps p.tables e below (s₁.setTop (entryFrame m #[(.int p1)] 1)) t := fun t k => castTop ef k
  obtain ⟨fs, hr, hrun, hended, hW, hsame⟩ := X0.leave (v := some (.int (0 : Int32))) (fun h => by rw [Bd.returns] at h; cases h)
  refine ⟨_, _, pre0 _ ?_, hrun, hended, _, _, rfl, ?_, ⟨_, rfl⟩, hW, hsame.mono (by decide) (by decide)⟩
  · show Steps p.tables e below (s₁.setTop (mkF m 0 #[.val (.int p1)] [])) _
    refine XS.iloadN X0.here hx rfl (hb hby d1_0) rfl ?_
    show Steps p.tables e below (s₁.setTop (mkF m 1 #[.val (.int p1)] [(.int p1)])) _
    refine XS.tswIn X0.here hx rfl (pc0 := 1) (pc' := 100) rfl (hb hby d1_1) rfl hin hoff (by decide) (by decide) ?_
    show Steps p.tables e below (s₁.setTop (mkF m 100 #[.val (.int p1)] [])) _
    refine XS.iconst X0.here hx rfl (hb hby d1_100) ?_
    show Steps p.tables e below (s₁.setTop (mkF m 101 #[.val (.int p1)] [(.int (0 : Int32))])) _
    exact retN X0 hx (t := .boolean) Bd.returns (by simp) (hb hby d1_101) hr
  · show QZ (0 : Int32) h0 n0 _ s₁.heap _
    rw [e0]
    exact ⟨rfl, N0, rfl⟩
set_option maxRecDepth 65536 in
set_option maxHeartbeats 40000000 in
theorem rmGY (l : Launch) (Z : State) (a0 : Array Value) (hw : ∀ d ∈ tables_1, d.before a0 Z = true) (ws : List Jvm.Cond) (p1 : Int32) (h0 : Heap) (n0 : Nat) (Z0 : n0 ≤ h0.size) (hin : ¬ (p1.toInt < 4 ∨ p1.toInt > 23)) (hoff : own_offs[(p1.toInt - 4).toNat]? = some 95) :
    MetFree l (⟨"com/example/sorted_map_store/sortedmapstore/client/Protocol", "growsWithTable", "(B)Z"⟩ : MethodName) (head1 (Jvm.Cond.code (⟨"com/example/sorted_map_store/sortedmapstore/client/Protocol", "growsWithTable", "(B)Z"⟩ : MethodName) prog_82_method_2_code 1 (some .boolean) :: ws) ({ frames := 0, cells := 0, slots := 0, locals := 0 } : Room)) (fun a U => a = #[(.int p1)] ∧ Z.Warmed39 U.vm ∧ U.heap = h0) (fun _ _ _ _ _ => True) (fun _ U o U' => ∃ v L, o = .returned v ∧ QZ (1 : Int32) h0 n0 v U'.heap L ∧ FrameEnd U o U' L ({ frames := 0, cells := 0, slots := 0, locals := 0 } : Room).cells ({ frames := 0, cells := 0, slots := 0, locals := 0 } : Room).slots) := by
  refine MetFree.of_bodySF (plainFor_of_name own_pn0) hisR ?_
  intro p e s m args below meth c s₁ Bd hml0 hP hK
  obtain ⟨rfl, hZ, hh⟩ := hP
  have hx := Bd.exec
  have hby := Bd.bytes
  have hml : c.maxLocals = 1 := hml0
  have hown : s.vm.findClass "com/example/sorted_map_store/sortedmapstore/client/Protocol" = some m.cls := findClass_of_methodNamed Bd.named
  have hnm := (name_of_methodNamed Bd.named Bd.method).1
  have X0 : Stand p l e ({ frames := 0, cells := 0, slots := 0, locals := 0 } : Room) s m #[(.int p1)] below meth c s₁ [] 0 0 := Stand.of_body Bd
  have e0 : s₁.heap = h0 := by rw [← hh, Bd.state]; rfl
  have N0 := Fr.nil n0
  have ef : entryFrame m #[(.int p1)] 1 = mkF m 0 #[.val (.int p1)] [] := by first | (simp [entryFrame, mkF, argsToLocals, Value.category]; done) | rfl
  have pre0 : ∀ t, Steps p.tables e below (s₁.setTop (mkF m 0 #[.val (.int p1)] [])) t → Steps p.tables e below (s₁.setTop (entryFrame m #[(.int p1)] 1)) t := fun t k => castTop ef k
  obtain ⟨fs, hr, hrun, hended, hW, hsame⟩ := X0.leave (v := some (.int (1 : Int32))) (fun h => by rw [Bd.returns] at h; cases h)
  refine ⟨_, _, pre0 _ ?_, hrun, hended, _, _, rfl, ?_, ⟨_, rfl⟩, hW, hsame.mono (by decide) (by decide)⟩
  · show Steps p.tables e below (s₁.setTop (mkF m 0 #[.val (.int p1)] [])) _
    refine XS.iloadN X0.here hx rfl (hb hby d1_0) rfl ?_
    show Steps p.tables e below (s₁.setTop (mkF m 1 #[.val (.int p1)] [(.int p1)])) _
    refine XS.tswIn X0.here hx rfl (pc0 := 1) (pc' := 96) rfl (hb hby d1_1) rfl hin hoff (by decide) (by decide) ?_
    show Steps p.tables e below (s₁.setTop (mkF m 96 #[.val (.int p1)] [])) _
    refine XS.iconst X0.here hx rfl (hb hby d1_96) ?_
    show Steps p.tables e below (s₁.setTop (mkF m 97 #[.val (.int p1)] [(.int (1 : Int32))])) _
    refine XS.goto X0.here hx rfl (pc0 := 97) (pc' := 101) rfl (hb hby d1_97) (by decide) (by decide) ?_
    show Steps p.tables e below (s₁.setTop (mkF m 101 #[.val (.int p1)] [(.int (1 : Int32))])) _
    exact retN X0 hx (t := .boolean) Bd.returns (by simp) (hb hby d1_101) hr
  · show QZ (1 : Int32) h0 n0 _ s₁.heap _
    rw [e0]
    exact ⟨rfl, N0, rfl⟩
def QLaw (n0 : Nat) (v : Option Value) (h : Heap) (L : List Loc) : Prop := v = some (.int 1) ∧ Fr n0 L
set_option maxRecDepth 65536 in
set_option maxHeartbeats 40000000 in
theorem rm0A (l : Launch) (Z : State) (a0 : Array Value) (hw : ∀ d ∈ tables_1, d.before a0 Z = true) (ws : List Jvm.Cond) (p0 : Int32) (h0 : Heap) (n0 : Nat) (Z0 : n0 ≤ h0.size) (hb12 : (p0.toInt8.toInt32) < (0 : Int32)) (hg : (p0.toInt8.toInt32).toInt < 4 ∨ (p0.toInt8.toInt32).toInt > 23) :
    MetFree l x (head1 (Jvm.Cond.code x code maxLocals ret :: ws) room_1) (fun a U => a = #[(.int p0)] ∧ Z.Warmed39 U.vm ∧ U.heap = h0) (fun _ _ _ _ _ => True) (fun _ U o U' => ∃ v L, o = .returned v ∧ QLaw n0 v U'.heap L ∧ FrameEnd U o U' L room_1.cells room_1.slots) := by
  refine MetFree.of_bodySF (plainFor_of_name own_pn1) hisR ?_
  intro p e s m args below meth c s₁ Bd hml0 hP hK
  obtain ⟨rfl, hZ, hh⟩ := hP
  have hx := Bd.exec
  have hby := Bd.bytes
  have hml : c.maxLocals = 6 := hml0
  have hown : s.vm.findClass "com/example/sorted_map_store/sortedmapstore/client/ProtocolGrowsWithTablePinLaw" = some m.cls := findClass_of_methodNamed Bd.named
  have hnm := (name_of_methodNamed Bd.named Bd.method).1
  have X0 : Stand p l e room_1 s m #[(.int p0)] below meth c s₁ [] 0 0 := Stand.of_body Bd
  have e0 : s₁.heap = h0 := by rw [← hh, Bd.state]; rfl
  have N0 := Fr.nil n0
  have ef : entryFrame m #[(.int p0)] maxLocals = mkF m 0 #[.val (.int p0), .unset, .unset, .unset, .unset, .unset] [] := by first | (simp [entryFrame, mkF, argsToLocals, Value.category, maxLocals]; done) | rfl
  have pre0 : ∀ t, Steps p.tables e below (s₁.setTop (mkF m 0 #[.val (.int p0), .unset, .unset, .unset, .unset, .unset] [])) t → Steps p.tables e below (s₁.setTop (entryFrame m #[(.int p0)] maxLocals)) t := fun t k => castTop ef k
  obtain ⟨_, _, ⟨T101, L101, k101, n101⟩, -, X101, ⟨Lc101, hQ101, l101, y101, z101⟩, st101⟩ := Jvm.LawKit.callS X0 hx (y := (⟨"com/example/sorted_map_store/sortedmapstore/client/Protocol", "growsWithTable", "(B)Z"⟩ : MethodName)) hown (mvT hZ (hw _ (List.mem_of_getElem? (i := 1) rfl))) (mvT hZ (hw _ (List.mem_of_getElem? (i := 2) rfl))) (mvT hZ (hw _ (List.mem_of_getElem? (i := 3) rfl))) (mvT hZ (hw _ (List.mem_of_getElem? (i := 4) rfl))) (by decide) (backOf (W := 0) (rmGO l Z a0 hw [] (p0.toInt8.toInt32) h0 n0 Z0 hg) hZ (hw _ (List.mem_of_getElem? (i := 4) rfl)) (hw _ (List.mem_of_getElem? (i := 3) rfl)) (by decide) (by decide)) (g := (mkF m 41 #[.val (.int p0), .val (.int (p0.toInt8.toInt32)), .val (.long (13117168 : Int64)), .second, .val (.int (p0.toInt8.toInt32)), .val (.int (0 : Int32))] [(.int (p0.toInt8.toInt32))])) rfl (by rw [hml]; rfl) (argsL := [(.int (p0.toInt8.toInt32))]) (rest := []) (lenOf own_pd0 rfl) rfl (by show 2 * 0 + _ ≤ _; exact Nat.le_of_eq rfl) (hb hby at_41) (fun _ _ => ⟨rfl, e0, (by decide : 0 + 0 ≤ _), (by decide : 0 + 0 ≤ _)⟩)
  dsimp only [Pt.U, Pt.locs, Pt.cells, Pt.slots] at X101 l101 y101 z101 st101 hQ101
  subst l101 y101 z101
  obtain ⟨rfl, Nq101, e101⟩ := hQ101
  have N101 := Fr.app N0 Nq101
  obtain ⟨fs, hr, hrun, hended, hW, hsame⟩ := X101.leave (v := some (.int (1 : Int32))) (fun h => by rw [Bd.returns] at h; cases h)
  refine ⟨_, _, pre0 _ ?_, hrun, hended, _, _, rfl, ?_, ⟨_, rfl⟩, hW, hsame.mono (by decide) (by decide)⟩
  · show Steps p.tables e below (s₁.setTop (mkF m 0 #[.val (.int p0), .unset, .unset, .unset, .unset, .unset] [])) _
    refine XS.iloadN X0.here hx rfl (hb hby at_0) rfl ?_
    show Steps p.tables e below (s₁.setTop (mkF m 1 #[.val (.int p0), .unset, .unset, .unset, .unset, .unset] [(.int p0)])) _
    refine XS.i2b X0.here hx rfl (hb hby at_1) rfl ?_
    show Steps p.tables e below (s₁.setTop (mkF m 2 #[.val (.int p0), .unset, .unset, .unset, .unset, .unset] [(.int (p0.toInt8.toInt32))])) _
    refine XS.istoreN X0.here hx rfl (hb hby at_2) rfl (l' := #[.val (.int p0), .val (.int (p0.toInt8.toInt32)), .unset, .unset, .unset, .unset]) rfl ?_
    show Steps p.tables e below (s₁.setTop (mkF m 3 #[.val (.int p0), .val (.int (p0.toInt8.toInt32)), .unset, .unset, .unset, .unset] [])) _
    refine X0.ldc2Long hx hown (mvT hZ (hw _ (List.mem_of_getElem? (i := 0) rfl))) (g := (mkF m 3 #[.val (.int p0), .val (.int (p0.toInt8.toInt32)), .unset, .unset, .unset, .unset] [])) rfl (hb hby at_3) _ ?_
    show Steps p.tables e below (s₁.setTop (mkF m 6 #[.val (.int p0), .val (.int (p0.toInt8.toInt32)), .unset, .unset, .unset, .unset] [(.long (13117168 : Int64))])) _
    refine XS.lstoreN X0.here hx rfl (hb hby at_6) rfl (l' := #[.val (.int p0), .val (.int (p0.toInt8.toInt32)), .val (.long (13117168 : Int64)), .second, .unset, .unset]) rfl ?_
    show Steps p.tables e below (s₁.setTop (mkF m 7 #[.val (.int p0), .val (.int (p0.toInt8.toInt32)), .val (.long (13117168 : Int64)), .second, .unset, .unset] [])) _
    refine XS.iloadN X0.here hx rfl (hb hby at_7) rfl ?_
    show Steps p.tables e below (s₁.setTop (mkF m 8 #[.val (.int p0), .val (.int (p0.toInt8.toInt32)), .val (.long (13117168 : Int64)), .second, .unset, .unset] [(.int (p0.toInt8.toInt32))])) _
    refine XS.istore X0.here hx rfl (hb hby at_8) rfl (l' := #[.val (.int p0), .val (.int (p0.toInt8.toInt32)), .val (.long (13117168 : Int64)), .second, .val (.int (p0.toInt8.toInt32)), .unset]) rfl ?_
    show Steps p.tables e below (s₁.setTop (mkF m 10 #[.val (.int p0), .val (.int (p0.toInt8.toInt32)), .val (.long (13117168 : Int64)), .second, .val (.int (p0.toInt8.toInt32)), .unset] [])) _
    refine XS.iload X0.here hx rfl (hb hby at_10) rfl ?_
    show Steps p.tables e below (s₁.setTop (mkF m 12 #[.val (.int p0), .val (.int (p0.toInt8.toInt32)), .val (.long (13117168 : Int64)), .second, .val (.int (p0.toInt8.toInt32)), .unset] [(.int (p0.toInt8.toInt32))])) _
    refine XS.ifYes X0.here hx rfl (pc0 := 12) (pc' := 37) rfl (hb hby at_12) rfl ((if0 _ _).trans (tlt hb12).1) (by decide) (by decide) ?_
    show Steps p.tables e below (s₁.setTop (mkF m 37 #[.val (.int p0), .val (.int (p0.toInt8.toInt32)), .val (.long (13117168 : Int64)), .second, .val (.int (p0.toInt8.toInt32)), .unset] [])) _
    refine XS.iconst X0.here hx rfl (hb hby at_37) ?_
    show Steps p.tables e below (s₁.setTop (mkF m 38 #[.val (.int p0), .val (.int (p0.toInt8.toInt32)), .val (.long (13117168 : Int64)), .second, .val (.int (p0.toInt8.toInt32)), .unset] [(.int (0 : Int32))])) _
    refine XS.istore X0.here hx rfl (hb hby at_38) rfl (l' := #[.val (.int p0), .val (.int (p0.toInt8.toInt32)), .val (.long (13117168 : Int64)), .second, .val (.int (p0.toInt8.toInt32)), .val (.int (0 : Int32))]) rfl ?_
    show Steps p.tables e below (s₁.setTop (mkF m 40 #[.val (.int p0), .val (.int (p0.toInt8.toInt32)), .val (.long (13117168 : Int64)), .second, .val (.int (p0.toInt8.toInt32)), .val (.int (0 : Int32))] [])) _
    refine XS.iloadN X0.here hx rfl (hb hby at_40) rfl ?_
    show Steps p.tables e below (s₁.setTop (mkF m 41 #[.val (.int p0), .val (.int (p0.toInt8.toInt32)), .val (.long (13117168 : Int64)), .second, .val (.int (p0.toInt8.toInt32)), .val (.int (0 : Int32))] [(.int (p0.toInt8.toInt32))])) _
    refine st101 _ ?_
    show Steps p.tables e below (T101.setTop (mkF m 44 #[.val (.int p0), .val (.int (p0.toInt8.toInt32)), .val (.long (13117168 : Int64)), .second, .val (.int (p0.toInt8.toInt32)), .val (.int (0 : Int32))] [(.int (0 : Int32))])) _
    refine XS.iload X101.here hx rfl (hb hby at_44) rfl ?_
    show Steps p.tables e below (T101.setTop (mkF m 46 #[.val (.int p0), .val (.int (p0.toInt8.toInt32)), .val (.long (13117168 : Int64)), .second, .val (.int (p0.toInt8.toInt32)), .val (.int (0 : Int32))] [(.int (0 : Int32)), (.int (0 : Int32))])) _
    refine XS.icmpNo X101.here hx rfl (hb hby at_46) rfl (teq rfl).2 ?_
    show Steps p.tables e below (T101.setTop (mkF m 49 #[.val (.int p0), .val (.int (p0.toInt8.toInt32)), .val (.long (13117168 : Int64)), .second, .val (.int (p0.toInt8.toInt32)), .val (.int (0 : Int32))] [])) _
    refine XS.iconst X101.here hx rfl (hb hby at_49) ?_
    show Steps p.tables e below (T101.setTop (mkF m 50 #[.val (.int p0), .val (.int (p0.toInt8.toInt32)), .val (.long (13117168 : Int64)), .second, .val (.int (p0.toInt8.toInt32)), .val (.int (0 : Int32))] [(.int (1 : Int32))])) _
    refine XS.goto X101.here hx rfl (pc0 := 50) (pc' := 54) rfl (hb hby at_50) (by decide) (by decide) ?_
    show Steps p.tables e below (T101.setTop (mkF m 54 #[.val (.int p0), .val (.int (p0.toInt8.toInt32)), .val (.long (13117168 : Int64)), .second, .val (.int (p0.toInt8.toInt32)), .val (.int (0 : Int32))] [(.int (1 : Int32))])) _
    exact retN X101 hx (t := .boolean) Bd.returns (by simp) (hb hby at_54) hr
  · show QLaw n0 _ T101.heap _
    rw [e101]
    exact ⟨rfl, N101⟩
set_option maxRecDepth 65536 in
set_option maxHeartbeats 40000000 in
theorem rm0B (l : Launch) (Z : State) (a0 : Array Value) (hw : ∀ d ∈ tables_1, d.before a0 Z = true) (ws : List Jvm.Cond) (p0 : Int32) (h0 : Heap) (n0 : Nat) (Z0 : n0 ≤ h0.size) (hb12 : ¬ (p0.toInt8.toInt32) < (0 : Int32)) (hb19 : ¬ (p0.toInt8.toInt32) < (64 : Int32)) (hg : (p0.toInt8.toInt32).toInt < 4 ∨ (p0.toInt8.toInt32).toInt > 23) :
    MetFree l x (head1 (Jvm.Cond.code x code maxLocals ret :: ws) room_1) (fun a U => a = #[(.int p0)] ∧ Z.Warmed39 U.vm ∧ U.heap = h0) (fun _ _ _ _ _ => True) (fun _ U o U' => ∃ v L, o = .returned v ∧ QLaw n0 v U'.heap L ∧ FrameEnd U o U' L room_1.cells room_1.slots) := by
  refine MetFree.of_bodySF (plainFor_of_name own_pn1) hisR ?_
  intro p e s m args below meth c s₁ Bd hml0 hP hK
  obtain ⟨rfl, hZ, hh⟩ := hP
  have hx := Bd.exec
  have hby := Bd.bytes
  have hml : c.maxLocals = 6 := hml0
  have hown : s.vm.findClass "com/example/sorted_map_store/sortedmapstore/client/ProtocolGrowsWithTablePinLaw" = some m.cls := findClass_of_methodNamed Bd.named
  have hnm := (name_of_methodNamed Bd.named Bd.method).1
  have X0 : Stand p l e room_1 s m #[(.int p0)] below meth c s₁ [] 0 0 := Stand.of_body Bd
  have e0 : s₁.heap = h0 := by rw [← hh, Bd.state]; rfl
  have N0 := Fr.nil n0
  have ef : entryFrame m #[(.int p0)] maxLocals = mkF m 0 #[.val (.int p0), .unset, .unset, .unset, .unset, .unset] [] := by first | (simp [entryFrame, mkF, argsToLocals, Value.category, maxLocals]; done) | rfl
  have pre0 : ∀ t, Steps p.tables e below (s₁.setTop (mkF m 0 #[.val (.int p0), .unset, .unset, .unset, .unset, .unset] [])) t → Steps p.tables e below (s₁.setTop (entryFrame m #[(.int p0)] maxLocals)) t := fun t k => castTop ef k
  obtain ⟨_, _, ⟨T101, L101, k101, n101⟩, -, X101, ⟨Lc101, hQ101, l101, y101, z101⟩, st101⟩ := Jvm.LawKit.callS X0 hx (y := (⟨"com/example/sorted_map_store/sortedmapstore/client/Protocol", "growsWithTable", "(B)Z"⟩ : MethodName)) hown (mvT hZ (hw _ (List.mem_of_getElem? (i := 1) rfl))) (mvT hZ (hw _ (List.mem_of_getElem? (i := 2) rfl))) (mvT hZ (hw _ (List.mem_of_getElem? (i := 3) rfl))) (mvT hZ (hw _ (List.mem_of_getElem? (i := 4) rfl))) (by decide) (backOf (W := 0) (rmGO l Z a0 hw [] (p0.toInt8.toInt32) h0 n0 Z0 hg) hZ (hw _ (List.mem_of_getElem? (i := 4) rfl)) (hw _ (List.mem_of_getElem? (i := 3) rfl)) (by decide) (by decide)) (g := (mkF m 41 #[.val (.int p0), .val (.int (p0.toInt8.toInt32)), .val (.long (13117168 : Int64)), .second, .val (.int (p0.toInt8.toInt32)), .val (.int (0 : Int32))] [(.int (p0.toInt8.toInt32))])) rfl (by rw [hml]; rfl) (argsL := [(.int (p0.toInt8.toInt32))]) (rest := []) (lenOf own_pd0 rfl) rfl (by show 2 * 0 + _ ≤ _; exact Nat.le_of_eq rfl) (hb hby at_41) (fun _ _ => ⟨rfl, e0, (by decide : 0 + 0 ≤ _), (by decide : 0 + 0 ≤ _)⟩)
  dsimp only [Pt.U, Pt.locs, Pt.cells, Pt.slots] at X101 l101 y101 z101 st101 hQ101
  subst l101 y101 z101
  obtain ⟨rfl, Nq101, e101⟩ := hQ101
  have N101 := Fr.app N0 Nq101
  obtain ⟨fs, hr, hrun, hended, hW, hsame⟩ := X101.leave (v := some (.int (1 : Int32))) (fun h => by rw [Bd.returns] at h; cases h)
  refine ⟨_, _, pre0 _ ?_, hrun, hended, _, _, rfl, ?_, ⟨_, rfl⟩, hW, hsame.mono (by decide) (by decide)⟩
  · show Steps p.tables e below (s₁.setTop (mkF m 0 #[.val (.int p0), .unset, .unset, .unset, .unset, .unset] [])) _
    refine XS.iloadN X0.here hx rfl (hb hby at_0) rfl ?_
    show Steps p.tables e below (s₁.setTop (mkF m 1 #[.val (.int p0), .unset, .unset, .unset, .unset, .unset] [(.int p0)])) _
    refine XS.i2b X0.here hx rfl (hb hby at_1) rfl ?_
    show Steps p.tables e below (s₁.setTop (mkF m 2 #[.val (.int p0), .unset, .unset, .unset, .unset, .unset] [(.int (p0.toInt8.toInt32))])) _
    refine XS.istoreN X0.here hx rfl (hb hby at_2) rfl (l' := #[.val (.int p0), .val (.int (p0.toInt8.toInt32)), .unset, .unset, .unset, .unset]) rfl ?_
    show Steps p.tables e below (s₁.setTop (mkF m 3 #[.val (.int p0), .val (.int (p0.toInt8.toInt32)), .unset, .unset, .unset, .unset] [])) _
    refine X0.ldc2Long hx hown (mvT hZ (hw _ (List.mem_of_getElem? (i := 0) rfl))) (g := (mkF m 3 #[.val (.int p0), .val (.int (p0.toInt8.toInt32)), .unset, .unset, .unset, .unset] [])) rfl (hb hby at_3) _ ?_
    show Steps p.tables e below (s₁.setTop (mkF m 6 #[.val (.int p0), .val (.int (p0.toInt8.toInt32)), .unset, .unset, .unset, .unset] [(.long (13117168 : Int64))])) _
    refine XS.lstoreN X0.here hx rfl (hb hby at_6) rfl (l' := #[.val (.int p0), .val (.int (p0.toInt8.toInt32)), .val (.long (13117168 : Int64)), .second, .unset, .unset]) rfl ?_
    show Steps p.tables e below (s₁.setTop (mkF m 7 #[.val (.int p0), .val (.int (p0.toInt8.toInt32)), .val (.long (13117168 : Int64)), .second, .unset, .unset] [])) _
    refine XS.iloadN X0.here hx rfl (hb hby at_7) rfl ?_
    show Steps p.tables e below (s₁.setTop (mkF m 8 #[.val (.int p0), .val (.int (p0.toInt8.toInt32)), .val (.long (13117168 : Int64)), .second, .unset, .unset] [(.int (p0.toInt8.toInt32))])) _
    refine XS.istore X0.here hx rfl (hb hby at_8) rfl (l' := #[.val (.int p0), .val (.int (p0.toInt8.toInt32)), .val (.long (13117168 : Int64)), .second, .val (.int (p0.toInt8.toInt32)), .unset]) rfl ?_
    show Steps p.tables e below (s₁.setTop (mkF m 10 #[.val (.int p0), .val (.int (p0.toInt8.toInt32)), .val (.long (13117168 : Int64)), .second, .val (.int (p0.toInt8.toInt32)), .unset] [])) _
    refine XS.iload X0.here hx rfl (hb hby at_10) rfl ?_
    show Steps p.tables e below (s₁.setTop (mkF m 12 #[.val (.int p0), .val (.int (p0.toInt8.toInt32)), .val (.long (13117168 : Int64)), .second, .val (.int (p0.toInt8.toInt32)), .unset] [(.int (p0.toInt8.toInt32))])) _
    refine XS.ifNo X0.here hx rfl (hb hby at_12) rfl ((if0 _ _).trans (flt hb12).1) ?_
    show Steps p.tables e below (s₁.setTop (mkF m 15 #[.val (.int p0), .val (.int (p0.toInt8.toInt32)), .val (.long (13117168 : Int64)), .second, .val (.int (p0.toInt8.toInt32)), .unset] [])) _
    refine XS.iload X0.here hx rfl (hb hby at_15) rfl ?_
    show Steps p.tables e below (s₁.setTop (mkF m 17 #[.val (.int p0), .val (.int (p0.toInt8.toInt32)), .val (.long (13117168 : Int64)), .second, .val (.int (p0.toInt8.toInt32)), .unset] [(.int (p0.toInt8.toInt32))])) _
    refine XS.bipush X0.here hx rfl (hb hby at_17) ?_
    show Steps p.tables e below (s₁.setTop (mkF m 19 #[.val (.int p0), .val (.int (p0.toInt8.toInt32)), .val (.long (13117168 : Int64)), .second, .val (.int (p0.toInt8.toInt32)), .unset] [(.int (64 : Int32)), (.int (p0.toInt8.toInt32))])) _
    refine XS.icmpYes X0.here hx rfl (pc0 := 19) (pc' := 37) rfl (hb hby at_19) rfl (flt hb19).2.1 (by decide) (by decide) ?_
    show Steps p.tables e below (s₁.setTop (mkF m 37 #[.val (.int p0), .val (.int (p0.toInt8.toInt32)), .val (.long (13117168 : Int64)), .second, .val (.int (p0.toInt8.toInt32)), .unset] [])) _
    refine XS.iconst X0.here hx rfl (hb hby at_37) ?_
    show Steps p.tables e below (s₁.setTop (mkF m 38 #[.val (.int p0), .val (.int (p0.toInt8.toInt32)), .val (.long (13117168 : Int64)), .second, .val (.int (p0.toInt8.toInt32)), .unset] [(.int (0 : Int32))])) _
    refine XS.istore X0.here hx rfl (hb hby at_38) rfl (l' := #[.val (.int p0), .val (.int (p0.toInt8.toInt32)), .val (.long (13117168 : Int64)), .second, .val (.int (p0.toInt8.toInt32)), .val (.int (0 : Int32))]) rfl ?_
    show Steps p.tables e below (s₁.setTop (mkF m 40 #[.val (.int p0), .val (.int (p0.toInt8.toInt32)), .val (.long (13117168 : Int64)), .second, .val (.int (p0.toInt8.toInt32)), .val (.int (0 : Int32))] [])) _
    refine XS.iloadN X0.here hx rfl (hb hby at_40) rfl ?_
    show Steps p.tables e below (s₁.setTop (mkF m 41 #[.val (.int p0), .val (.int (p0.toInt8.toInt32)), .val (.long (13117168 : Int64)), .second, .val (.int (p0.toInt8.toInt32)), .val (.int (0 : Int32))] [(.int (p0.toInt8.toInt32))])) _
    refine st101 _ ?_
    show Steps p.tables e below (T101.setTop (mkF m 44 #[.val (.int p0), .val (.int (p0.toInt8.toInt32)), .val (.long (13117168 : Int64)), .second, .val (.int (p0.toInt8.toInt32)), .val (.int (0 : Int32))] [(.int (0 : Int32))])) _
    refine XS.iload X101.here hx rfl (hb hby at_44) rfl ?_
    show Steps p.tables e below (T101.setTop (mkF m 46 #[.val (.int p0), .val (.int (p0.toInt8.toInt32)), .val (.long (13117168 : Int64)), .second, .val (.int (p0.toInt8.toInt32)), .val (.int (0 : Int32))] [(.int (0 : Int32)), (.int (0 : Int32))])) _
    refine XS.icmpNo X101.here hx rfl (hb hby at_46) rfl (teq rfl).2 ?_
    show Steps p.tables e below (T101.setTop (mkF m 49 #[.val (.int p0), .val (.int (p0.toInt8.toInt32)), .val (.long (13117168 : Int64)), .second, .val (.int (p0.toInt8.toInt32)), .val (.int (0 : Int32))] [])) _
    refine XS.iconst X101.here hx rfl (hb hby at_49) ?_
    show Steps p.tables e below (T101.setTop (mkF m 50 #[.val (.int p0), .val (.int (p0.toInt8.toInt32)), .val (.long (13117168 : Int64)), .second, .val (.int (p0.toInt8.toInt32)), .val (.int (0 : Int32))] [(.int (1 : Int32))])) _
    refine XS.goto X101.here hx rfl (pc0 := 50) (pc' := 54) rfl (hb hby at_50) (by decide) (by decide) ?_
    show Steps p.tables e below (T101.setTop (mkF m 54 #[.val (.int p0), .val (.int (p0.toInt8.toInt32)), .val (.long (13117168 : Int64)), .second, .val (.int (p0.toInt8.toInt32)), .val (.int (0 : Int32))] [(.int (1 : Int32))])) _
    exact retN X101 hx (t := .boolean) Bd.returns (by simp) (hb hby at_54) hr
  · show QLaw n0 _ T101.heap _
    rw [e101]
    exact ⟨rfl, N101⟩
set_option maxRecDepth 65536 in
set_option maxHeartbeats 40000000 in
theorem rm0C (l : Launch) (Z : State) (a0 : Array Value) (hw : ∀ d ∈ tables_1, d.before a0 Z = true) (ws : List Jvm.Cond) (p0 : Int32) (h0 : Heap) (n0 : Nat) (Z0 : n0 ≤ h0.size) (hb12 : ¬ (p0.toInt8.toInt32) < (0 : Int32)) (hb19 : (p0.toInt8.toInt32) < (64 : Int32)) (hb30 : ((((13117168 : Int64).toUInt64 >>> ((p0.toInt8.toInt32) &&& 0x3f).toInt64.toUInt64).toInt64) &&& (1 : Int64)) = (0 : Int64)) (hg : (p0.toInt8.toInt32).toInt < 4 ∨ (p0.toInt8.toInt32).toInt > 23) :
    MetFree l x (head1 (Jvm.Cond.code x code maxLocals ret :: ws) room_1) (fun a U => a = #[(.int p0)] ∧ Z.Warmed39 U.vm ∧ U.heap = h0) (fun _ _ _ _ _ => True) (fun _ U o U' => ∃ v L, o = .returned v ∧ QLaw n0 v U'.heap L ∧ FrameEnd U o U' L room_1.cells room_1.slots) := by
  refine MetFree.of_bodySF (plainFor_of_name own_pn1) hisR ?_
  intro p e s m args below meth c s₁ Bd hml0 hP hK
  obtain ⟨rfl, hZ, hh⟩ := hP
  have hx := Bd.exec
  have hby := Bd.bytes
  have hml : c.maxLocals = 6 := hml0
  have hown : s.vm.findClass "com/example/sorted_map_store/sortedmapstore/client/ProtocolGrowsWithTablePinLaw" = some m.cls := findClass_of_methodNamed Bd.named
  have hnm := (name_of_methodNamed Bd.named Bd.method).1
  have X0 : Stand p l e room_1 s m #[(.int p0)] below meth c s₁ [] 0 0 := Stand.of_body Bd
  have e0 : s₁.heap = h0 := by rw [← hh, Bd.state]; rfl
  have N0 := Fr.nil n0
  have ef : entryFrame m #[(.int p0)] maxLocals = mkF m 0 #[.val (.int p0), .unset, .unset, .unset, .unset, .unset] [] := by first | (simp [entryFrame, mkF, argsToLocals, Value.category, maxLocals]; done) | rfl
  have pre0 : ∀ t, Steps p.tables e below (s₁.setTop (mkF m 0 #[.val (.int p0), .unset, .unset, .unset, .unset, .unset] [])) t → Steps p.tables e below (s₁.setTop (entryFrame m #[(.int p0)] maxLocals)) t := fun t k => castTop ef k
  obtain ⟨_, _, ⟨T101, L101, k101, n101⟩, -, X101, ⟨Lc101, hQ101, l101, y101, z101⟩, st101⟩ := Jvm.LawKit.callS X0 hx (y := (⟨"com/example/sorted_map_store/sortedmapstore/client/Protocol", "growsWithTable", "(B)Z"⟩ : MethodName)) hown (mvT hZ (hw _ (List.mem_of_getElem? (i := 1) rfl))) (mvT hZ (hw _ (List.mem_of_getElem? (i := 2) rfl))) (mvT hZ (hw _ (List.mem_of_getElem? (i := 3) rfl))) (mvT hZ (hw _ (List.mem_of_getElem? (i := 4) rfl))) (by decide) (backOf (W := 0) (rmGO l Z a0 hw [] (p0.toInt8.toInt32) h0 n0 Z0 hg) hZ (hw _ (List.mem_of_getElem? (i := 4) rfl)) (hw _ (List.mem_of_getElem? (i := 3) rfl)) (by decide) (by decide)) (g := (mkF m 41 #[.val (.int p0), .val (.int (p0.toInt8.toInt32)), .val (.long (13117168 : Int64)), .second, .val (.int (p0.toInt8.toInt32)), .val (.int (0 : Int32))] [(.int (p0.toInt8.toInt32))])) rfl (by rw [hml]; rfl) (argsL := [(.int (p0.toInt8.toInt32))]) (rest := []) (lenOf own_pd0 rfl) rfl (by show 2 * 0 + _ ≤ _; exact Nat.le_of_eq rfl) (hb hby at_41) (fun _ _ => ⟨rfl, e0, (by decide : 0 + 0 ≤ _), (by decide : 0 + 0 ≤ _)⟩)
  dsimp only [Pt.U, Pt.locs, Pt.cells, Pt.slots] at X101 l101 y101 z101 st101 hQ101
  subst l101 y101 z101
  obtain ⟨rfl, Nq101, e101⟩ := hQ101
  have N101 := Fr.app N0 Nq101
  obtain ⟨fs, hr, hrun, hended, hW, hsame⟩ := X101.leave (v := some (.int (1 : Int32))) (fun h => by rw [Bd.returns] at h; cases h)
  refine ⟨_, _, pre0 _ ?_, hrun, hended, _, _, rfl, ?_, ⟨_, rfl⟩, hW, hsame.mono (by decide) (by decide)⟩
  · show Steps p.tables e below (s₁.setTop (mkF m 0 #[.val (.int p0), .unset, .unset, .unset, .unset, .unset] [])) _
    refine XS.iloadN X0.here hx rfl (hb hby at_0) rfl ?_
    show Steps p.tables e below (s₁.setTop (mkF m 1 #[.val (.int p0), .unset, .unset, .unset, .unset, .unset] [(.int p0)])) _
    refine XS.i2b X0.here hx rfl (hb hby at_1) rfl ?_
    show Steps p.tables e below (s₁.setTop (mkF m 2 #[.val (.int p0), .unset, .unset, .unset, .unset, .unset] [(.int (p0.toInt8.toInt32))])) _
    refine XS.istoreN X0.here hx rfl (hb hby at_2) rfl (l' := #[.val (.int p0), .val (.int (p0.toInt8.toInt32)), .unset, .unset, .unset, .unset]) rfl ?_
    show Steps p.tables e below (s₁.setTop (mkF m 3 #[.val (.int p0), .val (.int (p0.toInt8.toInt32)), .unset, .unset, .unset, .unset] [])) _
    refine X0.ldc2Long hx hown (mvT hZ (hw _ (List.mem_of_getElem? (i := 0) rfl))) (g := (mkF m 3 #[.val (.int p0), .val (.int (p0.toInt8.toInt32)), .unset, .unset, .unset, .unset] [])) rfl (hb hby at_3) _ ?_
    show Steps p.tables e below (s₁.setTop (mkF m 6 #[.val (.int p0), .val (.int (p0.toInt8.toInt32)), .unset, .unset, .unset, .unset] [(.long (13117168 : Int64))])) _
    refine XS.lstoreN X0.here hx rfl (hb hby at_6) rfl (l' := #[.val (.int p0), .val (.int (p0.toInt8.toInt32)), .val (.long (13117168 : Int64)), .second, .unset, .unset]) rfl ?_
    show Steps p.tables e below (s₁.setTop (mkF m 7 #[.val (.int p0), .val (.int (p0.toInt8.toInt32)), .val (.long (13117168 : Int64)), .second, .unset, .unset] [])) _
    refine XS.iloadN X0.here hx rfl (hb hby at_7) rfl ?_
    show Steps p.tables e below (s₁.setTop (mkF m 8 #[.val (.int p0), .val (.int (p0.toInt8.toInt32)), .val (.long (13117168 : Int64)), .second, .unset, .unset] [(.int (p0.toInt8.toInt32))])) _
    refine XS.istore X0.here hx rfl (hb hby at_8) rfl (l' := #[.val (.int p0), .val (.int (p0.toInt8.toInt32)), .val (.long (13117168 : Int64)), .second, .val (.int (p0.toInt8.toInt32)), .unset]) rfl ?_
    show Steps p.tables e below (s₁.setTop (mkF m 10 #[.val (.int p0), .val (.int (p0.toInt8.toInt32)), .val (.long (13117168 : Int64)), .second, .val (.int (p0.toInt8.toInt32)), .unset] [])) _
    refine XS.iload X0.here hx rfl (hb hby at_10) rfl ?_
    show Steps p.tables e below (s₁.setTop (mkF m 12 #[.val (.int p0), .val (.int (p0.toInt8.toInt32)), .val (.long (13117168 : Int64)), .second, .val (.int (p0.toInt8.toInt32)), .unset] [(.int (p0.toInt8.toInt32))])) _
    refine XS.ifNo X0.here hx rfl (hb hby at_12) rfl ((if0 _ _).trans (flt hb12).1) ?_
    show Steps p.tables e below (s₁.setTop (mkF m 15 #[.val (.int p0), .val (.int (p0.toInt8.toInt32)), .val (.long (13117168 : Int64)), .second, .val (.int (p0.toInt8.toInt32)), .unset] [])) _
    refine XS.iload X0.here hx rfl (hb hby at_15) rfl ?_
    show Steps p.tables e below (s₁.setTop (mkF m 17 #[.val (.int p0), .val (.int (p0.toInt8.toInt32)), .val (.long (13117168 : Int64)), .second, .val (.int (p0.toInt8.toInt32)), .unset] [(.int (p0.toInt8.toInt32))])) _
    refine XS.bipush X0.here hx rfl (hb hby at_17) ?_
    show Steps p.tables e below (s₁.setTop (mkF m 19 #[.val (.int p0), .val (.int (p0.toInt8.toInt32)), .val (.long (13117168 : Int64)), .second, .val (.int (p0.toInt8.toInt32)), .unset] [(.int (64 : Int32)), (.int (p0.toInt8.toInt32))])) _
    refine XS.icmpNo X0.here hx rfl (hb hby at_19) rfl (tlt hb19).2.1 ?_
    show Steps p.tables e below (s₁.setTop (mkF m 22 #[.val (.int p0), .val (.int (p0.toInt8.toInt32)), .val (.long (13117168 : Int64)), .second, .val (.int (p0.toInt8.toInt32)), .unset] [])) _
    refine XS.lloadN X0.here hx rfl (hb hby at_22) rfl ?_
    show Steps p.tables e below (s₁.setTop (mkF m 23 #[.val (.int p0), .val (.int (p0.toInt8.toInt32)), .val (.long (13117168 : Int64)), .second, .val (.int (p0.toInt8.toInt32)), .unset] [(.long (13117168 : Int64))])) _
    refine XS.iload X0.here hx rfl (hb hby at_23) rfl ?_
    show Steps p.tables e below (s₁.setTop (mkF m 25 #[.val (.int p0), .val (.int (p0.toInt8.toInt32)), .val (.long (13117168 : Int64)), .second, .val (.int (p0.toInt8.toInt32)), .unset] [(.int (p0.toInt8.toInt32)), (.long (13117168 : Int64))])) _
    refine XS.lushr X0.here hx rfl (hb hby at_25) rfl ?_
    show Steps p.tables e below (s₁.setTop (mkF m 26 #[.val (.int p0), .val (.int (p0.toInt8.toInt32)), .val (.long (13117168 : Int64)), .second, .val (.int (p0.toInt8.toInt32)), .unset] [(.long (((13117168 : Int64).toUInt64 >>> ((p0.toInt8.toInt32) &&& 0x3f).toInt64.toUInt64).toInt64))])) _
    refine XS.lconst X0.here hx rfl (hb hby at_26) ?_
    show Steps p.tables e below (s₁.setTop (mkF m 27 #[.val (.int p0), .val (.int (p0.toInt8.toInt32)), .val (.long (13117168 : Int64)), .second, .val (.int (p0.toInt8.toInt32)), .unset] [(.long (1 : Int64)), (.long (((13117168 : Int64).toUInt64 >>> ((p0.toInt8.toInt32) &&& 0x3f).toInt64.toUInt64).toInt64))])) _
    refine XS.land X0.here hx rfl (hb hby at_27) rfl ?_
    show Steps p.tables e below (s₁.setTop (mkF m 28 #[.val (.int p0), .val (.int (p0.toInt8.toInt32)), .val (.long (13117168 : Int64)), .second, .val (.int (p0.toInt8.toInt32)), .unset] [(.long ((((13117168 : Int64).toUInt64 >>> ((p0.toInt8.toInt32) &&& 0x3f).toInt64.toUInt64).toInt64) &&& (1 : Int64)))])) _
    refine XS.lconst X0.here hx rfl (hb hby at_28) ?_
    show Steps p.tables e below (s₁.setTop (mkF m 29 #[.val (.int p0), .val (.int (p0.toInt8.toInt32)), .val (.long (13117168 : Int64)), .second, .val (.int (p0.toInt8.toInt32)), .unset] [(.long (0 : Int64)), (.long ((((13117168 : Int64).toUInt64 >>> ((p0.toInt8.toInt32) &&& 0x3f).toInt64.toUInt64).toInt64) &&& (1 : Int64)))])) _
    refine XS.lcmp X0.here hx rfl (hb hby at_29) rfl ?_
    show Steps p.tables e below (s₁.setTop (mkF m 30 #[.val (.int p0), .val (.int (p0.toInt8.toInt32)), .val (.long (13117168 : Int64)), .second, .val (.int (p0.toInt8.toInt32)), .unset] [(.int (lcmpW ((((13117168 : Int64).toUInt64 >>> ((p0.toInt8.toInt32) &&& 0x3f).toInt64.toUInt64).toInt64) &&& (1 : Int64)) (0 : Int64)))])) _
    refine XS.ifYes X0.here hx rfl (pc0 := 30) (pc' := 37) rfl (hb hby at_30) rfl ((if0 _ _).trans (teq (own_lcEq hb30)).1) (by decide) (by decide) ?_
    show Steps p.tables e below (s₁.setTop (mkF m 37 #[.val (.int p0), .val (.int (p0.toInt8.toInt32)), .val (.long (13117168 : Int64)), .second, .val (.int (p0.toInt8.toInt32)), .unset] [])) _
    refine XS.iconst X0.here hx rfl (hb hby at_37) ?_
    show Steps p.tables e below (s₁.setTop (mkF m 38 #[.val (.int p0), .val (.int (p0.toInt8.toInt32)), .val (.long (13117168 : Int64)), .second, .val (.int (p0.toInt8.toInt32)), .unset] [(.int (0 : Int32))])) _
    refine XS.istore X0.here hx rfl (hb hby at_38) rfl (l' := #[.val (.int p0), .val (.int (p0.toInt8.toInt32)), .val (.long (13117168 : Int64)), .second, .val (.int (p0.toInt8.toInt32)), .val (.int (0 : Int32))]) rfl ?_
    show Steps p.tables e below (s₁.setTop (mkF m 40 #[.val (.int p0), .val (.int (p0.toInt8.toInt32)), .val (.long (13117168 : Int64)), .second, .val (.int (p0.toInt8.toInt32)), .val (.int (0 : Int32))] [])) _
    refine XS.iloadN X0.here hx rfl (hb hby at_40) rfl ?_
    show Steps p.tables e below (s₁.setTop (mkF m 41 #[.val (.int p0), .val (.int (p0.toInt8.toInt32)), .val (.long (13117168 : Int64)), .second, .val (.int (p0.toInt8.toInt32)), .val (.int (0 : Int32))] [(.int (p0.toInt8.toInt32))])) _
    refine st101 _ ?_
    show Steps p.tables e below (T101.setTop (mkF m 44 #[.val (.int p0), .val (.int (p0.toInt8.toInt32)), .val (.long (13117168 : Int64)), .second, .val (.int (p0.toInt8.toInt32)), .val (.int (0 : Int32))] [(.int (0 : Int32))])) _
    refine XS.iload X101.here hx rfl (hb hby at_44) rfl ?_
    show Steps p.tables e below (T101.setTop (mkF m 46 #[.val (.int p0), .val (.int (p0.toInt8.toInt32)), .val (.long (13117168 : Int64)), .second, .val (.int (p0.toInt8.toInt32)), .val (.int (0 : Int32))] [(.int (0 : Int32)), (.int (0 : Int32))])) _
    refine XS.icmpNo X101.here hx rfl (hb hby at_46) rfl (teq rfl).2 ?_
    show Steps p.tables e below (T101.setTop (mkF m 49 #[.val (.int p0), .val (.int (p0.toInt8.toInt32)), .val (.long (13117168 : Int64)), .second, .val (.int (p0.toInt8.toInt32)), .val (.int (0 : Int32))] [])) _
    refine XS.iconst X101.here hx rfl (hb hby at_49) ?_
    show Steps p.tables e below (T101.setTop (mkF m 50 #[.val (.int p0), .val (.int (p0.toInt8.toInt32)), .val (.long (13117168 : Int64)), .second, .val (.int (p0.toInt8.toInt32)), .val (.int (0 : Int32))] [(.int (1 : Int32))])) _
    refine XS.goto X101.here hx rfl (pc0 := 50) (pc' := 54) rfl (hb hby at_50) (by decide) (by decide) ?_
    show Steps p.tables e below (T101.setTop (mkF m 54 #[.val (.int p0), .val (.int (p0.toInt8.toInt32)), .val (.long (13117168 : Int64)), .second, .val (.int (p0.toInt8.toInt32)), .val (.int (0 : Int32))] [(.int (1 : Int32))])) _
    exact retN X101 hx (t := .boolean) Bd.returns (by simp) (hb hby at_54) hr
  · show QLaw n0 _ T101.heap _
    rw [e101]
    exact ⟨rfl, N101⟩
set_option maxRecDepth 65536 in
set_option maxHeartbeats 40000000 in
theorem rm0D (l : Launch) (Z : State) (a0 : Array Value) (hw : ∀ d ∈ tables_1, d.before a0 Z = true) (ws : List Jvm.Cond) (p0 : Int32) (h0 : Heap) (n0 : Nat) (Z0 : n0 ≤ h0.size) (hb12 : ¬ (p0.toInt8.toInt32) < (0 : Int32)) (hb19 : (p0.toInt8.toInt32) < (64 : Int32)) (hb30 : ((((13117168 : Int64).toUInt64 >>> ((p0.toInt8.toInt32) &&& 0x3f).toInt64.toUInt64).toInt64) &&& (1 : Int64)) = (0 : Int64)) (hg : ¬ ((p0.toInt8.toInt32).toInt < 4 ∨ (p0.toInt8.toInt32).toInt > 23) ∧ own_offs[((p0.toInt8.toInt32).toInt - 4).toNat]? = some 99) :
    MetFree l x (head1 (Jvm.Cond.code x code maxLocals ret :: ws) room_1) (fun a U => a = #[(.int p0)] ∧ Z.Warmed39 U.vm ∧ U.heap = h0) (fun _ _ _ _ _ => True) (fun _ U o U' => ∃ v L, o = .returned v ∧ QLaw n0 v U'.heap L ∧ FrameEnd U o U' L room_1.cells room_1.slots) := by
  refine MetFree.of_bodySF (plainFor_of_name own_pn1) hisR ?_
  intro p e s m args below meth c s₁ Bd hml0 hP hK
  obtain ⟨rfl, hZ, hh⟩ := hP
  have hx := Bd.exec
  have hby := Bd.bytes
  have hml : c.maxLocals = 6 := hml0
  have hown : s.vm.findClass "com/example/sorted_map_store/sortedmapstore/client/ProtocolGrowsWithTablePinLaw" = some m.cls := findClass_of_methodNamed Bd.named
  have hnm := (name_of_methodNamed Bd.named Bd.method).1
  have X0 : Stand p l e room_1 s m #[(.int p0)] below meth c s₁ [] 0 0 := Stand.of_body Bd
  have e0 : s₁.heap = h0 := by rw [← hh, Bd.state]; rfl
  have N0 := Fr.nil n0
  have ef : entryFrame m #[(.int p0)] maxLocals = mkF m 0 #[.val (.int p0), .unset, .unset, .unset, .unset, .unset] [] := by first | (simp [entryFrame, mkF, argsToLocals, Value.category, maxLocals]; done) | rfl
  have pre0 : ∀ t, Steps p.tables e below (s₁.setTop (mkF m 0 #[.val (.int p0), .unset, .unset, .unset, .unset, .unset] [])) t → Steps p.tables e below (s₁.setTop (entryFrame m #[(.int p0)] maxLocals)) t := fun t k => castTop ef k
  obtain ⟨_, _, ⟨T101, L101, k101, n101⟩, -, X101, ⟨Lc101, hQ101, l101, y101, z101⟩, st101⟩ := Jvm.LawKit.callS X0 hx (y := (⟨"com/example/sorted_map_store/sortedmapstore/client/Protocol", "growsWithTable", "(B)Z"⟩ : MethodName)) hown (mvT hZ (hw _ (List.mem_of_getElem? (i := 1) rfl))) (mvT hZ (hw _ (List.mem_of_getElem? (i := 2) rfl))) (mvT hZ (hw _ (List.mem_of_getElem? (i := 3) rfl))) (mvT hZ (hw _ (List.mem_of_getElem? (i := 4) rfl))) (by decide) (backOf (W := 0) (rmGN l Z a0 hw [] (p0.toInt8.toInt32) h0 n0 Z0 hg.1 hg.2) hZ (hw _ (List.mem_of_getElem? (i := 4) rfl)) (hw _ (List.mem_of_getElem? (i := 3) rfl)) (by decide) (by decide)) (g := (mkF m 41 #[.val (.int p0), .val (.int (p0.toInt8.toInt32)), .val (.long (13117168 : Int64)), .second, .val (.int (p0.toInt8.toInt32)), .val (.int (0 : Int32))] [(.int (p0.toInt8.toInt32))])) rfl (by rw [hml]; rfl) (argsL := [(.int (p0.toInt8.toInt32))]) (rest := []) (lenOf own_pd0 rfl) rfl (by show 2 * 0 + _ ≤ _; exact Nat.le_of_eq rfl) (hb hby at_41) (fun _ _ => ⟨rfl, e0, (by decide : 0 + 0 ≤ _), (by decide : 0 + 0 ≤ _)⟩)
  dsimp only [Pt.U, Pt.locs, Pt.cells, Pt.slots] at X101 l101 y101 z101 st101 hQ101
  subst l101 y101 z101
  obtain ⟨rfl, Nq101, e101⟩ := hQ101
  have N101 := Fr.app N0 Nq101
  obtain ⟨fs, hr, hrun, hended, hW, hsame⟩ := X101.leave (v := some (.int (1 : Int32))) (fun h => by rw [Bd.returns] at h; cases h)
  refine ⟨_, _, pre0 _ ?_, hrun, hended, _, _, rfl, ?_, ⟨_, rfl⟩, hW, hsame.mono (by decide) (by decide)⟩
  · show Steps p.tables e below (s₁.setTop (mkF m 0 #[.val (.int p0), .unset, .unset, .unset, .unset, .unset] [])) _
    refine XS.iloadN X0.here hx rfl (hb hby at_0) rfl ?_
    show Steps p.tables e below (s₁.setTop (mkF m 1 #[.val (.int p0), .unset, .unset, .unset, .unset, .unset] [(.int p0)])) _
    refine XS.i2b X0.here hx rfl (hb hby at_1) rfl ?_
    show Steps p.tables e below (s₁.setTop (mkF m 2 #[.val (.int p0), .unset, .unset, .unset, .unset, .unset] [(.int (p0.toInt8.toInt32))])) _
    refine XS.istoreN X0.here hx rfl (hb hby at_2) rfl (l' := #[.val (.int p0), .val (.int (p0.toInt8.toInt32)), .unset, .unset, .unset, .unset]) rfl ?_
    show Steps p.tables e below (s₁.setTop (mkF m 3 #[.val (.int p0), .val (.int (p0.toInt8.toInt32)), .unset, .unset, .unset, .unset] [])) _
    refine X0.ldc2Long hx hown (mvT hZ (hw _ (List.mem_of_getElem? (i := 0) rfl))) (g := (mkF m 3 #[.val (.int p0), .val (.int (p0.toInt8.toInt32)), .unset, .unset, .unset, .unset] [])) rfl (hb hby at_3) _ ?_
    show Steps p.tables e below (s₁.setTop (mkF m 6 #[.val (.int p0), .val (.int (p0.toInt8.toInt32)), .unset, .unset, .unset, .unset] [(.long (13117168 : Int64))])) _
    refine XS.lstoreN X0.here hx rfl (hb hby at_6) rfl (l' := #[.val (.int p0), .val (.int (p0.toInt8.toInt32)), .val (.long (13117168 : Int64)), .second, .unset, .unset]) rfl ?_
    show Steps p.tables e below (s₁.setTop (mkF m 7 #[.val (.int p0), .val (.int (p0.toInt8.toInt32)), .val (.long (13117168 : Int64)), .second, .unset, .unset] [])) _
    refine XS.iloadN X0.here hx rfl (hb hby at_7) rfl ?_
    show Steps p.tables e below (s₁.setTop (mkF m 8 #[.val (.int p0), .val (.int (p0.toInt8.toInt32)), .val (.long (13117168 : Int64)), .second, .unset, .unset] [(.int (p0.toInt8.toInt32))])) _
    refine XS.istore X0.here hx rfl (hb hby at_8) rfl (l' := #[.val (.int p0), .val (.int (p0.toInt8.toInt32)), .val (.long (13117168 : Int64)), .second, .val (.int (p0.toInt8.toInt32)), .unset]) rfl ?_
    show Steps p.tables e below (s₁.setTop (mkF m 10 #[.val (.int p0), .val (.int (p0.toInt8.toInt32)), .val (.long (13117168 : Int64)), .second, .val (.int (p0.toInt8.toInt32)), .unset] [])) _
    refine XS.iload X0.here hx rfl (hb hby at_10) rfl ?_
    show Steps p.tables e below (s₁.setTop (mkF m 12 #[.val (.int p0), .val (.int (p0.toInt8.toInt32)), .val (.long (13117168 : Int64)), .second, .val (.int (p0.toInt8.toInt32)), .unset] [(.int (p0.toInt8.toInt32))])) _
    refine XS.ifNo X0.here hx rfl (hb hby at_12) rfl ((if0 _ _).trans (flt hb12).1) ?_
    show Steps p.tables e below (s₁.setTop (mkF m 15 #[.val (.int p0), .val (.int (p0.toInt8.toInt32)), .val (.long (13117168 : Int64)), .second, .val (.int (p0.toInt8.toInt32)), .unset] [])) _
    refine XS.iload X0.here hx rfl (hb hby at_15) rfl ?_
    show Steps p.tables e below (s₁.setTop (mkF m 17 #[.val (.int p0), .val (.int (p0.toInt8.toInt32)), .val (.long (13117168 : Int64)), .second, .val (.int (p0.toInt8.toInt32)), .unset] [(.int (p0.toInt8.toInt32))])) _
    refine XS.bipush X0.here hx rfl (hb hby at_17) ?_
    show Steps p.tables e below (s₁.setTop (mkF m 19 #[.val (.int p0), .val (.int (p0.toInt8.toInt32)), .val (.long (13117168 : Int64)), .second, .val (.int (p0.toInt8.toInt32)), .unset] [(.int (64 : Int32)), (.int (p0.toInt8.toInt32))])) _
    refine XS.icmpNo X0.here hx rfl (hb hby at_19) rfl (tlt hb19).2.1 ?_
    show Steps p.tables e below (s₁.setTop (mkF m 22 #[.val (.int p0), .val (.int (p0.toInt8.toInt32)), .val (.long (13117168 : Int64)), .second, .val (.int (p0.toInt8.toInt32)), .unset] [])) _
    refine XS.lloadN X0.here hx rfl (hb hby at_22) rfl ?_
    show Steps p.tables e below (s₁.setTop (mkF m 23 #[.val (.int p0), .val (.int (p0.toInt8.toInt32)), .val (.long (13117168 : Int64)), .second, .val (.int (p0.toInt8.toInt32)), .unset] [(.long (13117168 : Int64))])) _
    refine XS.iload X0.here hx rfl (hb hby at_23) rfl ?_
    show Steps p.tables e below (s₁.setTop (mkF m 25 #[.val (.int p0), .val (.int (p0.toInt8.toInt32)), .val (.long (13117168 : Int64)), .second, .val (.int (p0.toInt8.toInt32)), .unset] [(.int (p0.toInt8.toInt32)), (.long (13117168 : Int64))])) _
    refine XS.lushr X0.here hx rfl (hb hby at_25) rfl ?_
    show Steps p.tables e below (s₁.setTop (mkF m 26 #[.val (.int p0), .val (.int (p0.toInt8.toInt32)), .val (.long (13117168 : Int64)), .second, .val (.int (p0.toInt8.toInt32)), .unset] [(.long (((13117168 : Int64).toUInt64 >>> ((p0.toInt8.toInt32) &&& 0x3f).toInt64.toUInt64).toInt64))])) _
    refine XS.lconst X0.here hx rfl (hb hby at_26) ?_
    show Steps p.tables e below (s₁.setTop (mkF m 27 #[.val (.int p0), .val (.int (p0.toInt8.toInt32)), .val (.long (13117168 : Int64)), .second, .val (.int (p0.toInt8.toInt32)), .unset] [(.long (1 : Int64)), (.long (((13117168 : Int64).toUInt64 >>> ((p0.toInt8.toInt32) &&& 0x3f).toInt64.toUInt64).toInt64))])) _
    refine XS.land X0.here hx rfl (hb hby at_27) rfl ?_
    show Steps p.tables e below (s₁.setTop (mkF m 28 #[.val (.int p0), .val (.int (p0.toInt8.toInt32)), .val (.long (13117168 : Int64)), .second, .val (.int (p0.toInt8.toInt32)), .unset] [(.long ((((13117168 : Int64).toUInt64 >>> ((p0.toInt8.toInt32) &&& 0x3f).toInt64.toUInt64).toInt64) &&& (1 : Int64)))])) _
    refine XS.lconst X0.here hx rfl (hb hby at_28) ?_
    show Steps p.tables e below (s₁.setTop (mkF m 29 #[.val (.int p0), .val (.int (p0.toInt8.toInt32)), .val (.long (13117168 : Int64)), .second, .val (.int (p0.toInt8.toInt32)), .unset] [(.long (0 : Int64)), (.long ((((13117168 : Int64).toUInt64 >>> ((p0.toInt8.toInt32) &&& 0x3f).toInt64.toUInt64).toInt64) &&& (1 : Int64)))])) _
    refine XS.lcmp X0.here hx rfl (hb hby at_29) rfl ?_
    show Steps p.tables e below (s₁.setTop (mkF m 30 #[.val (.int p0), .val (.int (p0.toInt8.toInt32)), .val (.long (13117168 : Int64)), .second, .val (.int (p0.toInt8.toInt32)), .unset] [(.int (lcmpW ((((13117168 : Int64).toUInt64 >>> ((p0.toInt8.toInt32) &&& 0x3f).toInt64.toUInt64).toInt64) &&& (1 : Int64)) (0 : Int64)))])) _
    refine XS.ifYes X0.here hx rfl (pc0 := 30) (pc' := 37) rfl (hb hby at_30) rfl ((if0 _ _).trans (teq (own_lcEq hb30)).1) (by decide) (by decide) ?_
    show Steps p.tables e below (s₁.setTop (mkF m 37 #[.val (.int p0), .val (.int (p0.toInt8.toInt32)), .val (.long (13117168 : Int64)), .second, .val (.int (p0.toInt8.toInt32)), .unset] [])) _
    refine XS.iconst X0.here hx rfl (hb hby at_37) ?_
    show Steps p.tables e below (s₁.setTop (mkF m 38 #[.val (.int p0), .val (.int (p0.toInt8.toInt32)), .val (.long (13117168 : Int64)), .second, .val (.int (p0.toInt8.toInt32)), .unset] [(.int (0 : Int32))])) _
    refine XS.istore X0.here hx rfl (hb hby at_38) rfl (l' := #[.val (.int p0), .val (.int (p0.toInt8.toInt32)), .val (.long (13117168 : Int64)), .second, .val (.int (p0.toInt8.toInt32)), .val (.int (0 : Int32))]) rfl ?_
    show Steps p.tables e below (s₁.setTop (mkF m 40 #[.val (.int p0), .val (.int (p0.toInt8.toInt32)), .val (.long (13117168 : Int64)), .second, .val (.int (p0.toInt8.toInt32)), .val (.int (0 : Int32))] [])) _
    refine XS.iloadN X0.here hx rfl (hb hby at_40) rfl ?_
    show Steps p.tables e below (s₁.setTop (mkF m 41 #[.val (.int p0), .val (.int (p0.toInt8.toInt32)), .val (.long (13117168 : Int64)), .second, .val (.int (p0.toInt8.toInt32)), .val (.int (0 : Int32))] [(.int (p0.toInt8.toInt32))])) _
    refine st101 _ ?_
    show Steps p.tables e below (T101.setTop (mkF m 44 #[.val (.int p0), .val (.int (p0.toInt8.toInt32)), .val (.long (13117168 : Int64)), .second, .val (.int (p0.toInt8.toInt32)), .val (.int (0 : Int32))] [(.int (0 : Int32))])) _
    refine XS.iload X101.here hx rfl (hb hby at_44) rfl ?_
    show Steps p.tables e below (T101.setTop (mkF m 46 #[.val (.int p0), .val (.int (p0.toInt8.toInt32)), .val (.long (13117168 : Int64)), .second, .val (.int (p0.toInt8.toInt32)), .val (.int (0 : Int32))] [(.int (0 : Int32)), (.int (0 : Int32))])) _
    refine XS.icmpNo X101.here hx rfl (hb hby at_46) rfl (teq rfl).2 ?_
    show Steps p.tables e below (T101.setTop (mkF m 49 #[.val (.int p0), .val (.int (p0.toInt8.toInt32)), .val (.long (13117168 : Int64)), .second, .val (.int (p0.toInt8.toInt32)), .val (.int (0 : Int32))] [])) _
    refine XS.iconst X101.here hx rfl (hb hby at_49) ?_
    show Steps p.tables e below (T101.setTop (mkF m 50 #[.val (.int p0), .val (.int (p0.toInt8.toInt32)), .val (.long (13117168 : Int64)), .second, .val (.int (p0.toInt8.toInt32)), .val (.int (0 : Int32))] [(.int (1 : Int32))])) _
    refine XS.goto X101.here hx rfl (pc0 := 50) (pc' := 54) rfl (hb hby at_50) (by decide) (by decide) ?_
    show Steps p.tables e below (T101.setTop (mkF m 54 #[.val (.int p0), .val (.int (p0.toInt8.toInt32)), .val (.long (13117168 : Int64)), .second, .val (.int (p0.toInt8.toInt32)), .val (.int (0 : Int32))] [(.int (1 : Int32))])) _
    exact retN X101 hx (t := .boolean) Bd.returns (by simp) (hb hby at_54) hr
  · show QLaw n0 _ T101.heap _
    rw [e101]
    exact ⟨rfl, N101⟩
set_option maxRecDepth 65536 in
set_option maxHeartbeats 40000000 in
theorem rm0E (l : Launch) (Z : State) (a0 : Array Value) (hw : ∀ d ∈ tables_1, d.before a0 Z = true) (ws : List Jvm.Cond) (p0 : Int32) (h0 : Heap) (n0 : Nat) (Z0 : n0 ≤ h0.size) (hb12 : ¬ (p0.toInt8.toInt32) < (0 : Int32)) (hb19 : (p0.toInt8.toInt32) < (64 : Int32)) (hb30 : ¬ ((((13117168 : Int64).toUInt64 >>> ((p0.toInt8.toInt32) &&& 0x3f).toInt64.toUInt64).toInt64) &&& (1 : Int64)) = (0 : Int64)) (hg : ¬ ((p0.toInt8.toInt32).toInt < 4 ∨ (p0.toInt8.toInt32).toInt > 23) ∧ own_offs[((p0.toInt8.toInt32).toInt - 4).toNat]? = some 95) :
    MetFree l x (head1 (Jvm.Cond.code x code maxLocals ret :: ws) room_1) (fun a U => a = #[(.int p0)] ∧ Z.Warmed39 U.vm ∧ U.heap = h0) (fun _ _ _ _ _ => True) (fun _ U o U' => ∃ v L, o = .returned v ∧ QLaw n0 v U'.heap L ∧ FrameEnd U o U' L room_1.cells room_1.slots) := by
  refine MetFree.of_bodySF (plainFor_of_name own_pn1) hisR ?_
  intro p e s m args below meth c s₁ Bd hml0 hP hK
  obtain ⟨rfl, hZ, hh⟩ := hP
  have hx := Bd.exec
  have hby := Bd.bytes
  have hml : c.maxLocals = 6 := hml0
  have hown : s.vm.findClass "com/example/sorted_map_store/sortedmapstore/client/ProtocolGrowsWithTablePinLaw" = some m.cls := findClass_of_methodNamed Bd.named
  have hnm := (name_of_methodNamed Bd.named Bd.method).1
  have X0 : Stand p l e room_1 s m #[(.int p0)] below meth c s₁ [] 0 0 := Stand.of_body Bd
  have e0 : s₁.heap = h0 := by rw [← hh, Bd.state]; rfl
  have N0 := Fr.nil n0
  have ef : entryFrame m #[(.int p0)] maxLocals = mkF m 0 #[.val (.int p0), .unset, .unset, .unset, .unset, .unset] [] := by first | (simp [entryFrame, mkF, argsToLocals, Value.category, maxLocals]; done) | rfl
  have pre0 : ∀ t, Steps p.tables e below (s₁.setTop (mkF m 0 #[.val (.int p0), .unset, .unset, .unset, .unset, .unset] [])) t → Steps p.tables e below (s₁.setTop (entryFrame m #[(.int p0)] maxLocals)) t := fun t k => castTop ef k
  obtain ⟨_, _, ⟨T101, L101, k101, n101⟩, -, X101, ⟨Lc101, hQ101, l101, y101, z101⟩, st101⟩ := Jvm.LawKit.callS X0 hx (y := (⟨"com/example/sorted_map_store/sortedmapstore/client/Protocol", "growsWithTable", "(B)Z"⟩ : MethodName)) hown (mvT hZ (hw _ (List.mem_of_getElem? (i := 1) rfl))) (mvT hZ (hw _ (List.mem_of_getElem? (i := 2) rfl))) (mvT hZ (hw _ (List.mem_of_getElem? (i := 3) rfl))) (mvT hZ (hw _ (List.mem_of_getElem? (i := 4) rfl))) (by decide) (backOf (W := 0) (rmGY l Z a0 hw [] (p0.toInt8.toInt32) h0 n0 Z0 hg.1 hg.2) hZ (hw _ (List.mem_of_getElem? (i := 4) rfl)) (hw _ (List.mem_of_getElem? (i := 3) rfl)) (by decide) (by decide)) (g := (mkF m 41 #[.val (.int p0), .val (.int (p0.toInt8.toInt32)), .val (.long (13117168 : Int64)), .second, .val (.int (p0.toInt8.toInt32)), .val (.int (1 : Int32))] [(.int (p0.toInt8.toInt32))])) rfl (by rw [hml]; rfl) (argsL := [(.int (p0.toInt8.toInt32))]) (rest := []) (lenOf own_pd0 rfl) rfl (by show 2 * 0 + _ ≤ _; exact Nat.le_of_eq rfl) (hb hby at_41) (fun _ _ => ⟨rfl, e0, (by decide : 0 + 0 ≤ _), (by decide : 0 + 0 ≤ _)⟩)
  dsimp only [Pt.U, Pt.locs, Pt.cells, Pt.slots] at X101 l101 y101 z101 st101 hQ101
  subst l101 y101 z101
  obtain ⟨rfl, Nq101, e101⟩ := hQ101
  have N101 := Fr.app N0 Nq101
  obtain ⟨fs, hr, hrun, hended, hW, hsame⟩ := X101.leave (v := some (.int (1 : Int32))) (fun h => by rw [Bd.returns] at h; cases h)
  refine ⟨_, _, pre0 _ ?_, hrun, hended, _, _, rfl, ?_, ⟨_, rfl⟩, hW, hsame.mono (by decide) (by decide)⟩
  · show Steps p.tables e below (s₁.setTop (mkF m 0 #[.val (.int p0), .unset, .unset, .unset, .unset, .unset] [])) _
    refine XS.iloadN X0.here hx rfl (hb hby at_0) rfl ?_
    show Steps p.tables e below (s₁.setTop (mkF m 1 #[.val (.int p0), .unset, .unset, .unset, .unset, .unset] [(.int p0)])) _
    refine XS.i2b X0.here hx rfl (hb hby at_1) rfl ?_
    show Steps p.tables e below (s₁.setTop (mkF m 2 #[.val (.int p0), .unset, .unset, .unset, .unset, .unset] [(.int (p0.toInt8.toInt32))])) _
    refine XS.istoreN X0.here hx rfl (hb hby at_2) rfl (l' := #[.val (.int p0), .val (.int (p0.toInt8.toInt32)), .unset, .unset, .unset, .unset]) rfl ?_
    show Steps p.tables e below (s₁.setTop (mkF m 3 #[.val (.int p0), .val (.int (p0.toInt8.toInt32)), .unset, .unset, .unset, .unset] [])) _
    refine X0.ldc2Long hx hown (mvT hZ (hw _ (List.mem_of_getElem? (i := 0) rfl))) (g := (mkF m 3 #[.val (.int p0), .val (.int (p0.toInt8.toInt32)), .unset, .unset, .unset, .unset] [])) rfl (hb hby at_3) _ ?_
    show Steps p.tables e below (s₁.setTop (mkF m 6 #[.val (.int p0), .val (.int (p0.toInt8.toInt32)), .unset, .unset, .unset, .unset] [(.long (13117168 : Int64))])) _
    refine XS.lstoreN X0.here hx rfl (hb hby at_6) rfl (l' := #[.val (.int p0), .val (.int (p0.toInt8.toInt32)), .val (.long (13117168 : Int64)), .second, .unset, .unset]) rfl ?_
    show Steps p.tables e below (s₁.setTop (mkF m 7 #[.val (.int p0), .val (.int (p0.toInt8.toInt32)), .val (.long (13117168 : Int64)), .second, .unset, .unset] [])) _
    refine XS.iloadN X0.here hx rfl (hb hby at_7) rfl ?_
    show Steps p.tables e below (s₁.setTop (mkF m 8 #[.val (.int p0), .val (.int (p0.toInt8.toInt32)), .val (.long (13117168 : Int64)), .second, .unset, .unset] [(.int (p0.toInt8.toInt32))])) _
    refine XS.istore X0.here hx rfl (hb hby at_8) rfl (l' := #[.val (.int p0), .val (.int (p0.toInt8.toInt32)), .val (.long (13117168 : Int64)), .second, .val (.int (p0.toInt8.toInt32)), .unset]) rfl ?_
    show Steps p.tables e below (s₁.setTop (mkF m 10 #[.val (.int p0), .val (.int (p0.toInt8.toInt32)), .val (.long (13117168 : Int64)), .second, .val (.int (p0.toInt8.toInt32)), .unset] [])) _
    refine XS.iload X0.here hx rfl (hb hby at_10) rfl ?_
    show Steps p.tables e below (s₁.setTop (mkF m 12 #[.val (.int p0), .val (.int (p0.toInt8.toInt32)), .val (.long (13117168 : Int64)), .second, .val (.int (p0.toInt8.toInt32)), .unset] [(.int (p0.toInt8.toInt32))])) _
    refine XS.ifNo X0.here hx rfl (hb hby at_12) rfl ((if0 _ _).trans (flt hb12).1) ?_
    show Steps p.tables e below (s₁.setTop (mkF m 15 #[.val (.int p0), .val (.int (p0.toInt8.toInt32)), .val (.long (13117168 : Int64)), .second, .val (.int (p0.toInt8.toInt32)), .unset] [])) _
    refine XS.iload X0.here hx rfl (hb hby at_15) rfl ?_
    show Steps p.tables e below (s₁.setTop (mkF m 17 #[.val (.int p0), .val (.int (p0.toInt8.toInt32)), .val (.long (13117168 : Int64)), .second, .val (.int (p0.toInt8.toInt32)), .unset] [(.int (p0.toInt8.toInt32))])) _
    refine XS.bipush X0.here hx rfl (hb hby at_17) ?_
    show Steps p.tables e below (s₁.setTop (mkF m 19 #[.val (.int p0), .val (.int (p0.toInt8.toInt32)), .val (.long (13117168 : Int64)), .second, .val (.int (p0.toInt8.toInt32)), .unset] [(.int (64 : Int32)), (.int (p0.toInt8.toInt32))])) _
    refine XS.icmpNo X0.here hx rfl (hb hby at_19) rfl (tlt hb19).2.1 ?_
    show Steps p.tables e below (s₁.setTop (mkF m 22 #[.val (.int p0), .val (.int (p0.toInt8.toInt32)), .val (.long (13117168 : Int64)), .second, .val (.int (p0.toInt8.toInt32)), .unset] [])) _
    refine XS.lloadN X0.here hx rfl (hb hby at_22) rfl ?_
    show Steps p.tables e below (s₁.setTop (mkF m 23 #[.val (.int p0), .val (.int (p0.toInt8.toInt32)), .val (.long (13117168 : Int64)), .second, .val (.int (p0.toInt8.toInt32)), .unset] [(.long (13117168 : Int64))])) _
    refine XS.iload X0.here hx rfl (hb hby at_23) rfl ?_
    show Steps p.tables e below (s₁.setTop (mkF m 25 #[.val (.int p0), .val (.int (p0.toInt8.toInt32)), .val (.long (13117168 : Int64)), .second, .val (.int (p0.toInt8.toInt32)), .unset] [(.int (p0.toInt8.toInt32)), (.long (13117168 : Int64))])) _
    refine XS.lushr X0.here hx rfl (hb hby at_25) rfl ?_
    show Steps p.tables e below (s₁.setTop (mkF m 26 #[.val (.int p0), .val (.int (p0.toInt8.toInt32)), .val (.long (13117168 : Int64)), .second, .val (.int (p0.toInt8.toInt32)), .unset] [(.long (((13117168 : Int64).toUInt64 >>> ((p0.toInt8.toInt32) &&& 0x3f).toInt64.toUInt64).toInt64))])) _
    refine XS.lconst X0.here hx rfl (hb hby at_26) ?_
    show Steps p.tables e below (s₁.setTop (mkF m 27 #[.val (.int p0), .val (.int (p0.toInt8.toInt32)), .val (.long (13117168 : Int64)), .second, .val (.int (p0.toInt8.toInt32)), .unset] [(.long (1 : Int64)), (.long (((13117168 : Int64).toUInt64 >>> ((p0.toInt8.toInt32) &&& 0x3f).toInt64.toUInt64).toInt64))])) _
    refine XS.land X0.here hx rfl (hb hby at_27) rfl ?_
    show Steps p.tables e below (s₁.setTop (mkF m 28 #[.val (.int p0), .val (.int (p0.toInt8.toInt32)), .val (.long (13117168 : Int64)), .second, .val (.int (p0.toInt8.toInt32)), .unset] [(.long ((((13117168 : Int64).toUInt64 >>> ((p0.toInt8.toInt32) &&& 0x3f).toInt64.toUInt64).toInt64) &&& (1 : Int64)))])) _
    refine XS.lconst X0.here hx rfl (hb hby at_28) ?_
    show Steps p.tables e below (s₁.setTop (mkF m 29 #[.val (.int p0), .val (.int (p0.toInt8.toInt32)), .val (.long (13117168 : Int64)), .second, .val (.int (p0.toInt8.toInt32)), .unset] [(.long (0 : Int64)), (.long ((((13117168 : Int64).toUInt64 >>> ((p0.toInt8.toInt32) &&& 0x3f).toInt64.toUInt64).toInt64) &&& (1 : Int64)))])) _
    refine XS.lcmp X0.here hx rfl (hb hby at_29) rfl ?_
    show Steps p.tables e below (s₁.setTop (mkF m 30 #[.val (.int p0), .val (.int (p0.toInt8.toInt32)), .val (.long (13117168 : Int64)), .second, .val (.int (p0.toInt8.toInt32)), .unset] [(.int (lcmpW ((((13117168 : Int64).toUInt64 >>> ((p0.toInt8.toInt32) &&& 0x3f).toInt64.toUInt64).toInt64) &&& (1 : Int64)) (0 : Int64)))])) _
    refine XS.ifNo X0.here hx rfl (hb hby at_30) rfl ((if0 _ _).trans (feq (own_lcNe hb30)).1) ?_
    show Steps p.tables e below (s₁.setTop (mkF m 33 #[.val (.int p0), .val (.int (p0.toInt8.toInt32)), .val (.long (13117168 : Int64)), .second, .val (.int (p0.toInt8.toInt32)), .unset] [])) _
    refine XS.iconst X0.here hx rfl (hb hby at_33) ?_
    show Steps p.tables e below (s₁.setTop (mkF m 34 #[.val (.int p0), .val (.int (p0.toInt8.toInt32)), .val (.long (13117168 : Int64)), .second, .val (.int (p0.toInt8.toInt32)), .unset] [(.int (1 : Int32))])) _
    refine XS.goto X0.here hx rfl (pc0 := 34) (pc' := 38) rfl (hb hby at_34) (by decide) (by decide) ?_
    show Steps p.tables e below (s₁.setTop (mkF m 38 #[.val (.int p0), .val (.int (p0.toInt8.toInt32)), .val (.long (13117168 : Int64)), .second, .val (.int (p0.toInt8.toInt32)), .unset] [(.int (1 : Int32))])) _
    refine XS.istore X0.here hx rfl (hb hby at_38) rfl (l' := #[.val (.int p0), .val (.int (p0.toInt8.toInt32)), .val (.long (13117168 : Int64)), .second, .val (.int (p0.toInt8.toInt32)), .val (.int (1 : Int32))]) rfl ?_
    show Steps p.tables e below (s₁.setTop (mkF m 40 #[.val (.int p0), .val (.int (p0.toInt8.toInt32)), .val (.long (13117168 : Int64)), .second, .val (.int (p0.toInt8.toInt32)), .val (.int (1 : Int32))] [])) _
    refine XS.iloadN X0.here hx rfl (hb hby at_40) rfl ?_
    show Steps p.tables e below (s₁.setTop (mkF m 41 #[.val (.int p0), .val (.int (p0.toInt8.toInt32)), .val (.long (13117168 : Int64)), .second, .val (.int (p0.toInt8.toInt32)), .val (.int (1 : Int32))] [(.int (p0.toInt8.toInt32))])) _
    refine st101 _ ?_
    show Steps p.tables e below (T101.setTop (mkF m 44 #[.val (.int p0), .val (.int (p0.toInt8.toInt32)), .val (.long (13117168 : Int64)), .second, .val (.int (p0.toInt8.toInt32)), .val (.int (1 : Int32))] [(.int (1 : Int32))])) _
    refine XS.iload X101.here hx rfl (hb hby at_44) rfl ?_
    show Steps p.tables e below (T101.setTop (mkF m 46 #[.val (.int p0), .val (.int (p0.toInt8.toInt32)), .val (.long (13117168 : Int64)), .second, .val (.int (p0.toInt8.toInt32)), .val (.int (1 : Int32))] [(.int (1 : Int32)), (.int (1 : Int32))])) _
    refine XS.icmpNo X101.here hx rfl (hb hby at_46) rfl (teq rfl).2 ?_
    show Steps p.tables e below (T101.setTop (mkF m 49 #[.val (.int p0), .val (.int (p0.toInt8.toInt32)), .val (.long (13117168 : Int64)), .second, .val (.int (p0.toInt8.toInt32)), .val (.int (1 : Int32))] [])) _
    refine XS.iconst X101.here hx rfl (hb hby at_49) ?_
    show Steps p.tables e below (T101.setTop (mkF m 50 #[.val (.int p0), .val (.int (p0.toInt8.toInt32)), .val (.long (13117168 : Int64)), .second, .val (.int (p0.toInt8.toInt32)), .val (.int (1 : Int32))] [(.int (1 : Int32))])) _
    refine XS.goto X101.here hx rfl (pc0 := 50) (pc' := 54) rfl (hb hby at_50) (by decide) (by decide) ?_
    show Steps p.tables e below (T101.setTop (mkF m 54 #[.val (.int p0), .val (.int (p0.toInt8.toInt32)), .val (.long (13117168 : Int64)), .second, .val (.int (p0.toInt8.toInt32)), .val (.int (1 : Int32))] [(.int (1 : Int32))])) _
    exact retN X101 hx (t := .boolean) Bd.returns (by simp) (hb hby at_54) hr
  · show QLaw n0 _ T101.heap _
    rw [e101]
    exact ⟨rfl, N101⟩
theorem own_cases (u : Int32) : ((u < (0 : Int32)) ∧ (u.toInt < 4 ∨ u.toInt > 23)) ∨ ((¬ u < (0 : Int32)) ∧ (¬ u < (64 : Int32)) ∧ (u.toInt < 4 ∨ u.toInt > 23)) ∨ ((¬ u < (0 : Int32)) ∧ (u < (64 : Int32)) ∧ (((((13117168 : Int64).toUInt64 >>> (u &&& 0x3f).toInt64.toUInt64).toInt64) &&& (1 : Int64)) = (0 : Int64)) ∧ (u.toInt < 4 ∨ u.toInt > 23)) ∨ ((¬ u < (0 : Int32)) ∧ (u < (64 : Int32)) ∧ (((((13117168 : Int64).toUInt64 >>> (u &&& 0x3f).toInt64.toUInt64).toInt64) &&& (1 : Int64)) = (0 : Int64)) ∧ (¬ (u.toInt < 4 ∨ u.toInt > 23) ∧ own_offs[(u.toInt - 4).toNat]? = some 99)) ∨ ((¬ u < (0 : Int32)) ∧ (u < (64 : Int32)) ∧ (¬ ((((13117168 : Int64).toUInt64 >>> (u &&& 0x3f).toInt64.toUInt64).toInt64) &&& (1 : Int64)) = (0 : Int64)) ∧ (¬ (u.toInt < 4 ∨ u.toInt > 23) ∧ own_offs[(u.toInt - 4).toNat]? = some 95)) := by
  have e0 : (0 : Int32).toInt = 0 := rfl
  have e64 : (64 : Int32).toInt = 64 := rfl
  by_cases h1 : u < (0 : Int32)
  · refine Or.inl ⟨h1, Or.inl ?_⟩
    rw [Int32.lt_iff_toInt_lt] at h1; omega
  · by_cases h2 : u < (64 : Int32)
    · have key : ∀ n : Fin 64, ((((((13117168 : Int64).toUInt64 >>> ((Int32.ofNat n.1) &&& 0x3f).toInt64.toUInt64).toInt64) &&& (1 : Int64)) = (0 : Int64)) ∧ ((Int32.ofNat n.1).toInt < 4 ∨ (Int32.ofNat n.1).toInt > 23)) ∨ ((((((13117168 : Int64).toUInt64 >>> ((Int32.ofNat n.1) &&& 0x3f).toInt64.toUInt64).toInt64) &&& (1 : Int64)) = (0 : Int64)) ∧ (¬ ((Int32.ofNat n.1).toInt < 4 ∨ (Int32.ofNat n.1).toInt > 23) ∧ own_offs[((Int32.ofNat n.1).toInt - 4).toNat]? = some 99)) ∨ ((¬ ((((13117168 : Int64).toUInt64 >>> ((Int32.ofNat n.1) &&& 0x3f).toInt64.toUInt64).toInt64) &&& (1 : Int64)) = (0 : Int64)) ∧ (¬ ((Int32.ofNat n.1).toInt < 4 ∨ (Int32.ofNat n.1).toInt > 23) ∧ own_offs[((Int32.ofNat n.1).toInt - 4).toNat]? = some 95)) := by decide +kernel
      have h1' := h1
      have h2' := h2
      rw [Int32.lt_iff_toInt_lt, e0] at h1'
      rw [Int32.lt_iff_toInt_lt, e64] at h2'
      have hu : Int32.ofNat u.toInt.toNat = u := by
        apply Int32.toInt_inj.mp
        rw [Int32.toInt_ofNat_of_lt (by omega)]
        omega
      have k := key ⟨u.toInt.toNat, by omega⟩
      simp only [hu] at k
      rcases k with ⟨a, b⟩ | ⟨a, b⟩ | ⟨a, b⟩
      · exact Or.inr (Or.inr (Or.inl ⟨h1, h2, a, b⟩))
      · exact Or.inr (Or.inr (Or.inr (Or.inl ⟨h1, h2, a, b⟩)))
      · exact Or.inr (Or.inr (Or.inr (Or.inr ⟨h1, h2, a, b⟩)))
    · refine Or.inr (Or.inl ⟨h1, h2, Or.inr ?_⟩)
      rw [Int32.lt_iff_toInt_lt] at h1 h2; omega

set_option maxRecDepth 65536 in
set_option maxHeartbeats 40000000 in
theorem rm0 (l : Launch) (Z : State) (a0 : Array Value) (hw : ∀ d ∈ tables_1, d.before a0 Z = true) (ws : List Jvm.Cond) (p0 : Int32) (h0 : Heap) (n0 : Nat) (Z0 : n0 ≤ h0.size)  :
    MetFree l x (head1 (Jvm.Cond.code x code maxLocals ret :: ws) room_1) (fun a U => a = #[(.int p0)] ∧ Z.Warmed39 U.vm ∧ U.heap = h0) (fun _ _ _ _ _ => True) (fun _ U o U' => ∃ v L, o = .returned v ∧ QLaw n0 v U'.heap L ∧ FrameEnd U o U' L room_1.cells room_1.slots) := by
  rcases own_cases (p0.toInt8.toInt32) with ⟨hb12, hg⟩ | ⟨hb12, hb19, hg⟩ | ⟨hb12, hb19, hb30, hg⟩ | ⟨hb12, hb19, hb30, hg⟩ | ⟨hb12, hb19, hb30, hg⟩
  · exact rm0A l Z a0 hw ws p0 h0 n0 Z0 hb12 hg
  · exact rm0B l Z a0 hw ws p0 h0 n0 Z0 hb12 hb19 hg
  · exact rm0C l Z a0 hw ws p0 h0 n0 Z0 hb12 hb19 hb30 hg
  · exact rm0D l Z a0 hw ws p0 h0 n0 Z0 hb12 hb19 hb30 hg
  · exact rm0E l Z a0 hw ws p0 h0 n0 Z0 hb12 hb19 hb30 hg
set_option maxRecDepth 65536 in
set_option maxHeartbeats 40000000 in
theorem comes_1 {Post : Tables → Env → Array Value → State → Outcome → State → Prop} (hpost : ∀ tb e args s v u, (limb_1_1.after args s (.returned v) u = true ∧ limb_1_2.after args s (.returned v) u = true ∧ True) → FrameEnd s (.returned v) u (Jvm.fieldLocs frame_1_writes args s ++ Jvm.arrayLocs frame_1_arrays args s ++ Jvm.staticLocs frame_1_statics s) 0 0 → Post tb e args s (.returned v) u) :
    ArmFor flags0 classFile x code maxLocals ret World_1 tables_1 room_1 Calls_1 rest_1 Pre_1 Post := by
  intro l hfl _ _ p e ha hc hk s m args below hf hA hF happ hP
  obtain ⟨hcalls, hrest, hpre⟩ := hP
  obtain ⟨-, -, -, hnamed, -, -, -, hat⟩ := (Spec.applies_iff hf).mp happ
  obtain ⟨hg, hn⟩ := and_e (Cond.before_iff.mp (show (Jvm.Cond.and given_1 narrow_1).before args s = true from hpre))
  obtain ⟨hcnt, hg0⟩ := and_e hg
  have ha0 := hg0
  obtain ⟨w0, rfl⟩ : ∃ w0 : Value, args = #[w0] := by
    have hs : args.size = 1 := by simpa [Cond.value, given_1] using hcnt
    obtain ⟨L⟩ := args
    match L, hs with
    | [w0], _ => exact ⟨w0, rfl⟩
  have hw := fun d (hd : d ∈ tables_1) => atoms_spec (ws := Jvm.Cond.code x code maxLocals ret :: tables_1) hat d (List.mem_cons_of_mem _ hd)
  have hfit : Fit s := fun {y c} hc i hi => by
    obtain ⟨ha, rfl⟩ := Array.getElem?_eq_some_iff.mp hc
    have q := List.all_eq_true.mp ((Array.all_eq_true_iff_forall_mem.mp hF) _ (Array.getElem_mem ha)) i (List.mem_range.mpr hi)
    simpa [Array.getElem?_eq_getElem hi] using q
  obtain ⟨i0, ei0⟩ := is_v ha0
  obtain rfl : w0 = (.int i0) := Option.some.inj ei0
  obtain ⟨n, o, h1, h2, h3, _, L, rfl, ⟨rfl, N⟩, hq⟩ := rm0 l s _ hw tables_1 i0 s.heap s.heap.size (Nat.le_refl _)  p e ha hc hk s m _ below hf ((Spec.applies_iff_loose hf).mp happ).1 ⟨rfl, State.Warmed39.refl s, rfl⟩ trivial
  refine ⟨n, _, h1, h2, h3, hpost _ _ _ _ _ _ ⟨Cond.after_iff.mpr rfl, Cond.after_iff.mpr (eq_i res_at (Term.int_eval (1)) rfl), trivial⟩ ⟨hq.1, hq.2.1, (hq.2.2.sift fun y hy => Or.inr (N y hy)).mono (by decide) (by decide)⟩⟩
theorem main_1_1 : Claimed_1_1 := comes_1 fun _ _ _ _ _ _ h hF => ⟨h.1, hF⟩
theorem main_1_2 : Claimed_1_2 := comes_1 fun _ _ _ _ _ _ h hF => ⟨h.2.1, hF⟩
end Jvm.Pilot.@@N@@
namespace Jvm.Pilot.@@N@@
open Jvm Jvm.ClassFile Sem Op Lib Jvm.Free Jvm.Stand Jvm.Pilot.@@N@@.Jvm.D
/-! MADE BY PROGRAM (witnessworld.py) out of the Statement's table words and the real class files: 9 classes; the members and pool entries that the words name. The judged class is class 1, her method 1. -/
namespace start1
open Jvm.ClassFile
def u (s : String) : CpInfo := .utf8 (stringToUtf16 s)
/-- a pool by its gaps: so many unusable entries, then the entry; so many at the end -/
def gap : Nat → List CpInfo → List CpInfo
  | 0, r => r
  | n + 1, r => .unusable :: gap n r
def poolList (es : List (Nat × CpInfo)) (last : Nat) : List CpInfo := es.foldr (fun e r => gap e.1 (e.2 :: r)) (gap last [])
def pool (es : List (Nat × CpInfo)) (last : Nat) : Array CpInfo := ⟨poolList es last⟩
def fileOf (pool : Array CpInfo) (this : Nat) (attrs : Array Attribute := #[]) (ms : Array MethodInfo := #[]) (fl : Nat := 33) (sup : Nat := 0) (ifs : Array Nat := #[]) (fds : Array FieldInfo := #[]) : ClassFile where
  minorVersion := 0
  majorVersion := 65
  constantPool := pool
  accessFlags := fl
  thisClass := this
  superClass := sup
  interfaces := ifs
  fields := fds
  methods := ms
  attributes := attrs
def plain (name : String) (sup : Option ClassId) : Class where
  name := name
  kind := .ordinary
  loader := none
  accessFlags := 33
  super := sup
  interfaces := #[]
  cf := none
  fields := #[]
  methods := #[]
  instanceTypes := #[]
  staticTypes := #[]
  resolved := #[]
  callSites := []
  init := .initialized
  statics := none
  mirror := none

def pool0 : Array CpInfo := pool [(5, u "<init>"), (0, u "()V"), (1, .class_ 10), (1, u "java/lang/Object")] 113

def k0m0 : Method := { name := "<init>", desc := "()V", sig := { parameters := [], returnType := none }, accessFlags := 1, code := none }
/-- java/lang/Object -/
def k0 : Class := { plain "java/lang/Object" none with
  accessFlags := 33
  interfaces := #[]
  cf := some (fileOf pool0 8 #[] #[{ accessFlags := 1, nameIndex := 5, descriptorIndex := 6, attributes := #[] }] 33 0 #[] #[])
  fields := #[]
  methods := #[k0m0]
  instanceTypes := #[]
  staticTypes := #[]
  resolved := Array.replicate 124 none
  statics := none }

def pool1 : Array CpInfo := pool [(2, .class_ 4), (1, u "java/lang/Object"), (0, u "<init>"), (0, u "()V"), (0, .class_ 8), (0, u "com/example/sorted_map_store/sortedmapstore/client/Protocol"), (0, .long 13117168), (1, .methodref 7 12), (0, .nameAndType 13 14), (0, u "growsWithTable"), (0, u "(B)Z"), (0, .class_ 16), (0, u "com/example/sorted_map_store/sortedmapstore/client/ProtocolGrowsWithTablePinLaw"), (2, u "law"), (0, u "(I)Z")] 3

def k1m0 : Method := { name := "<init>", desc := "()V", sig := { parameters := [], returnType := none }, accessFlags := 2, code := none }
def k1c1 : Code := { maxStack := 4, maxLocals := 6, code := code, exceptionTable := #[], attributes := #[] }
def k1m1 : Method := { name := "law", desc := "(I)Z", sig := { parameters := [.int], returnType := some .boolean }, accessFlags := 9, code := some k1c1 }
/-- com/example/sorted_map_store/sortedmapstore/client/ProtocolGrowsWithTablePinLaw -/
def k1 : Class := { plain "com/example/sorted_map_store/sortedmapstore/client/ProtocolGrowsWithTablePinLaw" (some 0) with
  accessFlags := 49
  interfaces := #[]
  cf := some (fileOf pool1 15 #[] #[{ accessFlags := 2, nameIndex := 5, descriptorIndex := 6, attributes := #[] }, { accessFlags := 9, nameIndex := 19, descriptorIndex := 20, attributes := #[] }] 49 2 #[] #[])
  fields := #[]
  methods := #[k1m0, k1m1]
  instanceTypes := #[]
  staticTypes := #[]
  resolved := Array.replicate 24 none
  statics := none }

def pool2 : Array CpInfo := pool [(4, .class_ 6), (1, u "java/lang/Object"), (0, u "<init>"), (0, u "()V"), (0, .class_ 10), (0, u "com/example/sorted_map_store/sortedmapstore/client/Protocol"), (44, .class_ 56), (0, u "com/example/sorted_map_store/sortedmapstore/client/Protocol$Frame"), (80, .class_ 138), (0, u "com/example/sorted_map_store/sortedmapstore/client/Protocol$Rows"), (10, .class_ 150), (0, u "com/example/sorted_map_store/sortedmapstore/client/Protocol$TabletRange"), (15, .class_ 167), (0, u "com/example/sorted_map_store/sortedmapstore/client/Protocol$Load"), (8, .class_ 177), (0, u "com/example/sorted_map_store/sortedmapstore/client/Protocol$HandOff"), (41, .class_ 220), (0, u "com/example/sorted_map_store/sortedmapstore/client/Protocol$Get"), (10, .class_ 232), (0, u "com/example/sorted_map_store/sortedmapstore/client/Protocol$TableScan"), (10, .class_ 244), (0, u "com/example/sorted_map_store/sortedmapstore/client/Protocol$TableFamily"), (9, .class_ 255), (0, u "com/example/sorted_map_store/sortedmapstore/client/Protocol$DroppedFamily"), (6, .class_ 263), (0, u "com/example/sorted_map_store/sortedmapstore/client/Protocol$Split"), (89, .class_ 354), (0, u "com/example/sorted_map_store/sortedmapstore/client/Protocol$Content"), (148, .class_ 505), (1, u "com/example/sorted_map_store/sortedmapstore/client/Protocol$Body"), (28, u "VERSION"), (0, u "I"), (2, u "NO_VERSION"), (1, u "DEFAULT_PORT"), (1, u "MAX_FRAME_LENGTH"), (0, u "CREATE_TABLE"), (0, u "B"), (1, u "MUTATE"), (1, u "GET"), (0, u "SCAN"), (1, u "SCAN_ROW_KEYS"), (1, u "COUNT_ROWS"), (1, u "FLUSH"), (1, u "STATS"), (1, u "COMPACT"), (1, u "ADD_FAMILY"), (1, u "ALTER_FAMILY"), (1, u "DROP_FAMILY"), (1, u "DROP_TABLE"), (1, u "DESCRIBE"), (1, u "SPLIT"), (1, u "TABLETS"), (1, u "CHECK_AND_MUTATE"), (1, u "INCREMENT"), (1, u "COUNT_SCAN"), (1, u "MUTATE_ROWS"), (1, u "SERVED"), (1, u "LOAD_TABLET"), (1, u "HAND_OFF"), (1, u "TABLET_SPLIT"), (1, u "ASK_PROGRESS"), (1, u "OK"), (0, u "REFUSED"), (0, u "CELL"), (0, u "ROW_KEY"), (0, u "SCHEMA"), (0, u "TABLET"), (0, u "OUTCOME_UNKNOWN"), (0, u "NOT_SERVED"), (0, u "SERVED_TABLET"), (0, u "PROGRESS"), (0, u "MIN_PROGRESS_MILLIS"), (1, u "MAGIC"), (0, u "MAX_NAME_LENGTH"), (3, u "growsWithTable"), (0, u "(B)Z")] 265

def k2m0 : Method := { name := "<init>", desc := "()V", sig := { parameters := [], returnType := none }, accessFlags := 2, code := none }
def k2c1 : Code := { maxStack := 1, maxLocals := 1, code := prog_82_method_2_code, exceptionTable := #[], attributes := #[] }
def k2m1 : Method := { name := "growsWithTable", desc := "(B)Z", sig := { parameters := [.byte], returnType := some .boolean }, accessFlags := 9, code := some k2c1 }
/-- com/example/sorted_map_store/sortedmapstore/client/Protocol -/
def k2 : Class := { plain "com/example/sorted_map_store/sortedmapstore/client/Protocol" (some 0) with
  accessFlags := 49
  interfaces := #[]
  cf := some (fileOf pool2 9 #[.nestMembers #[353, 55, 262, 254, 243, 231, 219, 176, 166, 149, 137, 503]] #[{ accessFlags := 2, nameIndex := 7, descriptorIndex := 8, attributes := #[] }, { accessFlags := 9, nameIndex := 610, descriptorIndex := 611, attributes := #[] }] 49 4 #[] #[{ accessFlags := 25, nameIndex := 534, descriptorIndex := 535, attributes := #[] }, { accessFlags := 25, nameIndex := 538, descriptorIndex := 535, attributes := #[] }, { accessFlags := 25, nameIndex := 540, descriptorIndex := 535, attributes := #[] }, { accessFlags := 25, nameIndex := 542, descriptorIndex := 535, attributes := #[] }, { accessFlags := 25, nameIndex := 543, descriptorIndex := 544, attributes := #[] }, { accessFlags := 25, nameIndex := 546, descriptorIndex := 544, attributes := #[] }, { accessFlags := 25, nameIndex := 548, descriptorIndex := 544, attributes := #[] }, { accessFlags := 25, nameIndex := 549, descriptorIndex := 544, attributes := #[] }, { accessFlags := 25, nameIndex := 551, descriptorIndex := 544, attributes := #[] }, { accessFlags := 25, nameIndex := 553, descriptorIndex := 544, attributes := #[] }, { accessFlags := 25, nameIndex := 555, descriptorIndex := 544, attributes := #[] }, { accessFlags := 25, nameIndex := 557, descriptorIndex := 544, attributes := #[] }, { accessFlags := 25, nameIndex := 559, descriptorIndex := 544, attributes := #[] }, { accessFlags := 25, nameIndex := 561, descriptorIndex := 544, attributes := #[] }, { accessFlags := 25, nameIndex := 563, descriptorIndex := 544, attributes := #[] }, { accessFlags := 25, nameIndex := 565, descriptorIndex := 544, attributes := #[] }, { accessFlags := 25, nameIndex := 567, descriptorIndex := 544, attributes := #[] }, { accessFlags := 25, nameIndex := 569, descriptorIndex := 544, attributes := #[] }, { accessFlags := 25, nameIndex := 571, descriptorIndex := 544, attributes := #[] }, { accessFlags := 25, nameIndex := 573, descriptorIndex := 544, attributes := #[] }, { accessFlags := 25, nameIndex := 575, descriptorIndex := 544, attributes := #[] }, { accessFlags := 25, nameIndex := 577, descriptorIndex := 544, attributes := #[] }, { accessFlags := 25, nameIndex := 579, descriptorIndex := 544, attributes := #[] }, { accessFlags := 25, nameIndex := 581, descriptorIndex := 544, attributes := #[] }, { accessFlags := 25, nameIndex := 583, descriptorIndex := 544, attributes := #[] }, { accessFlags := 25, nameIndex := 585, descriptorIndex := 544, attributes := #[] }, { accessFlags := 25, nameIndex := 587, descriptorIndex := 544, attributes := #[] }, { accessFlags := 25, nameIndex := 589, descriptorIndex := 544, attributes := #[] }, { accessFlags := 25, nameIndex := 591, descriptorIndex := 544, attributes := #[] }, { accessFlags := 25, nameIndex := 593, descriptorIndex := 544, attributes := #[] }, { accessFlags := 25, nameIndex := 594, descriptorIndex := 544, attributes := #[] }, { accessFlags := 25, nameIndex := 595, descriptorIndex := 544, attributes := #[] }, { accessFlags := 25, nameIndex := 596, descriptorIndex := 544, attributes := #[] }, { accessFlags := 25, nameIndex := 597, descriptorIndex := 544, attributes := #[] }, { accessFlags := 25, nameIndex := 598, descriptorIndex := 544, attributes := #[] }, { accessFlags := 25, nameIndex := 599, descriptorIndex := 544, attributes := #[] }, { accessFlags := 25, nameIndex := 600, descriptorIndex := 544, attributes := #[] }, { accessFlags := 25, nameIndex := 601, descriptorIndex := 544, attributes := #[] }, { accessFlags := 25, nameIndex := 602, descriptorIndex := 544, attributes := #[] }, { accessFlags := 25, nameIndex := 603, descriptorIndex := 535, attributes := #[] }, { accessFlags := 26, nameIndex := 605, descriptorIndex := 535, attributes := #[] }, { accessFlags := 26, nameIndex := 606, descriptorIndex := 535, attributes := #[] }])
  fields := #[{ name := "VERSION", type := .int, accessFlags := 25, slot := 0, constantValue := 0 }, { name := "NO_VERSION", type := .int, accessFlags := 25, slot := 1, constantValue := 0 }, { name := "DEFAULT_PORT", type := .int, accessFlags := 25, slot := 2, constantValue := 0 }, { name := "MAX_FRAME_LENGTH", type := .int, accessFlags := 25, slot := 3, constantValue := 0 }, { name := "CREATE_TABLE", type := .byte, accessFlags := 25, slot := 4, constantValue := 0 }, { name := "MUTATE", type := .byte, accessFlags := 25, slot := 5, constantValue := 0 }, { name := "GET", type := .byte, accessFlags := 25, slot := 6, constantValue := 0 }, { name := "SCAN", type := .byte, accessFlags := 25, slot := 7, constantValue := 0 }, { name := "SCAN_ROW_KEYS", type := .byte, accessFlags := 25, slot := 8, constantValue := 0 }, { name := "COUNT_ROWS", type := .byte, accessFlags := 25, slot := 9, constantValue := 0 }, { name := "FLUSH", type := .byte, accessFlags := 25, slot := 10, constantValue := 0 }, { name := "STATS", type := .byte, accessFlags := 25, slot := 11, constantValue := 0 }, { name := "COMPACT", type := .byte, accessFlags := 25, slot := 12, constantValue := 0 }, { name := "ADD_FAMILY", type := .byte, accessFlags := 25, slot := 13, constantValue := 0 }, { name := "ALTER_FAMILY", type := .byte, accessFlags := 25, slot := 14, constantValue := 0 }, { name := "DROP_FAMILY", type := .byte, accessFlags := 25, slot := 15, constantValue := 0 }, { name := "DROP_TABLE", type := .byte, accessFlags := 25, slot := 16, constantValue := 0 }, { name := "DESCRIBE", type := .byte, accessFlags := 25, slot := 17, constantValue := 0 }, { name := "SPLIT", type := .byte, accessFlags := 25, slot := 18, constantValue := 0 }, { name := "TABLETS", type := .byte, accessFlags := 25, slot := 19, constantValue := 0 }, { name := "CHECK_AND_MUTATE", type := .byte, accessFlags := 25, slot := 20, constantValue := 0 }, { name := "INCREMENT", type := .byte, accessFlags := 25, slot := 21, constantValue := 0 }, { name := "COUNT_SCAN", type := .byte, accessFlags := 25, slot := 22, constantValue := 0 }, { name := "MUTATE_ROWS", type := .byte, accessFlags := 25, slot := 23, constantValue := 0 }, { name := "SERVED", type := .byte, accessFlags := 25, slot := 24, constantValue := 0 }, { name := "LOAD_TABLET", type := .byte, accessFlags := 25, slot := 25, constantValue := 0 }, { name := "HAND_OFF", type := .byte, accessFlags := 25, slot := 26, constantValue := 0 }, { name := "TABLET_SPLIT", type := .byte, accessFlags := 25, slot := 27, constantValue := 0 }, { name := "ASK_PROGRESS", type := .byte, accessFlags := 25, slot := 28, constantValue := 0 }, { name := "OK", type := .byte, accessFlags := 25, slot := 29, constantValue := 0 }, { name := "REFUSED", type := .byte, accessFlags := 25, slot := 30, constantValue := 0 }, { name := "CELL", type := .byte, accessFlags := 25, slot := 31, constantValue := 0 }, { name := "ROW_KEY", type := .byte, accessFlags := 25, slot := 32, constantValue := 0 }, { name := "SCHEMA", type := .byte, accessFlags := 25, slot := 33, constantValue := 0 }, { name := "TABLET", type := .byte, accessFlags := 25, slot := 34, constantValue := 0 }, { name := "OUTCOME_UNKNOWN", type := .byte, accessFlags := 25, slot := 35, constantValue := 0 }, { name := "NOT_SERVED", type := .byte, accessFlags := 25, slot := 36, constantValue := 0 }, { name := "SERVED_TABLET", type := .byte, accessFlags := 25, slot := 37, constantValue := 0 }, { name := "PROGRESS", type := .byte, accessFlags := 25, slot := 38, constantValue := 0 }, { name := "MIN_PROGRESS_MILLIS", type := .int, accessFlags := 25, slot := 39, constantValue := 0 }, { name := "MAGIC", type := .int, accessFlags := 26, slot := 40, constantValue := 0 }, { name := "MAX_NAME_LENGTH", type := .int, accessFlags := 26, slot := 41, constantValue := 0 }]
  methods := #[k2m0, k2m1]
  instanceTypes := #[]
  staticTypes := #[.int, .int, .int, .int, .byte, .byte, .byte, .byte, .byte, .byte, .byte, .byte, .byte, .byte, .byte, .byte, .byte, .byte, .byte, .byte, .byte, .byte, .byte, .byte, .byte, .byte, .byte, .byte, .byte, .byte, .byte, .byte, .byte, .byte, .byte, .byte, .byte, .byte, .byte, .int, .int, .int]
  resolved := Array.replicate 877 none
  statics := none }

def pool3 : Array CpInfo := pool [(1, u "java/lang/Cloneable"), (0, .class_ 1), (0, u "java/lang/Object"), (0, .class_ 3)] 3

/-- java/lang/Cloneable -/
def k3 : Class := { plain "java/lang/Cloneable" (some 0) with
  accessFlags := 1537
  interfaces := #[]
  cf := some (fileOf pool3 2 #[] #[] 1537 4 #[] #[])
  fields := #[]
  methods := #[]
  instanceTypes := #[]
  staticTypes := #[]
  resolved := Array.replicate 8 none
  statics := none }

def pool4 : Array CpInfo := pool [(1, u "java/io/Serializable"), (0, .class_ 1), (0, u "java/lang/Object"), (0, .class_ 3)] 3

/-- java/io/Serializable -/
def k4 : Class := { plain "java/io/Serializable" (some 0) with
  accessFlags := 1537
  interfaces := #[]
  cf := some (fileOf pool4 2 #[] #[] 1537 4 #[] #[])
  fields := #[]
  methods := #[]
  instanceTypes := #[]
  staticTypes := #[]
  resolved := Array.replicate 8 none
  statics := none }

/-- the primitive byte -/
def k5 : Class := { plain "byte" none with kind := .primitive 'B', accessFlags := 0x411 }
/-- [B -/
def k6 : Class := { plain "[B" (some 0) with kind := .array 5 .byte, interfaces := #[3, 4], accessFlags := 1041 }

/-- the primitive int -/
def k7 : Class := { plain "int" none with kind := .primitive 'I', accessFlags := 0x411 }
/-- [I -/
def k8 : Class := { plain "[I" (some 0) with kind := .array 7 .int, interfaces := #[3, 4], accessFlags := 1041 }

def heap : Heap := #[]
def classes : Array Class := #[k0, k1, k2, k3, k4, k5, k6, k7, k8]
def interned : List (Array UInt16 × Addr) := []
def slotsUsed : Nat := 0
def theMethod : MethodId := ⟨1, 1⟩
def args0 : Array Value := #[.int 5]
def aboutOver (below : List Frame) : State where
  vm := { classes := classes, interned := interned.toArray }
  heap := heap
  slotsUsed := slotsUsed
  threads := #[{ frames := .invoking theMethod args0 :: below }]
def below0 : List Frame := [.native { method := ⟨0, 0⟩, args := #[] }]
def about1 : State := aboutOver below0
def p0 : Program := .bare "" "" ""
def e0 : Env := launch0.env 0 0 0
theorem w_frames : about1.frames = Frame.invoking theMethod args0 :: below0 := rfl
set_option maxRecDepth 65536 in
theorem w_args : argsFit about1.vm theMethod args0 = true := by decide +kernel
set_option maxRecDepth 65536 in
theorem w_heap : heapFits about1 = true := by decide +kernel
set_option maxRecDepth 65536 in
theorem w_runnable : about1.curStatus? = some .runnable := by decide +kernel
set_option maxRecDepth 65536 in
theorem w_alone : about1.alone = true := by decide +kernel
set_option maxRecDepth 65536 in
theorem w_named : about1.methodNamed? x = some theMethod := by decide +kernel
set_option maxRecDepth 65536 in
theorem w_hears : about1.hears theMethod below0 = true := by decide +kernel
set_option maxRecDepth 65536 in
theorem w_ripe : about1.ripe theMethod args0 below0 = true := by decide +kernel
theorem w_running : about1.status = .running := rfl
set_option maxRecDepth 65536 in
theorem w_room : about1.hasRoom e0.platform room_1 = true :=
  launch0.hasRoom_least _ room_1 (by decide +kernel) (by decide +kernel) (by decide +kernel) (by decide +kernel) (by decide +kernel) (by decide +kernel)
theorem allAtoms_all (ts : List Jvm.Cond) (a : Array Jvm.Value) (st : Jvm.State) : (allAtoms ts).before a st = ts.all (fun c => c.before a st) := by
  induction ts with
  | nil => rfl
  | cons c t ih =>
    show (Jvm.Cond.and c (allAtoms t)).before a st = _
    rw [Jvm.Cond.before_and, ih, List.all_cons]
def words1 : List Jvm.Cond := Jvm.Cond.code x code maxLocals ret :: tables_1
/-- a 'code' word, met by the world's own term for the bytes: nothing is compared byte by byte -/
theorem code_word {y : MethodName} {bytes : ByteArray} {mx : Nat} {rt : Option FieldType} {a : Array Value} {s : State} {m : MethodId} {meth : Method} {c : Code} (h1 : s.methodNamed? y = some m) (h2 : s.vm.method? m = some meth) (h3 : meth.code = some c) (h4 : c.code = bytes)
    (h5 : (c.maxLocals == mx && c.exceptionTable.isEmpty && decide (c.maxStack ≤ mostOperands) && decide (meth.sig.returnType = rt) && !meth.locks && decide (parseMethodDescriptor y.desc = some meth.sig)) = true) : (Jvm.Cond.code y bytes mx rt).before a s = true := by
  simp only [Bool.and_eq_true, beq_iff_eq, Bool.not_eq_true', decide_eq_true_eq] at h5
  obtain ⟨⟨⟨⟨⟨g1, g2⟩, g3⟩, g4⟩, g5⟩, g6⟩ := h5
  simp [Cond.before, Cond.holds, Cond.value, h1, h2, h3, h4, g1, g2, g3, g4, g5, g6]
def isCode : Jvm.Cond → Bool
  | .code _ _ _ _ => true
  | _ => false
theorem all_split {L : List Jvm.Cond} {P : Jvm.Cond → Bool} (h1 : L.all (fun c => isCode c || P c) = true) (h2 : ∀ c ∈ L.filter isCode, P c = true) : L.all P = true := by
  refine List.all_eq_true.mpr fun c hc => ?_
  have h := List.all_eq_true.mp h1 c hc
  rcases Bool.eq_false_or_eq_true (isCode c) with hi | hi
  · exact h2 c (List.mem_filter.mpr ⟨hc, hi⟩)
  · simpa [hi] using h
set_option maxRecDepth 65536 in
theorem w_c0 : (Jvm.Cond.code x code maxLocals ret).before args0 about1 = true := code_word (m := ⟨1, 1⟩) (meth := k1m1) (c := k1c1) (by decide +kernel) rfl rfl rfl (by decide +kernel)
set_option maxRecDepth 65536 in
theorem w_c1 : (Jvm.Cond.code ({ cls := "com/example/sorted_map_store/sortedmapstore/client/Protocol", name := "growsWithTable", desc := "(B)Z" } : Jvm.MethodName) prog_82_method_2_code (1 : Nat) (Option.some Jvm.ClassFile.FieldType.boolean)).before args0 about1 = true := code_word (m := ⟨2, 1⟩) (meth := k2m1) (c := k2c1) (by decide +kernel) rfl rfl rfl (by decide +kernel)
def codes1 : List Jvm.Cond := [Jvm.Cond.code x code maxLocals ret, Jvm.Cond.code ({ cls := "com/example/sorted_map_store/sortedmapstore/client/Protocol", name := "growsWithTable", desc := "(B)Z" } : Jvm.MethodName) prog_82_method_2_code (1 : Nat) (Option.some Jvm.ClassFile.FieldType.boolean)]
set_option maxRecDepth 65536 in
theorem codes_eq : words1.filter isCode = codes1 := rfl
theorem w_codes : ∀ c ∈ words1.filter isCode, c.before args0 about1 = true := by
  rw [codes_eq]
  intro c hc
  simp only [codes1, List.mem_cons, List.not_mem_nil, or_false] at hc
  rcases hc with rfl | rfl
  · exact w_c0
  · exact w_c1
set_option maxRecDepth 65536 in
theorem w_t1 : words1.all (fun c => isCode c || c.before args0 about1) = true := by decide +kernel
theorem w_tables : (allAtoms (Jvm.Cond.code x code maxLocals ret :: tables_1)).before args0 about1 = true := by
  rw [allAtoms_all]
  show words1.all (fun c => c.before args0 about1) = true
  refine all_split ?_ w_codes
  rw [w_t1]
set_option maxRecDepth 65536 in
theorem w_case : (Jvm.Cond.and given_1 narrow_1).before args0 about1 = true := by decide +kernel
theorem w_applies : (headSpec (Jvm.Cond.code x code maxLocals ret :: tables_1) room_1).applies x e0.platform about1 = true :=
  (Spec.applies_iff w_frames).mpr ⟨w_running, w_runnable, w_alone, w_named, w_hears, w_ripe, w_room, w_tables⟩
theorem atStart : AtStart classFile x code maxLocals ret World_1 tables_1 room_1 Calls_1 rest_1 Pre_1 launch0 p0 e0 about1 theMethod args0 below0 :=
  ⟨lists_1, trivial, launch0.admits_env _ _ _, launch0.least_env, fairChoices_fair.cas, fairChoices_fair.clock, w_frames, w_args, w_heap, w_applies, trivial, trivial, w_case⟩
end start1
theorem witness_1 : WitnessClaimed_1 := ⟨start1.p0, start1.e0, start1.about1, start1.theMethod, start1.args0, start1.below0, start1.atStart⟩
end Jvm.Pilot.@@N@@
