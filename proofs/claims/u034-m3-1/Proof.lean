import JvmDerived
import JvmDerived.Pilot.@@N@@Statement
import JvmDerived.Pilot.@@N@@Code
set_option linter.unusedVariables false
set_option linter.unusedSimpArgs false
@@BLOCK:NumsL.lean.txt@@
namespace Jvm.Pilot.@@N@@
open Jvm Jvm.ClassFile Sem Op Lib Jvm.Free Jvm.Stand Jvm.LawKit Jvm.RoadKit Bundle Jvm.Pilot.@@N@@.Jvm.D
section OwnKit
variable {p : Program} {l : Launch} {e : Env} {R : Room} {s : State} {m : MethodId} {args : Array Value} {below : List Frame} {meth : Method} {c : Code} {T : State} {locs : List Loc} {cells slots : Nat} {Z : State} {h h' : Heap} {a b : Addr} {ty : FieldType} {n sl : Nat} {f : Nat → Value} {v : Value} {ws : List Addr}
theorem own_retI (X : Stand p l e R s m args below meth c T locs cells slots) (hx : p.tables.exec = Jvm.exec) {pc : Nat} {Ls : Array Slot} {z : Int32} {rest : List Value} (hret : meth.sig.returnType = some .int) (hd : decode c.code pc = .ok (.ireturn, 1)) {fs : List Frame}
    (hl : ∀ (f : JFrame) (acts : List Action), f.method = m → f.locked = none → f.entered = [] → (doReturn e (T.setTop f) acts (some (.int z))).1 = T.setFrames fs) : Steps p.tables e below (T.setTop (mkF m pc Ls (.int z :: rest))) (T.setFrames fs) := by
  have hm' : T.vm.method? m = some meth := X.method'
  have hn : narrow .int (.int z) = .int z := rfl
  show Steps p.tables e below (T.setTop { method := m, pc := pc, locals := Ls, stack := _ :: rest, locked := none }) _
  jvm_step X.here [X.here.top, hx, hd, hm', hret, hn]
  first | (intro acts; rw [hl _ acts rfl rfl rfl]) | rw [hl _ _ rfl rfl rfl]
  exact Steps.refl _
theorem own_retA (X : Stand p l e R s m args below meth c T locs cells slots) (hx : p.tables.exec = Jvm.exec) {pc : Nat} {Ls : Array Slot} {w : Addr} {rest : List Value} {t : FieldType} (ht : t.isReference = true) (hret : meth.sig.returnType = some t) (hd : decode c.code pc = .ok (.areturn, 1)) {fs : List Frame}
    (hl : ∀ (f : JFrame) (acts : List Action), f.method = m → f.locked = none → f.entered = [] → (doReturn e (T.setTop f) acts (some (.ref w))).1 = T.setFrames fs) : Steps p.tables e below (T.setTop (mkF m pc Ls (.ref w :: rest))) (T.setFrames fs) := by
  have hm' : T.vm.method? m = some meth := X.method'
  show Steps p.tables e below (T.setTop { method := m, pc := pc, locals := Ls, stack := _ :: rest, locked := none }) _
  jvm_step X.here [X.here.top, hx, hd, hm', hret, ht, Value.isRef]
  first | (intro acts; rw [hl _ acts rfl rfl rfl]) | rw [hl _ _ rfl rfl rfl]
  exact Steps.refl _
theorem own_retL (X : Stand p l e R s m args below meth c T locs cells slots) (hx : p.tables.exec = Jvm.exec) {pc : Nat} {Ls : Array Slot} {w : Int64} {rest : List Value} (hret : meth.sig.returnType = some .long) (hd : decode c.code pc = .ok (.lreturn, 1)) {fs : List Frame}
    (hl : ∀ (f : JFrame) (acts : List Action), f.method = m → f.locked = none → f.entered = [] → (doReturn e (T.setTop f) acts (some (.long w))).1 = T.setFrames fs) : Steps p.tables e below (T.setTop (mkF m pc Ls (.long w :: rest))) (T.setFrames fs) := by
  have hm' : T.vm.method? m = some meth := X.method'
  show Steps p.tables e below (T.setTop { method := m, pc := pc, locals := Ls, stack := _ :: rest, locked := none }) _
  jvm_step X.here [X.here.top, hx, hd, hm', hret]
  first | (intro acts; rw [hl _ acts rfl rfl rfl]) | rw [hl _ _ rfl rfl rfl]
  exact Steps.refl _
/-- an array: its kind, its length, what lies at each place -/
def OwnA (Z : State) (h : Heap) (a : Addr) (ty : FieldType) (n : Nat) (f : Nat → Value) : Prop :=
  ∃ c : Cell, Arr Z h a c ty ∧ c.slots.size = n ∧ (∀ i, i < n → c.slots[i]? = some (f i)) ∧ ∀ i, i < n → fits ty (f i) = true
def own_upd (f : Nat → Value) (j : Nat) (v : Value) : Nat → Value := fun i => if i = j then v else f i
theorem own_at (f : Nat → Value) (j : Nat) (v : Value) : own_upd f j v j = v := if_pos rfl
theorem own_off (f : Nat → Value) {i j : Nat} (v : Value) (q : i ≠ j) : own_upd f j v i = f i := if_neg q
theorem OwnA.lt (F : OwnA Z h a ty n f) : a < h.size := by obtain ⟨c, A, -⟩ := F; exact A.lt
theorem OwnA.ext (F : OwnA Z h a ty n f) (E : Ext h h') : OwnA Z h' a ty n f := by obtain ⟨c, A, r⟩ := F; exact ⟨c, A.ext E, r⟩
theorem OwnA.other (F : OwnA Z h b ty n f) (W : Wr h h' a sl v) (q : b ≠ a) : OwnA Z h' b ty n f := by obtain ⟨c, A, r⟩ := F; exact ⟨c, A.other W q, r⟩
theorem OwnA.keep (F : OwnA Z h a ty n f) (K : Keep h h' ws) (q : a ∉ ws) : OwnA Z h' a ty n f := by obtain ⟨c, A, r⟩ := F; exact ⟨c, ⟨K.2.1 a c A.1 q, A.2⟩, r⟩
theorem OwnA.cast {f' : Nat → Value} (F : OwnA Z h a ty n f) (q : ∀ i, i < n → f i = f' i) : OwnA Z h a ty n f' := by
  obtain ⟨c, A, r1, r2, r3⟩ := F
  exact ⟨c, A, r1, fun i hi => by rw [← q i hi]; exact r2 i hi, fun i hi => by rw [← q i hi]; exact r3 i hi⟩
theorem OwnA.set {k : Nat} (F : OwnA Z h a ty n f) (W : Wr h h' a k v) (hv : fits ty v = true) : OwnA Z h' a ty n (own_upd f k v) := by
  obtain ⟨c, A, r1, r2, r3⟩ := F
  refine ⟨_, A.same W, by rw [sz_set]; exact r1, fun i hi => ?_, fun i hi => ?_⟩
  · by_cases q : i = k
    · subst q
      rw [own_at]
      have : i < c.slots.size := by rw [r1]; exact hi
      simp [Cell.setSlot, this]
    · rw [own_off _ _ q, ← r2 i hi]
      simp only [Cell.setSlot]
      rw [Array.getElem?_setIfInBounds_ne (Ne.symm q)]
  · by_cases q : i = k
    · subst q; rw [own_at]; exact hv
    · rw [own_off _ _ q]; exact r3 i hi
theorem OwnA.new {k : ClassId} {z : Int32} (A : Arr Z h a (newA k ty z) ty) (hz : z.toNatClampNeg = n) : OwnA Z h a ty n (fun _ => defaultValue ty) := by
  refine ⟨_, A, by rw [sz_new]; exact hz, fun i hi => ?_, fun i _ => by cases ty <;> rfl⟩
  subst hz; simp [newA, hi]
theorem own_in {c : Cell} {j : Int32} {k : Nat} (r1 : c.slots.size = n) (hj : ¬ j < 0) (hk : j.toNatClampNeg = k) (hn : k < n) : ¬ (j < 0 ∨ c.slots.size ≤ j.toNatClampNeg) := by
  rintro (q | q)
  · exact hj q
  · omega
theorem own_stB (X : Stand p l e R s m args below meth c T locs cells slots) (hx : p.tables.exec = Jvm.exec) (hZ : Z.Warmed39 s.vm) (eT : T.heap = h) (F : OwnA Z h a .byte n f) {j x : Int32} (k : Nat) (hj : ¬ j < 0) (hk : j.toNatClampNeg = k) (hn : k < n) {g : JFrame} (hg : g.method = m) {rest : List Value} (hs : g.stack = .int x :: .int j :: .ref a :: rest) (hd : decode c.code g.pc = .ok (.bastore, 1)) :
    ∃ T' h', Stand p l e R s m args below meth c T' (locs ++ [⟨a, k⟩]) cells slots ∧ T'.heap = h' ∧ Wr h h' a k (.int x.toInt8.toInt32) ∧ OwnA Z h' a .byte n (own_upd f k (.int x.toInt8.toInt32)) ∧ ∀ target, Steps p.tables e below (T'.setTop { g with pc := g.pc + 1, stack := rest }) target → Steps p.tables e below (T.setTop g) target := by
  obtain ⟨c0, A, r1, r2, r3⟩ := F
  obtain ⟨T', h', X', e', W', st⟩ := stB X hx hZ eT A (own_in r1 hj hk hn) hg hs hd
  subst hk
  exact ⟨T', h', X', e', W', OwnA.set ⟨c0, A, r1, r2, r3⟩ W' (fits_nar_byte _), st⟩
theorem own_stC (X : Stand p l e R s m args below meth c T locs cells slots) (hx : p.tables.exec = Jvm.exec) (hZ : Z.Warmed39 s.vm) (eT : T.heap = h) (F : OwnA Z h a .char n f) {j x : Int32} (k : Nat) (hj : ¬ j < 0) (hk : j.toNatClampNeg = k) (hn : k < n) {g : JFrame} (hg : g.method = m) {rest : List Value} (hs : g.stack = .int x :: .int j :: .ref a :: rest) (hd : decode c.code g.pc = .ok (.castore, 1)) :
    ∃ T' h', Stand p l e R s m args below meth c T' (locs ++ [⟨a, k⟩]) cells slots ∧ T'.heap = h' ∧ Wr h h' a k (.int x.toUInt32.toUInt16.toUInt32.toInt32) ∧ OwnA Z h' a .char n (own_upd f k (.int x.toUInt32.toUInt16.toUInt32.toInt32)) ∧ ∀ target, Steps p.tables e below (T'.setTop { g with pc := g.pc + 1, stack := rest }) target → Steps p.tables e below (T.setTop g) target := by
  obtain ⟨c0, A, r1, r2, r3⟩ := F
  obtain ⟨T', h', X', e', W', st⟩ := stC X hx hZ eT A (own_in r1 hj hk hn) hg hs hd
  subst hk
  exact ⟨T', h', X', e', W', OwnA.set ⟨c0, A, r1, r2, r3⟩ W' (fits_nar_char _), st⟩
theorem own_stJ (X : Stand p l e R s m args below meth c T locs cells slots) (hx : p.tables.exec = Jvm.exec) (hZ : Z.Warmed39 s.vm) (eT : T.heap = h) (F : OwnA Z h a .long n f) {j : Int32} {x : Int64} (k : Nat) (hj : ¬ j < 0) (hk : j.toNatClampNeg = k) (hn : k < n) {g : JFrame} (hg : g.method = m) {rest : List Value} (hs : g.stack = .long x :: .int j :: .ref a :: rest) (hd : decode c.code g.pc = .ok (.lastore, 1)) :
    ∃ T' h', Stand p l e R s m args below meth c T' (locs ++ [⟨a, k⟩]) cells slots ∧ T'.heap = h' ∧ Wr h h' a k (.long x) ∧ OwnA Z h' a .long n (own_upd f k (.long x)) ∧ ∀ target, Steps p.tables e below (T'.setTop { g with pc := g.pc + 1, stack := rest }) target → Steps p.tables e below (T.setTop g) target := by
  obtain ⟨c0, A, r1, r2, r3⟩ := F
  obtain ⟨T', h', X', e', W', st⟩ := stJ X hx hZ eT A (own_in r1 hj hk hn) hg hs hd
  subst hk
  exact ⟨T', h', X', e', W', OwnA.set ⟨c0, A, r1, r2, r3⟩ W' rfl, st⟩
theorem own_stR (X : Stand p l e R s m args below meth c T locs cells slots) (hx : p.tables.exec = Jvm.exec) (hZ : Z.Warmed39 s.vm) (eT : T.heap = h) (F : OwnA Z h a ty n f) (hty : ty.isReference = true) (So : Sto Z h a v) (hv : fits ty v = true) {j : Int32} (k : Nat) (hj : ¬ j < 0) (hk : j.toNatClampNeg = k) (hn : k < n) {g : JFrame} (hg : g.method = m) {rest : List Value} (hs : g.stack = v :: .int j :: .ref a :: rest) (hd : decode c.code g.pc = .ok (.aastore, 1)) :
    ∃ T' h', Stand p l e R s m args below meth c T' (locs ++ [⟨a, k⟩]) cells slots ∧ T'.heap = h' ∧ Wr h h' a k v ∧ OwnA Z h' a ty n (own_upd f k v) ∧ ∀ target, Steps p.tables e below (T'.setTop { g with pc := g.pc + 1, stack := rest }) target → Steps p.tables e below (T.setTop g) target := by
  obtain ⟨c0, A, r1, r2, r3⟩ := F
  obtain ⟨T', h', X', e', W', st⟩ := stR X hx hZ eT A (own_in r1 hj hk hn) hty So hg hs hd
  subst hk
  exact ⟨T', h', X', e', W', OwnA.set ⟨c0, A, r1, r2, r3⟩ W' hv, st⟩
theorem own_ldB (X : Stand p l e R s m args below meth c T locs cells slots) (hx : p.tables.exec = Jvm.exec) (hZ : Z.Warmed39 s.vm) (eT : T.heap = h) (F : OwnA Z h a .byte n f) {j : Int32} (k : Nat) (hj : ¬ j < 0) (hk : j.toNatClampNeg = k) (hn : k < n) (hv : f k = v) {g : JFrame} (hg : g.method = m) {rest : List Value} (hs : g.stack = .int j :: .ref a :: rest) (hd : decode c.code g.pc = .ok (.baload, 1)) :
    ∀ target, Steps p.tables e below (T.setTop { g with pc := g.pc + 1, stack := v :: rest }) target → Steps p.tables e below (T.setTop g) target := by
  obtain ⟨c0, A, r1, r2, r3⟩ := F
  subst hk hv
  exact X.baloadBytes hx (j := j) (by rw [eT]; exact A.1) (State.isArrayOf_alike hZ.alike A.2.1) A.2.2 (own_in r1 hj rfl hn) (r2 _ hn) hg hs hd
theorem own_ldC (X : Stand p l e R s m args below meth c T locs cells slots) (hx : p.tables.exec = Jvm.exec) (hZ : Z.Warmed39 s.vm) (eT : T.heap = h) (F : OwnA Z h a .char n f) {j : Int32} (k : Nat) (hj : ¬ j < 0) (hk : j.toNatClampNeg = k) (hn : k < n) (hv : f k = v) {g : JFrame} (hg : g.method = m) {rest : List Value} (hs : g.stack = .int j :: .ref a :: rest) (hd : decode c.code g.pc = .ok (.caload, 1)) :
    ∀ target, Steps p.tables e below (T.setTop { g with pc := g.pc + 1, stack := v :: rest }) target → Steps p.tables e below (T.setTop g) target := by
  obtain ⟨c0, A, r1, r2, r3⟩ := F
  subst hk hv
  exact X.caload hx (j := j) (by rw [eT]; exact A.1) (State.isArrayOf_alike hZ.alike A.2.1) A.2.2 (own_in r1 hj rfl hn) (r2 _ hn) hg hs hd
theorem own_ldJ (X : Stand p l e R s m args below meth c T locs cells slots) (hx : p.tables.exec = Jvm.exec) (hZ : Z.Warmed39 s.vm) (eT : T.heap = h) (F : OwnA Z h a .long n f) {j : Int32} (k : Nat) (hj : ¬ j < 0) (hk : j.toNatClampNeg = k) (hn : k < n) (hv : f k = v) {g : JFrame} (hg : g.method = m) {rest : List Value} (hs : g.stack = .int j :: .ref a :: rest) (hd : decode c.code g.pc = .ok (.laload, 1)) :
    ∀ target, Steps p.tables e below (T.setTop { g with pc := g.pc + 1, stack := v :: rest }) target → Steps p.tables e below (T.setTop g) target := by
  obtain ⟨c0, A, r1, r2, r3⟩ := F
  subst hk hv
  exact X.laload hx (j := j) (by rw [eT]; exact A.1) (State.isArrayOf_alike hZ.alike A.2.1) A.2.2 (own_in r1 hj rfl hn) (r2 _ hn) hg hs hd
theorem own_ldR (X : Stand p l e R s m args below meth c T locs cells slots) (hx : p.tables.exec = Jvm.exec) (hZ : Z.Warmed39 s.vm) (eT : T.heap = h) (F : OwnA Z h a ty n f) (hty : ty.isReference = true) {j : Int32} (k : Nat) (hj : ¬ j < 0) (hk : j.toNatClampNeg = k) (hn : k < n) (hv : f k = v) {g : JFrame} (hg : g.method = m) {rest : List Value} (hs : g.stack = .int j :: .ref a :: rest) (hd : decode c.code g.pc = .ok (.aaload, 1)) :
    ∀ target, Steps p.tables e below (T.setTop { g with pc := g.pc + 1, stack := v :: rest }) target → Steps p.tables e below (T.setTop g) target := by
  obtain ⟨c0, A, r1, r2, r3⟩ := F
  subst hk hv
  exact X.aaload hx (j := j) (by rw [eT]; exact A.1) (State.isArrayOf_alike hZ.alike A.2.1) hty A.2.2 (own_in r1 hj rfl hn) (r2 _ hn) hg hs hd
theorem own_len (X : Stand p l e R s m args below meth c T locs cells slots) (hx : p.tables.exec = Jvm.exec) (hZ : Z.Warmed39 s.vm) (eT : T.heap = h) (F : OwnA Z h a ty n f) {z : Int32} (hz : n.toInt32 = z) {g : JFrame} (hg : g.method = m) {rest : List Value} (hs : g.stack = .ref a :: rest) (hd : decode c.code g.pc = .ok (.arraylength, 1)) :
    ∀ target, Steps p.tables e below (T.setTop { g with pc := g.pc + 1, stack := .int z :: rest }) target → Steps p.tables e below (T.setTop g) target := by
  obtain ⟨c0, A, r1, r2, r3⟩ := F
  subst hz r1
  exact X.arraylength hx (by rw [eT]; exact A.1) (State.isArrayOf_alike hZ.alike A.2.1) hg hs hd
theorem own_clone (X : Stand p l e R s m args below meth c T locs cells slots) (hx : p.tables.exec = Jvm.exec) (hZ : Z.Warmed39 s.vm) {a0 : Array Value} {own ad : String} {index : Nat} (hown : s.vm.findClass own = some m.cls)
    (w1 : (Jvm.Cond.methodLink own index ⟨ad, "clone", "()Ljava/lang/Object;"⟩).before a0 Z = true) (w2 : (Jvm.Cond.sameMethod ad "java/lang/Object" "clone" "()Ljava/lang/Object;").before a0 Z = true) (w3 : (Jvm.Cond.native ⟨"java/lang/Object", "clone", "()Ljava/lang/Object;"⟩).before a0 Z = true)
    (w4 : (Jvm.Cond.instanceMethod ⟨"java/lang/Object", "clone", "()Ljava/lang/Object;"⟩).before a0 Z = true) (w5 : (Jvm.Cond.selects ad ⟨ad, "clone", "()Ljava/lang/Object;"⟩ ⟨"java/lang/Object", "clone", "()Ljava/lang/Object;"⟩).before a0 Z = true) (w6 : (Jvm.Cond.castable ad "java/lang/Cloneable").before a0 Z = true)
    (eT : T.heap = h) (F : OwnA Z h a ty n f) (E : Exa Z h a ad) {g : JFrame} (hg : g.method = m) (hsize : g.locals.size = c.maxLocals) {rest : List Value} (hs : g.stack = .ref a :: rest) (hd : decode c.code g.pc = .ok (.invokevirtual index, 3))
    (hf : 1 ≤ R.frames) {W cap : Nat} (hW : 2 * g.monitorRoom + (rest.map fun v => v.category).sum ≤ W) (hl : W + 14 ≤ R.locals) (hcap : n ≤ cap) (hc : cells + 1 ≤ R.cells) (hsl : slots + cap ≤ R.slots) :
    ∃ T' h', Stand p l e R s m args below meth c T' locs (cells + 1) (slots + cap) ∧ T'.heap = h' ∧ Ext h h' ∧ OwnA Z h' h.size ty n f ∧ Exa Z h' h.size ad ∧
      ∀ target, Steps p.tables e below (T'.setTop { g with pc := g.pc + 3, stack := .ref h.size :: rest }) target → Steps p.tables e below (T.setTop g) target := by
  obtain ⟨c0, A, r1, r2, r3⟩ := F
  have FC : FitC Z c0 := fitC_of A fun i hi v hv => by
    rw [r1] at hi; rw [r2 i hi] at hv; cases hv; exact r3 i hi
  obtain ⟨T', h', X', e', ex, A', E', st⟩ := cloneA X hx hZ hown w1 w2 w3 w4 w5 w6 eT A E FC hg hsize hs hd hf hW hl (by rw [r1]; exact hcap) hc hsl
  exact ⟨T', h', X', e', ex, ⟨cloneOf c0, A', r1, r2, r3⟩, E', st⟩
theorem own_selP {s : State} {args : Array Value} {y y' : MethodName} (hsel : (Jvm.Cond.selects y.cls y' y').before args s = true) (hc : y'.cls = y.cls) (hpriv : s.PrivateAt y) (hinst : (Jvm.Cond.instanceMethod y).before args s = true) (hy : y.cls ≠ "java/lang/invoke/MethodHandle" ∧ y.cls ≠ "java/lang/invoke/VarHandle") :
    (Jvm.Cond.selects y.cls y y).before args s = true := by
  obtain ⟨c2, r2, m2, a1, a2, q3, a4, kP, hkP, hkPi⟩ := Cond.selects_spec hsel
  have hf := findClass_of_methodNamed q3
  rw [hc] at hf
  exact Stand.selects_self_of_private hf hkP hkPi hpriv hinst hy
theorem own_fcast {C nm d : String} {x y : Int32} (F : Fld Z h a C nm d (.int x)) (q : x = y) : Fld Z h a C nm d (.int y) := q ▸ F
theorem own_ix {j d : Int32} {k i : Nat} (hj : ¬ j < 0) (hk : j.toNatClampNeg = k) (hd : d.toInt = (i : Int)) (hlt : k + i < 2147483648) : ¬ (j + d) < 0 ∧ (j + d).toNatClampNeg = k + i := by
  have e0 : (0 : Int32).toInt = 0 := rfl
  simp only [Int32.lt_iff_toInt_lt, e0, Int32.toNatClampNeg] at hj hk ⊢
  rw [Int32.toInt_add, hd]
  have : (j.toInt + (i : Int)).bmod (2 ^ 32) = j.toInt + (i : Int) := bmod32 (by omega) (by omega)
  rw [this]
  omega
theorem own_mask31 (x : Int32) : 0 ≤ (x &&& (2147483647 : Int32)).toInt := (c_andS x 2147483647).2.2 (by decide)
theorem own_rem {x y : Int32} (hx : 0 ≤ x.toInt) (hy : 0 < y.toInt) : 0 ≤ (x % y).toInt ∧ (x % y).toInt < y.toInt := by
  rw [Int32.toInt_mod]
  exact ⟨Int.tmod_nonneg _ hx, Int.tmod_lt_of_pos _ hy⟩
theorem own_lcEq {x y : Int64} (q : x = y) : lcmpW x y = 0 := by subst q; simp [lcmpW, Int64.lt_irrefl]
theorem own_lcNe {x y : Int64} (q : ¬ x = y) : ¬ lcmpW x y = 0 := by
  by_cases h : x > y
  · rw [lcmpW, if_pos h]; decide
  · rw [lcmpW, if_neg h, if_neg q]; decide
theorem own_lcGt {x y : Int64} (q : y < x) : (0 : Int32) < lcmpW x y := by rw [lcmpW, if_pos q]; decide
theorem own_lcLe {x y : Int64} (q : ¬ y < x) : ¬ (0 : Int32) < lcmpW x y := by
  rw [lcmpW, if_neg q]
  by_cases h : x = y
  · rw [if_pos h]; decide
  · rw [if_neg h]; decide
theorem own_lcLt {x y : Int64} (q : x < y) : lcmpW x y < 0 := by
  rw [lcmpW, if_neg (fun z => Int64.lt_irrefl (Int64.lt_trans z q)), if_neg (fun z => Int64.lt_irrefl (z ▸ q))]; decide
theorem own_lcGe {x y : Int64} (q : ¬ x < y) : ¬ lcmpW x y < 0 := by
  by_cases h : x > y
  · rw [lcmpW, if_pos h]; decide
  · rw [lcmpW, if_neg h, if_pos (Int64.le_antisymm (Int64.not_lt.mp h) (Int64.not_lt.mp q))]; decide
end OwnKit

theorem d1_0 : decode prog_5_method_1_code 0 = .ok (.aload_n 0, 1) := by decide +kernel
theorem d1_1 : decode prog_5_method_1_code 1 = .ok (.invokespecial 5, 3) := by decide +kernel
theorem d1_4 : decode prog_5_method_1_code 4 = .ok (.aload_n 1, 1) := by decide +kernel
theorem d1_5 : decode prog_5_method_1_code 5 = .ok (.invokestatic 11, 3) := by decide +kernel
theorem d1_8 : decode prog_5_method_1_code 8 = .ok (.pop, 1) := by decide +kernel
theorem d1_9 : decode prog_5_method_1_code 9 = .ok (.iload_n 2, 1) := by decide +kernel
theorem d1_10 : decode prog_5_method_1_code 10 = .ok (.iconst 1, 1) := by decide +kernel
theorem d1_11 : decode prog_5_method_1_code 11 = .ok (.if_icmp .ge 17, 3) := by decide +kernel
theorem d1_28 : decode prog_5_method_1_code 28 = .ok (.lload_n 3, 1) := by decide +kernel
theorem d1_29 : decode prog_5_method_1_code 29 = .ok (.lconst 1, 1) := by decide +kernel
theorem d1_30 : decode prog_5_method_1_code 30 = .ok (.lcmp, 1) := by decide +kernel
theorem d1_31 : decode prog_5_method_1_code 31 = .ok (.ifCond .ge 17, 3) := by decide +kernel
theorem d1_48 : decode prog_5_method_1_code 48 = .ok (.aload_n 0, 1) := by decide +kernel
theorem d1_49 : decode prog_5_method_1_code 49 = .ok (.aload_n 1, 1) := by decide +kernel
theorem d1_50 : decode prog_5_method_1_code 50 = .ok (.putfield 29, 3) := by decide +kernel
theorem d1_53 : decode prog_5_method_1_code 53 = .ok (.aload_n 0, 1) := by decide +kernel
theorem d1_54 : decode prog_5_method_1_code 54 = .ok (.iload_n 2, 1) := by decide +kernel
theorem d1_55 : decode prog_5_method_1_code 55 = .ok (.putfield 35, 3) := by decide +kernel
theorem d1_58 : decode prog_5_method_1_code 58 = .ok (.aload_n 0, 1) := by decide +kernel
theorem d1_59 : decode prog_5_method_1_code 59 = .ok (.lload_n 3, 1) := by decide +kernel
theorem d1_60 : decode prog_5_method_1_code 60 = .ok (.putfield 39, 3) := by decide +kernel
theorem d1_63 : decode prog_5_method_1_code 63 = .ok (.return_, 1) := by decide +kernel
theorem d2_0 : decode jdk_30_method_1_code 0 = .ok (.aload_n 0, 1) := by decide +kernel
theorem d2_1 : decode jdk_30_method_1_code 1 = .ok (.invokespecial 1, 3) := by decide +kernel
theorem d2_4 : decode jdk_30_method_1_code 4 = .ok (.return_, 1) := by decide +kernel
theorem d4_0 : decode prog_4_method_6_code 0 = .ok (.aload_n 0, 1) := by decide +kernel
theorem d4_1 : decode prog_4_method_6_code 1 = .ok (.ldc 73, 2) := by decide +kernel
theorem d4_3 : decode prog_4_method_6_code 3 = .ok (.invokestatic 34, 3) := by decide +kernel
theorem d4_6 : decode prog_4_method_6_code 6 = .ok (.pop, 1) := by decide +kernel
theorem d4_7 : decode prog_4_method_6_code 7 = .ok (.aload_n 0, 1) := by decide +kernel
theorem d4_8 : decode prog_4_method_6_code 8 = .ok (.invokevirtual 74, 3) := by decide +kernel
theorem d4_11 : decode prog_4_method_6_code 11 = .ok (.ifCond .ne 13, 3) := by decide +kernel
theorem d4_14 : decode prog_4_method_6_code 14 = .ok (.aload_n 0, 1) := by decide +kernel
theorem d4_15 : decode prog_4_method_6_code 15 = .ok (.invokevirtual 78, 3) := by decide +kernel
theorem d4_18 : decode prog_4_method_6_code 18 = .ok (.sipush 255, 3) := by decide +kernel
theorem d4_21 : decode prog_4_method_6_code 21 = .ok (.if_icmp .le 20, 3) := by decide +kernel
theorem d4_41 : decode prog_4_method_6_code 41 = .ok (.iconst 0, 1) := by decide +kernel
theorem d4_42 : decode prog_4_method_6_code 42 = .ok (.istore_n 1, 1) := by decide +kernel
theorem d4_43 : decode prog_4_method_6_code 43 = .ok (.iload_n 1, 1) := by decide +kernel
theorem d4_44 : decode prog_4_method_6_code 44 = .ok (.aload_n 0, 1) := by decide +kernel
theorem d4_45 : decode prog_4_method_6_code 45 = .ok (.invokevirtual 78, 3) := by decide +kernel
theorem d4_48 : decode prog_4_method_6_code 48 = .ok (.if_icmp .ge 47, 3) := by decide +kernel
theorem d4_51 : decode prog_4_method_6_code 51 = .ok (.aload_n 0, 1) := by decide +kernel
theorem d4_52 : decode prog_4_method_6_code 52 = .ok (.iload_n 1, 1) := by decide +kernel
theorem d4_53 : decode prog_4_method_6_code 53 = .ok (.invokevirtual 83, 3) := by decide +kernel
theorem d4_56 : decode prog_4_method_6_code 56 = .ok (.istore_n 2, 1) := by decide +kernel
theorem d4_57 : decode prog_4_method_6_code 57 = .ok (.iload_n 2, 1) := by decide +kernel
theorem d4_58 : decode prog_4_method_6_code 58 = .ok (.bipush 33, 2) := by decide +kernel
theorem d4_60 : decode prog_4_method_6_code 60 = .ok (.if_icmp .lt 15, 3) := by decide +kernel
theorem d4_63 : decode prog_4_method_6_code 63 = .ok (.iload_n 2, 1) := by decide +kernel
theorem d4_64 : decode prog_4_method_6_code 64 = .ok (.bipush 126, 2) := by decide +kernel
theorem d4_66 : decode prog_4_method_6_code 66 = .ok (.if_icmp .gt 9, 3) := by decide +kernel
theorem d4_69 : decode prog_4_method_6_code 69 = .ok (.iload_n 2, 1) := by decide +kernel
theorem d4_70 : decode prog_4_method_6_code 70 = .ok (.bipush 58, 2) := by decide +kernel
theorem d4_72 : decode prog_4_method_6_code 72 = .ok (.if_icmp .ne 17, 3) := by decide +kernel
theorem d4_89 : decode prog_4_method_6_code 89 = .ok (.iinc 1 1, 3) := by decide +kernel
theorem d4_92 : decode prog_4_method_6_code 92 = .ok (.goto (-49), 3) := by decide +kernel
theorem d4_95 : decode prog_4_method_6_code 95 = .ok (.aload_n 0, 1) := by decide +kernel
theorem d4_96 : decode prog_4_method_6_code 96 = .ok (.areturn, 1) := by decide +kernel
theorem d5_0 : decode jdk_31_method_11_code 0 = .ok (.aload_n 0, 1) := by decide +kernel
theorem d5_1 : decode jdk_31_method_11_code 1 = .ok (.ifnonnull 12, 3) := by decide +kernel
theorem d5_13 : decode jdk_31_method_11_code 13 = .ok (.aload_n 0, 1) := by decide +kernel
theorem d5_14 : decode jdk_31_method_11_code 14 = .ok (.areturn, 1) := by decide +kernel
theorem d6_0 : decode jdk_42_method_55_code 0 = .ok (.aload_n 0, 1) := by decide +kernel
theorem d6_1 : decode jdk_42_method_55_code 1 = .ok (.getfield 9, 3) := by decide +kernel
theorem d6_4 : decode jdk_42_method_55_code 4 = .ok (.arraylength, 1) := by decide +kernel
theorem d6_5 : decode jdk_42_method_55_code 5 = .ok (.ifCond .ne 7, 3) := by decide +kernel
theorem d6_12 : decode jdk_42_method_55_code 12 = .ok (.iconst 0, 1) := by decide +kernel
theorem d6_13 : decode jdk_42_method_55_code 13 = .ok (.ireturn, 1) := by decide +kernel
theorem d7_0 : decode jdk_42_method_54_code 0 = .ok (.aload_n 0, 1) := by decide +kernel
theorem d7_1 : decode jdk_42_method_54_code 1 = .ok (.getfield 9, 3) := by decide +kernel
theorem d7_4 : decode jdk_42_method_54_code 4 = .ok (.arraylength, 1) := by decide +kernel
theorem d7_5 : decode jdk_42_method_54_code 5 = .ok (.aload_n 0, 1) := by decide +kernel
theorem d7_6 : decode jdk_42_method_54_code 6 = .ok (.invokevirtual 335, 3) := by decide +kernel
theorem d7_9 : decode jdk_42_method_54_code 9 = .ok (.ishr, 1) := by decide +kernel
theorem d7_10 : decode jdk_42_method_54_code 10 = .ok (.ireturn, 1) := by decide +kernel
theorem d8_0 : decode jdk_42_method_152_code 0 = .ok (.getstatic 38, 3) := by decide +kernel
theorem d8_3 : decode jdk_42_method_152_code 3 = .ok (.ifCond .eq 10, 3) := by decide +kernel
theorem d8_6 : decode jdk_42_method_152_code 6 = .ok (.aload_n 0, 1) := by decide +kernel
theorem d8_7 : decode jdk_42_method_152_code 7 = .ok (.getfield 15, 3) := by decide +kernel
theorem d8_10 : decode jdk_42_method_152_code 10 = .ok (.goto 4, 3) := by decide +kernel
theorem d8_14 : decode jdk_42_method_152_code 14 = .ok (.ireturn, 1) := by decide +kernel
theorem d9_0 : decode jdk_42_method_56_code 0 = .ok (.aload_n 0, 1) := by decide +kernel
theorem d9_1 : decode jdk_42_method_56_code 1 = .ok (.invokevirtual 492, 3) := by decide +kernel
theorem d9_4 : decode jdk_42_method_56_code 4 = .ok (.ifCond .eq 12, 3) := by decide +kernel
theorem d9_7 : decode jdk_42_method_56_code 7 = .ok (.aload_n 0, 1) := by decide +kernel
theorem d9_8 : decode jdk_42_method_56_code 8 = .ok (.getfield 9, 3) := by decide +kernel
theorem d9_11 : decode jdk_42_method_56_code 11 = .ok (.iload_n 1, 1) := by decide +kernel
theorem d9_12 : decode jdk_42_method_56_code 12 = .ok (.invokestatic 495, 3) := by decide +kernel
theorem d9_15 : decode jdk_42_method_56_code 15 = .ok (.ireturn, 1) := by decide +kernel
theorem d10_0 : decode jdk_42_method_154_code 0 = .ok (.getstatic 38, 3) := by decide +kernel
theorem d10_3 : decode jdk_42_method_154_code 3 = .ok (.ifCond .eq 14, 3) := by decide +kernel
theorem d10_6 : decode jdk_42_method_154_code 6 = .ok (.aload_n 0, 1) := by decide +kernel
theorem d10_7 : decode jdk_42_method_154_code 7 = .ok (.getfield 15, 3) := by decide +kernel
theorem d10_10 : decode jdk_42_method_154_code 10 = .ok (.ifCond .ne 7, 3) := by decide +kernel
theorem d10_13 : decode jdk_42_method_154_code 13 = .ok (.iconst 1, 1) := by decide +kernel
theorem d10_14 : decode jdk_42_method_154_code 14 = .ok (.goto 4, 3) := by decide +kernel
theorem d10_18 : decode jdk_42_method_154_code 18 = .ok (.ireturn, 1) := by decide +kernel
theorem d11_0 : decode jdk_43_method_2_code 0 = .ok (.iload_n 1, 1) := by decide +kernel
theorem d11_1 : decode jdk_43_method_2_code 1 = .ok (.aload_n 0, 1) := by decide +kernel
theorem d11_2 : decode jdk_43_method_2_code 2 = .ok (.arraylength, 1) := by decide +kernel
theorem d11_3 : decode jdk_43_method_2_code 3 = .ok (.invokestatic 9, 3) := by decide +kernel
theorem d11_6 : decode jdk_43_method_2_code 6 = .ok (.aload_n 0, 1) := by decide +kernel
theorem d11_7 : decode jdk_43_method_2_code 7 = .ok (.iload_n 1, 1) := by decide +kernel
theorem d11_8 : decode jdk_43_method_2_code 8 = .ok (.baload, 1) := by decide +kernel
theorem d11_9 : decode jdk_43_method_2_code 9 = .ok (.sipush 255, 3) := by decide +kernel
theorem d11_12 : decode jdk_43_method_2_code 12 = .ok (.iand, 1) := by decide +kernel
theorem d11_13 : decode jdk_43_method_2_code 13 = .ok (.i2c, 1) := by decide +kernel
theorem d11_14 : decode jdk_43_method_2_code 14 = .ok (.ireturn, 1) := by decide +kernel
theorem d12_0 : decode jdk_42_method_155_code 0 = .ok (.iload_n 0, 1) := by decide +kernel
theorem d12_1 : decode jdk_42_method_155_code 1 = .ok (.iload_n 1, 1) := by decide +kernel
theorem d12_2 : decode jdk_42_method_155_code 2 = .ok (.getstatic 1053, 3) := by decide +kernel
theorem d12_5 : decode jdk_42_method_155_code 5 = .ok (.invokestatic 1059, 3) := by decide +kernel
theorem d12_8 : decode jdk_42_method_155_code 8 = .ok (.pop, 1) := by decide +kernel
theorem d12_9 : decode jdk_42_method_155_code 9 = .ok (.return_, 1) := by decide +kernel
theorem d13_0 : decode jdk_41_method_11_code 0 = .ok (.iload_n 0, 1) := by decide +kernel
theorem d13_1 : decode jdk_41_method_11_code 1 = .ok (.ifCond .lt 8, 3) := by decide +kernel
theorem d13_4 : decode jdk_41_method_11_code 4 = .ok (.iload_n 0, 1) := by decide +kernel
theorem d13_5 : decode jdk_41_method_11_code 5 = .ok (.iload_n 1, 1) := by decide +kernel
theorem d13_6 : decode jdk_41_method_11_code 6 = .ok (.if_icmp .lt 10, 3) := by decide +kernel
theorem d13_16 : decode jdk_41_method_11_code 16 = .ok (.iload_n 0, 1) := by decide +kernel
theorem d13_17 : decode jdk_41_method_11_code 17 = .ok (.ireturn, 1) := by decide +kernel
theorem d14_0 : decode prog_5_method_6_code 0 = .ok (.aload_n 0, 1) := by decide +kernel
theorem d14_1 : decode prog_5_method_6_code 1 = .ok (.getfield 39, 3) := by decide +kernel
theorem d14_4 : decode prog_5_method_6_code 4 = .ok (.ldc2_w 49, 3) := by decide +kernel
theorem d14_7 : decode prog_5_method_6_code 7 = .ok (.lcmp, 1) := by decide +kernel
theorem d14_8 : decode prog_5_method_6_code 8 = .ok (.ifCond .le 7, 3) := by decide +kernel
theorem d14_11 : decode prog_5_method_6_code 11 = .ok (.ldc2_w 51, 3) := by decide +kernel
theorem d14_14 : decode prog_5_method_6_code 14 = .ok (.lreturn, 1) := by decide +kernel
theorem d14_15 : decode prog_5_method_6_code 15 = .ok (.aload_n 0, 1) := by decide +kernel
theorem d14_16 : decode prog_5_method_6_code 16 = .ok (.getfield 39, 3) := by decide +kernel
theorem d14_19 : decode prog_5_method_6_code 19 = .ok (.ldc2_w 53, 3) := by decide +kernel
theorem d14_22 : decode prog_5_method_6_code 22 = .ok (.lmul, 1) := by decide +kernel
theorem d14_23 : decode prog_5_method_6_code 23 = .ok (.lstore_n 3, 1) := by decide +kernel
theorem d14_24 : decode prog_5_method_6_code 24 = .ok (.lload_n 1, 1) := by decide +kernel
theorem d14_25 : decode prog_5_method_6_code 25 = .ok (.ldc2_w 51, 3) := by decide +kernel
theorem d14_28 : decode prog_5_method_6_code 28 = .ok (.lload_n 3, 1) := by decide +kernel
theorem d14_29 : decode prog_5_method_6_code 29 = .ok (.ladd, 1) := by decide +kernel
theorem d14_30 : decode prog_5_method_6_code 30 = .ok (.lcmp, 1) := by decide +kernel
theorem d14_31 : decode prog_5_method_6_code 31 = .ok (.ifCond .ge 9, 3) := by decide +kernel
theorem d14_34 : decode prog_5_method_6_code 34 = .ok (.ldc2_w 51, 3) := by decide +kernel
theorem d14_37 : decode prog_5_method_6_code 37 = .ok (.goto 6, 3) := by decide +kernel
theorem d14_40 : decode prog_5_method_6_code 40 = .ok (.lload_n 1, 1) := by decide +kernel
theorem d14_41 : decode prog_5_method_6_code 41 = .ok (.lload_n 3, 1) := by decide +kernel
theorem d14_42 : decode prog_5_method_6_code 42 = .ok (.lsub, 1) := by decide +kernel
theorem d14_43 : decode prog_5_method_6_code 43 = .ok (.lreturn, 1) := by decide +kernel
theorem d15_0 : decode method_2_code 0 = .ok (.lload_n 2, 1) := by decide +kernel
theorem d15_1 : decode method_2_code 1 = .ok (.ldc2_w 7, 3) := by decide +kernel
theorem d15_4 : decode method_2_code 4 = .ok (.lcmp, 1) := by decide +kernel
theorem d15_5 : decode method_2_code 5 = .ok (.ifCond .lt 7, 3) := by decide +kernel
theorem d15_8 : decode method_2_code 8 = .ok (.ldc2_w 11, 3) := by decide +kernel
theorem d15_11 : decode method_2_code 11 = .ok (.lreturn, 1) := by decide +kernel
theorem d15_12 : decode method_2_code 12 = .ok (.lload_n 0, 1) := by decide +kernel
theorem d15_13 : decode method_2_code 13 = .ok (.ldc2_w 15, 3) := by decide +kernel
theorem d15_16 : decode method_2_code 16 = .ok (.ldiv, 1) := by decide +kernel
theorem d15_17 : decode method_2_code 17 = .ok (.lstore 4, 2) := by decide +kernel
theorem d15_19 : decode method_2_code 19 = .ok (.lload_n 0, 1) := by decide +kernel
theorem d15_20 : decode method_2_code 20 = .ok (.ldc2_w 15, 3) := by decide +kernel
theorem d15_23 : decode method_2_code 23 = .ok (.lrem, 1) := by decide +kernel
theorem d15_24 : decode method_2_code 24 = .ok (.lstore 6, 2) := by decide +kernel
theorem d15_26 : decode method_2_code 26 = .ok (.lload 6, 2) := by decide +kernel
theorem d15_28 : decode method_2_code 28 = .ok (.lconst 0, 1) := by decide +kernel
theorem d15_29 : decode method_2_code 29 = .ok (.lcmp, 1) := by decide +kernel
theorem d15_30 : decode method_2_code 30 = .ok (.ifCond .ge 17, 3) := by decide +kernel
theorem d15_33 : decode method_2_code 33 = .ok (.lload 6, 2) := by decide +kernel
theorem d15_35 : decode method_2_code 35 = .ok (.ldc2_w 15, 3) := by decide +kernel
theorem d15_38 : decode method_2_code 38 = .ok (.ladd, 1) := by decide +kernel
theorem d15_39 : decode method_2_code 39 = .ok (.lstore 6, 2) := by decide +kernel
theorem d15_41 : decode method_2_code 41 = .ok (.lload 4, 2) := by decide +kernel
theorem d15_43 : decode method_2_code 43 = .ok (.lconst 1, 1) := by decide +kernel
theorem d15_44 : decode method_2_code 44 = .ok (.lsub, 1) := by decide +kernel
theorem d15_45 : decode method_2_code 45 = .ok (.lstore 4, 2) := by decide +kernel
theorem d15_47 : decode method_2_code 47 = .ok (.lload 4, 2) := by decide +kernel
theorem d15_49 : decode method_2_code 49 = .ok (.lload_n 2, 1) := by decide +kernel
theorem d15_50 : decode method_2_code 50 = .ok (.lsub, 1) := by decide +kernel
theorem d15_51 : decode method_2_code 51 = .ok (.lstore 8, 2) := by decide +kernel
theorem d15_53 : decode method_2_code 53 = .ok (.lload 8, 2) := by decide +kernel
theorem d15_55 : decode method_2_code 55 = .ok (.ldc2_w 17, 3) := by decide +kernel
theorem d15_58 : decode method_2_code 58 = .ok (.lcmp, 1) := by decide +kernel
theorem d15_59 : decode method_2_code 59 = .ok (.ifCond .lt 21, 3) := by decide +kernel
theorem d15_62 : decode method_2_code 62 = .ok (.lload 8, 2) := by decide +kernel
theorem d15_64 : decode method_2_code 64 = .ok (.ldc2_w 17, 3) := by decide +kernel
theorem d15_67 : decode method_2_code 67 = .ok (.lcmp, 1) := by decide +kernel
theorem d15_68 : decode method_2_code 68 = .ok (.ifCond .ne 16, 3) := by decide +kernel
theorem d15_71 : decode method_2_code 71 = .ok (.lload 6, 2) := by decide +kernel
theorem d15_73 : decode method_2_code 73 = .ok (.ldc2_w 19, 3) := by decide +kernel
theorem d15_76 : decode method_2_code 76 = .ok (.lcmp, 1) := by decide +kernel
theorem d15_77 : decode method_2_code 77 = .ok (.ifCond .gt 7, 3) := by decide +kernel
theorem d15_80 : decode method_2_code 80 = .ok (.ldc2_w 11, 3) := by decide +kernel
theorem d15_83 : decode method_2_code 83 = .ok (.lreturn, 1) := by decide +kernel
theorem d15_84 : decode method_2_code 84 = .ok (.lload 8, 2) := by decide +kernel
theorem d15_86 : decode method_2_code 86 = .ok (.lconst 1, 1) := by decide +kernel
theorem d15_87 : decode method_2_code 87 = .ok (.ladd, 1) := by decide +kernel
theorem d15_88 : decode method_2_code 88 = .ok (.ldc2_w 15, 3) := by decide +kernel
theorem d15_91 : decode method_2_code 91 = .ok (.lmul, 1) := by decide +kernel
theorem d15_92 : decode method_2_code 92 = .ok (.lload 6, 2) := by decide +kernel
theorem d15_94 : decode method_2_code 94 = .ok (.ldc2_w 15, 3) := by decide +kernel
theorem d15_97 : decode method_2_code 97 = .ok (.lsub, 1) := by decide +kernel
theorem d15_98 : decode method_2_code 98 = .ok (.ladd, 1) := by decide +kernel
theorem d15_99 : decode method_2_code 99 = .ok (.lreturn, 1) := by decide +kernel
theorem own_pn0 : plainName "java/lang/Record" = true := by first | (simp [plainName, overriddenIn]; done) | decide +kernel
theorem own_pn1 : plainName "java/util/Objects" = true := by first | (simp [plainName, overriddenIn]; done) | decide +kernel
theorem own_pn2 : plainName "java/lang/String" = true := by first | (simp [plainName, overriddenIn]; done) | decide +kernel
theorem own_pn3 : plainName "jdk/internal/util/Preconditions" = true := by first | (simp [plainName, overriddenIn]; done) | decide +kernel
theorem own_pn4 : plainName "java/lang/StringLatin1" = true := by first | (simp [plainName, overriddenIn]; done) | decide +kernel
theorem own_pn5 : plainName "com/example/sorted_map_store/sortedmapstore/Column" = true := by first | (simp [plainName, overriddenIn]; done) | decide +kernel
theorem own_pn6 : plainName "com/example/sorted_map_store/sortedmapstore/ColumnFamily" = true := by first | (simp [plainName, overriddenIn]; done) | decide +kernel
theorem own_pn7 : plainName "com/example/sorted_map_store/sortedmapstore/ColumnFamilyOldestKeptPinLaw" = true := by first | (simp [plainName, overriddenIn]; done) | decide +kernel
theorem own_pd0 : parseMethodDescriptor "()B" = some ⟨[], some .byte⟩ := by decide +kernel
theorem own_pd1 : parseMethodDescriptor "(IILjava/util/function/BiFunction;)I" = some ⟨[.int, .int, (.object "java/util/function/BiFunction")], some .int⟩ := by decide +kernel
theorem own_pd2 : parseMethodDescriptor "(II)V" = some ⟨[.int, .int], none⟩ := by decide +kernel
theorem own_pd3 : parseMethodDescriptor "()Z" = some ⟨[], some .boolean⟩ := by decide +kernel
theorem own_pd4 : parseMethodDescriptor "([BI)C" = some ⟨[(.array .byte), .int], some .char⟩ := by decide +kernel
theorem own_pd5 : parseMethodDescriptor "(Ljava/lang/Object;Ljava/lang/String;)Ljava/lang/Object;" = some ⟨[(.object "java/lang/Object"), (.object "java/lang/String")], some (.object "java/lang/Object")⟩ := by decide +kernel
theorem own_pd6 : parseMethodDescriptor "()I" = some ⟨[], some .int⟩ := by decide +kernel
theorem own_pd7 : parseMethodDescriptor "(I)C" = some ⟨[.int], some .char⟩ := by decide +kernel
theorem own_pd8 : parseMethodDescriptor "()V" = some ⟨[], none⟩ := by decide +kernel
theorem own_pd9 : parseMethodDescriptor "(Ljava/lang/String;)Ljava/lang/String;" = some ⟨[(.object "java/lang/String")], some (.object "java/lang/String")⟩ := by decide +kernel
theorem own_pd10 : parseMethodDescriptor "(Ljava/lang/String;IJ)V" = some ⟨[(.object "java/lang/String"), .int, .long], none⟩ := by decide +kernel
theorem own_pd11 : parseMethodDescriptor "(J)J" = some ⟨[.long], some .long⟩ := by decide +kernel
theorem own_pd12 : parseMethodDescriptor "(JJ)J" = some ⟨[.long, .long], some .long⟩ := by decide +kernel
theorem own_sa {Z : State} {a0 : Array Value} (hw : ∀ d ∈ tables_1, d.before a0 Z = true) : ∀ a ∈ Bundle.stringAtoms, a.before a0 Z = true := by
  intro a ha
  simp only [Bundle.stringAtoms, List.mem_cons, List.not_mem_nil, or_false] at ha
  rcases ha with rfl | rfl | rfl | rfl | rfl | rfl | rfl
  · exact hw _ (List.mem_of_getElem? (i := 5) rfl)
  · exact hw _ (List.mem_of_getElem? (i := 6) rfl)
  · exact hw _ (List.mem_of_getElem? (i := 7) rfl)
  · exact hw _ (List.mem_of_getElem? (i := 8) rfl)
  · exact hw _ (List.mem_of_getElem? (i := 9) rfl)
  · exact hw _ (List.mem_of_getElem? (i := 10) rfl)
  · exact hw _ (List.mem_of_getElem? (i := 11) rfl)
theorem own_arv {Z : State} {h : Heap} {a : Addr} {k : ClassId} {ty : FieldType} {z : Int32} {vs : List Value} {d : Value} {n : Nat} (F : Arv Z h a k ty z vs d) (hn : z.toNatClampNeg = n) : OwnA Z h a ty n (fun i => vs.getD i d) := by
  obtain ⟨c, A, q1, q2, q3, H, G⟩ := F
  subst hn
  exact ⟨c, A, q2, fun i hi => H i (by omega), fun i hi => G i (by omega)⟩
def own_cf : Nat → Value := fun i => ([.int 99, .int 102] : List Value).getD i (.int 0)
def QN (x : Int32) (h0 : Heap) (n0 : Nat) (v : Option Value) (h : Heap) (L : List Loc) : Prop := v = some (.int x) ∧ Fr n0 L ∧ h = h0
def QJ (x : Int64) (h0 : Heap) (n0 : Nat) (v : Option Value) (h : Heap) (L : List Loc) : Prop := v = some (.long x) ∧ Fr n0 L ∧ h = h0
def QA (x : Addr) (h0 : Heap) (n0 : Nat) (v : Option Value) (h : Heap) (L : List Loc) : Prop := v = some (.ref x) ∧ Fr n0 L ∧ h = h0
def QV (h0 : Heap) (n0 : Nat) (v : Option Value) (h : Heap) (L : List Loc) : Prop := v = none ∧ Fr n0 L ∧ h = h0
set_option maxRecDepth 65536 in
set_option maxHeartbeats 40000000 in
theorem rmR (l : Launch) (Z : State) (a0 : Array Value) (hw : ∀ d ∈ tables_1, d.before a0 Z = true) (ws : List Jvm.Cond) (a1 : Addr) (h0 : Heap) (n0 : Nat) (Z0 : n0 ≤ h0.size)  :
    MetFree l (⟨"java/lang/Record", "<init>", "()V"⟩ : MethodName) (head1 (Jvm.Cond.code (⟨"java/lang/Record", "<init>", "()V"⟩ : MethodName) jdk_30_method_1_code 1 none :: ws) ({ frames := 1, cells := 0, slots := 0, locals := 12 } : Room)) (fun a U => a = #[(.ref a1)] ∧ Z.Warmed39 U.vm ∧ U.heap = h0) (fun _ _ _ _ _ => True) (fun _ U o U' => ∃ v L, o = .returned v ∧ QV h0 n0 v U'.heap L ∧ FrameEnd U o U' L ({ frames := 1, cells := 0, slots := 0, locals := 12 } : Room).cells ({ frames := 1, cells := 0, slots := 0, locals := 12 } : Room).slots) := by
  refine MetFree.of_bodySF (plainFor_of_name own_pn0) hisR ?_
  intro p e s m args below meth c s₁ Bd hml0 hP hK
  obtain ⟨rfl, hZ, hh⟩ := hP
  have hx := Bd.exec
  have hby := Bd.bytes
  have hml : c.maxLocals = 1 := hml0
  have hown : s.vm.findClass "java/lang/Record" = some m.cls := findClass_of_methodNamed Bd.named
  have hnm := (name_of_methodNamed Bd.named Bd.method).1
  have X0 : Stand p l e ({ frames := 1, cells := 0, slots := 0, locals := 12 } : Room) s m #[(.ref a1)] below meth c s₁ [] 0 0 := Stand.of_body Bd
  have e0 : s₁.heap = h0 := by rw [← hh, Bd.state]; rfl
  have N0 := Fr.nil n0
  have ef : entryFrame m #[(.ref a1)] 1 = mkF m 0 #[.val (.ref a1)] [] := by first | (simp [entryFrame, mkF, argsToLocals, Value.category]; done) | rfl
  have pre0 : ∀ t, Steps p.tables e below (s₁.setTop (mkF m 0 #[.val (.ref a1)] [])) t → Steps p.tables e below (s₁.setTop (entryFrame m #[(.ref a1)] 1)) t := fun t k => castTop ef k
  obtain ⟨T101, X101, e101, st101⟩ := initO X0 hx hZ hown (hw _ (List.mem_of_getElem? (i := 20) rfl)) (hw _ (List.mem_of_getElem? (i := 21) rfl)) (hw _ (List.mem_of_getElem? (i := 22) rfl)) e0 (g := (mkF m 1 #[.val (.ref a1)] [(.ref a1)])) rfl (by rw [hml]; rfl) rfl (hb hby d2_1) (by decide) (W := 0) (by show 2 * 0 + _ ≤ _; exact Nat.le_of_eq rfl) (by decide)
  obtain ⟨fs, hr, hrun, hended, hW, hsame⟩ := X101.leave (v := none) (fun _ => rfl) (hlocks := Bd.notSynchronized)
  refine ⟨_, _, pre0 _ ?_, hrun, hended, _, _, rfl, ?_, ⟨_, rfl⟩, hW, hsame.mono (by decide) (by decide)⟩
  · show Steps p.tables e below (s₁.setTop (mkF m 0 #[.val (.ref a1)] [])) _
    refine XS.aloadN X0.here hx rfl (hb hby d2_0) rfl rfl ?_
    show Steps p.tables e below (s₁.setTop (mkF m 1 #[.val (.ref a1)] [(.ref a1)])) _
    refine st101 _ ?_
    show Steps p.tables e below (T101.setTop (mkF m 4 #[.val (.ref a1)] [])) _
    exact X101.returnOut hx Bd.returns (hb hby d2_4) hr
  · show QV h0 n0 _ T101.heap _
    rw [e101]
    exact ⟨rfl, N0, rfl⟩
set_option maxRecDepth 65536 in
set_option maxHeartbeats 40000000 in
theorem rm_rnn (l : Launch) (Z : State) (a0 : Array Value) (hw : ∀ d ∈ tables_1, d.before a0 Z = true) (ws : List Jvm.Cond) (a1 : Addr) (a2 : Addr) (h0 : Heap) (n0 : Nat) (Z0 : n0 ≤ h0.size)  :
    MetFree l (⟨"java/util/Objects", "requireNonNull", "(Ljava/lang/Object;Ljava/lang/String;)Ljava/lang/Object;"⟩ : MethodName) (head1 (Jvm.Cond.code (⟨"java/util/Objects", "requireNonNull", "(Ljava/lang/Object;Ljava/lang/String;)Ljava/lang/Object;"⟩ : MethodName) jdk_31_method_11_code 2 (some (.object "java/lang/Object")) :: ws) ({ frames := 0, cells := 0, slots := 0, locals := 0 } : Room)) (fun a U => a = #[(.ref a1), (.ref a2)] ∧ Z.Warmed39 U.vm ∧ U.heap = h0) (fun _ _ _ _ _ => True) (fun _ U o U' => ∃ v L, o = .returned v ∧ QA a1 h0 n0 v U'.heap L ∧ FrameEnd U o U' L ({ frames := 0, cells := 0, slots := 0, locals := 0 } : Room).cells ({ frames := 0, cells := 0, slots := 0, locals := 0 } : Room).slots) := by
  refine MetFree.of_bodySF (plainFor_of_name own_pn1) hisR ?_
  intro p e s m args below meth c s₁ Bd hml0 hP hK
  obtain ⟨rfl, hZ, hh⟩ := hP
  have hx := Bd.exec
  have hby := Bd.bytes
  have hml : c.maxLocals = 2 := hml0
  have hown : s.vm.findClass "java/util/Objects" = some m.cls := findClass_of_methodNamed Bd.named
  have hnm := (name_of_methodNamed Bd.named Bd.method).1
  have X0 : Stand p l e ({ frames := 0, cells := 0, slots := 0, locals := 0 } : Room) s m #[(.ref a1), (.ref a2)] below meth c s₁ [] 0 0 := Stand.of_body Bd
  have e0 : s₁.heap = h0 := by rw [← hh, Bd.state]; rfl
  have N0 := Fr.nil n0
  have ef : entryFrame m #[(.ref a1), (.ref a2)] 2 = mkF m 0 #[.val (.ref a1), .val (.ref a2)] [] := by first | (simp [entryFrame, mkF, argsToLocals, Value.category]; done) | rfl
  have pre0 : ∀ t, Steps p.tables e below (s₁.setTop (mkF m 0 #[.val (.ref a1), .val (.ref a2)] [])) t → Steps p.tables e below (s₁.setTop (entryFrame m #[(.ref a1), (.ref a2)] 2)) t := fun t k => castTop ef k
  obtain ⟨fs, hr, hrun, hended, hW, hsame⟩ := X0.leave (v := some (.ref a1)) (fun h => by rw [Bd.returns] at h; cases h) (hlocks := Bd.notSynchronized)
  refine ⟨_, _, pre0 _ ?_, hrun, hended, _, _, rfl, ?_, ⟨_, rfl⟩, hW, hsame.mono (by decide) (by decide)⟩
  · show Steps p.tables e below (s₁.setTop (mkF m 0 #[.val (.ref a1), .val (.ref a2)] [])) _
    refine XS.aloadN X0.here hx rfl (hb hby d5_0) rfl rfl ?_
    show Steps p.tables e below (s₁.setTop (mkF m 1 #[.val (.ref a1), .val (.ref a2)] [(.ref a1)])) _
    refine XS.ifnonnullYes X0.here hx rfl (pc0 := 1) (pc' := 13) rfl (hb hby d5_1) rfl (by decide) (by decide) ?_
    show Steps p.tables e below (s₁.setTop (mkF m 13 #[.val (.ref a1), .val (.ref a2)] [])) _
    refine XS.aloadN X0.here hx rfl (hb hby d5_13) rfl rfl ?_
    show Steps p.tables e below (s₁.setTop (mkF m 14 #[.val (.ref a1), .val (.ref a2)] [(.ref a1)])) _
    exact own_retA X0 hx (t := (.object "java/lang/Object")) rfl Bd.returns (hb hby d5_14) hr
  · show QA a1 h0 n0 _ s₁.heap _
    rw [e0]
    exact ⟨rfl, N0, rfl⟩
set_option maxRecDepth 65536 in
set_option maxHeartbeats 40000000 in
theorem rm_emp (l : Launch) (Z : State) (a0 : Array Value) (hw : ∀ d ∈ tables_1, d.before a0 Z = true) (ws : List Jvm.Cond) (a1 : Addr) (ab : Addr) (cs : Int32) (gv : Value) (h0 : Heap) (n0 : Nat) (Z0 : n0 ≤ h0.size) (Es : Exa Z h0 a1 "java/lang/String") (Fv : Fld Z h0 a1 "java/lang/String" "value" "[B" (.ref ab)) (Fc : Fld Z h0 a1 "java/lang/String" "coder" "B" (.int (0 : Int32))) (Ab : OwnA Z h0 ab .byte 2 own_cf) (O0 : Old Z n0 h0) (Sc : Sta Z Z.heap "java/lang/String" "COMPACT_STRINGS" "Z" (.int cs)) (hcs : ¬ (cs = (0 : Int32))) (Sg : Sta Z Z.heap "jdk/internal/util/Preconditions" "SIOOBE_FORMATTER" "Ljava/util/function/BiFunction;" gv) (hgv : gv.isRef = true) :
    MetFree l (⟨"java/lang/String", "isEmpty", "()Z"⟩ : MethodName) (head1 (Jvm.Cond.code (⟨"java/lang/String", "isEmpty", "()Z"⟩ : MethodName) jdk_42_method_55_code 1 (some .boolean) :: ws) ({ frames := 0, cells := 0, slots := 0, locals := 0 } : Room)) (fun a U => a = #[(.ref a1)] ∧ Z.Warmed39 U.vm ∧ U.heap = h0) (fun _ _ _ _ _ => True) (fun _ U o U' => ∃ v L, o = .returned v ∧ QN (0 : Int32) h0 n0 v U'.heap L ∧ FrameEnd U o U' L ({ frames := 0, cells := 0, slots := 0, locals := 0 } : Room).cells ({ frames := 0, cells := 0, slots := 0, locals := 0 } : Room).slots) := by
  refine MetFree.of_bodySF (plainFor_of_name own_pn2) hisR ?_
  intro p e s m args below meth c s₁ Bd hml0 hP hK
  obtain ⟨rfl, hZ, hh⟩ := hP
  have hx := Bd.exec
  have hby := Bd.bytes
  have hml : c.maxLocals = 1 := hml0
  have hown : s.vm.findClass "java/lang/String" = some m.cls := findClass_of_methodNamed Bd.named
  have hnm := (name_of_methodNamed Bd.named Bd.method).1
  have X0 : Stand p l e ({ frames := 0, cells := 0, slots := 0, locals := 0 } : Room) s m #[(.ref a1)] below meth c s₁ [] 0 0 := Stand.of_body Bd
  have e0 : s₁.heap = h0 := by rw [← hh, Bd.state]; rfl
  have N0 := Fr.nil n0
  have ef : entryFrame m #[(.ref a1)] 1 = mkF m 0 #[.val (.ref a1)] [] := by first | (simp [entryFrame, mkF, argsToLocals, Value.category]; done) | rfl
  have pre0 : ∀ t, Steps p.tables e below (s₁.setTop (mkF m 0 #[.val (.ref a1)] [])) t → Steps p.tables e below (s₁.setTop (entryFrame m #[(.ref a1)] 1)) t := fun t k => castTop ef k
  obtain ⟨T101, X101, e101, st101⟩ := getF X0 hx hZ hown (host := "") (Or.inl (hw _ (List.mem_of_getElem? (i := 37) rfl))) Via.refl e0 Fv (g := (mkF m 1 #[.val (.ref a1)] [(.ref a1)])) rfl rfl (hb hby d6_1)
  obtain ⟨fs, hr, hrun, hended, hW, hsame⟩ := X101.leave (v := some (.int (0 : Int32))) (fun h => by rw [Bd.returns] at h; cases h) (hlocks := Bd.notSynchronized)
  refine ⟨_, _, pre0 _ ?_, hrun, hended, _, _, rfl, ?_, ⟨_, rfl⟩, hW, hsame.mono (by decide) (by decide)⟩
  · show Steps p.tables e below (s₁.setTop (mkF m 0 #[.val (.ref a1)] [])) _
    refine XS.aloadN X0.here hx rfl (hb hby d6_0) rfl rfl ?_
    show Steps p.tables e below (s₁.setTop (mkF m 1 #[.val (.ref a1)] [(.ref a1)])) _
    refine st101 _ ?_
    show Steps p.tables e below (T101.setTop (mkF m 4 #[.val (.ref a1)] [(.ref ab)])) _
    refine own_len X101 hx hZ e101 Ab (z := (2 : Int32)) rfl (g := (mkF m 4 #[.val (.ref a1)] [(.ref ab)])) rfl rfl (hb hby d6_4) _ ?_
    show Steps p.tables e below (T101.setTop (mkF m 5 #[.val (.ref a1)] [(.int (2 : Int32))])) _
    refine XS.ifYes X101.here hx rfl (pc0 := 5) (pc' := 12) rfl (hb hby d6_5) rfl ((if0 _ _).trans (feq (by decide : ¬ (2 : Int32) = (0 : Int32))).2) (by decide) (by decide) ?_
    show Steps p.tables e below (T101.setTop (mkF m 12 #[.val (.ref a1)] [])) _
    refine XS.iconst X101.here hx rfl (hb hby d6_12) ?_
    show Steps p.tables e below (T101.setTop (mkF m 13 #[.val (.ref a1)] [(.int (0 : Int32))])) _
    exact retN X101 hx (t := .boolean) Bd.returns (by simp) (hb hby d6_13) hr
  · show QN (0 : Int32) h0 n0 _ T101.heap _
    rw [e101]
    exact ⟨rfl, N0, rfl⟩
set_option maxRecDepth 65536 in
set_option maxHeartbeats 40000000 in
theorem rm_coder (l : Launch) (Z : State) (a0 : Array Value) (hw : ∀ d ∈ tables_1, d.before a0 Z = true) (ws : List Jvm.Cond) (a1 : Addr) (ab : Addr) (cs : Int32) (gv : Value) (h0 : Heap) (n0 : Nat) (Z0 : n0 ≤ h0.size) (Es : Exa Z h0 a1 "java/lang/String") (Fv : Fld Z h0 a1 "java/lang/String" "value" "[B" (.ref ab)) (Fc : Fld Z h0 a1 "java/lang/String" "coder" "B" (.int (0 : Int32))) (Ab : OwnA Z h0 ab .byte 2 own_cf) (O0 : Old Z n0 h0) (Sc : Sta Z Z.heap "java/lang/String" "COMPACT_STRINGS" "Z" (.int cs)) (hcs : ¬ (cs = (0 : Int32))) (Sg : Sta Z Z.heap "jdk/internal/util/Preconditions" "SIOOBE_FORMATTER" "Ljava/util/function/BiFunction;" gv) (hgv : gv.isRef = true) :
    MetFree l (⟨"java/lang/String", "coder", "()B"⟩ : MethodName) (head1 (Jvm.Cond.code (⟨"java/lang/String", "coder", "()B"⟩ : MethodName) jdk_42_method_152_code 1 (some .byte) :: ws) ({ frames := 0, cells := 0, slots := 0, locals := 0 } : Room)) (fun a U => a = #[(.ref a1)] ∧ Z.Warmed39 U.vm ∧ U.heap = h0) (fun _ _ _ _ _ => True) (fun _ U o U' => ∃ v L, o = .returned v ∧ QN (0 : Int32) h0 n0 v U'.heap L ∧ FrameEnd U o U' L ({ frames := 0, cells := 0, slots := 0, locals := 0 } : Room).cells ({ frames := 0, cells := 0, slots := 0, locals := 0 } : Room).slots) := by
  refine MetFree.of_bodySF (plainFor_of_name own_pn2) hisR ?_
  intro p e s m args below meth c s₁ Bd hml0 hP hK
  obtain ⟨rfl, hZ, hh⟩ := hP
  have hx := Bd.exec
  have hby := Bd.bytes
  have hml : c.maxLocals = 1 := hml0
  have hown : s.vm.findClass "java/lang/String" = some m.cls := findClass_of_methodNamed Bd.named
  have hnm := (name_of_methodNamed Bd.named Bd.method).1
  have X0 : Stand p l e ({ frames := 0, cells := 0, slots := 0, locals := 0 } : Room) s m #[(.ref a1)] below meth c s₁ [] 0 0 := Stand.of_body Bd
  have e0 : s₁.heap = h0 := by rw [← hh, Bd.state]; rfl
  have N0 := Fr.nil n0
  have ef : entryFrame m #[(.ref a1)] 1 = mkF m 0 #[.val (.ref a1)] [] := by first | (simp [entryFrame, mkF, argsToLocals, Value.category]; done) | rfl
  have pre0 : ∀ t, Steps p.tables e below (s₁.setTop (mkF m 0 #[.val (.ref a1)] [])) t → Steps p.tables e below (s₁.setTop (entryFrame m #[(.ref a1)] 1)) t := fun t k => castTop ef k
  obtain ⟨T101, X101, e101, st101⟩ := getS X0 hx hZ (host := "") hown (hw _ (List.mem_of_getElem? (i := 48) rfl)) Via.refl e0 (Sc.ext O0.2) (g := (mkF m 0 #[.val (.ref a1)] [])) rfl (hb hby d8_0)
  obtain ⟨T102, X102, e102, st102⟩ := getF X101 hx hZ hown (host := "") (Or.inl (hw _ (List.mem_of_getElem? (i := 49) rfl))) Via.refl e101 Fc (g := (mkF m 7 #[.val (.ref a1)] [(.ref a1)])) rfl rfl (hb hby d8_7)
  obtain ⟨fs, hr, hrun, hended, hW, hsame⟩ := X102.leave (v := some (.int (0 : Int32))) (fun h => by rw [Bd.returns] at h; cases h) (hlocks := Bd.notSynchronized)
  refine ⟨_, _, pre0 _ ?_, hrun, hended, _, _, rfl, ?_, ⟨_, rfl⟩, hW, hsame.mono (by decide) (by decide)⟩
  · show Steps p.tables e below (s₁.setTop (mkF m 0 #[.val (.ref a1)] [])) _
    refine st101 _ ?_
    show Steps p.tables e below (T101.setTop (mkF m 3 #[.val (.ref a1)] [(.int cs)])) _
    refine XS.ifNo X101.here hx rfl (hb hby d8_3) rfl ((if0 _ _).trans (feq hcs).1) ?_
    show Steps p.tables e below (T101.setTop (mkF m 6 #[.val (.ref a1)] [])) _
    refine XS.aloadN X101.here hx rfl (hb hby d8_6) rfl rfl ?_
    show Steps p.tables e below (T101.setTop (mkF m 7 #[.val (.ref a1)] [(.ref a1)])) _
    refine st102 _ ?_
    show Steps p.tables e below (T102.setTop (mkF m 10 #[.val (.ref a1)] [(.int (0 : Int32))])) _
    refine XS.goto X102.here hx rfl (pc0 := 10) (pc' := 14) rfl (hb hby d8_10) (by decide) (by decide) ?_
    show Steps p.tables e below (T102.setTop (mkF m 14 #[.val (.ref a1)] [(.int (0 : Int32))])) _
    exact retN X102 hx (t := .byte) Bd.returns (by simp) (hb hby d8_14) hr
  · show QN (0 : Int32) h0 n0 _ T102.heap _
    rw [e102]
    exact ⟨rfl, N0, rfl⟩
theorem own_sh2 : ((2 : Int32) >>> ((0 : Int32) &&& 31)) = (2 : Int32) := by decide
set_option maxRecDepth 65536 in
set_option maxHeartbeats 40000000 in
theorem rm_len (l : Launch) (Z : State) (a0 : Array Value) (hw : ∀ d ∈ tables_1, d.before a0 Z = true) (ws : List Jvm.Cond) (a1 : Addr) (ab : Addr) (cs : Int32) (gv : Value) (h0 : Heap) (n0 : Nat) (Z0 : n0 ≤ h0.size) (Es : Exa Z h0 a1 "java/lang/String") (Fv : Fld Z h0 a1 "java/lang/String" "value" "[B" (.ref ab)) (Fc : Fld Z h0 a1 "java/lang/String" "coder" "B" (.int (0 : Int32))) (Ab : OwnA Z h0 ab .byte 2 own_cf) (O0 : Old Z n0 h0) (Sc : Sta Z Z.heap "java/lang/String" "COMPACT_STRINGS" "Z" (.int cs)) (hcs : ¬ (cs = (0 : Int32))) (Sg : Sta Z Z.heap "jdk/internal/util/Preconditions" "SIOOBE_FORMATTER" "Ljava/util/function/BiFunction;" gv) (hgv : gv.isRef = true) :
    MetFree l (⟨"java/lang/String", "length", "()I"⟩ : MethodName) (head1 (Jvm.Cond.code (⟨"java/lang/String", "length", "()I"⟩ : MethodName) jdk_42_method_54_code 1 (some .int) :: ws) ({ frames := 1, cells := 0, slots := 0, locals := 13 } : Room)) (fun a U => a = #[(.ref a1)] ∧ Z.Warmed39 U.vm ∧ U.heap = h0) (fun _ _ _ _ _ => True) (fun _ U o U' => ∃ v L, o = .returned v ∧ QN (2 : Int32) h0 n0 v U'.heap L ∧ FrameEnd U o U' L ({ frames := 1, cells := 0, slots := 0, locals := 13 } : Room).cells ({ frames := 1, cells := 0, slots := 0, locals := 13 } : Room).slots) := by
  refine MetFree.of_bodySF (plainFor_of_name own_pn2) hisR ?_
  intro p e s m args below meth c s₁ Bd hml0 hP hK
  obtain ⟨rfl, hZ, hh⟩ := hP
  have hx := Bd.exec
  have hby := Bd.bytes
  have hml : c.maxLocals = 1 := hml0
  have hown : s.vm.findClass "java/lang/String" = some m.cls := findClass_of_methodNamed Bd.named
  have hnm := (name_of_methodNamed Bd.named Bd.method).1
  have X0 : Stand p l e ({ frames := 1, cells := 0, slots := 0, locals := 13 } : Room) s m #[(.ref a1)] below meth c s₁ [] 0 0 := Stand.of_body Bd
  have e0 : s₁.heap = h0 := by rw [← hh, Bd.state]; rfl
  have N0 := Fr.nil n0
  have ef : entryFrame m #[(.ref a1)] 1 = mkF m 0 #[.val (.ref a1)] [] := by first | (simp [entryFrame, mkF, argsToLocals, Value.category]; done) | rfl
  have pre0 : ∀ t, Steps p.tables e below (s₁.setTop (mkF m 0 #[.val (.ref a1)] [])) t → Steps p.tables e below (s₁.setTop (entryFrame m #[(.ref a1)] 1)) t := fun t k => castTop ef k
  obtain ⟨T101, X101, e101, st101⟩ := getF X0 hx hZ hown (host := "") (Or.inl (hw _ (List.mem_of_getElem? (i := 37) rfl))) Via.refl e0 Fv (g := (mkF m 1 #[.val (.ref a1)] [(.ref a1)])) rfl rfl (hb hby d7_1)
  obtain ⟨cq102, kq102, q102a, q102b, q102c⟩ := isOf hZ e101 Es
  obtain ⟨_, _, ⟨T102, L102, k102, n102⟩, -, X102, ⟨Lc102, hQ102, l102, y102, z102⟩, st102⟩ := X101.virtualBack hx (y := (⟨"java/lang/String", "coder", "()B"⟩ : MethodName)) (z := (⟨"java/lang/String", "coder", "()B"⟩ : MethodName)) hown (mvT hZ (hw _ (List.mem_of_getElem? (i := 43) rfl))) (mvT hZ (hw _ (List.mem_of_getElem? (i := 44) rfl))) (notFace_of_selects (args := #[]) (mvT hZ (hw _ (List.mem_of_getElem? (i := 46) rfl)))) (mvT hZ (hw _ (List.mem_of_getElem? (i := 46) rfl))) (mvT hZ (hw _ (List.mem_of_getElem? (i := 45) rfl))) (by decide) (backOf (W := 1) (rm_coder l Z a0 hw [] a1 ab cs gv h0 n0 Z0 Es Fv Fc Ab O0 Sc hcs Sg hgv) hZ (hw _ (List.mem_of_getElem? (i := 47) rfl)) (hw _ (List.mem_of_getElem? (i := 5) rfl)) (by decide) (by decide)) q102a q102c (g := (mkF m 6 #[.val (.ref a1)] [(.ref a1), (.int (2 : Int32))])) rfl (by rw [hml]; rfl) (Steps.refl _) (argsL := []) (rest := [(.int (2 : Int32))]) (lenOf own_pd0 rfl) rfl (by show 2 * 0 + _ ≤ _; exact Nat.le_of_eq rfl) (hb hby d7_6) (fun _ _ => ⟨rfl, e101, (by decide : 0 + 0 ≤ _), (by decide : 0 + 0 ≤ _)⟩)
  dsimp only [Pt.U, Pt.locs, Pt.cells, Pt.slots] at X102 l102 y102 z102 st102 hQ102
  rw [l102, y102, z102] at X102
  obtain ⟨rfl, Nq102, e102⟩ := hQ102
  have N102 := Fr.app N0 Nq102
  obtain ⟨fs, hr, hrun, hended, hW, hsame⟩ := X102.leave (v := some (.int (2 : Int32))) (fun h => by rw [Bd.returns] at h; cases h) (hlocks := Bd.notSynchronized)
  refine ⟨_, _, pre0 _ ?_, hrun, hended, _, _, rfl, ?_, ⟨_, rfl⟩, hW, hsame.mono (by decide) (by decide)⟩
  · show Steps p.tables e below (s₁.setTop (mkF m 0 #[.val (.ref a1)] [])) _
    refine XS.aloadN X0.here hx rfl (hb hby d7_0) rfl rfl ?_
    show Steps p.tables e below (s₁.setTop (mkF m 1 #[.val (.ref a1)] [(.ref a1)])) _
    refine st101 _ ?_
    show Steps p.tables e below (T101.setTop (mkF m 4 #[.val (.ref a1)] [(.ref ab)])) _
    refine own_len X101 hx hZ e101 Ab (z := (2 : Int32)) rfl (g := (mkF m 4 #[.val (.ref a1)] [(.ref ab)])) rfl rfl (hb hby d7_4) _ ?_
    show Steps p.tables e below (T101.setTop (mkF m 5 #[.val (.ref a1)] [(.int (2 : Int32))])) _
    refine XS.aloadN X101.here hx rfl (hb hby d7_5) rfl rfl ?_
    show Steps p.tables e below (T101.setTop (mkF m 6 #[.val (.ref a1)] [(.ref a1), (.int (2 : Int32))])) _
    refine st102.trans ?_
    show Steps p.tables e below (T102.setTop (mkF m 9 #[.val (.ref a1)] [(.int (0 : Int32)), (.int (2 : Int32))])) _
    refine XS.ishr X102.here hx rfl (hb hby d7_9) rfl ?_
    show Steps p.tables e below (T102.setTop (mkF m 10 #[.val (.ref a1)] [(.int ((2 : Int32) >>> ((0 : Int32) &&& 31)))])) _
    rw [own_sh2]
    show Steps p.tables e below (T102.setTop (mkF m 10 #[.val (.ref a1)] [(.int (2 : Int32))])) _
    exact own_retI X102 hx Bd.returns (hb hby d7_10) hr
  · show QN (2 : Int32) h0 n0 _ T102.heap _
    rw [e102]
    exact ⟨rfl, N102, rfl⟩
set_option maxRecDepth 65536 in
set_option maxHeartbeats 40000000 in
theorem rm_lat (l : Launch) (Z : State) (a0 : Array Value) (hw : ∀ d ∈ tables_1, d.before a0 Z = true) (ws : List Jvm.Cond) (a1 : Addr) (ab : Addr) (cs : Int32) (gv : Value) (h0 : Heap) (n0 : Nat) (Z0 : n0 ≤ h0.size) (Es : Exa Z h0 a1 "java/lang/String") (Fv : Fld Z h0 a1 "java/lang/String" "value" "[B" (.ref ab)) (Fc : Fld Z h0 a1 "java/lang/String" "coder" "B" (.int (0 : Int32))) (Ab : OwnA Z h0 ab .byte 2 own_cf) (O0 : Old Z n0 h0) (Sc : Sta Z Z.heap "java/lang/String" "COMPACT_STRINGS" "Z" (.int cs)) (hcs : ¬ (cs = (0 : Int32))) (Sg : Sta Z Z.heap "jdk/internal/util/Preconditions" "SIOOBE_FORMATTER" "Ljava/util/function/BiFunction;" gv) (hgv : gv.isRef = true) :
    MetFree l (⟨"java/lang/String", "isLatin1", "()Z"⟩ : MethodName) (head1 (Jvm.Cond.code (⟨"java/lang/String", "isLatin1", "()Z"⟩ : MethodName) jdk_42_method_154_code 1 (some .boolean) :: ws) ({ frames := 0, cells := 0, slots := 0, locals := 0 } : Room)) (fun a U => a = #[(.ref a1)] ∧ Z.Warmed39 U.vm ∧ U.heap = h0) (fun _ _ _ _ _ => True) (fun _ U o U' => ∃ v L, o = .returned v ∧ QN (1 : Int32) h0 n0 v U'.heap L ∧ FrameEnd U o U' L ({ frames := 0, cells := 0, slots := 0, locals := 0 } : Room).cells ({ frames := 0, cells := 0, slots := 0, locals := 0 } : Room).slots) := by
  refine MetFree.of_bodySF (plainFor_of_name own_pn2) hisR ?_
  intro p e s m args below meth c s₁ Bd hml0 hP hK
  obtain ⟨rfl, hZ, hh⟩ := hP
  have hx := Bd.exec
  have hby := Bd.bytes
  have hml : c.maxLocals = 1 := hml0
  have hown : s.vm.findClass "java/lang/String" = some m.cls := findClass_of_methodNamed Bd.named
  have hnm := (name_of_methodNamed Bd.named Bd.method).1
  have X0 : Stand p l e ({ frames := 0, cells := 0, slots := 0, locals := 0 } : Room) s m #[(.ref a1)] below meth c s₁ [] 0 0 := Stand.of_body Bd
  have e0 : s₁.heap = h0 := by rw [← hh, Bd.state]; rfl
  have N0 := Fr.nil n0
  have ef : entryFrame m #[(.ref a1)] 1 = mkF m 0 #[.val (.ref a1)] [] := by first | (simp [entryFrame, mkF, argsToLocals, Value.category]; done) | rfl
  have pre0 : ∀ t, Steps p.tables e below (s₁.setTop (mkF m 0 #[.val (.ref a1)] [])) t → Steps p.tables e below (s₁.setTop (entryFrame m #[(.ref a1)] 1)) t := fun t k => castTop ef k
  obtain ⟨T101, X101, e101, st101⟩ := getS X0 hx hZ (host := "") hown (hw _ (List.mem_of_getElem? (i := 48) rfl)) Via.refl e0 (Sc.ext O0.2) (g := (mkF m 0 #[.val (.ref a1)] [])) rfl (hb hby d10_0)
  obtain ⟨T102, X102, e102, st102⟩ := getF X101 hx hZ hown (host := "") (Or.inl (hw _ (List.mem_of_getElem? (i := 49) rfl))) Via.refl e101 Fc (g := (mkF m 7 #[.val (.ref a1)] [(.ref a1)])) rfl rfl (hb hby d10_7)
  obtain ⟨fs, hr, hrun, hended, hW, hsame⟩ := X102.leave (v := some (.int (1 : Int32))) (fun h => by rw [Bd.returns] at h; cases h) (hlocks := Bd.notSynchronized)
  refine ⟨_, _, pre0 _ ?_, hrun, hended, _, _, rfl, ?_, ⟨_, rfl⟩, hW, hsame.mono (by decide) (by decide)⟩
  · show Steps p.tables e below (s₁.setTop (mkF m 0 #[.val (.ref a1)] [])) _
    refine st101 _ ?_
    show Steps p.tables e below (T101.setTop (mkF m 3 #[.val (.ref a1)] [(.int cs)])) _
    refine XS.ifNo X101.here hx rfl (hb hby d10_3) rfl ((if0 _ _).trans (feq hcs).1) ?_
    show Steps p.tables e below (T101.setTop (mkF m 6 #[.val (.ref a1)] [])) _
    refine XS.aloadN X101.here hx rfl (hb hby d10_6) rfl rfl ?_
    show Steps p.tables e below (T101.setTop (mkF m 7 #[.val (.ref a1)] [(.ref a1)])) _
    refine st102 _ ?_
    show Steps p.tables e below (T102.setTop (mkF m 10 #[.val (.ref a1)] [(.int (0 : Int32))])) _
    refine XS.ifNo X102.here hx rfl (hb hby d10_10) rfl ((if0 _ _).trans (teq rfl).2) ?_
    show Steps p.tables e below (T102.setTop (mkF m 13 #[.val (.ref a1)] [])) _
    refine XS.iconst X102.here hx rfl (hb hby d10_13) ?_
    show Steps p.tables e below (T102.setTop (mkF m 14 #[.val (.ref a1)] [(.int (1 : Int32))])) _
    refine XS.goto X102.here hx rfl (pc0 := 14) (pc' := 18) rfl (hb hby d10_14) (by decide) (by decide) ?_
    show Steps p.tables e below (T102.setTop (mkF m 18 #[.val (.ref a1)] [(.int (1 : Int32))])) _
    exact retN X102 hx (t := .boolean) Bd.returns (by simp) (hb hby d10_18) hr
  · show QN (1 : Int32) h0 n0 _ T102.heap _
    rw [e102]
    exact ⟨rfl, N0, rfl⟩
set_option maxRecDepth 65536 in
set_option maxHeartbeats 40000000 in
theorem rm_pcN0 (l : Launch) (Z : State) (a0 : Array Value) (hw : ∀ d ∈ tables_1, d.before a0 Z = true) (ws : List Jvm.Cond)  (h0 : Heap) (n0 : Nat) (Z0 : n0 ≤ h0.size)  :
    MetFree l (⟨"jdk/internal/util/Preconditions", "checkIndex", "(IILjava/util/function/BiFunction;)I"⟩ : MethodName) (head1 (Jvm.Cond.code (⟨"jdk/internal/util/Preconditions", "checkIndex", "(IILjava/util/function/BiFunction;)I"⟩ : MethodName) jdk_41_method_11_code 3 (some .int) :: ws) ({ frames := 0, cells := 0, slots := 0, locals := 0 } : Room)) (fun a U => a = #[(.int (0 : Int32)), (.int (2 : Int32)), .null] ∧ Z.Warmed39 U.vm ∧ U.heap = h0) (fun _ _ _ _ _ => True) (fun _ U o U' => ∃ v L, o = .returned v ∧ QN (0 : Int32) h0 n0 v U'.heap L ∧ FrameEnd U o U' L ({ frames := 0, cells := 0, slots := 0, locals := 0 } : Room).cells ({ frames := 0, cells := 0, slots := 0, locals := 0 } : Room).slots) := by
  refine MetFree.of_bodySF (plainFor_of_name own_pn3) hisR ?_
  intro p e s m args below meth c s₁ Bd hml0 hP hK
  obtain ⟨rfl, hZ, hh⟩ := hP
  have hx := Bd.exec
  have hby := Bd.bytes
  have hml : c.maxLocals = 3 := hml0
  have hown : s.vm.findClass "jdk/internal/util/Preconditions" = some m.cls := findClass_of_methodNamed Bd.named
  have hnm := (name_of_methodNamed Bd.named Bd.method).1
  have X0 : Stand p l e ({ frames := 0, cells := 0, slots := 0, locals := 0 } : Room) s m #[(.int (0 : Int32)), (.int (2 : Int32)), .null] below meth c s₁ [] 0 0 := Stand.of_body Bd
  have e0 : s₁.heap = h0 := by rw [← hh, Bd.state]; rfl
  have N0 := Fr.nil n0
  have ef : entryFrame m #[(.int (0 : Int32)), (.int (2 : Int32)), .null] 3 = mkF m 0 #[.val (.int (0 : Int32)), .val (.int (2 : Int32)), .val .null] [] := by first | (simp [entryFrame, mkF, argsToLocals, Value.category]; done) | rfl
  have pre0 : ∀ t, Steps p.tables e below (s₁.setTop (mkF m 0 #[.val (.int (0 : Int32)), .val (.int (2 : Int32)), .val .null] [])) t → Steps p.tables e below (s₁.setTop (entryFrame m #[(.int (0 : Int32)), (.int (2 : Int32)), .null] 3)) t := fun t k => castTop ef k
  obtain ⟨fs, hr, hrun, hended, hW, hsame⟩ := X0.leave (v := some (.int (0 : Int32))) (fun h => by rw [Bd.returns] at h; cases h) (hlocks := Bd.notSynchronized)
  refine ⟨_, _, pre0 _ ?_, hrun, hended, _, _, rfl, ?_, ⟨_, rfl⟩, hW, hsame.mono (by decide) (by decide)⟩
  · show Steps p.tables e below (s₁.setTop (mkF m 0 #[.val (.int (0 : Int32)), .val (.int (2 : Int32)), .val .null] [])) _
    refine XS.iloadN X0.here hx rfl (hb hby d13_0) rfl ?_
    show Steps p.tables e below (s₁.setTop (mkF m 1 #[.val (.int (0 : Int32)), .val (.int (2 : Int32)), .val .null] [(.int (0 : Int32))])) _
    refine XS.ifNo X0.here hx rfl (hb hby d13_1) rfl ((if0 _ _).trans (flt (by decide : ¬ (0 : Int32) < (0 : Int32))).1) ?_
    show Steps p.tables e below (s₁.setTop (mkF m 4 #[.val (.int (0 : Int32)), .val (.int (2 : Int32)), .val .null] [])) _
    refine XS.iloadN X0.here hx rfl (hb hby d13_4) rfl ?_
    show Steps p.tables e below (s₁.setTop (mkF m 5 #[.val (.int (0 : Int32)), .val (.int (2 : Int32)), .val .null] [(.int (0 : Int32))])) _
    refine XS.iloadN X0.here hx rfl (hb hby d13_5) rfl ?_
    show Steps p.tables e below (s₁.setTop (mkF m 6 #[.val (.int (0 : Int32)), .val (.int (2 : Int32)), .val .null] [(.int (2 : Int32)), (.int (0 : Int32))])) _
    refine XS.icmpYes X0.here hx rfl (pc0 := 6) (pc' := 16) rfl (hb hby d13_6) rfl (tlt (by decide : (0 : Int32) < (2 : Int32))).1 (by decide) (by decide) ?_
    show Steps p.tables e below (s₁.setTop (mkF m 16 #[.val (.int (0 : Int32)), .val (.int (2 : Int32)), .val .null] [])) _
    refine XS.iloadN X0.here hx rfl (hb hby d13_16) rfl ?_
    show Steps p.tables e below (s₁.setTop (mkF m 17 #[.val (.int (0 : Int32)), .val (.int (2 : Int32)), .val .null] [(.int (0 : Int32))])) _
    exact own_retI X0 hx Bd.returns (hb hby d13_17) hr
  · show QN (0 : Int32) h0 n0 _ s₁.heap _
    rw [e0]
    exact ⟨rfl, N0, rfl⟩
set_option maxRecDepth 65536 in
set_option maxHeartbeats 40000000 in
theorem rm_scN0 (l : Launch) (Z : State) (a0 : Array Value) (hw : ∀ d ∈ tables_1, d.before a0 Z = true) (ws : List Jvm.Cond)  (h0 : Heap) (n0 : Nat) (Z0 : n0 ≤ h0.size) (O0 : Old Z n0 h0) (Sg : Sta Z Z.heap "jdk/internal/util/Preconditions" "SIOOBE_FORMATTER" "Ljava/util/function/BiFunction;" .null) :
    MetFree l (⟨"java/lang/String", "checkIndex", "(II)V"⟩ : MethodName) (head1 (Jvm.Cond.code (⟨"java/lang/String", "checkIndex", "(II)V"⟩ : MethodName) jdk_42_method_155_code 2 none :: ws) ({ frames := 1, cells := 0, slots := 0, locals := 14 } : Room)) (fun a U => a = #[(.int (0 : Int32)), (.int (2 : Int32))] ∧ Z.Warmed39 U.vm ∧ U.heap = h0) (fun _ _ _ _ _ => True) (fun _ U o U' => ∃ v L, o = .returned v ∧ QV h0 n0 v U'.heap L ∧ FrameEnd U o U' L ({ frames := 1, cells := 0, slots := 0, locals := 14 } : Room).cells ({ frames := 1, cells := 0, slots := 0, locals := 14 } : Room).slots) := by
  refine MetFree.of_bodySF (plainFor_of_name own_pn2) hisR ?_
  intro p e s m args below meth c s₁ Bd hml0 hP hK
  obtain ⟨rfl, hZ, hh⟩ := hP
  have hx := Bd.exec
  have hby := Bd.bytes
  have hml : c.maxLocals = 2 := hml0
  have hown : s.vm.findClass "java/lang/String" = some m.cls := findClass_of_methodNamed Bd.named
  have hnm := (name_of_methodNamed Bd.named Bd.method).1
  have X0 : Stand p l e ({ frames := 1, cells := 0, slots := 0, locals := 14 } : Room) s m #[(.int (0 : Int32)), (.int (2 : Int32))] below meth c s₁ [] 0 0 := Stand.of_body Bd
  have e0 : s₁.heap = h0 := by rw [← hh, Bd.state]; rfl
  have N0 := Fr.nil n0
  have ef : entryFrame m #[(.int (0 : Int32)), (.int (2 : Int32))] 2 = mkF m 0 #[.val (.int (0 : Int32)), .val (.int (2 : Int32))] [] := by first | (simp [entryFrame, mkF, argsToLocals, Value.category]; done) | rfl
  have pre0 : ∀ t, Steps p.tables e below (s₁.setTop (mkF m 0 #[.val (.int (0 : Int32)), .val (.int (2 : Int32))] [])) t → Steps p.tables e below (s₁.setTop (entryFrame m #[(.int (0 : Int32)), (.int (2 : Int32))] 2)) t := fun t k => castTop ef k
  obtain ⟨T101, X101, e101, st101⟩ := getS X0 hx hZ (host := "") hown (hw _ (List.mem_of_getElem? (i := 67) rfl)) Via.refl e0 (Sg.ext O0.2) (g := (mkF m 2 #[.val (.int (0 : Int32)), .val (.int (2 : Int32))] [(.int (2 : Int32)), (.int (0 : Int32))])) rfl (hb hby d12_2)
  obtain ⟨_, _, ⟨T102, L102, k102, n102⟩, -, X102, ⟨Lc102, hQ102, l102, y102, z102⟩, st102⟩ := Jvm.LawKit.callS X101 hx (y := (⟨"jdk/internal/util/Preconditions", "checkIndex", "(IILjava/util/function/BiFunction;)I"⟩ : MethodName)) hown (mvT hZ (hw _ (List.mem_of_getElem? (i := 69) rfl))) (mvT hZ (hw _ (List.mem_of_getElem? (i := 70) rfl))) (mvT hZ (hw _ (List.mem_of_getElem? (i := 68) rfl))) (mvT hZ (hw _ (List.mem_of_getElem? (i := 71) rfl))) (by decide) (backOf (W := 0) (rm_pcN0 l Z a0 hw []  h0 n0 Z0 ) hZ (hw _ (List.mem_of_getElem? (i := 71) rfl)) (hw _ (List.mem_of_getElem? (i := 68) rfl)) (by decide) (by decide)) (g := (mkF m 5 #[.val (.int (0 : Int32)), .val (.int (2 : Int32))] [.null, (.int (2 : Int32)), (.int (0 : Int32))])) rfl (by rw [hml]; rfl) (argsL := [(.int (0 : Int32)), (.int (2 : Int32)), .null]) (rest := []) (lenOf own_pd1 rfl) rfl (by show 2 * 0 + _ ≤ _; exact Nat.le_of_eq rfl) (hb hby d12_5) (fun _ _ => ⟨rfl, e101, (by decide : 0 + 0 ≤ _), (by decide : 0 + 0 ≤ _)⟩)
  dsimp only [Pt.U, Pt.locs, Pt.cells, Pt.slots] at X102 l102 y102 z102 st102 hQ102
  rw [l102, y102, z102] at X102
  obtain ⟨rfl, Nq102, e102⟩ := hQ102
  have N102 := Fr.app N0 Nq102
  obtain ⟨fs, hr, hrun, hended, hW, hsame⟩ := X102.leave (v := none) (fun _ => rfl) (hlocks := Bd.notSynchronized)
  refine ⟨_, _, pre0 _ ?_, hrun, hended, _, _, rfl, ?_, ⟨_, rfl⟩, hW, hsame.mono (by decide) (by decide)⟩
  · show Steps p.tables e below (s₁.setTop (mkF m 0 #[.val (.int (0 : Int32)), .val (.int (2 : Int32))] [])) _
    refine XS.iloadN X0.here hx rfl (hb hby d12_0) rfl ?_
    show Steps p.tables e below (s₁.setTop (mkF m 1 #[.val (.int (0 : Int32)), .val (.int (2 : Int32))] [(.int (0 : Int32))])) _
    refine XS.iloadN X0.here hx rfl (hb hby d12_1) rfl ?_
    show Steps p.tables e below (s₁.setTop (mkF m 2 #[.val (.int (0 : Int32)), .val (.int (2 : Int32))] [(.int (2 : Int32)), (.int (0 : Int32))])) _
    refine st101 _ ?_
    show Steps p.tables e below (T101.setTop (mkF m 5 #[.val (.int (0 : Int32)), .val (.int (2 : Int32))] [.null, (.int (2 : Int32)), (.int (0 : Int32))])) _
    refine st102 _ ?_
    show Steps p.tables e below (T102.setTop (mkF m 8 #[.val (.int (0 : Int32)), .val (.int (2 : Int32))] [(.int (0 : Int32))])) _
    refine XS.pop X102.here hx rfl (hb hby d12_8) rfl rfl ?_
    show Steps p.tables e below (T102.setTop (mkF m 9 #[.val (.int (0 : Int32)), .val (.int (2 : Int32))] [])) _
    exact X102.returnOut hx Bd.returns (hb hby d12_9) hr
  · show QV h0 n0 _ T102.heap _
    rw [e102]
    exact ⟨rfl, N102, rfl⟩
set_option maxRecDepth 65536 in
set_option maxHeartbeats 40000000 in
theorem rm_pcR0 (l : Launch) (Z : State) (a0 : Array Value) (hw : ∀ d ∈ tables_1, d.before a0 Z = true) (ws : List Jvm.Cond) (gf : Addr) (h0 : Heap) (n0 : Nat) (Z0 : n0 ≤ h0.size)  :
    MetFree l (⟨"jdk/internal/util/Preconditions", "checkIndex", "(IILjava/util/function/BiFunction;)I"⟩ : MethodName) (head1 (Jvm.Cond.code (⟨"jdk/internal/util/Preconditions", "checkIndex", "(IILjava/util/function/BiFunction;)I"⟩ : MethodName) jdk_41_method_11_code 3 (some .int) :: ws) ({ frames := 0, cells := 0, slots := 0, locals := 0 } : Room)) (fun a U => a = #[(.int (0 : Int32)), (.int (2 : Int32)), (.ref gf)] ∧ Z.Warmed39 U.vm ∧ U.heap = h0) (fun _ _ _ _ _ => True) (fun _ U o U' => ∃ v L, o = .returned v ∧ QN (0 : Int32) h0 n0 v U'.heap L ∧ FrameEnd U o U' L ({ frames := 0, cells := 0, slots := 0, locals := 0 } : Room).cells ({ frames := 0, cells := 0, slots := 0, locals := 0 } : Room).slots) := by
  refine MetFree.of_bodySF (plainFor_of_name own_pn3) hisR ?_
  intro p e s m args below meth c s₁ Bd hml0 hP hK
  obtain ⟨rfl, hZ, hh⟩ := hP
  have hx := Bd.exec
  have hby := Bd.bytes
  have hml : c.maxLocals = 3 := hml0
  have hown : s.vm.findClass "jdk/internal/util/Preconditions" = some m.cls := findClass_of_methodNamed Bd.named
  have hnm := (name_of_methodNamed Bd.named Bd.method).1
  have X0 : Stand p l e ({ frames := 0, cells := 0, slots := 0, locals := 0 } : Room) s m #[(.int (0 : Int32)), (.int (2 : Int32)), (.ref gf)] below meth c s₁ [] 0 0 := Stand.of_body Bd
  have e0 : s₁.heap = h0 := by rw [← hh, Bd.state]; rfl
  have N0 := Fr.nil n0
  have ef : entryFrame m #[(.int (0 : Int32)), (.int (2 : Int32)), (.ref gf)] 3 = mkF m 0 #[.val (.int (0 : Int32)), .val (.int (2 : Int32)), .val (.ref gf)] [] := by first | (simp [entryFrame, mkF, argsToLocals, Value.category]; done) | rfl
  have pre0 : ∀ t, Steps p.tables e below (s₁.setTop (mkF m 0 #[.val (.int (0 : Int32)), .val (.int (2 : Int32)), .val (.ref gf)] [])) t → Steps p.tables e below (s₁.setTop (entryFrame m #[(.int (0 : Int32)), (.int (2 : Int32)), (.ref gf)] 3)) t := fun t k => castTop ef k
  obtain ⟨fs, hr, hrun, hended, hW, hsame⟩ := X0.leave (v := some (.int (0 : Int32))) (fun h => by rw [Bd.returns] at h; cases h) (hlocks := Bd.notSynchronized)
  refine ⟨_, _, pre0 _ ?_, hrun, hended, _, _, rfl, ?_, ⟨_, rfl⟩, hW, hsame.mono (by decide) (by decide)⟩
  · show Steps p.tables e below (s₁.setTop (mkF m 0 #[.val (.int (0 : Int32)), .val (.int (2 : Int32)), .val (.ref gf)] [])) _
    refine XS.iloadN X0.here hx rfl (hb hby d13_0) rfl ?_
    show Steps p.tables e below (s₁.setTop (mkF m 1 #[.val (.int (0 : Int32)), .val (.int (2 : Int32)), .val (.ref gf)] [(.int (0 : Int32))])) _
    refine XS.ifNo X0.here hx rfl (hb hby d13_1) rfl ((if0 _ _).trans (flt (by decide : ¬ (0 : Int32) < (0 : Int32))).1) ?_
    show Steps p.tables e below (s₁.setTop (mkF m 4 #[.val (.int (0 : Int32)), .val (.int (2 : Int32)), .val (.ref gf)] [])) _
    refine XS.iloadN X0.here hx rfl (hb hby d13_4) rfl ?_
    show Steps p.tables e below (s₁.setTop (mkF m 5 #[.val (.int (0 : Int32)), .val (.int (2 : Int32)), .val (.ref gf)] [(.int (0 : Int32))])) _
    refine XS.iloadN X0.here hx rfl (hb hby d13_5) rfl ?_
    show Steps p.tables e below (s₁.setTop (mkF m 6 #[.val (.int (0 : Int32)), .val (.int (2 : Int32)), .val (.ref gf)] [(.int (2 : Int32)), (.int (0 : Int32))])) _
    refine XS.icmpYes X0.here hx rfl (pc0 := 6) (pc' := 16) rfl (hb hby d13_6) rfl (tlt (by decide : (0 : Int32) < (2 : Int32))).1 (by decide) (by decide) ?_
    show Steps p.tables e below (s₁.setTop (mkF m 16 #[.val (.int (0 : Int32)), .val (.int (2 : Int32)), .val (.ref gf)] [])) _
    refine XS.iloadN X0.here hx rfl (hb hby d13_16) rfl ?_
    show Steps p.tables e below (s₁.setTop (mkF m 17 #[.val (.int (0 : Int32)), .val (.int (2 : Int32)), .val (.ref gf)] [(.int (0 : Int32))])) _
    exact own_retI X0 hx Bd.returns (hb hby d13_17) hr
  · show QN (0 : Int32) h0 n0 _ s₁.heap _
    rw [e0]
    exact ⟨rfl, N0, rfl⟩
set_option maxRecDepth 65536 in
set_option maxHeartbeats 40000000 in
theorem rm_scR0 (l : Launch) (Z : State) (a0 : Array Value) (hw : ∀ d ∈ tables_1, d.before a0 Z = true) (ws : List Jvm.Cond) (gf : Addr) (h0 : Heap) (n0 : Nat) (Z0 : n0 ≤ h0.size) (O0 : Old Z n0 h0) (Sg : Sta Z Z.heap "jdk/internal/util/Preconditions" "SIOOBE_FORMATTER" "Ljava/util/function/BiFunction;" (.ref gf)) :
    MetFree l (⟨"java/lang/String", "checkIndex", "(II)V"⟩ : MethodName) (head1 (Jvm.Cond.code (⟨"java/lang/String", "checkIndex", "(II)V"⟩ : MethodName) jdk_42_method_155_code 2 none :: ws) ({ frames := 1, cells := 0, slots := 0, locals := 14 } : Room)) (fun a U => a = #[(.int (0 : Int32)), (.int (2 : Int32))] ∧ Z.Warmed39 U.vm ∧ U.heap = h0) (fun _ _ _ _ _ => True) (fun _ U o U' => ∃ v L, o = .returned v ∧ QV h0 n0 v U'.heap L ∧ FrameEnd U o U' L ({ frames := 1, cells := 0, slots := 0, locals := 14 } : Room).cells ({ frames := 1, cells := 0, slots := 0, locals := 14 } : Room).slots) := by
  refine MetFree.of_bodySF (plainFor_of_name own_pn2) hisR ?_
  intro p e s m args below meth c s₁ Bd hml0 hP hK
  obtain ⟨rfl, hZ, hh⟩ := hP
  have hx := Bd.exec
  have hby := Bd.bytes
  have hml : c.maxLocals = 2 := hml0
  have hown : s.vm.findClass "java/lang/String" = some m.cls := findClass_of_methodNamed Bd.named
  have hnm := (name_of_methodNamed Bd.named Bd.method).1
  have X0 : Stand p l e ({ frames := 1, cells := 0, slots := 0, locals := 14 } : Room) s m #[(.int (0 : Int32)), (.int (2 : Int32))] below meth c s₁ [] 0 0 := Stand.of_body Bd
  have e0 : s₁.heap = h0 := by rw [← hh, Bd.state]; rfl
  have N0 := Fr.nil n0
  have ef : entryFrame m #[(.int (0 : Int32)), (.int (2 : Int32))] 2 = mkF m 0 #[.val (.int (0 : Int32)), .val (.int (2 : Int32))] [] := by first | (simp [entryFrame, mkF, argsToLocals, Value.category]; done) | rfl
  have pre0 : ∀ t, Steps p.tables e below (s₁.setTop (mkF m 0 #[.val (.int (0 : Int32)), .val (.int (2 : Int32))] [])) t → Steps p.tables e below (s₁.setTop (entryFrame m #[(.int (0 : Int32)), (.int (2 : Int32))] 2)) t := fun t k => castTop ef k
  obtain ⟨T101, X101, e101, st101⟩ := getS X0 hx hZ (host := "") hown (hw _ (List.mem_of_getElem? (i := 67) rfl)) Via.refl e0 (Sg.ext O0.2) (g := (mkF m 2 #[.val (.int (0 : Int32)), .val (.int (2 : Int32))] [(.int (2 : Int32)), (.int (0 : Int32))])) rfl (hb hby d12_2)
  obtain ⟨_, _, ⟨T102, L102, k102, n102⟩, -, X102, ⟨Lc102, hQ102, l102, y102, z102⟩, st102⟩ := Jvm.LawKit.callS X101 hx (y := (⟨"jdk/internal/util/Preconditions", "checkIndex", "(IILjava/util/function/BiFunction;)I"⟩ : MethodName)) hown (mvT hZ (hw _ (List.mem_of_getElem? (i := 69) rfl))) (mvT hZ (hw _ (List.mem_of_getElem? (i := 70) rfl))) (mvT hZ (hw _ (List.mem_of_getElem? (i := 68) rfl))) (mvT hZ (hw _ (List.mem_of_getElem? (i := 71) rfl))) (by decide) (backOf (W := 0) (rm_pcR0 l Z a0 hw [] gf h0 n0 Z0 ) hZ (hw _ (List.mem_of_getElem? (i := 71) rfl)) (hw _ (List.mem_of_getElem? (i := 68) rfl)) (by decide) (by decide)) (g := (mkF m 5 #[.val (.int (0 : Int32)), .val (.int (2 : Int32))] [(.ref gf), (.int (2 : Int32)), (.int (0 : Int32))])) rfl (by rw [hml]; rfl) (argsL := [(.int (0 : Int32)), (.int (2 : Int32)), (.ref gf)]) (rest := []) (lenOf own_pd1 rfl) rfl (by show 2 * 0 + _ ≤ _; exact Nat.le_of_eq rfl) (hb hby d12_5) (fun _ _ => ⟨rfl, e101, (by decide : 0 + 0 ≤ _), (by decide : 0 + 0 ≤ _)⟩)
  dsimp only [Pt.U, Pt.locs, Pt.cells, Pt.slots] at X102 l102 y102 z102 st102 hQ102
  rw [l102, y102, z102] at X102
  obtain ⟨rfl, Nq102, e102⟩ := hQ102
  have N102 := Fr.app N0 Nq102
  obtain ⟨fs, hr, hrun, hended, hW, hsame⟩ := X102.leave (v := none) (fun _ => rfl) (hlocks := Bd.notSynchronized)
  refine ⟨_, _, pre0 _ ?_, hrun, hended, _, _, rfl, ?_, ⟨_, rfl⟩, hW, hsame.mono (by decide) (by decide)⟩
  · show Steps p.tables e below (s₁.setTop (mkF m 0 #[.val (.int (0 : Int32)), .val (.int (2 : Int32))] [])) _
    refine XS.iloadN X0.here hx rfl (hb hby d12_0) rfl ?_
    show Steps p.tables e below (s₁.setTop (mkF m 1 #[.val (.int (0 : Int32)), .val (.int (2 : Int32))] [(.int (0 : Int32))])) _
    refine XS.iloadN X0.here hx rfl (hb hby d12_1) rfl ?_
    show Steps p.tables e below (s₁.setTop (mkF m 2 #[.val (.int (0 : Int32)), .val (.int (2 : Int32))] [(.int (2 : Int32)), (.int (0 : Int32))])) _
    refine st101 _ ?_
    show Steps p.tables e below (T101.setTop (mkF m 5 #[.val (.int (0 : Int32)), .val (.int (2 : Int32))] [(.ref gf), (.int (2 : Int32)), (.int (0 : Int32))])) _
    refine st102 _ ?_
    show Steps p.tables e below (T102.setTop (mkF m 8 #[.val (.int (0 : Int32)), .val (.int (2 : Int32))] [(.int (0 : Int32))])) _
    refine XS.pop X102.here hx rfl (hb hby d12_8) rfl rfl ?_
    show Steps p.tables e below (T102.setTop (mkF m 9 #[.val (.int (0 : Int32)), .val (.int (2 : Int32))] [])) _
    exact X102.returnOut hx Bd.returns (hb hby d12_9) hr
  · show QV h0 n0 _ T102.heap _
    rw [e102]
    exact ⟨rfl, N102, rfl⟩
set_option maxRecDepth 65536 in
set_option maxHeartbeats 40000000 in
theorem rm_sc0 (l : Launch) (Z : State) (a0 : Array Value) (hw : ∀ d ∈ tables_1, d.before a0 Z = true) (ws : List Jvm.Cond) (gv : Value) (h0 : Heap) (n0 : Nat) (Z0 : n0 ≤ h0.size) (O0 : Old Z n0 h0) (Sg : Sta Z Z.heap "jdk/internal/util/Preconditions" "SIOOBE_FORMATTER" "Ljava/util/function/BiFunction;" gv) (hgv : gv.isRef = true) :
    MetFree l (⟨"java/lang/String", "checkIndex", "(II)V"⟩ : MethodName) (head1 (Jvm.Cond.code (⟨"java/lang/String", "checkIndex", "(II)V"⟩ : MethodName) jdk_42_method_155_code 2 none :: ws) ({ frames := 1, cells := 0, slots := 0, locals := 14 } : Room)) (fun a U => a = #[(.int (0 : Int32)), (.int (2 : Int32))] ∧ Z.Warmed39 U.vm ∧ U.heap = h0) (fun _ _ _ _ _ => True) (fun _ U o U' => ∃ v L, o = .returned v ∧ QV h0 n0 v U'.heap L ∧ FrameEnd U o U' L ({ frames := 1, cells := 0, slots := 0, locals := 14 } : Room).cells ({ frames := 1, cells := 0, slots := 0, locals := 14 } : Room).slots) := by
  rcases ref_cases hgv with rfl | ⟨gf, rfl⟩
  · exact rm_scN0 l Z a0 hw ws h0 n0 Z0 O0 Sg
  · exact rm_scR0 l Z a0 hw ws gf h0 n0 Z0 O0 Sg
theorem own_by0 : (((99 : Int32) &&& (255 : Int32)).toUInt32.toUInt16.toUInt32.toInt32) = (99 : Int32) := by decide
set_option maxRecDepth 65536 in
set_option maxHeartbeats 40000000 in
theorem rm_lc0 (l : Launch) (Z : State) (a0 : Array Value) (hw : ∀ d ∈ tables_1, d.before a0 Z = true) (ws : List Jvm.Cond) (ab : Addr) (gv : Value) (h0 : Heap) (n0 : Nat) (Z0 : n0 ≤ h0.size) (Ab : OwnA Z h0 ab .byte 2 own_cf) (O0 : Old Z n0 h0) (Sg : Sta Z Z.heap "jdk/internal/util/Preconditions" "SIOOBE_FORMATTER" "Ljava/util/function/BiFunction;" gv) (hgv : gv.isRef = true) :
    MetFree l (⟨"java/lang/StringLatin1", "charAt", "([BI)C"⟩ : MethodName) (head1 (Jvm.Cond.code (⟨"java/lang/StringLatin1", "charAt", "([BI)C"⟩ : MethodName) jdk_43_method_2_code 2 (some .char) :: ws) ({ frames := 2, cells := 0, slots := 0, locals := 27 } : Room)) (fun a U => a = #[(.ref ab), (.int (0 : Int32))] ∧ Z.Warmed39 U.vm ∧ U.heap = h0) (fun _ _ _ _ _ => True) (fun _ U o U' => ∃ v L, o = .returned v ∧ QN (99 : Int32) h0 n0 v U'.heap L ∧ FrameEnd U o U' L ({ frames := 2, cells := 0, slots := 0, locals := 27 } : Room).cells ({ frames := 2, cells := 0, slots := 0, locals := 27 } : Room).slots) := by
  refine MetFree.of_bodySF (plainFor_of_name own_pn4) hisR ?_
  intro p e s m args below meth c s₁ Bd hml0 hP hK
  obtain ⟨rfl, hZ, hh⟩ := hP
  have hx := Bd.exec
  have hby := Bd.bytes
  have hml : c.maxLocals = 2 := hml0
  have hown : s.vm.findClass "java/lang/StringLatin1" = some m.cls := findClass_of_methodNamed Bd.named
  have hnm := (name_of_methodNamed Bd.named Bd.method).1
  have X0 : Stand p l e ({ frames := 2, cells := 0, slots := 0, locals := 27 } : Room) s m #[(.ref ab), (.int (0 : Int32))] below meth c s₁ [] 0 0 := Stand.of_body Bd
  have e0 : s₁.heap = h0 := by rw [← hh, Bd.state]; rfl
  have N0 := Fr.nil n0
  have ef : entryFrame m #[(.ref ab), (.int (0 : Int32))] 2 = mkF m 0 #[.val (.ref ab), .val (.int (0 : Int32))] [] := by first | (simp [entryFrame, mkF, argsToLocals, Value.category]; done) | rfl
  have pre0 : ∀ t, Steps p.tables e below (s₁.setTop (mkF m 0 #[.val (.ref ab), .val (.int (0 : Int32))] [])) t → Steps p.tables e below (s₁.setTop (entryFrame m #[(.ref ab), (.int (0 : Int32))] 2)) t := fun t k => castTop ef k
  obtain ⟨_, _, ⟨T101, L101, k101, n101⟩, -, X101, ⟨Lc101, hQ101, l101, y101, z101⟩, st101⟩ := Jvm.LawKit.callS X0 hx (y := (⟨"java/lang/String", "checkIndex", "(II)V"⟩ : MethodName)) hown (mvT hZ (hw _ (List.mem_of_getElem? (i := 64) rfl))) (mvT hZ (hw _ (List.mem_of_getElem? (i := 65) rfl))) (mvT hZ (hw _ (List.mem_of_getElem? (i := 5) rfl))) (mvT hZ (hw _ (List.mem_of_getElem? (i := 66) rfl))) (by decide) (backOf (W := 0) (rm_sc0 l Z a0 hw [] gv h0 n0 Z0 O0 Sg hgv) hZ (hw _ (List.mem_of_getElem? (i := 66) rfl)) (hw _ (List.mem_of_getElem? (i := 5) rfl)) (by decide) (by decide)) (g := (mkF m 3 #[.val (.ref ab), .val (.int (0 : Int32))] [(.int (2 : Int32)), (.int (0 : Int32))])) rfl (by rw [hml]; rfl) (argsL := [(.int (0 : Int32)), (.int (2 : Int32))]) (rest := []) (lenOf own_pd2 rfl) rfl (by show 2 * 0 + _ ≤ _; exact Nat.le_of_eq rfl) (hb hby d11_3) (fun _ _ => ⟨rfl, e0, (by decide : 0 + 0 ≤ _), (by decide : 0 + 0 ≤ _)⟩)
  dsimp only [Pt.U, Pt.locs, Pt.cells, Pt.slots] at X101 l101 y101 z101 st101 hQ101
  rw [l101, y101, z101] at X101
  obtain ⟨rfl, Nq101, e101⟩ := hQ101
  have N101 := Fr.app N0 Nq101
  obtain ⟨fs, hr, hrun, hended, hW, hsame⟩ := X101.leave (v := some (.int (99 : Int32))) (fun h => by rw [Bd.returns] at h; cases h) (hlocks := Bd.notSynchronized)
  refine ⟨_, _, pre0 _ ?_, hrun, hended, _, _, rfl, ?_, ⟨_, rfl⟩, hW, hsame.mono (by decide) (by decide)⟩
  · show Steps p.tables e below (s₁.setTop (mkF m 0 #[.val (.ref ab), .val (.int (0 : Int32))] [])) _
    refine XS.iloadN X0.here hx rfl (hb hby d11_0) rfl ?_
    show Steps p.tables e below (s₁.setTop (mkF m 1 #[.val (.ref ab), .val (.int (0 : Int32))] [(.int (0 : Int32))])) _
    refine XS.aloadN X0.here hx rfl (hb hby d11_1) rfl rfl ?_
    show Steps p.tables e below (s₁.setTop (mkF m 2 #[.val (.ref ab), .val (.int (0 : Int32))] [(.ref ab), (.int (0 : Int32))])) _
    refine own_len X0 hx hZ e0 Ab (z := (2 : Int32)) rfl (g := (mkF m 2 #[.val (.ref ab), .val (.int (0 : Int32))] [(.ref ab), (.int (0 : Int32))])) rfl rfl (hb hby d11_2) _ ?_
    show Steps p.tables e below (s₁.setTop (mkF m 3 #[.val (.ref ab), .val (.int (0 : Int32))] [(.int (2 : Int32)), (.int (0 : Int32))])) _
    refine st101 _ ?_
    show Steps p.tables e below (T101.setTop (mkF m 6 #[.val (.ref ab), .val (.int (0 : Int32))] [])) _
    refine XS.aloadN X101.here hx rfl (hb hby d11_6) rfl rfl ?_
    show Steps p.tables e below (T101.setTop (mkF m 7 #[.val (.ref ab), .val (.int (0 : Int32))] [(.ref ab)])) _
    refine XS.iloadN X101.here hx rfl (hb hby d11_7) rfl ?_
    show Steps p.tables e below (T101.setTop (mkF m 8 #[.val (.ref ab), .val (.int (0 : Int32))] [(.int (0 : Int32)), (.ref ab)])) _
    refine own_ldB X101 hx hZ e101 Ab (j := (0 : Int32)) 0 (by decide) rfl (by decide) (v := (.int (99 : Int32))) rfl (g := (mkF m 8 #[.val (.ref ab), .val (.int (0 : Int32))] [(.int (0 : Int32)), (.ref ab)])) rfl rfl (hb hby d11_8) _ ?_
    show Steps p.tables e below (T101.setTop (mkF m 9 #[.val (.ref ab), .val (.int (0 : Int32))] [(.int (99 : Int32))])) _
    refine XS.sipush X101.here hx rfl (hb hby d11_9) ?_
    show Steps p.tables e below (T101.setTop (mkF m 12 #[.val (.ref ab), .val (.int (0 : Int32))] [(.int (255 : Int32)), (.int (99 : Int32))])) _
    refine XS.iand X101.here hx rfl (hb hby d11_12) rfl ?_
    show Steps p.tables e below (T101.setTop (mkF m 13 #[.val (.ref ab), .val (.int (0 : Int32))] [(.int ((99 : Int32) &&& (255 : Int32)))])) _
    refine XS.i2c X101.here hx rfl (hb hby d11_13) rfl ?_
    show Steps p.tables e below (T101.setTop (mkF m 14 #[.val (.ref ab), .val (.int (0 : Int32))] [(.int (((99 : Int32) &&& (255 : Int32)).toUInt32.toUInt16.toUInt32.toInt32))])) _
    rw [own_by0]
    show Steps p.tables e below (T101.setTop (mkF m 14 #[.val (.ref ab), .val (.int (0 : Int32))] [(.int (99 : Int32))])) _
    exact retN X101 hx (t := .char) Bd.returns (by simp) (hb hby d11_14) hr
  · show QN (99 : Int32) h0 n0 _ T101.heap _
    rw [e101]
    exact ⟨rfl, N101, rfl⟩
set_option maxRecDepth 65536 in
set_option maxHeartbeats 40000000 in
theorem rm_ch0 (l : Launch) (Z : State) (a0 : Array Value) (hw : ∀ d ∈ tables_1, d.before a0 Z = true) (ws : List Jvm.Cond) (a1 : Addr) (ab : Addr) (cs : Int32) (gv : Value) (h0 : Heap) (n0 : Nat) (Z0 : n0 ≤ h0.size) (Es : Exa Z h0 a1 "java/lang/String") (Fv : Fld Z h0 a1 "java/lang/String" "value" "[B" (.ref ab)) (Fc : Fld Z h0 a1 "java/lang/String" "coder" "B" (.int (0 : Int32))) (Ab : OwnA Z h0 ab .byte 2 own_cf) (O0 : Old Z n0 h0) (Sc : Sta Z Z.heap "java/lang/String" "COMPACT_STRINGS" "Z" (.int cs)) (hcs : ¬ (cs = (0 : Int32))) (Sg : Sta Z Z.heap "jdk/internal/util/Preconditions" "SIOOBE_FORMATTER" "Ljava/util/function/BiFunction;" gv) (hgv : gv.isRef = true) :
    MetFree l (⟨"java/lang/String", "charAt", "(I)C"⟩ : MethodName) (head1 (Jvm.Cond.code (⟨"java/lang/String", "charAt", "(I)C"⟩ : MethodName) jdk_42_method_56_code 2 (some .char) :: ws) ({ frames := 3, cells := 0, slots := 0, locals := 40 } : Room)) (fun a U => a = #[(.ref a1), (.int (0 : Int32))] ∧ Z.Warmed39 U.vm ∧ U.heap = h0) (fun _ _ _ _ _ => True) (fun _ U o U' => ∃ v L, o = .returned v ∧ QN (99 : Int32) h0 n0 v U'.heap L ∧ FrameEnd U o U' L ({ frames := 3, cells := 0, slots := 0, locals := 40 } : Room).cells ({ frames := 3, cells := 0, slots := 0, locals := 40 } : Room).slots) := by
  refine MetFree.of_bodySF (plainFor_of_name own_pn2) hisR ?_
  intro p e s m args below meth c s₁ Bd hml0 hP hK
  obtain ⟨rfl, hZ, hh⟩ := hP
  have hx := Bd.exec
  have hby := Bd.bytes
  have hml : c.maxLocals = 2 := hml0
  have hown : s.vm.findClass "java/lang/String" = some m.cls := findClass_of_methodNamed Bd.named
  have hnm := (name_of_methodNamed Bd.named Bd.method).1
  have X0 : Stand p l e ({ frames := 3, cells := 0, slots := 0, locals := 40 } : Room) s m #[(.ref a1), (.int (0 : Int32))] below meth c s₁ [] 0 0 := Stand.of_body Bd
  have e0 : s₁.heap = h0 := by rw [← hh, Bd.state]; rfl
  have N0 := Fr.nil n0
  have ef : entryFrame m #[(.ref a1), (.int (0 : Int32))] 2 = mkF m 0 #[.val (.ref a1), .val (.int (0 : Int32))] [] := by first | (simp [entryFrame, mkF, argsToLocals, Value.category]; done) | rfl
  have pre0 : ∀ t, Steps p.tables e below (s₁.setTop (mkF m 0 #[.val (.ref a1), .val (.int (0 : Int32))] [])) t → Steps p.tables e below (s₁.setTop (entryFrame m #[(.ref a1), (.int (0 : Int32))] 2)) t := fun t k => castTop ef k
  obtain ⟨cq101, kq101, q101a, q101b, q101c⟩ := isOf hZ e0 Es
  obtain ⟨_, _, ⟨T101, L101, k101, n101⟩, -, X101, ⟨Lc101, hQ101, l101, y101, z101⟩, st101⟩ := X0.virtualBack hx (y := (⟨"java/lang/String", "isLatin1", "()Z"⟩ : MethodName)) (z := (⟨"java/lang/String", "isLatin1", "()Z"⟩ : MethodName)) hown (mvT hZ (hw _ (List.mem_of_getElem? (i := 55) rfl))) (mvT hZ (hw _ (List.mem_of_getElem? (i := 56) rfl))) (notFace_of_selects (args := #[]) (mvT hZ (hw _ (List.mem_of_getElem? (i := 58) rfl)))) (mvT hZ (hw _ (List.mem_of_getElem? (i := 58) rfl))) (mvT hZ (hw _ (List.mem_of_getElem? (i := 57) rfl))) (by decide) (backOf (W := 0) (rm_lat l Z a0 hw [] a1 ab cs gv h0 n0 Z0 Es Fv Fc Ab O0 Sc hcs Sg hgv) hZ (hw _ (List.mem_of_getElem? (i := 59) rfl)) (hw _ (List.mem_of_getElem? (i := 5) rfl)) (by decide) (by decide)) q101a q101c (g := (mkF m 1 #[.val (.ref a1), .val (.int (0 : Int32))] [(.ref a1)])) rfl (by rw [hml]; rfl) (Steps.refl _) (argsL := []) (rest := []) (lenOf own_pd3 rfl) rfl (by show 2 * 0 + _ ≤ _; exact Nat.le_of_eq rfl) (hb hby d9_1) (fun _ _ => ⟨rfl, e0, (by decide : 0 + 0 ≤ _), (by decide : 0 + 0 ≤ _)⟩)
  dsimp only [Pt.U, Pt.locs, Pt.cells, Pt.slots] at X101 l101 y101 z101 st101 hQ101
  rw [l101, y101, z101] at X101
  obtain ⟨rfl, Nq101, e101⟩ := hQ101
  have N101 := Fr.app N0 Nq101
  obtain ⟨T102, X102, e102, st102⟩ := getF X101 hx hZ hown (host := "") (Or.inl (hw _ (List.mem_of_getElem? (i := 37) rfl))) Via.refl e101 Fv (g := (mkF m 8 #[.val (.ref a1), .val (.int (0 : Int32))] [(.ref a1)])) rfl rfl (hb hby d9_8)
  obtain ⟨_, _, ⟨T103, L103, k103, n103⟩, -, X103, ⟨Lc103, hQ103, l103, y103, z103⟩, st103⟩ := Jvm.LawKit.callS X102 hx (y := (⟨"java/lang/StringLatin1", "charAt", "([BI)C"⟩ : MethodName)) hown (mvT hZ (hw _ (List.mem_of_getElem? (i := 60) rfl))) (mvT hZ (hw _ (List.mem_of_getElem? (i := 61) rfl))) (mvT hZ (hw _ (List.mem_of_getElem? (i := 62) rfl))) (mvT hZ (hw _ (List.mem_of_getElem? (i := 63) rfl))) (by decide) (backOf (W := 0) (rm_lc0 l Z a0 hw [] ab gv h0 n0 Z0 Ab O0 Sg hgv) hZ (hw _ (List.mem_of_getElem? (i := 63) rfl)) (hw _ (List.mem_of_getElem? (i := 62) rfl)) (by decide) (by decide)) (g := (mkF m 12 #[.val (.ref a1), .val (.int (0 : Int32))] [(.int (0 : Int32)), (.ref ab)])) rfl (by rw [hml]; rfl) (argsL := [(.ref ab), (.int (0 : Int32))]) (rest := []) (lenOf own_pd4 rfl) rfl (by show 2 * 0 + _ ≤ _; exact Nat.le_of_eq rfl) (hb hby d9_12) (fun _ _ => ⟨rfl, e102, (by decide : 0 + 0 ≤ _), (by decide : 0 + 0 ≤ _)⟩)
  dsimp only [Pt.U, Pt.locs, Pt.cells, Pt.slots] at X103 l103 y103 z103 st103 hQ103
  rw [l103, y103, z103] at X103
  obtain ⟨rfl, Nq103, e103⟩ := hQ103
  have N103 := Fr.app N101 Nq103
  obtain ⟨fs, hr, hrun, hended, hW, hsame⟩ := X103.leave (v := some (.int (99 : Int32))) (fun h => by rw [Bd.returns] at h; cases h) (hlocks := Bd.notSynchronized)
  refine ⟨_, _, pre0 _ ?_, hrun, hended, _, _, rfl, ?_, ⟨_, rfl⟩, hW, hsame.mono (by decide) (by decide)⟩
  · show Steps p.tables e below (s₁.setTop (mkF m 0 #[.val (.ref a1), .val (.int (0 : Int32))] [])) _
    refine XS.aloadN X0.here hx rfl (hb hby d9_0) rfl rfl ?_
    show Steps p.tables e below (s₁.setTop (mkF m 1 #[.val (.ref a1), .val (.int (0 : Int32))] [(.ref a1)])) _
    refine st101.trans ?_
    show Steps p.tables e below (T101.setTop (mkF m 4 #[.val (.ref a1), .val (.int (0 : Int32))] [(.int (1 : Int32))])) _
    refine XS.ifNo X101.here hx rfl (hb hby d9_4) rfl ((if0 _ _).trans (feq (by decide : ¬ (1 : Int32) = (0 : Int32))).1) ?_
    show Steps p.tables e below (T101.setTop (mkF m 7 #[.val (.ref a1), .val (.int (0 : Int32))] [])) _
    refine XS.aloadN X101.here hx rfl (hb hby d9_7) rfl rfl ?_
    show Steps p.tables e below (T101.setTop (mkF m 8 #[.val (.ref a1), .val (.int (0 : Int32))] [(.ref a1)])) _
    refine st102 _ ?_
    show Steps p.tables e below (T102.setTop (mkF m 11 #[.val (.ref a1), .val (.int (0 : Int32))] [(.ref ab)])) _
    refine XS.iloadN X102.here hx rfl (hb hby d9_11) rfl ?_
    show Steps p.tables e below (T102.setTop (mkF m 12 #[.val (.ref a1), .val (.int (0 : Int32))] [(.int (0 : Int32)), (.ref ab)])) _
    refine st103 _ ?_
    show Steps p.tables e below (T103.setTop (mkF m 15 #[.val (.ref a1), .val (.int (0 : Int32))] [(.int (99 : Int32))])) _
    exact retN X103 hx (t := .char) Bd.returns (by simp) (hb hby d9_15) hr
  · show QN (99 : Int32) h0 n0 _ T103.heap _
    rw [e103]
    exact ⟨rfl, N103, rfl⟩
set_option maxRecDepth 65536 in
set_option maxHeartbeats 40000000 in
theorem rm_pcN1 (l : Launch) (Z : State) (a0 : Array Value) (hw : ∀ d ∈ tables_1, d.before a0 Z = true) (ws : List Jvm.Cond)  (h0 : Heap) (n0 : Nat) (Z0 : n0 ≤ h0.size)  :
    MetFree l (⟨"jdk/internal/util/Preconditions", "checkIndex", "(IILjava/util/function/BiFunction;)I"⟩ : MethodName) (head1 (Jvm.Cond.code (⟨"jdk/internal/util/Preconditions", "checkIndex", "(IILjava/util/function/BiFunction;)I"⟩ : MethodName) jdk_41_method_11_code 3 (some .int) :: ws) ({ frames := 0, cells := 0, slots := 0, locals := 0 } : Room)) (fun a U => a = #[(.int (1 : Int32)), (.int (2 : Int32)), .null] ∧ Z.Warmed39 U.vm ∧ U.heap = h0) (fun _ _ _ _ _ => True) (fun _ U o U' => ∃ v L, o = .returned v ∧ QN (1 : Int32) h0 n0 v U'.heap L ∧ FrameEnd U o U' L ({ frames := 0, cells := 0, slots := 0, locals := 0 } : Room).cells ({ frames := 0, cells := 0, slots := 0, locals := 0 } : Room).slots) := by
  refine MetFree.of_bodySF (plainFor_of_name own_pn3) hisR ?_
  intro p e s m args below meth c s₁ Bd hml0 hP hK
  obtain ⟨rfl, hZ, hh⟩ := hP
  have hx := Bd.exec
  have hby := Bd.bytes
  have hml : c.maxLocals = 3 := hml0
  have hown : s.vm.findClass "jdk/internal/util/Preconditions" = some m.cls := findClass_of_methodNamed Bd.named
  have hnm := (name_of_methodNamed Bd.named Bd.method).1
  have X0 : Stand p l e ({ frames := 0, cells := 0, slots := 0, locals := 0 } : Room) s m #[(.int (1 : Int32)), (.int (2 : Int32)), .null] below meth c s₁ [] 0 0 := Stand.of_body Bd
  have e0 : s₁.heap = h0 := by rw [← hh, Bd.state]; rfl
  have N0 := Fr.nil n0
  have ef : entryFrame m #[(.int (1 : Int32)), (.int (2 : Int32)), .null] 3 = mkF m 0 #[.val (.int (1 : Int32)), .val (.int (2 : Int32)), .val .null] [] := by first | (simp [entryFrame, mkF, argsToLocals, Value.category]; done) | rfl
  have pre0 : ∀ t, Steps p.tables e below (s₁.setTop (mkF m 0 #[.val (.int (1 : Int32)), .val (.int (2 : Int32)), .val .null] [])) t → Steps p.tables e below (s₁.setTop (entryFrame m #[(.int (1 : Int32)), (.int (2 : Int32)), .null] 3)) t := fun t k => castTop ef k
  obtain ⟨fs, hr, hrun, hended, hW, hsame⟩ := X0.leave (v := some (.int (1 : Int32))) (fun h => by rw [Bd.returns] at h; cases h) (hlocks := Bd.notSynchronized)
  refine ⟨_, _, pre0 _ ?_, hrun, hended, _, _, rfl, ?_, ⟨_, rfl⟩, hW, hsame.mono (by decide) (by decide)⟩
  · show Steps p.tables e below (s₁.setTop (mkF m 0 #[.val (.int (1 : Int32)), .val (.int (2 : Int32)), .val .null] [])) _
    refine XS.iloadN X0.here hx rfl (hb hby d13_0) rfl ?_
    show Steps p.tables e below (s₁.setTop (mkF m 1 #[.val (.int (1 : Int32)), .val (.int (2 : Int32)), .val .null] [(.int (1 : Int32))])) _
    refine XS.ifNo X0.here hx rfl (hb hby d13_1) rfl ((if0 _ _).trans (flt (by decide : ¬ (1 : Int32) < (0 : Int32))).1) ?_
    show Steps p.tables e below (s₁.setTop (mkF m 4 #[.val (.int (1 : Int32)), .val (.int (2 : Int32)), .val .null] [])) _
    refine XS.iloadN X0.here hx rfl (hb hby d13_4) rfl ?_
    show Steps p.tables e below (s₁.setTop (mkF m 5 #[.val (.int (1 : Int32)), .val (.int (2 : Int32)), .val .null] [(.int (1 : Int32))])) _
    refine XS.iloadN X0.here hx rfl (hb hby d13_5) rfl ?_
    show Steps p.tables e below (s₁.setTop (mkF m 6 #[.val (.int (1 : Int32)), .val (.int (2 : Int32)), .val .null] [(.int (2 : Int32)), (.int (1 : Int32))])) _
    refine XS.icmpYes X0.here hx rfl (pc0 := 6) (pc' := 16) rfl (hb hby d13_6) rfl (tlt (by decide : (1 : Int32) < (2 : Int32))).1 (by decide) (by decide) ?_
    show Steps p.tables e below (s₁.setTop (mkF m 16 #[.val (.int (1 : Int32)), .val (.int (2 : Int32)), .val .null] [])) _
    refine XS.iloadN X0.here hx rfl (hb hby d13_16) rfl ?_
    show Steps p.tables e below (s₁.setTop (mkF m 17 #[.val (.int (1 : Int32)), .val (.int (2 : Int32)), .val .null] [(.int (1 : Int32))])) _
    exact own_retI X0 hx Bd.returns (hb hby d13_17) hr
  · show QN (1 : Int32) h0 n0 _ s₁.heap _
    rw [e0]
    exact ⟨rfl, N0, rfl⟩
set_option maxRecDepth 65536 in
set_option maxHeartbeats 40000000 in
theorem rm_scN1 (l : Launch) (Z : State) (a0 : Array Value) (hw : ∀ d ∈ tables_1, d.before a0 Z = true) (ws : List Jvm.Cond)  (h0 : Heap) (n0 : Nat) (Z0 : n0 ≤ h0.size) (O0 : Old Z n0 h0) (Sg : Sta Z Z.heap "jdk/internal/util/Preconditions" "SIOOBE_FORMATTER" "Ljava/util/function/BiFunction;" .null) :
    MetFree l (⟨"java/lang/String", "checkIndex", "(II)V"⟩ : MethodName) (head1 (Jvm.Cond.code (⟨"java/lang/String", "checkIndex", "(II)V"⟩ : MethodName) jdk_42_method_155_code 2 none :: ws) ({ frames := 1, cells := 0, slots := 0, locals := 14 } : Room)) (fun a U => a = #[(.int (1 : Int32)), (.int (2 : Int32))] ∧ Z.Warmed39 U.vm ∧ U.heap = h0) (fun _ _ _ _ _ => True) (fun _ U o U' => ∃ v L, o = .returned v ∧ QV h0 n0 v U'.heap L ∧ FrameEnd U o U' L ({ frames := 1, cells := 0, slots := 0, locals := 14 } : Room).cells ({ frames := 1, cells := 0, slots := 0, locals := 14 } : Room).slots) := by
  refine MetFree.of_bodySF (plainFor_of_name own_pn2) hisR ?_
  intro p e s m args below meth c s₁ Bd hml0 hP hK
  obtain ⟨rfl, hZ, hh⟩ := hP
  have hx := Bd.exec
  have hby := Bd.bytes
  have hml : c.maxLocals = 2 := hml0
  have hown : s.vm.findClass "java/lang/String" = some m.cls := findClass_of_methodNamed Bd.named
  have hnm := (name_of_methodNamed Bd.named Bd.method).1
  have X0 : Stand p l e ({ frames := 1, cells := 0, slots := 0, locals := 14 } : Room) s m #[(.int (1 : Int32)), (.int (2 : Int32))] below meth c s₁ [] 0 0 := Stand.of_body Bd
  have e0 : s₁.heap = h0 := by rw [← hh, Bd.state]; rfl
  have N0 := Fr.nil n0
  have ef : entryFrame m #[(.int (1 : Int32)), (.int (2 : Int32))] 2 = mkF m 0 #[.val (.int (1 : Int32)), .val (.int (2 : Int32))] [] := by first | (simp [entryFrame, mkF, argsToLocals, Value.category]; done) | rfl
  have pre0 : ∀ t, Steps p.tables e below (s₁.setTop (mkF m 0 #[.val (.int (1 : Int32)), .val (.int (2 : Int32))] [])) t → Steps p.tables e below (s₁.setTop (entryFrame m #[(.int (1 : Int32)), (.int (2 : Int32))] 2)) t := fun t k => castTop ef k
  obtain ⟨T101, X101, e101, st101⟩ := getS X0 hx hZ (host := "") hown (hw _ (List.mem_of_getElem? (i := 67) rfl)) Via.refl e0 (Sg.ext O0.2) (g := (mkF m 2 #[.val (.int (1 : Int32)), .val (.int (2 : Int32))] [(.int (2 : Int32)), (.int (1 : Int32))])) rfl (hb hby d12_2)
  obtain ⟨_, _, ⟨T102, L102, k102, n102⟩, -, X102, ⟨Lc102, hQ102, l102, y102, z102⟩, st102⟩ := Jvm.LawKit.callS X101 hx (y := (⟨"jdk/internal/util/Preconditions", "checkIndex", "(IILjava/util/function/BiFunction;)I"⟩ : MethodName)) hown (mvT hZ (hw _ (List.mem_of_getElem? (i := 69) rfl))) (mvT hZ (hw _ (List.mem_of_getElem? (i := 70) rfl))) (mvT hZ (hw _ (List.mem_of_getElem? (i := 68) rfl))) (mvT hZ (hw _ (List.mem_of_getElem? (i := 71) rfl))) (by decide) (backOf (W := 0) (rm_pcN1 l Z a0 hw []  h0 n0 Z0 ) hZ (hw _ (List.mem_of_getElem? (i := 71) rfl)) (hw _ (List.mem_of_getElem? (i := 68) rfl)) (by decide) (by decide)) (g := (mkF m 5 #[.val (.int (1 : Int32)), .val (.int (2 : Int32))] [.null, (.int (2 : Int32)), (.int (1 : Int32))])) rfl (by rw [hml]; rfl) (argsL := [(.int (1 : Int32)), (.int (2 : Int32)), .null]) (rest := []) (lenOf own_pd1 rfl) rfl (by show 2 * 0 + _ ≤ _; exact Nat.le_of_eq rfl) (hb hby d12_5) (fun _ _ => ⟨rfl, e101, (by decide : 0 + 0 ≤ _), (by decide : 0 + 0 ≤ _)⟩)
  dsimp only [Pt.U, Pt.locs, Pt.cells, Pt.slots] at X102 l102 y102 z102 st102 hQ102
  rw [l102, y102, z102] at X102
  obtain ⟨rfl, Nq102, e102⟩ := hQ102
  have N102 := Fr.app N0 Nq102
  obtain ⟨fs, hr, hrun, hended, hW, hsame⟩ := X102.leave (v := none) (fun _ => rfl) (hlocks := Bd.notSynchronized)
  refine ⟨_, _, pre0 _ ?_, hrun, hended, _, _, rfl, ?_, ⟨_, rfl⟩, hW, hsame.mono (by decide) (by decide)⟩
  · show Steps p.tables e below (s₁.setTop (mkF m 0 #[.val (.int (1 : Int32)), .val (.int (2 : Int32))] [])) _
    refine XS.iloadN X0.here hx rfl (hb hby d12_0) rfl ?_
    show Steps p.tables e below (s₁.setTop (mkF m 1 #[.val (.int (1 : Int32)), .val (.int (2 : Int32))] [(.int (1 : Int32))])) _
    refine XS.iloadN X0.here hx rfl (hb hby d12_1) rfl ?_
    show Steps p.tables e below (s₁.setTop (mkF m 2 #[.val (.int (1 : Int32)), .val (.int (2 : Int32))] [(.int (2 : Int32)), (.int (1 : Int32))])) _
    refine st101 _ ?_
    show Steps p.tables e below (T101.setTop (mkF m 5 #[.val (.int (1 : Int32)), .val (.int (2 : Int32))] [.null, (.int (2 : Int32)), (.int (1 : Int32))])) _
    refine st102 _ ?_
    show Steps p.tables e below (T102.setTop (mkF m 8 #[.val (.int (1 : Int32)), .val (.int (2 : Int32))] [(.int (1 : Int32))])) _
    refine XS.pop X102.here hx rfl (hb hby d12_8) rfl rfl ?_
    show Steps p.tables e below (T102.setTop (mkF m 9 #[.val (.int (1 : Int32)), .val (.int (2 : Int32))] [])) _
    exact X102.returnOut hx Bd.returns (hb hby d12_9) hr
  · show QV h0 n0 _ T102.heap _
    rw [e102]
    exact ⟨rfl, N102, rfl⟩
set_option maxRecDepth 65536 in
set_option maxHeartbeats 40000000 in
theorem rm_pcR1 (l : Launch) (Z : State) (a0 : Array Value) (hw : ∀ d ∈ tables_1, d.before a0 Z = true) (ws : List Jvm.Cond) (gf : Addr) (h0 : Heap) (n0 : Nat) (Z0 : n0 ≤ h0.size)  :
    MetFree l (⟨"jdk/internal/util/Preconditions", "checkIndex", "(IILjava/util/function/BiFunction;)I"⟩ : MethodName) (head1 (Jvm.Cond.code (⟨"jdk/internal/util/Preconditions", "checkIndex", "(IILjava/util/function/BiFunction;)I"⟩ : MethodName) jdk_41_method_11_code 3 (some .int) :: ws) ({ frames := 0, cells := 0, slots := 0, locals := 0 } : Room)) (fun a U => a = #[(.int (1 : Int32)), (.int (2 : Int32)), (.ref gf)] ∧ Z.Warmed39 U.vm ∧ U.heap = h0) (fun _ _ _ _ _ => True) (fun _ U o U' => ∃ v L, o = .returned v ∧ QN (1 : Int32) h0 n0 v U'.heap L ∧ FrameEnd U o U' L ({ frames := 0, cells := 0, slots := 0, locals := 0 } : Room).cells ({ frames := 0, cells := 0, slots := 0, locals := 0 } : Room).slots) := by
  refine MetFree.of_bodySF (plainFor_of_name own_pn3) hisR ?_
  intro p e s m args below meth c s₁ Bd hml0 hP hK
  obtain ⟨rfl, hZ, hh⟩ := hP
  have hx := Bd.exec
  have hby := Bd.bytes
  have hml : c.maxLocals = 3 := hml0
  have hown : s.vm.findClass "jdk/internal/util/Preconditions" = some m.cls := findClass_of_methodNamed Bd.named
  have hnm := (name_of_methodNamed Bd.named Bd.method).1
  have X0 : Stand p l e ({ frames := 0, cells := 0, slots := 0, locals := 0 } : Room) s m #[(.int (1 : Int32)), (.int (2 : Int32)), (.ref gf)] below meth c s₁ [] 0 0 := Stand.of_body Bd
  have e0 : s₁.heap = h0 := by rw [← hh, Bd.state]; rfl
  have N0 := Fr.nil n0
  have ef : entryFrame m #[(.int (1 : Int32)), (.int (2 : Int32)), (.ref gf)] 3 = mkF m 0 #[.val (.int (1 : Int32)), .val (.int (2 : Int32)), .val (.ref gf)] [] := by first | (simp [entryFrame, mkF, argsToLocals, Value.category]; done) | rfl
  have pre0 : ∀ t, Steps p.tables e below (s₁.setTop (mkF m 0 #[.val (.int (1 : Int32)), .val (.int (2 : Int32)), .val (.ref gf)] [])) t → Steps p.tables e below (s₁.setTop (entryFrame m #[(.int (1 : Int32)), (.int (2 : Int32)), (.ref gf)] 3)) t := fun t k => castTop ef k
  obtain ⟨fs, hr, hrun, hended, hW, hsame⟩ := X0.leave (v := some (.int (1 : Int32))) (fun h => by rw [Bd.returns] at h; cases h) (hlocks := Bd.notSynchronized)
  refine ⟨_, _, pre0 _ ?_, hrun, hended, _, _, rfl, ?_, ⟨_, rfl⟩, hW, hsame.mono (by decide) (by decide)⟩
  · show Steps p.tables e below (s₁.setTop (mkF m 0 #[.val (.int (1 : Int32)), .val (.int (2 : Int32)), .val (.ref gf)] [])) _
    refine XS.iloadN X0.here hx rfl (hb hby d13_0) rfl ?_
    show Steps p.tables e below (s₁.setTop (mkF m 1 #[.val (.int (1 : Int32)), .val (.int (2 : Int32)), .val (.ref gf)] [(.int (1 : Int32))])) _
    refine XS.ifNo X0.here hx rfl (hb hby d13_1) rfl ((if0 _ _).trans (flt (by decide : ¬ (1 : Int32) < (0 : Int32))).1) ?_
    show Steps p.tables e below (s₁.setTop (mkF m 4 #[.val (.int (1 : Int32)), .val (.int (2 : Int32)), .val (.ref gf)] [])) _
    refine XS.iloadN X0.here hx rfl (hb hby d13_4) rfl ?_
    show Steps p.tables e below (s₁.setTop (mkF m 5 #[.val (.int (1 : Int32)), .val (.int (2 : Int32)), .val (.ref gf)] [(.int (1 : Int32))])) _
    refine XS.iloadN X0.here hx rfl (hb hby d13_5) rfl ?_
    show Steps p.tables e below (s₁.setTop (mkF m 6 #[.val (.int (1 : Int32)), .val (.int (2 : Int32)), .val (.ref gf)] [(.int (2 : Int32)), (.int (1 : Int32))])) _
    refine XS.icmpYes X0.here hx rfl (pc0 := 6) (pc' := 16) rfl (hb hby d13_6) rfl (tlt (by decide : (1 : Int32) < (2 : Int32))).1 (by decide) (by decide) ?_
    show Steps p.tables e below (s₁.setTop (mkF m 16 #[.val (.int (1 : Int32)), .val (.int (2 : Int32)), .val (.ref gf)] [])) _
    refine XS.iloadN X0.here hx rfl (hb hby d13_16) rfl ?_
    show Steps p.tables e below (s₁.setTop (mkF m 17 #[.val (.int (1 : Int32)), .val (.int (2 : Int32)), .val (.ref gf)] [(.int (1 : Int32))])) _
    exact own_retI X0 hx Bd.returns (hb hby d13_17) hr
  · show QN (1 : Int32) h0 n0 _ s₁.heap _
    rw [e0]
    exact ⟨rfl, N0, rfl⟩
set_option maxRecDepth 65536 in
set_option maxHeartbeats 40000000 in
theorem rm_scR1 (l : Launch) (Z : State) (a0 : Array Value) (hw : ∀ d ∈ tables_1, d.before a0 Z = true) (ws : List Jvm.Cond) (gf : Addr) (h0 : Heap) (n0 : Nat) (Z0 : n0 ≤ h0.size) (O0 : Old Z n0 h0) (Sg : Sta Z Z.heap "jdk/internal/util/Preconditions" "SIOOBE_FORMATTER" "Ljava/util/function/BiFunction;" (.ref gf)) :
    MetFree l (⟨"java/lang/String", "checkIndex", "(II)V"⟩ : MethodName) (head1 (Jvm.Cond.code (⟨"java/lang/String", "checkIndex", "(II)V"⟩ : MethodName) jdk_42_method_155_code 2 none :: ws) ({ frames := 1, cells := 0, slots := 0, locals := 14 } : Room)) (fun a U => a = #[(.int (1 : Int32)), (.int (2 : Int32))] ∧ Z.Warmed39 U.vm ∧ U.heap = h0) (fun _ _ _ _ _ => True) (fun _ U o U' => ∃ v L, o = .returned v ∧ QV h0 n0 v U'.heap L ∧ FrameEnd U o U' L ({ frames := 1, cells := 0, slots := 0, locals := 14 } : Room).cells ({ frames := 1, cells := 0, slots := 0, locals := 14 } : Room).slots) := by
  refine MetFree.of_bodySF (plainFor_of_name own_pn2) hisR ?_
  intro p e s m args below meth c s₁ Bd hml0 hP hK
  obtain ⟨rfl, hZ, hh⟩ := hP
  have hx := Bd.exec
  have hby := Bd.bytes
  have hml : c.maxLocals = 2 := hml0
  have hown : s.vm.findClass "java/lang/String" = some m.cls := findClass_of_methodNamed Bd.named
  have hnm := (name_of_methodNamed Bd.named Bd.method).1
  have X0 : Stand p l e ({ frames := 1, cells := 0, slots := 0, locals := 14 } : Room) s m #[(.int (1 : Int32)), (.int (2 : Int32))] below meth c s₁ [] 0 0 := Stand.of_body Bd
  have e0 : s₁.heap = h0 := by rw [← hh, Bd.state]; rfl
  have N0 := Fr.nil n0
  have ef : entryFrame m #[(.int (1 : Int32)), (.int (2 : Int32))] 2 = mkF m 0 #[.val (.int (1 : Int32)), .val (.int (2 : Int32))] [] := by first | (simp [entryFrame, mkF, argsToLocals, Value.category]; done) | rfl
  have pre0 : ∀ t, Steps p.tables e below (s₁.setTop (mkF m 0 #[.val (.int (1 : Int32)), .val (.int (2 : Int32))] [])) t → Steps p.tables e below (s₁.setTop (entryFrame m #[(.int (1 : Int32)), (.int (2 : Int32))] 2)) t := fun t k => castTop ef k
  obtain ⟨T101, X101, e101, st101⟩ := getS X0 hx hZ (host := "") hown (hw _ (List.mem_of_getElem? (i := 67) rfl)) Via.refl e0 (Sg.ext O0.2) (g := (mkF m 2 #[.val (.int (1 : Int32)), .val (.int (2 : Int32))] [(.int (2 : Int32)), (.int (1 : Int32))])) rfl (hb hby d12_2)
  obtain ⟨_, _, ⟨T102, L102, k102, n102⟩, -, X102, ⟨Lc102, hQ102, l102, y102, z102⟩, st102⟩ := Jvm.LawKit.callS X101 hx (y := (⟨"jdk/internal/util/Preconditions", "checkIndex", "(IILjava/util/function/BiFunction;)I"⟩ : MethodName)) hown (mvT hZ (hw _ (List.mem_of_getElem? (i := 69) rfl))) (mvT hZ (hw _ (List.mem_of_getElem? (i := 70) rfl))) (mvT hZ (hw _ (List.mem_of_getElem? (i := 68) rfl))) (mvT hZ (hw _ (List.mem_of_getElem? (i := 71) rfl))) (by decide) (backOf (W := 0) (rm_pcR1 l Z a0 hw [] gf h0 n0 Z0 ) hZ (hw _ (List.mem_of_getElem? (i := 71) rfl)) (hw _ (List.mem_of_getElem? (i := 68) rfl)) (by decide) (by decide)) (g := (mkF m 5 #[.val (.int (1 : Int32)), .val (.int (2 : Int32))] [(.ref gf), (.int (2 : Int32)), (.int (1 : Int32))])) rfl (by rw [hml]; rfl) (argsL := [(.int (1 : Int32)), (.int (2 : Int32)), (.ref gf)]) (rest := []) (lenOf own_pd1 rfl) rfl (by show 2 * 0 + _ ≤ _; exact Nat.le_of_eq rfl) (hb hby d12_5) (fun _ _ => ⟨rfl, e101, (by decide : 0 + 0 ≤ _), (by decide : 0 + 0 ≤ _)⟩)
  dsimp only [Pt.U, Pt.locs, Pt.cells, Pt.slots] at X102 l102 y102 z102 st102 hQ102
  rw [l102, y102, z102] at X102
  obtain ⟨rfl, Nq102, e102⟩ := hQ102
  have N102 := Fr.app N0 Nq102
  obtain ⟨fs, hr, hrun, hended, hW, hsame⟩ := X102.leave (v := none) (fun _ => rfl) (hlocks := Bd.notSynchronized)
  refine ⟨_, _, pre0 _ ?_, hrun, hended, _, _, rfl, ?_, ⟨_, rfl⟩, hW, hsame.mono (by decide) (by decide)⟩
  · show Steps p.tables e below (s₁.setTop (mkF m 0 #[.val (.int (1 : Int32)), .val (.int (2 : Int32))] [])) _
    refine XS.iloadN X0.here hx rfl (hb hby d12_0) rfl ?_
    show Steps p.tables e below (s₁.setTop (mkF m 1 #[.val (.int (1 : Int32)), .val (.int (2 : Int32))] [(.int (1 : Int32))])) _
    refine XS.iloadN X0.here hx rfl (hb hby d12_1) rfl ?_
    show Steps p.tables e below (s₁.setTop (mkF m 2 #[.val (.int (1 : Int32)), .val (.int (2 : Int32))] [(.int (2 : Int32)), (.int (1 : Int32))])) _
    refine st101 _ ?_
    show Steps p.tables e below (T101.setTop (mkF m 5 #[.val (.int (1 : Int32)), .val (.int (2 : Int32))] [(.ref gf), (.int (2 : Int32)), (.int (1 : Int32))])) _
    refine st102 _ ?_
    show Steps p.tables e below (T102.setTop (mkF m 8 #[.val (.int (1 : Int32)), .val (.int (2 : Int32))] [(.int (1 : Int32))])) _
    refine XS.pop X102.here hx rfl (hb hby d12_8) rfl rfl ?_
    show Steps p.tables e below (T102.setTop (mkF m 9 #[.val (.int (1 : Int32)), .val (.int (2 : Int32))] [])) _
    exact X102.returnOut hx Bd.returns (hb hby d12_9) hr
  · show QV h0 n0 _ T102.heap _
    rw [e102]
    exact ⟨rfl, N102, rfl⟩
set_option maxRecDepth 65536 in
set_option maxHeartbeats 40000000 in
theorem rm_sc1 (l : Launch) (Z : State) (a0 : Array Value) (hw : ∀ d ∈ tables_1, d.before a0 Z = true) (ws : List Jvm.Cond) (gv : Value) (h0 : Heap) (n0 : Nat) (Z0 : n0 ≤ h0.size) (O0 : Old Z n0 h0) (Sg : Sta Z Z.heap "jdk/internal/util/Preconditions" "SIOOBE_FORMATTER" "Ljava/util/function/BiFunction;" gv) (hgv : gv.isRef = true) :
    MetFree l (⟨"java/lang/String", "checkIndex", "(II)V"⟩ : MethodName) (head1 (Jvm.Cond.code (⟨"java/lang/String", "checkIndex", "(II)V"⟩ : MethodName) jdk_42_method_155_code 2 none :: ws) ({ frames := 1, cells := 0, slots := 0, locals := 14 } : Room)) (fun a U => a = #[(.int (1 : Int32)), (.int (2 : Int32))] ∧ Z.Warmed39 U.vm ∧ U.heap = h0) (fun _ _ _ _ _ => True) (fun _ U o U' => ∃ v L, o = .returned v ∧ QV h0 n0 v U'.heap L ∧ FrameEnd U o U' L ({ frames := 1, cells := 0, slots := 0, locals := 14 } : Room).cells ({ frames := 1, cells := 0, slots := 0, locals := 14 } : Room).slots) := by
  rcases ref_cases hgv with rfl | ⟨gf, rfl⟩
  · exact rm_scN1 l Z a0 hw ws h0 n0 Z0 O0 Sg
  · exact rm_scR1 l Z a0 hw ws gf h0 n0 Z0 O0 Sg
theorem own_by1 : (((102 : Int32) &&& (255 : Int32)).toUInt32.toUInt16.toUInt32.toInt32) = (102 : Int32) := by decide
set_option maxRecDepth 65536 in
set_option maxHeartbeats 40000000 in
theorem rm_lc1 (l : Launch) (Z : State) (a0 : Array Value) (hw : ∀ d ∈ tables_1, d.before a0 Z = true) (ws : List Jvm.Cond) (ab : Addr) (gv : Value) (h0 : Heap) (n0 : Nat) (Z0 : n0 ≤ h0.size) (Ab : OwnA Z h0 ab .byte 2 own_cf) (O0 : Old Z n0 h0) (Sg : Sta Z Z.heap "jdk/internal/util/Preconditions" "SIOOBE_FORMATTER" "Ljava/util/function/BiFunction;" gv) (hgv : gv.isRef = true) :
    MetFree l (⟨"java/lang/StringLatin1", "charAt", "([BI)C"⟩ : MethodName) (head1 (Jvm.Cond.code (⟨"java/lang/StringLatin1", "charAt", "([BI)C"⟩ : MethodName) jdk_43_method_2_code 2 (some .char) :: ws) ({ frames := 2, cells := 0, slots := 0, locals := 27 } : Room)) (fun a U => a = #[(.ref ab), (.int (1 : Int32))] ∧ Z.Warmed39 U.vm ∧ U.heap = h0) (fun _ _ _ _ _ => True) (fun _ U o U' => ∃ v L, o = .returned v ∧ QN (102 : Int32) h0 n0 v U'.heap L ∧ FrameEnd U o U' L ({ frames := 2, cells := 0, slots := 0, locals := 27 } : Room).cells ({ frames := 2, cells := 0, slots := 0, locals := 27 } : Room).slots) := by
  refine MetFree.of_bodySF (plainFor_of_name own_pn4) hisR ?_
  intro p e s m args below meth c s₁ Bd hml0 hP hK
  obtain ⟨rfl, hZ, hh⟩ := hP
  have hx := Bd.exec
  have hby := Bd.bytes
  have hml : c.maxLocals = 2 := hml0
  have hown : s.vm.findClass "java/lang/StringLatin1" = some m.cls := findClass_of_methodNamed Bd.named
  have hnm := (name_of_methodNamed Bd.named Bd.method).1
  have X0 : Stand p l e ({ frames := 2, cells := 0, slots := 0, locals := 27 } : Room) s m #[(.ref ab), (.int (1 : Int32))] below meth c s₁ [] 0 0 := Stand.of_body Bd
  have e0 : s₁.heap = h0 := by rw [← hh, Bd.state]; rfl
  have N0 := Fr.nil n0
  have ef : entryFrame m #[(.ref ab), (.int (1 : Int32))] 2 = mkF m 0 #[.val (.ref ab), .val (.int (1 : Int32))] [] := by first | (simp [entryFrame, mkF, argsToLocals, Value.category]; done) | rfl
  have pre0 : ∀ t, Steps p.tables e below (s₁.setTop (mkF m 0 #[.val (.ref ab), .val (.int (1 : Int32))] [])) t → Steps p.tables e below (s₁.setTop (entryFrame m #[(.ref ab), (.int (1 : Int32))] 2)) t := fun t k => castTop ef k
  obtain ⟨_, _, ⟨T101, L101, k101, n101⟩, -, X101, ⟨Lc101, hQ101, l101, y101, z101⟩, st101⟩ := Jvm.LawKit.callS X0 hx (y := (⟨"java/lang/String", "checkIndex", "(II)V"⟩ : MethodName)) hown (mvT hZ (hw _ (List.mem_of_getElem? (i := 64) rfl))) (mvT hZ (hw _ (List.mem_of_getElem? (i := 65) rfl))) (mvT hZ (hw _ (List.mem_of_getElem? (i := 5) rfl))) (mvT hZ (hw _ (List.mem_of_getElem? (i := 66) rfl))) (by decide) (backOf (W := 0) (rm_sc1 l Z a0 hw [] gv h0 n0 Z0 O0 Sg hgv) hZ (hw _ (List.mem_of_getElem? (i := 66) rfl)) (hw _ (List.mem_of_getElem? (i := 5) rfl)) (by decide) (by decide)) (g := (mkF m 3 #[.val (.ref ab), .val (.int (1 : Int32))] [(.int (2 : Int32)), (.int (1 : Int32))])) rfl (by rw [hml]; rfl) (argsL := [(.int (1 : Int32)), (.int (2 : Int32))]) (rest := []) (lenOf own_pd2 rfl) rfl (by show 2 * 0 + _ ≤ _; exact Nat.le_of_eq rfl) (hb hby d11_3) (fun _ _ => ⟨rfl, e0, (by decide : 0 + 0 ≤ _), (by decide : 0 + 0 ≤ _)⟩)
  dsimp only [Pt.U, Pt.locs, Pt.cells, Pt.slots] at X101 l101 y101 z101 st101 hQ101
  rw [l101, y101, z101] at X101
  obtain ⟨rfl, Nq101, e101⟩ := hQ101
  have N101 := Fr.app N0 Nq101
  obtain ⟨fs, hr, hrun, hended, hW, hsame⟩ := X101.leave (v := some (.int (102 : Int32))) (fun h => by rw [Bd.returns] at h; cases h) (hlocks := Bd.notSynchronized)
  refine ⟨_, _, pre0 _ ?_, hrun, hended, _, _, rfl, ?_, ⟨_, rfl⟩, hW, hsame.mono (by decide) (by decide)⟩
  · show Steps p.tables e below (s₁.setTop (mkF m 0 #[.val (.ref ab), .val (.int (1 : Int32))] [])) _
    refine XS.iloadN X0.here hx rfl (hb hby d11_0) rfl ?_
    show Steps p.tables e below (s₁.setTop (mkF m 1 #[.val (.ref ab), .val (.int (1 : Int32))] [(.int (1 : Int32))])) _
    refine XS.aloadN X0.here hx rfl (hb hby d11_1) rfl rfl ?_
    show Steps p.tables e below (s₁.setTop (mkF m 2 #[.val (.ref ab), .val (.int (1 : Int32))] [(.ref ab), (.int (1 : Int32))])) _
    refine own_len X0 hx hZ e0 Ab (z := (2 : Int32)) rfl (g := (mkF m 2 #[.val (.ref ab), .val (.int (1 : Int32))] [(.ref ab), (.int (1 : Int32))])) rfl rfl (hb hby d11_2) _ ?_
    show Steps p.tables e below (s₁.setTop (mkF m 3 #[.val (.ref ab), .val (.int (1 : Int32))] [(.int (2 : Int32)), (.int (1 : Int32))])) _
    refine st101 _ ?_
    show Steps p.tables e below (T101.setTop (mkF m 6 #[.val (.ref ab), .val (.int (1 : Int32))] [])) _
    refine XS.aloadN X101.here hx rfl (hb hby d11_6) rfl rfl ?_
    show Steps p.tables e below (T101.setTop (mkF m 7 #[.val (.ref ab), .val (.int (1 : Int32))] [(.ref ab)])) _
    refine XS.iloadN X101.here hx rfl (hb hby d11_7) rfl ?_
    show Steps p.tables e below (T101.setTop (mkF m 8 #[.val (.ref ab), .val (.int (1 : Int32))] [(.int (1 : Int32)), (.ref ab)])) _
    refine own_ldB X101 hx hZ e101 Ab (j := (1 : Int32)) 1 (by decide) rfl (by decide) (v := (.int (102 : Int32))) rfl (g := (mkF m 8 #[.val (.ref ab), .val (.int (1 : Int32))] [(.int (1 : Int32)), (.ref ab)])) rfl rfl (hb hby d11_8) _ ?_
    show Steps p.tables e below (T101.setTop (mkF m 9 #[.val (.ref ab), .val (.int (1 : Int32))] [(.int (102 : Int32))])) _
    refine XS.sipush X101.here hx rfl (hb hby d11_9) ?_
    show Steps p.tables e below (T101.setTop (mkF m 12 #[.val (.ref ab), .val (.int (1 : Int32))] [(.int (255 : Int32)), (.int (102 : Int32))])) _
    refine XS.iand X101.here hx rfl (hb hby d11_12) rfl ?_
    show Steps p.tables e below (T101.setTop (mkF m 13 #[.val (.ref ab), .val (.int (1 : Int32))] [(.int ((102 : Int32) &&& (255 : Int32)))])) _
    refine XS.i2c X101.here hx rfl (hb hby d11_13) rfl ?_
    show Steps p.tables e below (T101.setTop (mkF m 14 #[.val (.ref ab), .val (.int (1 : Int32))] [(.int (((102 : Int32) &&& (255 : Int32)).toUInt32.toUInt16.toUInt32.toInt32))])) _
    rw [own_by1]
    show Steps p.tables e below (T101.setTop (mkF m 14 #[.val (.ref ab), .val (.int (1 : Int32))] [(.int (102 : Int32))])) _
    exact retN X101 hx (t := .char) Bd.returns (by simp) (hb hby d11_14) hr
  · show QN (102 : Int32) h0 n0 _ T101.heap _
    rw [e101]
    exact ⟨rfl, N101, rfl⟩
set_option maxRecDepth 65536 in
set_option maxHeartbeats 40000000 in
theorem rm_ch1 (l : Launch) (Z : State) (a0 : Array Value) (hw : ∀ d ∈ tables_1, d.before a0 Z = true) (ws : List Jvm.Cond) (a1 : Addr) (ab : Addr) (cs : Int32) (gv : Value) (h0 : Heap) (n0 : Nat) (Z0 : n0 ≤ h0.size) (Es : Exa Z h0 a1 "java/lang/String") (Fv : Fld Z h0 a1 "java/lang/String" "value" "[B" (.ref ab)) (Fc : Fld Z h0 a1 "java/lang/String" "coder" "B" (.int (0 : Int32))) (Ab : OwnA Z h0 ab .byte 2 own_cf) (O0 : Old Z n0 h0) (Sc : Sta Z Z.heap "java/lang/String" "COMPACT_STRINGS" "Z" (.int cs)) (hcs : ¬ (cs = (0 : Int32))) (Sg : Sta Z Z.heap "jdk/internal/util/Preconditions" "SIOOBE_FORMATTER" "Ljava/util/function/BiFunction;" gv) (hgv : gv.isRef = true) :
    MetFree l (⟨"java/lang/String", "charAt", "(I)C"⟩ : MethodName) (head1 (Jvm.Cond.code (⟨"java/lang/String", "charAt", "(I)C"⟩ : MethodName) jdk_42_method_56_code 2 (some .char) :: ws) ({ frames := 3, cells := 0, slots := 0, locals := 40 } : Room)) (fun a U => a = #[(.ref a1), (.int (1 : Int32))] ∧ Z.Warmed39 U.vm ∧ U.heap = h0) (fun _ _ _ _ _ => True) (fun _ U o U' => ∃ v L, o = .returned v ∧ QN (102 : Int32) h0 n0 v U'.heap L ∧ FrameEnd U o U' L ({ frames := 3, cells := 0, slots := 0, locals := 40 } : Room).cells ({ frames := 3, cells := 0, slots := 0, locals := 40 } : Room).slots) := by
  refine MetFree.of_bodySF (plainFor_of_name own_pn2) hisR ?_
  intro p e s m args below meth c s₁ Bd hml0 hP hK
  obtain ⟨rfl, hZ, hh⟩ := hP
  have hx := Bd.exec
  have hby := Bd.bytes
  have hml : c.maxLocals = 2 := hml0
  have hown : s.vm.findClass "java/lang/String" = some m.cls := findClass_of_methodNamed Bd.named
  have hnm := (name_of_methodNamed Bd.named Bd.method).1
  have X0 : Stand p l e ({ frames := 3, cells := 0, slots := 0, locals := 40 } : Room) s m #[(.ref a1), (.int (1 : Int32))] below meth c s₁ [] 0 0 := Stand.of_body Bd
  have e0 : s₁.heap = h0 := by rw [← hh, Bd.state]; rfl
  have N0 := Fr.nil n0
  have ef : entryFrame m #[(.ref a1), (.int (1 : Int32))] 2 = mkF m 0 #[.val (.ref a1), .val (.int (1 : Int32))] [] := by first | (simp [entryFrame, mkF, argsToLocals, Value.category]; done) | rfl
  have pre0 : ∀ t, Steps p.tables e below (s₁.setTop (mkF m 0 #[.val (.ref a1), .val (.int (1 : Int32))] [])) t → Steps p.tables e below (s₁.setTop (entryFrame m #[(.ref a1), (.int (1 : Int32))] 2)) t := fun t k => castTop ef k
  obtain ⟨cq101, kq101, q101a, q101b, q101c⟩ := isOf hZ e0 Es
  obtain ⟨_, _, ⟨T101, L101, k101, n101⟩, -, X101, ⟨Lc101, hQ101, l101, y101, z101⟩, st101⟩ := X0.virtualBack hx (y := (⟨"java/lang/String", "isLatin1", "()Z"⟩ : MethodName)) (z := (⟨"java/lang/String", "isLatin1", "()Z"⟩ : MethodName)) hown (mvT hZ (hw _ (List.mem_of_getElem? (i := 55) rfl))) (mvT hZ (hw _ (List.mem_of_getElem? (i := 56) rfl))) (notFace_of_selects (args := #[]) (mvT hZ (hw _ (List.mem_of_getElem? (i := 58) rfl)))) (mvT hZ (hw _ (List.mem_of_getElem? (i := 58) rfl))) (mvT hZ (hw _ (List.mem_of_getElem? (i := 57) rfl))) (by decide) (backOf (W := 0) (rm_lat l Z a0 hw [] a1 ab cs gv h0 n0 Z0 Es Fv Fc Ab O0 Sc hcs Sg hgv) hZ (hw _ (List.mem_of_getElem? (i := 59) rfl)) (hw _ (List.mem_of_getElem? (i := 5) rfl)) (by decide) (by decide)) q101a q101c (g := (mkF m 1 #[.val (.ref a1), .val (.int (1 : Int32))] [(.ref a1)])) rfl (by rw [hml]; rfl) (Steps.refl _) (argsL := []) (rest := []) (lenOf own_pd3 rfl) rfl (by show 2 * 0 + _ ≤ _; exact Nat.le_of_eq rfl) (hb hby d9_1) (fun _ _ => ⟨rfl, e0, (by decide : 0 + 0 ≤ _), (by decide : 0 + 0 ≤ _)⟩)
  dsimp only [Pt.U, Pt.locs, Pt.cells, Pt.slots] at X101 l101 y101 z101 st101 hQ101
  rw [l101, y101, z101] at X101
  obtain ⟨rfl, Nq101, e101⟩ := hQ101
  have N101 := Fr.app N0 Nq101
  obtain ⟨T102, X102, e102, st102⟩ := getF X101 hx hZ hown (host := "") (Or.inl (hw _ (List.mem_of_getElem? (i := 37) rfl))) Via.refl e101 Fv (g := (mkF m 8 #[.val (.ref a1), .val (.int (1 : Int32))] [(.ref a1)])) rfl rfl (hb hby d9_8)
  obtain ⟨_, _, ⟨T103, L103, k103, n103⟩, -, X103, ⟨Lc103, hQ103, l103, y103, z103⟩, st103⟩ := Jvm.LawKit.callS X102 hx (y := (⟨"java/lang/StringLatin1", "charAt", "([BI)C"⟩ : MethodName)) hown (mvT hZ (hw _ (List.mem_of_getElem? (i := 60) rfl))) (mvT hZ (hw _ (List.mem_of_getElem? (i := 61) rfl))) (mvT hZ (hw _ (List.mem_of_getElem? (i := 62) rfl))) (mvT hZ (hw _ (List.mem_of_getElem? (i := 63) rfl))) (by decide) (backOf (W := 0) (rm_lc1 l Z a0 hw [] ab gv h0 n0 Z0 Ab O0 Sg hgv) hZ (hw _ (List.mem_of_getElem? (i := 63) rfl)) (hw _ (List.mem_of_getElem? (i := 62) rfl)) (by decide) (by decide)) (g := (mkF m 12 #[.val (.ref a1), .val (.int (1 : Int32))] [(.int (1 : Int32)), (.ref ab)])) rfl (by rw [hml]; rfl) (argsL := [(.ref ab), (.int (1 : Int32))]) (rest := []) (lenOf own_pd4 rfl) rfl (by show 2 * 0 + _ ≤ _; exact Nat.le_of_eq rfl) (hb hby d9_12) (fun _ _ => ⟨rfl, e102, (by decide : 0 + 0 ≤ _), (by decide : 0 + 0 ≤ _)⟩)
  dsimp only [Pt.U, Pt.locs, Pt.cells, Pt.slots] at X103 l103 y103 z103 st103 hQ103
  rw [l103, y103, z103] at X103
  obtain ⟨rfl, Nq103, e103⟩ := hQ103
  have N103 := Fr.app N101 Nq103
  obtain ⟨fs, hr, hrun, hended, hW, hsame⟩ := X103.leave (v := some (.int (102 : Int32))) (fun h => by rw [Bd.returns] at h; cases h) (hlocks := Bd.notSynchronized)
  refine ⟨_, _, pre0 _ ?_, hrun, hended, _, _, rfl, ?_, ⟨_, rfl⟩, hW, hsame.mono (by decide) (by decide)⟩
  · show Steps p.tables e below (s₁.setTop (mkF m 0 #[.val (.ref a1), .val (.int (1 : Int32))] [])) _
    refine XS.aloadN X0.here hx rfl (hb hby d9_0) rfl rfl ?_
    show Steps p.tables e below (s₁.setTop (mkF m 1 #[.val (.ref a1), .val (.int (1 : Int32))] [(.ref a1)])) _
    refine st101.trans ?_
    show Steps p.tables e below (T101.setTop (mkF m 4 #[.val (.ref a1), .val (.int (1 : Int32))] [(.int (1 : Int32))])) _
    refine XS.ifNo X101.here hx rfl (hb hby d9_4) rfl ((if0 _ _).trans (feq (by decide : ¬ (1 : Int32) = (0 : Int32))).1) ?_
    show Steps p.tables e below (T101.setTop (mkF m 7 #[.val (.ref a1), .val (.int (1 : Int32))] [])) _
    refine XS.aloadN X101.here hx rfl (hb hby d9_7) rfl rfl ?_
    show Steps p.tables e below (T101.setTop (mkF m 8 #[.val (.ref a1), .val (.int (1 : Int32))] [(.ref a1)])) _
    refine st102 _ ?_
    show Steps p.tables e below (T102.setTop (mkF m 11 #[.val (.ref a1), .val (.int (1 : Int32))] [(.ref ab)])) _
    refine XS.iloadN X102.here hx rfl (hb hby d9_11) rfl ?_
    show Steps p.tables e below (T102.setTop (mkF m 12 #[.val (.ref a1), .val (.int (1 : Int32))] [(.int (1 : Int32)), (.ref ab)])) _
    refine st103 _ ?_
    show Steps p.tables e below (T103.setTop (mkF m 15 #[.val (.ref a1), .val (.int (1 : Int32))] [(.int (102 : Int32))])) _
    exact retN X103 hx (t := .char) Bd.returns (by simp) (hb hby d9_15) hr
  · show QN (102 : Int32) h0 n0 _ T103.heap _
    rw [e103]
    exact ⟨rfl, N103, rfl⟩
def QK (x : Option Value) (h0 : Heap) (n0 : Nat) (v : Option Value) (h : Heap) (L : List Loc) : Prop := v = x ∧ Fr n0 L ∧ Keep h0 h []
set_option maxRecDepth 65536 in
set_option maxHeartbeats 40000000 in
theorem rm_fam (l : Launch) (Z : State) (a0 : Array Value) (hw : ∀ d ∈ tables_1, d.before a0 Z = true) (ws : List Jvm.Cond) (a1 : Addr) (ab : Addr) (cs : Int32) (gv : Value) (h0 : Heap) (n0 : Nat) (Z0 : n0 ≤ h0.size) (Es : Exa Z h0 a1 "java/lang/String") (Fv : Fld Z h0 a1 "java/lang/String" "value" "[B" (.ref ab)) (Fc : Fld Z h0 a1 "java/lang/String" "coder" "B" (.int (0 : Int32))) (Ab : OwnA Z h0 ab .byte 2 own_cf) (O0 : Old Z n0 h0) (Sc : Sta Z Z.heap "java/lang/String" "COMPACT_STRINGS" "Z" (.int cs)) (hcs : ¬ (cs = (0 : Int32))) (Sg : Sta Z Z.heap "jdk/internal/util/Preconditions" "SIOOBE_FORMATTER" "Ljava/util/function/BiFunction;" gv) (hgv : gv.isRef = true) :
    MetFree l (⟨"com/example/sorted_map_store/sortedmapstore/Column", "checkFamily", "(Ljava/lang/String;)Ljava/lang/String;"⟩ : MethodName) (head1 (Jvm.Cond.code (⟨"com/example/sorted_map_store/sortedmapstore/Column", "checkFamily", "(Ljava/lang/String;)Ljava/lang/String;"⟩ : MethodName) prog_4_method_6_code 3 (some (.object "java/lang/String")) :: ws) ({ frames := 4, cells := 2, slots := 28, locals := 53 } : Room)) (fun a U => a = #[(.ref a1)] ∧ Z.Warmed39 U.vm ∧ U.heap = h0) (fun _ _ _ _ _ => True) (fun _ U o U' => ∃ v L, o = .returned v ∧ QK (some (.ref a1)) h0 n0 v U'.heap L ∧ ReturnedEndW U o U' L ({ frames := 4, cells := 2, slots := 28, locals := 53 } : Room).cells ({ frames := 4, cells := 2, slots := 28, locals := 53 } : Room).slots) := by
  refine MetFree.of_bodySF (plainFor_of_name own_pn5) hisR ?_
  intro p e s m args below meth c s₁ Bd hml0 hP hK
  obtain ⟨rfl, hZ, hh⟩ := hP
  have hx := Bd.exec
  have hby := Bd.bytes
  have hml : c.maxLocals = 3 := hml0
  have hown : s.vm.findClass "com/example/sorted_map_store/sortedmapstore/Column" = some m.cls := findClass_of_methodNamed Bd.named
  have hnm := (name_of_methodNamed Bd.named Bd.method).1
  have X0 : Stand p l e ({ frames := 4, cells := 2, slots := 28, locals := 53 } : Room) s m #[(.ref a1)] below meth c s₁ [] 0 0 := Stand.of_body Bd
  have e0 : s₁.heap = h0 := by rw [← hh, Bd.state]; rfl
  have N0 := Fr.nil n0
  have ef : entryFrame m #[(.ref a1)] 3 = mkF m 0 #[.val (.ref a1), .unset, .unset] [] := by first | (simp [entryFrame, mkF, argsToLocals, Value.category]; done) | rfl
  have pre0 : ∀ t, Steps p.tables e below (s₁.setTop (mkF m 0 #[.val (.ref a1), .unset, .unset] [])) t → Steps p.tables e below (s₁.setTop (entryFrame m #[(.ref a1)] 3)) t := fun t k => castTop ef k
  have XS0 : Stand p l e ({ frames := 4, cells := 2, slots := 28, locals := 53 } : Room) (s.setVm s.vm) m #[(.ref a1)] below meth c s₁ [] 0 0 := by rw [State.setVm_self]; exact X0
  have hZS0 : Z.Warmed39 (s.setVm s.vm).vm := hZ
  have hownS0 : (s.setVm s.vm).vm.findClass "com/example/sorted_map_store/sortedmapstore/Column" = some m.cls := hown
  have hS0 : s.Since s.vm 0 := (State.WarmedH.refl s).since 0
  obtain ⟨a101, T101, h101, k101, X101, e101, E101, hS101, hk101, hZ101, hown101, st101⟩ := ldcS XS0 hx hZS0 hownS0 (hw _ (List.mem_of_getElem? (i := 27) rfl)) (own_sa hw) e0 hS0 (Nat.zero_le _) (g := (mkF m 1 #[.val (.ref a1), .unset, .unset] [(.ref a1)])) rfl (hb hby d4_1) (n := 24) (by decide) (by decide) (by decide) (by decide)
  have Z101 : n0 ≤ h101.size := Nat.le_trans Z0 E101.1
  have KC101 : Keep h0 h101 [] := (Keep.refl h0 []).ext E101
  obtain ⟨_, _, ⟨T102, L102, k102, n102⟩, -, X102, ⟨Lc102, hQ102, l102, y102, z102⟩, st102⟩ := Jvm.LawKit.callS X101 hx (y := (⟨"java/util/Objects", "requireNonNull", "(Ljava/lang/Object;Ljava/lang/String;)Ljava/lang/Object;"⟩ : MethodName)) hown101 (mvT hZ101 (hw _ (List.mem_of_getElem? (i := 28) rfl))) (mvT hZ101 (hw _ (List.mem_of_getElem? (i := 29) rfl))) (mvT hZ101 (hw _ (List.mem_of_getElem? (i := 30) rfl))) (mvT hZ101 (hw _ (List.mem_of_getElem? (i := 31) rfl))) (by decide) (backOf (W := 0) (rm_rnn l Z a0 hw [] a1 a101 h101 n0 Z101 ) hZ101 (hw _ (List.mem_of_getElem? (i := 31) rfl)) (hw _ (List.mem_of_getElem? (i := 30) rfl)) (by decide) (by decide)) (g := (mkF m 3 #[.val (.ref a1), .unset, .unset] [(.ref a101), (.ref a1)])) rfl (by rw [hml]; rfl) (argsL := [(.ref a1), (.ref a101)]) (rest := []) (lenOf own_pd5 rfl) rfl (by show 2 * 0 + _ ≤ _; exact Nat.le_of_eq rfl) (hb hby d4_3) (fun _ _ => ⟨rfl, e101, (by decide : 2 + 0 ≤ _), (by decide : 28 + 0 ≤ _)⟩)
  dsimp only [Pt.U, Pt.locs, Pt.cells, Pt.slots] at X102 l102 y102 z102 st102 hQ102
  rw [l102, y102, z102] at X102
  obtain ⟨rfl, Nq102, e102⟩ := hQ102
  have N102 := Fr.app N0 Nq102
  have f103 := (Es.ext E101)
  have f104 := (Fv.ext E101)
  have f105 := (Fc.ext E101)
  have f106 := (Ab.ext E101)
  obtain ⟨cq107, kq107, q107a, q107b, q107c⟩ := isOf hZ101 e102 f103
  obtain ⟨_, _, ⟨T107, L107, k107, n107⟩, -, X107, ⟨Lc107, hQ107, l107, y107, z107⟩, st107⟩ := X102.virtualBack hx (y := (⟨"java/lang/String", "isEmpty", "()Z"⟩ : MethodName)) (z := (⟨"java/lang/String", "isEmpty", "()Z"⟩ : MethodName)) hown101 (mvT hZ101 (hw _ (List.mem_of_getElem? (i := 32) rfl))) (mvT hZ101 (hw _ (List.mem_of_getElem? (i := 33) rfl))) (notFace_of_selects (args := #[]) (mvT hZ101 (hw _ (List.mem_of_getElem? (i := 35) rfl)))) (mvT hZ101 (hw _ (List.mem_of_getElem? (i := 35) rfl))) (mvT hZ101 (hw _ (List.mem_of_getElem? (i := 34) rfl))) (by decide) (backOf (W := 0) (rm_emp l Z a0 hw [] a1 ab cs gv h101 n0 Z101 f103 f104 f105 f106 (O0.ext E101) Sc hcs Sg hgv) hZ101 (hw _ (List.mem_of_getElem? (i := 36) rfl)) (hw _ (List.mem_of_getElem? (i := 5) rfl)) (by decide) (by decide)) q107a q107c (g := (mkF m 8 #[.val (.ref a1), .unset, .unset] [(.ref a1)])) rfl (by rw [hml]; rfl) (Steps.refl _) (argsL := []) (rest := []) (lenOf own_pd3 rfl) rfl (by show 2 * 0 + _ ≤ _; exact Nat.le_of_eq rfl) (hb hby d4_8) (fun _ _ => ⟨rfl, e102, (by decide : 2 + 0 ≤ _), (by decide : 28 + 0 ≤ _)⟩)
  dsimp only [Pt.U, Pt.locs, Pt.cells, Pt.slots] at X107 l107 y107 z107 st107 hQ107
  rw [l107, y107, z107] at X107
  obtain ⟨rfl, Nq107, e107⟩ := hQ107
  have N107 := Fr.app N102 Nq107
  obtain ⟨cq108, kq108, q108a, q108b, q108c⟩ := isOf hZ101 e107 f103
  obtain ⟨_, _, ⟨T108, L108, k108, n108⟩, -, X108, ⟨Lc108, hQ108, l108, y108, z108⟩, st108⟩ := X107.virtualBack hx (y := (⟨"java/lang/String", "length", "()I"⟩ : MethodName)) (z := (⟨"java/lang/String", "length", "()I"⟩ : MethodName)) hown101 (mvT hZ101 (hw _ (List.mem_of_getElem? (i := 38) rfl))) (mvT hZ101 (hw _ (List.mem_of_getElem? (i := 39) rfl))) (notFace_of_selects (args := #[]) (mvT hZ101 (hw _ (List.mem_of_getElem? (i := 41) rfl)))) (mvT hZ101 (hw _ (List.mem_of_getElem? (i := 41) rfl))) (mvT hZ101 (hw _ (List.mem_of_getElem? (i := 40) rfl))) (by decide) (backOf (W := 0) (rm_len l Z a0 hw [] a1 ab cs gv h101 n0 Z101 f103 f104 f105 f106 (O0.ext E101) Sc hcs Sg hgv) hZ101 (hw _ (List.mem_of_getElem? (i := 42) rfl)) (hw _ (List.mem_of_getElem? (i := 5) rfl)) (by decide) (by decide)) q108a q108c (g := (mkF m 15 #[.val (.ref a1), .unset, .unset] [(.ref a1)])) rfl (by rw [hml]; rfl) (Steps.refl _) (argsL := []) (rest := []) (lenOf own_pd6 rfl) rfl (by show 2 * 0 + _ ≤ _; exact Nat.le_of_eq rfl) (hb hby d4_15) (fun _ _ => ⟨rfl, e107, (by decide : 2 + 0 ≤ _), (by decide : 28 + 0 ≤ _)⟩)
  dsimp only [Pt.U, Pt.locs, Pt.cells, Pt.slots] at X108 l108 y108 z108 st108 hQ108
  rw [l108, y108, z108] at X108
  obtain ⟨rfl, Nq108, e108⟩ := hQ108
  have N108 := Fr.app N107 Nq108
  obtain ⟨cq109, kq109, q109a, q109b, q109c⟩ := isOf hZ101 e108 f103
  obtain ⟨_, _, ⟨T109, L109, k109, n109⟩, -, X109, ⟨Lc109, hQ109, l109, y109, z109⟩, st109⟩ := X108.virtualBack hx (y := (⟨"java/lang/String", "length", "()I"⟩ : MethodName)) (z := (⟨"java/lang/String", "length", "()I"⟩ : MethodName)) hown101 (mvT hZ101 (hw _ (List.mem_of_getElem? (i := 38) rfl))) (mvT hZ101 (hw _ (List.mem_of_getElem? (i := 39) rfl))) (notFace_of_selects (args := #[]) (mvT hZ101 (hw _ (List.mem_of_getElem? (i := 41) rfl)))) (mvT hZ101 (hw _ (List.mem_of_getElem? (i := 41) rfl))) (mvT hZ101 (hw _ (List.mem_of_getElem? (i := 40) rfl))) (by decide) (backOf (W := 1) (rm_len l Z a0 hw [] a1 ab cs gv h101 n0 Z101 f103 f104 f105 f106 (O0.ext E101) Sc hcs Sg hgv) hZ101 (hw _ (List.mem_of_getElem? (i := 42) rfl)) (hw _ (List.mem_of_getElem? (i := 5) rfl)) (by decide) (by decide)) q109a q109c (g := (mkF m 45 #[.val (.ref a1), .val (.int (0 : Int32)), .unset] [(.ref a1), (.int (0 : Int32))])) rfl (by rw [hml]; rfl) (Steps.refl _) (argsL := []) (rest := [(.int (0 : Int32))]) (lenOf own_pd6 rfl) rfl (by show 2 * 0 + _ ≤ _; exact Nat.le_of_eq rfl) (hb hby d4_45) (fun _ _ => ⟨rfl, e108, (by decide : 2 + 0 ≤ _), (by decide : 28 + 0 ≤ _)⟩)
  dsimp only [Pt.U, Pt.locs, Pt.cells, Pt.slots] at X109 l109 y109 z109 st109 hQ109
  rw [l109, y109, z109] at X109
  obtain ⟨rfl, Nq109, e109⟩ := hQ109
  have N109 := Fr.app N108 Nq109
  obtain ⟨cq110, kq110, q110a, q110b, q110c⟩ := isOf hZ101 e109 f103
  obtain ⟨_, _, ⟨T110, L110, k110, n110⟩, -, X110, ⟨Lc110, hQ110, l110, y110, z110⟩, st110⟩ := X109.virtualBack hx (y := (⟨"java/lang/String", "charAt", "(I)C"⟩ : MethodName)) (z := (⟨"java/lang/String", "charAt", "(I)C"⟩ : MethodName)) hown101 (mvT hZ101 (hw _ (List.mem_of_getElem? (i := 50) rfl))) (mvT hZ101 (hw _ (List.mem_of_getElem? (i := 51) rfl))) (notFace_of_selects (args := #[]) (mvT hZ101 (hw _ (List.mem_of_getElem? (i := 53) rfl)))) (mvT hZ101 (hw _ (List.mem_of_getElem? (i := 53) rfl))) (mvT hZ101 (hw _ (List.mem_of_getElem? (i := 52) rfl))) (by decide) (backOf (W := 0) (rm_ch0 l Z a0 hw [] a1 ab cs gv h101 n0 Z101 f103 f104 f105 f106 (O0.ext E101) Sc hcs Sg hgv) hZ101 (hw _ (List.mem_of_getElem? (i := 54) rfl)) (hw _ (List.mem_of_getElem? (i := 5) rfl)) (by decide) (by decide)) q110a q110c (g := (mkF m 53 #[.val (.ref a1), .val (.int (0 : Int32)), .unset] [(.int (0 : Int32)), (.ref a1)])) rfl (by rw [hml]; rfl) (Steps.refl _) (argsL := [(.int (0 : Int32))]) (rest := []) (lenOf own_pd7 rfl) rfl (by show 2 * 0 + _ ≤ _; exact Nat.le_of_eq rfl) (hb hby d4_53) (fun _ _ => ⟨rfl, e109, (by decide : 2 + 0 ≤ _), (by decide : 28 + 0 ≤ _)⟩)
  dsimp only [Pt.U, Pt.locs, Pt.cells, Pt.slots] at X110 l110 y110 z110 st110 hQ110
  rw [l110, y110, z110] at X110
  obtain ⟨rfl, Nq110, e110⟩ := hQ110
  have N110 := Fr.app N109 Nq110
  obtain ⟨cq111, kq111, q111a, q111b, q111c⟩ := isOf hZ101 e110 f103
  obtain ⟨_, _, ⟨T111, L111, k111, n111⟩, -, X111, ⟨Lc111, hQ111, l111, y111, z111⟩, st111⟩ := X110.virtualBack hx (y := (⟨"java/lang/String", "length", "()I"⟩ : MethodName)) (z := (⟨"java/lang/String", "length", "()I"⟩ : MethodName)) hown101 (mvT hZ101 (hw _ (List.mem_of_getElem? (i := 38) rfl))) (mvT hZ101 (hw _ (List.mem_of_getElem? (i := 39) rfl))) (notFace_of_selects (args := #[]) (mvT hZ101 (hw _ (List.mem_of_getElem? (i := 41) rfl)))) (mvT hZ101 (hw _ (List.mem_of_getElem? (i := 41) rfl))) (mvT hZ101 (hw _ (List.mem_of_getElem? (i := 40) rfl))) (by decide) (backOf (W := 1) (rm_len l Z a0 hw [] a1 ab cs gv h101 n0 Z101 f103 f104 f105 f106 (O0.ext E101) Sc hcs Sg hgv) hZ101 (hw _ (List.mem_of_getElem? (i := 42) rfl)) (hw _ (List.mem_of_getElem? (i := 5) rfl)) (by decide) (by decide)) q111a q111c (g := (mkF m 45 #[.val (.ref a1), .val (.int (1 : Int32)), .val (.int (99 : Int32))] [(.ref a1), (.int (1 : Int32))])) rfl (by rw [hml]; rfl) (Steps.refl _) (argsL := []) (rest := [(.int (1 : Int32))]) (lenOf own_pd6 rfl) rfl (by show 2 * 0 + _ ≤ _; exact Nat.le_of_eq rfl) (hb hby d4_45) (fun _ _ => ⟨rfl, e110, (by decide : 2 + 0 ≤ _), (by decide : 28 + 0 ≤ _)⟩)
  dsimp only [Pt.U, Pt.locs, Pt.cells, Pt.slots] at X111 l111 y111 z111 st111 hQ111
  rw [l111, y111, z111] at X111
  obtain ⟨rfl, Nq111, e111⟩ := hQ111
  have N111 := Fr.app N110 Nq111
  obtain ⟨cq112, kq112, q112a, q112b, q112c⟩ := isOf hZ101 e111 f103
  obtain ⟨_, _, ⟨T112, L112, k112, n112⟩, -, X112, ⟨Lc112, hQ112, l112, y112, z112⟩, st112⟩ := X111.virtualBack hx (y := (⟨"java/lang/String", "charAt", "(I)C"⟩ : MethodName)) (z := (⟨"java/lang/String", "charAt", "(I)C"⟩ : MethodName)) hown101 (mvT hZ101 (hw _ (List.mem_of_getElem? (i := 50) rfl))) (mvT hZ101 (hw _ (List.mem_of_getElem? (i := 51) rfl))) (notFace_of_selects (args := #[]) (mvT hZ101 (hw _ (List.mem_of_getElem? (i := 53) rfl)))) (mvT hZ101 (hw _ (List.mem_of_getElem? (i := 53) rfl))) (mvT hZ101 (hw _ (List.mem_of_getElem? (i := 52) rfl))) (by decide) (backOf (W := 0) (rm_ch1 l Z a0 hw [] a1 ab cs gv h101 n0 Z101 f103 f104 f105 f106 (O0.ext E101) Sc hcs Sg hgv) hZ101 (hw _ (List.mem_of_getElem? (i := 54) rfl)) (hw _ (List.mem_of_getElem? (i := 5) rfl)) (by decide) (by decide)) q112a q112c (g := (mkF m 53 #[.val (.ref a1), .val (.int (1 : Int32)), .val (.int (99 : Int32))] [(.int (1 : Int32)), (.ref a1)])) rfl (by rw [hml]; rfl) (Steps.refl _) (argsL := [(.int (1 : Int32))]) (rest := []) (lenOf own_pd7 rfl) rfl (by show 2 * 0 + _ ≤ _; exact Nat.le_of_eq rfl) (hb hby d4_53) (fun _ _ => ⟨rfl, e111, (by decide : 2 + 0 ≤ _), (by decide : 28 + 0 ≤ _)⟩)
  dsimp only [Pt.U, Pt.locs, Pt.cells, Pt.slots] at X112 l112 y112 z112 st112 hQ112
  rw [l112, y112, z112] at X112
  obtain ⟨rfl, Nq112, e112⟩ := hQ112
  have N112 := Fr.app N111 Nq112
  obtain ⟨cq113, kq113, q113a, q113b, q113c⟩ := isOf hZ101 e112 f103
  obtain ⟨_, _, ⟨T113, L113, k113, n113⟩, -, X113, ⟨Lc113, hQ113, l113, y113, z113⟩, st113⟩ := X112.virtualBack hx (y := (⟨"java/lang/String", "length", "()I"⟩ : MethodName)) (z := (⟨"java/lang/String", "length", "()I"⟩ : MethodName)) hown101 (mvT hZ101 (hw _ (List.mem_of_getElem? (i := 38) rfl))) (mvT hZ101 (hw _ (List.mem_of_getElem? (i := 39) rfl))) (notFace_of_selects (args := #[]) (mvT hZ101 (hw _ (List.mem_of_getElem? (i := 41) rfl)))) (mvT hZ101 (hw _ (List.mem_of_getElem? (i := 41) rfl))) (mvT hZ101 (hw _ (List.mem_of_getElem? (i := 40) rfl))) (by decide) (backOf (W := 1) (rm_len l Z a0 hw [] a1 ab cs gv h101 n0 Z101 f103 f104 f105 f106 (O0.ext E101) Sc hcs Sg hgv) hZ101 (hw _ (List.mem_of_getElem? (i := 42) rfl)) (hw _ (List.mem_of_getElem? (i := 5) rfl)) (by decide) (by decide)) q113a q113c (g := (mkF m 45 #[.val (.ref a1), .val (.int (2 : Int32)), .val (.int (102 : Int32))] [(.ref a1), (.int (2 : Int32))])) rfl (by rw [hml]; rfl) (Steps.refl _) (argsL := []) (rest := [(.int (2 : Int32))]) (lenOf own_pd6 rfl) rfl (by show 2 * 0 + _ ≤ _; exact Nat.le_of_eq rfl) (hb hby d4_45) (fun _ _ => ⟨rfl, e112, (by decide : 2 + 0 ≤ _), (by decide : 28 + 0 ≤ _)⟩)
  dsimp only [Pt.U, Pt.locs, Pt.cells, Pt.slots] at X113 l113 y113 z113 st113 hQ113
  rw [l113, y113, z113] at X113
  obtain ⟨rfl, Nq113, e113⟩ := hQ113
  have N113 := Fr.app N112 Nq113
  obtain ⟨fs, hr, hrun, hended, hW1, hW2, hW3, hsame⟩ := X113.leaveW hS101 (by rw [e113]; exact hk101) (v := some (.ref a1)) (fun h => by rw [Bd.returns] at h; cases h) (hlocks := Bd.notSynchronized)
  refine ⟨_, _, pre0 _ ?_, hrun, hended, _, _, rfl, ?_, hW1, hW2, hW3, hsame.mono (by decide) (by decide)⟩
  · show Steps p.tables e below (s₁.setTop (mkF m 0 #[.val (.ref a1), .unset, .unset] [])) _
    refine XS.aloadN XS0.here hx rfl (hb hby d4_0) rfl rfl ?_
    show Steps p.tables e below (s₁.setTop (mkF m 1 #[.val (.ref a1), .unset, .unset] [(.ref a1)])) _
    refine st101 _ ?_
    show Steps p.tables e below (T101.setTop (mkF m 3 #[.val (.ref a1), .unset, .unset] [(.ref a101), (.ref a1)])) _
    refine st102 _ ?_
    show Steps p.tables e below (T102.setTop (mkF m 6 #[.val (.ref a1), .unset, .unset] [(.ref a1)])) _
    refine XS.pop X102.here hx rfl (hb hby d4_6) rfl rfl ?_
    show Steps p.tables e below (T102.setTop (mkF m 7 #[.val (.ref a1), .unset, .unset] [])) _
    refine XS.aloadN X102.here hx rfl (hb hby d4_7) rfl rfl ?_
    show Steps p.tables e below (T102.setTop (mkF m 8 #[.val (.ref a1), .unset, .unset] [(.ref a1)])) _
    refine st107.trans ?_
    show Steps p.tables e below (T107.setTop (mkF m 11 #[.val (.ref a1), .unset, .unset] [(.int (0 : Int32))])) _
    refine XS.ifNo X107.here hx rfl (hb hby d4_11) rfl ((if0 _ _).trans (teq rfl).2) ?_
    show Steps p.tables e below (T107.setTop (mkF m 14 #[.val (.ref a1), .unset, .unset] [])) _
    refine XS.aloadN X107.here hx rfl (hb hby d4_14) rfl rfl ?_
    show Steps p.tables e below (T107.setTop (mkF m 15 #[.val (.ref a1), .unset, .unset] [(.ref a1)])) _
    refine st108.trans ?_
    show Steps p.tables e below (T108.setTop (mkF m 18 #[.val (.ref a1), .unset, .unset] [(.int (2 : Int32))])) _
    refine XS.sipush X108.here hx rfl (hb hby d4_18) ?_
    show Steps p.tables e below (T108.setTop (mkF m 21 #[.val (.ref a1), .unset, .unset] [(.int (255 : Int32)), (.int (2 : Int32))])) _
    refine XS.icmpYes X108.here hx rfl (pc0 := 21) (pc' := 41) rfl (hb hby d4_21) rfl (flt (by decide : ¬ (255 : Int32) < (2 : Int32))).2.2.2 (by decide) (by decide) ?_
    show Steps p.tables e below (T108.setTop (mkF m 41 #[.val (.ref a1), .unset, .unset] [])) _
    refine XS.iconst X108.here hx rfl (hb hby d4_41) ?_
    show Steps p.tables e below (T108.setTop (mkF m 42 #[.val (.ref a1), .unset, .unset] [(.int (0 : Int32))])) _
    refine XS.istoreN X108.here hx rfl (hb hby d4_42) rfl (l' := #[.val (.ref a1), .val (.int (0 : Int32)), .unset]) rfl ?_
    show Steps p.tables e below (T108.setTop (mkF m 43 #[.val (.ref a1), .val (.int (0 : Int32)), .unset] [])) _
    refine XS.iloadN X108.here hx rfl (hb hby d4_43) rfl ?_
    show Steps p.tables e below (T108.setTop (mkF m 44 #[.val (.ref a1), .val (.int (0 : Int32)), .unset] [(.int (0 : Int32))])) _
    refine XS.aloadN X108.here hx rfl (hb hby d4_44) rfl rfl ?_
    show Steps p.tables e below (T108.setTop (mkF m 45 #[.val (.ref a1), .val (.int (0 : Int32)), .unset] [(.ref a1), (.int (0 : Int32))])) _
    refine st109.trans ?_
    show Steps p.tables e below (T109.setTop (mkF m 48 #[.val (.ref a1), .val (.int (0 : Int32)), .unset] [(.int (2 : Int32)), (.int (0 : Int32))])) _
    refine XS.icmpNo X109.here hx rfl (hb hby d4_48) rfl (tlt (by decide : (0 : Int32) < (2 : Int32))).2.1 ?_
    show Steps p.tables e below (T109.setTop (mkF m 51 #[.val (.ref a1), .val (.int (0 : Int32)), .unset] [])) _
    refine XS.aloadN X109.here hx rfl (hb hby d4_51) rfl rfl ?_
    show Steps p.tables e below (T109.setTop (mkF m 52 #[.val (.ref a1), .val (.int (0 : Int32)), .unset] [(.ref a1)])) _
    refine XS.iloadN X109.here hx rfl (hb hby d4_52) rfl ?_
    show Steps p.tables e below (T109.setTop (mkF m 53 #[.val (.ref a1), .val (.int (0 : Int32)), .unset] [(.int (0 : Int32)), (.ref a1)])) _
    refine st110.trans ?_
    show Steps p.tables e below (T110.setTop (mkF m 56 #[.val (.ref a1), .val (.int (0 : Int32)), .unset] [(.int (99 : Int32))])) _
    refine XS.istoreN X110.here hx rfl (hb hby d4_56) rfl (l' := #[.val (.ref a1), .val (.int (0 : Int32)), .val (.int (99 : Int32))]) rfl ?_
    show Steps p.tables e below (T110.setTop (mkF m 57 #[.val (.ref a1), .val (.int (0 : Int32)), .val (.int (99 : Int32))] [])) _
    refine XS.iloadN X110.here hx rfl (hb hby d4_57) rfl ?_
    show Steps p.tables e below (T110.setTop (mkF m 58 #[.val (.ref a1), .val (.int (0 : Int32)), .val (.int (99 : Int32))] [(.int (99 : Int32))])) _
    refine XS.bipush X110.here hx rfl (hb hby d4_58) ?_
    show Steps p.tables e below (T110.setTop (mkF m 60 #[.val (.ref a1), .val (.int (0 : Int32)), .val (.int (99 : Int32))] [(.int (33 : Int32)), (.int (99 : Int32))])) _
    refine XS.icmpNo X110.here hx rfl (hb hby d4_60) rfl (flt (by decide : ¬ (99 : Int32) < (33 : Int32))).1 ?_
    show Steps p.tables e below (T110.setTop (mkF m 63 #[.val (.ref a1), .val (.int (0 : Int32)), .val (.int (99 : Int32))] [])) _
    refine XS.iloadN X110.here hx rfl (hb hby d4_63) rfl ?_
    show Steps p.tables e below (T110.setTop (mkF m 64 #[.val (.ref a1), .val (.int (0 : Int32)), .val (.int (99 : Int32))] [(.int (99 : Int32))])) _
    refine XS.bipush X110.here hx rfl (hb hby d4_64) ?_
    show Steps p.tables e below (T110.setTop (mkF m 66 #[.val (.ref a1), .val (.int (0 : Int32)), .val (.int (99 : Int32))] [(.int (126 : Int32)), (.int (99 : Int32))])) _
    refine XS.icmpNo X110.here hx rfl (hb hby d4_66) rfl (flt (by decide : ¬ (126 : Int32) < (99 : Int32))).2.2.1 ?_
    show Steps p.tables e below (T110.setTop (mkF m 69 #[.val (.ref a1), .val (.int (0 : Int32)), .val (.int (99 : Int32))] [])) _
    refine XS.iloadN X110.here hx rfl (hb hby d4_69) rfl ?_
    show Steps p.tables e below (T110.setTop (mkF m 70 #[.val (.ref a1), .val (.int (0 : Int32)), .val (.int (99 : Int32))] [(.int (99 : Int32))])) _
    refine XS.bipush X110.here hx rfl (hb hby d4_70) ?_
    show Steps p.tables e below (T110.setTop (mkF m 72 #[.val (.ref a1), .val (.int (0 : Int32)), .val (.int (99 : Int32))] [(.int (58 : Int32)), (.int (99 : Int32))])) _
    refine XS.icmpYes X110.here hx rfl (pc0 := 72) (pc' := 89) rfl (hb hby d4_72) rfl (feq (by decide : ¬ (99 : Int32) = (58 : Int32))).2 (by decide) (by decide) ?_
    show Steps p.tables e below (T110.setTop (mkF m 89 #[.val (.ref a1), .val (.int (0 : Int32)), .val (.int (99 : Int32))] [])) _
    refine XS.iinc X110.here hx rfl (hb hby d4_89) rfl (l' := #[.val (.ref a1), .val (.int (1 : Int32)), .val (.int (99 : Int32))]) rfl ?_
    show Steps p.tables e below (T110.setTop (mkF m 92 #[.val (.ref a1), .val (.int (1 : Int32)), .val (.int (99 : Int32))] [])) _
    refine XS.goto X110.here hx rfl (pc0 := 92) (pc' := 43) rfl (hb hby d4_92) (by decide) (by decide) ?_
    show Steps p.tables e below (T110.setTop (mkF m 43 #[.val (.ref a1), .val (.int (1 : Int32)), .val (.int (99 : Int32))] [])) _
    refine XS.iloadN X110.here hx rfl (hb hby d4_43) rfl ?_
    show Steps p.tables e below (T110.setTop (mkF m 44 #[.val (.ref a1), .val (.int (1 : Int32)), .val (.int (99 : Int32))] [(.int (1 : Int32))])) _
    refine XS.aloadN X110.here hx rfl (hb hby d4_44) rfl rfl ?_
    show Steps p.tables e below (T110.setTop (mkF m 45 #[.val (.ref a1), .val (.int (1 : Int32)), .val (.int (99 : Int32))] [(.ref a1), (.int (1 : Int32))])) _
    refine st111.trans ?_
    show Steps p.tables e below (T111.setTop (mkF m 48 #[.val (.ref a1), .val (.int (1 : Int32)), .val (.int (99 : Int32))] [(.int (2 : Int32)), (.int (1 : Int32))])) _
    refine XS.icmpNo X111.here hx rfl (hb hby d4_48) rfl (tlt (by decide : (1 : Int32) < (2 : Int32))).2.1 ?_
    show Steps p.tables e below (T111.setTop (mkF m 51 #[.val (.ref a1), .val (.int (1 : Int32)), .val (.int (99 : Int32))] [])) _
    refine XS.aloadN X111.here hx rfl (hb hby d4_51) rfl rfl ?_
    show Steps p.tables e below (T111.setTop (mkF m 52 #[.val (.ref a1), .val (.int (1 : Int32)), .val (.int (99 : Int32))] [(.ref a1)])) _
    refine XS.iloadN X111.here hx rfl (hb hby d4_52) rfl ?_
    show Steps p.tables e below (T111.setTop (mkF m 53 #[.val (.ref a1), .val (.int (1 : Int32)), .val (.int (99 : Int32))] [(.int (1 : Int32)), (.ref a1)])) _
    refine st112.trans ?_
    show Steps p.tables e below (T112.setTop (mkF m 56 #[.val (.ref a1), .val (.int (1 : Int32)), .val (.int (99 : Int32))] [(.int (102 : Int32))])) _
    refine XS.istoreN X112.here hx rfl (hb hby d4_56) rfl (l' := #[.val (.ref a1), .val (.int (1 : Int32)), .val (.int (102 : Int32))]) rfl ?_
    show Steps p.tables e below (T112.setTop (mkF m 57 #[.val (.ref a1), .val (.int (1 : Int32)), .val (.int (102 : Int32))] [])) _
    refine XS.iloadN X112.here hx rfl (hb hby d4_57) rfl ?_
    show Steps p.tables e below (T112.setTop (mkF m 58 #[.val (.ref a1), .val (.int (1 : Int32)), .val (.int (102 : Int32))] [(.int (102 : Int32))])) _
    refine XS.bipush X112.here hx rfl (hb hby d4_58) ?_
    show Steps p.tables e below (T112.setTop (mkF m 60 #[.val (.ref a1), .val (.int (1 : Int32)), .val (.int (102 : Int32))] [(.int (33 : Int32)), (.int (102 : Int32))])) _
    refine XS.icmpNo X112.here hx rfl (hb hby d4_60) rfl (flt (by decide : ¬ (102 : Int32) < (33 : Int32))).1 ?_
    show Steps p.tables e below (T112.setTop (mkF m 63 #[.val (.ref a1), .val (.int (1 : Int32)), .val (.int (102 : Int32))] [])) _
    refine XS.iloadN X112.here hx rfl (hb hby d4_63) rfl ?_
    show Steps p.tables e below (T112.setTop (mkF m 64 #[.val (.ref a1), .val (.int (1 : Int32)), .val (.int (102 : Int32))] [(.int (102 : Int32))])) _
    refine XS.bipush X112.here hx rfl (hb hby d4_64) ?_
    show Steps p.tables e below (T112.setTop (mkF m 66 #[.val (.ref a1), .val (.int (1 : Int32)), .val (.int (102 : Int32))] [(.int (126 : Int32)), (.int (102 : Int32))])) _
    refine XS.icmpNo X112.here hx rfl (hb hby d4_66) rfl (flt (by decide : ¬ (126 : Int32) < (102 : Int32))).2.2.1 ?_
    show Steps p.tables e below (T112.setTop (mkF m 69 #[.val (.ref a1), .val (.int (1 : Int32)), .val (.int (102 : Int32))] [])) _
    refine XS.iloadN X112.here hx rfl (hb hby d4_69) rfl ?_
    show Steps p.tables e below (T112.setTop (mkF m 70 #[.val (.ref a1), .val (.int (1 : Int32)), .val (.int (102 : Int32))] [(.int (102 : Int32))])) _
    refine XS.bipush X112.here hx rfl (hb hby d4_70) ?_
    show Steps p.tables e below (T112.setTop (mkF m 72 #[.val (.ref a1), .val (.int (1 : Int32)), .val (.int (102 : Int32))] [(.int (58 : Int32)), (.int (102 : Int32))])) _
    refine XS.icmpYes X112.here hx rfl (pc0 := 72) (pc' := 89) rfl (hb hby d4_72) rfl (feq (by decide : ¬ (102 : Int32) = (58 : Int32))).2 (by decide) (by decide) ?_
    show Steps p.tables e below (T112.setTop (mkF m 89 #[.val (.ref a1), .val (.int (1 : Int32)), .val (.int (102 : Int32))] [])) _
    refine XS.iinc X112.here hx rfl (hb hby d4_89) rfl (l' := #[.val (.ref a1), .val (.int (2 : Int32)), .val (.int (102 : Int32))]) rfl ?_
    show Steps p.tables e below (T112.setTop (mkF m 92 #[.val (.ref a1), .val (.int (2 : Int32)), .val (.int (102 : Int32))] [])) _
    refine XS.goto X112.here hx rfl (pc0 := 92) (pc' := 43) rfl (hb hby d4_92) (by decide) (by decide) ?_
    show Steps p.tables e below (T112.setTop (mkF m 43 #[.val (.ref a1), .val (.int (2 : Int32)), .val (.int (102 : Int32))] [])) _
    refine XS.iloadN X112.here hx rfl (hb hby d4_43) rfl ?_
    show Steps p.tables e below (T112.setTop (mkF m 44 #[.val (.ref a1), .val (.int (2 : Int32)), .val (.int (102 : Int32))] [(.int (2 : Int32))])) _
    refine XS.aloadN X112.here hx rfl (hb hby d4_44) rfl rfl ?_
    show Steps p.tables e below (T112.setTop (mkF m 45 #[.val (.ref a1), .val (.int (2 : Int32)), .val (.int (102 : Int32))] [(.ref a1), (.int (2 : Int32))])) _
    refine st113.trans ?_
    show Steps p.tables e below (T113.setTop (mkF m 48 #[.val (.ref a1), .val (.int (2 : Int32)), .val (.int (102 : Int32))] [(.int (2 : Int32)), (.int (2 : Int32))])) _
    refine XS.icmpYes X113.here hx rfl (pc0 := 48) (pc' := 95) rfl (hb hby d4_48) rfl (flt (by decide : ¬ (2 : Int32) < (2 : Int32))).2.1 (by decide) (by decide) ?_
    show Steps p.tables e below (T113.setTop (mkF m 95 #[.val (.ref a1), .val (.int (2 : Int32)), .val (.int (102 : Int32))] [])) _
    refine XS.aloadN X113.here hx rfl (hb hby d4_95) rfl rfl ?_
    show Steps p.tables e below (T113.setTop (mkF m 96 #[.val (.ref a1), .val (.int (2 : Int32)), .val (.int (102 : Int32))] [(.ref a1)])) _
    exact own_retA X113 hx (t := (.object "java/lang/String")) rfl Bd.returns (hb hby d4_96) hr
  · show QK (some (.ref a1)) h0 n0 _ T113.heap _
    rw [e113]
    exact ⟨rfl, N113, KC101⟩
def QI (Z : State) (ac : Addr) (q4 : Int64) (h0 : Heap) (n0 : Nat) (v : Option Value) (h : Heap) (L : List Loc) : Prop := v = none ∧ Fr n0 L ∧ Keep h0 h [ac] ∧ Exa Z h ac "com/example/sorted_map_store/sortedmapstore/ColumnFamily" ∧ Fld Z h ac "com/example/sorted_map_store/sortedmapstore/ColumnFamily" "maxAgeSeconds" "J" (.long q4)
set_option maxRecDepth 65536 in
set_option maxHeartbeats 40000000 in
theorem rmI (l : Launch) (Z : State) (a0 : Array Value) (hw : ∀ d ∈ tables_1, d.before a0 Z = true) (ws : List Jvm.Cond) (ac : Addr) (a1 : Addr) (ab : Addr) (cs : Int32) (gv : Value) (q4 : Int64) (h0 : Heap) (n0 : Nat) (Z0 : n0 ≤ h0.size) (Ec : Exa Z h0 ac "com/example/sorted_map_store/sortedmapstore/ColumnFamily") (g_ac : n0 ≤ ac) (F0 : Fld Z h0 ac "com/example/sorted_map_store/sortedmapstore/ColumnFamily" "name" "Ljava/lang/String;" .null) (F1 : Fld Z h0 ac "com/example/sorted_map_store/sortedmapstore/ColumnFamily" "maxVersions" "I" (.int (0 : Int32))) (F2 : Fld Z h0 ac "com/example/sorted_map_store/sortedmapstore/ColumnFamily" "maxAgeSeconds" "J" (.long (0 : Int64))) (Es : Exa Z h0 a1 "java/lang/String") (Fv : Fld Z h0 a1 "java/lang/String" "value" "[B" (.ref ab)) (Fc : Fld Z h0 a1 "java/lang/String" "coder" "B" (.int (0 : Int32))) (Ab : OwnA Z h0 ab .byte 2 own_cf) (O0 : Old Z n0 h0) (Sc : Sta Z Z.heap "java/lang/String" "COMPACT_STRINGS" "Z" (.int cs)) (hcs : ¬ (cs = (0 : Int32))) (Sg : Sta Z Z.heap "jdk/internal/util/Preconditions" "SIOOBE_FORMATTER" "Ljava/util/function/BiFunction;" gv) (hgv : gv.isRef = true) (hq4 : ¬ q4 < (1 : Int64)) :
    MetFree l (⟨"com/example/sorted_map_store/sortedmapstore/ColumnFamily", "<init>", "(Ljava/lang/String;IJ)V"⟩ : MethodName) (head1 (Jvm.Cond.code (⟨"com/example/sorted_map_store/sortedmapstore/ColumnFamily", "<init>", "(Ljava/lang/String;IJ)V"⟩ : MethodName) prog_5_method_1_code 5 none :: ws) ({ frames := 5, cells := 2, slots := 28, locals := 67 } : Room)) (fun a U => a = #[(.ref ac), (.ref a1), (.int (1 : Int32)), (.long q4)] ∧ Z.Warmed39 U.vm ∧ U.heap = h0) (fun _ _ _ _ _ => True) (fun _ U o U' => ∃ v L, o = .returned v ∧ QI Z ac q4 h0 n0 v U'.heap L ∧ ReturnedEndW U o U' L ({ frames := 5, cells := 2, slots := 28, locals := 67 } : Room).cells ({ frames := 5, cells := 2, slots := 28, locals := 67 } : Room).slots) := by
  refine MetFree.of_bodySF (plainFor_of_name own_pn6) hisR ?_
  intro p e s m args below meth c s₁ Bd hml0 hP hK
  obtain ⟨rfl, hZ, hh⟩ := hP
  have hx := Bd.exec
  have hby := Bd.bytes
  have hml : c.maxLocals = 5 := hml0
  have hown : s.vm.findClass "com/example/sorted_map_store/sortedmapstore/ColumnFamily" = some m.cls := findClass_of_methodNamed Bd.named
  have hnm := (name_of_methodNamed Bd.named Bd.method).1
  have X0 : Stand p l e ({ frames := 5, cells := 2, slots := 28, locals := 67 } : Room) s m #[(.ref ac), (.ref a1), (.int (1 : Int32)), (.long q4)] below meth c s₁ [] 0 0 := Stand.of_body Bd
  have e0 : s₁.heap = h0 := by rw [← hh, Bd.state]; rfl
  have N0 := Fr.nil n0
  have ef : entryFrame m #[(.ref ac), (.ref a1), (.int (1 : Int32)), (.long q4)] 5 = mkF m 0 #[.val (.ref ac), .val (.ref a1), .val (.int (1 : Int32)), .val (.long q4), .second] [] := by first | (simp [entryFrame, mkF, argsToLocals, Value.category]; done) | rfl
  have pre0 : ∀ t, Steps p.tables e below (s₁.setTop (mkF m 0 #[.val (.ref ac), .val (.ref a1), .val (.int (1 : Int32)), .val (.long q4), .second] [])) t → Steps p.tables e below (s₁.setTop (entryFrame m #[(.ref ac), (.ref a1), (.int (1 : Int32)), (.long q4)] 5)) t := fun t k => castTop ef k
  have XS0 : Stand p l e ({ frames := 5, cells := 2, slots := 28, locals := 67 } : Room) (s.setVm s.vm) m #[(.ref ac), (.ref a1), (.int (1 : Int32)), (.long q4)] below meth c s₁ [] 0 0 := by rw [State.setVm_self]; exact X0
  have hZS0 : Z.Warmed39 (s.setVm s.vm).vm := hZ
  have hownS0 : (s.setVm s.vm).vm.findClass "com/example/sorted_map_store/sortedmapstore/ColumnFamily" = some m.cls := hown
  have hS0 : s.Since s.vm 0 := (State.WarmedH.refl s).since 0
  obtain ⟨_, _, ⟨T101, L101, k101, n101⟩, -, X101, ⟨Lc101, hQ101, l101, y101, z101⟩, st101⟩ := XS0.specialBack hx (y := (⟨"java/lang/Record", "<init>", "()V"⟩ : MethodName)) rfl hownS0 (mvT hZS0 (hw _ (List.mem_of_getElem? (i := 15) rfl))) (mvT hZS0 (hw _ (List.mem_of_getElem? (i := 16) rfl))) (mvT hZS0 (hw _ (List.mem_of_getElem? (i := 19) rfl))) (by decide) (backOf (W := 0) (rmR l Z a0 hw [] ac h0 n0 Z0 ) hZS0 (hw _ (List.mem_of_getElem? (i := 19) rfl)) (hw _ (List.mem_of_getElem? (i := 18) rfl)) (by decide) (by decide)) (g := (mkF m 1 #[.val (.ref ac), .val (.ref a1), .val (.int (1 : Int32)), .val (.long q4), .second] [(.ref ac)])) rfl (by rw [hml]; rfl) (Steps.refl _) (a := ac) (argsL := []) (rest := []) (lenOf own_pd8 rfl) rfl (by show 2 * 0 + _ ≤ _; exact Nat.le_of_eq rfl) (hb hby d1_1) (fun _ _ => ⟨rfl, e0, (by decide : 0 + 0 ≤ _), (by decide : 0 + 0 ≤ _)⟩)
  dsimp only [Pt.U, Pt.locs, Pt.cells, Pt.slots] at X101 l101 y101 z101 st101 hQ101
  rw [l101, y101, z101] at X101
  obtain ⟨rfl, Nq101, e101⟩ := hQ101
  have N101 := Fr.app N0 Nq101
  obtain ⟨_, _, ⟨T102, L102, k102, n102⟩, -, X102, hq102, gq102, ⟨Lc102, hQ102, l102, y102, z102⟩, st102⟩ := callSS X101 hx (y := (⟨"com/example/sorted_map_store/sortedmapstore/Column", "checkFamily", "(Ljava/lang/String;)Ljava/lang/String;"⟩ : MethodName)) hownS0 (mvT hZS0 (hw _ (List.mem_of_getElem? (i := 23) rfl))) (mvT hZS0 (hw _ (List.mem_of_getElem? (i := 24) rfl))) (mvT hZS0 (hw _ (List.mem_of_getElem? (i := 25) rfl))) (mvT hZS0 (hw _ (List.mem_of_getElem? (i := 26) rfl))) (by decide) (backOfS (W := 0) (rm_fam l Z a0 hw [] a1 ab cs gv h0 n0 Z0 Es Fv Fc Ab O0 Sc hcs Sg hgv) hZS0 (hw _ (List.mem_of_getElem? (i := 26) rfl)) (hw _ (List.mem_of_getElem? (i := 25) rfl)) (by decide) (by decide)) (g := (mkF m 5 #[.val (.ref ac), .val (.ref a1), .val (.int (1 : Int32)), .val (.long q4), .second] [(.ref a1)])) rfl (by rw [hml]; rfl) (argsL := [(.ref a1)]) (rest := []) (lenOf own_pd9 rfl) rfl (by show 2 * 0 + _ ≤ _; exact Nat.le_of_eq rfl) (hb hby d1_5) (fun _ _ => ⟨rfl, e101, (by decide : 0 + 2 ≤ _), (by decide : 0 + 28 ≤ _)⟩)
  dsimp only [Pt.U, Pt.locs, Pt.cells, Pt.slots] at X102 hq102 gq102 l102 y102 z102 st102 hQ102
  rw [l102, y102, z102] at X102
  obtain ⟨XR102, hS102, hZ102, hown102⟩ := rebS hS0 (by rw [e101]; exact (Nat.zero_le _)) X102 hq102 gq102 hZS0 hownS0
  clear X102
  have X102 := XR102
  obtain ⟨rfl, Nq102, K102⟩ := hQ102
  have Z102 : n0 ≤ T102.heap.size := Nat.le_trans Z0 K102.1
  have KC102 : Keep h0 T102.heap [ac] := (Keep.refl h0 [ac]).trans K102 all0
  have N102 := Fr.app N101 Nq102
  have f103 := (Ec.keep K102)
  have f104 := (F0.keep K102 nin0)
  obtain ⟨T105, h105, X105, e105, W105, st105⟩ := putF X102 hx hZ102 hown102 (host := "") (Or.inl (hw _ (List.mem_of_getElem? (i := 72) rfl))) Via.refl rfl f104 f103 (Or.inr ⟨(hw _ (List.mem_of_getElem? (i := 73) rfl)), rfl, hnm⟩) (hw _ (List.mem_of_getElem? (i := 2) rfl)) (ty := (.object "java/lang/String")) (by decide) rfl rfl (g := (mkF m 50 #[.val (.ref ac), .val (.ref a1), .val (.int (1 : Int32)), .val (.long q4), .second] [(.ref a1), (.ref ac)])) rfl rfl (hb hby d1_50)
  have F105 := f104.same W105
  have sk105 := Nat.le_trans (Nat.le_refl _) (Nat.le_of_eq W105.size.symm)
  have Z105 : n0 ≤ h105.size := Nat.le_trans Z102 (Nat.le_of_eq W105.size.symm)
  have KC105 : Keep h0 h105 [ac] := KC102.wr W105 (Or.inl (List.mem_of_getElem? (i := 0) rfl))
  have N105 := Fr.snoc X105 N102 g_ac
  have f106 := (f103.wr W105)
  have f107 := ((F1.keep K102 nin0).other W105 (Or.inr (slot_ne (Or.inr (hw _ (List.mem_of_getElem? (i := 75) rfl))) (Or.inr (hw _ (List.mem_of_getElem? (i := 73) rfl))) (by decide) (t := .int) (t' := (.object "java/lang/String")) (by decide) (by decide))))
  obtain ⟨T108, h108, X108, e108, W108, st108⟩ := putF X105 hx hZ102 hown102 (host := "") (Or.inl (hw _ (List.mem_of_getElem? (i := 74) rfl))) Via.refl e105 f107 f106 (Or.inr ⟨(hw _ (List.mem_of_getElem? (i := 75) rfl)), rfl, hnm⟩) (hw _ (List.mem_of_getElem? (i := 2) rfl)) (ty := .int) (by decide) rfl rfl (g := (mkF m 55 #[.val (.ref ac), .val (.ref a1), .val (.int (1 : Int32)), .val (.long q4), .second] [(.int (1 : Int32)), (.ref ac)])) rfl rfl (hb hby d1_55)
  have F108 := f107.same W108
  have sk108 := Nat.le_trans sk105 (Nat.le_of_eq W108.size.symm)
  have Z108 : n0 ≤ h108.size := Nat.le_trans Z105 (Nat.le_of_eq W108.size.symm)
  have KC108 : Keep h0 h108 [ac] := KC105.wr W108 (Or.inl (List.mem_of_getElem? (i := 0) rfl))
  have N108 := Fr.snoc X108 N105 g_ac
  have f109 := (f106.wr W108)
  have f110 := (((F2.keep K102 nin0).other W105 (Or.inr (slot_ne (Or.inr (hw _ (List.mem_of_getElem? (i := 77) rfl))) (Or.inr (hw _ (List.mem_of_getElem? (i := 73) rfl))) (by decide) (t := .long) (t' := (.object "java/lang/String")) (by decide) (by decide)))).other W108 (Or.inr (slot_ne (Or.inr (hw _ (List.mem_of_getElem? (i := 77) rfl))) (Or.inr (hw _ (List.mem_of_getElem? (i := 75) rfl))) (by decide) (t := .long) (t' := .int) (by decide) (by decide))))
  obtain ⟨T111, h111, X111, e111, W111, st111⟩ := putF X108 hx hZ102 hown102 (host := "") (Or.inl (hw _ (List.mem_of_getElem? (i := 76) rfl))) Via.refl e108 f110 f109 (Or.inr ⟨(hw _ (List.mem_of_getElem? (i := 77) rfl)), rfl, hnm⟩) (hw _ (List.mem_of_getElem? (i := 2) rfl)) (ty := .long) (by decide) rfl rfl (g := (mkF m 60 #[.val (.ref ac), .val (.ref a1), .val (.int (1 : Int32)), .val (.long q4), .second] [(.long q4), (.ref ac)])) rfl rfl (hb hby d1_60)
  have F111 := f110.same W111
  have sk111 := Nat.le_trans sk108 (Nat.le_of_eq W111.size.symm)
  have Z111 : n0 ≤ h111.size := Nat.le_trans Z108 (Nat.le_of_eq W111.size.symm)
  have KC111 : Keep h0 h111 [ac] := KC108.wr W111 (Or.inl (List.mem_of_getElem? (i := 0) rfl))
  have N111 := Fr.snoc X111 N108 g_ac
  have f112 := (f109.wr W111)
  obtain ⟨fs, hr, hrun, hended, hW1, hW2, hW3, hsame⟩ := X111.leaveW hS102 (by rw [e111]; exact sk111) (v := none) (fun _ => rfl) (hlocks := Bd.notSynchronized)
  refine ⟨_, _, pre0 _ ?_, hrun, hended, _, _, rfl, ?_, hW1, hW2, hW3, hsame.mono (by decide) (by decide)⟩
  · show Steps p.tables e below (s₁.setTop (mkF m 0 #[.val (.ref ac), .val (.ref a1), .val (.int (1 : Int32)), .val (.long q4), .second] [])) _
    refine XS.aloadN XS0.here hx rfl (hb hby d1_0) rfl rfl ?_
    show Steps p.tables e below (s₁.setTop (mkF m 1 #[.val (.ref ac), .val (.ref a1), .val (.int (1 : Int32)), .val (.long q4), .second] [(.ref ac)])) _
    refine st101.trans ?_
    show Steps p.tables e below (T101.setTop (mkF m 4 #[.val (.ref ac), .val (.ref a1), .val (.int (1 : Int32)), .val (.long q4), .second] [])) _
    refine XS.aloadN X101.here hx rfl (hb hby d1_4) rfl rfl ?_
    show Steps p.tables e below (T101.setTop (mkF m 5 #[.val (.ref ac), .val (.ref a1), .val (.int (1 : Int32)), .val (.long q4), .second] [(.ref a1)])) _
    refine st102.trans ?_
    show Steps p.tables e below (T102.setTop (mkF m 8 #[.val (.ref ac), .val (.ref a1), .val (.int (1 : Int32)), .val (.long q4), .second] [(.ref a1)])) _
    refine XS.pop X102.here hx rfl (hb hby d1_8) rfl rfl ?_
    show Steps p.tables e below (T102.setTop (mkF m 9 #[.val (.ref ac), .val (.ref a1), .val (.int (1 : Int32)), .val (.long q4), .second] [])) _
    refine XS.iloadN X102.here hx rfl (hb hby d1_9) rfl ?_
    show Steps p.tables e below (T102.setTop (mkF m 10 #[.val (.ref ac), .val (.ref a1), .val (.int (1 : Int32)), .val (.long q4), .second] [(.int (1 : Int32))])) _
    refine XS.iconst X102.here hx rfl (hb hby d1_10) ?_
    show Steps p.tables e below (T102.setTop (mkF m 11 #[.val (.ref ac), .val (.ref a1), .val (.int (1 : Int32)), .val (.long q4), .second] [(.int (1 : Int32)), (.int (1 : Int32))])) _
    refine XS.icmpYes X102.here hx rfl (pc0 := 11) (pc' := 28) rfl (hb hby d1_11) rfl (flt (by decide : ¬ (1 : Int32) < (1 : Int32))).2.1 (by decide) (by decide) ?_
    show Steps p.tables e below (T102.setTop (mkF m 28 #[.val (.ref ac), .val (.ref a1), .val (.int (1 : Int32)), .val (.long q4), .second] [])) _
    refine XS.lloadN X102.here hx rfl (hb hby d1_28) rfl ?_
    show Steps p.tables e below (T102.setTop (mkF m 29 #[.val (.ref ac), .val (.ref a1), .val (.int (1 : Int32)), .val (.long q4), .second] [(.long q4)])) _
    refine XS.lconst X102.here hx rfl (hb hby d1_29) ?_
    show Steps p.tables e below (T102.setTop (mkF m 30 #[.val (.ref ac), .val (.ref a1), .val (.int (1 : Int32)), .val (.long q4), .second] [(.long (1 : Int64)), (.long q4)])) _
    refine XS.lcmp X102.here hx rfl (hb hby d1_30) rfl ?_
    show Steps p.tables e below (T102.setTop (mkF m 31 #[.val (.ref ac), .val (.ref a1), .val (.int (1 : Int32)), .val (.long q4), .second] [(.int (lcmpW q4 (1 : Int64)))])) _
    refine XS.ifYes X102.here hx rfl (pc0 := 31) (pc' := 48) rfl (hb hby d1_31) rfl ((if0 _ _).trans (flt (own_lcGe hq4)).2.1) (by decide) (by decide) ?_
    show Steps p.tables e below (T102.setTop (mkF m 48 #[.val (.ref ac), .val (.ref a1), .val (.int (1 : Int32)), .val (.long q4), .second] [])) _
    refine XS.aloadN X102.here hx rfl (hb hby d1_48) rfl rfl ?_
    show Steps p.tables e below (T102.setTop (mkF m 49 #[.val (.ref ac), .val (.ref a1), .val (.int (1 : Int32)), .val (.long q4), .second] [(.ref ac)])) _
    refine XS.aloadN X102.here hx rfl (hb hby d1_49) rfl rfl ?_
    show Steps p.tables e below (T102.setTop (mkF m 50 #[.val (.ref ac), .val (.ref a1), .val (.int (1 : Int32)), .val (.long q4), .second] [(.ref a1), (.ref ac)])) _
    refine st105 _ ?_
    show Steps p.tables e below (T105.setTop (mkF m 53 #[.val (.ref ac), .val (.ref a1), .val (.int (1 : Int32)), .val (.long q4), .second] [])) _
    refine XS.aloadN X105.here hx rfl (hb hby d1_53) rfl rfl ?_
    show Steps p.tables e below (T105.setTop (mkF m 54 #[.val (.ref ac), .val (.ref a1), .val (.int (1 : Int32)), .val (.long q4), .second] [(.ref ac)])) _
    refine XS.iloadN X105.here hx rfl (hb hby d1_54) rfl ?_
    show Steps p.tables e below (T105.setTop (mkF m 55 #[.val (.ref ac), .val (.ref a1), .val (.int (1 : Int32)), .val (.long q4), .second] [(.int (1 : Int32)), (.ref ac)])) _
    refine st108 _ ?_
    show Steps p.tables e below (T108.setTop (mkF m 58 #[.val (.ref ac), .val (.ref a1), .val (.int (1 : Int32)), .val (.long q4), .second] [])) _
    refine XS.aloadN X108.here hx rfl (hb hby d1_58) rfl rfl ?_
    show Steps p.tables e below (T108.setTop (mkF m 59 #[.val (.ref ac), .val (.ref a1), .val (.int (1 : Int32)), .val (.long q4), .second] [(.ref ac)])) _
    refine XS.lloadN X108.here hx rfl (hb hby d1_59) rfl ?_
    show Steps p.tables e below (T108.setTop (mkF m 60 #[.val (.ref ac), .val (.ref a1), .val (.int (1 : Int32)), .val (.long q4), .second] [(.long q4), (.ref ac)])) _
    refine st111 _ ?_
    show Steps p.tables e below (T111.setTop (mkF m 63 #[.val (.ref ac), .val (.ref a1), .val (.int (1 : Int32)), .val (.long q4), .second] [])) _
    exact X111.returnOut hx Bd.returns (hb hby d1_63) hr
  · show QI Z ac q4 h0 n0 _ T111.heap _
    rw [e111]
    exact ⟨rfl, N111, KC111, f112, F111⟩
def own_old (q1 q2 : Int64) : Int64 := if (9223372036854 : Int64) < q2 then (-9223372036854775808 : Int64) else if q1 < ((-9223372036854775808 : Int64) + (q2 * (1000000 : Int64))) then (-9223372036854775808 : Int64) else (q1 - (q2 * (1000000 : Int64)))
set_option maxRecDepth 65536 in
set_option maxHeartbeats 40000000 in
theorem rmKA (l : Launch) (Z : State) (a0 : Array Value) (hw : ∀ d ∈ tables_1, d.before a0 Z = true) (ws : List Jvm.Cond) (ac : Addr) (q1 : Int64) (q2 : Int64) (h0 : Heap) (n0 : Nat) (Z0 : n0 ≤ h0.size) (F : Fld Z h0 ac "com/example/sorted_map_store/sortedmapstore/ColumnFamily" "maxAgeSeconds" "J" (.long q2)) (hb8 : (9223372036854 : Int64) < q2) :
    MetFree l (⟨"com/example/sorted_map_store/sortedmapstore/ColumnFamily", "oldestKept", "(J)J"⟩ : MethodName) (head1 (Jvm.Cond.code (⟨"com/example/sorted_map_store/sortedmapstore/ColumnFamily", "oldestKept", "(J)J"⟩ : MethodName) prog_5_method_6_code 5 (some .long) :: ws) ({ frames := 0, cells := 0, slots := 0, locals := 0 } : Room)) (fun a U => a = #[(.ref ac), (.long q1)] ∧ Z.Warmed39 U.vm ∧ U.heap = h0) (fun _ _ _ _ _ => True) (fun _ U o U' => ∃ v L, o = .returned v ∧ QJ (own_old q1 q2) h0 n0 v U'.heap L ∧ FrameEnd U o U' L ({ frames := 0, cells := 0, slots := 0, locals := 0 } : Room).cells ({ frames := 0, cells := 0, slots := 0, locals := 0 } : Room).slots) := by
  refine MetFree.of_bodySF (plainFor_of_name own_pn6) hisR ?_
  intro p e s m args below meth c s₁ Bd hml0 hP hK
  obtain ⟨rfl, hZ, hh⟩ := hP
  have hx := Bd.exec
  have hby := Bd.bytes
  have hml : c.maxLocals = 5 := hml0
  have hown : s.vm.findClass "com/example/sorted_map_store/sortedmapstore/ColumnFamily" = some m.cls := findClass_of_methodNamed Bd.named
  have hnm := (name_of_methodNamed Bd.named Bd.method).1
  have X0 : Stand p l e ({ frames := 0, cells := 0, slots := 0, locals := 0 } : Room) s m #[(.ref ac), (.long q1)] below meth c s₁ [] 0 0 := Stand.of_body Bd
  have e0 : s₁.heap = h0 := by rw [← hh, Bd.state]; rfl
  have N0 := Fr.nil n0
  have ef : entryFrame m #[(.ref ac), (.long q1)] 5 = mkF m 0 #[.val (.ref ac), .val (.long q1), .second, .unset, .unset] [] := by first | (simp [entryFrame, mkF, argsToLocals, Value.category]; done) | rfl
  have pre0 : ∀ t, Steps p.tables e below (s₁.setTop (mkF m 0 #[.val (.ref ac), .val (.long q1), .second, .unset, .unset] [])) t → Steps p.tables e below (s₁.setTop (entryFrame m #[(.ref ac), (.long q1)] 5)) t := fun t k => castTop ef k
  obtain ⟨T101, X101, e101, st101⟩ := getF X0 hx hZ hown (host := "") (Or.inl (hw _ (List.mem_of_getElem? (i := 76) rfl))) Via.refl e0 F (g := (mkF m 1 #[.val (.ref ac), .val (.long q1), .second, .unset, .unset] [(.ref ac)])) rfl rfl (hb hby d14_1)
  obtain ⟨fs, hr, hrun, hended, hW, hsame⟩ := X101.leave (v := some (.long (-9223372036854775808 : Int64))) (fun h => by rw [Bd.returns] at h; cases h) (hlocks := Bd.notSynchronized)
  refine ⟨_, _, pre0 _ ?_, hrun, hended, _, _, rfl, ?_, ⟨_, rfl⟩, hW, hsame.mono (by decide) (by decide)⟩
  · show Steps p.tables e below (s₁.setTop (mkF m 0 #[.val (.ref ac), .val (.long q1), .second, .unset, .unset] [])) _
    refine XS.aloadN X0.here hx rfl (hb hby d14_0) rfl rfl ?_
    show Steps p.tables e below (s₁.setTop (mkF m 1 #[.val (.ref ac), .val (.long q1), .second, .unset, .unset] [(.ref ac)])) _
    refine st101 _ ?_
    show Steps p.tables e below (T101.setTop (mkF m 4 #[.val (.ref ac), .val (.long q1), .second, .unset, .unset] [(.long q2)])) _
    refine X101.ldc2Long hx hown (mvT hZ (hw _ (List.mem_of_getElem? (i := 83) rfl))) (g := (mkF m 4 #[.val (.ref ac), .val (.long q1), .second, .unset, .unset] [(.long q2)])) rfl (hb hby d14_4) _ ?_
    show Steps p.tables e below (T101.setTop (mkF m 7 #[.val (.ref ac), .val (.long q1), .second, .unset, .unset] [(.long (9223372036854 : Int64)), (.long q2)])) _
    refine XS.lcmp X101.here hx rfl (hb hby d14_7) rfl ?_
    show Steps p.tables e below (T101.setTop (mkF m 8 #[.val (.ref ac), .val (.long q1), .second, .unset, .unset] [(.int (lcmpW q2 (9223372036854 : Int64)))])) _
    refine XS.ifNo X101.here hx rfl (hb hby d14_8) rfl ((if0 _ _).trans (tlt (own_lcGt hb8)).2.2.2) ?_
    show Steps p.tables e below (T101.setTop (mkF m 11 #[.val (.ref ac), .val (.long q1), .second, .unset, .unset] [])) _
    refine X101.ldc2Long hx hown (mvT hZ (hw _ (List.mem_of_getElem? (i := 85) rfl))) (g := (mkF m 11 #[.val (.ref ac), .val (.long q1), .second, .unset, .unset] [])) rfl (hb hby d14_11) _ ?_
    show Steps p.tables e below (T101.setTop (mkF m 14 #[.val (.ref ac), .val (.long q1), .second, .unset, .unset] [(.long (-9223372036854775808 : Int64))])) _
    exact own_retL X101 hx Bd.returns (hb hby d14_14) hr
  · show QJ (own_old q1 q2) h0 n0 _ T101.heap _
    rw [e101]
    exact ⟨by rw [own_old, if_pos hb8], N0, rfl⟩
set_option maxRecDepth 65536 in
set_option maxHeartbeats 40000000 in
theorem rmKB (l : Launch) (Z : State) (a0 : Array Value) (hw : ∀ d ∈ tables_1, d.before a0 Z = true) (ws : List Jvm.Cond) (ac : Addr) (q1 : Int64) (q2 : Int64) (h0 : Heap) (n0 : Nat) (Z0 : n0 ≤ h0.size) (F : Fld Z h0 ac "com/example/sorted_map_store/sortedmapstore/ColumnFamily" "maxAgeSeconds" "J" (.long q2)) (hb8 : ¬ (9223372036854 : Int64) < q2) (hb31 : q1 < ((-9223372036854775808 : Int64) + (q2 * (1000000 : Int64)))) :
    MetFree l (⟨"com/example/sorted_map_store/sortedmapstore/ColumnFamily", "oldestKept", "(J)J"⟩ : MethodName) (head1 (Jvm.Cond.code (⟨"com/example/sorted_map_store/sortedmapstore/ColumnFamily", "oldestKept", "(J)J"⟩ : MethodName) prog_5_method_6_code 5 (some .long) :: ws) ({ frames := 0, cells := 0, slots := 0, locals := 0 } : Room)) (fun a U => a = #[(.ref ac), (.long q1)] ∧ Z.Warmed39 U.vm ∧ U.heap = h0) (fun _ _ _ _ _ => True) (fun _ U o U' => ∃ v L, o = .returned v ∧ QJ (own_old q1 q2) h0 n0 v U'.heap L ∧ FrameEnd U o U' L ({ frames := 0, cells := 0, slots := 0, locals := 0 } : Room).cells ({ frames := 0, cells := 0, slots := 0, locals := 0 } : Room).slots) := by
  refine MetFree.of_bodySF (plainFor_of_name own_pn6) hisR ?_
  intro p e s m args below meth c s₁ Bd hml0 hP hK
  obtain ⟨rfl, hZ, hh⟩ := hP
  have hx := Bd.exec
  have hby := Bd.bytes
  have hml : c.maxLocals = 5 := hml0
  have hown : s.vm.findClass "com/example/sorted_map_store/sortedmapstore/ColumnFamily" = some m.cls := findClass_of_methodNamed Bd.named
  have hnm := (name_of_methodNamed Bd.named Bd.method).1
  have X0 : Stand p l e ({ frames := 0, cells := 0, slots := 0, locals := 0 } : Room) s m #[(.ref ac), (.long q1)] below meth c s₁ [] 0 0 := Stand.of_body Bd
  have e0 : s₁.heap = h0 := by rw [← hh, Bd.state]; rfl
  have N0 := Fr.nil n0
  have ef : entryFrame m #[(.ref ac), (.long q1)] 5 = mkF m 0 #[.val (.ref ac), .val (.long q1), .second, .unset, .unset] [] := by first | (simp [entryFrame, mkF, argsToLocals, Value.category]; done) | rfl
  have pre0 : ∀ t, Steps p.tables e below (s₁.setTop (mkF m 0 #[.val (.ref ac), .val (.long q1), .second, .unset, .unset] [])) t → Steps p.tables e below (s₁.setTop (entryFrame m #[(.ref ac), (.long q1)] 5)) t := fun t k => castTop ef k
  obtain ⟨T101, X101, e101, st101⟩ := getF X0 hx hZ hown (host := "") (Or.inl (hw _ (List.mem_of_getElem? (i := 76) rfl))) Via.refl e0 F (g := (mkF m 1 #[.val (.ref ac), .val (.long q1), .second, .unset, .unset] [(.ref ac)])) rfl rfl (hb hby d14_1)
  obtain ⟨T102, X102, e102, st102⟩ := getF X101 hx hZ hown (host := "") (Or.inl (hw _ (List.mem_of_getElem? (i := 76) rfl))) Via.refl e101 F (g := (mkF m 16 #[.val (.ref ac), .val (.long q1), .second, .unset, .unset] [(.ref ac)])) rfl rfl (hb hby d14_16)
  obtain ⟨fs, hr, hrun, hended, hW, hsame⟩ := X102.leave (v := some (.long (-9223372036854775808 : Int64))) (fun h => by rw [Bd.returns] at h; cases h) (hlocks := Bd.notSynchronized)
  refine ⟨_, _, pre0 _ ?_, hrun, hended, _, _, rfl, ?_, ⟨_, rfl⟩, hW, hsame.mono (by decide) (by decide)⟩
  · show Steps p.tables e below (s₁.setTop (mkF m 0 #[.val (.ref ac), .val (.long q1), .second, .unset, .unset] [])) _
    refine XS.aloadN X0.here hx rfl (hb hby d14_0) rfl rfl ?_
    show Steps p.tables e below (s₁.setTop (mkF m 1 #[.val (.ref ac), .val (.long q1), .second, .unset, .unset] [(.ref ac)])) _
    refine st101 _ ?_
    show Steps p.tables e below (T101.setTop (mkF m 4 #[.val (.ref ac), .val (.long q1), .second, .unset, .unset] [(.long q2)])) _
    refine X101.ldc2Long hx hown (mvT hZ (hw _ (List.mem_of_getElem? (i := 83) rfl))) (g := (mkF m 4 #[.val (.ref ac), .val (.long q1), .second, .unset, .unset] [(.long q2)])) rfl (hb hby d14_4) _ ?_
    show Steps p.tables e below (T101.setTop (mkF m 7 #[.val (.ref ac), .val (.long q1), .second, .unset, .unset] [(.long (9223372036854 : Int64)), (.long q2)])) _
    refine XS.lcmp X101.here hx rfl (hb hby d14_7) rfl ?_
    show Steps p.tables e below (T101.setTop (mkF m 8 #[.val (.ref ac), .val (.long q1), .second, .unset, .unset] [(.int (lcmpW q2 (9223372036854 : Int64)))])) _
    refine XS.ifYes X101.here hx rfl (pc0 := 8) (pc' := 15) rfl (hb hby d14_8) rfl ((if0 _ _).trans (flt (own_lcLe hb8)).2.2.2) (by decide) (by decide) ?_
    show Steps p.tables e below (T101.setTop (mkF m 15 #[.val (.ref ac), .val (.long q1), .second, .unset, .unset] [])) _
    refine XS.aloadN X101.here hx rfl (hb hby d14_15) rfl rfl ?_
    show Steps p.tables e below (T101.setTop (mkF m 16 #[.val (.ref ac), .val (.long q1), .second, .unset, .unset] [(.ref ac)])) _
    refine st102 _ ?_
    show Steps p.tables e below (T102.setTop (mkF m 19 #[.val (.ref ac), .val (.long q1), .second, .unset, .unset] [(.long q2)])) _
    refine X102.ldc2Long hx hown (mvT hZ (hw _ (List.mem_of_getElem? (i := 84) rfl))) (g := (mkF m 19 #[.val (.ref ac), .val (.long q1), .second, .unset, .unset] [(.long q2)])) rfl (hb hby d14_19) _ ?_
    show Steps p.tables e below (T102.setTop (mkF m 22 #[.val (.ref ac), .val (.long q1), .second, .unset, .unset] [(.long (1000000 : Int64)), (.long q2)])) _
    refine XS.lmul X102.here hx rfl (hb hby d14_22) rfl ?_
    show Steps p.tables e below (T102.setTop (mkF m 23 #[.val (.ref ac), .val (.long q1), .second, .unset, .unset] [(.long (q2 * (1000000 : Int64)))])) _
    refine XS.lstoreN X102.here hx rfl (hb hby d14_23) rfl (l' := #[.val (.ref ac), .val (.long q1), .second, .val (.long (q2 * (1000000 : Int64))), .second]) rfl ?_
    show Steps p.tables e below (T102.setTop (mkF m 24 #[.val (.ref ac), .val (.long q1), .second, .val (.long (q2 * (1000000 : Int64))), .second] [])) _
    refine XS.lloadN X102.here hx rfl (hb hby d14_24) rfl ?_
    show Steps p.tables e below (T102.setTop (mkF m 25 #[.val (.ref ac), .val (.long q1), .second, .val (.long (q2 * (1000000 : Int64))), .second] [(.long q1)])) _
    refine X102.ldc2Long hx hown (mvT hZ (hw _ (List.mem_of_getElem? (i := 85) rfl))) (g := (mkF m 25 #[.val (.ref ac), .val (.long q1), .second, .val (.long (q2 * (1000000 : Int64))), .second] [(.long q1)])) rfl (hb hby d14_25) _ ?_
    show Steps p.tables e below (T102.setTop (mkF m 28 #[.val (.ref ac), .val (.long q1), .second, .val (.long (q2 * (1000000 : Int64))), .second] [(.long (-9223372036854775808 : Int64)), (.long q1)])) _
    refine XS.lloadN X102.here hx rfl (hb hby d14_28) rfl ?_
    show Steps p.tables e below (T102.setTop (mkF m 29 #[.val (.ref ac), .val (.long q1), .second, .val (.long (q2 * (1000000 : Int64))), .second] [(.long (q2 * (1000000 : Int64))), (.long (-9223372036854775808 : Int64)), (.long q1)])) _
    refine XS.ladd X102.here hx rfl (hb hby d14_29) rfl ?_
    show Steps p.tables e below (T102.setTop (mkF m 30 #[.val (.ref ac), .val (.long q1), .second, .val (.long (q2 * (1000000 : Int64))), .second] [(.long ((-9223372036854775808 : Int64) + (q2 * (1000000 : Int64)))), (.long q1)])) _
    refine XS.lcmp X102.here hx rfl (hb hby d14_30) rfl ?_
    show Steps p.tables e below (T102.setTop (mkF m 31 #[.val (.ref ac), .val (.long q1), .second, .val (.long (q2 * (1000000 : Int64))), .second] [(.int (lcmpW q1 ((-9223372036854775808 : Int64) + (q2 * (1000000 : Int64)))))])) _
    refine XS.ifNo X102.here hx rfl (hb hby d14_31) rfl ((if0 _ _).trans (tlt (own_lcLt hb31)).2.1) ?_
    show Steps p.tables e below (T102.setTop (mkF m 34 #[.val (.ref ac), .val (.long q1), .second, .val (.long (q2 * (1000000 : Int64))), .second] [])) _
    refine X102.ldc2Long hx hown (mvT hZ (hw _ (List.mem_of_getElem? (i := 85) rfl))) (g := (mkF m 34 #[.val (.ref ac), .val (.long q1), .second, .val (.long (q2 * (1000000 : Int64))), .second] [])) rfl (hb hby d14_34) _ ?_
    show Steps p.tables e below (T102.setTop (mkF m 37 #[.val (.ref ac), .val (.long q1), .second, .val (.long (q2 * (1000000 : Int64))), .second] [(.long (-9223372036854775808 : Int64))])) _
    refine XS.goto X102.here hx rfl (pc0 := 37) (pc' := 43) rfl (hb hby d14_37) (by decide) (by decide) ?_
    show Steps p.tables e below (T102.setTop (mkF m 43 #[.val (.ref ac), .val (.long q1), .second, .val (.long (q2 * (1000000 : Int64))), .second] [(.long (-9223372036854775808 : Int64))])) _
    exact own_retL X102 hx Bd.returns (hb hby d14_43) hr
  · show QJ (own_old q1 q2) h0 n0 _ T102.heap _
    rw [e102]
    exact ⟨by rw [own_old, if_neg hb8, if_pos hb31], N0, rfl⟩
set_option maxRecDepth 65536 in
set_option maxHeartbeats 40000000 in
theorem rmKC (l : Launch) (Z : State) (a0 : Array Value) (hw : ∀ d ∈ tables_1, d.before a0 Z = true) (ws : List Jvm.Cond) (ac : Addr) (q1 : Int64) (q2 : Int64) (h0 : Heap) (n0 : Nat) (Z0 : n0 ≤ h0.size) (F : Fld Z h0 ac "com/example/sorted_map_store/sortedmapstore/ColumnFamily" "maxAgeSeconds" "J" (.long q2)) (hb8 : ¬ (9223372036854 : Int64) < q2) (hb31 : ¬ q1 < ((-9223372036854775808 : Int64) + (q2 * (1000000 : Int64)))) :
    MetFree l (⟨"com/example/sorted_map_store/sortedmapstore/ColumnFamily", "oldestKept", "(J)J"⟩ : MethodName) (head1 (Jvm.Cond.code (⟨"com/example/sorted_map_store/sortedmapstore/ColumnFamily", "oldestKept", "(J)J"⟩ : MethodName) prog_5_method_6_code 5 (some .long) :: ws) ({ frames := 0, cells := 0, slots := 0, locals := 0 } : Room)) (fun a U => a = #[(.ref ac), (.long q1)] ∧ Z.Warmed39 U.vm ∧ U.heap = h0) (fun _ _ _ _ _ => True) (fun _ U o U' => ∃ v L, o = .returned v ∧ QJ (own_old q1 q2) h0 n0 v U'.heap L ∧ FrameEnd U o U' L ({ frames := 0, cells := 0, slots := 0, locals := 0 } : Room).cells ({ frames := 0, cells := 0, slots := 0, locals := 0 } : Room).slots) := by
  refine MetFree.of_bodySF (plainFor_of_name own_pn6) hisR ?_
  intro p e s m args below meth c s₁ Bd hml0 hP hK
  obtain ⟨rfl, hZ, hh⟩ := hP
  have hx := Bd.exec
  have hby := Bd.bytes
  have hml : c.maxLocals = 5 := hml0
  have hown : s.vm.findClass "com/example/sorted_map_store/sortedmapstore/ColumnFamily" = some m.cls := findClass_of_methodNamed Bd.named
  have hnm := (name_of_methodNamed Bd.named Bd.method).1
  have X0 : Stand p l e ({ frames := 0, cells := 0, slots := 0, locals := 0 } : Room) s m #[(.ref ac), (.long q1)] below meth c s₁ [] 0 0 := Stand.of_body Bd
  have e0 : s₁.heap = h0 := by rw [← hh, Bd.state]; rfl
  have N0 := Fr.nil n0
  have ef : entryFrame m #[(.ref ac), (.long q1)] 5 = mkF m 0 #[.val (.ref ac), .val (.long q1), .second, .unset, .unset] [] := by first | (simp [entryFrame, mkF, argsToLocals, Value.category]; done) | rfl
  have pre0 : ∀ t, Steps p.tables e below (s₁.setTop (mkF m 0 #[.val (.ref ac), .val (.long q1), .second, .unset, .unset] [])) t → Steps p.tables e below (s₁.setTop (entryFrame m #[(.ref ac), (.long q1)] 5)) t := fun t k => castTop ef k
  obtain ⟨T101, X101, e101, st101⟩ := getF X0 hx hZ hown (host := "") (Or.inl (hw _ (List.mem_of_getElem? (i := 76) rfl))) Via.refl e0 F (g := (mkF m 1 #[.val (.ref ac), .val (.long q1), .second, .unset, .unset] [(.ref ac)])) rfl rfl (hb hby d14_1)
  obtain ⟨T102, X102, e102, st102⟩ := getF X101 hx hZ hown (host := "") (Or.inl (hw _ (List.mem_of_getElem? (i := 76) rfl))) Via.refl e101 F (g := (mkF m 16 #[.val (.ref ac), .val (.long q1), .second, .unset, .unset] [(.ref ac)])) rfl rfl (hb hby d14_16)
  obtain ⟨fs, hr, hrun, hended, hW, hsame⟩ := X102.leave (v := some (.long (q1 - (q2 * (1000000 : Int64))))) (fun h => by rw [Bd.returns] at h; cases h) (hlocks := Bd.notSynchronized)
  refine ⟨_, _, pre0 _ ?_, hrun, hended, _, _, rfl, ?_, ⟨_, rfl⟩, hW, hsame.mono (by decide) (by decide)⟩
  · show Steps p.tables e below (s₁.setTop (mkF m 0 #[.val (.ref ac), .val (.long q1), .second, .unset, .unset] [])) _
    refine XS.aloadN X0.here hx rfl (hb hby d14_0) rfl rfl ?_
    show Steps p.tables e below (s₁.setTop (mkF m 1 #[.val (.ref ac), .val (.long q1), .second, .unset, .unset] [(.ref ac)])) _
    refine st101 _ ?_
    show Steps p.tables e below (T101.setTop (mkF m 4 #[.val (.ref ac), .val (.long q1), .second, .unset, .unset] [(.long q2)])) _
    refine X101.ldc2Long hx hown (mvT hZ (hw _ (List.mem_of_getElem? (i := 83) rfl))) (g := (mkF m 4 #[.val (.ref ac), .val (.long q1), .second, .unset, .unset] [(.long q2)])) rfl (hb hby d14_4) _ ?_
    show Steps p.tables e below (T101.setTop (mkF m 7 #[.val (.ref ac), .val (.long q1), .second, .unset, .unset] [(.long (9223372036854 : Int64)), (.long q2)])) _
    refine XS.lcmp X101.here hx rfl (hb hby d14_7) rfl ?_
    show Steps p.tables e below (T101.setTop (mkF m 8 #[.val (.ref ac), .val (.long q1), .second, .unset, .unset] [(.int (lcmpW q2 (9223372036854 : Int64)))])) _
    refine XS.ifYes X101.here hx rfl (pc0 := 8) (pc' := 15) rfl (hb hby d14_8) rfl ((if0 _ _).trans (flt (own_lcLe hb8)).2.2.2) (by decide) (by decide) ?_
    show Steps p.tables e below (T101.setTop (mkF m 15 #[.val (.ref ac), .val (.long q1), .second, .unset, .unset] [])) _
    refine XS.aloadN X101.here hx rfl (hb hby d14_15) rfl rfl ?_
    show Steps p.tables e below (T101.setTop (mkF m 16 #[.val (.ref ac), .val (.long q1), .second, .unset, .unset] [(.ref ac)])) _
    refine st102 _ ?_
    show Steps p.tables e below (T102.setTop (mkF m 19 #[.val (.ref ac), .val (.long q1), .second, .unset, .unset] [(.long q2)])) _
    refine X102.ldc2Long hx hown (mvT hZ (hw _ (List.mem_of_getElem? (i := 84) rfl))) (g := (mkF m 19 #[.val (.ref ac), .val (.long q1), .second, .unset, .unset] [(.long q2)])) rfl (hb hby d14_19) _ ?_
    show Steps p.tables e below (T102.setTop (mkF m 22 #[.val (.ref ac), .val (.long q1), .second, .unset, .unset] [(.long (1000000 : Int64)), (.long q2)])) _
    refine XS.lmul X102.here hx rfl (hb hby d14_22) rfl ?_
    show Steps p.tables e below (T102.setTop (mkF m 23 #[.val (.ref ac), .val (.long q1), .second, .unset, .unset] [(.long (q2 * (1000000 : Int64)))])) _
    refine XS.lstoreN X102.here hx rfl (hb hby d14_23) rfl (l' := #[.val (.ref ac), .val (.long q1), .second, .val (.long (q2 * (1000000 : Int64))), .second]) rfl ?_
    show Steps p.tables e below (T102.setTop (mkF m 24 #[.val (.ref ac), .val (.long q1), .second, .val (.long (q2 * (1000000 : Int64))), .second] [])) _
    refine XS.lloadN X102.here hx rfl (hb hby d14_24) rfl ?_
    show Steps p.tables e below (T102.setTop (mkF m 25 #[.val (.ref ac), .val (.long q1), .second, .val (.long (q2 * (1000000 : Int64))), .second] [(.long q1)])) _
    refine X102.ldc2Long hx hown (mvT hZ (hw _ (List.mem_of_getElem? (i := 85) rfl))) (g := (mkF m 25 #[.val (.ref ac), .val (.long q1), .second, .val (.long (q2 * (1000000 : Int64))), .second] [(.long q1)])) rfl (hb hby d14_25) _ ?_
    show Steps p.tables e below (T102.setTop (mkF m 28 #[.val (.ref ac), .val (.long q1), .second, .val (.long (q2 * (1000000 : Int64))), .second] [(.long (-9223372036854775808 : Int64)), (.long q1)])) _
    refine XS.lloadN X102.here hx rfl (hb hby d14_28) rfl ?_
    show Steps p.tables e below (T102.setTop (mkF m 29 #[.val (.ref ac), .val (.long q1), .second, .val (.long (q2 * (1000000 : Int64))), .second] [(.long (q2 * (1000000 : Int64))), (.long (-9223372036854775808 : Int64)), (.long q1)])) _
    refine XS.ladd X102.here hx rfl (hb hby d14_29) rfl ?_
    show Steps p.tables e below (T102.setTop (mkF m 30 #[.val (.ref ac), .val (.long q1), .second, .val (.long (q2 * (1000000 : Int64))), .second] [(.long ((-9223372036854775808 : Int64) + (q2 * (1000000 : Int64)))), (.long q1)])) _
    refine XS.lcmp X102.here hx rfl (hb hby d14_30) rfl ?_
    show Steps p.tables e below (T102.setTop (mkF m 31 #[.val (.ref ac), .val (.long q1), .second, .val (.long (q2 * (1000000 : Int64))), .second] [(.int (lcmpW q1 ((-9223372036854775808 : Int64) + (q2 * (1000000 : Int64)))))])) _
    refine XS.ifYes X102.here hx rfl (pc0 := 31) (pc' := 40) rfl (hb hby d14_31) rfl ((if0 _ _).trans (flt (own_lcGe hb31)).2.1) (by decide) (by decide) ?_
    show Steps p.tables e below (T102.setTop (mkF m 40 #[.val (.ref ac), .val (.long q1), .second, .val (.long (q2 * (1000000 : Int64))), .second] [])) _
    refine XS.lloadN X102.here hx rfl (hb hby d14_40) rfl ?_
    show Steps p.tables e below (T102.setTop (mkF m 41 #[.val (.ref ac), .val (.long q1), .second, .val (.long (q2 * (1000000 : Int64))), .second] [(.long q1)])) _
    refine XS.lloadN X102.here hx rfl (hb hby d14_41) rfl ?_
    show Steps p.tables e below (T102.setTop (mkF m 42 #[.val (.ref ac), .val (.long q1), .second, .val (.long (q2 * (1000000 : Int64))), .second] [(.long (q2 * (1000000 : Int64))), (.long q1)])) _
    refine XS.lsub X102.here hx rfl (hb hby d14_42) rfl ?_
    show Steps p.tables e below (T102.setTop (mkF m 43 #[.val (.ref ac), .val (.long q1), .second, .val (.long (q2 * (1000000 : Int64))), .second] [(.long (q1 - (q2 * (1000000 : Int64))))])) _
    exact own_retL X102 hx Bd.returns (hb hby d14_43) hr
  · show QJ (own_old q1 q2) h0 n0 _ T102.heap _
    rw [e102]
    exact ⟨by rw [own_old, if_neg hb8, if_neg hb31], N0, rfl⟩
set_option maxRecDepth 65536 in
set_option maxHeartbeats 40000000 in
theorem rmK (l : Launch) (Z : State) (a0 : Array Value) (hw : ∀ d ∈ tables_1, d.before a0 Z = true) (ws : List Jvm.Cond) (ac : Addr) (q1 : Int64) (q2 : Int64) (h0 : Heap) (n0 : Nat) (Z0 : n0 ≤ h0.size) (F : Fld Z h0 ac "com/example/sorted_map_store/sortedmapstore/ColumnFamily" "maxAgeSeconds" "J" (.long q2)) :
    MetFree l (⟨"com/example/sorted_map_store/sortedmapstore/ColumnFamily", "oldestKept", "(J)J"⟩ : MethodName) (head1 (Jvm.Cond.code (⟨"com/example/sorted_map_store/sortedmapstore/ColumnFamily", "oldestKept", "(J)J"⟩ : MethodName) prog_5_method_6_code 5 (some .long) :: ws) ({ frames := 0, cells := 0, slots := 0, locals := 0 } : Room)) (fun a U => a = #[(.ref ac), (.long q1)] ∧ Z.Warmed39 U.vm ∧ U.heap = h0) (fun _ _ _ _ _ => True) (fun _ U o U' => ∃ v L, o = .returned v ∧ QJ (own_old q1 q2) h0 n0 v U'.heap L ∧ FrameEnd U o U' L ({ frames := 0, cells := 0, slots := 0, locals := 0 } : Room).cells ({ frames := 0, cells := 0, slots := 0, locals := 0 } : Room).slots) := by
  by_cases hb8 : (9223372036854 : Int64) < q2
  · exact rmKA l Z a0 hw ws ac q1 q2 h0 n0 Z0 F hb8
  · by_cases hb31 : q1 < ((-9223372036854775808 : Int64) + (q2 * (1000000 : Int64)))
    · exact rmKB l Z a0 hw ws ac q1 q2 h0 n0 Z0 F hb8 hb31
    · exact rmKC l Z a0 hw ws ac q1 q2 h0 n0 Z0 F hb8 hb31
theorem own_age {age x : Int64} (h : age = (if x < (1 : Int64) then (1 : Int64) else x)) : ¬ age < (1 : Int64) := by
  rw [h]; by_cases q : x < (1 : Int64)
  · rw [if_pos q]; decide
  · rw [if_neg q]; exact q
def own_Div (q r q1 : Int64) : Prop := q.toInt * 1000000 + r.toInt = q1.toInt ∧ 0 ≤ r.toInt ∧ r.toInt < 1000000
theorem own_dM (x : Int64) : ∃ q r : Int, (x / (1000000 : Int64)).toInt = q ∧ (x - (x / (1000000 : Int64)) * (1000000 : Int64)).toInt = r ∧ q * 1000000 + r = x.toInt ∧ -1000000 < r ∧ r < 1000000 := by
  refine ⟨_, _, rfl, rfl, ?_⟩
  have hm : (1000000 : Int64).toInt = 1000000 := rfl
  rw [Jvm.Kit.i64_rem, Jvm.Kit.i64_div (by rw [hm]; omega), hm]
  have a := Int.tdiv_mul_add_tmod x.toInt 1000000
  have b := Int.tmod_lt_of_pos x.toInt (b := 1000000) (by decide)
  have c : -1000000 < x.toInt.tmod 1000000 := by
    have := Int.tmod_lt_of_pos (-x.toInt) (b := 1000000) (by decide)
    rw [Int.neg_tmod] at this
    omega
  exact ⟨a, c, by omega⟩
theorem own_ltI {x y : Int64} : x < y ↔ x.toInt < y.toInt := Int64.lt_iff_toInt_lt
theorem own_lo (x : Int64) : -9223372036854775808 ≤ x.toInt ∧ x.toInt < 9223372036854775808 := ⟨Int64.le_toInt x, Int64.toInt_lt x⟩
theorem own_qP {q1 : Int64} (h : ¬ (q1 - (q1 / (1000000 : Int64)) * (1000000 : Int64)) < (0 : Int64)) : own_Div (q1 / (1000000 : Int64)) (q1 - (q1 / (1000000 : Int64)) * (1000000 : Int64)) q1 := by
  obtain ⟨q, r, eq, er, a, b, c⟩ := own_dM q1
  rw [own_ltI, er, show (0 : Int64).toInt = 0 from rfl] at h
  unfold own_Div; rw [eq, er]; omega
theorem own_qM {q1 : Int64} (h : (q1 - (q1 / (1000000 : Int64)) * (1000000 : Int64)) < (0 : Int64)) : own_Div ((q1 / (1000000 : Int64)) - (1 : Int64)) ((q1 - (q1 / (1000000 : Int64)) * (1000000 : Int64)) + (1000000 : Int64)) q1 := by
  obtain ⟨q, r, eq, er, a, b, c⟩ := own_dM q1
  have z := own_lo q1
  rw [own_ltI, er, show (0 : Int64).toInt = 0 from rfl] at h
  have k1 : (1 : Int64).toInt = 1 := rfl
  have k2 : (1000000 : Int64).toInt = 1000000 := rfl
  unfold own_Div
  rw [Jvm.Kit.i64_sub (by rw [eq, k1]; omega) (by rw [eq, k1]; omega), Jvm.Kit.i64_add (by rw [er, k2]; omega) (by rw [er, k2]; omega), eq, er, k1, k2]; omega
theorem own_oldS {q1 q2 : Int64} (h1 : ¬ q2 < (1 : Int64)) (h5 : q2 < (9223372036855 : Int64)) : (own_old q1 q2).toInt = if q1.toInt - q2.toInt * 1000000 < -9223372036854775808 then -9223372036854775808 else q1.toInt - q2.toInt * 1000000 := by
  have z := own_lo q1
  rw [own_ltI] at h1 h5
  have k0 : (1 : Int64).toInt = 1 := rfl
  have k1 : (9223372036855 : Int64).toInt = 9223372036855 := rfl
  have k2 : (1000000 : Int64).toInt = 1000000 := rfl
  have k3 : (-9223372036854775808 : Int64).toInt = -9223372036854775808 := rfl
  have k4 : (9223372036854 : Int64).toInt = 9223372036854 := rfl
  rw [k0] at h1; rw [k1] at h5
  have m : (q2 * (1000000 : Int64)).toInt = q2.toInt * 1000000 := by
    rw [Jvm.Kit.i64_mul (by rw [k2]; omega) (by rw [k2]; omega), k2]
  have t : ((-9223372036854775808 : Int64) + (q2 * (1000000 : Int64))).toInt = -9223372036854775808 + q2.toInt * 1000000 := by
    rw [Jvm.Kit.i64_add (by rw [m, k3]; omega) (by rw [m, k3]; omega), m, k3]
  rw [own_old, if_neg (by rw [own_ltI, k4]; omega)]
  by_cases h : q1 < ((-9223372036854775808 : Int64) + (q2 * (1000000 : Int64)))
  · rw [if_pos h, k3]
    rw [own_ltI, t] at h
    rw [if_pos (by omega)]
  · rw [if_neg h]
    rw [own_ltI, t] at h
    rw [if_neg (by omega), Jvm.Kit.i64_sub (by rw [m]; omega) (by rw [m]; omega), m]
theorem own_rA {q1 q2 : Int64} (h1 : ¬ q2 < (1 : Int64)) (h5 : ¬ q2 < (9223372036855 : Int64)) : (-9223372036854775808 : Int64) = own_old q1 q2 := by
  rw [own_old, if_pos]
  rw [own_ltI, show (9223372036855 : Int64).toInt = 9223372036855 from rfl] at h5
  rw [own_ltI, show (9223372036854 : Int64).toInt = 9223372036854 from rfl]; omega
theorem own_rd {q r q1 q2 : Int64} (d : own_Div q r q1) (h1 : ¬ q2 < (1 : Int64)) (h5 : q2 < (9223372036855 : Int64)) : (q - q2).toInt = q.toInt - q2.toInt ∧ (q - q2).toInt * 1000000 + r.toInt = q1.toInt - q2.toInt * 1000000 ∧ 0 ≤ r.toInt ∧ r.toInt < 1000000 ∧ (q - q2).toInt ≤ 9223372036853 ∧ -18446744073710 ≤ (q - q2).toInt := by
  have z := own_lo q1
  obtain ⟨a, b, c⟩ := d
  rw [own_ltI] at h1 h5
  rw [show (1 : Int64).toInt = 1 from rfl] at h1
  rw [show (9223372036855 : Int64).toInt = 9223372036855 from rfl] at h5
  have e : (q - q2).toInt = q.toInt - q2.toInt := Jvm.Kit.i64_sub (by omega) (by omega)
  refine ⟨e, ?_⟩; rw [e]; omega
theorem own_r1 {q r q1 q2 : Int64} (d : own_Div q r q1) (h1 : ¬ q2 < (1 : Int64)) (h5 : q2 < (9223372036855 : Int64)) (h : (q - q2) < (-9223372036855 : Int64)) : (-9223372036854775808 : Int64) = own_old q1 q2 := by
  obtain ⟨-, a, b, c, -, -⟩ := own_rd d h1 h5
  rw [own_ltI, show (-9223372036855 : Int64).toInt = -9223372036855 from rfl] at h
  apply Int64.toInt_inj.mp
  rw [own_oldS h1 h5, if_pos (by omega)]; rfl
theorem own_val {x r : Int64} (hr0 : 0 ≤ r.toInt) (hr1 : r.toInt < 1000000) (h0 : -9223372036855 ≤ x.toInt) (h1 : x.toInt ≤ 9223372036853) (h2 : -9223372036854775808 ≤ x.toInt * 1000000 + r.toInt) : (((x + (1 : Int64)) * (1000000 : Int64)) + (r - (1000000 : Int64))).toInt = x.toInt * 1000000 + r.toInt := by
  have k1 : (1 : Int64).toInt = 1 := rfl
  have k2 : (1000000 : Int64).toInt = 1000000 := rfl
  have a : (x + (1 : Int64)).toInt = x.toInt + 1 := by rw [Jvm.Kit.i64_add (by rw [k1]; omega) (by rw [k1]; omega), k1]
  have b : ((x + (1 : Int64)) * (1000000 : Int64)).toInt = (x.toInt + 1) * 1000000 := by rw [Jvm.Kit.i64_mul (by rw [k2, a]; omega) (by rw [k2, a]; omega), a, k2]
  have e : (r - (1000000 : Int64)).toInt = r.toInt - 1000000 := by rw [Jvm.Kit.i64_sub (by rw [k2]; omega) (by rw [k2]; omega), k2]
  rw [Jvm.Kit.i64_add (by rw [b, e]; omega) (by rw [b, e]; omega), b, e]; omega
theorem own_r2 {q r q1 q2 : Int64} (d : own_Div q r q1) (h1 : ¬ q2 < (1 : Int64)) (h5 : q2 < (9223372036855 : Int64)) (h : ¬ (q - q2) < (-9223372036855 : Int64)) (h' : ¬ (q - q2) = (-9223372036855 : Int64)) : ((((q - q2) + (1 : Int64)) * (1000000 : Int64)) + (r - (1000000 : Int64))) = own_old q1 q2 := by
  obtain ⟨-, a, b, c, u, -⟩ := own_rd d h1 h5
  rw [own_ltI, show (-9223372036855 : Int64).toInt = -9223372036855 from rfl] at h
  rw [← Int64.toInt_inj, show (-9223372036855 : Int64).toInt = -9223372036855 from rfl] at h'
  apply Int64.toInt_inj.mp
  rw [own_oldS h1 h5, if_neg (by omega), own_val b c (by omega) u (by omega)]; exact a
theorem own_r3 {q r q1 q2 : Int64} (d : own_Div q r q1) (h1 : ¬ q2 < (1 : Int64)) (h5 : q2 < (9223372036855 : Int64)) (h : ¬ (q - q2) < (-9223372036855 : Int64)) (h' : (q - q2) = (-9223372036855 : Int64)) (h7 : (224192 : Int64) < r) : ((((q - q2) + (1 : Int64)) * (1000000 : Int64)) + (r - (1000000 : Int64))) = own_old q1 q2 := by
  obtain ⟨-, a, b, c, u, -⟩ := own_rd d h1 h5
  rw [← Int64.toInt_inj, show (-9223372036855 : Int64).toInt = -9223372036855 from rfl] at h'
  rw [own_ltI, show (224192 : Int64).toInt = 224192 from rfl] at h7
  apply Int64.toInt_inj.mp
  rw [own_oldS h1 h5, if_neg (by omega), own_val b c (by omega) u (by omega)]; exact a
theorem own_r4 {q r q1 q2 : Int64} (d : own_Div q r q1) (h1 : ¬ q2 < (1 : Int64)) (h5 : q2 < (9223372036855 : Int64)) (h : ¬ (q - q2) < (-9223372036855 : Int64)) (h' : (q - q2) = (-9223372036855 : Int64)) (h7 : ¬ (224192 : Int64) < r) : (-9223372036854775808 : Int64) = own_old q1 q2 := by
  obtain ⟨-, a, b, c, u, -⟩ := own_rd d h1 h5
  rw [← Int64.toInt_inj, show (-9223372036855 : Int64).toInt = -9223372036855 from rfl] at h'
  rw [own_ltI, show (224192 : Int64).toInt = 224192 from rfl] at h7
  apply Int64.toInt_inj.mp
  rw [own_oldS h1 h5, show (-9223372036854775808 : Int64).toInt = -9223372036854775808 from rfl]
  by_cases w : q1.toInt - q2.toInt * 1000000 < -9223372036854775808
  · rw [if_pos w]
  · rw [if_neg w]; omega

set_option maxRecDepth 65536 in
set_option maxHeartbeats 40000000 in
theorem rmFA (l : Launch) (Z : State) (a0 : Array Value) (hw : ∀ d ∈ tables_1, d.before a0 Z = true) (ws : List Jvm.Cond) (q1 : Int64) (q2 : Int64) (h0 : Heap) (n0 : Nat) (Z0 : n0 ≤ h0.size) (h1 : ¬ q2 < (1 : Int64)) (hb5 : ¬ q2 < (9223372036855 : Int64)) :
    MetFree l (⟨"com/example/sorted_map_store/sortedmapstore/ColumnFamilyOldestKeptPinLaw", "reference", "(JJ)J"⟩ : MethodName) (head1 (Jvm.Cond.code (⟨"com/example/sorted_map_store/sortedmapstore/ColumnFamilyOldestKeptPinLaw", "reference", "(JJ)J"⟩ : MethodName) method_2_code 10 (some .long) :: ws) ({ frames := 0, cells := 0, slots := 0, locals := 0 } : Room)) (fun a U => a = #[(.long q1), (.long q2)] ∧ Z.Warmed39 U.vm ∧ U.heap = h0) (fun _ _ _ _ _ => True) (fun _ U o U' => ∃ v L, o = .returned v ∧ QJ (own_old q1 q2) h0 n0 v U'.heap L ∧ FrameEnd U o U' L ({ frames := 0, cells := 0, slots := 0, locals := 0 } : Room).cells ({ frames := 0, cells := 0, slots := 0, locals := 0 } : Room).slots) := by
  refine MetFree.of_bodySF (plainFor_of_name own_pn7) hisR ?_
  intro p e s m args below meth c s₁ Bd hml0 hP hK
  obtain ⟨rfl, hZ, hh⟩ := hP
  have hx := Bd.exec
  have hby := Bd.bytes
  have hml : c.maxLocals = 10 := hml0
  have hown : s.vm.findClass "com/example/sorted_map_store/sortedmapstore/ColumnFamilyOldestKeptPinLaw" = some m.cls := findClass_of_methodNamed Bd.named
  have hnm := (name_of_methodNamed Bd.named Bd.method).1
  have X0 : Stand p l e ({ frames := 0, cells := 0, slots := 0, locals := 0 } : Room) s m #[(.long q1), (.long q2)] below meth c s₁ [] 0 0 := Stand.of_body Bd
  have e0 : s₁.heap = h0 := by rw [← hh, Bd.state]; rfl
  have N0 := Fr.nil n0
  have ef : entryFrame m #[(.long q1), (.long q2)] 10 = mkF m 0 #[.val (.long q1), .second, .val (.long q2), .second, .unset, .unset, .unset, .unset, .unset, .unset] [] := by first | (simp [entryFrame, mkF, argsToLocals, Value.category]; done) | rfl
  have pre0 : ∀ t, Steps p.tables e below (s₁.setTop (mkF m 0 #[.val (.long q1), .second, .val (.long q2), .second, .unset, .unset, .unset, .unset, .unset, .unset] [])) t → Steps p.tables e below (s₁.setTop (entryFrame m #[(.long q1), (.long q2)] 10)) t := fun t k => castTop ef k
  obtain ⟨fs, hr, hrun, hended, hW, hsame⟩ := X0.leave (v := some (.long (-9223372036854775808 : Int64))) (fun h => by rw [Bd.returns] at h; cases h) (hlocks := Bd.notSynchronized)
  refine ⟨_, _, pre0 _ ?_, hrun, hended, _, _, rfl, ?_, ⟨_, rfl⟩, hW, hsame.mono (by decide) (by decide)⟩
  · show Steps p.tables e below (s₁.setTop (mkF m 0 #[.val (.long q1), .second, .val (.long q2), .second, .unset, .unset, .unset, .unset, .unset, .unset] [])) _
    refine XS.lloadN X0.here hx rfl (hb hby d15_0) rfl ?_
    show Steps p.tables e below (s₁.setTop (mkF m 1 #[.val (.long q1), .second, .val (.long q2), .second, .unset, .unset, .unset, .unset, .unset, .unset] [(.long q2)])) _
    refine X0.ldc2Long hx hown (mvT hZ (hw _ (List.mem_of_getElem? (i := 90) rfl))) (g := (mkF m 1 #[.val (.long q1), .second, .val (.long q2), .second, .unset, .unset, .unset, .unset, .unset, .unset] [(.long q2)])) rfl (hb hby d15_1) _ ?_
    show Steps p.tables e below (s₁.setTop (mkF m 4 #[.val (.long q1), .second, .val (.long q2), .second, .unset, .unset, .unset, .unset, .unset, .unset] [(.long (9223372036855 : Int64)), (.long q2)])) _
    refine XS.lcmp X0.here hx rfl (hb hby d15_4) rfl ?_
    show Steps p.tables e below (s₁.setTop (mkF m 5 #[.val (.long q1), .second, .val (.long q2), .second, .unset, .unset, .unset, .unset, .unset, .unset] [(.int (lcmpW q2 (9223372036855 : Int64)))])) _
    refine XS.ifNo X0.here hx rfl (hb hby d15_5) rfl ((if0 _ _).trans (flt (own_lcGe hb5)).1) ?_
    show Steps p.tables e below (s₁.setTop (mkF m 8 #[.val (.long q1), .second, .val (.long q2), .second, .unset, .unset, .unset, .unset, .unset, .unset] [])) _
    refine X0.ldc2Long hx hown (mvT hZ (hw _ (List.mem_of_getElem? (i := 93) rfl))) (g := (mkF m 8 #[.val (.long q1), .second, .val (.long q2), .second, .unset, .unset, .unset, .unset, .unset, .unset] [])) rfl (hb hby d15_8) _ ?_
    show Steps p.tables e below (s₁.setTop (mkF m 11 #[.val (.long q1), .second, .val (.long q2), .second, .unset, .unset, .unset, .unset, .unset, .unset] [(.long (-9223372036854775808 : Int64))])) _
    exact own_retL X0 hx Bd.returns (hb hby d15_11) hr
  · show QJ (own_old q1 q2) h0 n0 _ s₁.heap _
    rw [e0]
    exact ⟨by rw [own_rA h1 hb5], N0, rfl⟩
set_option maxRecDepth 65536 in
set_option maxHeartbeats 40000000 in
theorem rmFP1 (l : Launch) (Z : State) (a0 : Array Value) (hw : ∀ d ∈ tables_1, d.before a0 Z = true) (ws : List Jvm.Cond) (q1 : Int64) (q2 : Int64) (h0 : Heap) (n0 : Nat) (Z0 : n0 ≤ h0.size) (h1 : ¬ q2 < (1 : Int64)) (hb5 : q2 < (9223372036855 : Int64)) (hb30 : ¬ (q1 - (q1 / (1000000 : Int64)) * (1000000 : Int64)) < (0 : Int64)) (hb59 : ((q1 / (1000000 : Int64)) - q2) < (-9223372036855 : Int64)) :
    MetFree l (⟨"com/example/sorted_map_store/sortedmapstore/ColumnFamilyOldestKeptPinLaw", "reference", "(JJ)J"⟩ : MethodName) (head1 (Jvm.Cond.code (⟨"com/example/sorted_map_store/sortedmapstore/ColumnFamilyOldestKeptPinLaw", "reference", "(JJ)J"⟩ : MethodName) method_2_code 10 (some .long) :: ws) ({ frames := 0, cells := 0, slots := 0, locals := 0 } : Room)) (fun a U => a = #[(.long q1), (.long q2)] ∧ Z.Warmed39 U.vm ∧ U.heap = h0) (fun _ _ _ _ _ => True) (fun _ U o U' => ∃ v L, o = .returned v ∧ QJ (own_old q1 q2) h0 n0 v U'.heap L ∧ FrameEnd U o U' L ({ frames := 0, cells := 0, slots := 0, locals := 0 } : Room).cells ({ frames := 0, cells := 0, slots := 0, locals := 0 } : Room).slots) := by
  refine MetFree.of_bodySF (plainFor_of_name own_pn7) hisR ?_
  intro p e s m args below meth c s₁ Bd hml0 hP hK
  obtain ⟨rfl, hZ, hh⟩ := hP
  have hx := Bd.exec
  have hby := Bd.bytes
  have hml : c.maxLocals = 10 := hml0
  have hown : s.vm.findClass "com/example/sorted_map_store/sortedmapstore/ColumnFamilyOldestKeptPinLaw" = some m.cls := findClass_of_methodNamed Bd.named
  have hnm := (name_of_methodNamed Bd.named Bd.method).1
  have X0 : Stand p l e ({ frames := 0, cells := 0, slots := 0, locals := 0 } : Room) s m #[(.long q1), (.long q2)] below meth c s₁ [] 0 0 := Stand.of_body Bd
  have e0 : s₁.heap = h0 := by rw [← hh, Bd.state]; rfl
  have N0 := Fr.nil n0
  have ef : entryFrame m #[(.long q1), (.long q2)] 10 = mkF m 0 #[.val (.long q1), .second, .val (.long q2), .second, .unset, .unset, .unset, .unset, .unset, .unset] [] := by first | (simp [entryFrame, mkF, argsToLocals, Value.category]; done) | rfl
  have pre0 : ∀ t, Steps p.tables e below (s₁.setTop (mkF m 0 #[.val (.long q1), .second, .val (.long q2), .second, .unset, .unset, .unset, .unset, .unset, .unset] [])) t → Steps p.tables e below (s₁.setTop (entryFrame m #[(.long q1), (.long q2)] 10)) t := fun t k => castTop ef k
  obtain ⟨fs, hr, hrun, hended, hW, hsame⟩ := X0.leave (v := some (.long (-9223372036854775808 : Int64))) (fun h => by rw [Bd.returns] at h; cases h) (hlocks := Bd.notSynchronized)
  refine ⟨_, _, pre0 _ ?_, hrun, hended, _, _, rfl, ?_, ⟨_, rfl⟩, hW, hsame.mono (by decide) (by decide)⟩
  · show Steps p.tables e below (s₁.setTop (mkF m 0 #[.val (.long q1), .second, .val (.long q2), .second, .unset, .unset, .unset, .unset, .unset, .unset] [])) _
    refine XS.lloadN X0.here hx rfl (hb hby d15_0) rfl ?_
    show Steps p.tables e below (s₁.setTop (mkF m 1 #[.val (.long q1), .second, .val (.long q2), .second, .unset, .unset, .unset, .unset, .unset, .unset] [(.long q2)])) _
    refine X0.ldc2Long hx hown (mvT hZ (hw _ (List.mem_of_getElem? (i := 90) rfl))) (g := (mkF m 1 #[.val (.long q1), .second, .val (.long q2), .second, .unset, .unset, .unset, .unset, .unset, .unset] [(.long q2)])) rfl (hb hby d15_1) _ ?_
    show Steps p.tables e below (s₁.setTop (mkF m 4 #[.val (.long q1), .second, .val (.long q2), .second, .unset, .unset, .unset, .unset, .unset, .unset] [(.long (9223372036855 : Int64)), (.long q2)])) _
    refine XS.lcmp X0.here hx rfl (hb hby d15_4) rfl ?_
    show Steps p.tables e below (s₁.setTop (mkF m 5 #[.val (.long q1), .second, .val (.long q2), .second, .unset, .unset, .unset, .unset, .unset, .unset] [(.int (lcmpW q2 (9223372036855 : Int64)))])) _
    refine XS.ifYes X0.here hx rfl (pc0 := 5) (pc' := 12) rfl (hb hby d15_5) rfl ((if0 _ _).trans (tlt (own_lcLt hb5)).1) (by decide) (by decide) ?_
    show Steps p.tables e below (s₁.setTop (mkF m 12 #[.val (.long q1), .second, .val (.long q2), .second, .unset, .unset, .unset, .unset, .unset, .unset] [])) _
    refine XS.lloadN X0.here hx rfl (hb hby d15_12) rfl ?_
    show Steps p.tables e below (s₁.setTop (mkF m 13 #[.val (.long q1), .second, .val (.long q2), .second, .unset, .unset, .unset, .unset, .unset, .unset] [(.long q1)])) _
    refine X0.ldc2Long hx hown (mvT hZ (hw _ (List.mem_of_getElem? (i := 91) rfl))) (g := (mkF m 13 #[.val (.long q1), .second, .val (.long q2), .second, .unset, .unset, .unset, .unset, .unset, .unset] [(.long q1)])) rfl (hb hby d15_13) _ ?_
    show Steps p.tables e below (s₁.setTop (mkF m 16 #[.val (.long q1), .second, .val (.long q2), .second, .unset, .unset, .unset, .unset, .unset, .unset] [(.long (1000000 : Int64)), (.long q1)])) _
    refine XS.ldiv X0.here hx rfl (hb hby d15_16) rfl (by decide) ?_
    show Steps p.tables e below (s₁.setTop (mkF m 17 #[.val (.long q1), .second, .val (.long q2), .second, .unset, .unset, .unset, .unset, .unset, .unset] [(.long (q1 / (1000000 : Int64)))])) _
    refine XS.lstore X0.here hx rfl (hb hby d15_17) rfl (l' := #[.val (.long q1), .second, .val (.long q2), .second, .val (.long (q1 / (1000000 : Int64))), .second, .unset, .unset, .unset, .unset]) rfl ?_
    show Steps p.tables e below (s₁.setTop (mkF m 19 #[.val (.long q1), .second, .val (.long q2), .second, .val (.long (q1 / (1000000 : Int64))), .second, .unset, .unset, .unset, .unset] [])) _
    refine XS.lloadN X0.here hx rfl (hb hby d15_19) rfl ?_
    show Steps p.tables e below (s₁.setTop (mkF m 20 #[.val (.long q1), .second, .val (.long q2), .second, .val (.long (q1 / (1000000 : Int64))), .second, .unset, .unset, .unset, .unset] [(.long q1)])) _
    refine X0.ldc2Long hx hown (mvT hZ (hw _ (List.mem_of_getElem? (i := 91) rfl))) (g := (mkF m 20 #[.val (.long q1), .second, .val (.long q2), .second, .val (.long (q1 / (1000000 : Int64))), .second, .unset, .unset, .unset, .unset] [(.long q1)])) rfl (hb hby d15_20) _ ?_
    show Steps p.tables e below (s₁.setTop (mkF m 23 #[.val (.long q1), .second, .val (.long q2), .second, .val (.long (q1 / (1000000 : Int64))), .second, .unset, .unset, .unset, .unset] [(.long (1000000 : Int64)), (.long q1)])) _
    refine XS.lrem X0.here hx rfl (hb hby d15_23) rfl (by decide) ?_
    show Steps p.tables e below (s₁.setTop (mkF m 24 #[.val (.long q1), .second, .val (.long q2), .second, .val (.long (q1 / (1000000 : Int64))), .second, .unset, .unset, .unset, .unset] [(.long (q1 - (q1 / (1000000 : Int64)) * (1000000 : Int64)))])) _
    refine XS.lstore X0.here hx rfl (hb hby d15_24) rfl (l' := #[.val (.long q1), .second, .val (.long q2), .second, .val (.long (q1 / (1000000 : Int64))), .second, .val (.long (q1 - (q1 / (1000000 : Int64)) * (1000000 : Int64))), .second, .unset, .unset]) rfl ?_
    show Steps p.tables e below (s₁.setTop (mkF m 26 #[.val (.long q1), .second, .val (.long q2), .second, .val (.long (q1 / (1000000 : Int64))), .second, .val (.long (q1 - (q1 / (1000000 : Int64)) * (1000000 : Int64))), .second, .unset, .unset] [])) _
    refine XS.lload X0.here hx rfl (hb hby d15_26) rfl ?_
    show Steps p.tables e below (s₁.setTop (mkF m 28 #[.val (.long q1), .second, .val (.long q2), .second, .val (.long (q1 / (1000000 : Int64))), .second, .val (.long (q1 - (q1 / (1000000 : Int64)) * (1000000 : Int64))), .second, .unset, .unset] [(.long (q1 - (q1 / (1000000 : Int64)) * (1000000 : Int64)))])) _
    refine XS.lconst X0.here hx rfl (hb hby d15_28) ?_
    show Steps p.tables e below (s₁.setTop (mkF m 29 #[.val (.long q1), .second, .val (.long q2), .second, .val (.long (q1 / (1000000 : Int64))), .second, .val (.long (q1 - (q1 / (1000000 : Int64)) * (1000000 : Int64))), .second, .unset, .unset] [(.long (0 : Int64)), (.long (q1 - (q1 / (1000000 : Int64)) * (1000000 : Int64)))])) _
    refine XS.lcmp X0.here hx rfl (hb hby d15_29) rfl ?_
    show Steps p.tables e below (s₁.setTop (mkF m 30 #[.val (.long q1), .second, .val (.long q2), .second, .val (.long (q1 / (1000000 : Int64))), .second, .val (.long (q1 - (q1 / (1000000 : Int64)) * (1000000 : Int64))), .second, .unset, .unset] [(.int (lcmpW (q1 - (q1 / (1000000 : Int64)) * (1000000 : Int64)) (0 : Int64)))])) _
    refine XS.ifYes X0.here hx rfl (pc0 := 30) (pc' := 47) rfl (hb hby d15_30) rfl ((if0 _ _).trans (flt (own_lcGe hb30)).2.1) (by decide) (by decide) ?_
    show Steps p.tables e below (s₁.setTop (mkF m 47 #[.val (.long q1), .second, .val (.long q2), .second, .val (.long (q1 / (1000000 : Int64))), .second, .val (.long (q1 - (q1 / (1000000 : Int64)) * (1000000 : Int64))), .second, .unset, .unset] [])) _
    refine XS.lload X0.here hx rfl (hb hby d15_47) rfl ?_
    show Steps p.tables e below (s₁.setTop (mkF m 49 #[.val (.long q1), .second, .val (.long q2), .second, .val (.long (q1 / (1000000 : Int64))), .second, .val (.long (q1 - (q1 / (1000000 : Int64)) * (1000000 : Int64))), .second, .unset, .unset] [(.long (q1 / (1000000 : Int64)))])) _
    refine XS.lloadN X0.here hx rfl (hb hby d15_49) rfl ?_
    show Steps p.tables e below (s₁.setTop (mkF m 50 #[.val (.long q1), .second, .val (.long q2), .second, .val (.long (q1 / (1000000 : Int64))), .second, .val (.long (q1 - (q1 / (1000000 : Int64)) * (1000000 : Int64))), .second, .unset, .unset] [(.long q2), (.long (q1 / (1000000 : Int64)))])) _
    refine XS.lsub X0.here hx rfl (hb hby d15_50) rfl ?_
    show Steps p.tables e below (s₁.setTop (mkF m 51 #[.val (.long q1), .second, .val (.long q2), .second, .val (.long (q1 / (1000000 : Int64))), .second, .val (.long (q1 - (q1 / (1000000 : Int64)) * (1000000 : Int64))), .second, .unset, .unset] [(.long ((q1 / (1000000 : Int64)) - q2))])) _
    refine XS.lstore X0.here hx rfl (hb hby d15_51) rfl (l' := #[.val (.long q1), .second, .val (.long q2), .second, .val (.long (q1 / (1000000 : Int64))), .second, .val (.long (q1 - (q1 / (1000000 : Int64)) * (1000000 : Int64))), .second, .val (.long ((q1 / (1000000 : Int64)) - q2)), .second]) rfl ?_
    show Steps p.tables e below (s₁.setTop (mkF m 53 #[.val (.long q1), .second, .val (.long q2), .second, .val (.long (q1 / (1000000 : Int64))), .second, .val (.long (q1 - (q1 / (1000000 : Int64)) * (1000000 : Int64))), .second, .val (.long ((q1 / (1000000 : Int64)) - q2)), .second] [])) _
    refine XS.lload X0.here hx rfl (hb hby d15_53) rfl ?_
    show Steps p.tables e below (s₁.setTop (mkF m 55 #[.val (.long q1), .second, .val (.long q2), .second, .val (.long (q1 / (1000000 : Int64))), .second, .val (.long (q1 - (q1 / (1000000 : Int64)) * (1000000 : Int64))), .second, .val (.long ((q1 / (1000000 : Int64)) - q2)), .second] [(.long ((q1 / (1000000 : Int64)) - q2))])) _
    refine X0.ldc2Long hx hown (mvT hZ (hw _ (List.mem_of_getElem? (i := 92) rfl))) (g := (mkF m 55 #[.val (.long q1), .second, .val (.long q2), .second, .val (.long (q1 / (1000000 : Int64))), .second, .val (.long (q1 - (q1 / (1000000 : Int64)) * (1000000 : Int64))), .second, .val (.long ((q1 / (1000000 : Int64)) - q2)), .second] [(.long ((q1 / (1000000 : Int64)) - q2))])) rfl (hb hby d15_55) _ ?_
    show Steps p.tables e below (s₁.setTop (mkF m 58 #[.val (.long q1), .second, .val (.long q2), .second, .val (.long (q1 / (1000000 : Int64))), .second, .val (.long (q1 - (q1 / (1000000 : Int64)) * (1000000 : Int64))), .second, .val (.long ((q1 / (1000000 : Int64)) - q2)), .second] [(.long (-9223372036855 : Int64)), (.long ((q1 / (1000000 : Int64)) - q2))])) _
    refine XS.lcmp X0.here hx rfl (hb hby d15_58) rfl ?_
    show Steps p.tables e below (s₁.setTop (mkF m 59 #[.val (.long q1), .second, .val (.long q2), .second, .val (.long (q1 / (1000000 : Int64))), .second, .val (.long (q1 - (q1 / (1000000 : Int64)) * (1000000 : Int64))), .second, .val (.long ((q1 / (1000000 : Int64)) - q2)), .second] [(.int (lcmpW ((q1 / (1000000 : Int64)) - q2) (-9223372036855 : Int64)))])) _
    refine XS.ifYes X0.here hx rfl (pc0 := 59) (pc' := 80) rfl (hb hby d15_59) rfl ((if0 _ _).trans (tlt (own_lcLt hb59)).1) (by decide) (by decide) ?_
    show Steps p.tables e below (s₁.setTop (mkF m 80 #[.val (.long q1), .second, .val (.long q2), .second, .val (.long (q1 / (1000000 : Int64))), .second, .val (.long (q1 - (q1 / (1000000 : Int64)) * (1000000 : Int64))), .second, .val (.long ((q1 / (1000000 : Int64)) - q2)), .second] [])) _
    refine X0.ldc2Long hx hown (mvT hZ (hw _ (List.mem_of_getElem? (i := 93) rfl))) (g := (mkF m 80 #[.val (.long q1), .second, .val (.long q2), .second, .val (.long (q1 / (1000000 : Int64))), .second, .val (.long (q1 - (q1 / (1000000 : Int64)) * (1000000 : Int64))), .second, .val (.long ((q1 / (1000000 : Int64)) - q2)), .second] [])) rfl (hb hby d15_80) _ ?_
    show Steps p.tables e below (s₁.setTop (mkF m 83 #[.val (.long q1), .second, .val (.long q2), .second, .val (.long (q1 / (1000000 : Int64))), .second, .val (.long (q1 - (q1 / (1000000 : Int64)) * (1000000 : Int64))), .second, .val (.long ((q1 / (1000000 : Int64)) - q2)), .second] [(.long (-9223372036854775808 : Int64))])) _
    exact own_retL X0 hx Bd.returns (hb hby d15_83) hr
  · show QJ (own_old q1 q2) h0 n0 _ s₁.heap _
    rw [e0]
    exact ⟨by rw [own_r1 (own_qP hb30) h1 hb5 hb59], N0, rfl⟩
set_option maxRecDepth 65536 in
set_option maxHeartbeats 40000000 in
theorem rmFP2 (l : Launch) (Z : State) (a0 : Array Value) (hw : ∀ d ∈ tables_1, d.before a0 Z = true) (ws : List Jvm.Cond) (q1 : Int64) (q2 : Int64) (h0 : Heap) (n0 : Nat) (Z0 : n0 ≤ h0.size) (h1 : ¬ q2 < (1 : Int64)) (hb5 : q2 < (9223372036855 : Int64)) (hb30 : ¬ (q1 - (q1 / (1000000 : Int64)) * (1000000 : Int64)) < (0 : Int64)) (hb59 : ¬ ((q1 / (1000000 : Int64)) - q2) < (-9223372036855 : Int64)) (hb68 : ¬ ((q1 / (1000000 : Int64)) - q2) = (-9223372036855 : Int64)) :
    MetFree l (⟨"com/example/sorted_map_store/sortedmapstore/ColumnFamilyOldestKeptPinLaw", "reference", "(JJ)J"⟩ : MethodName) (head1 (Jvm.Cond.code (⟨"com/example/sorted_map_store/sortedmapstore/ColumnFamilyOldestKeptPinLaw", "reference", "(JJ)J"⟩ : MethodName) method_2_code 10 (some .long) :: ws) ({ frames := 0, cells := 0, slots := 0, locals := 0 } : Room)) (fun a U => a = #[(.long q1), (.long q2)] ∧ Z.Warmed39 U.vm ∧ U.heap = h0) (fun _ _ _ _ _ => True) (fun _ U o U' => ∃ v L, o = .returned v ∧ QJ (own_old q1 q2) h0 n0 v U'.heap L ∧ FrameEnd U o U' L ({ frames := 0, cells := 0, slots := 0, locals := 0 } : Room).cells ({ frames := 0, cells := 0, slots := 0, locals := 0 } : Room).slots) := by
  refine MetFree.of_bodySF (plainFor_of_name own_pn7) hisR ?_
  intro p e s m args below meth c s₁ Bd hml0 hP hK
  obtain ⟨rfl, hZ, hh⟩ := hP
  have hx := Bd.exec
  have hby := Bd.bytes
  have hml : c.maxLocals = 10 := hml0
  have hown : s.vm.findClass "com/example/sorted_map_store/sortedmapstore/ColumnFamilyOldestKeptPinLaw" = some m.cls := findClass_of_methodNamed Bd.named
  have hnm := (name_of_methodNamed Bd.named Bd.method).1
  have X0 : Stand p l e ({ frames := 0, cells := 0, slots := 0, locals := 0 } : Room) s m #[(.long q1), (.long q2)] below meth c s₁ [] 0 0 := Stand.of_body Bd
  have e0 : s₁.heap = h0 := by rw [← hh, Bd.state]; rfl
  have N0 := Fr.nil n0
  have ef : entryFrame m #[(.long q1), (.long q2)] 10 = mkF m 0 #[.val (.long q1), .second, .val (.long q2), .second, .unset, .unset, .unset, .unset, .unset, .unset] [] := by first | (simp [entryFrame, mkF, argsToLocals, Value.category]; done) | rfl
  have pre0 : ∀ t, Steps p.tables e below (s₁.setTop (mkF m 0 #[.val (.long q1), .second, .val (.long q2), .second, .unset, .unset, .unset, .unset, .unset, .unset] [])) t → Steps p.tables e below (s₁.setTop (entryFrame m #[(.long q1), (.long q2)] 10)) t := fun t k => castTop ef k
  obtain ⟨fs, hr, hrun, hended, hW, hsame⟩ := X0.leave (v := some (.long (((((q1 / (1000000 : Int64)) - q2) + (1 : Int64)) * (1000000 : Int64)) + ((q1 - (q1 / (1000000 : Int64)) * (1000000 : Int64)) - (1000000 : Int64))))) (fun h => by rw [Bd.returns] at h; cases h) (hlocks := Bd.notSynchronized)
  refine ⟨_, _, pre0 _ ?_, hrun, hended, _, _, rfl, ?_, ⟨_, rfl⟩, hW, hsame.mono (by decide) (by decide)⟩
  · show Steps p.tables e below (s₁.setTop (mkF m 0 #[.val (.long q1), .second, .val (.long q2), .second, .unset, .unset, .unset, .unset, .unset, .unset] [])) _
    refine XS.lloadN X0.here hx rfl (hb hby d15_0) rfl ?_
    show Steps p.tables e below (s₁.setTop (mkF m 1 #[.val (.long q1), .second, .val (.long q2), .second, .unset, .unset, .unset, .unset, .unset, .unset] [(.long q2)])) _
    refine X0.ldc2Long hx hown (mvT hZ (hw _ (List.mem_of_getElem? (i := 90) rfl))) (g := (mkF m 1 #[.val (.long q1), .second, .val (.long q2), .second, .unset, .unset, .unset, .unset, .unset, .unset] [(.long q2)])) rfl (hb hby d15_1) _ ?_
    show Steps p.tables e below (s₁.setTop (mkF m 4 #[.val (.long q1), .second, .val (.long q2), .second, .unset, .unset, .unset, .unset, .unset, .unset] [(.long (9223372036855 : Int64)), (.long q2)])) _
    refine XS.lcmp X0.here hx rfl (hb hby d15_4) rfl ?_
    show Steps p.tables e below (s₁.setTop (mkF m 5 #[.val (.long q1), .second, .val (.long q2), .second, .unset, .unset, .unset, .unset, .unset, .unset] [(.int (lcmpW q2 (9223372036855 : Int64)))])) _
    refine XS.ifYes X0.here hx rfl (pc0 := 5) (pc' := 12) rfl (hb hby d15_5) rfl ((if0 _ _).trans (tlt (own_lcLt hb5)).1) (by decide) (by decide) ?_
    show Steps p.tables e below (s₁.setTop (mkF m 12 #[.val (.long q1), .second, .val (.long q2), .second, .unset, .unset, .unset, .unset, .unset, .unset] [])) _
    refine XS.lloadN X0.here hx rfl (hb hby d15_12) rfl ?_
    show Steps p.tables e below (s₁.setTop (mkF m 13 #[.val (.long q1), .second, .val (.long q2), .second, .unset, .unset, .unset, .unset, .unset, .unset] [(.long q1)])) _
    refine X0.ldc2Long hx hown (mvT hZ (hw _ (List.mem_of_getElem? (i := 91) rfl))) (g := (mkF m 13 #[.val (.long q1), .second, .val (.long q2), .second, .unset, .unset, .unset, .unset, .unset, .unset] [(.long q1)])) rfl (hb hby d15_13) _ ?_
    show Steps p.tables e below (s₁.setTop (mkF m 16 #[.val (.long q1), .second, .val (.long q2), .second, .unset, .unset, .unset, .unset, .unset, .unset] [(.long (1000000 : Int64)), (.long q1)])) _
    refine XS.ldiv X0.here hx rfl (hb hby d15_16) rfl (by decide) ?_
    show Steps p.tables e below (s₁.setTop (mkF m 17 #[.val (.long q1), .second, .val (.long q2), .second, .unset, .unset, .unset, .unset, .unset, .unset] [(.long (q1 / (1000000 : Int64)))])) _
    refine XS.lstore X0.here hx rfl (hb hby d15_17) rfl (l' := #[.val (.long q1), .second, .val (.long q2), .second, .val (.long (q1 / (1000000 : Int64))), .second, .unset, .unset, .unset, .unset]) rfl ?_
    show Steps p.tables e below (s₁.setTop (mkF m 19 #[.val (.long q1), .second, .val (.long q2), .second, .val (.long (q1 / (1000000 : Int64))), .second, .unset, .unset, .unset, .unset] [])) _
    refine XS.lloadN X0.here hx rfl (hb hby d15_19) rfl ?_
    show Steps p.tables e below (s₁.setTop (mkF m 20 #[.val (.long q1), .second, .val (.long q2), .second, .val (.long (q1 / (1000000 : Int64))), .second, .unset, .unset, .unset, .unset] [(.long q1)])) _
    refine X0.ldc2Long hx hown (mvT hZ (hw _ (List.mem_of_getElem? (i := 91) rfl))) (g := (mkF m 20 #[.val (.long q1), .second, .val (.long q2), .second, .val (.long (q1 / (1000000 : Int64))), .second, .unset, .unset, .unset, .unset] [(.long q1)])) rfl (hb hby d15_20) _ ?_
    show Steps p.tables e below (s₁.setTop (mkF m 23 #[.val (.long q1), .second, .val (.long q2), .second, .val (.long (q1 / (1000000 : Int64))), .second, .unset, .unset, .unset, .unset] [(.long (1000000 : Int64)), (.long q1)])) _
    refine XS.lrem X0.here hx rfl (hb hby d15_23) rfl (by decide) ?_
    show Steps p.tables e below (s₁.setTop (mkF m 24 #[.val (.long q1), .second, .val (.long q2), .second, .val (.long (q1 / (1000000 : Int64))), .second, .unset, .unset, .unset, .unset] [(.long (q1 - (q1 / (1000000 : Int64)) * (1000000 : Int64)))])) _
    refine XS.lstore X0.here hx rfl (hb hby d15_24) rfl (l' := #[.val (.long q1), .second, .val (.long q2), .second, .val (.long (q1 / (1000000 : Int64))), .second, .val (.long (q1 - (q1 / (1000000 : Int64)) * (1000000 : Int64))), .second, .unset, .unset]) rfl ?_
    show Steps p.tables e below (s₁.setTop (mkF m 26 #[.val (.long q1), .second, .val (.long q2), .second, .val (.long (q1 / (1000000 : Int64))), .second, .val (.long (q1 - (q1 / (1000000 : Int64)) * (1000000 : Int64))), .second, .unset, .unset] [])) _
    refine XS.lload X0.here hx rfl (hb hby d15_26) rfl ?_
    show Steps p.tables e below (s₁.setTop (mkF m 28 #[.val (.long q1), .second, .val (.long q2), .second, .val (.long (q1 / (1000000 : Int64))), .second, .val (.long (q1 - (q1 / (1000000 : Int64)) * (1000000 : Int64))), .second, .unset, .unset] [(.long (q1 - (q1 / (1000000 : Int64)) * (1000000 : Int64)))])) _
    refine XS.lconst X0.here hx rfl (hb hby d15_28) ?_
    show Steps p.tables e below (s₁.setTop (mkF m 29 #[.val (.long q1), .second, .val (.long q2), .second, .val (.long (q1 / (1000000 : Int64))), .second, .val (.long (q1 - (q1 / (1000000 : Int64)) * (1000000 : Int64))), .second, .unset, .unset] [(.long (0 : Int64)), (.long (q1 - (q1 / (1000000 : Int64)) * (1000000 : Int64)))])) _
    refine XS.lcmp X0.here hx rfl (hb hby d15_29) rfl ?_
    show Steps p.tables e below (s₁.setTop (mkF m 30 #[.val (.long q1), .second, .val (.long q2), .second, .val (.long (q1 / (1000000 : Int64))), .second, .val (.long (q1 - (q1 / (1000000 : Int64)) * (1000000 : Int64))), .second, .unset, .unset] [(.int (lcmpW (q1 - (q1 / (1000000 : Int64)) * (1000000 : Int64)) (0 : Int64)))])) _
    refine XS.ifYes X0.here hx rfl (pc0 := 30) (pc' := 47) rfl (hb hby d15_30) rfl ((if0 _ _).trans (flt (own_lcGe hb30)).2.1) (by decide) (by decide) ?_
    show Steps p.tables e below (s₁.setTop (mkF m 47 #[.val (.long q1), .second, .val (.long q2), .second, .val (.long (q1 / (1000000 : Int64))), .second, .val (.long (q1 - (q1 / (1000000 : Int64)) * (1000000 : Int64))), .second, .unset, .unset] [])) _
    refine XS.lload X0.here hx rfl (hb hby d15_47) rfl ?_
    show Steps p.tables e below (s₁.setTop (mkF m 49 #[.val (.long q1), .second, .val (.long q2), .second, .val (.long (q1 / (1000000 : Int64))), .second, .val (.long (q1 - (q1 / (1000000 : Int64)) * (1000000 : Int64))), .second, .unset, .unset] [(.long (q1 / (1000000 : Int64)))])) _
    refine XS.lloadN X0.here hx rfl (hb hby d15_49) rfl ?_
    show Steps p.tables e below (s₁.setTop (mkF m 50 #[.val (.long q1), .second, .val (.long q2), .second, .val (.long (q1 / (1000000 : Int64))), .second, .val (.long (q1 - (q1 / (1000000 : Int64)) * (1000000 : Int64))), .second, .unset, .unset] [(.long q2), (.long (q1 / (1000000 : Int64)))])) _
    refine XS.lsub X0.here hx rfl (hb hby d15_50) rfl ?_
    show Steps p.tables e below (s₁.setTop (mkF m 51 #[.val (.long q1), .second, .val (.long q2), .second, .val (.long (q1 / (1000000 : Int64))), .second, .val (.long (q1 - (q1 / (1000000 : Int64)) * (1000000 : Int64))), .second, .unset, .unset] [(.long ((q1 / (1000000 : Int64)) - q2))])) _
    refine XS.lstore X0.here hx rfl (hb hby d15_51) rfl (l' := #[.val (.long q1), .second, .val (.long q2), .second, .val (.long (q1 / (1000000 : Int64))), .second, .val (.long (q1 - (q1 / (1000000 : Int64)) * (1000000 : Int64))), .second, .val (.long ((q1 / (1000000 : Int64)) - q2)), .second]) rfl ?_
    show Steps p.tables e below (s₁.setTop (mkF m 53 #[.val (.long q1), .second, .val (.long q2), .second, .val (.long (q1 / (1000000 : Int64))), .second, .val (.long (q1 - (q1 / (1000000 : Int64)) * (1000000 : Int64))), .second, .val (.long ((q1 / (1000000 : Int64)) - q2)), .second] [])) _
    refine XS.lload X0.here hx rfl (hb hby d15_53) rfl ?_
    show Steps p.tables e below (s₁.setTop (mkF m 55 #[.val (.long q1), .second, .val (.long q2), .second, .val (.long (q1 / (1000000 : Int64))), .second, .val (.long (q1 - (q1 / (1000000 : Int64)) * (1000000 : Int64))), .second, .val (.long ((q1 / (1000000 : Int64)) - q2)), .second] [(.long ((q1 / (1000000 : Int64)) - q2))])) _
    refine X0.ldc2Long hx hown (mvT hZ (hw _ (List.mem_of_getElem? (i := 92) rfl))) (g := (mkF m 55 #[.val (.long q1), .second, .val (.long q2), .second, .val (.long (q1 / (1000000 : Int64))), .second, .val (.long (q1 - (q1 / (1000000 : Int64)) * (1000000 : Int64))), .second, .val (.long ((q1 / (1000000 : Int64)) - q2)), .second] [(.long ((q1 / (1000000 : Int64)) - q2))])) rfl (hb hby d15_55) _ ?_
    show Steps p.tables e below (s₁.setTop (mkF m 58 #[.val (.long q1), .second, .val (.long q2), .second, .val (.long (q1 / (1000000 : Int64))), .second, .val (.long (q1 - (q1 / (1000000 : Int64)) * (1000000 : Int64))), .second, .val (.long ((q1 / (1000000 : Int64)) - q2)), .second] [(.long (-9223372036855 : Int64)), (.long ((q1 / (1000000 : Int64)) - q2))])) _
    refine XS.lcmp X0.here hx rfl (hb hby d15_58) rfl ?_
    show Steps p.tables e below (s₁.setTop (mkF m 59 #[.val (.long q1), .second, .val (.long q2), .second, .val (.long (q1 / (1000000 : Int64))), .second, .val (.long (q1 - (q1 / (1000000 : Int64)) * (1000000 : Int64))), .second, .val (.long ((q1 / (1000000 : Int64)) - q2)), .second] [(.int (lcmpW ((q1 / (1000000 : Int64)) - q2) (-9223372036855 : Int64)))])) _
    refine XS.ifNo X0.here hx rfl (hb hby d15_59) rfl ((if0 _ _).trans (flt (own_lcGe hb59)).1) ?_
    show Steps p.tables e below (s₁.setTop (mkF m 62 #[.val (.long q1), .second, .val (.long q2), .second, .val (.long (q1 / (1000000 : Int64))), .second, .val (.long (q1 - (q1 / (1000000 : Int64)) * (1000000 : Int64))), .second, .val (.long ((q1 / (1000000 : Int64)) - q2)), .second] [])) _
    refine XS.lload X0.here hx rfl (hb hby d15_62) rfl ?_
    show Steps p.tables e below (s₁.setTop (mkF m 64 #[.val (.long q1), .second, .val (.long q2), .second, .val (.long (q1 / (1000000 : Int64))), .second, .val (.long (q1 - (q1 / (1000000 : Int64)) * (1000000 : Int64))), .second, .val (.long ((q1 / (1000000 : Int64)) - q2)), .second] [(.long ((q1 / (1000000 : Int64)) - q2))])) _
    refine X0.ldc2Long hx hown (mvT hZ (hw _ (List.mem_of_getElem? (i := 92) rfl))) (g := (mkF m 64 #[.val (.long q1), .second, .val (.long q2), .second, .val (.long (q1 / (1000000 : Int64))), .second, .val (.long (q1 - (q1 / (1000000 : Int64)) * (1000000 : Int64))), .second, .val (.long ((q1 / (1000000 : Int64)) - q2)), .second] [(.long ((q1 / (1000000 : Int64)) - q2))])) rfl (hb hby d15_64) _ ?_
    show Steps p.tables e below (s₁.setTop (mkF m 67 #[.val (.long q1), .second, .val (.long q2), .second, .val (.long (q1 / (1000000 : Int64))), .second, .val (.long (q1 - (q1 / (1000000 : Int64)) * (1000000 : Int64))), .second, .val (.long ((q1 / (1000000 : Int64)) - q2)), .second] [(.long (-9223372036855 : Int64)), (.long ((q1 / (1000000 : Int64)) - q2))])) _
    refine XS.lcmp X0.here hx rfl (hb hby d15_67) rfl ?_
    show Steps p.tables e below (s₁.setTop (mkF m 68 #[.val (.long q1), .second, .val (.long q2), .second, .val (.long (q1 / (1000000 : Int64))), .second, .val (.long (q1 - (q1 / (1000000 : Int64)) * (1000000 : Int64))), .second, .val (.long ((q1 / (1000000 : Int64)) - q2)), .second] [(.int (lcmpW ((q1 / (1000000 : Int64)) - q2) (-9223372036855 : Int64)))])) _
    refine XS.ifYes X0.here hx rfl (pc0 := 68) (pc' := 84) rfl (hb hby d15_68) rfl ((if0 _ _).trans (feq (own_lcNe hb68)).2) (by decide) (by decide) ?_
    show Steps p.tables e below (s₁.setTop (mkF m 84 #[.val (.long q1), .second, .val (.long q2), .second, .val (.long (q1 / (1000000 : Int64))), .second, .val (.long (q1 - (q1 / (1000000 : Int64)) * (1000000 : Int64))), .second, .val (.long ((q1 / (1000000 : Int64)) - q2)), .second] [])) _
    refine XS.lload X0.here hx rfl (hb hby d15_84) rfl ?_
    show Steps p.tables e below (s₁.setTop (mkF m 86 #[.val (.long q1), .second, .val (.long q2), .second, .val (.long (q1 / (1000000 : Int64))), .second, .val (.long (q1 - (q1 / (1000000 : Int64)) * (1000000 : Int64))), .second, .val (.long ((q1 / (1000000 : Int64)) - q2)), .second] [(.long ((q1 / (1000000 : Int64)) - q2))])) _
    refine XS.lconst X0.here hx rfl (hb hby d15_86) ?_
    show Steps p.tables e below (s₁.setTop (mkF m 87 #[.val (.long q1), .second, .val (.long q2), .second, .val (.long (q1 / (1000000 : Int64))), .second, .val (.long (q1 - (q1 / (1000000 : Int64)) * (1000000 : Int64))), .second, .val (.long ((q1 / (1000000 : Int64)) - q2)), .second] [(.long (1 : Int64)), (.long ((q1 / (1000000 : Int64)) - q2))])) _
    refine XS.ladd X0.here hx rfl (hb hby d15_87) rfl ?_
    show Steps p.tables e below (s₁.setTop (mkF m 88 #[.val (.long q1), .second, .val (.long q2), .second, .val (.long (q1 / (1000000 : Int64))), .second, .val (.long (q1 - (q1 / (1000000 : Int64)) * (1000000 : Int64))), .second, .val (.long ((q1 / (1000000 : Int64)) - q2)), .second] [(.long (((q1 / (1000000 : Int64)) - q2) + (1 : Int64)))])) _
    refine X0.ldc2Long hx hown (mvT hZ (hw _ (List.mem_of_getElem? (i := 91) rfl))) (g := (mkF m 88 #[.val (.long q1), .second, .val (.long q2), .second, .val (.long (q1 / (1000000 : Int64))), .second, .val (.long (q1 - (q1 / (1000000 : Int64)) * (1000000 : Int64))), .second, .val (.long ((q1 / (1000000 : Int64)) - q2)), .second] [(.long (((q1 / (1000000 : Int64)) - q2) + (1 : Int64)))])) rfl (hb hby d15_88) _ ?_
    show Steps p.tables e below (s₁.setTop (mkF m 91 #[.val (.long q1), .second, .val (.long q2), .second, .val (.long (q1 / (1000000 : Int64))), .second, .val (.long (q1 - (q1 / (1000000 : Int64)) * (1000000 : Int64))), .second, .val (.long ((q1 / (1000000 : Int64)) - q2)), .second] [(.long (1000000 : Int64)), (.long (((q1 / (1000000 : Int64)) - q2) + (1 : Int64)))])) _
    refine XS.lmul X0.here hx rfl (hb hby d15_91) rfl ?_
    show Steps p.tables e below (s₁.setTop (mkF m 92 #[.val (.long q1), .second, .val (.long q2), .second, .val (.long (q1 / (1000000 : Int64))), .second, .val (.long (q1 - (q1 / (1000000 : Int64)) * (1000000 : Int64))), .second, .val (.long ((q1 / (1000000 : Int64)) - q2)), .second] [(.long ((((q1 / (1000000 : Int64)) - q2) + (1 : Int64)) * (1000000 : Int64)))])) _
    refine XS.lload X0.here hx rfl (hb hby d15_92) rfl ?_
    show Steps p.tables e below (s₁.setTop (mkF m 94 #[.val (.long q1), .second, .val (.long q2), .second, .val (.long (q1 / (1000000 : Int64))), .second, .val (.long (q1 - (q1 / (1000000 : Int64)) * (1000000 : Int64))), .second, .val (.long ((q1 / (1000000 : Int64)) - q2)), .second] [(.long (q1 - (q1 / (1000000 : Int64)) * (1000000 : Int64))), (.long ((((q1 / (1000000 : Int64)) - q2) + (1 : Int64)) * (1000000 : Int64)))])) _
    refine X0.ldc2Long hx hown (mvT hZ (hw _ (List.mem_of_getElem? (i := 91) rfl))) (g := (mkF m 94 #[.val (.long q1), .second, .val (.long q2), .second, .val (.long (q1 / (1000000 : Int64))), .second, .val (.long (q1 - (q1 / (1000000 : Int64)) * (1000000 : Int64))), .second, .val (.long ((q1 / (1000000 : Int64)) - q2)), .second] [(.long (q1 - (q1 / (1000000 : Int64)) * (1000000 : Int64))), (.long ((((q1 / (1000000 : Int64)) - q2) + (1 : Int64)) * (1000000 : Int64)))])) rfl (hb hby d15_94) _ ?_
    show Steps p.tables e below (s₁.setTop (mkF m 97 #[.val (.long q1), .second, .val (.long q2), .second, .val (.long (q1 / (1000000 : Int64))), .second, .val (.long (q1 - (q1 / (1000000 : Int64)) * (1000000 : Int64))), .second, .val (.long ((q1 / (1000000 : Int64)) - q2)), .second] [(.long (1000000 : Int64)), (.long (q1 - (q1 / (1000000 : Int64)) * (1000000 : Int64))), (.long ((((q1 / (1000000 : Int64)) - q2) + (1 : Int64)) * (1000000 : Int64)))])) _
    refine XS.lsub X0.here hx rfl (hb hby d15_97) rfl ?_
    show Steps p.tables e below (s₁.setTop (mkF m 98 #[.val (.long q1), .second, .val (.long q2), .second, .val (.long (q1 / (1000000 : Int64))), .second, .val (.long (q1 - (q1 / (1000000 : Int64)) * (1000000 : Int64))), .second, .val (.long ((q1 / (1000000 : Int64)) - q2)), .second] [(.long ((q1 - (q1 / (1000000 : Int64)) * (1000000 : Int64)) - (1000000 : Int64))), (.long ((((q1 / (1000000 : Int64)) - q2) + (1 : Int64)) * (1000000 : Int64)))])) _
    refine XS.ladd X0.here hx rfl (hb hby d15_98) rfl ?_
    show Steps p.tables e below (s₁.setTop (mkF m 99 #[.val (.long q1), .second, .val (.long q2), .second, .val (.long (q1 / (1000000 : Int64))), .second, .val (.long (q1 - (q1 / (1000000 : Int64)) * (1000000 : Int64))), .second, .val (.long ((q1 / (1000000 : Int64)) - q2)), .second] [(.long (((((q1 / (1000000 : Int64)) - q2) + (1 : Int64)) * (1000000 : Int64)) + ((q1 - (q1 / (1000000 : Int64)) * (1000000 : Int64)) - (1000000 : Int64))))])) _
    exact own_retL X0 hx Bd.returns (hb hby d15_99) hr
  · show QJ (own_old q1 q2) h0 n0 _ s₁.heap _
    rw [e0]
    exact ⟨by rw [own_r2 (own_qP hb30) h1 hb5 hb59 hb68], N0, rfl⟩
set_option maxRecDepth 65536 in
set_option maxHeartbeats 40000000 in
theorem rmFP3 (l : Launch) (Z : State) (a0 : Array Value) (hw : ∀ d ∈ tables_1, d.before a0 Z = true) (ws : List Jvm.Cond) (q1 : Int64) (q2 : Int64) (h0 : Heap) (n0 : Nat) (Z0 : n0 ≤ h0.size) (h1 : ¬ q2 < (1 : Int64)) (hb5 : q2 < (9223372036855 : Int64)) (hb30 : ¬ (q1 - (q1 / (1000000 : Int64)) * (1000000 : Int64)) < (0 : Int64)) (hb59 : ¬ ((q1 / (1000000 : Int64)) - q2) < (-9223372036855 : Int64)) (hb68 : ((q1 / (1000000 : Int64)) - q2) = (-9223372036855 : Int64)) (hb77 : (224192 : Int64) < (q1 - (q1 / (1000000 : Int64)) * (1000000 : Int64))) :
    MetFree l (⟨"com/example/sorted_map_store/sortedmapstore/ColumnFamilyOldestKeptPinLaw", "reference", "(JJ)J"⟩ : MethodName) (head1 (Jvm.Cond.code (⟨"com/example/sorted_map_store/sortedmapstore/ColumnFamilyOldestKeptPinLaw", "reference", "(JJ)J"⟩ : MethodName) method_2_code 10 (some .long) :: ws) ({ frames := 0, cells := 0, slots := 0, locals := 0 } : Room)) (fun a U => a = #[(.long q1), (.long q2)] ∧ Z.Warmed39 U.vm ∧ U.heap = h0) (fun _ _ _ _ _ => True) (fun _ U o U' => ∃ v L, o = .returned v ∧ QJ (own_old q1 q2) h0 n0 v U'.heap L ∧ FrameEnd U o U' L ({ frames := 0, cells := 0, slots := 0, locals := 0 } : Room).cells ({ frames := 0, cells := 0, slots := 0, locals := 0 } : Room).slots) := by
  refine MetFree.of_bodySF (plainFor_of_name own_pn7) hisR ?_
  intro p e s m args below meth c s₁ Bd hml0 hP hK
  obtain ⟨rfl, hZ, hh⟩ := hP
  have hx := Bd.exec
  have hby := Bd.bytes
  have hml : c.maxLocals = 10 := hml0
  have hown : s.vm.findClass "com/example/sorted_map_store/sortedmapstore/ColumnFamilyOldestKeptPinLaw" = some m.cls := findClass_of_methodNamed Bd.named
  have hnm := (name_of_methodNamed Bd.named Bd.method).1
  have X0 : Stand p l e ({ frames := 0, cells := 0, slots := 0, locals := 0 } : Room) s m #[(.long q1), (.long q2)] below meth c s₁ [] 0 0 := Stand.of_body Bd
  have e0 : s₁.heap = h0 := by rw [← hh, Bd.state]; rfl
  have N0 := Fr.nil n0
  have ef : entryFrame m #[(.long q1), (.long q2)] 10 = mkF m 0 #[.val (.long q1), .second, .val (.long q2), .second, .unset, .unset, .unset, .unset, .unset, .unset] [] := by first | (simp [entryFrame, mkF, argsToLocals, Value.category]; done) | rfl
  have pre0 : ∀ t, Steps p.tables e below (s₁.setTop (mkF m 0 #[.val (.long q1), .second, .val (.long q2), .second, .unset, .unset, .unset, .unset, .unset, .unset] [])) t → Steps p.tables e below (s₁.setTop (entryFrame m #[(.long q1), (.long q2)] 10)) t := fun t k => castTop ef k
  obtain ⟨fs, hr, hrun, hended, hW, hsame⟩ := X0.leave (v := some (.long (((((q1 / (1000000 : Int64)) - q2) + (1 : Int64)) * (1000000 : Int64)) + ((q1 - (q1 / (1000000 : Int64)) * (1000000 : Int64)) - (1000000 : Int64))))) (fun h => by rw [Bd.returns] at h; cases h) (hlocks := Bd.notSynchronized)
  refine ⟨_, _, pre0 _ ?_, hrun, hended, _, _, rfl, ?_, ⟨_, rfl⟩, hW, hsame.mono (by decide) (by decide)⟩
  · show Steps p.tables e below (s₁.setTop (mkF m 0 #[.val (.long q1), .second, .val (.long q2), .second, .unset, .unset, .unset, .unset, .unset, .unset] [])) _
    refine XS.lloadN X0.here hx rfl (hb hby d15_0) rfl ?_
    show Steps p.tables e below (s₁.setTop (mkF m 1 #[.val (.long q1), .second, .val (.long q2), .second, .unset, .unset, .unset, .unset, .unset, .unset] [(.long q2)])) _
    refine X0.ldc2Long hx hown (mvT hZ (hw _ (List.mem_of_getElem? (i := 90) rfl))) (g := (mkF m 1 #[.val (.long q1), .second, .val (.long q2), .second, .unset, .unset, .unset, .unset, .unset, .unset] [(.long q2)])) rfl (hb hby d15_1) _ ?_
    show Steps p.tables e below (s₁.setTop (mkF m 4 #[.val (.long q1), .second, .val (.long q2), .second, .unset, .unset, .unset, .unset, .unset, .unset] [(.long (9223372036855 : Int64)), (.long q2)])) _
    refine XS.lcmp X0.here hx rfl (hb hby d15_4) rfl ?_
    show Steps p.tables e below (s₁.setTop (mkF m 5 #[.val (.long q1), .second, .val (.long q2), .second, .unset, .unset, .unset, .unset, .unset, .unset] [(.int (lcmpW q2 (9223372036855 : Int64)))])) _
    refine XS.ifYes X0.here hx rfl (pc0 := 5) (pc' := 12) rfl (hb hby d15_5) rfl ((if0 _ _).trans (tlt (own_lcLt hb5)).1) (by decide) (by decide) ?_
    show Steps p.tables e below (s₁.setTop (mkF m 12 #[.val (.long q1), .second, .val (.long q2), .second, .unset, .unset, .unset, .unset, .unset, .unset] [])) _
    refine XS.lloadN X0.here hx rfl (hb hby d15_12) rfl ?_
    show Steps p.tables e below (s₁.setTop (mkF m 13 #[.val (.long q1), .second, .val (.long q2), .second, .unset, .unset, .unset, .unset, .unset, .unset] [(.long q1)])) _
    refine X0.ldc2Long hx hown (mvT hZ (hw _ (List.mem_of_getElem? (i := 91) rfl))) (g := (mkF m 13 #[.val (.long q1), .second, .val (.long q2), .second, .unset, .unset, .unset, .unset, .unset, .unset] [(.long q1)])) rfl (hb hby d15_13) _ ?_
    show Steps p.tables e below (s₁.setTop (mkF m 16 #[.val (.long q1), .second, .val (.long q2), .second, .unset, .unset, .unset, .unset, .unset, .unset] [(.long (1000000 : Int64)), (.long q1)])) _
    refine XS.ldiv X0.here hx rfl (hb hby d15_16) rfl (by decide) ?_
    show Steps p.tables e below (s₁.setTop (mkF m 17 #[.val (.long q1), .second, .val (.long q2), .second, .unset, .unset, .unset, .unset, .unset, .unset] [(.long (q1 / (1000000 : Int64)))])) _
    refine XS.lstore X0.here hx rfl (hb hby d15_17) rfl (l' := #[.val (.long q1), .second, .val (.long q2), .second, .val (.long (q1 / (1000000 : Int64))), .second, .unset, .unset, .unset, .unset]) rfl ?_
    show Steps p.tables e below (s₁.setTop (mkF m 19 #[.val (.long q1), .second, .val (.long q2), .second, .val (.long (q1 / (1000000 : Int64))), .second, .unset, .unset, .unset, .unset] [])) _
    refine XS.lloadN X0.here hx rfl (hb hby d15_19) rfl ?_
    show Steps p.tables e below (s₁.setTop (mkF m 20 #[.val (.long q1), .second, .val (.long q2), .second, .val (.long (q1 / (1000000 : Int64))), .second, .unset, .unset, .unset, .unset] [(.long q1)])) _
    refine X0.ldc2Long hx hown (mvT hZ (hw _ (List.mem_of_getElem? (i := 91) rfl))) (g := (mkF m 20 #[.val (.long q1), .second, .val (.long q2), .second, .val (.long (q1 / (1000000 : Int64))), .second, .unset, .unset, .unset, .unset] [(.long q1)])) rfl (hb hby d15_20) _ ?_
    show Steps p.tables e below (s₁.setTop (mkF m 23 #[.val (.long q1), .second, .val (.long q2), .second, .val (.long (q1 / (1000000 : Int64))), .second, .unset, .unset, .unset, .unset] [(.long (1000000 : Int64)), (.long q1)])) _
    refine XS.lrem X0.here hx rfl (hb hby d15_23) rfl (by decide) ?_
    show Steps p.tables e below (s₁.setTop (mkF m 24 #[.val (.long q1), .second, .val (.long q2), .second, .val (.long (q1 / (1000000 : Int64))), .second, .unset, .unset, .unset, .unset] [(.long (q1 - (q1 / (1000000 : Int64)) * (1000000 : Int64)))])) _
    refine XS.lstore X0.here hx rfl (hb hby d15_24) rfl (l' := #[.val (.long q1), .second, .val (.long q2), .second, .val (.long (q1 / (1000000 : Int64))), .second, .val (.long (q1 - (q1 / (1000000 : Int64)) * (1000000 : Int64))), .second, .unset, .unset]) rfl ?_
    show Steps p.tables e below (s₁.setTop (mkF m 26 #[.val (.long q1), .second, .val (.long q2), .second, .val (.long (q1 / (1000000 : Int64))), .second, .val (.long (q1 - (q1 / (1000000 : Int64)) * (1000000 : Int64))), .second, .unset, .unset] [])) _
    refine XS.lload X0.here hx rfl (hb hby d15_26) rfl ?_
    show Steps p.tables e below (s₁.setTop (mkF m 28 #[.val (.long q1), .second, .val (.long q2), .second, .val (.long (q1 / (1000000 : Int64))), .second, .val (.long (q1 - (q1 / (1000000 : Int64)) * (1000000 : Int64))), .second, .unset, .unset] [(.long (q1 - (q1 / (1000000 : Int64)) * (1000000 : Int64)))])) _
    refine XS.lconst X0.here hx rfl (hb hby d15_28) ?_
    show Steps p.tables e below (s₁.setTop (mkF m 29 #[.val (.long q1), .second, .val (.long q2), .second, .val (.long (q1 / (1000000 : Int64))), .second, .val (.long (q1 - (q1 / (1000000 : Int64)) * (1000000 : Int64))), .second, .unset, .unset] [(.long (0 : Int64)), (.long (q1 - (q1 / (1000000 : Int64)) * (1000000 : Int64)))])) _
    refine XS.lcmp X0.here hx rfl (hb hby d15_29) rfl ?_
    show Steps p.tables e below (s₁.setTop (mkF m 30 #[.val (.long q1), .second, .val (.long q2), .second, .val (.long (q1 / (1000000 : Int64))), .second, .val (.long (q1 - (q1 / (1000000 : Int64)) * (1000000 : Int64))), .second, .unset, .unset] [(.int (lcmpW (q1 - (q1 / (1000000 : Int64)) * (1000000 : Int64)) (0 : Int64)))])) _
    refine XS.ifYes X0.here hx rfl (pc0 := 30) (pc' := 47) rfl (hb hby d15_30) rfl ((if0 _ _).trans (flt (own_lcGe hb30)).2.1) (by decide) (by decide) ?_
    show Steps p.tables e below (s₁.setTop (mkF m 47 #[.val (.long q1), .second, .val (.long q2), .second, .val (.long (q1 / (1000000 : Int64))), .second, .val (.long (q1 - (q1 / (1000000 : Int64)) * (1000000 : Int64))), .second, .unset, .unset] [])) _
    refine XS.lload X0.here hx rfl (hb hby d15_47) rfl ?_
    show Steps p.tables e below (s₁.setTop (mkF m 49 #[.val (.long q1), .second, .val (.long q2), .second, .val (.long (q1 / (1000000 : Int64))), .second, .val (.long (q1 - (q1 / (1000000 : Int64)) * (1000000 : Int64))), .second, .unset, .unset] [(.long (q1 / (1000000 : Int64)))])) _
    refine XS.lloadN X0.here hx rfl (hb hby d15_49) rfl ?_
    show Steps p.tables e below (s₁.setTop (mkF m 50 #[.val (.long q1), .second, .val (.long q2), .second, .val (.long (q1 / (1000000 : Int64))), .second, .val (.long (q1 - (q1 / (1000000 : Int64)) * (1000000 : Int64))), .second, .unset, .unset] [(.long q2), (.long (q1 / (1000000 : Int64)))])) _
    refine XS.lsub X0.here hx rfl (hb hby d15_50) rfl ?_
    show Steps p.tables e below (s₁.setTop (mkF m 51 #[.val (.long q1), .second, .val (.long q2), .second, .val (.long (q1 / (1000000 : Int64))), .second, .val (.long (q1 - (q1 / (1000000 : Int64)) * (1000000 : Int64))), .second, .unset, .unset] [(.long ((q1 / (1000000 : Int64)) - q2))])) _
    refine XS.lstore X0.here hx rfl (hb hby d15_51) rfl (l' := #[.val (.long q1), .second, .val (.long q2), .second, .val (.long (q1 / (1000000 : Int64))), .second, .val (.long (q1 - (q1 / (1000000 : Int64)) * (1000000 : Int64))), .second, .val (.long ((q1 / (1000000 : Int64)) - q2)), .second]) rfl ?_
    show Steps p.tables e below (s₁.setTop (mkF m 53 #[.val (.long q1), .second, .val (.long q2), .second, .val (.long (q1 / (1000000 : Int64))), .second, .val (.long (q1 - (q1 / (1000000 : Int64)) * (1000000 : Int64))), .second, .val (.long ((q1 / (1000000 : Int64)) - q2)), .second] [])) _
    refine XS.lload X0.here hx rfl (hb hby d15_53) rfl ?_
    show Steps p.tables e below (s₁.setTop (mkF m 55 #[.val (.long q1), .second, .val (.long q2), .second, .val (.long (q1 / (1000000 : Int64))), .second, .val (.long (q1 - (q1 / (1000000 : Int64)) * (1000000 : Int64))), .second, .val (.long ((q1 / (1000000 : Int64)) - q2)), .second] [(.long ((q1 / (1000000 : Int64)) - q2))])) _
    refine X0.ldc2Long hx hown (mvT hZ (hw _ (List.mem_of_getElem? (i := 92) rfl))) (g := (mkF m 55 #[.val (.long q1), .second, .val (.long q2), .second, .val (.long (q1 / (1000000 : Int64))), .second, .val (.long (q1 - (q1 / (1000000 : Int64)) * (1000000 : Int64))), .second, .val (.long ((q1 / (1000000 : Int64)) - q2)), .second] [(.long ((q1 / (1000000 : Int64)) - q2))])) rfl (hb hby d15_55) _ ?_
    show Steps p.tables e below (s₁.setTop (mkF m 58 #[.val (.long q1), .second, .val (.long q2), .second, .val (.long (q1 / (1000000 : Int64))), .second, .val (.long (q1 - (q1 / (1000000 : Int64)) * (1000000 : Int64))), .second, .val (.long ((q1 / (1000000 : Int64)) - q2)), .second] [(.long (-9223372036855 : Int64)), (.long ((q1 / (1000000 : Int64)) - q2))])) _
    refine XS.lcmp X0.here hx rfl (hb hby d15_58) rfl ?_
    show Steps p.tables e below (s₁.setTop (mkF m 59 #[.val (.long q1), .second, .val (.long q2), .second, .val (.long (q1 / (1000000 : Int64))), .second, .val (.long (q1 - (q1 / (1000000 : Int64)) * (1000000 : Int64))), .second, .val (.long ((q1 / (1000000 : Int64)) - q2)), .second] [(.int (lcmpW ((q1 / (1000000 : Int64)) - q2) (-9223372036855 : Int64)))])) _
    refine XS.ifNo X0.here hx rfl (hb hby d15_59) rfl ((if0 _ _).trans (flt (own_lcGe hb59)).1) ?_
    show Steps p.tables e below (s₁.setTop (mkF m 62 #[.val (.long q1), .second, .val (.long q2), .second, .val (.long (q1 / (1000000 : Int64))), .second, .val (.long (q1 - (q1 / (1000000 : Int64)) * (1000000 : Int64))), .second, .val (.long ((q1 / (1000000 : Int64)) - q2)), .second] [])) _
    refine XS.lload X0.here hx rfl (hb hby d15_62) rfl ?_
    show Steps p.tables e below (s₁.setTop (mkF m 64 #[.val (.long q1), .second, .val (.long q2), .second, .val (.long (q1 / (1000000 : Int64))), .second, .val (.long (q1 - (q1 / (1000000 : Int64)) * (1000000 : Int64))), .second, .val (.long ((q1 / (1000000 : Int64)) - q2)), .second] [(.long ((q1 / (1000000 : Int64)) - q2))])) _
    refine X0.ldc2Long hx hown (mvT hZ (hw _ (List.mem_of_getElem? (i := 92) rfl))) (g := (mkF m 64 #[.val (.long q1), .second, .val (.long q2), .second, .val (.long (q1 / (1000000 : Int64))), .second, .val (.long (q1 - (q1 / (1000000 : Int64)) * (1000000 : Int64))), .second, .val (.long ((q1 / (1000000 : Int64)) - q2)), .second] [(.long ((q1 / (1000000 : Int64)) - q2))])) rfl (hb hby d15_64) _ ?_
    show Steps p.tables e below (s₁.setTop (mkF m 67 #[.val (.long q1), .second, .val (.long q2), .second, .val (.long (q1 / (1000000 : Int64))), .second, .val (.long (q1 - (q1 / (1000000 : Int64)) * (1000000 : Int64))), .second, .val (.long ((q1 / (1000000 : Int64)) - q2)), .second] [(.long (-9223372036855 : Int64)), (.long ((q1 / (1000000 : Int64)) - q2))])) _
    refine XS.lcmp X0.here hx rfl (hb hby d15_67) rfl ?_
    show Steps p.tables e below (s₁.setTop (mkF m 68 #[.val (.long q1), .second, .val (.long q2), .second, .val (.long (q1 / (1000000 : Int64))), .second, .val (.long (q1 - (q1 / (1000000 : Int64)) * (1000000 : Int64))), .second, .val (.long ((q1 / (1000000 : Int64)) - q2)), .second] [(.int (lcmpW ((q1 / (1000000 : Int64)) - q2) (-9223372036855 : Int64)))])) _
    refine XS.ifNo X0.here hx rfl (hb hby d15_68) rfl ((if0 _ _).trans (teq (own_lcEq hb68)).2) ?_
    show Steps p.tables e below (s₁.setTop (mkF m 71 #[.val (.long q1), .second, .val (.long q2), .second, .val (.long (q1 / (1000000 : Int64))), .second, .val (.long (q1 - (q1 / (1000000 : Int64)) * (1000000 : Int64))), .second, .val (.long ((q1 / (1000000 : Int64)) - q2)), .second] [])) _
    refine XS.lload X0.here hx rfl (hb hby d15_71) rfl ?_
    show Steps p.tables e below (s₁.setTop (mkF m 73 #[.val (.long q1), .second, .val (.long q2), .second, .val (.long (q1 / (1000000 : Int64))), .second, .val (.long (q1 - (q1 / (1000000 : Int64)) * (1000000 : Int64))), .second, .val (.long ((q1 / (1000000 : Int64)) - q2)), .second] [(.long (q1 - (q1 / (1000000 : Int64)) * (1000000 : Int64)))])) _
    refine X0.ldc2Long hx hown (mvT hZ (hw _ (List.mem_of_getElem? (i := 97) rfl))) (g := (mkF m 73 #[.val (.long q1), .second, .val (.long q2), .second, .val (.long (q1 / (1000000 : Int64))), .second, .val (.long (q1 - (q1 / (1000000 : Int64)) * (1000000 : Int64))), .second, .val (.long ((q1 / (1000000 : Int64)) - q2)), .second] [(.long (q1 - (q1 / (1000000 : Int64)) * (1000000 : Int64)))])) rfl (hb hby d15_73) _ ?_
    show Steps p.tables e below (s₁.setTop (mkF m 76 #[.val (.long q1), .second, .val (.long q2), .second, .val (.long (q1 / (1000000 : Int64))), .second, .val (.long (q1 - (q1 / (1000000 : Int64)) * (1000000 : Int64))), .second, .val (.long ((q1 / (1000000 : Int64)) - q2)), .second] [(.long (224192 : Int64)), (.long (q1 - (q1 / (1000000 : Int64)) * (1000000 : Int64)))])) _
    refine XS.lcmp X0.here hx rfl (hb hby d15_76) rfl ?_
    show Steps p.tables e below (s₁.setTop (mkF m 77 #[.val (.long q1), .second, .val (.long q2), .second, .val (.long (q1 / (1000000 : Int64))), .second, .val (.long (q1 - (q1 / (1000000 : Int64)) * (1000000 : Int64))), .second, .val (.long ((q1 / (1000000 : Int64)) - q2)), .second] [(.int (lcmpW (q1 - (q1 / (1000000 : Int64)) * (1000000 : Int64)) (224192 : Int64)))])) _
    refine XS.ifYes X0.here hx rfl (pc0 := 77) (pc' := 84) rfl (hb hby d15_77) rfl ((if0 _ _).trans (tlt (own_lcGt hb77)).2.2.1) (by decide) (by decide) ?_
    show Steps p.tables e below (s₁.setTop (mkF m 84 #[.val (.long q1), .second, .val (.long q2), .second, .val (.long (q1 / (1000000 : Int64))), .second, .val (.long (q1 - (q1 / (1000000 : Int64)) * (1000000 : Int64))), .second, .val (.long ((q1 / (1000000 : Int64)) - q2)), .second] [])) _
    refine XS.lload X0.here hx rfl (hb hby d15_84) rfl ?_
    show Steps p.tables e below (s₁.setTop (mkF m 86 #[.val (.long q1), .second, .val (.long q2), .second, .val (.long (q1 / (1000000 : Int64))), .second, .val (.long (q1 - (q1 / (1000000 : Int64)) * (1000000 : Int64))), .second, .val (.long ((q1 / (1000000 : Int64)) - q2)), .second] [(.long ((q1 / (1000000 : Int64)) - q2))])) _
    refine XS.lconst X0.here hx rfl (hb hby d15_86) ?_
    show Steps p.tables e below (s₁.setTop (mkF m 87 #[.val (.long q1), .second, .val (.long q2), .second, .val (.long (q1 / (1000000 : Int64))), .second, .val (.long (q1 - (q1 / (1000000 : Int64)) * (1000000 : Int64))), .second, .val (.long ((q1 / (1000000 : Int64)) - q2)), .second] [(.long (1 : Int64)), (.long ((q1 / (1000000 : Int64)) - q2))])) _
    refine XS.ladd X0.here hx rfl (hb hby d15_87) rfl ?_
    show Steps p.tables e below (s₁.setTop (mkF m 88 #[.val (.long q1), .second, .val (.long q2), .second, .val (.long (q1 / (1000000 : Int64))), .second, .val (.long (q1 - (q1 / (1000000 : Int64)) * (1000000 : Int64))), .second, .val (.long ((q1 / (1000000 : Int64)) - q2)), .second] [(.long (((q1 / (1000000 : Int64)) - q2) + (1 : Int64)))])) _
    refine X0.ldc2Long hx hown (mvT hZ (hw _ (List.mem_of_getElem? (i := 91) rfl))) (g := (mkF m 88 #[.val (.long q1), .second, .val (.long q2), .second, .val (.long (q1 / (1000000 : Int64))), .second, .val (.long (q1 - (q1 / (1000000 : Int64)) * (1000000 : Int64))), .second, .val (.long ((q1 / (1000000 : Int64)) - q2)), .second] [(.long (((q1 / (1000000 : Int64)) - q2) + (1 : Int64)))])) rfl (hb hby d15_88) _ ?_
    show Steps p.tables e below (s₁.setTop (mkF m 91 #[.val (.long q1), .second, .val (.long q2), .second, .val (.long (q1 / (1000000 : Int64))), .second, .val (.long (q1 - (q1 / (1000000 : Int64)) * (1000000 : Int64))), .second, .val (.long ((q1 / (1000000 : Int64)) - q2)), .second] [(.long (1000000 : Int64)), (.long (((q1 / (1000000 : Int64)) - q2) + (1 : Int64)))])) _
    refine XS.lmul X0.here hx rfl (hb hby d15_91) rfl ?_
    show Steps p.tables e below (s₁.setTop (mkF m 92 #[.val (.long q1), .second, .val (.long q2), .second, .val (.long (q1 / (1000000 : Int64))), .second, .val (.long (q1 - (q1 / (1000000 : Int64)) * (1000000 : Int64))), .second, .val (.long ((q1 / (1000000 : Int64)) - q2)), .second] [(.long ((((q1 / (1000000 : Int64)) - q2) + (1 : Int64)) * (1000000 : Int64)))])) _
    refine XS.lload X0.here hx rfl (hb hby d15_92) rfl ?_
    show Steps p.tables e below (s₁.setTop (mkF m 94 #[.val (.long q1), .second, .val (.long q2), .second, .val (.long (q1 / (1000000 : Int64))), .second, .val (.long (q1 - (q1 / (1000000 : Int64)) * (1000000 : Int64))), .second, .val (.long ((q1 / (1000000 : Int64)) - q2)), .second] [(.long (q1 - (q1 / (1000000 : Int64)) * (1000000 : Int64))), (.long ((((q1 / (1000000 : Int64)) - q2) + (1 : Int64)) * (1000000 : Int64)))])) _
    refine X0.ldc2Long hx hown (mvT hZ (hw _ (List.mem_of_getElem? (i := 91) rfl))) (g := (mkF m 94 #[.val (.long q1), .second, .val (.long q2), .second, .val (.long (q1 / (1000000 : Int64))), .second, .val (.long (q1 - (q1 / (1000000 : Int64)) * (1000000 : Int64))), .second, .val (.long ((q1 / (1000000 : Int64)) - q2)), .second] [(.long (q1 - (q1 / (1000000 : Int64)) * (1000000 : Int64))), (.long ((((q1 / (1000000 : Int64)) - q2) + (1 : Int64)) * (1000000 : Int64)))])) rfl (hb hby d15_94) _ ?_
    show Steps p.tables e below (s₁.setTop (mkF m 97 #[.val (.long q1), .second, .val (.long q2), .second, .val (.long (q1 / (1000000 : Int64))), .second, .val (.long (q1 - (q1 / (1000000 : Int64)) * (1000000 : Int64))), .second, .val (.long ((q1 / (1000000 : Int64)) - q2)), .second] [(.long (1000000 : Int64)), (.long (q1 - (q1 / (1000000 : Int64)) * (1000000 : Int64))), (.long ((((q1 / (1000000 : Int64)) - q2) + (1 : Int64)) * (1000000 : Int64)))])) _
    refine XS.lsub X0.here hx rfl (hb hby d15_97) rfl ?_
    show Steps p.tables e below (s₁.setTop (mkF m 98 #[.val (.long q1), .second, .val (.long q2), .second, .val (.long (q1 / (1000000 : Int64))), .second, .val (.long (q1 - (q1 / (1000000 : Int64)) * (1000000 : Int64))), .second, .val (.long ((q1 / (1000000 : Int64)) - q2)), .second] [(.long ((q1 - (q1 / (1000000 : Int64)) * (1000000 : Int64)) - (1000000 : Int64))), (.long ((((q1 / (1000000 : Int64)) - q2) + (1 : Int64)) * (1000000 : Int64)))])) _
    refine XS.ladd X0.here hx rfl (hb hby d15_98) rfl ?_
    show Steps p.tables e below (s₁.setTop (mkF m 99 #[.val (.long q1), .second, .val (.long q2), .second, .val (.long (q1 / (1000000 : Int64))), .second, .val (.long (q1 - (q1 / (1000000 : Int64)) * (1000000 : Int64))), .second, .val (.long ((q1 / (1000000 : Int64)) - q2)), .second] [(.long (((((q1 / (1000000 : Int64)) - q2) + (1 : Int64)) * (1000000 : Int64)) + ((q1 - (q1 / (1000000 : Int64)) * (1000000 : Int64)) - (1000000 : Int64))))])) _
    exact own_retL X0 hx Bd.returns (hb hby d15_99) hr
  · show QJ (own_old q1 q2) h0 n0 _ s₁.heap _
    rw [e0]
    exact ⟨by rw [own_r3 (own_qP hb30) h1 hb5 hb59 hb68 hb77], N0, rfl⟩
set_option maxRecDepth 65536 in
set_option maxHeartbeats 40000000 in
theorem rmFP4 (l : Launch) (Z : State) (a0 : Array Value) (hw : ∀ d ∈ tables_1, d.before a0 Z = true) (ws : List Jvm.Cond) (q1 : Int64) (q2 : Int64) (h0 : Heap) (n0 : Nat) (Z0 : n0 ≤ h0.size) (h1 : ¬ q2 < (1 : Int64)) (hb5 : q2 < (9223372036855 : Int64)) (hb30 : ¬ (q1 - (q1 / (1000000 : Int64)) * (1000000 : Int64)) < (0 : Int64)) (hb59 : ¬ ((q1 / (1000000 : Int64)) - q2) < (-9223372036855 : Int64)) (hb68 : ((q1 / (1000000 : Int64)) - q2) = (-9223372036855 : Int64)) (hb77 : ¬ (224192 : Int64) < (q1 - (q1 / (1000000 : Int64)) * (1000000 : Int64))) :
    MetFree l (⟨"com/example/sorted_map_store/sortedmapstore/ColumnFamilyOldestKeptPinLaw", "reference", "(JJ)J"⟩ : MethodName) (head1 (Jvm.Cond.code (⟨"com/example/sorted_map_store/sortedmapstore/ColumnFamilyOldestKeptPinLaw", "reference", "(JJ)J"⟩ : MethodName) method_2_code 10 (some .long) :: ws) ({ frames := 0, cells := 0, slots := 0, locals := 0 } : Room)) (fun a U => a = #[(.long q1), (.long q2)] ∧ Z.Warmed39 U.vm ∧ U.heap = h0) (fun _ _ _ _ _ => True) (fun _ U o U' => ∃ v L, o = .returned v ∧ QJ (own_old q1 q2) h0 n0 v U'.heap L ∧ FrameEnd U o U' L ({ frames := 0, cells := 0, slots := 0, locals := 0 } : Room).cells ({ frames := 0, cells := 0, slots := 0, locals := 0 } : Room).slots) := by
  refine MetFree.of_bodySF (plainFor_of_name own_pn7) hisR ?_
  intro p e s m args below meth c s₁ Bd hml0 hP hK
  obtain ⟨rfl, hZ, hh⟩ := hP
  have hx := Bd.exec
  have hby := Bd.bytes
  have hml : c.maxLocals = 10 := hml0
  have hown : s.vm.findClass "com/example/sorted_map_store/sortedmapstore/ColumnFamilyOldestKeptPinLaw" = some m.cls := findClass_of_methodNamed Bd.named
  have hnm := (name_of_methodNamed Bd.named Bd.method).1
  have X0 : Stand p l e ({ frames := 0, cells := 0, slots := 0, locals := 0 } : Room) s m #[(.long q1), (.long q2)] below meth c s₁ [] 0 0 := Stand.of_body Bd
  have e0 : s₁.heap = h0 := by rw [← hh, Bd.state]; rfl
  have N0 := Fr.nil n0
  have ef : entryFrame m #[(.long q1), (.long q2)] 10 = mkF m 0 #[.val (.long q1), .second, .val (.long q2), .second, .unset, .unset, .unset, .unset, .unset, .unset] [] := by first | (simp [entryFrame, mkF, argsToLocals, Value.category]; done) | rfl
  have pre0 : ∀ t, Steps p.tables e below (s₁.setTop (mkF m 0 #[.val (.long q1), .second, .val (.long q2), .second, .unset, .unset, .unset, .unset, .unset, .unset] [])) t → Steps p.tables e below (s₁.setTop (entryFrame m #[(.long q1), (.long q2)] 10)) t := fun t k => castTop ef k
  obtain ⟨fs, hr, hrun, hended, hW, hsame⟩ := X0.leave (v := some (.long (-9223372036854775808 : Int64))) (fun h => by rw [Bd.returns] at h; cases h) (hlocks := Bd.notSynchronized)
  refine ⟨_, _, pre0 _ ?_, hrun, hended, _, _, rfl, ?_, ⟨_, rfl⟩, hW, hsame.mono (by decide) (by decide)⟩
  · show Steps p.tables e below (s₁.setTop (mkF m 0 #[.val (.long q1), .second, .val (.long q2), .second, .unset, .unset, .unset, .unset, .unset, .unset] [])) _
    refine XS.lloadN X0.here hx rfl (hb hby d15_0) rfl ?_
    show Steps p.tables e below (s₁.setTop (mkF m 1 #[.val (.long q1), .second, .val (.long q2), .second, .unset, .unset, .unset, .unset, .unset, .unset] [(.long q2)])) _
    refine X0.ldc2Long hx hown (mvT hZ (hw _ (List.mem_of_getElem? (i := 90) rfl))) (g := (mkF m 1 #[.val (.long q1), .second, .val (.long q2), .second, .unset, .unset, .unset, .unset, .unset, .unset] [(.long q2)])) rfl (hb hby d15_1) _ ?_
    show Steps p.tables e below (s₁.setTop (mkF m 4 #[.val (.long q1), .second, .val (.long q2), .second, .unset, .unset, .unset, .unset, .unset, .unset] [(.long (9223372036855 : Int64)), (.long q2)])) _
    refine XS.lcmp X0.here hx rfl (hb hby d15_4) rfl ?_
    show Steps p.tables e below (s₁.setTop (mkF m 5 #[.val (.long q1), .second, .val (.long q2), .second, .unset, .unset, .unset, .unset, .unset, .unset] [(.int (lcmpW q2 (9223372036855 : Int64)))])) _
    refine XS.ifYes X0.here hx rfl (pc0 := 5) (pc' := 12) rfl (hb hby d15_5) rfl ((if0 _ _).trans (tlt (own_lcLt hb5)).1) (by decide) (by decide) ?_
    show Steps p.tables e below (s₁.setTop (mkF m 12 #[.val (.long q1), .second, .val (.long q2), .second, .unset, .unset, .unset, .unset, .unset, .unset] [])) _
    refine XS.lloadN X0.here hx rfl (hb hby d15_12) rfl ?_
    show Steps p.tables e below (s₁.setTop (mkF m 13 #[.val (.long q1), .second, .val (.long q2), .second, .unset, .unset, .unset, .unset, .unset, .unset] [(.long q1)])) _
    refine X0.ldc2Long hx hown (mvT hZ (hw _ (List.mem_of_getElem? (i := 91) rfl))) (g := (mkF m 13 #[.val (.long q1), .second, .val (.long q2), .second, .unset, .unset, .unset, .unset, .unset, .unset] [(.long q1)])) rfl (hb hby d15_13) _ ?_
    show Steps p.tables e below (s₁.setTop (mkF m 16 #[.val (.long q1), .second, .val (.long q2), .second, .unset, .unset, .unset, .unset, .unset, .unset] [(.long (1000000 : Int64)), (.long q1)])) _
    refine XS.ldiv X0.here hx rfl (hb hby d15_16) rfl (by decide) ?_
    show Steps p.tables e below (s₁.setTop (mkF m 17 #[.val (.long q1), .second, .val (.long q2), .second, .unset, .unset, .unset, .unset, .unset, .unset] [(.long (q1 / (1000000 : Int64)))])) _
    refine XS.lstore X0.here hx rfl (hb hby d15_17) rfl (l' := #[.val (.long q1), .second, .val (.long q2), .second, .val (.long (q1 / (1000000 : Int64))), .second, .unset, .unset, .unset, .unset]) rfl ?_
    show Steps p.tables e below (s₁.setTop (mkF m 19 #[.val (.long q1), .second, .val (.long q2), .second, .val (.long (q1 / (1000000 : Int64))), .second, .unset, .unset, .unset, .unset] [])) _
    refine XS.lloadN X0.here hx rfl (hb hby d15_19) rfl ?_
    show Steps p.tables e below (s₁.setTop (mkF m 20 #[.val (.long q1), .second, .val (.long q2), .second, .val (.long (q1 / (1000000 : Int64))), .second, .unset, .unset, .unset, .unset] [(.long q1)])) _
    refine X0.ldc2Long hx hown (mvT hZ (hw _ (List.mem_of_getElem? (i := 91) rfl))) (g := (mkF m 20 #[.val (.long q1), .second, .val (.long q2), .second, .val (.long (q1 / (1000000 : Int64))), .second, .unset, .unset, .unset, .unset] [(.long q1)])) rfl (hb hby d15_20) _ ?_
    show Steps p.tables e below (s₁.setTop (mkF m 23 #[.val (.long q1), .second, .val (.long q2), .second, .val (.long (q1 / (1000000 : Int64))), .second, .unset, .unset, .unset, .unset] [(.long (1000000 : Int64)), (.long q1)])) _
    refine XS.lrem X0.here hx rfl (hb hby d15_23) rfl (by decide) ?_
    show Steps p.tables e below (s₁.setTop (mkF m 24 #[.val (.long q1), .second, .val (.long q2), .second, .val (.long (q1 / (1000000 : Int64))), .second, .unset, .unset, .unset, .unset] [(.long (q1 - (q1 / (1000000 : Int64)) * (1000000 : Int64)))])) _
    refine XS.lstore X0.here hx rfl (hb hby d15_24) rfl (l' := #[.val (.long q1), .second, .val (.long q2), .second, .val (.long (q1 / (1000000 : Int64))), .second, .val (.long (q1 - (q1 / (1000000 : Int64)) * (1000000 : Int64))), .second, .unset, .unset]) rfl ?_
    show Steps p.tables e below (s₁.setTop (mkF m 26 #[.val (.long q1), .second, .val (.long q2), .second, .val (.long (q1 / (1000000 : Int64))), .second, .val (.long (q1 - (q1 / (1000000 : Int64)) * (1000000 : Int64))), .second, .unset, .unset] [])) _
    refine XS.lload X0.here hx rfl (hb hby d15_26) rfl ?_
    show Steps p.tables e below (s₁.setTop (mkF m 28 #[.val (.long q1), .second, .val (.long q2), .second, .val (.long (q1 / (1000000 : Int64))), .second, .val (.long (q1 - (q1 / (1000000 : Int64)) * (1000000 : Int64))), .second, .unset, .unset] [(.long (q1 - (q1 / (1000000 : Int64)) * (1000000 : Int64)))])) _
    refine XS.lconst X0.here hx rfl (hb hby d15_28) ?_
    show Steps p.tables e below (s₁.setTop (mkF m 29 #[.val (.long q1), .second, .val (.long q2), .second, .val (.long (q1 / (1000000 : Int64))), .second, .val (.long (q1 - (q1 / (1000000 : Int64)) * (1000000 : Int64))), .second, .unset, .unset] [(.long (0 : Int64)), (.long (q1 - (q1 / (1000000 : Int64)) * (1000000 : Int64)))])) _
    refine XS.lcmp X0.here hx rfl (hb hby d15_29) rfl ?_
    show Steps p.tables e below (s₁.setTop (mkF m 30 #[.val (.long q1), .second, .val (.long q2), .second, .val (.long (q1 / (1000000 : Int64))), .second, .val (.long (q1 - (q1 / (1000000 : Int64)) * (1000000 : Int64))), .second, .unset, .unset] [(.int (lcmpW (q1 - (q1 / (1000000 : Int64)) * (1000000 : Int64)) (0 : Int64)))])) _
    refine XS.ifYes X0.here hx rfl (pc0 := 30) (pc' := 47) rfl (hb hby d15_30) rfl ((if0 _ _).trans (flt (own_lcGe hb30)).2.1) (by decide) (by decide) ?_
    show Steps p.tables e below (s₁.setTop (mkF m 47 #[.val (.long q1), .second, .val (.long q2), .second, .val (.long (q1 / (1000000 : Int64))), .second, .val (.long (q1 - (q1 / (1000000 : Int64)) * (1000000 : Int64))), .second, .unset, .unset] [])) _
    refine XS.lload X0.here hx rfl (hb hby d15_47) rfl ?_
    show Steps p.tables e below (s₁.setTop (mkF m 49 #[.val (.long q1), .second, .val (.long q2), .second, .val (.long (q1 / (1000000 : Int64))), .second, .val (.long (q1 - (q1 / (1000000 : Int64)) * (1000000 : Int64))), .second, .unset, .unset] [(.long (q1 / (1000000 : Int64)))])) _
    refine XS.lloadN X0.here hx rfl (hb hby d15_49) rfl ?_
    show Steps p.tables e below (s₁.setTop (mkF m 50 #[.val (.long q1), .second, .val (.long q2), .second, .val (.long (q1 / (1000000 : Int64))), .second, .val (.long (q1 - (q1 / (1000000 : Int64)) * (1000000 : Int64))), .second, .unset, .unset] [(.long q2), (.long (q1 / (1000000 : Int64)))])) _
    refine XS.lsub X0.here hx rfl (hb hby d15_50) rfl ?_
    show Steps p.tables e below (s₁.setTop (mkF m 51 #[.val (.long q1), .second, .val (.long q2), .second, .val (.long (q1 / (1000000 : Int64))), .second, .val (.long (q1 - (q1 / (1000000 : Int64)) * (1000000 : Int64))), .second, .unset, .unset] [(.long ((q1 / (1000000 : Int64)) - q2))])) _
    refine XS.lstore X0.here hx rfl (hb hby d15_51) rfl (l' := #[.val (.long q1), .second, .val (.long q2), .second, .val (.long (q1 / (1000000 : Int64))), .second, .val (.long (q1 - (q1 / (1000000 : Int64)) * (1000000 : Int64))), .second, .val (.long ((q1 / (1000000 : Int64)) - q2)), .second]) rfl ?_
    show Steps p.tables e below (s₁.setTop (mkF m 53 #[.val (.long q1), .second, .val (.long q2), .second, .val (.long (q1 / (1000000 : Int64))), .second, .val (.long (q1 - (q1 / (1000000 : Int64)) * (1000000 : Int64))), .second, .val (.long ((q1 / (1000000 : Int64)) - q2)), .second] [])) _
    refine XS.lload X0.here hx rfl (hb hby d15_53) rfl ?_
    show Steps p.tables e below (s₁.setTop (mkF m 55 #[.val (.long q1), .second, .val (.long q2), .second, .val (.long (q1 / (1000000 : Int64))), .second, .val (.long (q1 - (q1 / (1000000 : Int64)) * (1000000 : Int64))), .second, .val (.long ((q1 / (1000000 : Int64)) - q2)), .second] [(.long ((q1 / (1000000 : Int64)) - q2))])) _
    refine X0.ldc2Long hx hown (mvT hZ (hw _ (List.mem_of_getElem? (i := 92) rfl))) (g := (mkF m 55 #[.val (.long q1), .second, .val (.long q2), .second, .val (.long (q1 / (1000000 : Int64))), .second, .val (.long (q1 - (q1 / (1000000 : Int64)) * (1000000 : Int64))), .second, .val (.long ((q1 / (1000000 : Int64)) - q2)), .second] [(.long ((q1 / (1000000 : Int64)) - q2))])) rfl (hb hby d15_55) _ ?_
    show Steps p.tables e below (s₁.setTop (mkF m 58 #[.val (.long q1), .second, .val (.long q2), .second, .val (.long (q1 / (1000000 : Int64))), .second, .val (.long (q1 - (q1 / (1000000 : Int64)) * (1000000 : Int64))), .second, .val (.long ((q1 / (1000000 : Int64)) - q2)), .second] [(.long (-9223372036855 : Int64)), (.long ((q1 / (1000000 : Int64)) - q2))])) _
    refine XS.lcmp X0.here hx rfl (hb hby d15_58) rfl ?_
    show Steps p.tables e below (s₁.setTop (mkF m 59 #[.val (.long q1), .second, .val (.long q2), .second, .val (.long (q1 / (1000000 : Int64))), .second, .val (.long (q1 - (q1 / (1000000 : Int64)) * (1000000 : Int64))), .second, .val (.long ((q1 / (1000000 : Int64)) - q2)), .second] [(.int (lcmpW ((q1 / (1000000 : Int64)) - q2) (-9223372036855 : Int64)))])) _
    refine XS.ifNo X0.here hx rfl (hb hby d15_59) rfl ((if0 _ _).trans (flt (own_lcGe hb59)).1) ?_
    show Steps p.tables e below (s₁.setTop (mkF m 62 #[.val (.long q1), .second, .val (.long q2), .second, .val (.long (q1 / (1000000 : Int64))), .second, .val (.long (q1 - (q1 / (1000000 : Int64)) * (1000000 : Int64))), .second, .val (.long ((q1 / (1000000 : Int64)) - q2)), .second] [])) _
    refine XS.lload X0.here hx rfl (hb hby d15_62) rfl ?_
    show Steps p.tables e below (s₁.setTop (mkF m 64 #[.val (.long q1), .second, .val (.long q2), .second, .val (.long (q1 / (1000000 : Int64))), .second, .val (.long (q1 - (q1 / (1000000 : Int64)) * (1000000 : Int64))), .second, .val (.long ((q1 / (1000000 : Int64)) - q2)), .second] [(.long ((q1 / (1000000 : Int64)) - q2))])) _
    refine X0.ldc2Long hx hown (mvT hZ (hw _ (List.mem_of_getElem? (i := 92) rfl))) (g := (mkF m 64 #[.val (.long q1), .second, .val (.long q2), .second, .val (.long (q1 / (1000000 : Int64))), .second, .val (.long (q1 - (q1 / (1000000 : Int64)) * (1000000 : Int64))), .second, .val (.long ((q1 / (1000000 : Int64)) - q2)), .second] [(.long ((q1 / (1000000 : Int64)) - q2))])) rfl (hb hby d15_64) _ ?_
    show Steps p.tables e below (s₁.setTop (mkF m 67 #[.val (.long q1), .second, .val (.long q2), .second, .val (.long (q1 / (1000000 : Int64))), .second, .val (.long (q1 - (q1 / (1000000 : Int64)) * (1000000 : Int64))), .second, .val (.long ((q1 / (1000000 : Int64)) - q2)), .second] [(.long (-9223372036855 : Int64)), (.long ((q1 / (1000000 : Int64)) - q2))])) _
    refine XS.lcmp X0.here hx rfl (hb hby d15_67) rfl ?_
    show Steps p.tables e below (s₁.setTop (mkF m 68 #[.val (.long q1), .second, .val (.long q2), .second, .val (.long (q1 / (1000000 : Int64))), .second, .val (.long (q1 - (q1 / (1000000 : Int64)) * (1000000 : Int64))), .second, .val (.long ((q1 / (1000000 : Int64)) - q2)), .second] [(.int (lcmpW ((q1 / (1000000 : Int64)) - q2) (-9223372036855 : Int64)))])) _
    refine XS.ifNo X0.here hx rfl (hb hby d15_68) rfl ((if0 _ _).trans (teq (own_lcEq hb68)).2) ?_
    show Steps p.tables e below (s₁.setTop (mkF m 71 #[.val (.long q1), .second, .val (.long q2), .second, .val (.long (q1 / (1000000 : Int64))), .second, .val (.long (q1 - (q1 / (1000000 : Int64)) * (1000000 : Int64))), .second, .val (.long ((q1 / (1000000 : Int64)) - q2)), .second] [])) _
    refine XS.lload X0.here hx rfl (hb hby d15_71) rfl ?_
    show Steps p.tables e below (s₁.setTop (mkF m 73 #[.val (.long q1), .second, .val (.long q2), .second, .val (.long (q1 / (1000000 : Int64))), .second, .val (.long (q1 - (q1 / (1000000 : Int64)) * (1000000 : Int64))), .second, .val (.long ((q1 / (1000000 : Int64)) - q2)), .second] [(.long (q1 - (q1 / (1000000 : Int64)) * (1000000 : Int64)))])) _
    refine X0.ldc2Long hx hown (mvT hZ (hw _ (List.mem_of_getElem? (i := 97) rfl))) (g := (mkF m 73 #[.val (.long q1), .second, .val (.long q2), .second, .val (.long (q1 / (1000000 : Int64))), .second, .val (.long (q1 - (q1 / (1000000 : Int64)) * (1000000 : Int64))), .second, .val (.long ((q1 / (1000000 : Int64)) - q2)), .second] [(.long (q1 - (q1 / (1000000 : Int64)) * (1000000 : Int64)))])) rfl (hb hby d15_73) _ ?_
    show Steps p.tables e below (s₁.setTop (mkF m 76 #[.val (.long q1), .second, .val (.long q2), .second, .val (.long (q1 / (1000000 : Int64))), .second, .val (.long (q1 - (q1 / (1000000 : Int64)) * (1000000 : Int64))), .second, .val (.long ((q1 / (1000000 : Int64)) - q2)), .second] [(.long (224192 : Int64)), (.long (q1 - (q1 / (1000000 : Int64)) * (1000000 : Int64)))])) _
    refine XS.lcmp X0.here hx rfl (hb hby d15_76) rfl ?_
    show Steps p.tables e below (s₁.setTop (mkF m 77 #[.val (.long q1), .second, .val (.long q2), .second, .val (.long (q1 / (1000000 : Int64))), .second, .val (.long (q1 - (q1 / (1000000 : Int64)) * (1000000 : Int64))), .second, .val (.long ((q1 / (1000000 : Int64)) - q2)), .second] [(.int (lcmpW (q1 - (q1 / (1000000 : Int64)) * (1000000 : Int64)) (224192 : Int64)))])) _
    refine XS.ifNo X0.here hx rfl (hb hby d15_77) rfl ((if0 _ _).trans (flt (own_lcLe hb77)).2.2.1) ?_
    show Steps p.tables e below (s₁.setTop (mkF m 80 #[.val (.long q1), .second, .val (.long q2), .second, .val (.long (q1 / (1000000 : Int64))), .second, .val (.long (q1 - (q1 / (1000000 : Int64)) * (1000000 : Int64))), .second, .val (.long ((q1 / (1000000 : Int64)) - q2)), .second] [])) _
    refine X0.ldc2Long hx hown (mvT hZ (hw _ (List.mem_of_getElem? (i := 93) rfl))) (g := (mkF m 80 #[.val (.long q1), .second, .val (.long q2), .second, .val (.long (q1 / (1000000 : Int64))), .second, .val (.long (q1 - (q1 / (1000000 : Int64)) * (1000000 : Int64))), .second, .val (.long ((q1 / (1000000 : Int64)) - q2)), .second] [])) rfl (hb hby d15_80) _ ?_
    show Steps p.tables e below (s₁.setTop (mkF m 83 #[.val (.long q1), .second, .val (.long q2), .second, .val (.long (q1 / (1000000 : Int64))), .second, .val (.long (q1 - (q1 / (1000000 : Int64)) * (1000000 : Int64))), .second, .val (.long ((q1 / (1000000 : Int64)) - q2)), .second] [(.long (-9223372036854775808 : Int64))])) _
    exact own_retL X0 hx Bd.returns (hb hby d15_83) hr
  · show QJ (own_old q1 q2) h0 n0 _ s₁.heap _
    rw [e0]
    exact ⟨by rw [own_r4 (own_qP hb30) h1 hb5 hb59 hb68 hb77], N0, rfl⟩
set_option maxRecDepth 65536 in
set_option maxHeartbeats 40000000 in
theorem rmFM1 (l : Launch) (Z : State) (a0 : Array Value) (hw : ∀ d ∈ tables_1, d.before a0 Z = true) (ws : List Jvm.Cond) (q1 : Int64) (q2 : Int64) (h0 : Heap) (n0 : Nat) (Z0 : n0 ≤ h0.size) (h1 : ¬ q2 < (1 : Int64)) (hb5 : q2 < (9223372036855 : Int64)) (hb30 : (q1 - (q1 / (1000000 : Int64)) * (1000000 : Int64)) < (0 : Int64)) (hb59 : (((q1 / (1000000 : Int64)) - (1 : Int64)) - q2) < (-9223372036855 : Int64)) :
    MetFree l (⟨"com/example/sorted_map_store/sortedmapstore/ColumnFamilyOldestKeptPinLaw", "reference", "(JJ)J"⟩ : MethodName) (head1 (Jvm.Cond.code (⟨"com/example/sorted_map_store/sortedmapstore/ColumnFamilyOldestKeptPinLaw", "reference", "(JJ)J"⟩ : MethodName) method_2_code 10 (some .long) :: ws) ({ frames := 0, cells := 0, slots := 0, locals := 0 } : Room)) (fun a U => a = #[(.long q1), (.long q2)] ∧ Z.Warmed39 U.vm ∧ U.heap = h0) (fun _ _ _ _ _ => True) (fun _ U o U' => ∃ v L, o = .returned v ∧ QJ (own_old q1 q2) h0 n0 v U'.heap L ∧ FrameEnd U o U' L ({ frames := 0, cells := 0, slots := 0, locals := 0 } : Room).cells ({ frames := 0, cells := 0, slots := 0, locals := 0 } : Room).slots) := by
  refine MetFree.of_bodySF (plainFor_of_name own_pn7) hisR ?_
  intro p e s m args below meth c s₁ Bd hml0 hP hK
  obtain ⟨rfl, hZ, hh⟩ := hP
  have hx := Bd.exec
  have hby := Bd.bytes
  have hml : c.maxLocals = 10 := hml0
  have hown : s.vm.findClass "com/example/sorted_map_store/sortedmapstore/ColumnFamilyOldestKeptPinLaw" = some m.cls := findClass_of_methodNamed Bd.named
  have hnm := (name_of_methodNamed Bd.named Bd.method).1
  have X0 : Stand p l e ({ frames := 0, cells := 0, slots := 0, locals := 0 } : Room) s m #[(.long q1), (.long q2)] below meth c s₁ [] 0 0 := Stand.of_body Bd
  have e0 : s₁.heap = h0 := by rw [← hh, Bd.state]; rfl
  have N0 := Fr.nil n0
  have ef : entryFrame m #[(.long q1), (.long q2)] 10 = mkF m 0 #[.val (.long q1), .second, .val (.long q2), .second, .unset, .unset, .unset, .unset, .unset, .unset] [] := by first | (simp [entryFrame, mkF, argsToLocals, Value.category]; done) | rfl
  have pre0 : ∀ t, Steps p.tables e below (s₁.setTop (mkF m 0 #[.val (.long q1), .second, .val (.long q2), .second, .unset, .unset, .unset, .unset, .unset, .unset] [])) t → Steps p.tables e below (s₁.setTop (entryFrame m #[(.long q1), (.long q2)] 10)) t := fun t k => castTop ef k
  obtain ⟨fs, hr, hrun, hended, hW, hsame⟩ := X0.leave (v := some (.long (-9223372036854775808 : Int64))) (fun h => by rw [Bd.returns] at h; cases h) (hlocks := Bd.notSynchronized)
  refine ⟨_, _, pre0 _ ?_, hrun, hended, _, _, rfl, ?_, ⟨_, rfl⟩, hW, hsame.mono (by decide) (by decide)⟩
  · show Steps p.tables e below (s₁.setTop (mkF m 0 #[.val (.long q1), .second, .val (.long q2), .second, .unset, .unset, .unset, .unset, .unset, .unset] [])) _
    refine XS.lloadN X0.here hx rfl (hb hby d15_0) rfl ?_
    show Steps p.tables e below (s₁.setTop (mkF m 1 #[.val (.long q1), .second, .val (.long q2), .second, .unset, .unset, .unset, .unset, .unset, .unset] [(.long q2)])) _
    refine X0.ldc2Long hx hown (mvT hZ (hw _ (List.mem_of_getElem? (i := 90) rfl))) (g := (mkF m 1 #[.val (.long q1), .second, .val (.long q2), .second, .unset, .unset, .unset, .unset, .unset, .unset] [(.long q2)])) rfl (hb hby d15_1) _ ?_
    show Steps p.tables e below (s₁.setTop (mkF m 4 #[.val (.long q1), .second, .val (.long q2), .second, .unset, .unset, .unset, .unset, .unset, .unset] [(.long (9223372036855 : Int64)), (.long q2)])) _
    refine XS.lcmp X0.here hx rfl (hb hby d15_4) rfl ?_
    show Steps p.tables e below (s₁.setTop (mkF m 5 #[.val (.long q1), .second, .val (.long q2), .second, .unset, .unset, .unset, .unset, .unset, .unset] [(.int (lcmpW q2 (9223372036855 : Int64)))])) _
    refine XS.ifYes X0.here hx rfl (pc0 := 5) (pc' := 12) rfl (hb hby d15_5) rfl ((if0 _ _).trans (tlt (own_lcLt hb5)).1) (by decide) (by decide) ?_
    show Steps p.tables e below (s₁.setTop (mkF m 12 #[.val (.long q1), .second, .val (.long q2), .second, .unset, .unset, .unset, .unset, .unset, .unset] [])) _
    refine XS.lloadN X0.here hx rfl (hb hby d15_12) rfl ?_
    show Steps p.tables e below (s₁.setTop (mkF m 13 #[.val (.long q1), .second, .val (.long q2), .second, .unset, .unset, .unset, .unset, .unset, .unset] [(.long q1)])) _
    refine X0.ldc2Long hx hown (mvT hZ (hw _ (List.mem_of_getElem? (i := 91) rfl))) (g := (mkF m 13 #[.val (.long q1), .second, .val (.long q2), .second, .unset, .unset, .unset, .unset, .unset, .unset] [(.long q1)])) rfl (hb hby d15_13) _ ?_
    show Steps p.tables e below (s₁.setTop (mkF m 16 #[.val (.long q1), .second, .val (.long q2), .second, .unset, .unset, .unset, .unset, .unset, .unset] [(.long (1000000 : Int64)), (.long q1)])) _
    refine XS.ldiv X0.here hx rfl (hb hby d15_16) rfl (by decide) ?_
    show Steps p.tables e below (s₁.setTop (mkF m 17 #[.val (.long q1), .second, .val (.long q2), .second, .unset, .unset, .unset, .unset, .unset, .unset] [(.long (q1 / (1000000 : Int64)))])) _
    refine XS.lstore X0.here hx rfl (hb hby d15_17) rfl (l' := #[.val (.long q1), .second, .val (.long q2), .second, .val (.long (q1 / (1000000 : Int64))), .second, .unset, .unset, .unset, .unset]) rfl ?_
    show Steps p.tables e below (s₁.setTop (mkF m 19 #[.val (.long q1), .second, .val (.long q2), .second, .val (.long (q1 / (1000000 : Int64))), .second, .unset, .unset, .unset, .unset] [])) _
    refine XS.lloadN X0.here hx rfl (hb hby d15_19) rfl ?_
    show Steps p.tables e below (s₁.setTop (mkF m 20 #[.val (.long q1), .second, .val (.long q2), .second, .val (.long (q1 / (1000000 : Int64))), .second, .unset, .unset, .unset, .unset] [(.long q1)])) _
    refine X0.ldc2Long hx hown (mvT hZ (hw _ (List.mem_of_getElem? (i := 91) rfl))) (g := (mkF m 20 #[.val (.long q1), .second, .val (.long q2), .second, .val (.long (q1 / (1000000 : Int64))), .second, .unset, .unset, .unset, .unset] [(.long q1)])) rfl (hb hby d15_20) _ ?_
    show Steps p.tables e below (s₁.setTop (mkF m 23 #[.val (.long q1), .second, .val (.long q2), .second, .val (.long (q1 / (1000000 : Int64))), .second, .unset, .unset, .unset, .unset] [(.long (1000000 : Int64)), (.long q1)])) _
    refine XS.lrem X0.here hx rfl (hb hby d15_23) rfl (by decide) ?_
    show Steps p.tables e below (s₁.setTop (mkF m 24 #[.val (.long q1), .second, .val (.long q2), .second, .val (.long (q1 / (1000000 : Int64))), .second, .unset, .unset, .unset, .unset] [(.long (q1 - (q1 / (1000000 : Int64)) * (1000000 : Int64)))])) _
    refine XS.lstore X0.here hx rfl (hb hby d15_24) rfl (l' := #[.val (.long q1), .second, .val (.long q2), .second, .val (.long (q1 / (1000000 : Int64))), .second, .val (.long (q1 - (q1 / (1000000 : Int64)) * (1000000 : Int64))), .second, .unset, .unset]) rfl ?_
    show Steps p.tables e below (s₁.setTop (mkF m 26 #[.val (.long q1), .second, .val (.long q2), .second, .val (.long (q1 / (1000000 : Int64))), .second, .val (.long (q1 - (q1 / (1000000 : Int64)) * (1000000 : Int64))), .second, .unset, .unset] [])) _
    refine XS.lload X0.here hx rfl (hb hby d15_26) rfl ?_
    show Steps p.tables e below (s₁.setTop (mkF m 28 #[.val (.long q1), .second, .val (.long q2), .second, .val (.long (q1 / (1000000 : Int64))), .second, .val (.long (q1 - (q1 / (1000000 : Int64)) * (1000000 : Int64))), .second, .unset, .unset] [(.long (q1 - (q1 / (1000000 : Int64)) * (1000000 : Int64)))])) _
    refine XS.lconst X0.here hx rfl (hb hby d15_28) ?_
    show Steps p.tables e below (s₁.setTop (mkF m 29 #[.val (.long q1), .second, .val (.long q2), .second, .val (.long (q1 / (1000000 : Int64))), .second, .val (.long (q1 - (q1 / (1000000 : Int64)) * (1000000 : Int64))), .second, .unset, .unset] [(.long (0 : Int64)), (.long (q1 - (q1 / (1000000 : Int64)) * (1000000 : Int64)))])) _
    refine XS.lcmp X0.here hx rfl (hb hby d15_29) rfl ?_
    show Steps p.tables e below (s₁.setTop (mkF m 30 #[.val (.long q1), .second, .val (.long q2), .second, .val (.long (q1 / (1000000 : Int64))), .second, .val (.long (q1 - (q1 / (1000000 : Int64)) * (1000000 : Int64))), .second, .unset, .unset] [(.int (lcmpW (q1 - (q1 / (1000000 : Int64)) * (1000000 : Int64)) (0 : Int64)))])) _
    refine XS.ifNo X0.here hx rfl (hb hby d15_30) rfl ((if0 _ _).trans (tlt (own_lcLt hb30)).2.1) ?_
    show Steps p.tables e below (s₁.setTop (mkF m 33 #[.val (.long q1), .second, .val (.long q2), .second, .val (.long (q1 / (1000000 : Int64))), .second, .val (.long (q1 - (q1 / (1000000 : Int64)) * (1000000 : Int64))), .second, .unset, .unset] [])) _
    refine XS.lload X0.here hx rfl (hb hby d15_33) rfl ?_
    show Steps p.tables e below (s₁.setTop (mkF m 35 #[.val (.long q1), .second, .val (.long q2), .second, .val (.long (q1 / (1000000 : Int64))), .second, .val (.long (q1 - (q1 / (1000000 : Int64)) * (1000000 : Int64))), .second, .unset, .unset] [(.long (q1 - (q1 / (1000000 : Int64)) * (1000000 : Int64)))])) _
    refine X0.ldc2Long hx hown (mvT hZ (hw _ (List.mem_of_getElem? (i := 91) rfl))) (g := (mkF m 35 #[.val (.long q1), .second, .val (.long q2), .second, .val (.long (q1 / (1000000 : Int64))), .second, .val (.long (q1 - (q1 / (1000000 : Int64)) * (1000000 : Int64))), .second, .unset, .unset] [(.long (q1 - (q1 / (1000000 : Int64)) * (1000000 : Int64)))])) rfl (hb hby d15_35) _ ?_
    show Steps p.tables e below (s₁.setTop (mkF m 38 #[.val (.long q1), .second, .val (.long q2), .second, .val (.long (q1 / (1000000 : Int64))), .second, .val (.long (q1 - (q1 / (1000000 : Int64)) * (1000000 : Int64))), .second, .unset, .unset] [(.long (1000000 : Int64)), (.long (q1 - (q1 / (1000000 : Int64)) * (1000000 : Int64)))])) _
    refine XS.ladd X0.here hx rfl (hb hby d15_38) rfl ?_
    show Steps p.tables e below (s₁.setTop (mkF m 39 #[.val (.long q1), .second, .val (.long q2), .second, .val (.long (q1 / (1000000 : Int64))), .second, .val (.long (q1 - (q1 / (1000000 : Int64)) * (1000000 : Int64))), .second, .unset, .unset] [(.long ((q1 - (q1 / (1000000 : Int64)) * (1000000 : Int64)) + (1000000 : Int64)))])) _
    refine XS.lstore X0.here hx rfl (hb hby d15_39) rfl (l' := #[.val (.long q1), .second, .val (.long q2), .second, .val (.long (q1 / (1000000 : Int64))), .second, .val (.long ((q1 - (q1 / (1000000 : Int64)) * (1000000 : Int64)) + (1000000 : Int64))), .second, .unset, .unset]) rfl ?_
    show Steps p.tables e below (s₁.setTop (mkF m 41 #[.val (.long q1), .second, .val (.long q2), .second, .val (.long (q1 / (1000000 : Int64))), .second, .val (.long ((q1 - (q1 / (1000000 : Int64)) * (1000000 : Int64)) + (1000000 : Int64))), .second, .unset, .unset] [])) _
    refine XS.lload X0.here hx rfl (hb hby d15_41) rfl ?_
    show Steps p.tables e below (s₁.setTop (mkF m 43 #[.val (.long q1), .second, .val (.long q2), .second, .val (.long (q1 / (1000000 : Int64))), .second, .val (.long ((q1 - (q1 / (1000000 : Int64)) * (1000000 : Int64)) + (1000000 : Int64))), .second, .unset, .unset] [(.long (q1 / (1000000 : Int64)))])) _
    refine XS.lconst X0.here hx rfl (hb hby d15_43) ?_
    show Steps p.tables e below (s₁.setTop (mkF m 44 #[.val (.long q1), .second, .val (.long q2), .second, .val (.long (q1 / (1000000 : Int64))), .second, .val (.long ((q1 - (q1 / (1000000 : Int64)) * (1000000 : Int64)) + (1000000 : Int64))), .second, .unset, .unset] [(.long (1 : Int64)), (.long (q1 / (1000000 : Int64)))])) _
    refine XS.lsub X0.here hx rfl (hb hby d15_44) rfl ?_
    show Steps p.tables e below (s₁.setTop (mkF m 45 #[.val (.long q1), .second, .val (.long q2), .second, .val (.long (q1 / (1000000 : Int64))), .second, .val (.long ((q1 - (q1 / (1000000 : Int64)) * (1000000 : Int64)) + (1000000 : Int64))), .second, .unset, .unset] [(.long ((q1 / (1000000 : Int64)) - (1 : Int64)))])) _
    refine XS.lstore X0.here hx rfl (hb hby d15_45) rfl (l' := #[.val (.long q1), .second, .val (.long q2), .second, .val (.long ((q1 / (1000000 : Int64)) - (1 : Int64))), .second, .val (.long ((q1 - (q1 / (1000000 : Int64)) * (1000000 : Int64)) + (1000000 : Int64))), .second, .unset, .unset]) rfl ?_
    show Steps p.tables e below (s₁.setTop (mkF m 47 #[.val (.long q1), .second, .val (.long q2), .second, .val (.long ((q1 / (1000000 : Int64)) - (1 : Int64))), .second, .val (.long ((q1 - (q1 / (1000000 : Int64)) * (1000000 : Int64)) + (1000000 : Int64))), .second, .unset, .unset] [])) _
    refine XS.lload X0.here hx rfl (hb hby d15_47) rfl ?_
    show Steps p.tables e below (s₁.setTop (mkF m 49 #[.val (.long q1), .second, .val (.long q2), .second, .val (.long ((q1 / (1000000 : Int64)) - (1 : Int64))), .second, .val (.long ((q1 - (q1 / (1000000 : Int64)) * (1000000 : Int64)) + (1000000 : Int64))), .second, .unset, .unset] [(.long ((q1 / (1000000 : Int64)) - (1 : Int64)))])) _
    refine XS.lloadN X0.here hx rfl (hb hby d15_49) rfl ?_
    show Steps p.tables e below (s₁.setTop (mkF m 50 #[.val (.long q1), .second, .val (.long q2), .second, .val (.long ((q1 / (1000000 : Int64)) - (1 : Int64))), .second, .val (.long ((q1 - (q1 / (1000000 : Int64)) * (1000000 : Int64)) + (1000000 : Int64))), .second, .unset, .unset] [(.long q2), (.long ((q1 / (1000000 : Int64)) - (1 : Int64)))])) _
    refine XS.lsub X0.here hx rfl (hb hby d15_50) rfl ?_
    show Steps p.tables e below (s₁.setTop (mkF m 51 #[.val (.long q1), .second, .val (.long q2), .second, .val (.long ((q1 / (1000000 : Int64)) - (1 : Int64))), .second, .val (.long ((q1 - (q1 / (1000000 : Int64)) * (1000000 : Int64)) + (1000000 : Int64))), .second, .unset, .unset] [(.long (((q1 / (1000000 : Int64)) - (1 : Int64)) - q2))])) _
    refine XS.lstore X0.here hx rfl (hb hby d15_51) rfl (l' := #[.val (.long q1), .second, .val (.long q2), .second, .val (.long ((q1 / (1000000 : Int64)) - (1 : Int64))), .second, .val (.long ((q1 - (q1 / (1000000 : Int64)) * (1000000 : Int64)) + (1000000 : Int64))), .second, .val (.long (((q1 / (1000000 : Int64)) - (1 : Int64)) - q2)), .second]) rfl ?_
    show Steps p.tables e below (s₁.setTop (mkF m 53 #[.val (.long q1), .second, .val (.long q2), .second, .val (.long ((q1 / (1000000 : Int64)) - (1 : Int64))), .second, .val (.long ((q1 - (q1 / (1000000 : Int64)) * (1000000 : Int64)) + (1000000 : Int64))), .second, .val (.long (((q1 / (1000000 : Int64)) - (1 : Int64)) - q2)), .second] [])) _
    refine XS.lload X0.here hx rfl (hb hby d15_53) rfl ?_
    show Steps p.tables e below (s₁.setTop (mkF m 55 #[.val (.long q1), .second, .val (.long q2), .second, .val (.long ((q1 / (1000000 : Int64)) - (1 : Int64))), .second, .val (.long ((q1 - (q1 / (1000000 : Int64)) * (1000000 : Int64)) + (1000000 : Int64))), .second, .val (.long (((q1 / (1000000 : Int64)) - (1 : Int64)) - q2)), .second] [(.long (((q1 / (1000000 : Int64)) - (1 : Int64)) - q2))])) _
    refine X0.ldc2Long hx hown (mvT hZ (hw _ (List.mem_of_getElem? (i := 92) rfl))) (g := (mkF m 55 #[.val (.long q1), .second, .val (.long q2), .second, .val (.long ((q1 / (1000000 : Int64)) - (1 : Int64))), .second, .val (.long ((q1 - (q1 / (1000000 : Int64)) * (1000000 : Int64)) + (1000000 : Int64))), .second, .val (.long (((q1 / (1000000 : Int64)) - (1 : Int64)) - q2)), .second] [(.long (((q1 / (1000000 : Int64)) - (1 : Int64)) - q2))])) rfl (hb hby d15_55) _ ?_
    show Steps p.tables e below (s₁.setTop (mkF m 58 #[.val (.long q1), .second, .val (.long q2), .second, .val (.long ((q1 / (1000000 : Int64)) - (1 : Int64))), .second, .val (.long ((q1 - (q1 / (1000000 : Int64)) * (1000000 : Int64)) + (1000000 : Int64))), .second, .val (.long (((q1 / (1000000 : Int64)) - (1 : Int64)) - q2)), .second] [(.long (-9223372036855 : Int64)), (.long (((q1 / (1000000 : Int64)) - (1 : Int64)) - q2))])) _
    refine XS.lcmp X0.here hx rfl (hb hby d15_58) rfl ?_
    show Steps p.tables e below (s₁.setTop (mkF m 59 #[.val (.long q1), .second, .val (.long q2), .second, .val (.long ((q1 / (1000000 : Int64)) - (1 : Int64))), .second, .val (.long ((q1 - (q1 / (1000000 : Int64)) * (1000000 : Int64)) + (1000000 : Int64))), .second, .val (.long (((q1 / (1000000 : Int64)) - (1 : Int64)) - q2)), .second] [(.int (lcmpW (((q1 / (1000000 : Int64)) - (1 : Int64)) - q2) (-9223372036855 : Int64)))])) _
    refine XS.ifYes X0.here hx rfl (pc0 := 59) (pc' := 80) rfl (hb hby d15_59) rfl ((if0 _ _).trans (tlt (own_lcLt hb59)).1) (by decide) (by decide) ?_
    show Steps p.tables e below (s₁.setTop (mkF m 80 #[.val (.long q1), .second, .val (.long q2), .second, .val (.long ((q1 / (1000000 : Int64)) - (1 : Int64))), .second, .val (.long ((q1 - (q1 / (1000000 : Int64)) * (1000000 : Int64)) + (1000000 : Int64))), .second, .val (.long (((q1 / (1000000 : Int64)) - (1 : Int64)) - q2)), .second] [])) _
    refine X0.ldc2Long hx hown (mvT hZ (hw _ (List.mem_of_getElem? (i := 93) rfl))) (g := (mkF m 80 #[.val (.long q1), .second, .val (.long q2), .second, .val (.long ((q1 / (1000000 : Int64)) - (1 : Int64))), .second, .val (.long ((q1 - (q1 / (1000000 : Int64)) * (1000000 : Int64)) + (1000000 : Int64))), .second, .val (.long (((q1 / (1000000 : Int64)) - (1 : Int64)) - q2)), .second] [])) rfl (hb hby d15_80) _ ?_
    show Steps p.tables e below (s₁.setTop (mkF m 83 #[.val (.long q1), .second, .val (.long q2), .second, .val (.long ((q1 / (1000000 : Int64)) - (1 : Int64))), .second, .val (.long ((q1 - (q1 / (1000000 : Int64)) * (1000000 : Int64)) + (1000000 : Int64))), .second, .val (.long (((q1 / (1000000 : Int64)) - (1 : Int64)) - q2)), .second] [(.long (-9223372036854775808 : Int64))])) _
    exact own_retL X0 hx Bd.returns (hb hby d15_83) hr
  · show QJ (own_old q1 q2) h0 n0 _ s₁.heap _
    rw [e0]
    exact ⟨by rw [own_r1 (own_qM hb30) h1 hb5 hb59], N0, rfl⟩
set_option maxRecDepth 65536 in
set_option maxHeartbeats 40000000 in
theorem rmFM2 (l : Launch) (Z : State) (a0 : Array Value) (hw : ∀ d ∈ tables_1, d.before a0 Z = true) (ws : List Jvm.Cond) (q1 : Int64) (q2 : Int64) (h0 : Heap) (n0 : Nat) (Z0 : n0 ≤ h0.size) (h1 : ¬ q2 < (1 : Int64)) (hb5 : q2 < (9223372036855 : Int64)) (hb30 : (q1 - (q1 / (1000000 : Int64)) * (1000000 : Int64)) < (0 : Int64)) (hb59 : ¬ (((q1 / (1000000 : Int64)) - (1 : Int64)) - q2) < (-9223372036855 : Int64)) (hb68 : ¬ (((q1 / (1000000 : Int64)) - (1 : Int64)) - q2) = (-9223372036855 : Int64)) :
    MetFree l (⟨"com/example/sorted_map_store/sortedmapstore/ColumnFamilyOldestKeptPinLaw", "reference", "(JJ)J"⟩ : MethodName) (head1 (Jvm.Cond.code (⟨"com/example/sorted_map_store/sortedmapstore/ColumnFamilyOldestKeptPinLaw", "reference", "(JJ)J"⟩ : MethodName) method_2_code 10 (some .long) :: ws) ({ frames := 0, cells := 0, slots := 0, locals := 0 } : Room)) (fun a U => a = #[(.long q1), (.long q2)] ∧ Z.Warmed39 U.vm ∧ U.heap = h0) (fun _ _ _ _ _ => True) (fun _ U o U' => ∃ v L, o = .returned v ∧ QJ (own_old q1 q2) h0 n0 v U'.heap L ∧ FrameEnd U o U' L ({ frames := 0, cells := 0, slots := 0, locals := 0 } : Room).cells ({ frames := 0, cells := 0, slots := 0, locals := 0 } : Room).slots) := by
  refine MetFree.of_bodySF (plainFor_of_name own_pn7) hisR ?_
  intro p e s m args below meth c s₁ Bd hml0 hP hK
  obtain ⟨rfl, hZ, hh⟩ := hP
  have hx := Bd.exec
  have hby := Bd.bytes
  have hml : c.maxLocals = 10 := hml0
  have hown : s.vm.findClass "com/example/sorted_map_store/sortedmapstore/ColumnFamilyOldestKeptPinLaw" = some m.cls := findClass_of_methodNamed Bd.named
  have hnm := (name_of_methodNamed Bd.named Bd.method).1
  have X0 : Stand p l e ({ frames := 0, cells := 0, slots := 0, locals := 0 } : Room) s m #[(.long q1), (.long q2)] below meth c s₁ [] 0 0 := Stand.of_body Bd
  have e0 : s₁.heap = h0 := by rw [← hh, Bd.state]; rfl
  have N0 := Fr.nil n0
  have ef : entryFrame m #[(.long q1), (.long q2)] 10 = mkF m 0 #[.val (.long q1), .second, .val (.long q2), .second, .unset, .unset, .unset, .unset, .unset, .unset] [] := by first | (simp [entryFrame, mkF, argsToLocals, Value.category]; done) | rfl
  have pre0 : ∀ t, Steps p.tables e below (s₁.setTop (mkF m 0 #[.val (.long q1), .second, .val (.long q2), .second, .unset, .unset, .unset, .unset, .unset, .unset] [])) t → Steps p.tables e below (s₁.setTop (entryFrame m #[(.long q1), (.long q2)] 10)) t := fun t k => castTop ef k
  obtain ⟨fs, hr, hrun, hended, hW, hsame⟩ := X0.leave (v := some (.long ((((((q1 / (1000000 : Int64)) - (1 : Int64)) - q2) + (1 : Int64)) * (1000000 : Int64)) + (((q1 - (q1 / (1000000 : Int64)) * (1000000 : Int64)) + (1000000 : Int64)) - (1000000 : Int64))))) (fun h => by rw [Bd.returns] at h; cases h) (hlocks := Bd.notSynchronized)
  refine ⟨_, _, pre0 _ ?_, hrun, hended, _, _, rfl, ?_, ⟨_, rfl⟩, hW, hsame.mono (by decide) (by decide)⟩
  · show Steps p.tables e below (s₁.setTop (mkF m 0 #[.val (.long q1), .second, .val (.long q2), .second, .unset, .unset, .unset, .unset, .unset, .unset] [])) _
    refine XS.lloadN X0.here hx rfl (hb hby d15_0) rfl ?_
    show Steps p.tables e below (s₁.setTop (mkF m 1 #[.val (.long q1), .second, .val (.long q2), .second, .unset, .unset, .unset, .unset, .unset, .unset] [(.long q2)])) _
    refine X0.ldc2Long hx hown (mvT hZ (hw _ (List.mem_of_getElem? (i := 90) rfl))) (g := (mkF m 1 #[.val (.long q1), .second, .val (.long q2), .second, .unset, .unset, .unset, .unset, .unset, .unset] [(.long q2)])) rfl (hb hby d15_1) _ ?_
    show Steps p.tables e below (s₁.setTop (mkF m 4 #[.val (.long q1), .second, .val (.long q2), .second, .unset, .unset, .unset, .unset, .unset, .unset] [(.long (9223372036855 : Int64)), (.long q2)])) _
    refine XS.lcmp X0.here hx rfl (hb hby d15_4) rfl ?_
    show Steps p.tables e below (s₁.setTop (mkF m 5 #[.val (.long q1), .second, .val (.long q2), .second, .unset, .unset, .unset, .unset, .unset, .unset] [(.int (lcmpW q2 (9223372036855 : Int64)))])) _
    refine XS.ifYes X0.here hx rfl (pc0 := 5) (pc' := 12) rfl (hb hby d15_5) rfl ((if0 _ _).trans (tlt (own_lcLt hb5)).1) (by decide) (by decide) ?_
    show Steps p.tables e below (s₁.setTop (mkF m 12 #[.val (.long q1), .second, .val (.long q2), .second, .unset, .unset, .unset, .unset, .unset, .unset] [])) _
    refine XS.lloadN X0.here hx rfl (hb hby d15_12) rfl ?_
    show Steps p.tables e below (s₁.setTop (mkF m 13 #[.val (.long q1), .second, .val (.long q2), .second, .unset, .unset, .unset, .unset, .unset, .unset] [(.long q1)])) _
    refine X0.ldc2Long hx hown (mvT hZ (hw _ (List.mem_of_getElem? (i := 91) rfl))) (g := (mkF m 13 #[.val (.long q1), .second, .val (.long q2), .second, .unset, .unset, .unset, .unset, .unset, .unset] [(.long q1)])) rfl (hb hby d15_13) _ ?_
    show Steps p.tables e below (s₁.setTop (mkF m 16 #[.val (.long q1), .second, .val (.long q2), .second, .unset, .unset, .unset, .unset, .unset, .unset] [(.long (1000000 : Int64)), (.long q1)])) _
    refine XS.ldiv X0.here hx rfl (hb hby d15_16) rfl (by decide) ?_
    show Steps p.tables e below (s₁.setTop (mkF m 17 #[.val (.long q1), .second, .val (.long q2), .second, .unset, .unset, .unset, .unset, .unset, .unset] [(.long (q1 / (1000000 : Int64)))])) _
    refine XS.lstore X0.here hx rfl (hb hby d15_17) rfl (l' := #[.val (.long q1), .second, .val (.long q2), .second, .val (.long (q1 / (1000000 : Int64))), .second, .unset, .unset, .unset, .unset]) rfl ?_
    show Steps p.tables e below (s₁.setTop (mkF m 19 #[.val (.long q1), .second, .val (.long q2), .second, .val (.long (q1 / (1000000 : Int64))), .second, .unset, .unset, .unset, .unset] [])) _
    refine XS.lloadN X0.here hx rfl (hb hby d15_19) rfl ?_
    show Steps p.tables e below (s₁.setTop (mkF m 20 #[.val (.long q1), .second, .val (.long q2), .second, .val (.long (q1 / (1000000 : Int64))), .second, .unset, .unset, .unset, .unset] [(.long q1)])) _
    refine X0.ldc2Long hx hown (mvT hZ (hw _ (List.mem_of_getElem? (i := 91) rfl))) (g := (mkF m 20 #[.val (.long q1), .second, .val (.long q2), .second, .val (.long (q1 / (1000000 : Int64))), .second, .unset, .unset, .unset, .unset] [(.long q1)])) rfl (hb hby d15_20) _ ?_
    show Steps p.tables e below (s₁.setTop (mkF m 23 #[.val (.long q1), .second, .val (.long q2), .second, .val (.long (q1 / (1000000 : Int64))), .second, .unset, .unset, .unset, .unset] [(.long (1000000 : Int64)), (.long q1)])) _
    refine XS.lrem X0.here hx rfl (hb hby d15_23) rfl (by decide) ?_
    show Steps p.tables e below (s₁.setTop (mkF m 24 #[.val (.long q1), .second, .val (.long q2), .second, .val (.long (q1 / (1000000 : Int64))), .second, .unset, .unset, .unset, .unset] [(.long (q1 - (q1 / (1000000 : Int64)) * (1000000 : Int64)))])) _
    refine XS.lstore X0.here hx rfl (hb hby d15_24) rfl (l' := #[.val (.long q1), .second, .val (.long q2), .second, .val (.long (q1 / (1000000 : Int64))), .second, .val (.long (q1 - (q1 / (1000000 : Int64)) * (1000000 : Int64))), .second, .unset, .unset]) rfl ?_
    show Steps p.tables e below (s₁.setTop (mkF m 26 #[.val (.long q1), .second, .val (.long q2), .second, .val (.long (q1 / (1000000 : Int64))), .second, .val (.long (q1 - (q1 / (1000000 : Int64)) * (1000000 : Int64))), .second, .unset, .unset] [])) _
    refine XS.lload X0.here hx rfl (hb hby d15_26) rfl ?_
    show Steps p.tables e below (s₁.setTop (mkF m 28 #[.val (.long q1), .second, .val (.long q2), .second, .val (.long (q1 / (1000000 : Int64))), .second, .val (.long (q1 - (q1 / (1000000 : Int64)) * (1000000 : Int64))), .second, .unset, .unset] [(.long (q1 - (q1 / (1000000 : Int64)) * (1000000 : Int64)))])) _
    refine XS.lconst X0.here hx rfl (hb hby d15_28) ?_
    show Steps p.tables e below (s₁.setTop (mkF m 29 #[.val (.long q1), .second, .val (.long q2), .second, .val (.long (q1 / (1000000 : Int64))), .second, .val (.long (q1 - (q1 / (1000000 : Int64)) * (1000000 : Int64))), .second, .unset, .unset] [(.long (0 : Int64)), (.long (q1 - (q1 / (1000000 : Int64)) * (1000000 : Int64)))])) _
    refine XS.lcmp X0.here hx rfl (hb hby d15_29) rfl ?_
    show Steps p.tables e below (s₁.setTop (mkF m 30 #[.val (.long q1), .second, .val (.long q2), .second, .val (.long (q1 / (1000000 : Int64))), .second, .val (.long (q1 - (q1 / (1000000 : Int64)) * (1000000 : Int64))), .second, .unset, .unset] [(.int (lcmpW (q1 - (q1 / (1000000 : Int64)) * (1000000 : Int64)) (0 : Int64)))])) _
    refine XS.ifNo X0.here hx rfl (hb hby d15_30) rfl ((if0 _ _).trans (tlt (own_lcLt hb30)).2.1) ?_
    show Steps p.tables e below (s₁.setTop (mkF m 33 #[.val (.long q1), .second, .val (.long q2), .second, .val (.long (q1 / (1000000 : Int64))), .second, .val (.long (q1 - (q1 / (1000000 : Int64)) * (1000000 : Int64))), .second, .unset, .unset] [])) _
    refine XS.lload X0.here hx rfl (hb hby d15_33) rfl ?_
    show Steps p.tables e below (s₁.setTop (mkF m 35 #[.val (.long q1), .second, .val (.long q2), .second, .val (.long (q1 / (1000000 : Int64))), .second, .val (.long (q1 - (q1 / (1000000 : Int64)) * (1000000 : Int64))), .second, .unset, .unset] [(.long (q1 - (q1 / (1000000 : Int64)) * (1000000 : Int64)))])) _
    refine X0.ldc2Long hx hown (mvT hZ (hw _ (List.mem_of_getElem? (i := 91) rfl))) (g := (mkF m 35 #[.val (.long q1), .second, .val (.long q2), .second, .val (.long (q1 / (1000000 : Int64))), .second, .val (.long (q1 - (q1 / (1000000 : Int64)) * (1000000 : Int64))), .second, .unset, .unset] [(.long (q1 - (q1 / (1000000 : Int64)) * (1000000 : Int64)))])) rfl (hb hby d15_35) _ ?_
    show Steps p.tables e below (s₁.setTop (mkF m 38 #[.val (.long q1), .second, .val (.long q2), .second, .val (.long (q1 / (1000000 : Int64))), .second, .val (.long (q1 - (q1 / (1000000 : Int64)) * (1000000 : Int64))), .second, .unset, .unset] [(.long (1000000 : Int64)), (.long (q1 - (q1 / (1000000 : Int64)) * (1000000 : Int64)))])) _
    refine XS.ladd X0.here hx rfl (hb hby d15_38) rfl ?_
    show Steps p.tables e below (s₁.setTop (mkF m 39 #[.val (.long q1), .second, .val (.long q2), .second, .val (.long (q1 / (1000000 : Int64))), .second, .val (.long (q1 - (q1 / (1000000 : Int64)) * (1000000 : Int64))), .second, .unset, .unset] [(.long ((q1 - (q1 / (1000000 : Int64)) * (1000000 : Int64)) + (1000000 : Int64)))])) _
    refine XS.lstore X0.here hx rfl (hb hby d15_39) rfl (l' := #[.val (.long q1), .second, .val (.long q2), .second, .val (.long (q1 / (1000000 : Int64))), .second, .val (.long ((q1 - (q1 / (1000000 : Int64)) * (1000000 : Int64)) + (1000000 : Int64))), .second, .unset, .unset]) rfl ?_
    show Steps p.tables e below (s₁.setTop (mkF m 41 #[.val (.long q1), .second, .val (.long q2), .second, .val (.long (q1 / (1000000 : Int64))), .second, .val (.long ((q1 - (q1 / (1000000 : Int64)) * (1000000 : Int64)) + (1000000 : Int64))), .second, .unset, .unset] [])) _
    refine XS.lload X0.here hx rfl (hb hby d15_41) rfl ?_
    show Steps p.tables e below (s₁.setTop (mkF m 43 #[.val (.long q1), .second, .val (.long q2), .second, .val (.long (q1 / (1000000 : Int64))), .second, .val (.long ((q1 - (q1 / (1000000 : Int64)) * (1000000 : Int64)) + (1000000 : Int64))), .second, .unset, .unset] [(.long (q1 / (1000000 : Int64)))])) _
    refine XS.lconst X0.here hx rfl (hb hby d15_43) ?_
    show Steps p.tables e below (s₁.setTop (mkF m 44 #[.val (.long q1), .second, .val (.long q2), .second, .val (.long (q1 / (1000000 : Int64))), .second, .val (.long ((q1 - (q1 / (1000000 : Int64)) * (1000000 : Int64)) + (1000000 : Int64))), .second, .unset, .unset] [(.long (1 : Int64)), (.long (q1 / (1000000 : Int64)))])) _
    refine XS.lsub X0.here hx rfl (hb hby d15_44) rfl ?_
    show Steps p.tables e below (s₁.setTop (mkF m 45 #[.val (.long q1), .second, .val (.long q2), .second, .val (.long (q1 / (1000000 : Int64))), .second, .val (.long ((q1 - (q1 / (1000000 : Int64)) * (1000000 : Int64)) + (1000000 : Int64))), .second, .unset, .unset] [(.long ((q1 / (1000000 : Int64)) - (1 : Int64)))])) _
    refine XS.lstore X0.here hx rfl (hb hby d15_45) rfl (l' := #[.val (.long q1), .second, .val (.long q2), .second, .val (.long ((q1 / (1000000 : Int64)) - (1 : Int64))), .second, .val (.long ((q1 - (q1 / (1000000 : Int64)) * (1000000 : Int64)) + (1000000 : Int64))), .second, .unset, .unset]) rfl ?_
    show Steps p.tables e below (s₁.setTop (mkF m 47 #[.val (.long q1), .second, .val (.long q2), .second, .val (.long ((q1 / (1000000 : Int64)) - (1 : Int64))), .second, .val (.long ((q1 - (q1 / (1000000 : Int64)) * (1000000 : Int64)) + (1000000 : Int64))), .second, .unset, .unset] [])) _
    refine XS.lload X0.here hx rfl (hb hby d15_47) rfl ?_
    show Steps p.tables e below (s₁.setTop (mkF m 49 #[.val (.long q1), .second, .val (.long q2), .second, .val (.long ((q1 / (1000000 : Int64)) - (1 : Int64))), .second, .val (.long ((q1 - (q1 / (1000000 : Int64)) * (1000000 : Int64)) + (1000000 : Int64))), .second, .unset, .unset] [(.long ((q1 / (1000000 : Int64)) - (1 : Int64)))])) _
    refine XS.lloadN X0.here hx rfl (hb hby d15_49) rfl ?_
    show Steps p.tables e below (s₁.setTop (mkF m 50 #[.val (.long q1), .second, .val (.long q2), .second, .val (.long ((q1 / (1000000 : Int64)) - (1 : Int64))), .second, .val (.long ((q1 - (q1 / (1000000 : Int64)) * (1000000 : Int64)) + (1000000 : Int64))), .second, .unset, .unset] [(.long q2), (.long ((q1 / (1000000 : Int64)) - (1 : Int64)))])) _
    refine XS.lsub X0.here hx rfl (hb hby d15_50) rfl ?_
    show Steps p.tables e below (s₁.setTop (mkF m 51 #[.val (.long q1), .second, .val (.long q2), .second, .val (.long ((q1 / (1000000 : Int64)) - (1 : Int64))), .second, .val (.long ((q1 - (q1 / (1000000 : Int64)) * (1000000 : Int64)) + (1000000 : Int64))), .second, .unset, .unset] [(.long (((q1 / (1000000 : Int64)) - (1 : Int64)) - q2))])) _
    refine XS.lstore X0.here hx rfl (hb hby d15_51) rfl (l' := #[.val (.long q1), .second, .val (.long q2), .second, .val (.long ((q1 / (1000000 : Int64)) - (1 : Int64))), .second, .val (.long ((q1 - (q1 / (1000000 : Int64)) * (1000000 : Int64)) + (1000000 : Int64))), .second, .val (.long (((q1 / (1000000 : Int64)) - (1 : Int64)) - q2)), .second]) rfl ?_
    show Steps p.tables e below (s₁.setTop (mkF m 53 #[.val (.long q1), .second, .val (.long q2), .second, .val (.long ((q1 / (1000000 : Int64)) - (1 : Int64))), .second, .val (.long ((q1 - (q1 / (1000000 : Int64)) * (1000000 : Int64)) + (1000000 : Int64))), .second, .val (.long (((q1 / (1000000 : Int64)) - (1 : Int64)) - q2)), .second] [])) _
    refine XS.lload X0.here hx rfl (hb hby d15_53) rfl ?_
    show Steps p.tables e below (s₁.setTop (mkF m 55 #[.val (.long q1), .second, .val (.long q2), .second, .val (.long ((q1 / (1000000 : Int64)) - (1 : Int64))), .second, .val (.long ((q1 - (q1 / (1000000 : Int64)) * (1000000 : Int64)) + (1000000 : Int64))), .second, .val (.long (((q1 / (1000000 : Int64)) - (1 : Int64)) - q2)), .second] [(.long (((q1 / (1000000 : Int64)) - (1 : Int64)) - q2))])) _
    refine X0.ldc2Long hx hown (mvT hZ (hw _ (List.mem_of_getElem? (i := 92) rfl))) (g := (mkF m 55 #[.val (.long q1), .second, .val (.long q2), .second, .val (.long ((q1 / (1000000 : Int64)) - (1 : Int64))), .second, .val (.long ((q1 - (q1 / (1000000 : Int64)) * (1000000 : Int64)) + (1000000 : Int64))), .second, .val (.long (((q1 / (1000000 : Int64)) - (1 : Int64)) - q2)), .second] [(.long (((q1 / (1000000 : Int64)) - (1 : Int64)) - q2))])) rfl (hb hby d15_55) _ ?_
    show Steps p.tables e below (s₁.setTop (mkF m 58 #[.val (.long q1), .second, .val (.long q2), .second, .val (.long ((q1 / (1000000 : Int64)) - (1 : Int64))), .second, .val (.long ((q1 - (q1 / (1000000 : Int64)) * (1000000 : Int64)) + (1000000 : Int64))), .second, .val (.long (((q1 / (1000000 : Int64)) - (1 : Int64)) - q2)), .second] [(.long (-9223372036855 : Int64)), (.long (((q1 / (1000000 : Int64)) - (1 : Int64)) - q2))])) _
    refine XS.lcmp X0.here hx rfl (hb hby d15_58) rfl ?_
    show Steps p.tables e below (s₁.setTop (mkF m 59 #[.val (.long q1), .second, .val (.long q2), .second, .val (.long ((q1 / (1000000 : Int64)) - (1 : Int64))), .second, .val (.long ((q1 - (q1 / (1000000 : Int64)) * (1000000 : Int64)) + (1000000 : Int64))), .second, .val (.long (((q1 / (1000000 : Int64)) - (1 : Int64)) - q2)), .second] [(.int (lcmpW (((q1 / (1000000 : Int64)) - (1 : Int64)) - q2) (-9223372036855 : Int64)))])) _
    refine XS.ifNo X0.here hx rfl (hb hby d15_59) rfl ((if0 _ _).trans (flt (own_lcGe hb59)).1) ?_
    show Steps p.tables e below (s₁.setTop (mkF m 62 #[.val (.long q1), .second, .val (.long q2), .second, .val (.long ((q1 / (1000000 : Int64)) - (1 : Int64))), .second, .val (.long ((q1 - (q1 / (1000000 : Int64)) * (1000000 : Int64)) + (1000000 : Int64))), .second, .val (.long (((q1 / (1000000 : Int64)) - (1 : Int64)) - q2)), .second] [])) _
    refine XS.lload X0.here hx rfl (hb hby d15_62) rfl ?_
    show Steps p.tables e below (s₁.setTop (mkF m 64 #[.val (.long q1), .second, .val (.long q2), .second, .val (.long ((q1 / (1000000 : Int64)) - (1 : Int64))), .second, .val (.long ((q1 - (q1 / (1000000 : Int64)) * (1000000 : Int64)) + (1000000 : Int64))), .second, .val (.long (((q1 / (1000000 : Int64)) - (1 : Int64)) - q2)), .second] [(.long (((q1 / (1000000 : Int64)) - (1 : Int64)) - q2))])) _
    refine X0.ldc2Long hx hown (mvT hZ (hw _ (List.mem_of_getElem? (i := 92) rfl))) (g := (mkF m 64 #[.val (.long q1), .second, .val (.long q2), .second, .val (.long ((q1 / (1000000 : Int64)) - (1 : Int64))), .second, .val (.long ((q1 - (q1 / (1000000 : Int64)) * (1000000 : Int64)) + (1000000 : Int64))), .second, .val (.long (((q1 / (1000000 : Int64)) - (1 : Int64)) - q2)), .second] [(.long (((q1 / (1000000 : Int64)) - (1 : Int64)) - q2))])) rfl (hb hby d15_64) _ ?_
    show Steps p.tables e below (s₁.setTop (mkF m 67 #[.val (.long q1), .second, .val (.long q2), .second, .val (.long ((q1 / (1000000 : Int64)) - (1 : Int64))), .second, .val (.long ((q1 - (q1 / (1000000 : Int64)) * (1000000 : Int64)) + (1000000 : Int64))), .second, .val (.long (((q1 / (1000000 : Int64)) - (1 : Int64)) - q2)), .second] [(.long (-9223372036855 : Int64)), (.long (((q1 / (1000000 : Int64)) - (1 : Int64)) - q2))])) _
    refine XS.lcmp X0.here hx rfl (hb hby d15_67) rfl ?_
    show Steps p.tables e below (s₁.setTop (mkF m 68 #[.val (.long q1), .second, .val (.long q2), .second, .val (.long ((q1 / (1000000 : Int64)) - (1 : Int64))), .second, .val (.long ((q1 - (q1 / (1000000 : Int64)) * (1000000 : Int64)) + (1000000 : Int64))), .second, .val (.long (((q1 / (1000000 : Int64)) - (1 : Int64)) - q2)), .second] [(.int (lcmpW (((q1 / (1000000 : Int64)) - (1 : Int64)) - q2) (-9223372036855 : Int64)))])) _
    refine XS.ifYes X0.here hx rfl (pc0 := 68) (pc' := 84) rfl (hb hby d15_68) rfl ((if0 _ _).trans (feq (own_lcNe hb68)).2) (by decide) (by decide) ?_
    show Steps p.tables e below (s₁.setTop (mkF m 84 #[.val (.long q1), .second, .val (.long q2), .second, .val (.long ((q1 / (1000000 : Int64)) - (1 : Int64))), .second, .val (.long ((q1 - (q1 / (1000000 : Int64)) * (1000000 : Int64)) + (1000000 : Int64))), .second, .val (.long (((q1 / (1000000 : Int64)) - (1 : Int64)) - q2)), .second] [])) _
    refine XS.lload X0.here hx rfl (hb hby d15_84) rfl ?_
    show Steps p.tables e below (s₁.setTop (mkF m 86 #[.val (.long q1), .second, .val (.long q2), .second, .val (.long ((q1 / (1000000 : Int64)) - (1 : Int64))), .second, .val (.long ((q1 - (q1 / (1000000 : Int64)) * (1000000 : Int64)) + (1000000 : Int64))), .second, .val (.long (((q1 / (1000000 : Int64)) - (1 : Int64)) - q2)), .second] [(.long (((q1 / (1000000 : Int64)) - (1 : Int64)) - q2))])) _
    refine XS.lconst X0.here hx rfl (hb hby d15_86) ?_
    show Steps p.tables e below (s₁.setTop (mkF m 87 #[.val (.long q1), .second, .val (.long q2), .second, .val (.long ((q1 / (1000000 : Int64)) - (1 : Int64))), .second, .val (.long ((q1 - (q1 / (1000000 : Int64)) * (1000000 : Int64)) + (1000000 : Int64))), .second, .val (.long (((q1 / (1000000 : Int64)) - (1 : Int64)) - q2)), .second] [(.long (1 : Int64)), (.long (((q1 / (1000000 : Int64)) - (1 : Int64)) - q2))])) _
    refine XS.ladd X0.here hx rfl (hb hby d15_87) rfl ?_
    show Steps p.tables e below (s₁.setTop (mkF m 88 #[.val (.long q1), .second, .val (.long q2), .second, .val (.long ((q1 / (1000000 : Int64)) - (1 : Int64))), .second, .val (.long ((q1 - (q1 / (1000000 : Int64)) * (1000000 : Int64)) + (1000000 : Int64))), .second, .val (.long (((q1 / (1000000 : Int64)) - (1 : Int64)) - q2)), .second] [(.long ((((q1 / (1000000 : Int64)) - (1 : Int64)) - q2) + (1 : Int64)))])) _
    refine X0.ldc2Long hx hown (mvT hZ (hw _ (List.mem_of_getElem? (i := 91) rfl))) (g := (mkF m 88 #[.val (.long q1), .second, .val (.long q2), .second, .val (.long ((q1 / (1000000 : Int64)) - (1 : Int64))), .second, .val (.long ((q1 - (q1 / (1000000 : Int64)) * (1000000 : Int64)) + (1000000 : Int64))), .second, .val (.long (((q1 / (1000000 : Int64)) - (1 : Int64)) - q2)), .second] [(.long ((((q1 / (1000000 : Int64)) - (1 : Int64)) - q2) + (1 : Int64)))])) rfl (hb hby d15_88) _ ?_
    show Steps p.tables e below (s₁.setTop (mkF m 91 #[.val (.long q1), .second, .val (.long q2), .second, .val (.long ((q1 / (1000000 : Int64)) - (1 : Int64))), .second, .val (.long ((q1 - (q1 / (1000000 : Int64)) * (1000000 : Int64)) + (1000000 : Int64))), .second, .val (.long (((q1 / (1000000 : Int64)) - (1 : Int64)) - q2)), .second] [(.long (1000000 : Int64)), (.long ((((q1 / (1000000 : Int64)) - (1 : Int64)) - q2) + (1 : Int64)))])) _
    refine XS.lmul X0.here hx rfl (hb hby d15_91) rfl ?_
    show Steps p.tables e below (s₁.setTop (mkF m 92 #[.val (.long q1), .second, .val (.long q2), .second, .val (.long ((q1 / (1000000 : Int64)) - (1 : Int64))), .second, .val (.long ((q1 - (q1 / (1000000 : Int64)) * (1000000 : Int64)) + (1000000 : Int64))), .second, .val (.long (((q1 / (1000000 : Int64)) - (1 : Int64)) - q2)), .second] [(.long (((((q1 / (1000000 : Int64)) - (1 : Int64)) - q2) + (1 : Int64)) * (1000000 : Int64)))])) _
    refine XS.lload X0.here hx rfl (hb hby d15_92) rfl ?_
    show Steps p.tables e below (s₁.setTop (mkF m 94 #[.val (.long q1), .second, .val (.long q2), .second, .val (.long ((q1 / (1000000 : Int64)) - (1 : Int64))), .second, .val (.long ((q1 - (q1 / (1000000 : Int64)) * (1000000 : Int64)) + (1000000 : Int64))), .second, .val (.long (((q1 / (1000000 : Int64)) - (1 : Int64)) - q2)), .second] [(.long ((q1 - (q1 / (1000000 : Int64)) * (1000000 : Int64)) + (1000000 : Int64))), (.long (((((q1 / (1000000 : Int64)) - (1 : Int64)) - q2) + (1 : Int64)) * (1000000 : Int64)))])) _
    refine X0.ldc2Long hx hown (mvT hZ (hw _ (List.mem_of_getElem? (i := 91) rfl))) (g := (mkF m 94 #[.val (.long q1), .second, .val (.long q2), .second, .val (.long ((q1 / (1000000 : Int64)) - (1 : Int64))), .second, .val (.long ((q1 - (q1 / (1000000 : Int64)) * (1000000 : Int64)) + (1000000 : Int64))), .second, .val (.long (((q1 / (1000000 : Int64)) - (1 : Int64)) - q2)), .second] [(.long ((q1 - (q1 / (1000000 : Int64)) * (1000000 : Int64)) + (1000000 : Int64))), (.long (((((q1 / (1000000 : Int64)) - (1 : Int64)) - q2) + (1 : Int64)) * (1000000 : Int64)))])) rfl (hb hby d15_94) _ ?_
    show Steps p.tables e below (s₁.setTop (mkF m 97 #[.val (.long q1), .second, .val (.long q2), .second, .val (.long ((q1 / (1000000 : Int64)) - (1 : Int64))), .second, .val (.long ((q1 - (q1 / (1000000 : Int64)) * (1000000 : Int64)) + (1000000 : Int64))), .second, .val (.long (((q1 / (1000000 : Int64)) - (1 : Int64)) - q2)), .second] [(.long (1000000 : Int64)), (.long ((q1 - (q1 / (1000000 : Int64)) * (1000000 : Int64)) + (1000000 : Int64))), (.long (((((q1 / (1000000 : Int64)) - (1 : Int64)) - q2) + (1 : Int64)) * (1000000 : Int64)))])) _
    refine XS.lsub X0.here hx rfl (hb hby d15_97) rfl ?_
    show Steps p.tables e below (s₁.setTop (mkF m 98 #[.val (.long q1), .second, .val (.long q2), .second, .val (.long ((q1 / (1000000 : Int64)) - (1 : Int64))), .second, .val (.long ((q1 - (q1 / (1000000 : Int64)) * (1000000 : Int64)) + (1000000 : Int64))), .second, .val (.long (((q1 / (1000000 : Int64)) - (1 : Int64)) - q2)), .second] [(.long (((q1 - (q1 / (1000000 : Int64)) * (1000000 : Int64)) + (1000000 : Int64)) - (1000000 : Int64))), (.long (((((q1 / (1000000 : Int64)) - (1 : Int64)) - q2) + (1 : Int64)) * (1000000 : Int64)))])) _
    refine XS.ladd X0.here hx rfl (hb hby d15_98) rfl ?_
    show Steps p.tables e below (s₁.setTop (mkF m 99 #[.val (.long q1), .second, .val (.long q2), .second, .val (.long ((q1 / (1000000 : Int64)) - (1 : Int64))), .second, .val (.long ((q1 - (q1 / (1000000 : Int64)) * (1000000 : Int64)) + (1000000 : Int64))), .second, .val (.long (((q1 / (1000000 : Int64)) - (1 : Int64)) - q2)), .second] [(.long ((((((q1 / (1000000 : Int64)) - (1 : Int64)) - q2) + (1 : Int64)) * (1000000 : Int64)) + (((q1 - (q1 / (1000000 : Int64)) * (1000000 : Int64)) + (1000000 : Int64)) - (1000000 : Int64))))])) _
    exact own_retL X0 hx Bd.returns (hb hby d15_99) hr
  · show QJ (own_old q1 q2) h0 n0 _ s₁.heap _
    rw [e0]
    exact ⟨by rw [own_r2 (own_qM hb30) h1 hb5 hb59 hb68], N0, rfl⟩
set_option maxRecDepth 65536 in
set_option maxHeartbeats 40000000 in
theorem rmFM3 (l : Launch) (Z : State) (a0 : Array Value) (hw : ∀ d ∈ tables_1, d.before a0 Z = true) (ws : List Jvm.Cond) (q1 : Int64) (q2 : Int64) (h0 : Heap) (n0 : Nat) (Z0 : n0 ≤ h0.size) (h1 : ¬ q2 < (1 : Int64)) (hb5 : q2 < (9223372036855 : Int64)) (hb30 : (q1 - (q1 / (1000000 : Int64)) * (1000000 : Int64)) < (0 : Int64)) (hb59 : ¬ (((q1 / (1000000 : Int64)) - (1 : Int64)) - q2) < (-9223372036855 : Int64)) (hb68 : (((q1 / (1000000 : Int64)) - (1 : Int64)) - q2) = (-9223372036855 : Int64)) (hb77 : (224192 : Int64) < ((q1 - (q1 / (1000000 : Int64)) * (1000000 : Int64)) + (1000000 : Int64))) :
    MetFree l (⟨"com/example/sorted_map_store/sortedmapstore/ColumnFamilyOldestKeptPinLaw", "reference", "(JJ)J"⟩ : MethodName) (head1 (Jvm.Cond.code (⟨"com/example/sorted_map_store/sortedmapstore/ColumnFamilyOldestKeptPinLaw", "reference", "(JJ)J"⟩ : MethodName) method_2_code 10 (some .long) :: ws) ({ frames := 0, cells := 0, slots := 0, locals := 0 } : Room)) (fun a U => a = #[(.long q1), (.long q2)] ∧ Z.Warmed39 U.vm ∧ U.heap = h0) (fun _ _ _ _ _ => True) (fun _ U o U' => ∃ v L, o = .returned v ∧ QJ (own_old q1 q2) h0 n0 v U'.heap L ∧ FrameEnd U o U' L ({ frames := 0, cells := 0, slots := 0, locals := 0 } : Room).cells ({ frames := 0, cells := 0, slots := 0, locals := 0 } : Room).slots) := by
  refine MetFree.of_bodySF (plainFor_of_name own_pn7) hisR ?_
  intro p e s m args below meth c s₁ Bd hml0 hP hK
  obtain ⟨rfl, hZ, hh⟩ := hP
  have hx := Bd.exec
  have hby := Bd.bytes
  have hml : c.maxLocals = 10 := hml0
  have hown : s.vm.findClass "com/example/sorted_map_store/sortedmapstore/ColumnFamilyOldestKeptPinLaw" = some m.cls := findClass_of_methodNamed Bd.named
  have hnm := (name_of_methodNamed Bd.named Bd.method).1
  have X0 : Stand p l e ({ frames := 0, cells := 0, slots := 0, locals := 0 } : Room) s m #[(.long q1), (.long q2)] below meth c s₁ [] 0 0 := Stand.of_body Bd
  have e0 : s₁.heap = h0 := by rw [← hh, Bd.state]; rfl
  have N0 := Fr.nil n0
  have ef : entryFrame m #[(.long q1), (.long q2)] 10 = mkF m 0 #[.val (.long q1), .second, .val (.long q2), .second, .unset, .unset, .unset, .unset, .unset, .unset] [] := by first | (simp [entryFrame, mkF, argsToLocals, Value.category]; done) | rfl
  have pre0 : ∀ t, Steps p.tables e below (s₁.setTop (mkF m 0 #[.val (.long q1), .second, .val (.long q2), .second, .unset, .unset, .unset, .unset, .unset, .unset] [])) t → Steps p.tables e below (s₁.setTop (entryFrame m #[(.long q1), (.long q2)] 10)) t := fun t k => castTop ef k
  obtain ⟨fs, hr, hrun, hended, hW, hsame⟩ := X0.leave (v := some (.long ((((((q1 / (1000000 : Int64)) - (1 : Int64)) - q2) + (1 : Int64)) * (1000000 : Int64)) + (((q1 - (q1 / (1000000 : Int64)) * (1000000 : Int64)) + (1000000 : Int64)) - (1000000 : Int64))))) (fun h => by rw [Bd.returns] at h; cases h) (hlocks := Bd.notSynchronized)
  refine ⟨_, _, pre0 _ ?_, hrun, hended, _, _, rfl, ?_, ⟨_, rfl⟩, hW, hsame.mono (by decide) (by decide)⟩
  · show Steps p.tables e below (s₁.setTop (mkF m 0 #[.val (.long q1), .second, .val (.long q2), .second, .unset, .unset, .unset, .unset, .unset, .unset] [])) _
    refine XS.lloadN X0.here hx rfl (hb hby d15_0) rfl ?_
    show Steps p.tables e below (s₁.setTop (mkF m 1 #[.val (.long q1), .second, .val (.long q2), .second, .unset, .unset, .unset, .unset, .unset, .unset] [(.long q2)])) _
    refine X0.ldc2Long hx hown (mvT hZ (hw _ (List.mem_of_getElem? (i := 90) rfl))) (g := (mkF m 1 #[.val (.long q1), .second, .val (.long q2), .second, .unset, .unset, .unset, .unset, .unset, .unset] [(.long q2)])) rfl (hb hby d15_1) _ ?_
    show Steps p.tables e below (s₁.setTop (mkF m 4 #[.val (.long q1), .second, .val (.long q2), .second, .unset, .unset, .unset, .unset, .unset, .unset] [(.long (9223372036855 : Int64)), (.long q2)])) _
    refine XS.lcmp X0.here hx rfl (hb hby d15_4) rfl ?_
    show Steps p.tables e below (s₁.setTop (mkF m 5 #[.val (.long q1), .second, .val (.long q2), .second, .unset, .unset, .unset, .unset, .unset, .unset] [(.int (lcmpW q2 (9223372036855 : Int64)))])) _
    refine XS.ifYes X0.here hx rfl (pc0 := 5) (pc' := 12) rfl (hb hby d15_5) rfl ((if0 _ _).trans (tlt (own_lcLt hb5)).1) (by decide) (by decide) ?_
    show Steps p.tables e below (s₁.setTop (mkF m 12 #[.val (.long q1), .second, .val (.long q2), .second, .unset, .unset, .unset, .unset, .unset, .unset] [])) _
    refine XS.lloadN X0.here hx rfl (hb hby d15_12) rfl ?_
    show Steps p.tables e below (s₁.setTop (mkF m 13 #[.val (.long q1), .second, .val (.long q2), .second, .unset, .unset, .unset, .unset, .unset, .unset] [(.long q1)])) _
    refine X0.ldc2Long hx hown (mvT hZ (hw _ (List.mem_of_getElem? (i := 91) rfl))) (g := (mkF m 13 #[.val (.long q1), .second, .val (.long q2), .second, .unset, .unset, .unset, .unset, .unset, .unset] [(.long q1)])) rfl (hb hby d15_13) _ ?_
    show Steps p.tables e below (s₁.setTop (mkF m 16 #[.val (.long q1), .second, .val (.long q2), .second, .unset, .unset, .unset, .unset, .unset, .unset] [(.long (1000000 : Int64)), (.long q1)])) _
    refine XS.ldiv X0.here hx rfl (hb hby d15_16) rfl (by decide) ?_
    show Steps p.tables e below (s₁.setTop (mkF m 17 #[.val (.long q1), .second, .val (.long q2), .second, .unset, .unset, .unset, .unset, .unset, .unset] [(.long (q1 / (1000000 : Int64)))])) _
    refine XS.lstore X0.here hx rfl (hb hby d15_17) rfl (l' := #[.val (.long q1), .second, .val (.long q2), .second, .val (.long (q1 / (1000000 : Int64))), .second, .unset, .unset, .unset, .unset]) rfl ?_
    show Steps p.tables e below (s₁.setTop (mkF m 19 #[.val (.long q1), .second, .val (.long q2), .second, .val (.long (q1 / (1000000 : Int64))), .second, .unset, .unset, .unset, .unset] [])) _
    refine XS.lloadN X0.here hx rfl (hb hby d15_19) rfl ?_
    show Steps p.tables e below (s₁.setTop (mkF m 20 #[.val (.long q1), .second, .val (.long q2), .second, .val (.long (q1 / (1000000 : Int64))), .second, .unset, .unset, .unset, .unset] [(.long q1)])) _
    refine X0.ldc2Long hx hown (mvT hZ (hw _ (List.mem_of_getElem? (i := 91) rfl))) (g := (mkF m 20 #[.val (.long q1), .second, .val (.long q2), .second, .val (.long (q1 / (1000000 : Int64))), .second, .unset, .unset, .unset, .unset] [(.long q1)])) rfl (hb hby d15_20) _ ?_
    show Steps p.tables e below (s₁.setTop (mkF m 23 #[.val (.long q1), .second, .val (.long q2), .second, .val (.long (q1 / (1000000 : Int64))), .second, .unset, .unset, .unset, .unset] [(.long (1000000 : Int64)), (.long q1)])) _
    refine XS.lrem X0.here hx rfl (hb hby d15_23) rfl (by decide) ?_
    show Steps p.tables e below (s₁.setTop (mkF m 24 #[.val (.long q1), .second, .val (.long q2), .second, .val (.long (q1 / (1000000 : Int64))), .second, .unset, .unset, .unset, .unset] [(.long (q1 - (q1 / (1000000 : Int64)) * (1000000 : Int64)))])) _
    refine XS.lstore X0.here hx rfl (hb hby d15_24) rfl (l' := #[.val (.long q1), .second, .val (.long q2), .second, .val (.long (q1 / (1000000 : Int64))), .second, .val (.long (q1 - (q1 / (1000000 : Int64)) * (1000000 : Int64))), .second, .unset, .unset]) rfl ?_
    show Steps p.tables e below (s₁.setTop (mkF m 26 #[.val (.long q1), .second, .val (.long q2), .second, .val (.long (q1 / (1000000 : Int64))), .second, .val (.long (q1 - (q1 / (1000000 : Int64)) * (1000000 : Int64))), .second, .unset, .unset] [])) _
    refine XS.lload X0.here hx rfl (hb hby d15_26) rfl ?_
    show Steps p.tables e below (s₁.setTop (mkF m 28 #[.val (.long q1), .second, .val (.long q2), .second, .val (.long (q1 / (1000000 : Int64))), .second, .val (.long (q1 - (q1 / (1000000 : Int64)) * (1000000 : Int64))), .second, .unset, .unset] [(.long (q1 - (q1 / (1000000 : Int64)) * (1000000 : Int64)))])) _
    refine XS.lconst X0.here hx rfl (hb hby d15_28) ?_
    show Steps p.tables e below (s₁.setTop (mkF m 29 #[.val (.long q1), .second, .val (.long q2), .second, .val (.long (q1 / (1000000 : Int64))), .second, .val (.long (q1 - (q1 / (1000000 : Int64)) * (1000000 : Int64))), .second, .unset, .unset] [(.long (0 : Int64)), (.long (q1 - (q1 / (1000000 : Int64)) * (1000000 : Int64)))])) _
    refine XS.lcmp X0.here hx rfl (hb hby d15_29) rfl ?_
    show Steps p.tables e below (s₁.setTop (mkF m 30 #[.val (.long q1), .second, .val (.long q2), .second, .val (.long (q1 / (1000000 : Int64))), .second, .val (.long (q1 - (q1 / (1000000 : Int64)) * (1000000 : Int64))), .second, .unset, .unset] [(.int (lcmpW (q1 - (q1 / (1000000 : Int64)) * (1000000 : Int64)) (0 : Int64)))])) _
    refine XS.ifNo X0.here hx rfl (hb hby d15_30) rfl ((if0 _ _).trans (tlt (own_lcLt hb30)).2.1) ?_
    show Steps p.tables e below (s₁.setTop (mkF m 33 #[.val (.long q1), .second, .val (.long q2), .second, .val (.long (q1 / (1000000 : Int64))), .second, .val (.long (q1 - (q1 / (1000000 : Int64)) * (1000000 : Int64))), .second, .unset, .unset] [])) _
    refine XS.lload X0.here hx rfl (hb hby d15_33) rfl ?_
    show Steps p.tables e below (s₁.setTop (mkF m 35 #[.val (.long q1), .second, .val (.long q2), .second, .val (.long (q1 / (1000000 : Int64))), .second, .val (.long (q1 - (q1 / (1000000 : Int64)) * (1000000 : Int64))), .second, .unset, .unset] [(.long (q1 - (q1 / (1000000 : Int64)) * (1000000 : Int64)))])) _
    refine X0.ldc2Long hx hown (mvT hZ (hw _ (List.mem_of_getElem? (i := 91) rfl))) (g := (mkF m 35 #[.val (.long q1), .second, .val (.long q2), .second, .val (.long (q1 / (1000000 : Int64))), .second, .val (.long (q1 - (q1 / (1000000 : Int64)) * (1000000 : Int64))), .second, .unset, .unset] [(.long (q1 - (q1 / (1000000 : Int64)) * (1000000 : Int64)))])) rfl (hb hby d15_35) _ ?_
    show Steps p.tables e below (s₁.setTop (mkF m 38 #[.val (.long q1), .second, .val (.long q2), .second, .val (.long (q1 / (1000000 : Int64))), .second, .val (.long (q1 - (q1 / (1000000 : Int64)) * (1000000 : Int64))), .second, .unset, .unset] [(.long (1000000 : Int64)), (.long (q1 - (q1 / (1000000 : Int64)) * (1000000 : Int64)))])) _
    refine XS.ladd X0.here hx rfl (hb hby d15_38) rfl ?_
    show Steps p.tables e below (s₁.setTop (mkF m 39 #[.val (.long q1), .second, .val (.long q2), .second, .val (.long (q1 / (1000000 : Int64))), .second, .val (.long (q1 - (q1 / (1000000 : Int64)) * (1000000 : Int64))), .second, .unset, .unset] [(.long ((q1 - (q1 / (1000000 : Int64)) * (1000000 : Int64)) + (1000000 : Int64)))])) _
    refine XS.lstore X0.here hx rfl (hb hby d15_39) rfl (l' := #[.val (.long q1), .second, .val (.long q2), .second, .val (.long (q1 / (1000000 : Int64))), .second, .val (.long ((q1 - (q1 / (1000000 : Int64)) * (1000000 : Int64)) + (1000000 : Int64))), .second, .unset, .unset]) rfl ?_
    show Steps p.tables e below (s₁.setTop (mkF m 41 #[.val (.long q1), .second, .val (.long q2), .second, .val (.long (q1 / (1000000 : Int64))), .second, .val (.long ((q1 - (q1 / (1000000 : Int64)) * (1000000 : Int64)) + (1000000 : Int64))), .second, .unset, .unset] [])) _
    refine XS.lload X0.here hx rfl (hb hby d15_41) rfl ?_
    show Steps p.tables e below (s₁.setTop (mkF m 43 #[.val (.long q1), .second, .val (.long q2), .second, .val (.long (q1 / (1000000 : Int64))), .second, .val (.long ((q1 - (q1 / (1000000 : Int64)) * (1000000 : Int64)) + (1000000 : Int64))), .second, .unset, .unset] [(.long (q1 / (1000000 : Int64)))])) _
    refine XS.lconst X0.here hx rfl (hb hby d15_43) ?_
    show Steps p.tables e below (s₁.setTop (mkF m 44 #[.val (.long q1), .second, .val (.long q2), .second, .val (.long (q1 / (1000000 : Int64))), .second, .val (.long ((q1 - (q1 / (1000000 : Int64)) * (1000000 : Int64)) + (1000000 : Int64))), .second, .unset, .unset] [(.long (1 : Int64)), (.long (q1 / (1000000 : Int64)))])) _
    refine XS.lsub X0.here hx rfl (hb hby d15_44) rfl ?_
    show Steps p.tables e below (s₁.setTop (mkF m 45 #[.val (.long q1), .second, .val (.long q2), .second, .val (.long (q1 / (1000000 : Int64))), .second, .val (.long ((q1 - (q1 / (1000000 : Int64)) * (1000000 : Int64)) + (1000000 : Int64))), .second, .unset, .unset] [(.long ((q1 / (1000000 : Int64)) - (1 : Int64)))])) _
    refine XS.lstore X0.here hx rfl (hb hby d15_45) rfl (l' := #[.val (.long q1), .second, .val (.long q2), .second, .val (.long ((q1 / (1000000 : Int64)) - (1 : Int64))), .second, .val (.long ((q1 - (q1 / (1000000 : Int64)) * (1000000 : Int64)) + (1000000 : Int64))), .second, .unset, .unset]) rfl ?_
    show Steps p.tables e below (s₁.setTop (mkF m 47 #[.val (.long q1), .second, .val (.long q2), .second, .val (.long ((q1 / (1000000 : Int64)) - (1 : Int64))), .second, .val (.long ((q1 - (q1 / (1000000 : Int64)) * (1000000 : Int64)) + (1000000 : Int64))), .second, .unset, .unset] [])) _
    refine XS.lload X0.here hx rfl (hb hby d15_47) rfl ?_
    show Steps p.tables e below (s₁.setTop (mkF m 49 #[.val (.long q1), .second, .val (.long q2), .second, .val (.long ((q1 / (1000000 : Int64)) - (1 : Int64))), .second, .val (.long ((q1 - (q1 / (1000000 : Int64)) * (1000000 : Int64)) + (1000000 : Int64))), .second, .unset, .unset] [(.long ((q1 / (1000000 : Int64)) - (1 : Int64)))])) _
    refine XS.lloadN X0.here hx rfl (hb hby d15_49) rfl ?_
    show Steps p.tables e below (s₁.setTop (mkF m 50 #[.val (.long q1), .second, .val (.long q2), .second, .val (.long ((q1 / (1000000 : Int64)) - (1 : Int64))), .second, .val (.long ((q1 - (q1 / (1000000 : Int64)) * (1000000 : Int64)) + (1000000 : Int64))), .second, .unset, .unset] [(.long q2), (.long ((q1 / (1000000 : Int64)) - (1 : Int64)))])) _
    refine XS.lsub X0.here hx rfl (hb hby d15_50) rfl ?_
    show Steps p.tables e below (s₁.setTop (mkF m 51 #[.val (.long q1), .second, .val (.long q2), .second, .val (.long ((q1 / (1000000 : Int64)) - (1 : Int64))), .second, .val (.long ((q1 - (q1 / (1000000 : Int64)) * (1000000 : Int64)) + (1000000 : Int64))), .second, .unset, .unset] [(.long (((q1 / (1000000 : Int64)) - (1 : Int64)) - q2))])) _
    refine XS.lstore X0.here hx rfl (hb hby d15_51) rfl (l' := #[.val (.long q1), .second, .val (.long q2), .second, .val (.long ((q1 / (1000000 : Int64)) - (1 : Int64))), .second, .val (.long ((q1 - (q1 / (1000000 : Int64)) * (1000000 : Int64)) + (1000000 : Int64))), .second, .val (.long (((q1 / (1000000 : Int64)) - (1 : Int64)) - q2)), .second]) rfl ?_
    show Steps p.tables e below (s₁.setTop (mkF m 53 #[.val (.long q1), .second, .val (.long q2), .second, .val (.long ((q1 / (1000000 : Int64)) - (1 : Int64))), .second, .val (.long ((q1 - (q1 / (1000000 : Int64)) * (1000000 : Int64)) + (1000000 : Int64))), .second, .val (.long (((q1 / (1000000 : Int64)) - (1 : Int64)) - q2)), .second] [])) _
    refine XS.lload X0.here hx rfl (hb hby d15_53) rfl ?_
    show Steps p.tables e below (s₁.setTop (mkF m 55 #[.val (.long q1), .second, .val (.long q2), .second, .val (.long ((q1 / (1000000 : Int64)) - (1 : Int64))), .second, .val (.long ((q1 - (q1 / (1000000 : Int64)) * (1000000 : Int64)) + (1000000 : Int64))), .second, .val (.long (((q1 / (1000000 : Int64)) - (1 : Int64)) - q2)), .second] [(.long (((q1 / (1000000 : Int64)) - (1 : Int64)) - q2))])) _
    refine X0.ldc2Long hx hown (mvT hZ (hw _ (List.mem_of_getElem? (i := 92) rfl))) (g := (mkF m 55 #[.val (.long q1), .second, .val (.long q2), .second, .val (.long ((q1 / (1000000 : Int64)) - (1 : Int64))), .second, .val (.long ((q1 - (q1 / (1000000 : Int64)) * (1000000 : Int64)) + (1000000 : Int64))), .second, .val (.long (((q1 / (1000000 : Int64)) - (1 : Int64)) - q2)), .second] [(.long (((q1 / (1000000 : Int64)) - (1 : Int64)) - q2))])) rfl (hb hby d15_55) _ ?_
    show Steps p.tables e below (s₁.setTop (mkF m 58 #[.val (.long q1), .second, .val (.long q2), .second, .val (.long ((q1 / (1000000 : Int64)) - (1 : Int64))), .second, .val (.long ((q1 - (q1 / (1000000 : Int64)) * (1000000 : Int64)) + (1000000 : Int64))), .second, .val (.long (((q1 / (1000000 : Int64)) - (1 : Int64)) - q2)), .second] [(.long (-9223372036855 : Int64)), (.long (((q1 / (1000000 : Int64)) - (1 : Int64)) - q2))])) _
    refine XS.lcmp X0.here hx rfl (hb hby d15_58) rfl ?_
    show Steps p.tables e below (s₁.setTop (mkF m 59 #[.val (.long q1), .second, .val (.long q2), .second, .val (.long ((q1 / (1000000 : Int64)) - (1 : Int64))), .second, .val (.long ((q1 - (q1 / (1000000 : Int64)) * (1000000 : Int64)) + (1000000 : Int64))), .second, .val (.long (((q1 / (1000000 : Int64)) - (1 : Int64)) - q2)), .second] [(.int (lcmpW (((q1 / (1000000 : Int64)) - (1 : Int64)) - q2) (-9223372036855 : Int64)))])) _
    refine XS.ifNo X0.here hx rfl (hb hby d15_59) rfl ((if0 _ _).trans (flt (own_lcGe hb59)).1) ?_
    show Steps p.tables e below (s₁.setTop (mkF m 62 #[.val (.long q1), .second, .val (.long q2), .second, .val (.long ((q1 / (1000000 : Int64)) - (1 : Int64))), .second, .val (.long ((q1 - (q1 / (1000000 : Int64)) * (1000000 : Int64)) + (1000000 : Int64))), .second, .val (.long (((q1 / (1000000 : Int64)) - (1 : Int64)) - q2)), .second] [])) _
    refine XS.lload X0.here hx rfl (hb hby d15_62) rfl ?_
    show Steps p.tables e below (s₁.setTop (mkF m 64 #[.val (.long q1), .second, .val (.long q2), .second, .val (.long ((q1 / (1000000 : Int64)) - (1 : Int64))), .second, .val (.long ((q1 - (q1 / (1000000 : Int64)) * (1000000 : Int64)) + (1000000 : Int64))), .second, .val (.long (((q1 / (1000000 : Int64)) - (1 : Int64)) - q2)), .second] [(.long (((q1 / (1000000 : Int64)) - (1 : Int64)) - q2))])) _
    refine X0.ldc2Long hx hown (mvT hZ (hw _ (List.mem_of_getElem? (i := 92) rfl))) (g := (mkF m 64 #[.val (.long q1), .second, .val (.long q2), .second, .val (.long ((q1 / (1000000 : Int64)) - (1 : Int64))), .second, .val (.long ((q1 - (q1 / (1000000 : Int64)) * (1000000 : Int64)) + (1000000 : Int64))), .second, .val (.long (((q1 / (1000000 : Int64)) - (1 : Int64)) - q2)), .second] [(.long (((q1 / (1000000 : Int64)) - (1 : Int64)) - q2))])) rfl (hb hby d15_64) _ ?_
    show Steps p.tables e below (s₁.setTop (mkF m 67 #[.val (.long q1), .second, .val (.long q2), .second, .val (.long ((q1 / (1000000 : Int64)) - (1 : Int64))), .second, .val (.long ((q1 - (q1 / (1000000 : Int64)) * (1000000 : Int64)) + (1000000 : Int64))), .second, .val (.long (((q1 / (1000000 : Int64)) - (1 : Int64)) - q2)), .second] [(.long (-9223372036855 : Int64)), (.long (((q1 / (1000000 : Int64)) - (1 : Int64)) - q2))])) _
    refine XS.lcmp X0.here hx rfl (hb hby d15_67) rfl ?_
    show Steps p.tables e below (s₁.setTop (mkF m 68 #[.val (.long q1), .second, .val (.long q2), .second, .val (.long ((q1 / (1000000 : Int64)) - (1 : Int64))), .second, .val (.long ((q1 - (q1 / (1000000 : Int64)) * (1000000 : Int64)) + (1000000 : Int64))), .second, .val (.long (((q1 / (1000000 : Int64)) - (1 : Int64)) - q2)), .second] [(.int (lcmpW (((q1 / (1000000 : Int64)) - (1 : Int64)) - q2) (-9223372036855 : Int64)))])) _
    refine XS.ifNo X0.here hx rfl (hb hby d15_68) rfl ((if0 _ _).trans (teq (own_lcEq hb68)).2) ?_
    show Steps p.tables e below (s₁.setTop (mkF m 71 #[.val (.long q1), .second, .val (.long q2), .second, .val (.long ((q1 / (1000000 : Int64)) - (1 : Int64))), .second, .val (.long ((q1 - (q1 / (1000000 : Int64)) * (1000000 : Int64)) + (1000000 : Int64))), .second, .val (.long (((q1 / (1000000 : Int64)) - (1 : Int64)) - q2)), .second] [])) _
    refine XS.lload X0.here hx rfl (hb hby d15_71) rfl ?_
    show Steps p.tables e below (s₁.setTop (mkF m 73 #[.val (.long q1), .second, .val (.long q2), .second, .val (.long ((q1 / (1000000 : Int64)) - (1 : Int64))), .second, .val (.long ((q1 - (q1 / (1000000 : Int64)) * (1000000 : Int64)) + (1000000 : Int64))), .second, .val (.long (((q1 / (1000000 : Int64)) - (1 : Int64)) - q2)), .second] [(.long ((q1 - (q1 / (1000000 : Int64)) * (1000000 : Int64)) + (1000000 : Int64)))])) _
    refine X0.ldc2Long hx hown (mvT hZ (hw _ (List.mem_of_getElem? (i := 97) rfl))) (g := (mkF m 73 #[.val (.long q1), .second, .val (.long q2), .second, .val (.long ((q1 / (1000000 : Int64)) - (1 : Int64))), .second, .val (.long ((q1 - (q1 / (1000000 : Int64)) * (1000000 : Int64)) + (1000000 : Int64))), .second, .val (.long (((q1 / (1000000 : Int64)) - (1 : Int64)) - q2)), .second] [(.long ((q1 - (q1 / (1000000 : Int64)) * (1000000 : Int64)) + (1000000 : Int64)))])) rfl (hb hby d15_73) _ ?_
    show Steps p.tables e below (s₁.setTop (mkF m 76 #[.val (.long q1), .second, .val (.long q2), .second, .val (.long ((q1 / (1000000 : Int64)) - (1 : Int64))), .second, .val (.long ((q1 - (q1 / (1000000 : Int64)) * (1000000 : Int64)) + (1000000 : Int64))), .second, .val (.long (((q1 / (1000000 : Int64)) - (1 : Int64)) - q2)), .second] [(.long (224192 : Int64)), (.long ((q1 - (q1 / (1000000 : Int64)) * (1000000 : Int64)) + (1000000 : Int64)))])) _
    refine XS.lcmp X0.here hx rfl (hb hby d15_76) rfl ?_
    show Steps p.tables e below (s₁.setTop (mkF m 77 #[.val (.long q1), .second, .val (.long q2), .second, .val (.long ((q1 / (1000000 : Int64)) - (1 : Int64))), .second, .val (.long ((q1 - (q1 / (1000000 : Int64)) * (1000000 : Int64)) + (1000000 : Int64))), .second, .val (.long (((q1 / (1000000 : Int64)) - (1 : Int64)) - q2)), .second] [(.int (lcmpW ((q1 - (q1 / (1000000 : Int64)) * (1000000 : Int64)) + (1000000 : Int64)) (224192 : Int64)))])) _
    refine XS.ifYes X0.here hx rfl (pc0 := 77) (pc' := 84) rfl (hb hby d15_77) rfl ((if0 _ _).trans (tlt (own_lcGt hb77)).2.2.1) (by decide) (by decide) ?_
    show Steps p.tables e below (s₁.setTop (mkF m 84 #[.val (.long q1), .second, .val (.long q2), .second, .val (.long ((q1 / (1000000 : Int64)) - (1 : Int64))), .second, .val (.long ((q1 - (q1 / (1000000 : Int64)) * (1000000 : Int64)) + (1000000 : Int64))), .second, .val (.long (((q1 / (1000000 : Int64)) - (1 : Int64)) - q2)), .second] [])) _
    refine XS.lload X0.here hx rfl (hb hby d15_84) rfl ?_
    show Steps p.tables e below (s₁.setTop (mkF m 86 #[.val (.long q1), .second, .val (.long q2), .second, .val (.long ((q1 / (1000000 : Int64)) - (1 : Int64))), .second, .val (.long ((q1 - (q1 / (1000000 : Int64)) * (1000000 : Int64)) + (1000000 : Int64))), .second, .val (.long (((q1 / (1000000 : Int64)) - (1 : Int64)) - q2)), .second] [(.long (((q1 / (1000000 : Int64)) - (1 : Int64)) - q2))])) _
    refine XS.lconst X0.here hx rfl (hb hby d15_86) ?_
    show Steps p.tables e below (s₁.setTop (mkF m 87 #[.val (.long q1), .second, .val (.long q2), .second, .val (.long ((q1 / (1000000 : Int64)) - (1 : Int64))), .second, .val (.long ((q1 - (q1 / (1000000 : Int64)) * (1000000 : Int64)) + (1000000 : Int64))), .second, .val (.long (((q1 / (1000000 : Int64)) - (1 : Int64)) - q2)), .second] [(.long (1 : Int64)), (.long (((q1 / (1000000 : Int64)) - (1 : Int64)) - q2))])) _
    refine XS.ladd X0.here hx rfl (hb hby d15_87) rfl ?_
    show Steps p.tables e below (s₁.setTop (mkF m 88 #[.val (.long q1), .second, .val (.long q2), .second, .val (.long ((q1 / (1000000 : Int64)) - (1 : Int64))), .second, .val (.long ((q1 - (q1 / (1000000 : Int64)) * (1000000 : Int64)) + (1000000 : Int64))), .second, .val (.long (((q1 / (1000000 : Int64)) - (1 : Int64)) - q2)), .second] [(.long ((((q1 / (1000000 : Int64)) - (1 : Int64)) - q2) + (1 : Int64)))])) _
    refine X0.ldc2Long hx hown (mvT hZ (hw _ (List.mem_of_getElem? (i := 91) rfl))) (g := (mkF m 88 #[.val (.long q1), .second, .val (.long q2), .second, .val (.long ((q1 / (1000000 : Int64)) - (1 : Int64))), .second, .val (.long ((q1 - (q1 / (1000000 : Int64)) * (1000000 : Int64)) + (1000000 : Int64))), .second, .val (.long (((q1 / (1000000 : Int64)) - (1 : Int64)) - q2)), .second] [(.long ((((q1 / (1000000 : Int64)) - (1 : Int64)) - q2) + (1 : Int64)))])) rfl (hb hby d15_88) _ ?_
    show Steps p.tables e below (s₁.setTop (mkF m 91 #[.val (.long q1), .second, .val (.long q2), .second, .val (.long ((q1 / (1000000 : Int64)) - (1 : Int64))), .second, .val (.long ((q1 - (q1 / (1000000 : Int64)) * (1000000 : Int64)) + (1000000 : Int64))), .second, .val (.long (((q1 / (1000000 : Int64)) - (1 : Int64)) - q2)), .second] [(.long (1000000 : Int64)), (.long ((((q1 / (1000000 : Int64)) - (1 : Int64)) - q2) + (1 : Int64)))])) _
    refine XS.lmul X0.here hx rfl (hb hby d15_91) rfl ?_
    show Steps p.tables e below (s₁.setTop (mkF m 92 #[.val (.long q1), .second, .val (.long q2), .second, .val (.long ((q1 / (1000000 : Int64)) - (1 : Int64))), .second, .val (.long ((q1 - (q1 / (1000000 : Int64)) * (1000000 : Int64)) + (1000000 : Int64))), .second, .val (.long (((q1 / (1000000 : Int64)) - (1 : Int64)) - q2)), .second] [(.long (((((q1 / (1000000 : Int64)) - (1 : Int64)) - q2) + (1 : Int64)) * (1000000 : Int64)))])) _
    refine XS.lload X0.here hx rfl (hb hby d15_92) rfl ?_
    show Steps p.tables e below (s₁.setTop (mkF m 94 #[.val (.long q1), .second, .val (.long q2), .second, .val (.long ((q1 / (1000000 : Int64)) - (1 : Int64))), .second, .val (.long ((q1 - (q1 / (1000000 : Int64)) * (1000000 : Int64)) + (1000000 : Int64))), .second, .val (.long (((q1 / (1000000 : Int64)) - (1 : Int64)) - q2)), .second] [(.long ((q1 - (q1 / (1000000 : Int64)) * (1000000 : Int64)) + (1000000 : Int64))), (.long (((((q1 / (1000000 : Int64)) - (1 : Int64)) - q2) + (1 : Int64)) * (1000000 : Int64)))])) _
    refine X0.ldc2Long hx hown (mvT hZ (hw _ (List.mem_of_getElem? (i := 91) rfl))) (g := (mkF m 94 #[.val (.long q1), .second, .val (.long q2), .second, .val (.long ((q1 / (1000000 : Int64)) - (1 : Int64))), .second, .val (.long ((q1 - (q1 / (1000000 : Int64)) * (1000000 : Int64)) + (1000000 : Int64))), .second, .val (.long (((q1 / (1000000 : Int64)) - (1 : Int64)) - q2)), .second] [(.long ((q1 - (q1 / (1000000 : Int64)) * (1000000 : Int64)) + (1000000 : Int64))), (.long (((((q1 / (1000000 : Int64)) - (1 : Int64)) - q2) + (1 : Int64)) * (1000000 : Int64)))])) rfl (hb hby d15_94) _ ?_
    show Steps p.tables e below (s₁.setTop (mkF m 97 #[.val (.long q1), .second, .val (.long q2), .second, .val (.long ((q1 / (1000000 : Int64)) - (1 : Int64))), .second, .val (.long ((q1 - (q1 / (1000000 : Int64)) * (1000000 : Int64)) + (1000000 : Int64))), .second, .val (.long (((q1 / (1000000 : Int64)) - (1 : Int64)) - q2)), .second] [(.long (1000000 : Int64)), (.long ((q1 - (q1 / (1000000 : Int64)) * (1000000 : Int64)) + (1000000 : Int64))), (.long (((((q1 / (1000000 : Int64)) - (1 : Int64)) - q2) + (1 : Int64)) * (1000000 : Int64)))])) _
    refine XS.lsub X0.here hx rfl (hb hby d15_97) rfl ?_
    show Steps p.tables e below (s₁.setTop (mkF m 98 #[.val (.long q1), .second, .val (.long q2), .second, .val (.long ((q1 / (1000000 : Int64)) - (1 : Int64))), .second, .val (.long ((q1 - (q1 / (1000000 : Int64)) * (1000000 : Int64)) + (1000000 : Int64))), .second, .val (.long (((q1 / (1000000 : Int64)) - (1 : Int64)) - q2)), .second] [(.long (((q1 - (q1 / (1000000 : Int64)) * (1000000 : Int64)) + (1000000 : Int64)) - (1000000 : Int64))), (.long (((((q1 / (1000000 : Int64)) - (1 : Int64)) - q2) + (1 : Int64)) * (1000000 : Int64)))])) _
    refine XS.ladd X0.here hx rfl (hb hby d15_98) rfl ?_
    show Steps p.tables e below (s₁.setTop (mkF m 99 #[.val (.long q1), .second, .val (.long q2), .second, .val (.long ((q1 / (1000000 : Int64)) - (1 : Int64))), .second, .val (.long ((q1 - (q1 / (1000000 : Int64)) * (1000000 : Int64)) + (1000000 : Int64))), .second, .val (.long (((q1 / (1000000 : Int64)) - (1 : Int64)) - q2)), .second] [(.long ((((((q1 / (1000000 : Int64)) - (1 : Int64)) - q2) + (1 : Int64)) * (1000000 : Int64)) + (((q1 - (q1 / (1000000 : Int64)) * (1000000 : Int64)) + (1000000 : Int64)) - (1000000 : Int64))))])) _
    exact own_retL X0 hx Bd.returns (hb hby d15_99) hr
  · show QJ (own_old q1 q2) h0 n0 _ s₁.heap _
    rw [e0]
    exact ⟨by rw [own_r3 (own_qM hb30) h1 hb5 hb59 hb68 hb77], N0, rfl⟩
set_option maxRecDepth 65536 in
set_option maxHeartbeats 40000000 in
theorem rmFM4 (l : Launch) (Z : State) (a0 : Array Value) (hw : ∀ d ∈ tables_1, d.before a0 Z = true) (ws : List Jvm.Cond) (q1 : Int64) (q2 : Int64) (h0 : Heap) (n0 : Nat) (Z0 : n0 ≤ h0.size) (h1 : ¬ q2 < (1 : Int64)) (hb5 : q2 < (9223372036855 : Int64)) (hb30 : (q1 - (q1 / (1000000 : Int64)) * (1000000 : Int64)) < (0 : Int64)) (hb59 : ¬ (((q1 / (1000000 : Int64)) - (1 : Int64)) - q2) < (-9223372036855 : Int64)) (hb68 : (((q1 / (1000000 : Int64)) - (1 : Int64)) - q2) = (-9223372036855 : Int64)) (hb77 : ¬ (224192 : Int64) < ((q1 - (q1 / (1000000 : Int64)) * (1000000 : Int64)) + (1000000 : Int64))) :
    MetFree l (⟨"com/example/sorted_map_store/sortedmapstore/ColumnFamilyOldestKeptPinLaw", "reference", "(JJ)J"⟩ : MethodName) (head1 (Jvm.Cond.code (⟨"com/example/sorted_map_store/sortedmapstore/ColumnFamilyOldestKeptPinLaw", "reference", "(JJ)J"⟩ : MethodName) method_2_code 10 (some .long) :: ws) ({ frames := 0, cells := 0, slots := 0, locals := 0 } : Room)) (fun a U => a = #[(.long q1), (.long q2)] ∧ Z.Warmed39 U.vm ∧ U.heap = h0) (fun _ _ _ _ _ => True) (fun _ U o U' => ∃ v L, o = .returned v ∧ QJ (own_old q1 q2) h0 n0 v U'.heap L ∧ FrameEnd U o U' L ({ frames := 0, cells := 0, slots := 0, locals := 0 } : Room).cells ({ frames := 0, cells := 0, slots := 0, locals := 0 } : Room).slots) := by
  refine MetFree.of_bodySF (plainFor_of_name own_pn7) hisR ?_
  intro p e s m args below meth c s₁ Bd hml0 hP hK
  obtain ⟨rfl, hZ, hh⟩ := hP
  have hx := Bd.exec
  have hby := Bd.bytes
  have hml : c.maxLocals = 10 := hml0
  have hown : s.vm.findClass "com/example/sorted_map_store/sortedmapstore/ColumnFamilyOldestKeptPinLaw" = some m.cls := findClass_of_methodNamed Bd.named
  have hnm := (name_of_methodNamed Bd.named Bd.method).1
  have X0 : Stand p l e ({ frames := 0, cells := 0, slots := 0, locals := 0 } : Room) s m #[(.long q1), (.long q2)] below meth c s₁ [] 0 0 := Stand.of_body Bd
  have e0 : s₁.heap = h0 := by rw [← hh, Bd.state]; rfl
  have N0 := Fr.nil n0
  have ef : entryFrame m #[(.long q1), (.long q2)] 10 = mkF m 0 #[.val (.long q1), .second, .val (.long q2), .second, .unset, .unset, .unset, .unset, .unset, .unset] [] := by first | (simp [entryFrame, mkF, argsToLocals, Value.category]; done) | rfl
  have pre0 : ∀ t, Steps p.tables e below (s₁.setTop (mkF m 0 #[.val (.long q1), .second, .val (.long q2), .second, .unset, .unset, .unset, .unset, .unset, .unset] [])) t → Steps p.tables e below (s₁.setTop (entryFrame m #[(.long q1), (.long q2)] 10)) t := fun t k => castTop ef k
  obtain ⟨fs, hr, hrun, hended, hW, hsame⟩ := X0.leave (v := some (.long (-9223372036854775808 : Int64))) (fun h => by rw [Bd.returns] at h; cases h) (hlocks := Bd.notSynchronized)
  refine ⟨_, _, pre0 _ ?_, hrun, hended, _, _, rfl, ?_, ⟨_, rfl⟩, hW, hsame.mono (by decide) (by decide)⟩
  · show Steps p.tables e below (s₁.setTop (mkF m 0 #[.val (.long q1), .second, .val (.long q2), .second, .unset, .unset, .unset, .unset, .unset, .unset] [])) _
    refine XS.lloadN X0.here hx rfl (hb hby d15_0) rfl ?_
    show Steps p.tables e below (s₁.setTop (mkF m 1 #[.val (.long q1), .second, .val (.long q2), .second, .unset, .unset, .unset, .unset, .unset, .unset] [(.long q2)])) _
    refine X0.ldc2Long hx hown (mvT hZ (hw _ (List.mem_of_getElem? (i := 90) rfl))) (g := (mkF m 1 #[.val (.long q1), .second, .val (.long q2), .second, .unset, .unset, .unset, .unset, .unset, .unset] [(.long q2)])) rfl (hb hby d15_1) _ ?_
    show Steps p.tables e below (s₁.setTop (mkF m 4 #[.val (.long q1), .second, .val (.long q2), .second, .unset, .unset, .unset, .unset, .unset, .unset] [(.long (9223372036855 : Int64)), (.long q2)])) _
    refine XS.lcmp X0.here hx rfl (hb hby d15_4) rfl ?_
    show Steps p.tables e below (s₁.setTop (mkF m 5 #[.val (.long q1), .second, .val (.long q2), .second, .unset, .unset, .unset, .unset, .unset, .unset] [(.int (lcmpW q2 (9223372036855 : Int64)))])) _
    refine XS.ifYes X0.here hx rfl (pc0 := 5) (pc' := 12) rfl (hb hby d15_5) rfl ((if0 _ _).trans (tlt (own_lcLt hb5)).1) (by decide) (by decide) ?_
    show Steps p.tables e below (s₁.setTop (mkF m 12 #[.val (.long q1), .second, .val (.long q2), .second, .unset, .unset, .unset, .unset, .unset, .unset] [])) _
    refine XS.lloadN X0.here hx rfl (hb hby d15_12) rfl ?_
    show Steps p.tables e below (s₁.setTop (mkF m 13 #[.val (.long q1), .second, .val (.long q2), .second, .unset, .unset, .unset, .unset, .unset, .unset] [(.long q1)])) _
    refine X0.ldc2Long hx hown (mvT hZ (hw _ (List.mem_of_getElem? (i := 91) rfl))) (g := (mkF m 13 #[.val (.long q1), .second, .val (.long q2), .second, .unset, .unset, .unset, .unset, .unset, .unset] [(.long q1)])) rfl (hb hby d15_13) _ ?_
    show Steps p.tables e below (s₁.setTop (mkF m 16 #[.val (.long q1), .second, .val (.long q2), .second, .unset, .unset, .unset, .unset, .unset, .unset] [(.long (1000000 : Int64)), (.long q1)])) _
    refine XS.ldiv X0.here hx rfl (hb hby d15_16) rfl (by decide) ?_
    show Steps p.tables e below (s₁.setTop (mkF m 17 #[.val (.long q1), .second, .val (.long q2), .second, .unset, .unset, .unset, .unset, .unset, .unset] [(.long (q1 / (1000000 : Int64)))])) _
    refine XS.lstore X0.here hx rfl (hb hby d15_17) rfl (l' := #[.val (.long q1), .second, .val (.long q2), .second, .val (.long (q1 / (1000000 : Int64))), .second, .unset, .unset, .unset, .unset]) rfl ?_
    show Steps p.tables e below (s₁.setTop (mkF m 19 #[.val (.long q1), .second, .val (.long q2), .second, .val (.long (q1 / (1000000 : Int64))), .second, .unset, .unset, .unset, .unset] [])) _
    refine XS.lloadN X0.here hx rfl (hb hby d15_19) rfl ?_
    show Steps p.tables e below (s₁.setTop (mkF m 20 #[.val (.long q1), .second, .val (.long q2), .second, .val (.long (q1 / (1000000 : Int64))), .second, .unset, .unset, .unset, .unset] [(.long q1)])) _
    refine X0.ldc2Long hx hown (mvT hZ (hw _ (List.mem_of_getElem? (i := 91) rfl))) (g := (mkF m 20 #[.val (.long q1), .second, .val (.long q2), .second, .val (.long (q1 / (1000000 : Int64))), .second, .unset, .unset, .unset, .unset] [(.long q1)])) rfl (hb hby d15_20) _ ?_
    show Steps p.tables e below (s₁.setTop (mkF m 23 #[.val (.long q1), .second, .val (.long q2), .second, .val (.long (q1 / (1000000 : Int64))), .second, .unset, .unset, .unset, .unset] [(.long (1000000 : Int64)), (.long q1)])) _
    refine XS.lrem X0.here hx rfl (hb hby d15_23) rfl (by decide) ?_
    show Steps p.tables e below (s₁.setTop (mkF m 24 #[.val (.long q1), .second, .val (.long q2), .second, .val (.long (q1 / (1000000 : Int64))), .second, .unset, .unset, .unset, .unset] [(.long (q1 - (q1 / (1000000 : Int64)) * (1000000 : Int64)))])) _
    refine XS.lstore X0.here hx rfl (hb hby d15_24) rfl (l' := #[.val (.long q1), .second, .val (.long q2), .second, .val (.long (q1 / (1000000 : Int64))), .second, .val (.long (q1 - (q1 / (1000000 : Int64)) * (1000000 : Int64))), .second, .unset, .unset]) rfl ?_
    show Steps p.tables e below (s₁.setTop (mkF m 26 #[.val (.long q1), .second, .val (.long q2), .second, .val (.long (q1 / (1000000 : Int64))), .second, .val (.long (q1 - (q1 / (1000000 : Int64)) * (1000000 : Int64))), .second, .unset, .unset] [])) _
    refine XS.lload X0.here hx rfl (hb hby d15_26) rfl ?_
    show Steps p.tables e below (s₁.setTop (mkF m 28 #[.val (.long q1), .second, .val (.long q2), .second, .val (.long (q1 / (1000000 : Int64))), .second, .val (.long (q1 - (q1 / (1000000 : Int64)) * (1000000 : Int64))), .second, .unset, .unset] [(.long (q1 - (q1 / (1000000 : Int64)) * (1000000 : Int64)))])) _
    refine XS.lconst X0.here hx rfl (hb hby d15_28) ?_
    show Steps p.tables e below (s₁.setTop (mkF m 29 #[.val (.long q1), .second, .val (.long q2), .second, .val (.long (q1 / (1000000 : Int64))), .second, .val (.long (q1 - (q1 / (1000000 : Int64)) * (1000000 : Int64))), .second, .unset, .unset] [(.long (0 : Int64)), (.long (q1 - (q1 / (1000000 : Int64)) * (1000000 : Int64)))])) _
    refine XS.lcmp X0.here hx rfl (hb hby d15_29) rfl ?_
    show Steps p.tables e below (s₁.setTop (mkF m 30 #[.val (.long q1), .second, .val (.long q2), .second, .val (.long (q1 / (1000000 : Int64))), .second, .val (.long (q1 - (q1 / (1000000 : Int64)) * (1000000 : Int64))), .second, .unset, .unset] [(.int (lcmpW (q1 - (q1 / (1000000 : Int64)) * (1000000 : Int64)) (0 : Int64)))])) _
    refine XS.ifNo X0.here hx rfl (hb hby d15_30) rfl ((if0 _ _).trans (tlt (own_lcLt hb30)).2.1) ?_
    show Steps p.tables e below (s₁.setTop (mkF m 33 #[.val (.long q1), .second, .val (.long q2), .second, .val (.long (q1 / (1000000 : Int64))), .second, .val (.long (q1 - (q1 / (1000000 : Int64)) * (1000000 : Int64))), .second, .unset, .unset] [])) _
    refine XS.lload X0.here hx rfl (hb hby d15_33) rfl ?_
    show Steps p.tables e below (s₁.setTop (mkF m 35 #[.val (.long q1), .second, .val (.long q2), .second, .val (.long (q1 / (1000000 : Int64))), .second, .val (.long (q1 - (q1 / (1000000 : Int64)) * (1000000 : Int64))), .second, .unset, .unset] [(.long (q1 - (q1 / (1000000 : Int64)) * (1000000 : Int64)))])) _
    refine X0.ldc2Long hx hown (mvT hZ (hw _ (List.mem_of_getElem? (i := 91) rfl))) (g := (mkF m 35 #[.val (.long q1), .second, .val (.long q2), .second, .val (.long (q1 / (1000000 : Int64))), .second, .val (.long (q1 - (q1 / (1000000 : Int64)) * (1000000 : Int64))), .second, .unset, .unset] [(.long (q1 - (q1 / (1000000 : Int64)) * (1000000 : Int64)))])) rfl (hb hby d15_35) _ ?_
    show Steps p.tables e below (s₁.setTop (mkF m 38 #[.val (.long q1), .second, .val (.long q2), .second, .val (.long (q1 / (1000000 : Int64))), .second, .val (.long (q1 - (q1 / (1000000 : Int64)) * (1000000 : Int64))), .second, .unset, .unset] [(.long (1000000 : Int64)), (.long (q1 - (q1 / (1000000 : Int64)) * (1000000 : Int64)))])) _
    refine XS.ladd X0.here hx rfl (hb hby d15_38) rfl ?_
    show Steps p.tables e below (s₁.setTop (mkF m 39 #[.val (.long q1), .second, .val (.long q2), .second, .val (.long (q1 / (1000000 : Int64))), .second, .val (.long (q1 - (q1 / (1000000 : Int64)) * (1000000 : Int64))), .second, .unset, .unset] [(.long ((q1 - (q1 / (1000000 : Int64)) * (1000000 : Int64)) + (1000000 : Int64)))])) _
    refine XS.lstore X0.here hx rfl (hb hby d15_39) rfl (l' := #[.val (.long q1), .second, .val (.long q2), .second, .val (.long (q1 / (1000000 : Int64))), .second, .val (.long ((q1 - (q1 / (1000000 : Int64)) * (1000000 : Int64)) + (1000000 : Int64))), .second, .unset, .unset]) rfl ?_
    show Steps p.tables e below (s₁.setTop (mkF m 41 #[.val (.long q1), .second, .val (.long q2), .second, .val (.long (q1 / (1000000 : Int64))), .second, .val (.long ((q1 - (q1 / (1000000 : Int64)) * (1000000 : Int64)) + (1000000 : Int64))), .second, .unset, .unset] [])) _
    refine XS.lload X0.here hx rfl (hb hby d15_41) rfl ?_
    show Steps p.tables e below (s₁.setTop (mkF m 43 #[.val (.long q1), .second, .val (.long q2), .second, .val (.long (q1 / (1000000 : Int64))), .second, .val (.long ((q1 - (q1 / (1000000 : Int64)) * (1000000 : Int64)) + (1000000 : Int64))), .second, .unset, .unset] [(.long (q1 / (1000000 : Int64)))])) _
    refine XS.lconst X0.here hx rfl (hb hby d15_43) ?_
    show Steps p.tables e below (s₁.setTop (mkF m 44 #[.val (.long q1), .second, .val (.long q2), .second, .val (.long (q1 / (1000000 : Int64))), .second, .val (.long ((q1 - (q1 / (1000000 : Int64)) * (1000000 : Int64)) + (1000000 : Int64))), .second, .unset, .unset] [(.long (1 : Int64)), (.long (q1 / (1000000 : Int64)))])) _
    refine XS.lsub X0.here hx rfl (hb hby d15_44) rfl ?_
    show Steps p.tables e below (s₁.setTop (mkF m 45 #[.val (.long q1), .second, .val (.long q2), .second, .val (.long (q1 / (1000000 : Int64))), .second, .val (.long ((q1 - (q1 / (1000000 : Int64)) * (1000000 : Int64)) + (1000000 : Int64))), .second, .unset, .unset] [(.long ((q1 / (1000000 : Int64)) - (1 : Int64)))])) _
    refine XS.lstore X0.here hx rfl (hb hby d15_45) rfl (l' := #[.val (.long q1), .second, .val (.long q2), .second, .val (.long ((q1 / (1000000 : Int64)) - (1 : Int64))), .second, .val (.long ((q1 - (q1 / (1000000 : Int64)) * (1000000 : Int64)) + (1000000 : Int64))), .second, .unset, .unset]) rfl ?_
    show Steps p.tables e below (s₁.setTop (mkF m 47 #[.val (.long q1), .second, .val (.long q2), .second, .val (.long ((q1 / (1000000 : Int64)) - (1 : Int64))), .second, .val (.long ((q1 - (q1 / (1000000 : Int64)) * (1000000 : Int64)) + (1000000 : Int64))), .second, .unset, .unset] [])) _
    refine XS.lload X0.here hx rfl (hb hby d15_47) rfl ?_
    show Steps p.tables e below (s₁.setTop (mkF m 49 #[.val (.long q1), .second, .val (.long q2), .second, .val (.long ((q1 / (1000000 : Int64)) - (1 : Int64))), .second, .val (.long ((q1 - (q1 / (1000000 : Int64)) * (1000000 : Int64)) + (1000000 : Int64))), .second, .unset, .unset] [(.long ((q1 / (1000000 : Int64)) - (1 : Int64)))])) _
    refine XS.lloadN X0.here hx rfl (hb hby d15_49) rfl ?_
    show Steps p.tables e below (s₁.setTop (mkF m 50 #[.val (.long q1), .second, .val (.long q2), .second, .val (.long ((q1 / (1000000 : Int64)) - (1 : Int64))), .second, .val (.long ((q1 - (q1 / (1000000 : Int64)) * (1000000 : Int64)) + (1000000 : Int64))), .second, .unset, .unset] [(.long q2), (.long ((q1 / (1000000 : Int64)) - (1 : Int64)))])) _
    refine XS.lsub X0.here hx rfl (hb hby d15_50) rfl ?_
    show Steps p.tables e below (s₁.setTop (mkF m 51 #[.val (.long q1), .second, .val (.long q2), .second, .val (.long ((q1 / (1000000 : Int64)) - (1 : Int64))), .second, .val (.long ((q1 - (q1 / (1000000 : Int64)) * (1000000 : Int64)) + (1000000 : Int64))), .second, .unset, .unset] [(.long (((q1 / (1000000 : Int64)) - (1 : Int64)) - q2))])) _
    refine XS.lstore X0.here hx rfl (hb hby d15_51) rfl (l' := #[.val (.long q1), .second, .val (.long q2), .second, .val (.long ((q1 / (1000000 : Int64)) - (1 : Int64))), .second, .val (.long ((q1 - (q1 / (1000000 : Int64)) * (1000000 : Int64)) + (1000000 : Int64))), .second, .val (.long (((q1 / (1000000 : Int64)) - (1 : Int64)) - q2)), .second]) rfl ?_
    show Steps p.tables e below (s₁.setTop (mkF m 53 #[.val (.long q1), .second, .val (.long q2), .second, .val (.long ((q1 / (1000000 : Int64)) - (1 : Int64))), .second, .val (.long ((q1 - (q1 / (1000000 : Int64)) * (1000000 : Int64)) + (1000000 : Int64))), .second, .val (.long (((q1 / (1000000 : Int64)) - (1 : Int64)) - q2)), .second] [])) _
    refine XS.lload X0.here hx rfl (hb hby d15_53) rfl ?_
    show Steps p.tables e below (s₁.setTop (mkF m 55 #[.val (.long q1), .second, .val (.long q2), .second, .val (.long ((q1 / (1000000 : Int64)) - (1 : Int64))), .second, .val (.long ((q1 - (q1 / (1000000 : Int64)) * (1000000 : Int64)) + (1000000 : Int64))), .second, .val (.long (((q1 / (1000000 : Int64)) - (1 : Int64)) - q2)), .second] [(.long (((q1 / (1000000 : Int64)) - (1 : Int64)) - q2))])) _
    refine X0.ldc2Long hx hown (mvT hZ (hw _ (List.mem_of_getElem? (i := 92) rfl))) (g := (mkF m 55 #[.val (.long q1), .second, .val (.long q2), .second, .val (.long ((q1 / (1000000 : Int64)) - (1 : Int64))), .second, .val (.long ((q1 - (q1 / (1000000 : Int64)) * (1000000 : Int64)) + (1000000 : Int64))), .second, .val (.long (((q1 / (1000000 : Int64)) - (1 : Int64)) - q2)), .second] [(.long (((q1 / (1000000 : Int64)) - (1 : Int64)) - q2))])) rfl (hb hby d15_55) _ ?_
    show Steps p.tables e below (s₁.setTop (mkF m 58 #[.val (.long q1), .second, .val (.long q2), .second, .val (.long ((q1 / (1000000 : Int64)) - (1 : Int64))), .second, .val (.long ((q1 - (q1 / (1000000 : Int64)) * (1000000 : Int64)) + (1000000 : Int64))), .second, .val (.long (((q1 / (1000000 : Int64)) - (1 : Int64)) - q2)), .second] [(.long (-9223372036855 : Int64)), (.long (((q1 / (1000000 : Int64)) - (1 : Int64)) - q2))])) _
    refine XS.lcmp X0.here hx rfl (hb hby d15_58) rfl ?_
    show Steps p.tables e below (s₁.setTop (mkF m 59 #[.val (.long q1), .second, .val (.long q2), .second, .val (.long ((q1 / (1000000 : Int64)) - (1 : Int64))), .second, .val (.long ((q1 - (q1 / (1000000 : Int64)) * (1000000 : Int64)) + (1000000 : Int64))), .second, .val (.long (((q1 / (1000000 : Int64)) - (1 : Int64)) - q2)), .second] [(.int (lcmpW (((q1 / (1000000 : Int64)) - (1 : Int64)) - q2) (-9223372036855 : Int64)))])) _
    refine XS.ifNo X0.here hx rfl (hb hby d15_59) rfl ((if0 _ _).trans (flt (own_lcGe hb59)).1) ?_
    show Steps p.tables e below (s₁.setTop (mkF m 62 #[.val (.long q1), .second, .val (.long q2), .second, .val (.long ((q1 / (1000000 : Int64)) - (1 : Int64))), .second, .val (.long ((q1 - (q1 / (1000000 : Int64)) * (1000000 : Int64)) + (1000000 : Int64))), .second, .val (.long (((q1 / (1000000 : Int64)) - (1 : Int64)) - q2)), .second] [])) _
    refine XS.lload X0.here hx rfl (hb hby d15_62) rfl ?_
    show Steps p.tables e below (s₁.setTop (mkF m 64 #[.val (.long q1), .second, .val (.long q2), .second, .val (.long ((q1 / (1000000 : Int64)) - (1 : Int64))), .second, .val (.long ((q1 - (q1 / (1000000 : Int64)) * (1000000 : Int64)) + (1000000 : Int64))), .second, .val (.long (((q1 / (1000000 : Int64)) - (1 : Int64)) - q2)), .second] [(.long (((q1 / (1000000 : Int64)) - (1 : Int64)) - q2))])) _
    refine X0.ldc2Long hx hown (mvT hZ (hw _ (List.mem_of_getElem? (i := 92) rfl))) (g := (mkF m 64 #[.val (.long q1), .second, .val (.long q2), .second, .val (.long ((q1 / (1000000 : Int64)) - (1 : Int64))), .second, .val (.long ((q1 - (q1 / (1000000 : Int64)) * (1000000 : Int64)) + (1000000 : Int64))), .second, .val (.long (((q1 / (1000000 : Int64)) - (1 : Int64)) - q2)), .second] [(.long (((q1 / (1000000 : Int64)) - (1 : Int64)) - q2))])) rfl (hb hby d15_64) _ ?_
    show Steps p.tables e below (s₁.setTop (mkF m 67 #[.val (.long q1), .second, .val (.long q2), .second, .val (.long ((q1 / (1000000 : Int64)) - (1 : Int64))), .second, .val (.long ((q1 - (q1 / (1000000 : Int64)) * (1000000 : Int64)) + (1000000 : Int64))), .second, .val (.long (((q1 / (1000000 : Int64)) - (1 : Int64)) - q2)), .second] [(.long (-9223372036855 : Int64)), (.long (((q1 / (1000000 : Int64)) - (1 : Int64)) - q2))])) _
    refine XS.lcmp X0.here hx rfl (hb hby d15_67) rfl ?_
    show Steps p.tables e below (s₁.setTop (mkF m 68 #[.val (.long q1), .second, .val (.long q2), .second, .val (.long ((q1 / (1000000 : Int64)) - (1 : Int64))), .second, .val (.long ((q1 - (q1 / (1000000 : Int64)) * (1000000 : Int64)) + (1000000 : Int64))), .second, .val (.long (((q1 / (1000000 : Int64)) - (1 : Int64)) - q2)), .second] [(.int (lcmpW (((q1 / (1000000 : Int64)) - (1 : Int64)) - q2) (-9223372036855 : Int64)))])) _
    refine XS.ifNo X0.here hx rfl (hb hby d15_68) rfl ((if0 _ _).trans (teq (own_lcEq hb68)).2) ?_
    show Steps p.tables e below (s₁.setTop (mkF m 71 #[.val (.long q1), .second, .val (.long q2), .second, .val (.long ((q1 / (1000000 : Int64)) - (1 : Int64))), .second, .val (.long ((q1 - (q1 / (1000000 : Int64)) * (1000000 : Int64)) + (1000000 : Int64))), .second, .val (.long (((q1 / (1000000 : Int64)) - (1 : Int64)) - q2)), .second] [])) _
    refine XS.lload X0.here hx rfl (hb hby d15_71) rfl ?_
    show Steps p.tables e below (s₁.setTop (mkF m 73 #[.val (.long q1), .second, .val (.long q2), .second, .val (.long ((q1 / (1000000 : Int64)) - (1 : Int64))), .second, .val (.long ((q1 - (q1 / (1000000 : Int64)) * (1000000 : Int64)) + (1000000 : Int64))), .second, .val (.long (((q1 / (1000000 : Int64)) - (1 : Int64)) - q2)), .second] [(.long ((q1 - (q1 / (1000000 : Int64)) * (1000000 : Int64)) + (1000000 : Int64)))])) _
    refine X0.ldc2Long hx hown (mvT hZ (hw _ (List.mem_of_getElem? (i := 97) rfl))) (g := (mkF m 73 #[.val (.long q1), .second, .val (.long q2), .second, .val (.long ((q1 / (1000000 : Int64)) - (1 : Int64))), .second, .val (.long ((q1 - (q1 / (1000000 : Int64)) * (1000000 : Int64)) + (1000000 : Int64))), .second, .val (.long (((q1 / (1000000 : Int64)) - (1 : Int64)) - q2)), .second] [(.long ((q1 - (q1 / (1000000 : Int64)) * (1000000 : Int64)) + (1000000 : Int64)))])) rfl (hb hby d15_73) _ ?_
    show Steps p.tables e below (s₁.setTop (mkF m 76 #[.val (.long q1), .second, .val (.long q2), .second, .val (.long ((q1 / (1000000 : Int64)) - (1 : Int64))), .second, .val (.long ((q1 - (q1 / (1000000 : Int64)) * (1000000 : Int64)) + (1000000 : Int64))), .second, .val (.long (((q1 / (1000000 : Int64)) - (1 : Int64)) - q2)), .second] [(.long (224192 : Int64)), (.long ((q1 - (q1 / (1000000 : Int64)) * (1000000 : Int64)) + (1000000 : Int64)))])) _
    refine XS.lcmp X0.here hx rfl (hb hby d15_76) rfl ?_
    show Steps p.tables e below (s₁.setTop (mkF m 77 #[.val (.long q1), .second, .val (.long q2), .second, .val (.long ((q1 / (1000000 : Int64)) - (1 : Int64))), .second, .val (.long ((q1 - (q1 / (1000000 : Int64)) * (1000000 : Int64)) + (1000000 : Int64))), .second, .val (.long (((q1 / (1000000 : Int64)) - (1 : Int64)) - q2)), .second] [(.int (lcmpW ((q1 - (q1 / (1000000 : Int64)) * (1000000 : Int64)) + (1000000 : Int64)) (224192 : Int64)))])) _
    refine XS.ifNo X0.here hx rfl (hb hby d15_77) rfl ((if0 _ _).trans (flt (own_lcLe hb77)).2.2.1) ?_
    show Steps p.tables e below (s₁.setTop (mkF m 80 #[.val (.long q1), .second, .val (.long q2), .second, .val (.long ((q1 / (1000000 : Int64)) - (1 : Int64))), .second, .val (.long ((q1 - (q1 / (1000000 : Int64)) * (1000000 : Int64)) + (1000000 : Int64))), .second, .val (.long (((q1 / (1000000 : Int64)) - (1 : Int64)) - q2)), .second] [])) _
    refine X0.ldc2Long hx hown (mvT hZ (hw _ (List.mem_of_getElem? (i := 93) rfl))) (g := (mkF m 80 #[.val (.long q1), .second, .val (.long q2), .second, .val (.long ((q1 / (1000000 : Int64)) - (1 : Int64))), .second, .val (.long ((q1 - (q1 / (1000000 : Int64)) * (1000000 : Int64)) + (1000000 : Int64))), .second, .val (.long (((q1 / (1000000 : Int64)) - (1 : Int64)) - q2)), .second] [])) rfl (hb hby d15_80) _ ?_
    show Steps p.tables e below (s₁.setTop (mkF m 83 #[.val (.long q1), .second, .val (.long q2), .second, .val (.long ((q1 / (1000000 : Int64)) - (1 : Int64))), .second, .val (.long ((q1 - (q1 / (1000000 : Int64)) * (1000000 : Int64)) + (1000000 : Int64))), .second, .val (.long (((q1 / (1000000 : Int64)) - (1 : Int64)) - q2)), .second] [(.long (-9223372036854775808 : Int64))])) _
    exact own_retL X0 hx Bd.returns (hb hby d15_83) hr
  · show QJ (own_old q1 q2) h0 n0 _ s₁.heap _
    rw [e0]
    exact ⟨by rw [own_r4 (own_qM hb30) h1 hb5 hb59 hb68 hb77], N0, rfl⟩
set_option maxRecDepth 65536 in
set_option maxHeartbeats 40000000 in
theorem rmF (l : Launch) (Z : State) (a0 : Array Value) (hw : ∀ d ∈ tables_1, d.before a0 Z = true) (ws : List Jvm.Cond) (q1 : Int64) (q2 : Int64) (h0 : Heap) (n0 : Nat) (Z0 : n0 ≤ h0.size) (h1 : ¬ q2 < (1 : Int64)) :
    MetFree l (⟨"com/example/sorted_map_store/sortedmapstore/ColumnFamilyOldestKeptPinLaw", "reference", "(JJ)J"⟩ : MethodName) (head1 (Jvm.Cond.code (⟨"com/example/sorted_map_store/sortedmapstore/ColumnFamilyOldestKeptPinLaw", "reference", "(JJ)J"⟩ : MethodName) method_2_code 10 (some .long) :: ws) ({ frames := 0, cells := 0, slots := 0, locals := 0 } : Room)) (fun a U => a = #[(.long q1), (.long q2)] ∧ Z.Warmed39 U.vm ∧ U.heap = h0) (fun _ _ _ _ _ => True) (fun _ U o U' => ∃ v L, o = .returned v ∧ QJ (own_old q1 q2) h0 n0 v U'.heap L ∧ FrameEnd U o U' L ({ frames := 0, cells := 0, slots := 0, locals := 0 } : Room).cells ({ frames := 0, cells := 0, slots := 0, locals := 0 } : Room).slots) := by
  by_cases hb5 : q2 < (9223372036855 : Int64)
  · by_cases hb30 : (q1 - (q1 / (1000000 : Int64)) * (1000000 : Int64)) < (0 : Int64)
    · by_cases hb59 : (((q1 / (1000000 : Int64)) - (1 : Int64)) - q2) < (-9223372036855 : Int64)
      · exact rmFM1 l Z a0 hw ws q1 q2 h0 n0 Z0 h1 hb5 hb30 hb59
      · by_cases hb68 : (((q1 / (1000000 : Int64)) - (1 : Int64)) - q2) = (-9223372036855 : Int64)
        · by_cases hb77 : (224192 : Int64) < ((q1 - (q1 / (1000000 : Int64)) * (1000000 : Int64)) + (1000000 : Int64))
          · exact rmFM3 l Z a0 hw ws q1 q2 h0 n0 Z0 h1 hb5 hb30 hb59 hb68 hb77
          · exact rmFM4 l Z a0 hw ws q1 q2 h0 n0 Z0 h1 hb5 hb30 hb59 hb68 hb77
        · exact rmFM2 l Z a0 hw ws q1 q2 h0 n0 Z0 h1 hb5 hb30 hb59 hb68
    · by_cases hb59 : ((q1 / (1000000 : Int64)) - q2) < (-9223372036855 : Int64)
      · exact rmFP1 l Z a0 hw ws q1 q2 h0 n0 Z0 h1 hb5 hb30 hb59
      · by_cases hb68 : ((q1 / (1000000 : Int64)) - q2) = (-9223372036855 : Int64)
        · by_cases hb77 : (224192 : Int64) < (q1 - (q1 / (1000000 : Int64)) * (1000000 : Int64))
          · exact rmFP3 l Z a0 hw ws q1 q2 h0 n0 Z0 h1 hb5 hb30 hb59 hb68 hb77
          · exact rmFP4 l Z a0 hw ws q1 q2 h0 n0 Z0 h1 hb5 hb30 hb59 hb68 hb77
        · exact rmFP2 l Z a0 hw ws q1 q2 h0 n0 Z0 h1 hb5 hb30 hb59 hb68
  · exact rmFA l Z a0 hw ws q1 q2 h0 n0 Z0 h1 hb5
def QLaw (n0 : Nat) (v : Option Value) (h : Heap) (L : List Loc) : Prop := v = some (.int 1) ∧ Fr n0 L
set_option maxRecDepth 65536 in
set_option maxHeartbeats 40000000 in
theorem rm0 (l : Launch) (Z : State) (a0 : Array Value) (hw : ∀ d ∈ tables_1, d.before a0 Z = true) (ws : List Jvm.Cond) (q0 : Int64) (q1 : Int64) (p4 : Int32) (cs : Int32) (gv : Value) (h0 : Heap) (n0 : Nat) (Z0 : n0 ≤ h0.size) (O0 : Old Z n0 h0) (Sc : Sta Z Z.heap "java/lang/String" "COMPACT_STRINGS" "Z" (.int cs)) (hcs : ¬ (cs = (0 : Int32))) (Sg : Sta Z Z.heap "jdk/internal/util/Preconditions" "SIOOBE_FORMATTER" "Ljava/util/function/BiFunction;" gv) (hgv : gv.isRef = true) (hh1 : Jvm.Lit.constHeld Z "com/example/sorted_map_store/sortedmapstore/ColumnFamilyOldestKeptPinLaw" 31) (hcw : Jvm.Lit.compactW.before a0 Z = true) :
    MetFree l x (head1 (Jvm.Cond.code x code maxLocals ret :: ws) room_1) (fun a U => a = #[(.long q0), (.long q1), (.int p4)] ∧ Z.Warmed39 U.vm ∧ U.heap = h0 ∧ U.vm.interned = Z.vm.interned) (fun _ _ _ _ _ => True) (fun _ U o U' => ∃ v L, o = .returned v ∧ QLaw n0 v U'.heap L ∧ ReturnedEndW U o U' L room_1.cells room_1.slots) := by
  refine MetFree.of_bodySF (plainFor_of_name own_pn7) hisR ?_
  intro p e s m args below meth c s₁ Bd hml0 hP hK
  obtain ⟨rfl, hZ, hh, hint⟩ := hP
  have hx := Bd.exec
  have hby := Bd.bytes
  have hml : c.maxLocals = 11 := hml0
  have hown : s.vm.findClass "com/example/sorted_map_store/sortedmapstore/ColumnFamilyOldestKeptPinLaw" = some m.cls := findClass_of_methodNamed Bd.named
  have hnm := (name_of_methodNamed Bd.named Bd.method).1
  have X0 : Stand p l e room_1 s m #[(.long q0), (.long q1), (.int p4)] below meth c s₁ [] 0 0 := Stand.of_body Bd
  have e0 : s₁.heap = h0 := by rw [← hh, Bd.state]; rfl
  have N0 := Fr.nil n0
  have ef : entryFrame m #[(.long q0), (.long q1), (.int p4)] maxLocals = mkF m 0 #[.val (.long q0), .second, .val (.long q1), .second, .val (.int p4), .unset, .unset, .unset, .unset, .unset, .unset] [] := by first | (simp [entryFrame, mkF, argsToLocals, Value.category, maxLocals]; done) | rfl
  have pre0 : ∀ t, Steps p.tables e below (s₁.setTop (mkF m 0 #[.val (.long q0), .second, .val (.long q1), .second, .val (.int p4), .unset, .unset, .unset, .unset, .unset, .unset] [])) t → Steps p.tables e below (s₁.setTop (entryFrame m #[(.long q0), (.long q1), (.int p4)] maxLocals)) t := fun t k => castTop ef k
  have XS0 : Stand p l e room_1 (s.setVm s.vm) m #[(.long q0), (.long q1), (.int p4)] below meth c s₁ [] 0 0 := by rw [State.setVm_self]; exact X0
  have hZS0 : Z.Warmed39 (s.setVm s.vm).vm := hZ
  have hownS0 : (s.setVm s.vm).vm.findClass "com/example/sorted_map_store/sortedmapstore/ColumnFamilyOldestKeptPinLaw" = some m.cls := hown
  have hS0 : s.Since s.vm 0 := (State.WarmedH.refl s).since 0
  have rg101 : ∀ target, Steps p.tables e below (s₁.setTop (mkF m 58 #[.val (.long q0), .second, .val (.long q1), .second, .val (.int p4), .val (.long (if (p4 &&& (3 : Int32)) = (0 : Int32) then (q1 &&& (9223372036854775807 : Int64)) else (if (p4 &&& (3 : Int32)) = (1 : Int32) then (q1 &&& (17592186044415 : Int64)) else (if (p4 &&& (3 : Int32)) = (2 : Int32) then (q1 &&& (4294967295 : Int64)) else (9223372036854775807 : Int64))))), .second, .val (.int (p4 &&& (3 : Int32))), .unset, .unset, .unset] [])) target → Steps p.tables e below (s₁.setTop (mkF m 0 #[.val (.long q0), .second, .val (.long q1), .second, .val (.int p4), .unset, .unset, .unset, .unset, .unset, .unset] [])) target := by
    intro target kt
    show Steps p.tables e below (s₁.setTop (mkF m 0 #[.val (.long q0), .second, .val (.long q1), .second, .val (.int p4), .unset, .unset, .unset, .unset, .unset, .unset] [])) _
    refine XS.iload XS0.here hx rfl (hb hby at_0) rfl ?_
    show Steps p.tables e below (s₁.setTop (mkF m 2 #[.val (.long q0), .second, .val (.long q1), .second, .val (.int p4), .unset, .unset, .unset, .unset, .unset, .unset] [(.int p4)])) _
    refine XS.iconst XS0.here hx rfl (hb hby at_2) ?_
    show Steps p.tables e below (s₁.setTop (mkF m 3 #[.val (.long q0), .second, .val (.long q1), .second, .val (.int p4), .unset, .unset, .unset, .unset, .unset, .unset] [(.int (3 : Int32)), (.int p4)])) _
    refine XS.iand XS0.here hx rfl (hb hby at_3) rfl ?_
    show Steps p.tables e below (s₁.setTop (mkF m 4 #[.val (.long q0), .second, .val (.long q1), .second, .val (.int p4), .unset, .unset, .unset, .unset, .unset, .unset] [(.int (p4 &&& (3 : Int32)))])) _
    refine XS.istore XS0.here hx rfl (hb hby at_4) rfl (l' := #[.val (.long q0), .second, .val (.long q1), .second, .val (.int p4), .unset, .unset, .val (.int (p4 &&& (3 : Int32))), .unset, .unset, .unset]) rfl ?_
    show Steps p.tables e below (s₁.setTop (mkF m 6 #[.val (.long q0), .second, .val (.long q1), .second, .val (.int p4), .unset, .unset, .val (.int (p4 &&& (3 : Int32))), .unset, .unset, .unset] [])) _
    refine XS.iload XS0.here hx rfl (hb hby at_6) rfl ?_
    by_cases hr101_0 : (p4 &&& (3 : Int32)) = (0 : Int32)
    · show Steps p.tables e below (s₁.setTop (mkF m 8 #[.val (.long q0), .second, .val (.long q1), .second, .val (.int p4), .unset, .unset, .val (.int (p4 &&& (3 : Int32))), .unset, .unset, .unset] [(.int (p4 &&& (3 : Int32)))])) _
      refine XS.ifNo XS0.here hx rfl (hb hby at_8) rfl ((if0 _ _).trans (teq hr101_0).2) ?_
      show Steps p.tables e below (s₁.setTop (mkF m 11 #[.val (.long q0), .second, .val (.long q1), .second, .val (.int p4), .unset, .unset, .val (.int (p4 &&& (3 : Int32))), .unset, .unset, .unset] [])) _
      refine XS.lloadN XS0.here hx rfl (hb hby at_11) rfl ?_
      show Steps p.tables e below (s₁.setTop (mkF m 12 #[.val (.long q0), .second, .val (.long q1), .second, .val (.int p4), .unset, .unset, .val (.int (p4 &&& (3 : Int32))), .unset, .unset, .unset] [(.long q1)])) _
      refine XS0.ldc2Long hx hownS0 (mvT hZS0 (hw _ (List.mem_of_getElem? (i := 0) rfl))) (g := (mkF m 12 #[.val (.long q0), .second, .val (.long q1), .second, .val (.int p4), .unset, .unset, .val (.int (p4 &&& (3 : Int32))), .unset, .unset, .unset] [(.long q1)])) rfl (hb hby at_12) _ ?_
      show Steps p.tables e below (s₁.setTop (mkF m 15 #[.val (.long q0), .second, .val (.long q1), .second, .val (.int p4), .unset, .unset, .val (.int (p4 &&& (3 : Int32))), .unset, .unset, .unset] [(.long (9223372036854775807 : Int64)), (.long q1)])) _
      refine XS.land XS0.here hx rfl (hb hby at_15) rfl ?_
      show Steps p.tables e below (s₁.setTop (mkF m 16 #[.val (.long q0), .second, .val (.long q1), .second, .val (.int p4), .unset, .unset, .val (.int (p4 &&& (3 : Int32))), .unset, .unset, .unset] [(.long (q1 &&& (9223372036854775807 : Int64)))])) _
      refine XS.lstore XS0.here hx rfl (hb hby at_16) rfl (l' := #[.val (.long q0), .second, .val (.long q1), .second, .val (.int p4), .val (.long (q1 &&& (9223372036854775807 : Int64))), .second, .val (.int (p4 &&& (3 : Int32))), .unset, .unset, .unset]) rfl ?_
      show Steps p.tables e below (s₁.setTop (mkF m 18 #[.val (.long q0), .second, .val (.long q1), .second, .val (.int p4), .val (.long (q1 &&& (9223372036854775807 : Int64))), .second, .val (.int (p4 &&& (3 : Int32))), .unset, .unset, .unset] [])) _
      refine XS.goto XS0.here hx rfl (pc0 := 18) (pc' := 58) rfl (hb hby at_18) (by decide) (by decide) ?_
      simp only [if_pos hr101_0] at kt
      exact kt
    · show Steps p.tables e below (s₁.setTop (mkF m 8 #[.val (.long q0), .second, .val (.long q1), .second, .val (.int p4), .unset, .unset, .val (.int (p4 &&& (3 : Int32))), .unset, .unset, .unset] [(.int (p4 &&& (3 : Int32)))])) _
      refine XS.ifYes XS0.here hx rfl (pc0 := 8) (pc' := 21) rfl (hb hby at_8) rfl ((if0 _ _).trans (feq hr101_0).2) (by decide) (by decide) ?_
      show Steps p.tables e below (s₁.setTop (mkF m 21 #[.val (.long q0), .second, .val (.long q1), .second, .val (.int p4), .unset, .unset, .val (.int (p4 &&& (3 : Int32))), .unset, .unset, .unset] [])) _
      refine XS.iload XS0.here hx rfl (hb hby at_21) rfl ?_
      show Steps p.tables e below (s₁.setTop (mkF m 23 #[.val (.long q0), .second, .val (.long q1), .second, .val (.int p4), .unset, .unset, .val (.int (p4 &&& (3 : Int32))), .unset, .unset, .unset] [(.int (p4 &&& (3 : Int32)))])) _
      refine XS.iconst XS0.here hx rfl (hb hby at_23) ?_
      by_cases hr101_1 : (p4 &&& (3 : Int32)) = (1 : Int32)
      · show Steps p.tables e below (s₁.setTop (mkF m 24 #[.val (.long q0), .second, .val (.long q1), .second, .val (.int p4), .unset, .unset, .val (.int (p4 &&& (3 : Int32))), .unset, .unset, .unset] [(.int (1 : Int32)), (.int (p4 &&& (3 : Int32)))])) _
        refine XS.icmpNo XS0.here hx rfl (hb hby at_24) rfl (teq hr101_1).2 ?_
        show Steps p.tables e below (s₁.setTop (mkF m 27 #[.val (.long q0), .second, .val (.long q1), .second, .val (.int p4), .unset, .unset, .val (.int (p4 &&& (3 : Int32))), .unset, .unset, .unset] [])) _
        refine XS.lloadN XS0.here hx rfl (hb hby at_27) rfl ?_
        show Steps p.tables e below (s₁.setTop (mkF m 28 #[.val (.long q0), .second, .val (.long q1), .second, .val (.int p4), .unset, .unset, .val (.int (p4 &&& (3 : Int32))), .unset, .unset, .unset] [(.long q1)])) _
        refine XS0.ldc2Long hx hownS0 (mvT hZS0 (hw _ (List.mem_of_getElem? (i := 95) rfl))) (g := (mkF m 28 #[.val (.long q0), .second, .val (.long q1), .second, .val (.int p4), .unset, .unset, .val (.int (p4 &&& (3 : Int32))), .unset, .unset, .unset] [(.long q1)])) rfl (hb hby at_28) _ ?_
        show Steps p.tables e below (s₁.setTop (mkF m 31 #[.val (.long q0), .second, .val (.long q1), .second, .val (.int p4), .unset, .unset, .val (.int (p4 &&& (3 : Int32))), .unset, .unset, .unset] [(.long (17592186044415 : Int64)), (.long q1)])) _
        refine XS.land XS0.here hx rfl (hb hby at_31) rfl ?_
        show Steps p.tables e below (s₁.setTop (mkF m 32 #[.val (.long q0), .second, .val (.long q1), .second, .val (.int p4), .unset, .unset, .val (.int (p4 &&& (3 : Int32))), .unset, .unset, .unset] [(.long (q1 &&& (17592186044415 : Int64)))])) _
        refine XS.lstore XS0.here hx rfl (hb hby at_32) rfl (l' := #[.val (.long q0), .second, .val (.long q1), .second, .val (.int p4), .val (.long (q1 &&& (17592186044415 : Int64))), .second, .val (.int (p4 &&& (3 : Int32))), .unset, .unset, .unset]) rfl ?_
        show Steps p.tables e below (s₁.setTop (mkF m 34 #[.val (.long q0), .second, .val (.long q1), .second, .val (.int p4), .val (.long (q1 &&& (17592186044415 : Int64))), .second, .val (.int (p4 &&& (3 : Int32))), .unset, .unset, .unset] [])) _
        refine XS.goto XS0.here hx rfl (pc0 := 34) (pc' := 58) rfl (hb hby at_34) (by decide) (by decide) ?_
        simp only [if_neg hr101_0, if_pos hr101_1] at kt
        exact kt
      · show Steps p.tables e below (s₁.setTop (mkF m 24 #[.val (.long q0), .second, .val (.long q1), .second, .val (.int p4), .unset, .unset, .val (.int (p4 &&& (3 : Int32))), .unset, .unset, .unset] [(.int (1 : Int32)), (.int (p4 &&& (3 : Int32)))])) _
        refine XS.icmpYes XS0.here hx rfl (pc0 := 24) (pc' := 37) rfl (hb hby at_24) rfl (feq hr101_1).2 (by decide) (by decide) ?_
        show Steps p.tables e below (s₁.setTop (mkF m 37 #[.val (.long q0), .second, .val (.long q1), .second, .val (.int p4), .unset, .unset, .val (.int (p4 &&& (3 : Int32))), .unset, .unset, .unset] [])) _
        refine XS.iload XS0.here hx rfl (hb hby at_37) rfl ?_
        show Steps p.tables e below (s₁.setTop (mkF m 39 #[.val (.long q0), .second, .val (.long q1), .second, .val (.int p4), .unset, .unset, .val (.int (p4 &&& (3 : Int32))), .unset, .unset, .unset] [(.int (p4 &&& (3 : Int32)))])) _
        refine XS.iconst XS0.here hx rfl (hb hby at_39) ?_
        by_cases hr101_2 : (p4 &&& (3 : Int32)) = (2 : Int32)
        · show Steps p.tables e below (s₁.setTop (mkF m 40 #[.val (.long q0), .second, .val (.long q1), .second, .val (.int p4), .unset, .unset, .val (.int (p4 &&& (3 : Int32))), .unset, .unset, .unset] [(.int (2 : Int32)), (.int (p4 &&& (3 : Int32)))])) _
          refine XS.icmpNo XS0.here hx rfl (hb hby at_40) rfl (teq hr101_2).2 ?_
          show Steps p.tables e below (s₁.setTop (mkF m 43 #[.val (.long q0), .second, .val (.long q1), .second, .val (.int p4), .unset, .unset, .val (.int (p4 &&& (3 : Int32))), .unset, .unset, .unset] [])) _
          refine XS.lloadN XS0.here hx rfl (hb hby at_43) rfl ?_
          show Steps p.tables e below (s₁.setTop (mkF m 44 #[.val (.long q0), .second, .val (.long q1), .second, .val (.int p4), .unset, .unset, .val (.int (p4 &&& (3 : Int32))), .unset, .unset, .unset] [(.long q1)])) _
          refine XS0.ldc2Long hx hownS0 (mvT hZS0 (hw _ (List.mem_of_getElem? (i := 96) rfl))) (g := (mkF m 44 #[.val (.long q0), .second, .val (.long q1), .second, .val (.int p4), .unset, .unset, .val (.int (p4 &&& (3 : Int32))), .unset, .unset, .unset] [(.long q1)])) rfl (hb hby at_44) _ ?_
          show Steps p.tables e below (s₁.setTop (mkF m 47 #[.val (.long q0), .second, .val (.long q1), .second, .val (.int p4), .unset, .unset, .val (.int (p4 &&& (3 : Int32))), .unset, .unset, .unset] [(.long (4294967295 : Int64)), (.long q1)])) _
          refine XS.land XS0.here hx rfl (hb hby at_47) rfl ?_
          show Steps p.tables e below (s₁.setTop (mkF m 48 #[.val (.long q0), .second, .val (.long q1), .second, .val (.int p4), .unset, .unset, .val (.int (p4 &&& (3 : Int32))), .unset, .unset, .unset] [(.long (q1 &&& (4294967295 : Int64)))])) _
          refine XS.lstore XS0.here hx rfl (hb hby at_48) rfl (l' := #[.val (.long q0), .second, .val (.long q1), .second, .val (.int p4), .val (.long (q1 &&& (4294967295 : Int64))), .second, .val (.int (p4 &&& (3 : Int32))), .unset, .unset, .unset]) rfl ?_
          show Steps p.tables e below (s₁.setTop (mkF m 50 #[.val (.long q0), .second, .val (.long q1), .second, .val (.int p4), .val (.long (q1 &&& (4294967295 : Int64))), .second, .val (.int (p4 &&& (3 : Int32))), .unset, .unset, .unset] [])) _
          refine XS.goto XS0.here hx rfl (pc0 := 50) (pc' := 58) rfl (hb hby at_50) (by decide) (by decide) ?_
          simp only [if_neg hr101_0, if_neg hr101_1, if_pos hr101_2] at kt
          exact kt
        · show Steps p.tables e below (s₁.setTop (mkF m 40 #[.val (.long q0), .second, .val (.long q1), .second, .val (.int p4), .unset, .unset, .val (.int (p4 &&& (3 : Int32))), .unset, .unset, .unset] [(.int (2 : Int32)), (.int (p4 &&& (3 : Int32)))])) _
          refine XS.icmpYes XS0.here hx rfl (pc0 := 40) (pc' := 53) rfl (hb hby at_40) rfl (feq hr101_2).2 (by decide) (by decide) ?_
          show Steps p.tables e below (s₁.setTop (mkF m 53 #[.val (.long q0), .second, .val (.long q1), .second, .val (.int p4), .unset, .unset, .val (.int (p4 &&& (3 : Int32))), .unset, .unset, .unset] [])) _
          refine XS0.ldc2Long hx hownS0 (mvT hZS0 (hw _ (List.mem_of_getElem? (i := 0) rfl))) (g := (mkF m 53 #[.val (.long q0), .second, .val (.long q1), .second, .val (.int p4), .unset, .unset, .val (.int (p4 &&& (3 : Int32))), .unset, .unset, .unset] [])) rfl (hb hby at_53) _ ?_
          show Steps p.tables e below (s₁.setTop (mkF m 56 #[.val (.long q0), .second, .val (.long q1), .second, .val (.int p4), .unset, .unset, .val (.int (p4 &&& (3 : Int32))), .unset, .unset, .unset] [(.long (9223372036854775807 : Int64))])) _
          refine XS.lstore XS0.here hx rfl (hb hby at_56) rfl (l' := #[.val (.long q0), .second, .val (.long q1), .second, .val (.int p4), .val (.long (9223372036854775807 : Int64)), .second, .val (.int (p4 &&& (3 : Int32))), .unset, .unset, .unset]) rfl ?_
          simp only [if_neg hr101_0, if_neg hr101_1, if_neg hr101_2] at kt
          exact kt
  obtain ⟨ag0, hv_ag0⟩ : ∃ z : Int64, z = (if (p4 &&& (3 : Int32)) = (0 : Int32) then (q1 &&& (9223372036854775807 : Int64)) else (if (p4 &&& (3 : Int32)) = (1 : Int32) then (q1 &&& (17592186044415 : Int64)) else (if (p4 &&& (3 : Int32)) = (2 : Int32) then (q1 &&& (4294967295 : Int64)) else (9223372036854775807 : Int64)))) := ⟨_, rfl⟩
  have rg102 : ∀ target, Steps p.tables e below (s₁.setTop (mkF m 68 #[.val (.long q0), .second, .val (.long q1), .second, .val (.int p4), .val (.long (if ag0 < (1 : Int64) then (1 : Int64) else ag0)), .second, .val (.int (p4 &&& (3 : Int32))), .unset, .unset, .unset] [])) target → Steps p.tables e below (s₁.setTop (mkF m 58 #[.val (.long q0), .second, .val (.long q1), .second, .val (.int p4), .val (.long ag0), .second, .val (.int (p4 &&& (3 : Int32))), .unset, .unset, .unset] [])) target := by
    intro target kt
    show Steps p.tables e below (s₁.setTop (mkF m 58 #[.val (.long q0), .second, .val (.long q1), .second, .val (.int p4), .val (.long ag0), .second, .val (.int (p4 &&& (3 : Int32))), .unset, .unset, .unset] [])) _
    refine XS.lload XS0.here hx rfl (hb hby at_58) rfl ?_
    show Steps p.tables e below (s₁.setTop (mkF m 60 #[.val (.long q0), .second, .val (.long q1), .second, .val (.int p4), .val (.long ag0), .second, .val (.int (p4 &&& (3 : Int32))), .unset, .unset, .unset] [(.long ag0)])) _
    refine XS.lconst XS0.here hx rfl (hb hby at_60) ?_
    show Steps p.tables e below (s₁.setTop (mkF m 61 #[.val (.long q0), .second, .val (.long q1), .second, .val (.int p4), .val (.long ag0), .second, .val (.int (p4 &&& (3 : Int32))), .unset, .unset, .unset] [(.long (1 : Int64)), (.long ag0)])) _
    refine XS.lcmp XS0.here hx rfl (hb hby at_61) rfl ?_
    by_cases hr102_0 : ag0 < (1 : Int64)
    · show Steps p.tables e below (s₁.setTop (mkF m 62 #[.val (.long q0), .second, .val (.long q1), .second, .val (.int p4), .val (.long ag0), .second, .val (.int (p4 &&& (3 : Int32))), .unset, .unset, .unset] [(.int (lcmpW ag0 (1 : Int64)))])) _
      refine XS.ifNo XS0.here hx rfl (hb hby at_62) rfl ((if0 _ _).trans (tlt (own_lcLt hr102_0)).2.1) ?_
      show Steps p.tables e below (s₁.setTop (mkF m 65 #[.val (.long q0), .second, .val (.long q1), .second, .val (.int p4), .val (.long ag0), .second, .val (.int (p4 &&& (3 : Int32))), .unset, .unset, .unset] [])) _
      refine XS.lconst XS0.here hx rfl (hb hby at_65) ?_
      show Steps p.tables e below (s₁.setTop (mkF m 66 #[.val (.long q0), .second, .val (.long q1), .second, .val (.int p4), .val (.long ag0), .second, .val (.int (p4 &&& (3 : Int32))), .unset, .unset, .unset] [(.long (1 : Int64))])) _
      refine XS.lstore XS0.here hx rfl (hb hby at_66) rfl (l' := #[.val (.long q0), .second, .val (.long q1), .second, .val (.int p4), .val (.long (1 : Int64)), .second, .val (.int (p4 &&& (3 : Int32))), .unset, .unset, .unset]) rfl ?_
      simp only [if_pos hr102_0] at kt
      exact kt
    · show Steps p.tables e below (s₁.setTop (mkF m 62 #[.val (.long q0), .second, .val (.long q1), .second, .val (.int p4), .val (.long ag0), .second, .val (.int (p4 &&& (3 : Int32))), .unset, .unset, .unset] [(.int (lcmpW ag0 (1 : Int64)))])) _
      refine XS.ifYes XS0.here hx rfl (pc0 := 62) (pc' := 68) rfl (hb hby at_62) rfl ((if0 _ _).trans (flt (own_lcGe hr102_0)).2.1) (by decide) (by decide) ?_
      simp only [if_neg hr102_0] at kt
      exact kt
  obtain ⟨age, hv_age⟩ : ∃ z : Int64, z = (if ag0 < (1 : Int64) then (1 : Int64) else ag0) := ⟨_, rfl⟩
  have hage := own_age hv_age
  have rg103 : ∀ target, Steps p.tables e below (s₁.setTop (mkF m 89 #[.val (.long q0), .second, .val (.long q1), .second, .val (.int p4), .val (.long age), .second, .val (.int (p4 &&& (3 : Int32))), .val (.long (if (p4 &&& (4 : Int32)) = (0 : Int32) then q0 else ((-9223372036854775808 : Int64) + (q0 &&& (4503599627370495 : Int64))))), .second, .unset] [])) target → Steps p.tables e below (s₁.setTop (mkF m 68 #[.val (.long q0), .second, .val (.long q1), .second, .val (.int p4), .val (.long age), .second, .val (.int (p4 &&& (3 : Int32))), .unset, .unset, .unset] [])) target := by
    intro target kt
    show Steps p.tables e below (s₁.setTop (mkF m 68 #[.val (.long q0), .second, .val (.long q1), .second, .val (.int p4), .val (.long age), .second, .val (.int (p4 &&& (3 : Int32))), .unset, .unset, .unset] [])) _
    refine XS.lloadN XS0.here hx rfl (hb hby at_68) rfl ?_
    show Steps p.tables e below (s₁.setTop (mkF m 69 #[.val (.long q0), .second, .val (.long q1), .second, .val (.int p4), .val (.long age), .second, .val (.int (p4 &&& (3 : Int32))), .unset, .unset, .unset] [(.long q0)])) _
    refine XS.lstore XS0.here hx rfl (hb hby at_69) rfl (l' := #[.val (.long q0), .second, .val (.long q1), .second, .val (.int p4), .val (.long age), .second, .val (.int (p4 &&& (3 : Int32))), .val (.long q0), .second, .unset]) rfl ?_
    show Steps p.tables e below (s₁.setTop (mkF m 71 #[.val (.long q0), .second, .val (.long q1), .second, .val (.int p4), .val (.long age), .second, .val (.int (p4 &&& (3 : Int32))), .val (.long q0), .second, .unset] [])) _
    refine XS.iload XS0.here hx rfl (hb hby at_71) rfl ?_
    show Steps p.tables e below (s₁.setTop (mkF m 73 #[.val (.long q0), .second, .val (.long q1), .second, .val (.int p4), .val (.long age), .second, .val (.int (p4 &&& (3 : Int32))), .val (.long q0), .second, .unset] [(.int p4)])) _
    refine XS.iconst XS0.here hx rfl (hb hby at_73) ?_
    show Steps p.tables e below (s₁.setTop (mkF m 74 #[.val (.long q0), .second, .val (.long q1), .second, .val (.int p4), .val (.long age), .second, .val (.int (p4 &&& (3 : Int32))), .val (.long q0), .second, .unset] [(.int (4 : Int32)), (.int p4)])) _
    refine XS.iand XS0.here hx rfl (hb hby at_74) rfl ?_
    by_cases hr103_0 : (p4 &&& (4 : Int32)) = (0 : Int32)
    · show Steps p.tables e below (s₁.setTop (mkF m 75 #[.val (.long q0), .second, .val (.long q1), .second, .val (.int p4), .val (.long age), .second, .val (.int (p4 &&& (3 : Int32))), .val (.long q0), .second, .unset] [(.int (p4 &&& (4 : Int32)))])) _
      refine XS.ifYes XS0.here hx rfl (pc0 := 75) (pc' := 89) rfl (hb hby at_75) rfl ((if0 _ _).trans (teq hr103_0).1) (by decide) (by decide) ?_
      simp only [if_pos hr103_0] at kt
      exact kt
    · show Steps p.tables e below (s₁.setTop (mkF m 75 #[.val (.long q0), .second, .val (.long q1), .second, .val (.int p4), .val (.long age), .second, .val (.int (p4 &&& (3 : Int32))), .val (.long q0), .second, .unset] [(.int (p4 &&& (4 : Int32)))])) _
      refine XS.ifNo XS0.here hx rfl (hb hby at_75) rfl ((if0 _ _).trans (feq hr103_0).1) ?_
      show Steps p.tables e below (s₁.setTop (mkF m 78 #[.val (.long q0), .second, .val (.long q1), .second, .val (.int p4), .val (.long age), .second, .val (.int (p4 &&& (3 : Int32))), .val (.long q0), .second, .unset] [])) _
      refine XS0.ldc2Long hx hownS0 (mvT hZS0 (hw _ (List.mem_of_getElem? (i := 93) rfl))) (g := (mkF m 78 #[.val (.long q0), .second, .val (.long q1), .second, .val (.int p4), .val (.long age), .second, .val (.int (p4 &&& (3 : Int32))), .val (.long q0), .second, .unset] [])) rfl (hb hby at_78) _ ?_
      show Steps p.tables e below (s₁.setTop (mkF m 81 #[.val (.long q0), .second, .val (.long q1), .second, .val (.int p4), .val (.long age), .second, .val (.int (p4 &&& (3 : Int32))), .val (.long q0), .second, .unset] [(.long (-9223372036854775808 : Int64))])) _
      refine XS.lloadN XS0.here hx rfl (hb hby at_81) rfl ?_
      show Steps p.tables e below (s₁.setTop (mkF m 82 #[.val (.long q0), .second, .val (.long q1), .second, .val (.int p4), .val (.long age), .second, .val (.int (p4 &&& (3 : Int32))), .val (.long q0), .second, .unset] [(.long q0), (.long (-9223372036854775808 : Int64))])) _
      refine XS0.ldc2Long hx hownS0 (mvT hZS0 (hw _ (List.mem_of_getElem? (i := 94) rfl))) (g := (mkF m 82 #[.val (.long q0), .second, .val (.long q1), .second, .val (.int p4), .val (.long age), .second, .val (.int (p4 &&& (3 : Int32))), .val (.long q0), .second, .unset] [(.long q0), (.long (-9223372036854775808 : Int64))])) rfl (hb hby at_82) _ ?_
      show Steps p.tables e below (s₁.setTop (mkF m 85 #[.val (.long q0), .second, .val (.long q1), .second, .val (.int p4), .val (.long age), .second, .val (.int (p4 &&& (3 : Int32))), .val (.long q0), .second, .unset] [(.long (4503599627370495 : Int64)), (.long q0), (.long (-9223372036854775808 : Int64))])) _
      refine XS.land XS0.here hx rfl (hb hby at_85) rfl ?_
      show Steps p.tables e below (s₁.setTop (mkF m 86 #[.val (.long q0), .second, .val (.long q1), .second, .val (.int p4), .val (.long age), .second, .val (.int (p4 &&& (3 : Int32))), .val (.long q0), .second, .unset] [(.long (q0 &&& (4503599627370495 : Int64))), (.long (-9223372036854775808 : Int64))])) _
      refine XS.ladd XS0.here hx rfl (hb hby at_86) rfl ?_
      show Steps p.tables e below (s₁.setTop (mkF m 87 #[.val (.long q0), .second, .val (.long q1), .second, .val (.int p4), .val (.long age), .second, .val (.int (p4 &&& (3 : Int32))), .val (.long q0), .second, .unset] [(.long ((-9223372036854775808 : Int64) + (q0 &&& (4503599627370495 : Int64))))])) _
      refine XS.lstore XS0.here hx rfl (hb hby at_87) rfl (l' := #[.val (.long q0), .second, .val (.long q1), .second, .val (.int p4), .val (.long age), .second, .val (.int (p4 &&& (3 : Int32))), .val (.long ((-9223372036854775808 : Int64) + (q0 &&& (4503599627370495 : Int64)))), .second, .unset]) rfl ?_
      simp only [if_neg hr103_0] at kt
      exact kt
  obtain ⟨nw, hv_nw⟩ : ∃ z : Int64, z = (if (p4 &&& (4 : Int32)) = (0 : Int32) then q0 else ((-9223372036854775808 : Int64) + (q0 &&& (4503599627370495 : Int64)))) := ⟨_, rfl⟩
  obtain ⟨T104, h104, X104, e104, E104, A104, D104, -, st104⟩ := newO XS0 hx hZS0 hownS0 (hw _ (List.mem_of_getElem? (i := 1) rfl)) (hw _ (List.mem_of_getElem? (i := 2) rfl)) (hw _ (List.mem_of_getElem? (i := 3) rfl)) e0 (g := (mkF m 89 #[.val (.long q0), .second, .val (.long q1), .second, .val (.int p4), .val (.long age), .second, .val (.int (p4 &&& (3 : Int32))), .val (.long nw), .second, .unset] [])) rfl (hb hby at_89) (by decide) (by decide)
  obtain ⟨b104, g104⟩ : ∃ z, z = h0.size := ⟨_, rfl⟩
  rw [← g104] at A104 D104 st104
  have g_b104 : n0 ≤ b104 := Nat.le_trans Z0 (Nat.le_of_eq g104.symm)
  have sz_b104 : h0.size ≤ b104 := Nat.le_trans (Keep.refl h0 []).1 (Nat.le_of_eq g104.symm)
  have sk104 := Nat.le_trans (Nat.zero_le _) E104.1
  have Z104 : n0 ≤ h104.size := Nat.le_trans Z0 E104.1
  have KC104 : Keep h0 h104 [] := (Keep.refl h0 []).ext E104
  have F_name_b104 : Fld Z h104 b104 "com/example/sorted_map_store/sortedmapstore/ColumnFamily" "name" "Ljava/lang/String;" .null := D104 (Or.inr (hw _ (List.mem_of_getElem? (i := 73) rfl))) (ty := (.object "java/lang/String")) (by decide)
  have F_maxVersions_b104 : Fld Z h104 b104 "com/example/sorted_map_store/sortedmapstore/ColumnFamily" "maxVersions" "I" (.int (0 : Int32)) := D104 (Or.inr (hw _ (List.mem_of_getElem? (i := 75) rfl))) (ty := .int) (by decide)
  have F_maxAgeSeconds_b104 : Fld Z h104 b104 "com/example/sorted_map_store/sortedmapstore/ColumnFamily" "maxAgeSeconds" "J" (.long (0 : Int64)) := D104 (Or.inr (hw _ (List.mem_of_getElem? (i := 77) rfl))) (ty := .long) (by decide)
  obtain ⟨a105, T105, h105, k105, b105, kc105, X105, e105, E105, hS105, hk105, hZ105, hown105, Ex105, Fc105, Fv105, Av105, la105, lb105, IB105, st105⟩ := ldcSV X104 hx hZS0 hownS0 (hw _ (List.mem_of_getElem? (i := 4) rfl)) (own_sa hw) e104 hS0 sk104 (Fr.nil _) (fun b cl q => by rw [hh]; exact O0.2.2 b cl q) (⟨#[], by simp [hint], fun q hq => by simp at hq⟩ : IB Z s.vm []) (by simp) hh1 hcw (vs := [.int 99, .int 102]) (z := 2) ⟨by decide, by decide⟩ (by decide) rfl (g := (mkF m 93 #[.val (.long q0), .second, .val (.long q1), .second, .val (.int p4), .val (.long age), .second, .val (.int (p4 &&& (3 : Int32))), .val (.long nw), .second, .unset] [(.ref b104), (.ref b104)])) rfl (hb hby at_93) (n := 8) (by decide) (by decide) (by decide) (by decide)
  have Z105 : n0 ≤ h105.size := Nat.le_trans Z104 E105.1
  have KC105 : Keep h0 h105 [] := KC104.ext E105
  have Vs105 : OwnA Z h105 b105 .byte 2 own_cf := own_arv Av105 rfl
  have f106 := (A104.ext E105)
  have f107 := (F_name_b104.ext E105)
  have f108 := (F_maxVersions_b104.ext E105)
  have f109 := (F_maxAgeSeconds_b104.ext E105)
  obtain ⟨_, _, ⟨T110, L110, k110, n110⟩, -, X110, hq110, gq110, ⟨Lc110, hQ110, l110, y110, z110⟩, st110⟩ := X105.specialBackS hx (y := (⟨"com/example/sorted_map_store/sortedmapstore/ColumnFamily", "<init>", "(Ljava/lang/String;IJ)V"⟩ : MethodName)) rfl hown105 (mvT hZ105 (hw _ (List.mem_of_getElem? (i := 12) rfl))) (mvT hZ105 (hw _ (List.mem_of_getElem? (i := 13) rfl))) (mvT hZ105 (hw _ (List.mem_of_getElem? (i := 14) rfl))) (by decide) (backOfS (W := 1) (rmI l Z a0 hw [] b104 a105 b105 cs gv age h105 n0 Z105 f106 g_b104 f107 f108 f109 Ex105 Fv105 Fc105 Vs105 ((O0.ext E104).ext E105) Sc hcs Sg hgv hage) hZ105 (hw _ (List.mem_of_getElem? (i := 14) rfl)) (hw _ (List.mem_of_getElem? (i := 3) rfl)) (by decide) (by decide)) (g := (mkF m 98 #[.val (.long q0), .second, .val (.long q1), .second, .val (.int p4), .val (.long age), .second, .val (.int (p4 &&& (3 : Int32))), .val (.long nw), .second, .unset] [(.long age), (.int (1 : Int32)), (.ref a105), (.ref b104), (.ref b104)])) rfl (by rw [hml]; rfl) (Steps.refl _) (a := b104) (argsL := [(.ref a105), (.int (1 : Int32)), (.long age)]) (rest := [(.ref b104)]) (lenOf own_pd10 rfl) rfl (by show 2 * 0 + _ ≤ _; exact Nat.le_of_eq rfl) (hb hby at_98) (fun _ _ => ⟨rfl, e105, (by decide : 3 + 2 ≤ _), (by decide : 15 + 28 ≤ _)⟩)
  dsimp only [Pt.U, Pt.locs, Pt.cells, Pt.slots] at X110 hq110 gq110 l110 y110 z110 st110 hQ110
  rw [l110, y110, z110] at X110
  obtain ⟨XR110, hS110, hZ110, hown110⟩ := rebS hS105 (by rw [e105]; exact hk105) X110 hq110 gq110 hZ105 hown105
  clear X110
  have X110 := XR110
  obtain ⟨rfl, Nq110, K110, Ex110, Fa110⟩ := hQ110
  have Z110 : n0 ≤ T110.heap.size := Nat.le_trans Z105 K110.1
  have KC110 : Keep h0 T110.heap [] := KC105.trans K110 (allS (Or.inr sz_b104) all0)
  have N110 := Fr.app N0 Nq110
  obtain ⟨cq111, kq111, q111a, q111b, q111c⟩ := isOf hZ110 rfl Ex110
  obtain ⟨_, _, ⟨T111, L111, k111, n111⟩, -, X111, ⟨Lc111, hQ111, l111, y111, z111⟩, st111⟩ := X110.virtualBack hx (y := (⟨"com/example/sorted_map_store/sortedmapstore/ColumnFamily", "oldestKept", "(J)J"⟩ : MethodName)) (z := (⟨"com/example/sorted_map_store/sortedmapstore/ColumnFamily", "oldestKept", "(J)J"⟩ : MethodName)) hown110 (mvT hZ110 (hw _ (List.mem_of_getElem? (i := 78) rfl))) (mvT hZ110 (hw _ (List.mem_of_getElem? (i := 79) rfl))) (notFace_of_selects (args := #[]) (mvT hZ110 (hw _ (List.mem_of_getElem? (i := 81) rfl)))) (mvT hZ110 (hw _ (List.mem_of_getElem? (i := 81) rfl))) (mvT hZ110 (hw _ (List.mem_of_getElem? (i := 80) rfl))) (by decide) (backOf (W := 0) (rmK l Z a0 hw [] b104 nw age T110.heap n0 Z110 Fa110) hZ110 (hw _ (List.mem_of_getElem? (i := 82) rfl)) (hw _ (List.mem_of_getElem? (i := 3) rfl)) (by decide) (by decide)) q111a q111c (g := (mkF m 107 #[.val (.long q0), .second, .val (.long q1), .second, .val (.int p4), .val (.long age), .second, .val (.int (p4 &&& (3 : Int32))), .val (.long nw), .second, .val (.ref b104)] [(.long nw), (.ref b104)])) rfl (by rw [hml]; rfl) (Steps.refl _) (argsL := [(.long nw)]) (rest := []) (lenOf own_pd11 rfl) rfl (by show 2 * 0 + _ ≤ _; exact Nat.le_of_eq rfl) (hb hby at_107) (fun _ _ => ⟨rfl, rfl, (by decide : 5 + 0 ≤ _), (by decide : 43 + 0 ≤ _)⟩)
  dsimp only [Pt.U, Pt.locs, Pt.cells, Pt.slots] at X111 l111 y111 z111 st111 hQ111
  rw [l111, y111, z111] at X111
  obtain ⟨rfl, Nq111, e111⟩ := hQ111
  have N111 := Fr.app N110 Nq111
  obtain ⟨_, _, ⟨T112, L112, k112, n112⟩, -, X112, ⟨Lc112, hQ112, l112, y112, z112⟩, st112⟩ := Jvm.LawKit.callS X111 hx (y := (⟨"com/example/sorted_map_store/sortedmapstore/ColumnFamilyOldestKeptPinLaw", "reference", "(JJ)J"⟩ : MethodName)) hown110 (mvT hZ110 (hw _ (List.mem_of_getElem? (i := 86) rfl))) (mvT hZ110 (hw _ (List.mem_of_getElem? (i := 87) rfl))) (mvT hZ110 (hw _ (List.mem_of_getElem? (i := 88) rfl))) (mvT hZ110 (hw _ (List.mem_of_getElem? (i := 89) rfl))) (by decide) (backOf (W := 2) (rmF l Z a0 hw [] nw age T110.heap n0 Z110 hage) hZ110 (hw _ (List.mem_of_getElem? (i := 89) rfl)) (hw _ (List.mem_of_getElem? (i := 88) rfl)) (by decide) (by decide)) (g := (mkF m 114 #[.val (.long q0), .second, .val (.long q1), .second, .val (.int p4), .val (.long age), .second, .val (.int (p4 &&& (3 : Int32))), .val (.long nw), .second, .val (.ref b104)] [(.long age), (.long nw), (.long (own_old nw age))])) rfl (by rw [hml]; rfl) (argsL := [(.long nw), (.long age)]) (rest := [(.long (own_old nw age))]) (lenOf own_pd12 rfl) rfl (by show 2 * 0 + _ ≤ _; exact Nat.le_of_eq rfl) (hb hby at_114) (fun _ _ => ⟨rfl, e111, (by decide : 5 + 0 ≤ _), (by decide : 43 + 0 ≤ _)⟩)
  dsimp only [Pt.U, Pt.locs, Pt.cells, Pt.slots] at X112 l112 y112 z112 st112 hQ112
  rw [l112, y112, z112] at X112
  obtain ⟨rfl, Nq112, e112⟩ := hQ112
  have N112 := Fr.app N111 Nq112
  obtain ⟨fs, hr, hrun, hended, hW1, hW2, hW3, hsame⟩ := X112.leaveW hS110 (by rw [e112]; exact (Nat.le_refl _)) (v := some (.int (1 : Int32))) (fun h => by rw [Bd.returns] at h; cases h) (hlocks := Bd.notSynchronized)
  refine ⟨_, _, pre0 _ ?_, hrun, hended, _, _, rfl, ?_, hW1, hW2, hW3, hsame.mono (by decide) (by decide)⟩
  · show Steps p.tables e below (s₁.setTop (mkF m 0 #[.val (.long q0), .second, .val (.long q1), .second, .val (.int p4), .unset, .unset, .unset, .unset, .unset, .unset] [])) _
    refine rg101 _ ?_
    show Steps p.tables e below (s₁.setTop (mkF m 58 #[.val (.long q0), .second, .val (.long q1), .second, .val (.int p4), .val (.long (if (p4 &&& (3 : Int32)) = (0 : Int32) then (q1 &&& (9223372036854775807 : Int64)) else (if (p4 &&& (3 : Int32)) = (1 : Int32) then (q1 &&& (17592186044415 : Int64)) else (if (p4 &&& (3 : Int32)) = (2 : Int32) then (q1 &&& (4294967295 : Int64)) else (9223372036854775807 : Int64))))), .second, .val (.int (p4 &&& (3 : Int32))), .unset, .unset, .unset] [])) _
    rw [← hv_ag0]
    show Steps p.tables e below (s₁.setTop (mkF m 58 #[.val (.long q0), .second, .val (.long q1), .second, .val (.int p4), .val (.long ag0), .second, .val (.int (p4 &&& (3 : Int32))), .unset, .unset, .unset] [])) _
    refine rg102 _ ?_
    show Steps p.tables e below (s₁.setTop (mkF m 68 #[.val (.long q0), .second, .val (.long q1), .second, .val (.int p4), .val (.long (if ag0 < (1 : Int64) then (1 : Int64) else ag0)), .second, .val (.int (p4 &&& (3 : Int32))), .unset, .unset, .unset] [])) _
    rw [← hv_age]
    show Steps p.tables e below (s₁.setTop (mkF m 68 #[.val (.long q0), .second, .val (.long q1), .second, .val (.int p4), .val (.long age), .second, .val (.int (p4 &&& (3 : Int32))), .unset, .unset, .unset] [])) _
    refine rg103 _ ?_
    show Steps p.tables e below (s₁.setTop (mkF m 89 #[.val (.long q0), .second, .val (.long q1), .second, .val (.int p4), .val (.long age), .second, .val (.int (p4 &&& (3 : Int32))), .val (.long (if (p4 &&& (4 : Int32)) = (0 : Int32) then q0 else ((-9223372036854775808 : Int64) + (q0 &&& (4503599627370495 : Int64))))), .second, .unset] [])) _
    rw [← hv_nw]
    show Steps p.tables e below (s₁.setTop (mkF m 89 #[.val (.long q0), .second, .val (.long q1), .second, .val (.int p4), .val (.long age), .second, .val (.int (p4 &&& (3 : Int32))), .val (.long nw), .second, .unset] [])) _
    refine st104 _ ?_
    show Steps p.tables e below (T104.setTop (mkF m 92 #[.val (.long q0), .second, .val (.long q1), .second, .val (.int p4), .val (.long age), .second, .val (.int (p4 &&& (3 : Int32))), .val (.long nw), .second, .unset] [(.ref b104)])) _
    refine XS.dup X104.here hx rfl (hb hby at_92) rfl rfl ?_
    show Steps p.tables e below (T104.setTop (mkF m 93 #[.val (.long q0), .second, .val (.long q1), .second, .val (.int p4), .val (.long age), .second, .val (.int (p4 &&& (3 : Int32))), .val (.long nw), .second, .unset] [(.ref b104), (.ref b104)])) _
    refine st105 _ ?_
    show Steps p.tables e below (T105.setTop (mkF m 95 #[.val (.long q0), .second, .val (.long q1), .second, .val (.int p4), .val (.long age), .second, .val (.int (p4 &&& (3 : Int32))), .val (.long nw), .second, .unset] [(.ref a105), (.ref b104), (.ref b104)])) _
    refine XS.iconst X105.here hx rfl (hb hby at_95) ?_
    show Steps p.tables e below (T105.setTop (mkF m 96 #[.val (.long q0), .second, .val (.long q1), .second, .val (.int p4), .val (.long age), .second, .val (.int (p4 &&& (3 : Int32))), .val (.long nw), .second, .unset] [(.int (1 : Int32)), (.ref a105), (.ref b104), (.ref b104)])) _
    refine XS.lload X105.here hx rfl (hb hby at_96) rfl ?_
    show Steps p.tables e below (T105.setTop (mkF m 98 #[.val (.long q0), .second, .val (.long q1), .second, .val (.int p4), .val (.long age), .second, .val (.int (p4 &&& (3 : Int32))), .val (.long nw), .second, .unset] [(.long age), (.int (1 : Int32)), (.ref a105), (.ref b104), (.ref b104)])) _
    refine st110.trans ?_
    show Steps p.tables e below (T110.setTop (mkF m 101 #[.val (.long q0), .second, .val (.long q1), .second, .val (.int p4), .val (.long age), .second, .val (.int (p4 &&& (3 : Int32))), .val (.long nw), .second, .unset] [(.ref b104)])) _
    refine XS.astore X110.here hx rfl (hb hby at_101) rfl rfl (l' := #[.val (.long q0), .second, .val (.long q1), .second, .val (.int p4), .val (.long age), .second, .val (.int (p4 &&& (3 : Int32))), .val (.long nw), .second, .val (.ref b104)]) rfl ?_
    show Steps p.tables e below (T110.setTop (mkF m 103 #[.val (.long q0), .second, .val (.long q1), .second, .val (.int p4), .val (.long age), .second, .val (.int (p4 &&& (3 : Int32))), .val (.long nw), .second, .val (.ref b104)] [])) _
    refine XS.aload X110.here hx rfl (hb hby at_103) rfl rfl ?_
    show Steps p.tables e below (T110.setTop (mkF m 105 #[.val (.long q0), .second, .val (.long q1), .second, .val (.int p4), .val (.long age), .second, .val (.int (p4 &&& (3 : Int32))), .val (.long nw), .second, .val (.ref b104)] [(.ref b104)])) _
    refine XS.lload X110.here hx rfl (hb hby at_105) rfl ?_
    show Steps p.tables e below (T110.setTop (mkF m 107 #[.val (.long q0), .second, .val (.long q1), .second, .val (.int p4), .val (.long age), .second, .val (.int (p4 &&& (3 : Int32))), .val (.long nw), .second, .val (.ref b104)] [(.long nw), (.ref b104)])) _
    refine st111.trans ?_
    show Steps p.tables e below (T111.setTop (mkF m 110 #[.val (.long q0), .second, .val (.long q1), .second, .val (.int p4), .val (.long age), .second, .val (.int (p4 &&& (3 : Int32))), .val (.long nw), .second, .val (.ref b104)] [(.long (own_old nw age))])) _
    refine XS.lload X111.here hx rfl (hb hby at_110) rfl ?_
    show Steps p.tables e below (T111.setTop (mkF m 112 #[.val (.long q0), .second, .val (.long q1), .second, .val (.int p4), .val (.long age), .second, .val (.int (p4 &&& (3 : Int32))), .val (.long nw), .second, .val (.ref b104)] [(.long nw), (.long (own_old nw age))])) _
    refine XS.lload X111.here hx rfl (hb hby at_112) rfl ?_
    show Steps p.tables e below (T111.setTop (mkF m 114 #[.val (.long q0), .second, .val (.long q1), .second, .val (.int p4), .val (.long age), .second, .val (.int (p4 &&& (3 : Int32))), .val (.long nw), .second, .val (.ref b104)] [(.long age), (.long nw), (.long (own_old nw age))])) _
    refine st112 _ ?_
    show Steps p.tables e below (T112.setTop (mkF m 117 #[.val (.long q0), .second, .val (.long q1), .second, .val (.int p4), .val (.long age), .second, .val (.int (p4 &&& (3 : Int32))), .val (.long nw), .second, .val (.ref b104)] [(.long (own_old nw age)), (.long (own_old nw age))])) _
    refine XS.lcmp X112.here hx rfl (hb hby at_117) rfl ?_
    show Steps p.tables e below (T112.setTop (mkF m 118 #[.val (.long q0), .second, .val (.long q1), .second, .val (.int p4), .val (.long age), .second, .val (.int (p4 &&& (3 : Int32))), .val (.long nw), .second, .val (.ref b104)] [(.int (lcmpW (own_old nw age) (own_old nw age)))])) _
    refine XS.ifNo X112.here hx rfl (hb hby at_118) rfl ((if0 _ _).trans (teq (own_lcEq rfl)).2) ?_
    show Steps p.tables e below (T112.setTop (mkF m 121 #[.val (.long q0), .second, .val (.long q1), .second, .val (.int p4), .val (.long age), .second, .val (.int (p4 &&& (3 : Int32))), .val (.long nw), .second, .val (.ref b104)] [])) _
    refine XS.iconst X112.here hx rfl (hb hby at_121) ?_
    show Steps p.tables e below (T112.setTop (mkF m 122 #[.val (.long q0), .second, .val (.long q1), .second, .val (.int p4), .val (.long age), .second, .val (.int (p4 &&& (3 : Int32))), .val (.long nw), .second, .val (.ref b104)] [(.int (1 : Int32))])) _
    refine XS.goto X112.here hx rfl (pc0 := 122) (pc' := 126) rfl (hb hby at_122) (by decide) (by decide) ?_
    show Steps p.tables e below (T112.setTop (mkF m 126 #[.val (.long q0), .second, .val (.long q1), .second, .val (.int p4), .val (.long age), .second, .val (.int (p4 &&& (3 : Int32))), .val (.long nw), .second, .val (.ref b104)] [(.int (1 : Int32))])) _
    exact retN X112 hx (t := .boolean) Bd.returns (by simp) (hb hby at_126) hr
  · show QLaw n0 _ T112.heap _
    rw [e112]
    exact ⟨rfl, N112⟩
set_option maxRecDepth 65536 in
set_option maxHeartbeats 40000000 in
theorem comes_1 {Post : Tables → Env → Array Value → State → Outcome → State → Prop} (hpost : ∀ tb e args s v u, (limb_1_1.after args s (.returned v) u = true ∧ limb_1_2.after args s (.returned v) u = true ∧ True) → ReturnedEndW s (.returned v) u (Jvm.fieldLocs frame_1_writes args s ++ Jvm.arrayLocs frame_1_arrays args s ++ Jvm.staticLocs frame_1_statics s) 16 2176 → Post tb e args s (.returned v) u) :
    ArmFor flags0 classFile x code maxLocals ret World_1 tables_1 room_1 Calls_1 rest_1 Pre_1 Post := by
  intro l hfl _ _ p e ha hc hk s m args below hf hA hF happ hP
  obtain ⟨hcalls, hrest, hpre⟩ := hP
  obtain ⟨-, -, -, hnamed, -, -, -, hat⟩ := (Spec.applies_iff hf).mp happ
  obtain ⟨hg, hn⟩ := and_e (Cond.before_iff.mp (show (Jvm.Cond.and given_1 narrow_1).before args s = true from hpre))
  obtain ⟨hcnt, hg0⟩ := and_e hg
  obtain ⟨ha0, hg1⟩ := and_e hg0
  obtain ⟨ha1, hg2⟩ := and_e hg1
  have ha2 := hg2
  obtain ⟨w0, w1, w2, rfl⟩ : ∃ w0 w1 w2 : Value, args = #[w0, w1, w2] := by
    have hs : args.size = 3 := by simpa [Cond.value, given_1] using hcnt
    obtain ⟨L⟩ := args
    match L, hs with
    | [w0, w1, w2], _ => exact ⟨w0, w1, w2, rfl⟩
  have hw := fun d (hd : d ∈ tables_1) => atoms_spec (ws := Jvm.Cond.code x code maxLocals ret :: tables_1) hat d (List.mem_cons_of_mem _ hd)
  have hfit : Fit s := fun {y c} hc i hi => by
    obtain ⟨ha, rfl⟩ := Array.getElem?_eq_some_iff.mp hc
    have q := List.all_eq_true.mp ((Array.all_eq_true_iff_forall_mem.mp hF) _ (Array.getElem_mem ha)) i (List.mem_range.mpr hi)
    simpa [Array.getElem?_eq_getElem hi] using q
  obtain ⟨hsets, hown0⟩ := atoms_of _ (rest_1_c_eq ▸ (show rest_1_c.before _ s = true from hrest))
  obtain ⟨i0, ei0⟩ := isL_v ha0
  obtain rfl : w0 = (.long i0) := Option.some.inj ei0
  obtain ⟨i1, ei1⟩ := isL_v ha1
  obtain rfl : w1 = (.long i1) := Option.some.inj ei1
  obtain ⟨i2, ei2⟩ := is_v ha2
  obtain rfl : w2 = (.int i2) := Option.some.inj ei2
  have nz := not_v (Cond.before_iff.mp (hsets _ (List.mem_of_getElem? (i := 2) rfl)))
  obtain ⟨cs, ecs⟩ := is_v (Cond.before_iff.mp (hsets _ (List.mem_of_getElem? (i := 1) rfl)))
  have Sc : Sta s s.heap "java/lang/String" "COMPACT_STRINGS" "Z" (.int cs) := Sta.start ecs (Or.inl (hsets _ (List.mem_of_getElem? (i := 0) rfl)))
  have hcs : ¬ (cs = (0 : Int32)) := gotF (Cond.eq_ints ecs (Term.int_eval (0))) nz
  obtain ⟨gv, eg, hgv⟩ := isR_v (Cond.before_iff.mp (hsets _ (List.mem_of_getElem? (i := 8) rfl)))
  have Sg : Sta s s.heap "jdk/internal/util/Preconditions" "SIOOBE_FORMATTER" "Ljava/util/function/BiFunction;" gv := Sta.start eg (Or.inl (hsets _ (List.mem_of_getElem? (i := 7) rfl)))
  have hh1 : Jvm.Lit.constHeld s "com/example/sorted_map_store/sortedmapstore/ColumnFamilyOldestKeptPinLaw" 31 := hcalls.1 _ (List.mem_of_getElem? (i := 1) rfl)
  obtain ⟨n, o, h1, h2, h3, _, L, rfl, ⟨rfl, N⟩, hq⟩ := rm0 l s _ hw tables_1 i0 i1 i2 cs gv s.heap s.heap.size (Nat.le_refl _) (Old.start s) Sc hcs Sg hgv hh1 (hsets _ (List.mem_of_getElem? (i := 2) rfl)) p e ha hc hk s m _ below hf ((Spec.applies_iff_loose hf).mp happ).1 ⟨rfl, State.Warmed39.refl s, rfl, rfl⟩ trivial
  refine ⟨n, _, h1, h2, h3, hpost _ _ _ _ _ _ ⟨Cond.after_iff.mpr rfl, Cond.after_iff.mpr (eq_i res_at (Term.int_eval (1)) rfl), trivial⟩ ⟨hq.1, hq.2.1, hq.2.2.1, (hq.2.2.2.sift fun y hy => Or.inr (N y hy)).mono (by decide) (by decide)⟩⟩
theorem main_1_1 : Claimed_1_1 := comes_1 fun _ _ _ _ _ _ h hF => ⟨h.1, hF⟩
theorem main_1_2 : Claimed_1_2 := comes_1 fun _ _ _ _ _ _ h hF => ⟨h.2.1, hF⟩
end Jvm.Pilot.@@N@@
namespace Jvm.Pilot.@@N@@
open Jvm Jvm.ClassFile Sem Op Lib Jvm.Free Jvm.Stand Jvm.Pilot.@@N@@.Jvm.D
/-! MADE BY PROGRAM (witnessworld.py) out of the Statement's table words and the real class files: 20 classes; the members and pool entries that the words name. The judged class is class 1, her method 2. -/
namespace start1
open Jvm.ClassFile
def u (s : String) : CpInfo := .utf8 (stringToUtf16 s)
/-- a pool by its gaps: so many unusable entries, then the entry; so many at the end -/
def gap : Nat → List CpInfo → List CpInfo
  | 0, r => r
  | n + 1, r => .unusable :: gap n r
def poolList (es : List (Nat × CpInfo)) (last : Nat) : List CpInfo := es.foldr (fun e r => gap e.1 (e.2 :: r)) (gap last [])
def pool (es : List (Nat × CpInfo)) (last : Nat) : Array CpInfo := ⟨poolList es last⟩
def fileOf (pool : Array CpInfo) (this : Nat) (attrs : Array Attribute := #[]) (ms : Array MethodInfo := #[]) (fl : Nat := 33) (sup : Nat := 0) (ifs : Array Nat := #[]) (fds : Array FieldInfo := #[]) : ClassFile where
  minorVersion := 0
  majorVersion := 65
  constantPool := pool
  accessFlags := fl
  thisClass := this
  superClass := sup
  interfaces := ifs
  fields := fds
  methods := ms
  attributes := attrs
def plain (name : String) (sup : Option ClassId) : Class where
  name := name
  kind := .ordinary
  loader := none
  accessFlags := 33
  super := sup
  interfaces := #[]
  cf := none
  fields := #[]
  methods := #[]
  instanceTypes := #[]
  staticTypes := #[]
  resolved := #[]
  callSites := []
  init := .initialized
  statics := none
  mirror := none

def pool0 : Array CpInfo := pool [(5, u "<init>"), (0, u "()V"), (1, .class_ 10), (1, u "java/lang/Object")] 113

def k0c0 : Code := { maxStack := 0, maxLocals := 1, code := object_method_1_code, exceptionTable := #[], attributes := #[] }
def k0m0 : Method := { name := "<init>", desc := "()V", sig := { parameters := [], returnType := none }, accessFlags := 1, code := some k0c0 }
/-- java/lang/Object -/
def k0 : Class := { plain "java/lang/Object" none with
  accessFlags := 33
  interfaces := #[]
  cf := some (fileOf pool0 8 #[] #[{ accessFlags := 1, nameIndex := 5, descriptorIndex := 6, attributes := #[] }] 33 0 #[] #[])
  fields := #[]
  methods := #[k0m0]
  instanceTypes := #[]
  staticTypes := #[]
  resolved := Array.replicate 124 none
  statics := none }

def pool1 : Array CpInfo := pool [(2, .class_ 4), (1, u "java/lang/Object"), (0, u "<init>"), (0, u "()V"), (0, .long 9223372036855), (3, .long 9223372036854775808), (1, .class_ 14), (0, u "com/example/sorted_map_store/sortedmapstore/ColumnFamilyOldestKeptPinLaw"), (0, .long 1000000), (1, .long 18446734850337514761), (1, .long 224192), (1, .long 9223372036854775807), (1, .long 17592186044415), (1, .long 4294967295), (1, .long 4503599627370495), (1, .class_ 30), (0, u "com/example/sorted_map_store/sortedmapstore/ColumnFamily"), (0, .string 32), (0, u "cf"), (0, .methodref 29 34), (0, .nameAndType 5 35), (0, u "(Ljava/lang/String;IJ)V"), (0, .methodref 29 37), (0, .nameAndType 38 39), (0, u "oldestKept"), (0, u "(J)J"), (0, .methodref 13 41), (0, .nameAndType 42 43), (0, u "reference"), (0, u "(JJ)J"), (0, u "M"), (0, u "J"), (1, u "QMIN"), (0, u "RMIN"), (3, u "law"), (0, u "(JJI)Z")] 2

def k1m0 : Method := { name := "<init>", desc := "()V", sig := { parameters := [], returnType := none }, accessFlags := 1, code := none }
def k1c1 : Code := { maxStack := 6, maxLocals := 10, code := method_2_code, exceptionTable := #[], attributes := #[] }
def k1m1 : Method := { name := "reference", desc := "(JJ)J", sig := { parameters := [.long, .long], returnType := some .long }, accessFlags := 10, code := some k1c1 }
def k1c2 : Code := { maxStack := 6, maxLocals := 11, code := code, exceptionTable := #[], attributes := #[] }
def k1m2 : Method := { name := "law", desc := "(JJI)Z", sig := { parameters := [.long, .long, .int], returnType := some .boolean }, accessFlags := 9, code := some k1c2 }
/-- com/example/sorted_map_store/sortedmapstore/ColumnFamilyOldestKeptPinLaw -/
def k1 : Class := { plain "com/example/sorted_map_store/sortedmapstore/ColumnFamilyOldestKeptPinLaw" (some 0) with
  accessFlags := 49
  interfaces := #[]
  cf := some (fileOf pool1 13 #[] #[{ accessFlags := 1, nameIndex := 5, descriptorIndex := 6, attributes := #[] }, { accessFlags := 10, nameIndex := 42, descriptorIndex := 43, attributes := #[] }, { accessFlags := 9, nameIndex := 52, descriptorIndex := 53, attributes := #[] }] 49 2 #[] #[{ accessFlags := 26, nameIndex := 44, descriptorIndex := 45, attributes := #[] }, { accessFlags := 26, nameIndex := 47, descriptorIndex := 45, attributes := #[] }, { accessFlags := 26, nameIndex := 48, descriptorIndex := 45, attributes := #[] }])
  fields := #[{ name := "M", type := .long, accessFlags := 26, slot := 0, constantValue := 0 }, { name := "QMIN", type := .long, accessFlags := 26, slot := 1, constantValue := 0 }, { name := "RMIN", type := .long, accessFlags := 26, slot := 2, constantValue := 0 }]
  methods := #[k1m0, k1m1, k1m2]
  instanceTypes := #[]
  staticTypes := #[.long, .long, .long]
  resolved := Array.replicate 56 none
  statics := none }

def pool2 : Array CpInfo := pool [(1, .methodref 2 3), (0, .class_ 4), (0, .nameAndType 5 6), (0, u "java/lang/Object"), (0, u "<init>"), (0, u "()V"), (0, .class_ 8), (0, u "java/lang/Record")] 13

def k2c0 : Code := { maxStack := 1, maxLocals := 1, code := jdk_30_method_1_code, exceptionTable := #[], attributes := #[] }
def k2m0 : Method := { name := "<init>", desc := "()V", sig := { parameters := [], returnType := none }, accessFlags := 4, code := some k2c0 }
/-- java/lang/Record -/
def k2 : Class := { plain "java/lang/Record" (some 0) with
  accessFlags := 1057
  interfaces := #[]
  cf := some (fileOf pool2 7 #[] #[{ accessFlags := 4, nameIndex := 5, descriptorIndex := 6, attributes := #[] }] 1057 2 #[] #[])
  fields := #[]
  methods := #[k2m0]
  instanceTypes := #[]
  staticTypes := #[]
  resolved := Array.replicate 22 none
  statics := none }

def pool3 : Array CpInfo := pool [(5, .methodref 6 7), (0, .class_ 8), (0, .nameAndType 9 10), (0, u "java/lang/Record"), (0, u "<init>"), (0, u "()V"), (0, .methodref 12 13), (0, .class_ 14), (0, .nameAndType 15 16), (0, u "com/example/sorted_map_store/sortedmapstore/Column"), (0, u "checkFamily"), (0, u "(Ljava/lang/String;)Ljava/lang/String;"), (12, .fieldref 30 31), (0, .class_ 32), (0, .nameAndType 33 34), (0, u "com/example/sorted_map_store/sortedmapstore/ColumnFamily"), (0, u "name"), (0, u "Ljava/lang/String;"), (0, .fieldref 30 36), (0, .nameAndType 37 38), (0, u "maxVersions"), (0, u "I"), (0, .fieldref 30 40), (0, .nameAndType 41 42), (0, u "maxAgeSeconds"), (0, u "J"), (5, u "(Ljava/lang/String;IJ)V"), (0, .long 9223372036854), (1, .long 9223372036854775808), (1, .long 1000000), (13, u "ALL_VERSIONS"), (1, u "ANY_AGE"), (14, u "oldestKept"), (0, u "(J)J")] 36

def k3c0 : Code := { maxStack := 4, maxLocals := 5, code := prog_5_method_1_code, exceptionTable := #[], attributes := #[] }
def k3m0 : Method := { name := "<init>", desc := "(Ljava/lang/String;IJ)V", sig := { parameters := [(.object "java/lang/String"), .int, .long], returnType := none }, accessFlags := 1, code := some k3c0 }
def k3c1 : Code := { maxStack := 6, maxLocals := 5, code := prog_5_method_6_code, exceptionTable := #[], attributes := #[] }
def k3m1 : Method := { name := "oldestKept", desc := "(J)J", sig := { parameters := [.long], returnType := some .long }, accessFlags := 1, code := some k3c1 }
/-- com/example/sorted_map_store/sortedmapstore/ColumnFamily -/
def k3 : Class := { plain "com/example/sorted_map_store/sortedmapstore/ColumnFamily" (some 2) with
  accessFlags := 49
  interfaces := #[]
  cf := some (fileOf pool3 30 #[] #[{ accessFlags := 1, nameIndex := 9, descriptorIndex := 48, attributes := #[] }, { accessFlags := 1, nameIndex := 84, descriptorIndex := 85, attributes := #[] }] 49 6 #[] #[{ accessFlags := 18, nameIndex := 33, descriptorIndex := 34, attributes := #[] }, { accessFlags := 18, nameIndex := 37, descriptorIndex := 38, attributes := #[] }, { accessFlags := 18, nameIndex := 41, descriptorIndex := 42, attributes := #[] }, { accessFlags := 25, nameIndex := 67, descriptorIndex := 38, attributes := #[] }, { accessFlags := 25, nameIndex := 69, descriptorIndex := 42, attributes := #[] }])
  fields := #[{ name := "name", type := (.object "java/lang/String"), accessFlags := 18, slot := 0, constantValue := 0 }, { name := "maxVersions", type := .int, accessFlags := 18, slot := 1, constantValue := 0 }, { name := "maxAgeSeconds", type := .long, accessFlags := 18, slot := 2, constantValue := 0 }, { name := "ALL_VERSIONS", type := .int, accessFlags := 25, slot := 0, constantValue := 0 }, { name := "ANY_AGE", type := .long, accessFlags := 25, slot := 1, constantValue := 0 }]
  methods := #[k3m0, k3m1]
  instanceTypes := #[(.object "java/lang/String"), .int, .long]
  staticTypes := #[.int, .long]
  resolved := Array.replicate 122 none
  statics := none }

def pool4 : Array CpInfo := pool [(1, .class_ 2), (0, u "java/io/Serializable"), (0, .class_ 4), (0, u "java/lang/Object")] 2

/-- java/io/Serializable -/
def k4 : Class := { plain "java/io/Serializable" (some 0) with
  accessFlags := 1537
  interfaces := #[]
  cf := some (fileOf pool4 1 #[] #[] 1537 3 #[] #[])
  fields := #[]
  methods := #[]
  instanceTypes := #[]
  staticTypes := #[]
  resolved := Array.replicate 7 none
  statics := none }

def pool5 : Array CpInfo := pool [(1, .class_ 2), (0, u "java/lang/Comparable"), (0, .class_ 4), (0, u "java/lang/Object")] 7

/-- java/lang/Comparable -/
def k5 : Class := { plain "java/lang/Comparable" (some 0) with
  accessFlags := 1537
  interfaces := #[]
  cf := some (fileOf pool5 1 #[] #[] 1537 3 #[] #[])
  fields := #[]
  methods := #[]
  instanceTypes := #[]
  staticTypes := #[]
  resolved := Array.replicate 12 none
  statics := none }

def pool6 : Array CpInfo := pool [(2, .class_ 4), (1, u "java/lang/CharSequence"), (42, .class_ 48), (0, u "java/lang/CharSequence$1CodePointIterator"), (10, .class_ 60), (0, u "java/lang/CharSequence$1CharIterator"), (5, .class_ 67), (0, u "java/lang/Object")] 63

/-- java/lang/CharSequence -/
def k6 : Class := { plain "java/lang/CharSequence" (some 0) with
  accessFlags := 1537
  interfaces := #[]
  cf := some (fileOf pool6 2 #[.nestMembers #[47, 59]] #[] 1537 66 #[] #[])
  fields := #[]
  methods := #[]
  instanceTypes := #[]
  staticTypes := #[]
  resolved := Array.replicate 131 none
  statics := none }

def pool7 : Array CpInfo := pool [(1, .class_ 2), (0, u "java/lang/constant/Constable"), (0, .class_ 4), (0, u "java/lang/Object")] 6

/-- java/lang/constant/Constable -/
def k7 : Class := { plain "java/lang/constant/Constable" (some 0) with
  accessFlags := 1537
  interfaces := #[]
  cf := some (fileOf pool7 1 #[] #[] 1537 3 #[] #[])
  fields := #[]
  methods := #[]
  instanceTypes := #[]
  staticTypes := #[]
  resolved := Array.replicate 11 none
  statics := none }

def pool8 : Array CpInfo := pool [(1, .class_ 2), (0, u "java/lang/constant/ConstantDesc"), (0, .class_ 4), (0, u "java/lang/Object")] 32

/-- java/lang/constant/ConstantDesc -/
def k8 : Class := { plain "java/lang/constant/ConstantDesc" (some 0) with
  accessFlags := 1537
  interfaces := #[]
  cf := some (fileOf pool8 1 #[] #[] 1537 3 #[] #[])
  fields := #[]
  methods := #[]
  instanceTypes := #[]
  staticTypes := #[]
  resolved := Array.replicate 37 none
  statics := none }

def pool9 : Array CpInfo := pool [(2, .class_ 4), (1, u "java/lang/Object"), (0, u "<init>"), (0, u "()V"), (2, .fieldref 10 11), (0, .class_ 12), (0, .nameAndType 13 14), (0, u "java/lang/String"), (0, u "value"), (0, u "[B"), (0, .fieldref 10 16), (0, .nameAndType 17 18), (0, u "coder"), (0, u "B"), (2, u "hash"), (0, u "I"), (2, u "hashIsZero"), (0, u "Z"), (11, .fieldref 10 39), (0, .nameAndType 40 26), (0, u "COMPACT_STRINGS"), (66, .class_ 109), (1, u "java/lang/StringLatin1"), (32, u "()Z"), (191, u "()I"), (0, .methodref 10 336), (0, .nameAndType 17 337), (0, u "()B"), (25, u "([BI)C"), (27, u "(II)V"), (35, u "(I)C"), (64, .methodref 10 493), (0, .nameAndType 494 142), (0, u "isLatin1"), (0, .methodref 107 496), (0, .nameAndType 497 363), (0, u "charAt"), (3, u "checkIndex"), (5, u "length"), (67, .class_ 576), (0, u "java/lang/CharSequence"), (22, u "CASE_INSENSITIVE_ORDER"), (0, u "Ljava/util/Comparator;"), (91, u "isEmpty"), (360, .fieldref 1054 1055), (0, .class_ 1056), (0, .nameAndType 1057 1058), (0, u "jdk/internal/util/Preconditions"), (0, u "SIOOBE_FORMATTER"), (0, u "Ljava/util/function/BiFunction;"), (0, .methodref 1054 1060), (0, .nameAndType 501 1061), (0, u "(IILjava/util/function/BiFunction;)I"), (39, u "serialPersistentFields"), (0, u "[Ljava/io/ObjectStreamField;"), (0, .class_ 1104), (0, u "java/lang/String$CaseInsensitiveComparator"), (1, .class_ 1107), (0, u "java/io/Serializable"), (0, .class_ 1109), (0, u "java/lang/Comparable"), (0, .class_ 1111), (0, u "java/lang/constant/Constable"), (0, .class_ 1113), (0, u "java/lang/constant/ConstantDesc"), (2, u "serialVersionUID"), (0, u "J"), (3, u "REPL"), (0, u "C"), (2, u "LATIN1"), (1, u "UTF16")] 323

def k9m0 : Method := { name := "<init>", desc := "()V", sig := { parameters := [], returnType := none }, accessFlags := 1, code := none }
def k9c1 : Code := { maxStack := 2, maxLocals := 1, code := jdk_42_method_54_code, exceptionTable := #[], attributes := #[] }
def k9m1 : Method := { name := "length", desc := "()I", sig := { parameters := [], returnType := some .int }, accessFlags := 1, code := some k9c1 }
def k9c2 : Code := { maxStack := 1, maxLocals := 1, code := jdk_42_method_55_code, exceptionTable := #[], attributes := #[] }
def k9m2 : Method := { name := "isEmpty", desc := "()Z", sig := { parameters := [], returnType := some .boolean }, accessFlags := 1, code := some k9c2 }
def k9c3 : Code := { maxStack := 2, maxLocals := 2, code := jdk_42_method_56_code, exceptionTable := #[], attributes := #[] }
def k9m3 : Method := { name := "charAt", desc := "(I)C", sig := { parameters := [.int], returnType := some .char }, accessFlags := 1, code := some k9c3 }
def k9c4 : Code := { maxStack := 1, maxLocals := 1, code := jdk_42_method_152_code, exceptionTable := #[], attributes := #[] }
def k9m4 : Method := { name := "coder", desc := "()B", sig := { parameters := [], returnType := some .byte }, accessFlags := 0, code := some k9c4 }
def k9c5 : Code := { maxStack := 1, maxLocals := 1, code := jdk_42_method_154_code, exceptionTable := #[], attributes := #[] }
def k9m5 : Method := { name := "isLatin1", desc := "()Z", sig := { parameters := [], returnType := some .boolean }, accessFlags := 0, code := some k9c5 }
def k9c6 : Code := { maxStack := 3, maxLocals := 2, code := jdk_42_method_155_code, exceptionTable := #[], attributes := #[] }
def k9m6 : Method := { name := "checkIndex", desc := "(II)V", sig := { parameters := [.int, .int], returnType := none }, accessFlags := 8, code := some k9c6 }
/-- java/lang/String -/
def k9 : Class := { plain "java/lang/String" (some 0) with
  accessFlags := 49
  interfaces := #[4, 5, 6, 7, 8]
  cf := some (fileOf pool9 10 #[.nestMembers #[1103]] #[{ accessFlags := 1, nameIndex := 5, descriptorIndex := 6, attributes := #[] }, { accessFlags := 1, nameIndex := 507, descriptorIndex := 334, attributes := #[] }, { accessFlags := 1, nameIndex := 692, descriptorIndex := 142, attributes := #[] }, { accessFlags := 1, nameIndex := 497, descriptorIndex := 427, attributes := #[] }, { accessFlags := 0, nameIndex := 17, descriptorIndex := 337, attributes := #[] }, { accessFlags := 0, nameIndex := 494, descriptorIndex := 142, attributes := #[] }, { accessFlags := 8, nameIndex := 501, descriptorIndex := 391, attributes := #[] }] 49 2 #[1106, 1108, 575, 1110, 1112] #[{ accessFlags := 18, nameIndex := 13, descriptorIndex := 14, attributes := #[] }, { accessFlags := 18, nameIndex := 17, descriptorIndex := 18, attributes := #[] }, { accessFlags := 2, nameIndex := 21, descriptorIndex := 22, attributes := #[] }, { accessFlags := 2, nameIndex := 25, descriptorIndex := 26, attributes := #[] }, { accessFlags := 26, nameIndex := 1116, descriptorIndex := 1117, attributes := #[] }, { accessFlags := 24, nameIndex := 40, descriptorIndex := 26, attributes := #[] }, { accessFlags := 26, nameIndex := 1101, descriptorIndex := 1102, attributes := #[] }, { accessFlags := 26, nameIndex := 1121, descriptorIndex := 1122, attributes := #[] }, { accessFlags := 25, nameIndex := 599, descriptorIndex := 600, attributes := #[] }, { accessFlags := 24, nameIndex := 1125, descriptorIndex := 18, attributes := #[] }, { accessFlags := 24, nameIndex := 1127, descriptorIndex := 18, attributes := #[] }])
  fields := #[{ name := "value", type := (.array .byte), accessFlags := 18, slot := 0, constantValue := 0 }, { name := "coder", type := .byte, accessFlags := 18, slot := 1, constantValue := 0 }, { name := "hash", type := .int, accessFlags := 2, slot := 2, constantValue := 0 }, { name := "hashIsZero", type := .boolean, accessFlags := 2, slot := 3, constantValue := 0 }, { name := "serialVersionUID", type := .long, accessFlags := 26, slot := 0, constantValue := 0 }, { name := "COMPACT_STRINGS", type := .boolean, accessFlags := 24, slot := 1, constantValue := 0 }, { name := "serialPersistentFields", type := (.array (.object "java/io/ObjectStreamField")), accessFlags := 26, slot := 2, constantValue := 0 }, { name := "REPL", type := .char, accessFlags := 26, slot := 3, constantValue := 0 }, { name := "CASE_INSENSITIVE_ORDER", type := (.object "java/util/Comparator"), accessFlags := 25, slot := 4, constantValue := 0 }, { name := "LATIN1", type := .byte, accessFlags := 24, slot := 5, constantValue := 0 }, { name := "UTF16", type := .byte, accessFlags := 24, slot := 6, constantValue := 0 }]
  methods := #[k9m0, k9m1, k9m2, k9m3, k9m4, k9m5, k9m6]
  instanceTypes := #[(.array .byte), .byte, .int, .boolean]
  staticTypes := #[.long, .boolean, (.array (.object "java/io/ObjectStreamField")), .char, (.object "java/util/Comparator"), .byte, .byte]
  resolved := Array.replicate 1451 none
  statics := some 0 }

def pool10 : Array CpInfo := pool [(2, .class_ 4), (1, u "java/lang/Object"), (3, .class_ 10), (1, u "com/example/sorted_map_store/sortedmapstore/Column"), (0, u "family"), (0, u "Ljava/lang/String;"), (2, u "qualifier"), (0, u "[B"), (2, u "checkFamily"), (0, u "(Ljava/lang/String;)Ljava/lang/String;"), (13, .methodref 35 36), (0, .class_ 37), (0, .nameAndType 38 39), (0, u "java/util/Objects"), (0, u "requireNonNull"), (0, u "(Ljava/lang/Object;Ljava/lang/String;)Ljava/lang/Object;"), (12, .class_ 53), (0, u "java/lang/String"), (19, .string 11), (0, .methodref 52 75), (0, .nameAndType 76 77), (0, u "isEmpty"), (0, u "()Z"), (0, .methodref 52 79), (0, .nameAndType 80 81), (0, u "length"), (0, u "()I"), (1, .methodref 52 84), (0, .nameAndType 85 86), (0, u "charAt"), (0, u "(I)C"), (52, .class_ 140), (0, u "java/lang/Comparable"), (0, u "MAX_FAMILY_LENGTH"), (0, u "I"), (2, u "MAX_QUALIFIER_LENGTH")] 38

def k10c0 : Code := { maxStack := 3, maxLocals := 3, code := prog_4_method_6_code, exceptionTable := #[], attributes := #[] }
def k10m0 : Method := { name := "checkFamily", desc := "(Ljava/lang/String;)Ljava/lang/String;", sig := { parameters := [(.object "java/lang/String")], returnType := some (.object "java/lang/String") }, accessFlags := 9, code := some k10c0 }
/-- com/example/sorted_map_store/sortedmapstore/Column -/
def k10 : Class := { plain "com/example/sorted_map_store/sortedmapstore/Column" (some 0) with
  accessFlags := 49
  interfaces := #[5]
  cf := some (fileOf pool10 8 #[] #[{ accessFlags := 9, nameIndex := 19, descriptorIndex := 20, attributes := #[] }] 49 2 #[139] #[{ accessFlags := 25, nameIndex := 141, descriptorIndex := 142, attributes := #[] }, { accessFlags := 25, nameIndex := 145, descriptorIndex := 142, attributes := #[] }, { accessFlags := 18, nameIndex := 11, descriptorIndex := 12, attributes := #[] }, { accessFlags := 18, nameIndex := 15, descriptorIndex := 16, attributes := #[] }])
  fields := #[{ name := "MAX_FAMILY_LENGTH", type := .int, accessFlags := 25, slot := 0, constantValue := 0 }, { name := "MAX_QUALIFIER_LENGTH", type := .int, accessFlags := 25, slot := 1, constantValue := 0 }, { name := "family", type := (.object "java/lang/String"), accessFlags := 18, slot := 0, constantValue := 0 }, { name := "qualifier", type := (.array .byte), accessFlags := 18, slot := 1, constantValue := 0 }]
  methods := #[k10m0]
  instanceTypes := #[(.object "java/lang/String"), (.array .byte)]
  staticTypes := #[.int, .int]
  resolved := Array.replicate 184 none
  statics := none }

def pool11 : Array CpInfo := pool [(2, .class_ 4), (1, u "java/lang/Object"), (0, u "<init>"), (0, u "()V"), (35, .class_ 44), (1, u "java/util/Objects"), (0, u "requireNonNull"), (48, u "(Ljava/lang/Object;Ljava/lang/String;)Ljava/lang/Object;")] 89

def k11m0 : Method := { name := "<init>", desc := "()V", sig := { parameters := [], returnType := none }, accessFlags := 2, code := none }
def k11c1 : Code := { maxStack := 3, maxLocals := 2, code := jdk_31_method_11_code, exceptionTable := #[], attributes := #[] }
def k11m1 : Method := { name := "requireNonNull", desc := "(Ljava/lang/Object;Ljava/lang/String;)Ljava/lang/Object;", sig := { parameters := [(.object "java/lang/Object"), (.object "java/lang/String")], returnType := some (.object "java/lang/Object") }, accessFlags := 9, code := some k11c1 }
/-- java/util/Objects -/
def k11 : Class := { plain "java/util/Objects" (some 0) with
  accessFlags := 49
  interfaces := #[]
  cf := some (fileOf pool11 42 #[] #[{ accessFlags := 2, nameIndex := 5, descriptorIndex := 6, attributes := #[] }, { accessFlags := 9, nameIndex := 45, descriptorIndex := 94, attributes := #[] }] 49 2 #[] #[])
  fields := #[]
  methods := #[k11m0, k11m1]
  instanceTypes := #[]
  staticTypes := #[]
  resolved := Array.replicate 184 none
  statics := none }

def pool12 : Array CpInfo := pool [(1, .class_ 2), (0, u "java/lang/String"), (1, .class_ 6), (1, u "java/lang/Object"), (0, u "<init>"), (0, u "()V"), (0, .methodref 1 10), (0, .nameAndType 11 12), (0, u "checkIndex"), (0, u "(II)V"), (1, .class_ 16), (1, u "java/lang/StringLatin1"), (36, u "([BI)C"), (67, u "$assertionsDisabled"), (0, u "Z"), (98, .class_ 223), (1, u "java/lang/StringLatin1$LinesSpliterator"), (28, u "charAt"), (137, .class_ 391), (0, u "java/lang/StringLatin1$CharsSpliterator")] 3

def k12m0 : Method := { name := "<init>", desc := "()V", sig := { parameters := [], returnType := none }, accessFlags := 0, code := none }
def k12c1 : Code := { maxStack := 2, maxLocals := 2, code := jdk_43_method_2_code, exceptionTable := #[], attributes := #[] }
def k12m1 : Method := { name := "charAt", desc := "([BI)C", sig := { parameters := [(.array .byte), .int], returnType := some .char }, accessFlags := 9, code := some k12c1 }
/-- java/lang/StringLatin1 -/
def k12 : Class := { plain "java/lang/StringLatin1" (some 0) with
  accessFlags := 48
  interfaces := #[]
  cf := some (fileOf pool12 14 #[.nestMembers #[390, 221]] #[{ accessFlags := 0, nameIndex := 7, descriptorIndex := 8, attributes := #[] }, { accessFlags := 9, nameIndex := 252, descriptorIndex := 53, attributes := #[] }] 48 4 #[] #[{ accessFlags := 4120, nameIndex := 121, descriptorIndex := 122, attributes := #[] }])
  fields := #[{ name := "$assertionsDisabled", type := .boolean, accessFlags := 4120, slot := 0, constantValue := 0 }]
  methods := #[k12m0, k12m1]
  instanceTypes := #[]
  staticTypes := #[.boolean]
  resolved := Array.replicate 395 none
  statics := none }

def pool13 : Array CpInfo := pool [(2, .class_ 4), (1, u "java/lang/Object"), (0, u "<init>"), (0, u "()V"), (17, .class_ 26), (1, u "jdk/internal/util/Preconditions"), (6, u "checkIndex"), (21, .class_ 56), (0, u "jdk/internal/util/Preconditions$4"), (57, .class_ 115), (0, u "jdk/internal/util/Preconditions$1"), (7, u "SIOOBE_FORMATTER"), (0, u "Ljava/util/function/BiFunction;"), (0, .class_ 126), (0, u "jdk/internal/util/Preconditions$2"), (3, u "AIOOBE_FORMATTER"), (0, .class_ 132), (0, u "jdk/internal/util/Preconditions$3"), (3, u "IOOBE_FORMATTER"), (41, u "(IILjava/util/function/BiFunction;)I")] 15

def k13m0 : Method := { name := "<init>", desc := "()V", sig := { parameters := [], returnType := none }, accessFlags := 1, code := none }
def k13c1 : Code := { maxStack := 3, maxLocals := 3, code := jdk_41_method_11_code, exceptionTable := #[], attributes := #[] }
def k13m1 : Method := { name := "checkIndex", desc := "(IILjava/util/function/BiFunction;)I", sig := { parameters := [.int, .int, (.object "java/util/function/BiFunction")], returnType := some .int }, accessFlags := 9, code := some k13c1 }
/-- jdk/internal/util/Preconditions -/
def k13 : Class := { plain "jdk/internal/util/Preconditions" (some 0) with
  accessFlags := 33
  interfaces := #[]
  cf := some (fileOf pool13 24 #[.nestMembers #[55, 131, 125, 114]] #[{ accessFlags := 1, nameIndex := 5, descriptorIndex := 6, attributes := #[] }, { accessFlags := 9, nameIndex := 33, descriptorIndex := 178, attributes := #[] }] 33 2 #[] #[{ accessFlags := 25, nameIndex := 123, descriptorIndex := 124, attributes := #[] }, { accessFlags := 25, nameIndex := 130, descriptorIndex := 124, attributes := #[] }, { accessFlags := 25, nameIndex := 136, descriptorIndex := 124, attributes := #[] }])
  fields := #[{ name := "SIOOBE_FORMATTER", type := (.object "java/util/function/BiFunction"), accessFlags := 25, slot := 0, constantValue := 0 }, { name := "AIOOBE_FORMATTER", type := (.object "java/util/function/BiFunction"), accessFlags := 25, slot := 1, constantValue := 0 }, { name := "IOOBE_FORMATTER", type := (.object "java/util/function/BiFunction"), accessFlags := 25, slot := 2, constantValue := 0 }]
  methods := #[k13m0, k13m1]
  instanceTypes := #[]
  staticTypes := #[(.object "java/util/function/BiFunction"), (.object "java/util/function/BiFunction"), (.object "java/util/function/BiFunction")]
  resolved := Array.replicate 194 none
  statics := some 1 }

def pool14 : Array CpInfo := pool [(9, u "<init>"), (6, .class_ 18), (1, u "java/lang/Object"), (0, u "()V"), (1, .class_ 23), (1, u "jdk/internal/util/ArraysSupport"), (0, u "LOG2_ARRAY_LONG_INDEX_SCALE"), (0, u "I"), (2, u "U"), (0, u "Ljdk/internal/misc/Unsafe;"), (8, u "BIG_ENDIAN"), (0, u "Z"), (8, u "LOG2_BYTE_BIT_SIZE"), (4, u "LOG2_ARRAY_INT_INDEX_SCALE"), (54, u "JLA"), (0, u "Ljdk/internal/access/JavaLangAccess;"), (11, u "LOG2_ARRAY_BOOLEAN_INDEX_SCALE"), (9, u "LOG2_ARRAY_BYTE_INDEX_SCALE"), (5, u "LOG2_ARRAY_CHAR_INDEX_SCALE"), (5, u "LOG2_ARRAY_SHORT_INDEX_SCALE"), (18, u "LOG2_ARRAY_FLOAT_INDEX_SCALE"), (24, u "LOG2_ARRAY_DOUBLE_INDEX_SCALE"), (89, u "T_BOOLEAN"), (2, u "T_CHAR"), (1, u "T_FLOAT"), (1, u "T_DOUBLE"), (1, u "T_BYTE"), (1, u "T_SHORT"), (1, u "T_INT"), (1, u "T_LONG"), (1, u "SOFT_MAX_ARRAY_LENGTH")] 83

def k14m0 : Method := { name := "<init>", desc := "()V", sig := { parameters := [], returnType := none }, accessFlags := 2, code := none }
/-- jdk/internal/util/ArraysSupport -/
def k14 : Class := { plain "jdk/internal/util/ArraysSupport" (some 0) with
  accessFlags := 33
  interfaces := #[]
  cf := some (fileOf pool14 21 #[] #[{ accessFlags := 2, nameIndex := 9, descriptorIndex := 19, attributes := #[] }] 33 16 #[] #[{ accessFlags := 24, nameIndex := 28, descriptorIndex := 29, attributes := #[] }, { accessFlags := 26, nameIndex := 38, descriptorIndex := 39, attributes := #[] }, { accessFlags := 25, nameIndex := 121, descriptorIndex := 25, attributes := #[] }, { accessFlags := 25, nameIndex := 131, descriptorIndex := 25, attributes := #[] }, { accessFlags := 25, nameIndex := 137, descriptorIndex := 25, attributes := #[] }, { accessFlags := 25, nameIndex := 143, descriptorIndex := 25, attributes := #[] }, { accessFlags := 25, nameIndex := 53, descriptorIndex := 25, attributes := #[] }, { accessFlags := 25, nameIndex := 24, descriptorIndex := 25, attributes := #[] }, { accessFlags := 25, nameIndex := 162, descriptorIndex := 25, attributes := #[] }, { accessFlags := 25, nameIndex := 187, descriptorIndex := 25, attributes := #[] }, { accessFlags := 26, nameIndex := 48, descriptorIndex := 25, attributes := #[] }, { accessFlags := 25, nameIndex := 277, descriptorIndex := 25, attributes := #[] }, { accessFlags := 25, nameIndex := 280, descriptorIndex := 25, attributes := #[] }, { accessFlags := 25, nameIndex := 282, descriptorIndex := 25, attributes := #[] }, { accessFlags := 25, nameIndex := 284, descriptorIndex := 25, attributes := #[] }, { accessFlags := 25, nameIndex := 286, descriptorIndex := 25, attributes := #[] }, { accessFlags := 25, nameIndex := 288, descriptorIndex := 25, attributes := #[] }, { accessFlags := 25, nameIndex := 290, descriptorIndex := 25, attributes := #[] }, { accessFlags := 25, nameIndex := 292, descriptorIndex := 25, attributes := #[] }, { accessFlags := 26, nameIndex := 108, descriptorIndex := 109, attributes := #[] }, { accessFlags := 25, nameIndex := 294, descriptorIndex := 25, attributes := #[] }])
  fields := #[{ name := "U", type := (.object "jdk/internal/misc/Unsafe"), accessFlags := 24, slot := 0, constantValue := 0 }, { name := "BIG_ENDIAN", type := .boolean, accessFlags := 26, slot := 1, constantValue := 0 }, { name := "LOG2_ARRAY_BOOLEAN_INDEX_SCALE", type := .int, accessFlags := 25, slot := 2, constantValue := 0 }, { name := "LOG2_ARRAY_BYTE_INDEX_SCALE", type := .int, accessFlags := 25, slot := 3, constantValue := 0 }, { name := "LOG2_ARRAY_CHAR_INDEX_SCALE", type := .int, accessFlags := 25, slot := 4, constantValue := 0 }, { name := "LOG2_ARRAY_SHORT_INDEX_SCALE", type := .int, accessFlags := 25, slot := 5, constantValue := 0 }, { name := "LOG2_ARRAY_INT_INDEX_SCALE", type := .int, accessFlags := 25, slot := 6, constantValue := 0 }, { name := "LOG2_ARRAY_LONG_INDEX_SCALE", type := .int, accessFlags := 25, slot := 7, constantValue := 0 }, { name := "LOG2_ARRAY_FLOAT_INDEX_SCALE", type := .int, accessFlags := 25, slot := 8, constantValue := 0 }, { name := "LOG2_ARRAY_DOUBLE_INDEX_SCALE", type := .int, accessFlags := 25, slot := 9, constantValue := 0 }, { name := "LOG2_BYTE_BIT_SIZE", type := .int, accessFlags := 26, slot := 10, constantValue := 0 }, { name := "T_BOOLEAN", type := .int, accessFlags := 25, slot := 11, constantValue := 0 }, { name := "T_CHAR", type := .int, accessFlags := 25, slot := 12, constantValue := 0 }, { name := "T_FLOAT", type := .int, accessFlags := 25, slot := 13, constantValue := 0 }, { name := "T_DOUBLE", type := .int, accessFlags := 25, slot := 14, constantValue := 0 }, { name := "T_BYTE", type := .int, accessFlags := 25, slot := 15, constantValue := 0 }, { name := "T_SHORT", type := .int, accessFlags := 25, slot := 16, constantValue := 0 }, { name := "T_INT", type := .int, accessFlags := 25, slot := 17, constantValue := 0 }, { name := "T_LONG", type := .int, accessFlags := 25, slot := 18, constantValue := 0 }, { name := "JLA", type := (.object "jdk/internal/access/JavaLangAccess"), accessFlags := 26, slot := 19, constantValue := 0 }, { name := "SOFT_MAX_ARRAY_LENGTH", type := .int, accessFlags := 25, slot := 20, constantValue := 0 }]
  methods := #[k14m0]
  instanceTypes := #[]
  staticTypes := #[(.object "jdk/internal/misc/Unsafe"), .boolean, .int, .int, .int, .int, .int, .int, .int, .int, .int, .int, .int, .int, .int, .int, .int, .int, .int, (.object "jdk/internal/access/JavaLangAccess"), .int]
  resolved := Array.replicate 378 none
  statics := none }

def pool15 : Array CpInfo := pool [(1, u "java/lang/Cloneable"), (0, .class_ 1), (0, u "java/lang/Object"), (0, .class_ 3)] 3

/-- java/lang/Cloneable -/
def k15 : Class := { plain "java/lang/Cloneable" (some 0) with
  accessFlags := 1537
  interfaces := #[]
  cf := some (fileOf pool15 2 #[] #[] 1537 4 #[] #[])
  fields := #[]
  methods := #[]
  instanceTypes := #[]
  staticTypes := #[]
  resolved := Array.replicate 8 none
  statics := none }

/-- the primitive byte -/
def k16 : Class := { plain "byte" none with kind := .primitive 'B', accessFlags := 0x411 }
/-- [B -/
def k17 : Class := { plain "[B" (some 0) with kind := .array 16 .byte, interfaces := #[15, 4], accessFlags := 1041 }

/-- the primitive int -/
def k18 : Class := { plain "int" none with kind := .primitive 'I', accessFlags := 0x411 }
/-- [I -/
def k19 : Class := { plain "[I" (some 0) with kind := .array 18 .int, interfaces := #[15, 4], accessFlags := 1041 }

def heap : Heap := #[{ cls := 9, slots := #[.long 0, .int 1, .null, .int 0, .null, .int 0, .int 0], vm := .statics 9 },
  { cls := 13, slots := #[.null, .null, .null], vm := .statics 13 }]
def classes : Array Class := #[k0, k1, k2, k3, k4, k5, k6, k7, k8, k9, k10, k11, k12, k13, k14, k15, k16, k17, k18, k19]
def interned : List (Array UInt16 × Addr) := []
def slotsUsed : Nat := 10
def theMethod : MethodId := ⟨1, 2⟩
def args0 : Array Value := #[.long 5, .long 6, .int 3]
def aboutOver (below : List Frame) : State where
  vm := { classes := classes, interned := interned.toArray }
  heap := heap
  slotsUsed := slotsUsed
  threads := #[{ frames := .invoking theMethod args0 :: below }]
def below0 : List Frame := [.native { method := ⟨0, 0⟩, args := #[] }]
def about1 : State := aboutOver below0
def p0 : Program := .bare "" "" ""
def e0 : Env := launch0.env 0 0 0
theorem w_frames : about1.frames = Frame.invoking theMethod args0 :: below0 := rfl
set_option maxRecDepth 65536 in
theorem w_args : argsFit about1.vm theMethod args0 = true := by decide +kernel
set_option maxRecDepth 65536 in
theorem w_heap : heapFits about1 = true := by decide +kernel
set_option maxRecDepth 65536 in
theorem w_runnable : about1.curStatus? = some .runnable := by decide +kernel
set_option maxRecDepth 65536 in
theorem w_alone : about1.alone = true := by decide +kernel
set_option maxRecDepth 65536 in
theorem w_named : about1.methodNamed? x = some theMethod := by decide +kernel
set_option maxRecDepth 65536 in
theorem w_hears : about1.hears theMethod below0 = true := by decide +kernel
set_option maxRecDepth 65536 in
theorem w_ripe : about1.ripe theMethod args0 below0 = true := by decide +kernel
theorem w_running : about1.status = .running := rfl
set_option maxRecDepth 65536 in
theorem w_room : about1.hasRoom e0.platform room_1 = true :=
  launch0.hasRoom_least _ room_1 (by decide +kernel) (by decide +kernel) (by decide +kernel) (by decide +kernel) (by decide +kernel) (by decide +kernel)
theorem allAtoms_all (ts : List Jvm.Cond) (a : Array Jvm.Value) (st : Jvm.State) : (allAtoms ts).before a st = ts.all (fun c => c.before a st) := by
  induction ts with
  | nil => rfl
  | cons c t ih =>
    show (Jvm.Cond.and c (allAtoms t)).before a st = _
    rw [Jvm.Cond.before_and, ih, List.all_cons]
def words1 : List Jvm.Cond := Jvm.Cond.code x code maxLocals ret :: tables_1
/-- a 'code' word, met by the world's own term for the bytes: nothing is compared byte by byte -/
theorem code_word {y : MethodName} {bytes : ByteArray} {mx : Nat} {rt : Option FieldType} {a : Array Value} {s : State} {m : MethodId} {meth : Method} {c : Code} (h1 : s.methodNamed? y = some m) (h2 : s.vm.method? m = some meth) (h3 : meth.code = some c) (h4 : c.code = bytes)
    (h5 : (c.maxLocals == mx && c.exceptionTable.isEmpty && decide (c.maxStack ≤ mostOperands) && decide (meth.sig.returnType = rt) && !meth.locks && decide (parseMethodDescriptor y.desc = some meth.sig)) = true) : (Jvm.Cond.code y bytes mx rt).before a s = true := by
  simp only [Bool.and_eq_true, beq_iff_eq, Bool.not_eq_true', decide_eq_true_eq] at h5
  obtain ⟨⟨⟨⟨⟨g1, g2⟩, g3⟩, g4⟩, g5⟩, g6⟩ := h5
  simp [Cond.before, Cond.holds, Cond.value, h1, h2, h3, h4, g1, g2, g3, g4, g5, g6]
def isCode : Jvm.Cond → Bool
  | .code _ _ _ _ => true
  | _ => false
theorem all_split {L : List Jvm.Cond} {P : Jvm.Cond → Bool} (h1 : L.all (fun c => isCode c || P c) = true) (h2 : ∀ c ∈ L.filter isCode, P c = true) : L.all P = true := by
  refine List.all_eq_true.mpr fun c hc => ?_
  have h := List.all_eq_true.mp h1 c hc
  rcases Bool.eq_false_or_eq_true (isCode c) with hi | hi
  · exact h2 c (List.mem_filter.mpr ⟨hc, hi⟩)
  · simpa [hi] using h
set_option maxRecDepth 65536 in
theorem w_c0 : (Jvm.Cond.code x code maxLocals ret).before args0 about1 = true := code_word (m := ⟨1, 2⟩) (meth := k1m2) (c := k1c2) (by decide +kernel) rfl rfl rfl (by decide +kernel)
set_option maxRecDepth 65536 in
theorem w_c1 : (Jvm.Cond.code ({ cls := "com/example/sorted_map_store/sortedmapstore/ColumnFamily", name := "<init>", desc := "(Ljava/lang/String;IJ)V" } : Jvm.MethodName) prog_5_method_1_code (5 : Nat) (Option.none : Option Jvm.ClassFile.FieldType)).before args0 about1 = true := code_word (m := ⟨3, 0⟩) (meth := k3m0) (c := k3c0) (by decide +kernel) rfl rfl rfl (by decide +kernel)
set_option maxRecDepth 65536 in
theorem w_c2 : (Jvm.Cond.code ({ cls := "java/lang/Record", name := "<init>", desc := "()V" } : Jvm.MethodName) jdk_30_method_1_code (1 : Nat) (Option.none : Option Jvm.ClassFile.FieldType)).before args0 about1 = true := code_word (m := ⟨2, 0⟩) (meth := k2m0) (c := k2c0) (by decide +kernel) rfl rfl rfl (by decide +kernel)
set_option maxRecDepth 65536 in
theorem w_c3 : (Jvm.Cond.code ({ cls := "java/lang/Object", name := "<init>", desc := "()V" } : Jvm.MethodName) object_method_1_code (1 : Nat) (Option.none : Option Jvm.ClassFile.FieldType)).before args0 about1 = true := code_word (m := ⟨0, 0⟩) (meth := k0m0) (c := k0c0) (by decide +kernel) rfl rfl rfl (by decide +kernel)
set_option maxRecDepth 65536 in
theorem w_c4 : (Jvm.Cond.code ({ cls := "com/example/sorted_map_store/sortedmapstore/Column", name := "checkFamily", desc := "(Ljava/lang/String;)Ljava/lang/String;" } : Jvm.MethodName) prog_4_method_6_code (3 : Nat) (Option.some (Jvm.ClassFile.FieldType.object "java/lang/String"))).before args0 about1 = true := code_word (m := ⟨10, 0⟩) (meth := k10m0) (c := k10c0) (by decide +kernel) rfl rfl rfl (by decide +kernel)
set_option maxRecDepth 65536 in
theorem w_c5 : (Jvm.Cond.code ({ cls := "java/util/Objects", name := "requireNonNull", desc := "(Ljava/lang/Object;Ljava/lang/String;)Ljava/lang/Object;" } : Jvm.MethodName) jdk_31_method_11_code (2 : Nat) (Option.some (Jvm.ClassFile.FieldType.object "java/lang/Object"))).before args0 about1 = true := code_word (m := ⟨11, 1⟩) (meth := k11m1) (c := k11c1) (by decide +kernel) rfl rfl rfl (by decide +kernel)
set_option maxRecDepth 65536 in
theorem w_c6 : (Jvm.Cond.code ({ cls := "java/lang/String", name := "isEmpty", desc := "()Z" } : Jvm.MethodName) jdk_42_method_55_code (1 : Nat) (Option.some Jvm.ClassFile.FieldType.boolean)).before args0 about1 = true := code_word (m := ⟨9, 2⟩) (meth := k9m2) (c := k9c2) (by decide +kernel) rfl rfl rfl (by decide +kernel)
set_option maxRecDepth 65536 in
theorem w_c7 : (Jvm.Cond.code ({ cls := "java/lang/String", name := "length", desc := "()I" } : Jvm.MethodName) jdk_42_method_54_code (1 : Nat) (Option.some Jvm.ClassFile.FieldType.int)).before args0 about1 = true := code_word (m := ⟨9, 1⟩) (meth := k9m1) (c := k9c1) (by decide +kernel) rfl rfl rfl (by decide +kernel)
set_option maxRecDepth 65536 in
theorem w_c8 : (Jvm.Cond.code ({ cls := "java/lang/String", name := "coder", desc := "()B" } : Jvm.MethodName) jdk_42_method_152_code (1 : Nat) (Option.some Jvm.ClassFile.FieldType.byte)).before args0 about1 = true := code_word (m := ⟨9, 4⟩) (meth := k9m4) (c := k9c4) (by decide +kernel) rfl rfl rfl (by decide +kernel)
set_option maxRecDepth 65536 in
theorem w_c9 : (Jvm.Cond.code ({ cls := "java/lang/String", name := "charAt", desc := "(I)C" } : Jvm.MethodName) jdk_42_method_56_code (2 : Nat) (Option.some Jvm.ClassFile.FieldType.char)).before args0 about1 = true := code_word (m := ⟨9, 3⟩) (meth := k9m3) (c := k9c3) (by decide +kernel) rfl rfl rfl (by decide +kernel)
set_option maxRecDepth 65536 in
theorem w_c10 : (Jvm.Cond.code ({ cls := "java/lang/String", name := "isLatin1", desc := "()Z" } : Jvm.MethodName) jdk_42_method_154_code (1 : Nat) (Option.some Jvm.ClassFile.FieldType.boolean)).before args0 about1 = true := code_word (m := ⟨9, 5⟩) (meth := k9m5) (c := k9c5) (by decide +kernel) rfl rfl rfl (by decide +kernel)
set_option maxRecDepth 65536 in
theorem w_c11 : (Jvm.Cond.code ({ cls := "java/lang/StringLatin1", name := "charAt", desc := "([BI)C" } : Jvm.MethodName) jdk_43_method_2_code (2 : Nat) (Option.some Jvm.ClassFile.FieldType.char)).before args0 about1 = true := code_word (m := ⟨12, 1⟩) (meth := k12m1) (c := k12c1) (by decide +kernel) rfl rfl rfl (by decide +kernel)
set_option maxRecDepth 65536 in
theorem w_c12 : (Jvm.Cond.code ({ cls := "java/lang/String", name := "checkIndex", desc := "(II)V" } : Jvm.MethodName) jdk_42_method_155_code (2 : Nat) (Option.none : Option Jvm.ClassFile.FieldType)).before args0 about1 = true := code_word (m := ⟨9, 6⟩) (meth := k9m6) (c := k9c6) (by decide +kernel) rfl rfl rfl (by decide +kernel)
set_option maxRecDepth 65536 in
theorem w_c13 : (Jvm.Cond.code ({ cls := "jdk/internal/util/Preconditions", name := "checkIndex", desc := "(IILjava/util/function/BiFunction;)I" } : Jvm.MethodName) jdk_41_method_11_code (3 : Nat) (Option.some Jvm.ClassFile.FieldType.int)).before args0 about1 = true := code_word (m := ⟨13, 1⟩) (meth := k13m1) (c := k13c1) (by decide +kernel) rfl rfl rfl (by decide +kernel)
set_option maxRecDepth 65536 in
theorem w_c14 : (Jvm.Cond.code ({ cls := "com/example/sorted_map_store/sortedmapstore/ColumnFamily", name := "oldestKept", desc := "(J)J" } : Jvm.MethodName) prog_5_method_6_code (5 : Nat) (Option.some Jvm.ClassFile.FieldType.long)).before args0 about1 = true := code_word (m := ⟨3, 1⟩) (meth := k3m1) (c := k3c1) (by decide +kernel) rfl rfl rfl (by decide +kernel)
set_option maxRecDepth 65536 in
theorem w_c15 : (Jvm.Cond.code ({ cls := "com/example/sorted_map_store/sortedmapstore/ColumnFamilyOldestKeptPinLaw", name := "reference", desc := "(JJ)J" } : Jvm.MethodName) method_2_code (10 : Nat) (Option.some Jvm.ClassFile.FieldType.long)).before args0 about1 = true := code_word (m := ⟨1, 1⟩) (meth := k1m1) (c := k1c1) (by decide +kernel) rfl rfl rfl (by decide +kernel)
def codes1 : List Jvm.Cond := [Jvm.Cond.code x code maxLocals ret, Jvm.Cond.code ({ cls := "com/example/sorted_map_store/sortedmapstore/ColumnFamily", name := "<init>", desc := "(Ljava/lang/String;IJ)V" } : Jvm.MethodName) prog_5_method_1_code (5 : Nat) (Option.none : Option Jvm.ClassFile.FieldType), Jvm.Cond.code ({ cls := "java/lang/Record", name := "<init>", desc := "()V" } : Jvm.MethodName) jdk_30_method_1_code (1 : Nat) (Option.none : Option Jvm.ClassFile.FieldType), Jvm.Cond.code ({ cls := "java/lang/Object", name := "<init>", desc := "()V" } : Jvm.MethodName) object_method_1_code (1 : Nat) (Option.none : Option Jvm.ClassFile.FieldType), Jvm.Cond.code ({ cls := "com/example/sorted_map_store/sortedmapstore/Column", name := "checkFamily", desc := "(Ljava/lang/String;)Ljava/lang/String;" } : Jvm.MethodName) prog_4_method_6_code (3 : Nat) (Option.some (Jvm.ClassFile.FieldType.object "java/lang/String")), Jvm.Cond.code ({ cls := "java/util/Objects", name := "requireNonNull", desc := "(Ljava/lang/Object;Ljava/lang/String;)Ljava/lang/Object;" } : Jvm.MethodName) jdk_31_method_11_code (2 : Nat) (Option.some (Jvm.ClassFile.FieldType.object "java/lang/Object")), Jvm.Cond.code ({ cls := "java/lang/String", name := "isEmpty", desc := "()Z" } : Jvm.MethodName) jdk_42_method_55_code (1 : Nat) (Option.some Jvm.ClassFile.FieldType.boolean), Jvm.Cond.code ({ cls := "java/lang/String", name := "length", desc := "()I" } : Jvm.MethodName) jdk_42_method_54_code (1 : Nat) (Option.some Jvm.ClassFile.FieldType.int), Jvm.Cond.code ({ cls := "java/lang/String", name := "coder", desc := "()B" } : Jvm.MethodName) jdk_42_method_152_code (1 : Nat) (Option.some Jvm.ClassFile.FieldType.byte), Jvm.Cond.code ({ cls := "java/lang/String", name := "charAt", desc := "(I)C" } : Jvm.MethodName) jdk_42_method_56_code (2 : Nat) (Option.some Jvm.ClassFile.FieldType.char), Jvm.Cond.code ({ cls := "java/lang/String", name := "isLatin1", desc := "()Z" } : Jvm.MethodName) jdk_42_method_154_code (1 : Nat) (Option.some Jvm.ClassFile.FieldType.boolean), Jvm.Cond.code ({ cls := "java/lang/StringLatin1", name := "charAt", desc := "([BI)C" } : Jvm.MethodName) jdk_43_method_2_code (2 : Nat) (Option.some Jvm.ClassFile.FieldType.char), Jvm.Cond.code ({ cls := "java/lang/String", name := "checkIndex", desc := "(II)V" } : Jvm.MethodName) jdk_42_method_155_code (2 : Nat) (Option.none : Option Jvm.ClassFile.FieldType), Jvm.Cond.code ({ cls := "jdk/internal/util/Preconditions", name := "checkIndex", desc := "(IILjava/util/function/BiFunction;)I" } : Jvm.MethodName) jdk_41_method_11_code (3 : Nat) (Option.some Jvm.ClassFile.FieldType.int), Jvm.Cond.code ({ cls := "com/example/sorted_map_store/sortedmapstore/ColumnFamily", name := "oldestKept", desc := "(J)J" } : Jvm.MethodName) prog_5_method_6_code (5 : Nat) (Option.some Jvm.ClassFile.FieldType.long), Jvm.Cond.code ({ cls := "com/example/sorted_map_store/sortedmapstore/ColumnFamilyOldestKeptPinLaw", name := "reference", desc := "(JJ)J" } : Jvm.MethodName) method_2_code (10 : Nat) (Option.some Jvm.ClassFile.FieldType.long)]
set_option maxRecDepth 65536 in
theorem codes_eq : words1.filter isCode = codes1 := rfl
theorem w_codes : ∀ c ∈ words1.filter isCode, c.before args0 about1 = true := by
  rw [codes_eq]
  intro c hc
  simp only [codes1, List.mem_cons, List.not_mem_nil, or_false] at hc
  rcases hc with rfl | rfl | rfl | rfl | rfl | rfl | rfl | rfl | rfl | rfl | rfl | rfl | rfl | rfl | rfl | rfl
  · exact w_c0
  · exact w_c1
  · exact w_c2
  · exact w_c3
  · exact w_c4
  · exact w_c5
  · exact w_c6
  · exact w_c7
  · exact w_c8
  · exact w_c9
  · exact w_c10
  · exact w_c11
  · exact w_c12
  · exact w_c13
  · exact w_c14
  · exact w_c15
set_option maxRecDepth 65536 in
theorem w_t1 : (words1.take 24).all (fun c => isCode c || c.before args0 about1) = true := by decide +kernel
set_option maxRecDepth 65536 in
theorem w_t2 : ((words1.drop 24).take 24).all (fun c => isCode c || c.before args0 about1) = true := by decide +kernel
set_option maxRecDepth 65536 in
theorem w_t3 : (((words1.drop 24).drop 24).take 24).all (fun c => isCode c || c.before args0 about1) = true := by decide +kernel
set_option maxRecDepth 65536 in
theorem w_t4 : ((((words1.drop 24).drop 24).drop 24).take 24).all (fun c => isCode c || c.before args0 about1) = true := by decide +kernel
set_option maxRecDepth 65536 in
theorem w_t5 : ((((words1.drop 24).drop 24).drop 24).drop 24).all (fun c => isCode c || c.before args0 about1) = true := by decide +kernel
theorem w_tables : (allAtoms (Jvm.Cond.code x code maxLocals ret :: tables_1)).before args0 about1 = true := by
  rw [allAtoms_all]
  show words1.all (fun c => c.before args0 about1) = true
  refine all_split ?_ w_codes
  rw [← List.take_append_drop 24 words1, List.all_append, w_t1, ← List.take_append_drop 24 (words1.drop 24), List.all_append, w_t2, ← List.take_append_drop 24 ((words1.drop 24).drop 24), List.all_append, w_t3, ← List.take_append_drop 24 (((words1.drop 24).drop 24).drop 24), List.all_append, w_t4, w_t5]
  rfl
set_option maxRecDepth 65536 in
theorem w_rest : rest_1_c.before args0 about1 = true := by decide +kernel
set_option maxRecDepth 65536 in
theorem w_case : (Jvm.Cond.and given_1 narrow_1).before args0 about1 = true := by decide +kernel
set_option maxRecDepth 65536 in
theorem w_consts : constsHeld consts_1 about1 := Jvm.Lit.constsHeldB_iff.mp (by decide +kernel)
theorem w_applies : (headSpec (Jvm.Cond.code x code maxLocals ret :: tables_1) room_1).applies x e0.platform about1 = true :=
  (Spec.applies_iff w_frames).mpr ⟨w_running, w_runnable, w_alone, w_named, w_hears, w_ripe, w_room, w_tables⟩
theorem atStart : AtStart classFile x code maxLocals ret World_1 tables_1 room_1 Calls_1 rest_1 Pre_1 launch0 p0 e0 about1 theMethod args0 below0 :=
  ⟨lists_1, trivial, launch0.admits_env _ _ _, launch0.least_env, fairChoices_fair.cas, fairChoices_fair.clock, w_frames, w_args, w_heap, w_applies, ⟨w_consts, trivial⟩, w_rest, w_case⟩
end start1
theorem witness_1 : WitnessClaimed_1 := ⟨start1.p0, start1.e0, start1.about1, start1.theMethod, start1.args0, start1.below0, start1.atStart⟩
end Jvm.Pilot.@@N@@
