import JvmDerived
import JvmDerived.Pilot.@@N@@Statement
import JvmDerived.Pilot.@@N@@Code
set_option linter.unusedVariables false
set_option linter.unusedSimpArgs false
@@BLOCK:NumsL.lean.txt@@
namespace Jvm.Pilot.@@N@@
open Jvm Jvm.ClassFile Sem Op Lib Jvm.Free Jvm.Stand Jvm.LawKit Jvm.RoadKit Bundle Jvm.Pilot.@@N@@.Jvm.D
section OwnKit
variable {p : Program} {l : Launch} {e : Env} {R : Room} {s : State} {m : MethodId} {args : Array Value} {below : List Frame} {meth : Method} {c : Code} {T : State} {locs : List Loc} {cells slots : Nat} {Z : State} {h h' : Heap} {a b : Addr} {ty : FieldType} {n sl : Nat} {f : Nat → Value} {v : Value} {ws : List Addr}
theorem own_retI (X : Stand p l e R s m args below meth c T locs cells slots) (hx : p.tables.exec = Jvm.exec) {pc : Nat} {Ls : Array Slot} {z : Int32} {rest : List Value} (hret : meth.sig.returnType = some .int) (hd : decode c.code pc = .ok (.ireturn, 1)) {fs : List Frame}
    (hl : ∀ (f : JFrame) (acts : List Action), f.method = m → f.locked = none → f.entered = [] → (doReturn e (T.setTop f) acts (some (.int z))).1 = T.setFrames fs) : Steps p.tables e below (T.setTop (mkF m pc Ls (.int z :: rest))) (T.setFrames fs) := by
  have hm' : T.vm.method? m = some meth := X.method'
  have hn : narrow .int (.int z) = .int z := rfl
  show Steps p.tables e below (T.setTop { method := m, pc := pc, locals := Ls, stack := _ :: rest, locked := none }) _
  jvm_step X.here [X.here.top, hx, hd, hm', hret, hn]
  first | (intro acts; rw [hl _ acts rfl rfl rfl]) | rw [hl _ _ rfl rfl rfl]
  exact Steps.refl _
theorem own_retA (X : Stand p l e R s m args below meth c T locs cells slots) (hx : p.tables.exec = Jvm.exec) {pc : Nat} {Ls : Array Slot} {w : Addr} {rest : List Value} {t : FieldType} (ht : t.isReference = true) (hret : meth.sig.returnType = some t) (hd : decode c.code pc = .ok (.areturn, 1)) {fs : List Frame}
    (hl : ∀ (f : JFrame) (acts : List Action), f.method = m → f.locked = none → f.entered = [] → (doReturn e (T.setTop f) acts (some (.ref w))).1 = T.setFrames fs) : Steps p.tables e below (T.setTop (mkF m pc Ls (.ref w :: rest))) (T.setFrames fs) := by
  have hm' : T.vm.method? m = some meth := X.method'
  show Steps p.tables e below (T.setTop { method := m, pc := pc, locals := Ls, stack := _ :: rest, locked := none }) _
  jvm_step X.here [X.here.top, hx, hd, hm', hret, ht, Value.isRef]
  first | (intro acts; rw [hl _ acts rfl rfl rfl]) | rw [hl _ _ rfl rfl rfl]
  exact Steps.refl _
theorem own_retL (X : Stand p l e R s m args below meth c T locs cells slots) (hx : p.tables.exec = Jvm.exec) {pc : Nat} {Ls : Array Slot} {w : Int64} {rest : List Value} (hret : meth.sig.returnType = some .long) (hd : decode c.code pc = .ok (.lreturn, 1)) {fs : List Frame}
    (hl : ∀ (f : JFrame) (acts : List Action), f.method = m → f.locked = none → f.entered = [] → (doReturn e (T.setTop f) acts (some (.long w))).1 = T.setFrames fs) : Steps p.tables e below (T.setTop (mkF m pc Ls (.long w :: rest))) (T.setFrames fs) := by
  have hm' : T.vm.method? m = some meth := X.method'
  show Steps p.tables e below (T.setTop { method := m, pc := pc, locals := Ls, stack := _ :: rest, locked := none }) _
  jvm_step X.here [X.here.top, hx, hd, hm', hret]
  first | (intro acts; rw [hl _ acts rfl rfl rfl]) | rw [hl _ _ rfl rfl rfl]
  exact Steps.refl _
/-- an array: its kind, its length, what lies at each place -/
def OwnA (Z : State) (h : Heap) (a : Addr) (ty : FieldType) (n : Nat) (f : Nat → Value) : Prop :=
  ∃ c : Cell, Arr Z h a c ty ∧ c.slots.size = n ∧ (∀ i, i < n → c.slots[i]? = some (f i)) ∧ ∀ i, i < n → fits ty (f i) = true
def own_upd (f : Nat → Value) (j : Nat) (v : Value) : Nat → Value := fun i => if i = j then v else f i
theorem own_at (f : Nat → Value) (j : Nat) (v : Value) : own_upd f j v j = v := if_pos rfl
theorem own_off (f : Nat → Value) {i j : Nat} (v : Value) (q : i ≠ j) : own_upd f j v i = f i := if_neg q
theorem OwnA.lt (F : OwnA Z h a ty n f) : a < h.size := by obtain ⟨c, A, -⟩ := F; exact A.lt
theorem OwnA.ext (F : OwnA Z h a ty n f) (E : Ext h h') : OwnA Z h' a ty n f := by obtain ⟨c, A, r⟩ := F; exact ⟨c, A.ext E, r⟩
theorem OwnA.other (F : OwnA Z h b ty n f) (W : Wr h h' a sl v) (q : b ≠ a) : OwnA Z h' b ty n f := by obtain ⟨c, A, r⟩ := F; exact ⟨c, A.other W q, r⟩
theorem OwnA.keep (F : OwnA Z h a ty n f) (K : Keep h h' ws) (q : a ∉ ws) : OwnA Z h' a ty n f := by obtain ⟨c, A, r⟩ := F; exact ⟨c, ⟨K.2.1 a c A.1 q, A.2⟩, r⟩
theorem OwnA.cast {f' : Nat → Value} (F : OwnA Z h a ty n f) (q : ∀ i, i < n → f i = f' i) : OwnA Z h a ty n f' := by
  obtain ⟨c, A, r1, r2, r3⟩ := F
  exact ⟨c, A, r1, fun i hi => by rw [← q i hi]; exact r2 i hi, fun i hi => by rw [← q i hi]; exact r3 i hi⟩
theorem OwnA.set {k : Nat} (F : OwnA Z h a ty n f) (W : Wr h h' a k v) (hv : fits ty v = true) : OwnA Z h' a ty n (own_upd f k v) := by
  obtain ⟨c, A, r1, r2, r3⟩ := F
  refine ⟨_, A.same W, by rw [sz_set]; exact r1, fun i hi => ?_, fun i hi => ?_⟩
  · by_cases q : i = k
    · subst q
      rw [own_at]
      have : i < c.slots.size := by rw [r1]; exact hi
      simp [Cell.setSlot, this]
    · rw [own_off _ _ q, ← r2 i hi]
      simp only [Cell.setSlot]
      rw [Array.getElem?_setIfInBounds_ne (Ne.symm q)]
  · by_cases q : i = k
    · subst q; rw [own_at]; exact hv
    · rw [own_off _ _ q]; exact r3 i hi
theorem OwnA.new {k : ClassId} {z : Int32} (A : Arr Z h a (newA k ty z) ty) (hz : z.toNatClampNeg = n) : OwnA Z h a ty n (fun _ => defaultValue ty) := by
  refine ⟨_, A, by rw [sz_new]; exact hz, fun i hi => ?_, fun i _ => by cases ty <;> rfl⟩
  subst hz; simp [newA, hi]
theorem own_in {c : Cell} {j : Int32} {k : Nat} (r1 : c.slots.size = n) (hj : ¬ j < 0) (hk : j.toNatClampNeg = k) (hn : k < n) : ¬ (j < 0 ∨ c.slots.size ≤ j.toNatClampNeg) := by
  rintro (q | q)
  · exact hj q
  · omega
theorem own_stB (X : Stand p l e R s m args below meth c T locs cells slots) (hx : p.tables.exec = Jvm.exec) (hZ : Z.Warmed39 s.vm) (eT : T.heap = h) (F : OwnA Z h a .byte n f) {j x : Int32} (k : Nat) (hj : ¬ j < 0) (hk : j.toNatClampNeg = k) (hn : k < n) {g : JFrame} (hg : g.method = m) {rest : List Value} (hs : g.stack = .int x :: .int j :: .ref a :: rest) (hd : decode c.code g.pc = .ok (.bastore, 1)) :
    ∃ T' h', Stand p l e R s m args below meth c T' (locs ++ [⟨a, k⟩]) cells slots ∧ T'.heap = h' ∧ Wr h h' a k (.int x.toInt8.toInt32) ∧ OwnA Z h' a .byte n (own_upd f k (.int x.toInt8.toInt32)) ∧ ∀ target, Steps p.tables e below (T'.setTop { g with pc := g.pc + 1, stack := rest }) target → Steps p.tables e below (T.setTop g) target := by
  obtain ⟨c0, A, r1, r2, r3⟩ := F
  obtain ⟨T', h', X', e', W', st⟩ := stB X hx hZ eT A (own_in r1 hj hk hn) hg hs hd
  subst hk
  exact ⟨T', h', X', e', W', OwnA.set ⟨c0, A, r1, r2, r3⟩ W' (fits_nar_byte _), st⟩
theorem own_stC (X : Stand p l e R s m args below meth c T locs cells slots) (hx : p.tables.exec = Jvm.exec) (hZ : Z.Warmed39 s.vm) (eT : T.heap = h) (F : OwnA Z h a .char n f) {j x : Int32} (k : Nat) (hj : ¬ j < 0) (hk : j.toNatClampNeg = k) (hn : k < n) {g : JFrame} (hg : g.method = m) {rest : List Value} (hs : g.stack = .int x :: .int j :: .ref a :: rest) (hd : decode c.code g.pc = .ok (.castore, 1)) :
    ∃ T' h', Stand p l e R s m args below meth c T' (locs ++ [⟨a, k⟩]) cells slots ∧ T'.heap = h' ∧ Wr h h' a k (.int x.toUInt32.toUInt16.toUInt32.toInt32) ∧ OwnA Z h' a .char n (own_upd f k (.int x.toUInt32.toUInt16.toUInt32.toInt32)) ∧ ∀ target, Steps p.tables e below (T'.setTop { g with pc := g.pc + 1, stack := rest }) target → Steps p.tables e below (T.setTop g) target := by
  obtain ⟨c0, A, r1, r2, r3⟩ := F
  obtain ⟨T', h', X', e', W', st⟩ := stC X hx hZ eT A (own_in r1 hj hk hn) hg hs hd
  subst hk
  exact ⟨T', h', X', e', W', OwnA.set ⟨c0, A, r1, r2, r3⟩ W' (fits_nar_char _), st⟩
theorem own_stJ (X : Stand p l e R s m args below meth c T locs cells slots) (hx : p.tables.exec = Jvm.exec) (hZ : Z.Warmed39 s.vm) (eT : T.heap = h) (F : OwnA Z h a .long n f) {j : Int32} {x : Int64} (k : Nat) (hj : ¬ j < 0) (hk : j.toNatClampNeg = k) (hn : k < n) {g : JFrame} (hg : g.method = m) {rest : List Value} (hs : g.stack = .long x :: .int j :: .ref a :: rest) (hd : decode c.code g.pc = .ok (.lastore, 1)) :
    ∃ T' h', Stand p l e R s m args below meth c T' (locs ++ [⟨a, k⟩]) cells slots ∧ T'.heap = h' ∧ Wr h h' a k (.long x) ∧ OwnA Z h' a .long n (own_upd f k (.long x)) ∧ ∀ target, Steps p.tables e below (T'.setTop { g with pc := g.pc + 1, stack := rest }) target → Steps p.tables e below (T.setTop g) target := by
  obtain ⟨c0, A, r1, r2, r3⟩ := F
  obtain ⟨T', h', X', e', W', st⟩ := stJ X hx hZ eT A (own_in r1 hj hk hn) hg hs hd
  subst hk
  exact ⟨T', h', X', e', W', OwnA.set ⟨c0, A, r1, r2, r3⟩ W' rfl, st⟩
theorem own_stR (X : Stand p l e R s m args below meth c T locs cells slots) (hx : p.tables.exec = Jvm.exec) (hZ : Z.Warmed39 s.vm) (eT : T.heap = h) (F : OwnA Z h a ty n f) (hty : ty.isReference = true) (So : Sto Z h a v) (hv : fits ty v = true) {j : Int32} (k : Nat) (hj : ¬ j < 0) (hk : j.toNatClampNeg = k) (hn : k < n) {g : JFrame} (hg : g.method = m) {rest : List Value} (hs : g.stack = v :: .int j :: .ref a :: rest) (hd : decode c.code g.pc = .ok (.aastore, 1)) :
    ∃ T' h', Stand p l e R s m args below meth c T' (locs ++ [⟨a, k⟩]) cells slots ∧ T'.heap = h' ∧ Wr h h' a k v ∧ OwnA Z h' a ty n (own_upd f k v) ∧ ∀ target, Steps p.tables e below (T'.setTop { g with pc := g.pc + 1, stack := rest }) target → Steps p.tables e below (T.setTop g) target := by
  obtain ⟨c0, A, r1, r2, r3⟩ := F
  obtain ⟨T', h', X', e', W', st⟩ := stR X hx hZ eT A (own_in r1 hj hk hn) hty So hg hs hd
  subst hk
  exact ⟨T', h', X', e', W', OwnA.set ⟨c0, A, r1, r2, r3⟩ W' hv, st⟩
theorem own_ldB (X : Stand p l e R s m args below meth c T locs cells slots) (hx : p.tables.exec = Jvm.exec) (hZ : Z.Warmed39 s.vm) (eT : T.heap = h) (F : OwnA Z h a .byte n f) {j : Int32} (k : Nat) (hj : ¬ j < 0) (hk : j.toNatClampNeg = k) (hn : k < n) (hv : f k = v) {g : JFrame} (hg : g.method = m) {rest : List Value} (hs : g.stack = .int j :: .ref a :: rest) (hd : decode c.code g.pc = .ok (.baload, 1)) :
    ∀ target, Steps p.tables e below (T.setTop { g with pc := g.pc + 1, stack := v :: rest }) target → Steps p.tables e below (T.setTop g) target := by
  obtain ⟨c0, A, r1, r2, r3⟩ := F
  subst hk hv
  exact X.baloadBytes hx (j := j) (by rw [eT]; exact A.1) (State.isArrayOf_alike hZ.alike A.2.1) A.2.2 (own_in r1 hj rfl hn) (r2 _ hn) hg hs hd
theorem own_ldC (X : Stand p l e R s m args below meth c T locs cells slots) (hx : p.tables.exec = Jvm.exec) (hZ : Z.Warmed39 s.vm) (eT : T.heap = h) (F : OwnA Z h a .char n f) {j : Int32} (k : Nat) (hj : ¬ j < 0) (hk : j.toNatClampNeg = k) (hn : k < n) (hv : f k = v) {g : JFrame} (hg : g.method = m) {rest : List Value} (hs : g.stack = .int j :: .ref a :: rest) (hd : decode c.code g.pc = .ok (.caload, 1)) :
    ∀ target, Steps p.tables e below (T.setTop { g with pc := g.pc + 1, stack := v :: rest }) target → Steps p.tables e below (T.setTop g) target := by
  obtain ⟨c0, A, r1, r2, r3⟩ := F
  subst hk hv
  exact X.caload hx (j := j) (by rw [eT]; exact A.1) (State.isArrayOf_alike hZ.alike A.2.1) A.2.2 (own_in r1 hj rfl hn) (r2 _ hn) hg hs hd
theorem own_ldJ (X : Stand p l e R s m args below meth c T locs cells slots) (hx : p.tables.exec = Jvm.exec) (hZ : Z.Warmed39 s.vm) (eT : T.heap = h) (F : OwnA Z h a .long n f) {j : Int32} (k : Nat) (hj : ¬ j < 0) (hk : j.toNatClampNeg = k) (hn : k < n) (hv : f k = v) {g : JFrame} (hg : g.method = m) {rest : List Value} (hs : g.stack = .int j :: .ref a :: rest) (hd : decode c.code g.pc = .ok (.laload, 1)) :
    ∀ target, Steps p.tables e below (T.setTop { g with pc := g.pc + 1, stack := v :: rest }) target → Steps p.tables e below (T.setTop g) target := by
  obtain ⟨c0, A, r1, r2, r3⟩ := F
  subst hk hv
  exact X.laload hx (j := j) (by rw [eT]; exact A.1) (State.isArrayOf_alike hZ.alike A.2.1) A.2.2 (own_in r1 hj rfl hn) (r2 _ hn) hg hs hd
theorem own_ldR (X : Stand p l e R s m args below meth c T locs cells slots) (hx : p.tables.exec = Jvm.exec) (hZ : Z.Warmed39 s.vm) (eT : T.heap = h) (F : OwnA Z h a ty n f) (hty : ty.isReference = true) {j : Int32} (k : Nat) (hj : ¬ j < 0) (hk : j.toNatClampNeg = k) (hn : k < n) (hv : f k = v) {g : JFrame} (hg : g.method = m) {rest : List Value} (hs : g.stack = .int j :: .ref a :: rest) (hd : decode c.code g.pc = .ok (.aaload, 1)) :
    ∀ target, Steps p.tables e below (T.setTop { g with pc := g.pc + 1, stack := v :: rest }) target → Steps p.tables e below (T.setTop g) target := by
  obtain ⟨c0, A, r1, r2, r3⟩ := F
  subst hk hv
  exact X.aaload hx (j := j) (by rw [eT]; exact A.1) (State.isArrayOf_alike hZ.alike A.2.1) hty A.2.2 (own_in r1 hj rfl hn) (r2 _ hn) hg hs hd
theorem own_len (X : Stand p l e R s m args below meth c T locs cells slots) (hx : p.tables.exec = Jvm.exec) (hZ : Z.Warmed39 s.vm) (eT : T.heap = h) (F : OwnA Z h a ty n f) {z : Int32} (hz : n.toInt32 = z) {g : JFrame} (hg : g.method = m) {rest : List Value} (hs : g.stack = .ref a :: rest) (hd : decode c.code g.pc = .ok (.arraylength, 1)) :
    ∀ target, Steps p.tables e below (T.setTop { g with pc := g.pc + 1, stack := .int z :: rest }) target → Steps p.tables e below (T.setTop g) target := by
  obtain ⟨c0, A, r1, r2, r3⟩ := F
  subst hz r1
  exact X.arraylength hx (by rw [eT]; exact A.1) (State.isArrayOf_alike hZ.alike A.2.1) hg hs hd
theorem own_clone (X : Stand p l e R s m args below meth c T locs cells slots) (hx : p.tables.exec = Jvm.exec) (hZ : Z.Warmed39 s.vm) {a0 : Array Value} {own ad : String} {index : Nat} (hown : s.vm.findClass own = some m.cls)
    (w1 : (Jvm.Cond.methodLink own index ⟨ad, "clone", "()Ljava/lang/Object;"⟩).before a0 Z = true) (w2 : (Jvm.Cond.sameMethod ad "java/lang/Object" "clone" "()Ljava/lang/Object;").before a0 Z = true) (w3 : (Jvm.Cond.native ⟨"java/lang/Object", "clone", "()Ljava/lang/Object;"⟩).before a0 Z = true)
    (w4 : (Jvm.Cond.instanceMethod ⟨"java/lang/Object", "clone", "()Ljava/lang/Object;"⟩).before a0 Z = true) (w5 : (Jvm.Cond.selects ad ⟨ad, "clone", "()Ljava/lang/Object;"⟩ ⟨"java/lang/Object", "clone", "()Ljava/lang/Object;"⟩).before a0 Z = true) (w6 : (Jvm.Cond.castable ad "java/lang/Cloneable").before a0 Z = true)
    (eT : T.heap = h) (F : OwnA Z h a ty n f) (E : Exa Z h a ad) {g : JFrame} (hg : g.method = m) (hsize : g.locals.size = c.maxLocals) {rest : List Value} (hs : g.stack = .ref a :: rest) (hd : decode c.code g.pc = .ok (.invokevirtual index, 3))
    (hf : 1 ≤ R.frames) {W cap : Nat} (hW : 2 * g.monitorRoom + (rest.map fun v => v.category).sum ≤ W) (hl : W + 14 ≤ R.locals) (hcap : n ≤ cap) (hc : cells + 1 ≤ R.cells) (hsl : slots + cap ≤ R.slots) :
    ∃ T' h', Stand p l e R s m args below meth c T' locs (cells + 1) (slots + cap) ∧ T'.heap = h' ∧ Ext h h' ∧ OwnA Z h' h.size ty n f ∧ Exa Z h' h.size ad ∧
      ∀ target, Steps p.tables e below (T'.setTop { g with pc := g.pc + 3, stack := .ref h.size :: rest }) target → Steps p.tables e below (T.setTop g) target := by
  obtain ⟨c0, A, r1, r2, r3⟩ := F
  have FC : FitC Z c0 := fitC_of A fun i hi v hv => by
    rw [r1] at hi; rw [r2 i hi] at hv; cases hv; exact r3 i hi
  obtain ⟨T', h', X', e', ex, A', E', st⟩ := cloneA X hx hZ hown w1 w2 w3 w4 w5 w6 eT A E FC hg hsize hs hd hf hW hl (by rw [r1]; exact hcap) hc hsl
  exact ⟨T', h', X', e', ex, ⟨cloneOf c0, A', r1, r2, r3⟩, E', st⟩
theorem own_selP {s : State} {args : Array Value} {y y' : MethodName} (hsel : (Jvm.Cond.selects y.cls y' y').before args s = true) (hc : y'.cls = y.cls) (hpriv : s.PrivateAt y) (hinst : (Jvm.Cond.instanceMethod y).before args s = true) (hy : y.cls ≠ "java/lang/invoke/MethodHandle" ∧ y.cls ≠ "java/lang/invoke/VarHandle") :
    (Jvm.Cond.selects y.cls y y).before args s = true := by
  obtain ⟨c2, r2, m2, a1, a2, q3, a4, kP, hkP, hkPi⟩ := Cond.selects_spec hsel
  have hf := findClass_of_methodNamed q3
  rw [hc] at hf
  exact Stand.selects_self_of_private hf hkP hkPi hpriv hinst hy
theorem own_fcast {C nm d : String} {x y : Int32} (F : Fld Z h a C nm d (.int x)) (q : x = y) : Fld Z h a C nm d (.int y) := q ▸ F
theorem own_ix {j d : Int32} {k i : Nat} (hj : ¬ j < 0) (hk : j.toNatClampNeg = k) (hd : d.toInt = (i : Int)) (hlt : k + i < 2147483648) : ¬ (j + d) < 0 ∧ (j + d).toNatClampNeg = k + i := by
  have e0 : (0 : Int32).toInt = 0 := rfl
  simp only [Int32.lt_iff_toInt_lt, e0, Int32.toNatClampNeg] at hj hk ⊢
  rw [Int32.toInt_add, hd]
  have : (j.toInt + (i : Int)).bmod (2 ^ 32) = j.toInt + (i : Int) := bmod32 (by omega) (by omega)
  rw [this]
  omega
theorem own_mask31 (x : Int32) : 0 ≤ (x &&& (2147483647 : Int32)).toInt := (c_andS x 2147483647).2.2 (by decide)
theorem own_rem {x y : Int32} (hx : 0 ≤ x.toInt) (hy : 0 < y.toInt) : 0 ≤ (x % y).toInt ∧ (x % y).toInt < y.toInt := by
  rw [Int32.toInt_mod]
  exact ⟨Int.tmod_nonneg _ hx, Int.tmod_lt_of_pos _ hy⟩
theorem own_lcEq {x y : Int64} (q : x = y) : lcmpW x y = 0 := by subst q; simp [lcmpW, Int64.lt_irrefl]
theorem own_lcNe {x y : Int64} (q : ¬ x = y) : ¬ lcmpW x y = 0 := by
  by_cases h : x > y
  · rw [lcmpW, if_pos h]; decide
  · rw [lcmpW, if_neg h, if_neg q]; decide
theorem own_lcGt {x y : Int64} (q : y < x) : (0 : Int32) < lcmpW x y := by rw [lcmpW, if_pos q]; decide
theorem own_lcLe {x y : Int64} (q : ¬ y < x) : ¬ (0 : Int32) < lcmpW x y := by
  rw [lcmpW, if_neg q]
  by_cases h : x = y
  · rw [if_pos h]; decide
  · rw [if_neg h]; decide
theorem own_lcLt {x y : Int64} (q : x < y) : lcmpW x y < 0 := by
  rw [lcmpW, if_neg (fun z => Int64.lt_irrefl (Int64.lt_trans z q)), if_neg (fun z => Int64.lt_irrefl (z ▸ q))]; decide
theorem own_lcGe {x y : Int64} (q : ¬ x < y) : ¬ lcmpW x y < 0 := by
  by_cases h : x > y
  · rw [lcmpW, if_pos h]; decide
  · rw [lcmpW, if_neg h, if_pos (Int64.le_antisymm (Int64.not_lt.mp h) (Int64.not_lt.mp q))]; decide
end OwnKit

theorem d1_0 : decode method_3_code 0 = .ok (.aload_n 0, 1) := by decide +kernel
theorem d1_1 : decode method_3_code 1 = .ok (.iload_n 1, 1) := by decide +kernel
theorem d1_2 : decode method_3_code 2 = .ok (.lload_n 2, 1) := by decide +kernel
theorem d1_3 : decode method_3_code 3 = .ok (.l2i, 1) := by decide +kernel
theorem d1_4 : decode method_3_code 4 = .ok (.i2b, 1) := by decide +kernel
theorem d1_5 : decode method_3_code 5 = .ok (.bastore, 1) := by decide +kernel
theorem d1_6 : decode method_3_code 6 = .ok (.aload_n 0, 1) := by decide +kernel
theorem d1_7 : decode method_3_code 7 = .ok (.iload_n 1, 1) := by decide +kernel
theorem d1_8 : decode method_3_code 8 = .ok (.iconst 1, 1) := by decide +kernel
theorem d1_9 : decode method_3_code 9 = .ok (.iadd, 1) := by decide +kernel
theorem d1_10 : decode method_3_code 10 = .ok (.lload_n 2, 1) := by decide +kernel
theorem d1_11 : decode method_3_code 11 = .ok (.bipush 8, 2) := by decide +kernel
theorem d1_13 : decode method_3_code 13 = .ok (.lushr, 1) := by decide +kernel
theorem d1_14 : decode method_3_code 14 = .ok (.l2i, 1) := by decide +kernel
theorem d1_15 : decode method_3_code 15 = .ok (.i2b, 1) := by decide +kernel
theorem d1_16 : decode method_3_code 16 = .ok (.bastore, 1) := by decide +kernel
theorem d1_17 : decode method_3_code 17 = .ok (.aload_n 0, 1) := by decide +kernel
theorem d1_18 : decode method_3_code 18 = .ok (.iload_n 1, 1) := by decide +kernel
theorem d1_19 : decode method_3_code 19 = .ok (.iconst 2, 1) := by decide +kernel
theorem d1_20 : decode method_3_code 20 = .ok (.iadd, 1) := by decide +kernel
theorem d1_21 : decode method_3_code 21 = .ok (.lload_n 2, 1) := by decide +kernel
theorem d1_22 : decode method_3_code 22 = .ok (.bipush 16, 2) := by decide +kernel
theorem d1_24 : decode method_3_code 24 = .ok (.lushr, 1) := by decide +kernel
theorem d1_25 : decode method_3_code 25 = .ok (.l2i, 1) := by decide +kernel
theorem d1_26 : decode method_3_code 26 = .ok (.i2b, 1) := by decide +kernel
theorem d1_27 : decode method_3_code 27 = .ok (.bastore, 1) := by decide +kernel
theorem d1_28 : decode method_3_code 28 = .ok (.aload_n 0, 1) := by decide +kernel
theorem d1_29 : decode method_3_code 29 = .ok (.iload_n 1, 1) := by decide +kernel
theorem d1_30 : decode method_3_code 30 = .ok (.iconst 3, 1) := by decide +kernel
theorem d1_31 : decode method_3_code 31 = .ok (.iadd, 1) := by decide +kernel
theorem d1_32 : decode method_3_code 32 = .ok (.lload_n 2, 1) := by decide +kernel
theorem d1_33 : decode method_3_code 33 = .ok (.bipush 24, 2) := by decide +kernel
theorem d1_35 : decode method_3_code 35 = .ok (.lushr, 1) := by decide +kernel
theorem d1_36 : decode method_3_code 36 = .ok (.l2i, 1) := by decide +kernel
theorem d1_37 : decode method_3_code 37 = .ok (.i2b, 1) := by decide +kernel
theorem d1_38 : decode method_3_code 38 = .ok (.bastore, 1) := by decide +kernel
theorem d1_39 : decode method_3_code 39 = .ok (.aload_n 0, 1) := by decide +kernel
theorem d1_40 : decode method_3_code 40 = .ok (.iload_n 1, 1) := by decide +kernel
theorem d1_41 : decode method_3_code 41 = .ok (.iconst 4, 1) := by decide +kernel
theorem d1_42 : decode method_3_code 42 = .ok (.iadd, 1) := by decide +kernel
theorem d1_43 : decode method_3_code 43 = .ok (.lload_n 2, 1) := by decide +kernel
theorem d1_44 : decode method_3_code 44 = .ok (.bipush 32, 2) := by decide +kernel
theorem d1_46 : decode method_3_code 46 = .ok (.lushr, 1) := by decide +kernel
theorem d1_47 : decode method_3_code 47 = .ok (.l2i, 1) := by decide +kernel
theorem d1_48 : decode method_3_code 48 = .ok (.i2b, 1) := by decide +kernel
theorem d1_49 : decode method_3_code 49 = .ok (.bastore, 1) := by decide +kernel
theorem d1_50 : decode method_3_code 50 = .ok (.aload_n 0, 1) := by decide +kernel
theorem d1_51 : decode method_3_code 51 = .ok (.iload_n 1, 1) := by decide +kernel
theorem d1_52 : decode method_3_code 52 = .ok (.iconst 5, 1) := by decide +kernel
theorem d1_53 : decode method_3_code 53 = .ok (.iadd, 1) := by decide +kernel
theorem d1_54 : decode method_3_code 54 = .ok (.lload_n 2, 1) := by decide +kernel
theorem d1_55 : decode method_3_code 55 = .ok (.bipush 40, 2) := by decide +kernel
theorem d1_57 : decode method_3_code 57 = .ok (.lushr, 1) := by decide +kernel
theorem d1_58 : decode method_3_code 58 = .ok (.l2i, 1) := by decide +kernel
theorem d1_59 : decode method_3_code 59 = .ok (.i2b, 1) := by decide +kernel
theorem d1_60 : decode method_3_code 60 = .ok (.bastore, 1) := by decide +kernel
theorem d1_61 : decode method_3_code 61 = .ok (.aload_n 0, 1) := by decide +kernel
theorem d1_62 : decode method_3_code 62 = .ok (.iload_n 1, 1) := by decide +kernel
theorem d1_63 : decode method_3_code 63 = .ok (.bipush 6, 2) := by decide +kernel
theorem d1_65 : decode method_3_code 65 = .ok (.iadd, 1) := by decide +kernel
theorem d1_66 : decode method_3_code 66 = .ok (.lload_n 2, 1) := by decide +kernel
theorem d1_67 : decode method_3_code 67 = .ok (.bipush 48, 2) := by decide +kernel
theorem d1_69 : decode method_3_code 69 = .ok (.lushr, 1) := by decide +kernel
theorem d1_70 : decode method_3_code 70 = .ok (.l2i, 1) := by decide +kernel
theorem d1_71 : decode method_3_code 71 = .ok (.i2b, 1) := by decide +kernel
theorem d1_72 : decode method_3_code 72 = .ok (.bastore, 1) := by decide +kernel
theorem d1_73 : decode method_3_code 73 = .ok (.aload_n 0, 1) := by decide +kernel
theorem d1_74 : decode method_3_code 74 = .ok (.iload_n 1, 1) := by decide +kernel
theorem d1_75 : decode method_3_code 75 = .ok (.bipush 7, 2) := by decide +kernel
theorem d1_77 : decode method_3_code 77 = .ok (.iadd, 1) := by decide +kernel
theorem d1_78 : decode method_3_code 78 = .ok (.lload_n 2, 1) := by decide +kernel
theorem d1_79 : decode method_3_code 79 = .ok (.bipush 56, 2) := by decide +kernel
theorem d1_81 : decode method_3_code 81 = .ok (.lushr, 1) := by decide +kernel
theorem d1_82 : decode method_3_code 82 = .ok (.l2i, 1) := by decide +kernel
theorem d1_83 : decode method_3_code 83 = .ok (.i2b, 1) := by decide +kernel
theorem d1_84 : decode method_3_code 84 = .ok (.bastore, 1) := by decide +kernel
theorem d1_85 : decode method_3_code 85 = .ok (.return_, 1) := by decide +kernel
theorem d2_0 : decode prog_24_method_5_code 0 = .ok (.aload_n 0, 1) := by decide +kernel
theorem d2_1 : decode prog_24_method_5_code 1 = .ok (.arraylength, 1) := by decide +kernel
theorem d2_2 : decode prog_24_method_5_code 2 = .ok (.bipush 32, 2) := by decide +kernel
theorem d2_4 : decode prog_24_method_5_code 4 = .ok (.if_icmp .eq 18, 3) := by decide +kernel
theorem d2_22 : decode prog_24_method_5_code 22 = .ok (.aload_n 0, 1) := by decide +kernel
theorem d2_23 : decode prog_24_method_5_code 23 = .ok (.invokevirtual 41, 3) := by decide +kernel
theorem d2_26 : decode prog_24_method_5_code 26 = .ok (.checkcast 42, 3) := by decide +kernel
theorem d2_29 : decode prog_24_method_5_code 29 = .ok (.areturn, 1) := by decide +kernel
theorem d3_0 : decode method_4_code 0 = .ok (.aload_n 0, 1) := by decide +kernel
theorem d3_1 : decode method_4_code 1 = .ok (.iload_n 1, 1) := by decide +kernel
theorem d3_2 : decode method_4_code 2 = .ok (.baload, 1) := by decide +kernel
theorem d3_3 : decode method_4_code 3 = .ok (.lload_n 2, 1) := by decide +kernel
theorem d3_4 : decode method_4_code 4 = .ok (.l2i, 1) := by decide +kernel
theorem d3_5 : decode method_4_code 5 = .ok (.i2b, 1) := by decide +kernel
theorem d3_6 : decode method_4_code 6 = .ok (.if_icmp .ne 107, 3) := by decide +kernel
theorem d3_9 : decode method_4_code 9 = .ok (.aload_n 0, 1) := by decide +kernel
theorem d3_10 : decode method_4_code 10 = .ok (.iload_n 1, 1) := by decide +kernel
theorem d3_11 : decode method_4_code 11 = .ok (.iconst 1, 1) := by decide +kernel
theorem d3_12 : decode method_4_code 12 = .ok (.iadd, 1) := by decide +kernel
theorem d3_13 : decode method_4_code 13 = .ok (.baload, 1) := by decide +kernel
theorem d3_14 : decode method_4_code 14 = .ok (.lload_n 2, 1) := by decide +kernel
theorem d3_15 : decode method_4_code 15 = .ok (.bipush 8, 2) := by decide +kernel
theorem d3_17 : decode method_4_code 17 = .ok (.lushr, 1) := by decide +kernel
theorem d3_18 : decode method_4_code 18 = .ok (.l2i, 1) := by decide +kernel
theorem d3_19 : decode method_4_code 19 = .ok (.i2b, 1) := by decide +kernel
theorem d3_20 : decode method_4_code 20 = .ok (.if_icmp .ne 93, 3) := by decide +kernel
theorem d3_23 : decode method_4_code 23 = .ok (.aload_n 0, 1) := by decide +kernel
theorem d3_24 : decode method_4_code 24 = .ok (.iload_n 1, 1) := by decide +kernel
theorem d3_25 : decode method_4_code 25 = .ok (.iconst 2, 1) := by decide +kernel
theorem d3_26 : decode method_4_code 26 = .ok (.iadd, 1) := by decide +kernel
theorem d3_27 : decode method_4_code 27 = .ok (.baload, 1) := by decide +kernel
theorem d3_28 : decode method_4_code 28 = .ok (.lload_n 2, 1) := by decide +kernel
theorem d3_29 : decode method_4_code 29 = .ok (.bipush 16, 2) := by decide +kernel
theorem d3_31 : decode method_4_code 31 = .ok (.lushr, 1) := by decide +kernel
theorem d3_32 : decode method_4_code 32 = .ok (.l2i, 1) := by decide +kernel
theorem d3_33 : decode method_4_code 33 = .ok (.i2b, 1) := by decide +kernel
theorem d3_34 : decode method_4_code 34 = .ok (.if_icmp .ne 79, 3) := by decide +kernel
theorem d3_37 : decode method_4_code 37 = .ok (.aload_n 0, 1) := by decide +kernel
theorem d3_38 : decode method_4_code 38 = .ok (.iload_n 1, 1) := by decide +kernel
theorem d3_39 : decode method_4_code 39 = .ok (.iconst 3, 1) := by decide +kernel
theorem d3_40 : decode method_4_code 40 = .ok (.iadd, 1) := by decide +kernel
theorem d3_41 : decode method_4_code 41 = .ok (.baload, 1) := by decide +kernel
theorem d3_42 : decode method_4_code 42 = .ok (.lload_n 2, 1) := by decide +kernel
theorem d3_43 : decode method_4_code 43 = .ok (.bipush 24, 2) := by decide +kernel
theorem d3_45 : decode method_4_code 45 = .ok (.lushr, 1) := by decide +kernel
theorem d3_46 : decode method_4_code 46 = .ok (.l2i, 1) := by decide +kernel
theorem d3_47 : decode method_4_code 47 = .ok (.i2b, 1) := by decide +kernel
theorem d3_48 : decode method_4_code 48 = .ok (.if_icmp .ne 65, 3) := by decide +kernel
theorem d3_51 : decode method_4_code 51 = .ok (.aload_n 0, 1) := by decide +kernel
theorem d3_52 : decode method_4_code 52 = .ok (.iload_n 1, 1) := by decide +kernel
theorem d3_53 : decode method_4_code 53 = .ok (.iconst 4, 1) := by decide +kernel
theorem d3_54 : decode method_4_code 54 = .ok (.iadd, 1) := by decide +kernel
theorem d3_55 : decode method_4_code 55 = .ok (.baload, 1) := by decide +kernel
theorem d3_56 : decode method_4_code 56 = .ok (.lload_n 2, 1) := by decide +kernel
theorem d3_57 : decode method_4_code 57 = .ok (.bipush 32, 2) := by decide +kernel
theorem d3_59 : decode method_4_code 59 = .ok (.lushr, 1) := by decide +kernel
theorem d3_60 : decode method_4_code 60 = .ok (.l2i, 1) := by decide +kernel
theorem d3_61 : decode method_4_code 61 = .ok (.i2b, 1) := by decide +kernel
theorem d3_62 : decode method_4_code 62 = .ok (.if_icmp .ne 51, 3) := by decide +kernel
theorem d3_65 : decode method_4_code 65 = .ok (.aload_n 0, 1) := by decide +kernel
theorem d3_66 : decode method_4_code 66 = .ok (.iload_n 1, 1) := by decide +kernel
theorem d3_67 : decode method_4_code 67 = .ok (.iconst 5, 1) := by decide +kernel
theorem d3_68 : decode method_4_code 68 = .ok (.iadd, 1) := by decide +kernel
theorem d3_69 : decode method_4_code 69 = .ok (.baload, 1) := by decide +kernel
theorem d3_70 : decode method_4_code 70 = .ok (.lload_n 2, 1) := by decide +kernel
theorem d3_71 : decode method_4_code 71 = .ok (.bipush 40, 2) := by decide +kernel
theorem d3_73 : decode method_4_code 73 = .ok (.lushr, 1) := by decide +kernel
theorem d3_74 : decode method_4_code 74 = .ok (.l2i, 1) := by decide +kernel
theorem d3_75 : decode method_4_code 75 = .ok (.i2b, 1) := by decide +kernel
theorem d3_76 : decode method_4_code 76 = .ok (.if_icmp .ne 37, 3) := by decide +kernel
theorem d3_79 : decode method_4_code 79 = .ok (.aload_n 0, 1) := by decide +kernel
theorem d3_80 : decode method_4_code 80 = .ok (.iload_n 1, 1) := by decide +kernel
theorem d3_81 : decode method_4_code 81 = .ok (.bipush 6, 2) := by decide +kernel
theorem d3_83 : decode method_4_code 83 = .ok (.iadd, 1) := by decide +kernel
theorem d3_84 : decode method_4_code 84 = .ok (.baload, 1) := by decide +kernel
theorem d3_85 : decode method_4_code 85 = .ok (.lload_n 2, 1) := by decide +kernel
theorem d3_86 : decode method_4_code 86 = .ok (.bipush 48, 2) := by decide +kernel
theorem d3_88 : decode method_4_code 88 = .ok (.lushr, 1) := by decide +kernel
theorem d3_89 : decode method_4_code 89 = .ok (.l2i, 1) := by decide +kernel
theorem d3_90 : decode method_4_code 90 = .ok (.i2b, 1) := by decide +kernel
theorem d3_91 : decode method_4_code 91 = .ok (.if_icmp .ne 22, 3) := by decide +kernel
theorem d3_94 : decode method_4_code 94 = .ok (.aload_n 0, 1) := by decide +kernel
theorem d3_95 : decode method_4_code 95 = .ok (.iload_n 1, 1) := by decide +kernel
theorem d3_96 : decode method_4_code 96 = .ok (.bipush 7, 2) := by decide +kernel
theorem d3_98 : decode method_4_code 98 = .ok (.iadd, 1) := by decide +kernel
theorem d3_99 : decode method_4_code 99 = .ok (.baload, 1) := by decide +kernel
theorem d3_100 : decode method_4_code 100 = .ok (.lload_n 2, 1) := by decide +kernel
theorem d3_101 : decode method_4_code 101 = .ok (.bipush 56, 2) := by decide +kernel
theorem d3_103 : decode method_4_code 103 = .ok (.lushr, 1) := by decide +kernel
theorem d3_104 : decode method_4_code 104 = .ok (.l2i, 1) := by decide +kernel
theorem d3_105 : decode method_4_code 105 = .ok (.i2b, 1) := by decide +kernel
theorem d3_106 : decode method_4_code 106 = .ok (.if_icmp .ne 7, 3) := by decide +kernel
theorem d3_109 : decode method_4_code 109 = .ok (.iconst 1, 1) := by decide +kernel
theorem d3_110 : decode method_4_code 110 = .ok (.goto 4, 3) := by decide +kernel
theorem d3_114 : decode method_4_code 114 = .ok (.ireturn, 1) := by decide +kernel
theorem own_pn0 : plainName "com/example/custody/custody/merkle/TreeHashCopyPinLaw" = true := by first | (simp [plainName, overriddenIn]; done) | decide +kernel
theorem own_pn1 : plainName "com/example/custody/custody/merkle/TreeHash" = true := by first | (simp [plainName, overriddenIn]; done) | decide +kernel
theorem own_pd0 : parseMethodDescriptor "([BIJ)V" = some ⟨[(.array .byte), .int, .long], none⟩ := by decide +kernel
theorem own_pd1 : parseMethodDescriptor "([B)[B" = some ⟨[(.array .byte)], some (.array .byte)⟩ := by decide +kernel
theorem own_pd2 : parseMethodDescriptor "([BIJ)Z" = some ⟨[(.array .byte), .int, .long], some .boolean⟩ := by decide +kernel
def own_by (q : Int64) : Nat → Int32
  | 0 => (q.toInt32).toInt8.toInt32
  | 1 => (((q.toUInt64 >>> ((8 : Int32) &&& 0x3f).toInt64.toUInt64).toInt64).toInt32).toInt8.toInt32
  | 2 => (((q.toUInt64 >>> ((16 : Int32) &&& 0x3f).toInt64.toUInt64).toInt64).toInt32).toInt8.toInt32
  | 3 => (((q.toUInt64 >>> ((24 : Int32) &&& 0x3f).toInt64.toUInt64).toInt64).toInt32).toInt8.toInt32
  | 4 => (((q.toUInt64 >>> ((32 : Int32) &&& 0x3f).toInt64.toUInt64).toInt64).toInt32).toInt8.toInt32
  | 5 => (((q.toUInt64 >>> ((40 : Int32) &&& 0x3f).toInt64.toUInt64).toInt64).toInt32).toInt8.toInt32
  | 6 => (((q.toUInt64 >>> ((48 : Int32) &&& 0x3f).toInt64.toUInt64).toInt64).toInt32).toInt8.toInt32
  | _ => (((q.toUInt64 >>> ((56 : Int32) &&& 0x3f).toInt64.toUInt64).toInt64).toInt32).toInt8.toInt32
def own_put (f : Nat → Value) (k : Nat) (q : Int64) : Nat → Value := (own_upd (own_upd (own_upd (own_upd (own_upd (own_upd (own_upd (own_upd f k (.int (own_by q 0))) (k + 1) (.int (own_by q 1))) (k + 2) (.int (own_by q 2))) (k + 3) (.int (own_by q 3))) (k + 4) (.int (own_by q 4))) (k + 5) (.int (own_by q 5))) (k + 6) (.int (own_by q 6))) (k + 7) (.int (own_by q 7)))
theorem own_nn (x : Int8) : x.toInt32.toInt8.toInt32 = x.toInt32 := by simp
theorem own_put_in (f : Nat → Value) (k : Nat) (q : Int64) (i : Nat) (hi : i < 8) : own_put f k q (k + i) = .int (own_by q i) := by
  have h : i = 0 ∨ i = 1 ∨ i = 2 ∨ i = 3 ∨ i = 4 ∨ i = 5 ∨ i = 6 ∨ i = 7 := by omega
  rcases h with rfl | rfl | rfl | rfl | rfl | rfl | rfl | rfl <;> simp [own_put, own_upd]
theorem own_put_off (f : Nat → Value) (k : Nat) (q : Int64) (i : Nat) (hi : i < k ∨ k + 8 ≤ i) : own_put f k q i = f i := by
  unfold own_put own_upd
  simp only [show ¬ i = k + 7 by omega, show ¬ i = k + 6 by omega, show ¬ i = k + 5 by omega, show ¬ i = k + 4 by omega, show ¬ i = k + 3 by omega, show ¬ i = k + 2 by omega, show ¬ i = k + 1 by omega, show ¬ i = k by omega, if_false]
theorem own_got0 (f : Nat → Value) (q0 q1 q2 q3 : Int64) (i : Nat) (hi : i < 8) : own_put (own_put (own_put (own_put f 0 q0) 8 q1) 16 q2) 24 q3 (0 + i) = .int (own_by q0 i) := by
  rw [own_put_off _ _ _ _ (by omega), own_put_off _ _ _ _ (by omega), own_put_off _ _ _ _ (by omega), own_put_in _ _ _ _ hi]
theorem own_got8 (f : Nat → Value) (q0 q1 q2 q3 : Int64) (i : Nat) (hi : i < 8) : own_put (own_put (own_put (own_put f 0 q0) 8 q1) 16 q2) 24 q3 (8 + i) = .int (own_by q1 i) := by
  rw [own_put_off _ _ _ _ (by omega), own_put_off _ _ _ _ (by omega), own_put_in _ _ _ _ hi]
theorem own_got16 (f : Nat → Value) (q0 q1 q2 q3 : Int64) (i : Nat) (hi : i < 8) : own_put (own_put (own_put (own_put f 0 q0) 8 q1) 16 q2) 24 q3 (16 + i) = .int (own_by q2 i) := by
  rw [own_put_off _ _ _ _ (by omega), own_put_in _ _ _ _ hi]
theorem own_got24 (f : Nat → Value) (q0 q1 q2 q3 : Int64) (i : Nat) (hi : i < 8) : own_put (own_put (own_put (own_put f 0 q0) 8 q1) 16 q2) 24 q3 (24 + i) = .int (own_by q3 i) := own_put_in _ _ _ _ hi
theorem own_val {Z : State} {h : Heap} {a : Addr} {f : Nat → Value} {k : Nat} (F : OwnA Z h a .byte 32 f) (hk : k < 32) : ∃ x : Int32, f k = .int x := by
  obtain ⟨c, A, r1, r2, r3⟩ := F
  exact fit_I (r3 k hk) (by simp)
theorem own_idx {j p : Int32} (h : j = (p &&& (31 : Int32))) : ¬ j < 0 ∧ ∃ k, j.toNatClampNeg = k ∧ k < 32 := by
  have e : j.toInt = p.toInt % 2 ^ 5 := by rw [h]; exact Jvm.Kit.i32_mask p 31 (by decide) (by decide)
  have e0 : (0 : Int32).toInt = 0 := rfl
  refine ⟨by rw [Int32.lt_iff_toInt_lt, e0]; omega, _, rfl, ?_⟩
  simp only [Int32.toNatClampNeg]; omega

theorem own_puts (f : Nat → Value) (k : Nat) (q3 : Int64) (i : Nat) : (own_upd (own_upd (own_upd (own_upd (own_upd (own_upd (own_upd (own_upd f k (.int ((q3.toInt32).toInt8.toInt32).toInt8.toInt32)) (k + 1) (.int ((((q3.toUInt64 >>> ((8 : Int32) &&& 0x3f).toInt64.toUInt64).toInt64).toInt32).toInt8.toInt32).toInt8.toInt32)) (k + 2) (.int ((((q3.toUInt64 >>> ((16 : Int32) &&& 0x3f).toInt64.toUInt64).toInt64).toInt32).toInt8.toInt32).toInt8.toInt32)) (k + 3) (.int ((((q3.toUInt64 >>> ((24 : Int32) &&& 0x3f).toInt64.toUInt64).toInt64).toInt32).toInt8.toInt32).toInt8.toInt32)) (k + 4) (.int ((((q3.toUInt64 >>> ((32 : Int32) &&& 0x3f).toInt64.toUInt64).toInt64).toInt32).toInt8.toInt32).toInt8.toInt32)) (k + 5) (.int ((((q3.toUInt64 >>> ((40 : Int32) &&& 0x3f).toInt64.toUInt64).toInt64).toInt32).toInt8.toInt32).toInt8.toInt32)) (k + 6) (.int ((((q3.toUInt64 >>> ((48 : Int32) &&& 0x3f).toInt64.toUInt64).toInt64).toInt32).toInt8.toInt32).toInt8.toInt32)) (k + 7) (.int ((((q3.toUInt64 >>> ((56 : Int32) &&& 0x3f).toInt64.toUInt64).toInt64).toInt32).toInt8.toInt32).toInt8.toInt32)) i = own_put f k q3 i := by
  simp only [own_put, own_by, own_nn]
def QP (Z : State) (a1 : Addr) (f : Nat → Value) (k : Nat) (q3 : Int64) (h0 : Heap) (n0 : Nat) (v : Option Value) (h : Heap) (L : List Loc) : Prop := v = none ∧ Fr n0 L ∧ Keep h0 h [a1] ∧ OwnA Z h a1 .byte 32 (own_put f k q3)
set_option maxRecDepth 65536 in
set_option maxHeartbeats 40000000 in
theorem rmP (l : Launch) (Z : State) (a0 : Array Value) (hw : ∀ d ∈ tables_1, d.before a0 Z = true) (ws : List Jvm.Cond) (a1 : Addr) (p2 : Int32) (q3 : Int64) (k : Nat) (f : Nat → Value) (h0 : Heap) (n0 : Nat) (Z0 : n0 ≤ h0.size) (FA : OwnA Z h0 a1 .byte 32 f) (g_a1 : n0 ≤ a1) (hj : ¬ p2 < 0) (hk : p2.toNatClampNeg = k) (hk32 : k + 7 < 32) :
    MetFree l (⟨"com/example/custody/custody/merkle/TreeHashCopyPinLaw", "put", "([BIJ)V"⟩ : MethodName) (head1 (Jvm.Cond.code (⟨"com/example/custody/custody/merkle/TreeHashCopyPinLaw", "put", "([BIJ)V"⟩ : MethodName) method_3_code 4 none :: ws) ({ frames := 0, cells := 0, slots := 0, locals := 0 } : Room)) (fun a U => a = #[(.ref a1), (.int p2), (.long q3)] ∧ Z.Warmed39 U.vm ∧ U.heap = h0) (fun _ _ _ _ _ => True) (fun _ U o U' => ∃ v L, o = .returned v ∧ QP Z a1 f k q3 h0 n0 v U'.heap L ∧ FrameEnd U o U' L ({ frames := 0, cells := 0, slots := 0, locals := 0 } : Room).cells ({ frames := 0, cells := 0, slots := 0, locals := 0 } : Room).slots) := by
  refine MetFree.of_bodySF (plainFor_of_name own_pn0) hisR ?_
  intro p e s m args below meth c s₁ Bd hml0 hP hK
  obtain ⟨rfl, hZ, hh⟩ := hP
  have hx := Bd.exec
  have hby := Bd.bytes
  have hml : c.maxLocals = 4 := hml0
  have hown : s.vm.findClass "com/example/custody/custody/merkle/TreeHashCopyPinLaw" = some m.cls := findClass_of_methodNamed Bd.named
  have hnm := (name_of_methodNamed Bd.named Bd.method).1
  have X0 : Stand p l e ({ frames := 0, cells := 0, slots := 0, locals := 0 } : Room) s m #[(.ref a1), (.int p2), (.long q3)] below meth c s₁ [] 0 0 := Stand.of_body Bd
  have e0 : s₁.heap = h0 := by rw [← hh, Bd.state]; rfl
  have N0 := Fr.nil n0
  have ef : entryFrame m #[(.ref a1), (.int p2), (.long q3)] 4 = mkF m 0 #[.val (.ref a1), .val (.int p2), .val (.long q3), .second] [] := by first | (simp [entryFrame, mkF, argsToLocals, Value.category]; done) | rfl
  have pre0 : ∀ t, Steps p.tables e below (s₁.setTop (mkF m 0 #[.val (.ref a1), .val (.int p2), .val (.long q3), .second] [])) t → Steps p.tables e below (s₁.setTop (entryFrame m #[(.ref a1), (.int p2), (.long q3)] 4)) t := fun t k => castTop ef k
  obtain ⟨T101, h101, X101, e101, W101, V101, st101⟩ := own_stB X0 hx hZ e0 FA (j := p2) k hj hk (by omega) (g := (mkF m 5 #[.val (.ref a1), .val (.int p2), .val (.long q3), .second] [(.int ((q3.toInt32).toInt8.toInt32)), (.int p2), (.ref a1)])) rfl rfl (hb hby d1_5)
  have Z101 : n0 ≤ h101.size := Nat.le_trans Z0 (Nat.le_of_eq W101.size.symm)
  have KC101 : Keep h0 h101 [a1] := (Keep.refl h0 [a1]).wr W101 (Or.inl (List.mem_of_getElem? (i := 0) rfl))
  have N101 := Fr.snoc X101 N0 g_a1
  obtain ⟨T102, h102, X102, e102, W102, V102, st102⟩ := own_stB X101 hx hZ e101 V101 (j := (p2 + (1 : Int32))) (k + 1) (own_ix (d := 1) (i := 1) hj hk rfl (by omega)).1 (own_ix (d := 1) (i := 1) hj hk rfl (by omega)).2 (by omega) (g := (mkF m 16 #[.val (.ref a1), .val (.int p2), .val (.long q3), .second] [(.int ((((q3.toUInt64 >>> ((8 : Int32) &&& 0x3f).toInt64.toUInt64).toInt64).toInt32).toInt8.toInt32)), (.int (p2 + (1 : Int32))), (.ref a1)])) rfl rfl (hb hby d1_16)
  have Z102 : n0 ≤ h102.size := Nat.le_trans Z101 (Nat.le_of_eq W102.size.symm)
  have KC102 : Keep h0 h102 [a1] := KC101.wr W102 (Or.inl (List.mem_of_getElem? (i := 0) rfl))
  have N102 := Fr.snoc X102 N101 g_a1
  obtain ⟨T103, h103, X103, e103, W103, V103, st103⟩ := own_stB X102 hx hZ e102 V102 (j := (p2 + (2 : Int32))) (k + 2) (own_ix (d := 2) (i := 2) hj hk rfl (by omega)).1 (own_ix (d := 2) (i := 2) hj hk rfl (by omega)).2 (by omega) (g := (mkF m 27 #[.val (.ref a1), .val (.int p2), .val (.long q3), .second] [(.int ((((q3.toUInt64 >>> ((16 : Int32) &&& 0x3f).toInt64.toUInt64).toInt64).toInt32).toInt8.toInt32)), (.int (p2 + (2 : Int32))), (.ref a1)])) rfl rfl (hb hby d1_27)
  have Z103 : n0 ≤ h103.size := Nat.le_trans Z102 (Nat.le_of_eq W103.size.symm)
  have KC103 : Keep h0 h103 [a1] := KC102.wr W103 (Or.inl (List.mem_of_getElem? (i := 0) rfl))
  have N103 := Fr.snoc X103 N102 g_a1
  obtain ⟨T104, h104, X104, e104, W104, V104, st104⟩ := own_stB X103 hx hZ e103 V103 (j := (p2 + (3 : Int32))) (k + 3) (own_ix (d := 3) (i := 3) hj hk rfl (by omega)).1 (own_ix (d := 3) (i := 3) hj hk rfl (by omega)).2 (by omega) (g := (mkF m 38 #[.val (.ref a1), .val (.int p2), .val (.long q3), .second] [(.int ((((q3.toUInt64 >>> ((24 : Int32) &&& 0x3f).toInt64.toUInt64).toInt64).toInt32).toInt8.toInt32)), (.int (p2 + (3 : Int32))), (.ref a1)])) rfl rfl (hb hby d1_38)
  have Z104 : n0 ≤ h104.size := Nat.le_trans Z103 (Nat.le_of_eq W104.size.symm)
  have KC104 : Keep h0 h104 [a1] := KC103.wr W104 (Or.inl (List.mem_of_getElem? (i := 0) rfl))
  have N104 := Fr.snoc X104 N103 g_a1
  obtain ⟨T105, h105, X105, e105, W105, V105, st105⟩ := own_stB X104 hx hZ e104 V104 (j := (p2 + (4 : Int32))) (k + 4) (own_ix (d := 4) (i := 4) hj hk rfl (by omega)).1 (own_ix (d := 4) (i := 4) hj hk rfl (by omega)).2 (by omega) (g := (mkF m 49 #[.val (.ref a1), .val (.int p2), .val (.long q3), .second] [(.int ((((q3.toUInt64 >>> ((32 : Int32) &&& 0x3f).toInt64.toUInt64).toInt64).toInt32).toInt8.toInt32)), (.int (p2 + (4 : Int32))), (.ref a1)])) rfl rfl (hb hby d1_49)
  have Z105 : n0 ≤ h105.size := Nat.le_trans Z104 (Nat.le_of_eq W105.size.symm)
  have KC105 : Keep h0 h105 [a1] := KC104.wr W105 (Or.inl (List.mem_of_getElem? (i := 0) rfl))
  have N105 := Fr.snoc X105 N104 g_a1
  obtain ⟨T106, h106, X106, e106, W106, V106, st106⟩ := own_stB X105 hx hZ e105 V105 (j := (p2 + (5 : Int32))) (k + 5) (own_ix (d := 5) (i := 5) hj hk rfl (by omega)).1 (own_ix (d := 5) (i := 5) hj hk rfl (by omega)).2 (by omega) (g := (mkF m 60 #[.val (.ref a1), .val (.int p2), .val (.long q3), .second] [(.int ((((q3.toUInt64 >>> ((40 : Int32) &&& 0x3f).toInt64.toUInt64).toInt64).toInt32).toInt8.toInt32)), (.int (p2 + (5 : Int32))), (.ref a1)])) rfl rfl (hb hby d1_60)
  have Z106 : n0 ≤ h106.size := Nat.le_trans Z105 (Nat.le_of_eq W106.size.symm)
  have KC106 : Keep h0 h106 [a1] := KC105.wr W106 (Or.inl (List.mem_of_getElem? (i := 0) rfl))
  have N106 := Fr.snoc X106 N105 g_a1
  obtain ⟨T107, h107, X107, e107, W107, V107, st107⟩ := own_stB X106 hx hZ e106 V106 (j := (p2 + (6 : Int32))) (k + 6) (own_ix (d := 6) (i := 6) hj hk rfl (by omega)).1 (own_ix (d := 6) (i := 6) hj hk rfl (by omega)).2 (by omega) (g := (mkF m 72 #[.val (.ref a1), .val (.int p2), .val (.long q3), .second] [(.int ((((q3.toUInt64 >>> ((48 : Int32) &&& 0x3f).toInt64.toUInt64).toInt64).toInt32).toInt8.toInt32)), (.int (p2 + (6 : Int32))), (.ref a1)])) rfl rfl (hb hby d1_72)
  have Z107 : n0 ≤ h107.size := Nat.le_trans Z106 (Nat.le_of_eq W107.size.symm)
  have KC107 : Keep h0 h107 [a1] := KC106.wr W107 (Or.inl (List.mem_of_getElem? (i := 0) rfl))
  have N107 := Fr.snoc X107 N106 g_a1
  obtain ⟨T108, h108, X108, e108, W108, V108, st108⟩ := own_stB X107 hx hZ e107 V107 (j := (p2 + (7 : Int32))) (k + 7) (own_ix (d := 7) (i := 7) hj hk rfl (by omega)).1 (own_ix (d := 7) (i := 7) hj hk rfl (by omega)).2 (by omega) (g := (mkF m 84 #[.val (.ref a1), .val (.int p2), .val (.long q3), .second] [(.int ((((q3.toUInt64 >>> ((56 : Int32) &&& 0x3f).toInt64.toUInt64).toInt64).toInt32).toInt8.toInt32)), (.int (p2 + (7 : Int32))), (.ref a1)])) rfl rfl (hb hby d1_84)
  have Z108 : n0 ≤ h108.size := Nat.le_trans Z107 (Nat.le_of_eq W108.size.symm)
  have KC108 : Keep h0 h108 [a1] := KC107.wr W108 (Or.inl (List.mem_of_getElem? (i := 0) rfl))
  have N108 := Fr.snoc X108 N107 g_a1
  obtain ⟨fs, hr, hrun, hended, hW, hsame⟩ := X108.leave (v := none) (fun _ => rfl)
  refine ⟨_, _, pre0 _ ?_, hrun, hended, _, _, rfl, ?_, ⟨_, rfl⟩, hW, hsame.mono (by decide) (by decide)⟩
  · show Steps p.tables e below (s₁.setTop (mkF m 0 #[.val (.ref a1), .val (.int p2), .val (.long q3), .second] [])) _
    refine XS.aloadN X0.here hx rfl (hb hby d1_0) rfl rfl ?_
    show Steps p.tables e below (s₁.setTop (mkF m 1 #[.val (.ref a1), .val (.int p2), .val (.long q3), .second] [(.ref a1)])) _
    refine XS.iloadN X0.here hx rfl (hb hby d1_1) rfl ?_
    show Steps p.tables e below (s₁.setTop (mkF m 2 #[.val (.ref a1), .val (.int p2), .val (.long q3), .second] [(.int p2), (.ref a1)])) _
    refine XS.lloadN X0.here hx rfl (hb hby d1_2) rfl ?_
    show Steps p.tables e below (s₁.setTop (mkF m 3 #[.val (.ref a1), .val (.int p2), .val (.long q3), .second] [(.long q3), (.int p2), (.ref a1)])) _
    refine XS.l2i X0.here hx rfl (hb hby d1_3) rfl ?_
    show Steps p.tables e below (s₁.setTop (mkF m 4 #[.val (.ref a1), .val (.int p2), .val (.long q3), .second] [(.int (q3.toInt32)), (.int p2), (.ref a1)])) _
    refine XS.i2b X0.here hx rfl (hb hby d1_4) rfl ?_
    show Steps p.tables e below (s₁.setTop (mkF m 5 #[.val (.ref a1), .val (.int p2), .val (.long q3), .second] [(.int ((q3.toInt32).toInt8.toInt32)), (.int p2), (.ref a1)])) _
    refine st101 _ ?_
    show Steps p.tables e below (T101.setTop (mkF m 6 #[.val (.ref a1), .val (.int p2), .val (.long q3), .second] [])) _
    refine XS.aloadN X101.here hx rfl (hb hby d1_6) rfl rfl ?_
    show Steps p.tables e below (T101.setTop (mkF m 7 #[.val (.ref a1), .val (.int p2), .val (.long q3), .second] [(.ref a1)])) _
    refine XS.iloadN X101.here hx rfl (hb hby d1_7) rfl ?_
    show Steps p.tables e below (T101.setTop (mkF m 8 #[.val (.ref a1), .val (.int p2), .val (.long q3), .second] [(.int p2), (.ref a1)])) _
    refine XS.iconst X101.here hx rfl (hb hby d1_8) ?_
    show Steps p.tables e below (T101.setTop (mkF m 9 #[.val (.ref a1), .val (.int p2), .val (.long q3), .second] [(.int (1 : Int32)), (.int p2), (.ref a1)])) _
    refine XS.iadd X101.here hx rfl (hb hby d1_9) rfl ?_
    show Steps p.tables e below (T101.setTop (mkF m 10 #[.val (.ref a1), .val (.int p2), .val (.long q3), .second] [(.int (p2 + (1 : Int32))), (.ref a1)])) _
    refine XS.lloadN X101.here hx rfl (hb hby d1_10) rfl ?_
    show Steps p.tables e below (T101.setTop (mkF m 11 #[.val (.ref a1), .val (.int p2), .val (.long q3), .second] [(.long q3), (.int (p2 + (1 : Int32))), (.ref a1)])) _
    refine XS.bipush X101.here hx rfl (hb hby d1_11) ?_
    show Steps p.tables e below (T101.setTop (mkF m 13 #[.val (.ref a1), .val (.int p2), .val (.long q3), .second] [(.int (8 : Int32)), (.long q3), (.int (p2 + (1 : Int32))), (.ref a1)])) _
    refine XS.lushr X101.here hx rfl (hb hby d1_13) rfl ?_
    show Steps p.tables e below (T101.setTop (mkF m 14 #[.val (.ref a1), .val (.int p2), .val (.long q3), .second] [(.long ((q3.toUInt64 >>> ((8 : Int32) &&& 0x3f).toInt64.toUInt64).toInt64)), (.int (p2 + (1 : Int32))), (.ref a1)])) _
    refine XS.l2i X101.here hx rfl (hb hby d1_14) rfl ?_
    show Steps p.tables e below (T101.setTop (mkF m 15 #[.val (.ref a1), .val (.int p2), .val (.long q3), .second] [(.int (((q3.toUInt64 >>> ((8 : Int32) &&& 0x3f).toInt64.toUInt64).toInt64).toInt32)), (.int (p2 + (1 : Int32))), (.ref a1)])) _
    refine XS.i2b X101.here hx rfl (hb hby d1_15) rfl ?_
    show Steps p.tables e below (T101.setTop (mkF m 16 #[.val (.ref a1), .val (.int p2), .val (.long q3), .second] [(.int ((((q3.toUInt64 >>> ((8 : Int32) &&& 0x3f).toInt64.toUInt64).toInt64).toInt32).toInt8.toInt32)), (.int (p2 + (1 : Int32))), (.ref a1)])) _
    refine st102 _ ?_
    show Steps p.tables e below (T102.setTop (mkF m 17 #[.val (.ref a1), .val (.int p2), .val (.long q3), .second] [])) _
    refine XS.aloadN X102.here hx rfl (hb hby d1_17) rfl rfl ?_
    show Steps p.tables e below (T102.setTop (mkF m 18 #[.val (.ref a1), .val (.int p2), .val (.long q3), .second] [(.ref a1)])) _
    refine XS.iloadN X102.here hx rfl (hb hby d1_18) rfl ?_
    show Steps p.tables e below (T102.setTop (mkF m 19 #[.val (.ref a1), .val (.int p2), .val (.long q3), .second] [(.int p2), (.ref a1)])) _
    refine XS.iconst X102.here hx rfl (hb hby d1_19) ?_
    show Steps p.tables e below (T102.setTop (mkF m 20 #[.val (.ref a1), .val (.int p2), .val (.long q3), .second] [(.int (2 : Int32)), (.int p2), (.ref a1)])) _
    refine XS.iadd X102.here hx rfl (hb hby d1_20) rfl ?_
    show Steps p.tables e below (T102.setTop (mkF m 21 #[.val (.ref a1), .val (.int p2), .val (.long q3), .second] [(.int (p2 + (2 : Int32))), (.ref a1)])) _
    refine XS.lloadN X102.here hx rfl (hb hby d1_21) rfl ?_
    show Steps p.tables e below (T102.setTop (mkF m 22 #[.val (.ref a1), .val (.int p2), .val (.long q3), .second] [(.long q3), (.int (p2 + (2 : Int32))), (.ref a1)])) _
    refine XS.bipush X102.here hx rfl (hb hby d1_22) ?_
    show Steps p.tables e below (T102.setTop (mkF m 24 #[.val (.ref a1), .val (.int p2), .val (.long q3), .second] [(.int (16 : Int32)), (.long q3), (.int (p2 + (2 : Int32))), (.ref a1)])) _
    refine XS.lushr X102.here hx rfl (hb hby d1_24) rfl ?_
    show Steps p.tables e below (T102.setTop (mkF m 25 #[.val (.ref a1), .val (.int p2), .val (.long q3), .second] [(.long ((q3.toUInt64 >>> ((16 : Int32) &&& 0x3f).toInt64.toUInt64).toInt64)), (.int (p2 + (2 : Int32))), (.ref a1)])) _
    refine XS.l2i X102.here hx rfl (hb hby d1_25) rfl ?_
    show Steps p.tables e below (T102.setTop (mkF m 26 #[.val (.ref a1), .val (.int p2), .val (.long q3), .second] [(.int (((q3.toUInt64 >>> ((16 : Int32) &&& 0x3f).toInt64.toUInt64).toInt64).toInt32)), (.int (p2 + (2 : Int32))), (.ref a1)])) _
    refine XS.i2b X102.here hx rfl (hb hby d1_26) rfl ?_
    show Steps p.tables e below (T102.setTop (mkF m 27 #[.val (.ref a1), .val (.int p2), .val (.long q3), .second] [(.int ((((q3.toUInt64 >>> ((16 : Int32) &&& 0x3f).toInt64.toUInt64).toInt64).toInt32).toInt8.toInt32)), (.int (p2 + (2 : Int32))), (.ref a1)])) _
    refine st103 _ ?_
    show Steps p.tables e below (T103.setTop (mkF m 28 #[.val (.ref a1), .val (.int p2), .val (.long q3), .second] [])) _
    refine XS.aloadN X103.here hx rfl (hb hby d1_28) rfl rfl ?_
    show Steps p.tables e below (T103.setTop (mkF m 29 #[.val (.ref a1), .val (.int p2), .val (.long q3), .second] [(.ref a1)])) _
    refine XS.iloadN X103.here hx rfl (hb hby d1_29) rfl ?_
    show Steps p.tables e below (T103.setTop (mkF m 30 #[.val (.ref a1), .val (.int p2), .val (.long q3), .second] [(.int p2), (.ref a1)])) _
    refine XS.iconst X103.here hx rfl (hb hby d1_30) ?_
    show Steps p.tables e below (T103.setTop (mkF m 31 #[.val (.ref a1), .val (.int p2), .val (.long q3), .second] [(.int (3 : Int32)), (.int p2), (.ref a1)])) _
    refine XS.iadd X103.here hx rfl (hb hby d1_31) rfl ?_
    show Steps p.tables e below (T103.setTop (mkF m 32 #[.val (.ref a1), .val (.int p2), .val (.long q3), .second] [(.int (p2 + (3 : Int32))), (.ref a1)])) _
    refine XS.lloadN X103.here hx rfl (hb hby d1_32) rfl ?_
    show Steps p.tables e below (T103.setTop (mkF m 33 #[.val (.ref a1), .val (.int p2), .val (.long q3), .second] [(.long q3), (.int (p2 + (3 : Int32))), (.ref a1)])) _
    refine XS.bipush X103.here hx rfl (hb hby d1_33) ?_
    show Steps p.tables e below (T103.setTop (mkF m 35 #[.val (.ref a1), .val (.int p2), .val (.long q3), .second] [(.int (24 : Int32)), (.long q3), (.int (p2 + (3 : Int32))), (.ref a1)])) _
    refine XS.lushr X103.here hx rfl (hb hby d1_35) rfl ?_
    show Steps p.tables e below (T103.setTop (mkF m 36 #[.val (.ref a1), .val (.int p2), .val (.long q3), .second] [(.long ((q3.toUInt64 >>> ((24 : Int32) &&& 0x3f).toInt64.toUInt64).toInt64)), (.int (p2 + (3 : Int32))), (.ref a1)])) _
    refine XS.l2i X103.here hx rfl (hb hby d1_36) rfl ?_
    show Steps p.tables e below (T103.setTop (mkF m 37 #[.val (.ref a1), .val (.int p2), .val (.long q3), .second] [(.int (((q3.toUInt64 >>> ((24 : Int32) &&& 0x3f).toInt64.toUInt64).toInt64).toInt32)), (.int (p2 + (3 : Int32))), (.ref a1)])) _
    refine XS.i2b X103.here hx rfl (hb hby d1_37) rfl ?_
    show Steps p.tables e below (T103.setTop (mkF m 38 #[.val (.ref a1), .val (.int p2), .val (.long q3), .second] [(.int ((((q3.toUInt64 >>> ((24 : Int32) &&& 0x3f).toInt64.toUInt64).toInt64).toInt32).toInt8.toInt32)), (.int (p2 + (3 : Int32))), (.ref a1)])) _
    refine st104 _ ?_
    show Steps p.tables e below (T104.setTop (mkF m 39 #[.val (.ref a1), .val (.int p2), .val (.long q3), .second] [])) _
    refine XS.aloadN X104.here hx rfl (hb hby d1_39) rfl rfl ?_
    show Steps p.tables e below (T104.setTop (mkF m 40 #[.val (.ref a1), .val (.int p2), .val (.long q3), .second] [(.ref a1)])) _
    refine XS.iloadN X104.here hx rfl (hb hby d1_40) rfl ?_
    show Steps p.tables e below (T104.setTop (mkF m 41 #[.val (.ref a1), .val (.int p2), .val (.long q3), .second] [(.int p2), (.ref a1)])) _
    refine XS.iconst X104.here hx rfl (hb hby d1_41) ?_
    show Steps p.tables e below (T104.setTop (mkF m 42 #[.val (.ref a1), .val (.int p2), .val (.long q3), .second] [(.int (4 : Int32)), (.int p2), (.ref a1)])) _
    refine XS.iadd X104.here hx rfl (hb hby d1_42) rfl ?_
    show Steps p.tables e below (T104.setTop (mkF m 43 #[.val (.ref a1), .val (.int p2), .val (.long q3), .second] [(.int (p2 + (4 : Int32))), (.ref a1)])) _
    refine XS.lloadN X104.here hx rfl (hb hby d1_43) rfl ?_
    show Steps p.tables e below (T104.setTop (mkF m 44 #[.val (.ref a1), .val (.int p2), .val (.long q3), .second] [(.long q3), (.int (p2 + (4 : Int32))), (.ref a1)])) _
    refine XS.bipush X104.here hx rfl (hb hby d1_44) ?_
    show Steps p.tables e below (T104.setTop (mkF m 46 #[.val (.ref a1), .val (.int p2), .val (.long q3), .second] [(.int (32 : Int32)), (.long q3), (.int (p2 + (4 : Int32))), (.ref a1)])) _
    refine XS.lushr X104.here hx rfl (hb hby d1_46) rfl ?_
    show Steps p.tables e below (T104.setTop (mkF m 47 #[.val (.ref a1), .val (.int p2), .val (.long q3), .second] [(.long ((q3.toUInt64 >>> ((32 : Int32) &&& 0x3f).toInt64.toUInt64).toInt64)), (.int (p2 + (4 : Int32))), (.ref a1)])) _
    refine XS.l2i X104.here hx rfl (hb hby d1_47) rfl ?_
    show Steps p.tables e below (T104.setTop (mkF m 48 #[.val (.ref a1), .val (.int p2), .val (.long q3), .second] [(.int (((q3.toUInt64 >>> ((32 : Int32) &&& 0x3f).toInt64.toUInt64).toInt64).toInt32)), (.int (p2 + (4 : Int32))), (.ref a1)])) _
    refine XS.i2b X104.here hx rfl (hb hby d1_48) rfl ?_
    show Steps p.tables e below (T104.setTop (mkF m 49 #[.val (.ref a1), .val (.int p2), .val (.long q3), .second] [(.int ((((q3.toUInt64 >>> ((32 : Int32) &&& 0x3f).toInt64.toUInt64).toInt64).toInt32).toInt8.toInt32)), (.int (p2 + (4 : Int32))), (.ref a1)])) _
    refine st105 _ ?_
    show Steps p.tables e below (T105.setTop (mkF m 50 #[.val (.ref a1), .val (.int p2), .val (.long q3), .second] [])) _
    refine XS.aloadN X105.here hx rfl (hb hby d1_50) rfl rfl ?_
    show Steps p.tables e below (T105.setTop (mkF m 51 #[.val (.ref a1), .val (.int p2), .val (.long q3), .second] [(.ref a1)])) _
    refine XS.iloadN X105.here hx rfl (hb hby d1_51) rfl ?_
    show Steps p.tables e below (T105.setTop (mkF m 52 #[.val (.ref a1), .val (.int p2), .val (.long q3), .second] [(.int p2), (.ref a1)])) _
    refine XS.iconst X105.here hx rfl (hb hby d1_52) ?_
    show Steps p.tables e below (T105.setTop (mkF m 53 #[.val (.ref a1), .val (.int p2), .val (.long q3), .second] [(.int (5 : Int32)), (.int p2), (.ref a1)])) _
    refine XS.iadd X105.here hx rfl (hb hby d1_53) rfl ?_
    show Steps p.tables e below (T105.setTop (mkF m 54 #[.val (.ref a1), .val (.int p2), .val (.long q3), .second] [(.int (p2 + (5 : Int32))), (.ref a1)])) _
    refine XS.lloadN X105.here hx rfl (hb hby d1_54) rfl ?_
    show Steps p.tables e below (T105.setTop (mkF m 55 #[.val (.ref a1), .val (.int p2), .val (.long q3), .second] [(.long q3), (.int (p2 + (5 : Int32))), (.ref a1)])) _
    refine XS.bipush X105.here hx rfl (hb hby d1_55) ?_
    show Steps p.tables e below (T105.setTop (mkF m 57 #[.val (.ref a1), .val (.int p2), .val (.long q3), .second] [(.int (40 : Int32)), (.long q3), (.int (p2 + (5 : Int32))), (.ref a1)])) _
    refine XS.lushr X105.here hx rfl (hb hby d1_57) rfl ?_
    show Steps p.tables e below (T105.setTop (mkF m 58 #[.val (.ref a1), .val (.int p2), .val (.long q3), .second] [(.long ((q3.toUInt64 >>> ((40 : Int32) &&& 0x3f).toInt64.toUInt64).toInt64)), (.int (p2 + (5 : Int32))), (.ref a1)])) _
    refine XS.l2i X105.here hx rfl (hb hby d1_58) rfl ?_
    show Steps p.tables e below (T105.setTop (mkF m 59 #[.val (.ref a1), .val (.int p2), .val (.long q3), .second] [(.int (((q3.toUInt64 >>> ((40 : Int32) &&& 0x3f).toInt64.toUInt64).toInt64).toInt32)), (.int (p2 + (5 : Int32))), (.ref a1)])) _
    refine XS.i2b X105.here hx rfl (hb hby d1_59) rfl ?_
    show Steps p.tables e below (T105.setTop (mkF m 60 #[.val (.ref a1), .val (.int p2), .val (.long q3), .second] [(.int ((((q3.toUInt64 >>> ((40 : Int32) &&& 0x3f).toInt64.toUInt64).toInt64).toInt32).toInt8.toInt32)), (.int (p2 + (5 : Int32))), (.ref a1)])) _
    refine st106 _ ?_
    show Steps p.tables e below (T106.setTop (mkF m 61 #[.val (.ref a1), .val (.int p2), .val (.long q3), .second] [])) _
    refine XS.aloadN X106.here hx rfl (hb hby d1_61) rfl rfl ?_
    show Steps p.tables e below (T106.setTop (mkF m 62 #[.val (.ref a1), .val (.int p2), .val (.long q3), .second] [(.ref a1)])) _
    refine XS.iloadN X106.here hx rfl (hb hby d1_62) rfl ?_
    show Steps p.tables e below (T106.setTop (mkF m 63 #[.val (.ref a1), .val (.int p2), .val (.long q3), .second] [(.int p2), (.ref a1)])) _
    refine XS.bipush X106.here hx rfl (hb hby d1_63) ?_
    show Steps p.tables e below (T106.setTop (mkF m 65 #[.val (.ref a1), .val (.int p2), .val (.long q3), .second] [(.int (6 : Int32)), (.int p2), (.ref a1)])) _
    refine XS.iadd X106.here hx rfl (hb hby d1_65) rfl ?_
    show Steps p.tables e below (T106.setTop (mkF m 66 #[.val (.ref a1), .val (.int p2), .val (.long q3), .second] [(.int (p2 + (6 : Int32))), (.ref a1)])) _
    refine XS.lloadN X106.here hx rfl (hb hby d1_66) rfl ?_
    show Steps p.tables e below (T106.setTop (mkF m 67 #[.val (.ref a1), .val (.int p2), .val (.long q3), .second] [(.long q3), (.int (p2 + (6 : Int32))), (.ref a1)])) _
    refine XS.bipush X106.here hx rfl (hb hby d1_67) ?_
    show Steps p.tables e below (T106.setTop (mkF m 69 #[.val (.ref a1), .val (.int p2), .val (.long q3), .second] [(.int (48 : Int32)), (.long q3), (.int (p2 + (6 : Int32))), (.ref a1)])) _
    refine XS.lushr X106.here hx rfl (hb hby d1_69) rfl ?_
    show Steps p.tables e below (T106.setTop (mkF m 70 #[.val (.ref a1), .val (.int p2), .val (.long q3), .second] [(.long ((q3.toUInt64 >>> ((48 : Int32) &&& 0x3f).toInt64.toUInt64).toInt64)), (.int (p2 + (6 : Int32))), (.ref a1)])) _
    refine XS.l2i X106.here hx rfl (hb hby d1_70) rfl ?_
    show Steps p.tables e below (T106.setTop (mkF m 71 #[.val (.ref a1), .val (.int p2), .val (.long q3), .second] [(.int (((q3.toUInt64 >>> ((48 : Int32) &&& 0x3f).toInt64.toUInt64).toInt64).toInt32)), (.int (p2 + (6 : Int32))), (.ref a1)])) _
    refine XS.i2b X106.here hx rfl (hb hby d1_71) rfl ?_
    show Steps p.tables e below (T106.setTop (mkF m 72 #[.val (.ref a1), .val (.int p2), .val (.long q3), .second] [(.int ((((q3.toUInt64 >>> ((48 : Int32) &&& 0x3f).toInt64.toUInt64).toInt64).toInt32).toInt8.toInt32)), (.int (p2 + (6 : Int32))), (.ref a1)])) _
    refine st107 _ ?_
    show Steps p.tables e below (T107.setTop (mkF m 73 #[.val (.ref a1), .val (.int p2), .val (.long q3), .second] [])) _
    refine XS.aloadN X107.here hx rfl (hb hby d1_73) rfl rfl ?_
    show Steps p.tables e below (T107.setTop (mkF m 74 #[.val (.ref a1), .val (.int p2), .val (.long q3), .second] [(.ref a1)])) _
    refine XS.iloadN X107.here hx rfl (hb hby d1_74) rfl ?_
    show Steps p.tables e below (T107.setTop (mkF m 75 #[.val (.ref a1), .val (.int p2), .val (.long q3), .second] [(.int p2), (.ref a1)])) _
    refine XS.bipush X107.here hx rfl (hb hby d1_75) ?_
    show Steps p.tables e below (T107.setTop (mkF m 77 #[.val (.ref a1), .val (.int p2), .val (.long q3), .second] [(.int (7 : Int32)), (.int p2), (.ref a1)])) _
    refine XS.iadd X107.here hx rfl (hb hby d1_77) rfl ?_
    show Steps p.tables e below (T107.setTop (mkF m 78 #[.val (.ref a1), .val (.int p2), .val (.long q3), .second] [(.int (p2 + (7 : Int32))), (.ref a1)])) _
    refine XS.lloadN X107.here hx rfl (hb hby d1_78) rfl ?_
    show Steps p.tables e below (T107.setTop (mkF m 79 #[.val (.ref a1), .val (.int p2), .val (.long q3), .second] [(.long q3), (.int (p2 + (7 : Int32))), (.ref a1)])) _
    refine XS.bipush X107.here hx rfl (hb hby d1_79) ?_
    show Steps p.tables e below (T107.setTop (mkF m 81 #[.val (.ref a1), .val (.int p2), .val (.long q3), .second] [(.int (56 : Int32)), (.long q3), (.int (p2 + (7 : Int32))), (.ref a1)])) _
    refine XS.lushr X107.here hx rfl (hb hby d1_81) rfl ?_
    show Steps p.tables e below (T107.setTop (mkF m 82 #[.val (.ref a1), .val (.int p2), .val (.long q3), .second] [(.long ((q3.toUInt64 >>> ((56 : Int32) &&& 0x3f).toInt64.toUInt64).toInt64)), (.int (p2 + (7 : Int32))), (.ref a1)])) _
    refine XS.l2i X107.here hx rfl (hb hby d1_82) rfl ?_
    show Steps p.tables e below (T107.setTop (mkF m 83 #[.val (.ref a1), .val (.int p2), .val (.long q3), .second] [(.int (((q3.toUInt64 >>> ((56 : Int32) &&& 0x3f).toInt64.toUInt64).toInt64).toInt32)), (.int (p2 + (7 : Int32))), (.ref a1)])) _
    refine XS.i2b X107.here hx rfl (hb hby d1_83) rfl ?_
    show Steps p.tables e below (T107.setTop (mkF m 84 #[.val (.ref a1), .val (.int p2), .val (.long q3), .second] [(.int ((((q3.toUInt64 >>> ((56 : Int32) &&& 0x3f).toInt64.toUInt64).toInt64).toInt32).toInt8.toInt32)), (.int (p2 + (7 : Int32))), (.ref a1)])) _
    refine st108 _ ?_
    show Steps p.tables e below (T108.setTop (mkF m 85 #[.val (.ref a1), .val (.int p2), .val (.long q3), .second] [])) _
    exact X108.returnOut hx Bd.returns (hb hby d1_85) hr
  · show QP Z a1 f k q3 h0 n0 _ T108.heap _
    rw [e108]
    exact ⟨rfl, N108, KC108, V108.cast (fun i _ => own_puts f k q3 i)⟩
def QS (h0 : Heap) (n0 : Nat) (v : Option Value) (h : Heap) (L : List Loc) : Prop := v = some (.int (1 : Int32)) ∧ Fr n0 L ∧ h = h0
set_option maxRecDepth 65536 in
set_option maxHeartbeats 40000000 in
theorem rmS (l : Launch) (Z : State) (a0 : Array Value) (hw : ∀ d ∈ tables_1, d.before a0 Z = true) (ws : List Jvm.Cond) (a1 : Addr) (p2 : Int32) (q3 : Int64) (k : Nat) (f : Nat → Value) (h0 : Heap) (n0 : Nat) (Z0 : n0 ≤ h0.size) (FA : OwnA Z h0 a1 .byte 32 f) (hj : ¬ p2 < 0) (hk : p2.toNatClampNeg = k) (hk32 : k + 7 < 32) (hf : ∀ i, i < 8 → f (k + i) = .int (own_by q3 i)) :
    MetFree l (⟨"com/example/custody/custody/merkle/TreeHashCopyPinLaw", "same", "([BIJ)Z"⟩ : MethodName) (head1 (Jvm.Cond.code (⟨"com/example/custody/custody/merkle/TreeHashCopyPinLaw", "same", "([BIJ)Z"⟩ : MethodName) method_4_code 4 (some .boolean) :: ws) ({ frames := 0, cells := 0, slots := 0, locals := 0 } : Room)) (fun a U => a = #[(.ref a1), (.int p2), (.long q3)] ∧ Z.Warmed39 U.vm ∧ U.heap = h0) (fun _ _ _ _ _ => True) (fun _ U o U' => ∃ v L, o = .returned v ∧ QS h0 n0 v U'.heap L ∧ FrameEnd U o U' L ({ frames := 0, cells := 0, slots := 0, locals := 0 } : Room).cells ({ frames := 0, cells := 0, slots := 0, locals := 0 } : Room).slots) := by
  refine MetFree.of_bodySF (plainFor_of_name own_pn0) hisR ?_
  intro p e s m args below meth c s₁ Bd hml0 hP hK
  obtain ⟨rfl, hZ, hh⟩ := hP
  have hx := Bd.exec
  have hby := Bd.bytes
  have hml : c.maxLocals = 4 := hml0
  have hown : s.vm.findClass "com/example/custody/custody/merkle/TreeHashCopyPinLaw" = some m.cls := findClass_of_methodNamed Bd.named
  have hnm := (name_of_methodNamed Bd.named Bd.method).1
  have X0 : Stand p l e ({ frames := 0, cells := 0, slots := 0, locals := 0 } : Room) s m #[(.ref a1), (.int p2), (.long q3)] below meth c s₁ [] 0 0 := Stand.of_body Bd
  have e0 : s₁.heap = h0 := by rw [← hh, Bd.state]; rfl
  have N0 := Fr.nil n0
  have ef : entryFrame m #[(.ref a1), (.int p2), (.long q3)] 4 = mkF m 0 #[.val (.ref a1), .val (.int p2), .val (.long q3), .second] [] := by first | (simp [entryFrame, mkF, argsToLocals, Value.category]; done) | rfl
  have pre0 : ∀ t, Steps p.tables e below (s₁.setTop (mkF m 0 #[.val (.ref a1), .val (.int p2), .val (.long q3), .second] [])) t → Steps p.tables e below (s₁.setTop (entryFrame m #[(.ref a1), (.int p2), (.long q3)] 4)) t := fun t k => castTop ef k
  obtain ⟨fs, hr, hrun, hended, hW, hsame⟩ := X0.leave (v := some (.int (1 : Int32))) (fun h => by rw [Bd.returns] at h; cases h)
  refine ⟨_, _, pre0 _ ?_, hrun, hended, _, _, rfl, ?_, ⟨_, rfl⟩, hW, hsame.mono (by decide) (by decide)⟩
  · show Steps p.tables e below (s₁.setTop (mkF m 0 #[.val (.ref a1), .val (.int p2), .val (.long q3), .second] [])) _
    refine XS.aloadN X0.here hx rfl (hb hby d3_0) rfl rfl ?_
    show Steps p.tables e below (s₁.setTop (mkF m 1 #[.val (.ref a1), .val (.int p2), .val (.long q3), .second] [(.ref a1)])) _
    refine XS.iloadN X0.here hx rfl (hb hby d3_1) rfl ?_
    show Steps p.tables e below (s₁.setTop (mkF m 2 #[.val (.ref a1), .val (.int p2), .val (.long q3), .second] [(.int p2), (.ref a1)])) _
    refine own_ldB X0 hx hZ e0 FA (j := p2) k hj hk (by omega) (v := (.int ((q3.toInt32).toInt8.toInt32))) (hf 0 (by decide)) (g := (mkF m 2 #[.val (.ref a1), .val (.int p2), .val (.long q3), .second] [(.int p2), (.ref a1)])) rfl rfl (hb hby d3_2) _ ?_
    show Steps p.tables e below (s₁.setTop (mkF m 3 #[.val (.ref a1), .val (.int p2), .val (.long q3), .second] [(.int ((q3.toInt32).toInt8.toInt32))])) _
    refine XS.lloadN X0.here hx rfl (hb hby d3_3) rfl ?_
    show Steps p.tables e below (s₁.setTop (mkF m 4 #[.val (.ref a1), .val (.int p2), .val (.long q3), .second] [(.long q3), (.int ((q3.toInt32).toInt8.toInt32))])) _
    refine XS.l2i X0.here hx rfl (hb hby d3_4) rfl ?_
    show Steps p.tables e below (s₁.setTop (mkF m 5 #[.val (.ref a1), .val (.int p2), .val (.long q3), .second] [(.int (q3.toInt32)), (.int ((q3.toInt32).toInt8.toInt32))])) _
    refine XS.i2b X0.here hx rfl (hb hby d3_5) rfl ?_
    show Steps p.tables e below (s₁.setTop (mkF m 6 #[.val (.ref a1), .val (.int p2), .val (.long q3), .second] [(.int ((q3.toInt32).toInt8.toInt32)), (.int ((q3.toInt32).toInt8.toInt32))])) _
    refine XS.icmpNo X0.here hx rfl (hb hby d3_6) rfl (teq rfl).2 ?_
    show Steps p.tables e below (s₁.setTop (mkF m 9 #[.val (.ref a1), .val (.int p2), .val (.long q3), .second] [])) _
    refine XS.aloadN X0.here hx rfl (hb hby d3_9) rfl rfl ?_
    show Steps p.tables e below (s₁.setTop (mkF m 10 #[.val (.ref a1), .val (.int p2), .val (.long q3), .second] [(.ref a1)])) _
    refine XS.iloadN X0.here hx rfl (hb hby d3_10) rfl ?_
    show Steps p.tables e below (s₁.setTop (mkF m 11 #[.val (.ref a1), .val (.int p2), .val (.long q3), .second] [(.int p2), (.ref a1)])) _
    refine XS.iconst X0.here hx rfl (hb hby d3_11) ?_
    show Steps p.tables e below (s₁.setTop (mkF m 12 #[.val (.ref a1), .val (.int p2), .val (.long q3), .second] [(.int (1 : Int32)), (.int p2), (.ref a1)])) _
    refine XS.iadd X0.here hx rfl (hb hby d3_12) rfl ?_
    show Steps p.tables e below (s₁.setTop (mkF m 13 #[.val (.ref a1), .val (.int p2), .val (.long q3), .second] [(.int (p2 + (1 : Int32))), (.ref a1)])) _
    refine own_ldB X0 hx hZ e0 FA (j := (p2 + (1 : Int32))) (k + 1) (own_ix (d := 1) (i := 1) hj hk rfl (by omega)).1 (own_ix (d := 1) (i := 1) hj hk rfl (by omega)).2 (by omega) (v := (.int ((((q3.toUInt64 >>> ((8 : Int32) &&& 0x3f).toInt64.toUInt64).toInt64).toInt32).toInt8.toInt32))) (hf 1 (by decide)) (g := (mkF m 13 #[.val (.ref a1), .val (.int p2), .val (.long q3), .second] [(.int (p2 + (1 : Int32))), (.ref a1)])) rfl rfl (hb hby d3_13) _ ?_
    show Steps p.tables e below (s₁.setTop (mkF m 14 #[.val (.ref a1), .val (.int p2), .val (.long q3), .second] [(.int ((((q3.toUInt64 >>> ((8 : Int32) &&& 0x3f).toInt64.toUInt64).toInt64).toInt32).toInt8.toInt32))])) _
    refine XS.lloadN X0.here hx rfl (hb hby d3_14) rfl ?_
    show Steps p.tables e below (s₁.setTop (mkF m 15 #[.val (.ref a1), .val (.int p2), .val (.long q3), .second] [(.long q3), (.int ((((q3.toUInt64 >>> ((8 : Int32) &&& 0x3f).toInt64.toUInt64).toInt64).toInt32).toInt8.toInt32))])) _
    refine XS.bipush X0.here hx rfl (hb hby d3_15) ?_
    show Steps p.tables e below (s₁.setTop (mkF m 17 #[.val (.ref a1), .val (.int p2), .val (.long q3), .second] [(.int (8 : Int32)), (.long q3), (.int ((((q3.toUInt64 >>> ((8 : Int32) &&& 0x3f).toInt64.toUInt64).toInt64).toInt32).toInt8.toInt32))])) _
    refine XS.lushr X0.here hx rfl (hb hby d3_17) rfl ?_
    show Steps p.tables e below (s₁.setTop (mkF m 18 #[.val (.ref a1), .val (.int p2), .val (.long q3), .second] [(.long ((q3.toUInt64 >>> ((8 : Int32) &&& 0x3f).toInt64.toUInt64).toInt64)), (.int ((((q3.toUInt64 >>> ((8 : Int32) &&& 0x3f).toInt64.toUInt64).toInt64).toInt32).toInt8.toInt32))])) _
    refine XS.l2i X0.here hx rfl (hb hby d3_18) rfl ?_
    show Steps p.tables e below (s₁.setTop (mkF m 19 #[.val (.ref a1), .val (.int p2), .val (.long q3), .second] [(.int (((q3.toUInt64 >>> ((8 : Int32) &&& 0x3f).toInt64.toUInt64).toInt64).toInt32)), (.int ((((q3.toUInt64 >>> ((8 : Int32) &&& 0x3f).toInt64.toUInt64).toInt64).toInt32).toInt8.toInt32))])) _
    refine XS.i2b X0.here hx rfl (hb hby d3_19) rfl ?_
    show Steps p.tables e below (s₁.setTop (mkF m 20 #[.val (.ref a1), .val (.int p2), .val (.long q3), .second] [(.int ((((q3.toUInt64 >>> ((8 : Int32) &&& 0x3f).toInt64.toUInt64).toInt64).toInt32).toInt8.toInt32)), (.int ((((q3.toUInt64 >>> ((8 : Int32) &&& 0x3f).toInt64.toUInt64).toInt64).toInt32).toInt8.toInt32))])) _
    refine XS.icmpNo X0.here hx rfl (hb hby d3_20) rfl (teq rfl).2 ?_
    show Steps p.tables e below (s₁.setTop (mkF m 23 #[.val (.ref a1), .val (.int p2), .val (.long q3), .second] [])) _
    refine XS.aloadN X0.here hx rfl (hb hby d3_23) rfl rfl ?_
    show Steps p.tables e below (s₁.setTop (mkF m 24 #[.val (.ref a1), .val (.int p2), .val (.long q3), .second] [(.ref a1)])) _
    refine XS.iloadN X0.here hx rfl (hb hby d3_24) rfl ?_
    show Steps p.tables e below (s₁.setTop (mkF m 25 #[.val (.ref a1), .val (.int p2), .val (.long q3), .second] [(.int p2), (.ref a1)])) _
    refine XS.iconst X0.here hx rfl (hb hby d3_25) ?_
    show Steps p.tables e below (s₁.setTop (mkF m 26 #[.val (.ref a1), .val (.int p2), .val (.long q3), .second] [(.int (2 : Int32)), (.int p2), (.ref a1)])) _
    refine XS.iadd X0.here hx rfl (hb hby d3_26) rfl ?_
    show Steps p.tables e below (s₁.setTop (mkF m 27 #[.val (.ref a1), .val (.int p2), .val (.long q3), .second] [(.int (p2 + (2 : Int32))), (.ref a1)])) _
    refine own_ldB X0 hx hZ e0 FA (j := (p2 + (2 : Int32))) (k + 2) (own_ix (d := 2) (i := 2) hj hk rfl (by omega)).1 (own_ix (d := 2) (i := 2) hj hk rfl (by omega)).2 (by omega) (v := (.int ((((q3.toUInt64 >>> ((16 : Int32) &&& 0x3f).toInt64.toUInt64).toInt64).toInt32).toInt8.toInt32))) (hf 2 (by decide)) (g := (mkF m 27 #[.val (.ref a1), .val (.int p2), .val (.long q3), .second] [(.int (p2 + (2 : Int32))), (.ref a1)])) rfl rfl (hb hby d3_27) _ ?_
    show Steps p.tables e below (s₁.setTop (mkF m 28 #[.val (.ref a1), .val (.int p2), .val (.long q3), .second] [(.int ((((q3.toUInt64 >>> ((16 : Int32) &&& 0x3f).toInt64.toUInt64).toInt64).toInt32).toInt8.toInt32))])) _
    refine XS.lloadN X0.here hx rfl (hb hby d3_28) rfl ?_
    show Steps p.tables e below (s₁.setTop (mkF m 29 #[.val (.ref a1), .val (.int p2), .val (.long q3), .second] [(.long q3), (.int ((((q3.toUInt64 >>> ((16 : Int32) &&& 0x3f).toInt64.toUInt64).toInt64).toInt32).toInt8.toInt32))])) _
    refine XS.bipush X0.here hx rfl (hb hby d3_29) ?_
    show Steps p.tables e below (s₁.setTop (mkF m 31 #[.val (.ref a1), .val (.int p2), .val (.long q3), .second] [(.int (16 : Int32)), (.long q3), (.int ((((q3.toUInt64 >>> ((16 : Int32) &&& 0x3f).toInt64.toUInt64).toInt64).toInt32).toInt8.toInt32))])) _
    refine XS.lushr X0.here hx rfl (hb hby d3_31) rfl ?_
    show Steps p.tables e below (s₁.setTop (mkF m 32 #[.val (.ref a1), .val (.int p2), .val (.long q3), .second] [(.long ((q3.toUInt64 >>> ((16 : Int32) &&& 0x3f).toInt64.toUInt64).toInt64)), (.int ((((q3.toUInt64 >>> ((16 : Int32) &&& 0x3f).toInt64.toUInt64).toInt64).toInt32).toInt8.toInt32))])) _
    refine XS.l2i X0.here hx rfl (hb hby d3_32) rfl ?_
    show Steps p.tables e below (s₁.setTop (mkF m 33 #[.val (.ref a1), .val (.int p2), .val (.long q3), .second] [(.int (((q3.toUInt64 >>> ((16 : Int32) &&& 0x3f).toInt64.toUInt64).toInt64).toInt32)), (.int ((((q3.toUInt64 >>> ((16 : Int32) &&& 0x3f).toInt64.toUInt64).toInt64).toInt32).toInt8.toInt32))])) _
    refine XS.i2b X0.here hx rfl (hb hby d3_33) rfl ?_
    show Steps p.tables e below (s₁.setTop (mkF m 34 #[.val (.ref a1), .val (.int p2), .val (.long q3), .second] [(.int ((((q3.toUInt64 >>> ((16 : Int32) &&& 0x3f).toInt64.toUInt64).toInt64).toInt32).toInt8.toInt32)), (.int ((((q3.toUInt64 >>> ((16 : Int32) &&& 0x3f).toInt64.toUInt64).toInt64).toInt32).toInt8.toInt32))])) _
    refine XS.icmpNo X0.here hx rfl (hb hby d3_34) rfl (teq rfl).2 ?_
    show Steps p.tables e below (s₁.setTop (mkF m 37 #[.val (.ref a1), .val (.int p2), .val (.long q3), .second] [])) _
    refine XS.aloadN X0.here hx rfl (hb hby d3_37) rfl rfl ?_
    show Steps p.tables e below (s₁.setTop (mkF m 38 #[.val (.ref a1), .val (.int p2), .val (.long q3), .second] [(.ref a1)])) _
    refine XS.iloadN X0.here hx rfl (hb hby d3_38) rfl ?_
    show Steps p.tables e below (s₁.setTop (mkF m 39 #[.val (.ref a1), .val (.int p2), .val (.long q3), .second] [(.int p2), (.ref a1)])) _
    refine XS.iconst X0.here hx rfl (hb hby d3_39) ?_
    show Steps p.tables e below (s₁.setTop (mkF m 40 #[.val (.ref a1), .val (.int p2), .val (.long q3), .second] [(.int (3 : Int32)), (.int p2), (.ref a1)])) _
    refine XS.iadd X0.here hx rfl (hb hby d3_40) rfl ?_
    show Steps p.tables e below (s₁.setTop (mkF m 41 #[.val (.ref a1), .val (.int p2), .val (.long q3), .second] [(.int (p2 + (3 : Int32))), (.ref a1)])) _
    refine own_ldB X0 hx hZ e0 FA (j := (p2 + (3 : Int32))) (k + 3) (own_ix (d := 3) (i := 3) hj hk rfl (by omega)).1 (own_ix (d := 3) (i := 3) hj hk rfl (by omega)).2 (by omega) (v := (.int ((((q3.toUInt64 >>> ((24 : Int32) &&& 0x3f).toInt64.toUInt64).toInt64).toInt32).toInt8.toInt32))) (hf 3 (by decide)) (g := (mkF m 41 #[.val (.ref a1), .val (.int p2), .val (.long q3), .second] [(.int (p2 + (3 : Int32))), (.ref a1)])) rfl rfl (hb hby d3_41) _ ?_
    show Steps p.tables e below (s₁.setTop (mkF m 42 #[.val (.ref a1), .val (.int p2), .val (.long q3), .second] [(.int ((((q3.toUInt64 >>> ((24 : Int32) &&& 0x3f).toInt64.toUInt64).toInt64).toInt32).toInt8.toInt32))])) _
    refine XS.lloadN X0.here hx rfl (hb hby d3_42) rfl ?_
    show Steps p.tables e below (s₁.setTop (mkF m 43 #[.val (.ref a1), .val (.int p2), .val (.long q3), .second] [(.long q3), (.int ((((q3.toUInt64 >>> ((24 : Int32) &&& 0x3f).toInt64.toUInt64).toInt64).toInt32).toInt8.toInt32))])) _
    refine XS.bipush X0.here hx rfl (hb hby d3_43) ?_
    show Steps p.tables e below (s₁.setTop (mkF m 45 #[.val (.ref a1), .val (.int p2), .val (.long q3), .second] [(.int (24 : Int32)), (.long q3), (.int ((((q3.toUInt64 >>> ((24 : Int32) &&& 0x3f).toInt64.toUInt64).toInt64).toInt32).toInt8.toInt32))])) _
    refine XS.lushr X0.here hx rfl (hb hby d3_45) rfl ?_
    show Steps p.tables e below (s₁.setTop (mkF m 46 #[.val (.ref a1), .val (.int p2), .val (.long q3), .second] [(.long ((q3.toUInt64 >>> ((24 : Int32) &&& 0x3f).toInt64.toUInt64).toInt64)), (.int ((((q3.toUInt64 >>> ((24 : Int32) &&& 0x3f).toInt64.toUInt64).toInt64).toInt32).toInt8.toInt32))])) _
    refine XS.l2i X0.here hx rfl (hb hby d3_46) rfl ?_
    show Steps p.tables e below (s₁.setTop (mkF m 47 #[.val (.ref a1), .val (.int p2), .val (.long q3), .second] [(.int (((q3.toUInt64 >>> ((24 : Int32) &&& 0x3f).toInt64.toUInt64).toInt64).toInt32)), (.int ((((q3.toUInt64 >>> ((24 : Int32) &&& 0x3f).toInt64.toUInt64).toInt64).toInt32).toInt8.toInt32))])) _
    refine XS.i2b X0.here hx rfl (hb hby d3_47) rfl ?_
    show Steps p.tables e below (s₁.setTop (mkF m 48 #[.val (.ref a1), .val (.int p2), .val (.long q3), .second] [(.int ((((q3.toUInt64 >>> ((24 : Int32) &&& 0x3f).toInt64.toUInt64).toInt64).toInt32).toInt8.toInt32)), (.int ((((q3.toUInt64 >>> ((24 : Int32) &&& 0x3f).toInt64.toUInt64).toInt64).toInt32).toInt8.toInt32))])) _
    refine XS.icmpNo X0.here hx rfl (hb hby d3_48) rfl (teq rfl).2 ?_
    show Steps p.tables e below (s₁.setTop (mkF m 51 #[.val (.ref a1), .val (.int p2), .val (.long q3), .second] [])) _
    refine XS.aloadN X0.here hx rfl (hb hby d3_51) rfl rfl ?_
    show Steps p.tables e below (s₁.setTop (mkF m 52 #[.val (.ref a1), .val (.int p2), .val (.long q3), .second] [(.ref a1)])) _
    refine XS.iloadN X0.here hx rfl (hb hby d3_52) rfl ?_
    show Steps p.tables e below (s₁.setTop (mkF m 53 #[.val (.ref a1), .val (.int p2), .val (.long q3), .second] [(.int p2), (.ref a1)])) _
    refine XS.iconst X0.here hx rfl (hb hby d3_53) ?_
    show Steps p.tables e below (s₁.setTop (mkF m 54 #[.val (.ref a1), .val (.int p2), .val (.long q3), .second] [(.int (4 : Int32)), (.int p2), (.ref a1)])) _
    refine XS.iadd X0.here hx rfl (hb hby d3_54) rfl ?_
    show Steps p.tables e below (s₁.setTop (mkF m 55 #[.val (.ref a1), .val (.int p2), .val (.long q3), .second] [(.int (p2 + (4 : Int32))), (.ref a1)])) _
    refine own_ldB X0 hx hZ e0 FA (j := (p2 + (4 : Int32))) (k + 4) (own_ix (d := 4) (i := 4) hj hk rfl (by omega)).1 (own_ix (d := 4) (i := 4) hj hk rfl (by omega)).2 (by omega) (v := (.int ((((q3.toUInt64 >>> ((32 : Int32) &&& 0x3f).toInt64.toUInt64).toInt64).toInt32).toInt8.toInt32))) (hf 4 (by decide)) (g := (mkF m 55 #[.val (.ref a1), .val (.int p2), .val (.long q3), .second] [(.int (p2 + (4 : Int32))), (.ref a1)])) rfl rfl (hb hby d3_55) _ ?_
    show Steps p.tables e below (s₁.setTop (mkF m 56 #[.val (.ref a1), .val (.int p2), .val (.long q3), .second] [(.int ((((q3.toUInt64 >>> ((32 : Int32) &&& 0x3f).toInt64.toUInt64).toInt64).toInt32).toInt8.toInt32))])) _
    refine XS.lloadN X0.here hx rfl (hb hby d3_56) rfl ?_
    show Steps p.tables e below (s₁.setTop (mkF m 57 #[.val (.ref a1), .val (.int p2), .val (.long q3), .second] [(.long q3), (.int ((((q3.toUInt64 >>> ((32 : Int32) &&& 0x3f).toInt64.toUInt64).toInt64).toInt32).toInt8.toInt32))])) _
    refine XS.bipush X0.here hx rfl (hb hby d3_57) ?_
    show Steps p.tables e below (s₁.setTop (mkF m 59 #[.val (.ref a1), .val (.int p2), .val (.long q3), .second] [(.int (32 : Int32)), (.long q3), (.int ((((q3.toUInt64 >>> ((32 : Int32) &&& 0x3f).toInt64.toUInt64).toInt64).toInt32).toInt8.toInt32))])) _
    refine XS.lushr X0.here hx rfl (hb hby d3_59) rfl ?_
    show Steps p.tables e below (s₁.setTop (mkF m 60 #[.val (.ref a1), .val (.int p2), .val (.long q3), .second] [(.long ((q3.toUInt64 >>> ((32 : Int32) &&& 0x3f).toInt64.toUInt64).toInt64)), (.int ((((q3.toUInt64 >>> ((32 : Int32) &&& 0x3f).toInt64.toUInt64).toInt64).toInt32).toInt8.toInt32))])) _
    refine XS.l2i X0.here hx rfl (hb hby d3_60) rfl ?_
    show Steps p.tables e below (s₁.setTop (mkF m 61 #[.val (.ref a1), .val (.int p2), .val (.long q3), .second] [(.int (((q3.toUInt64 >>> ((32 : Int32) &&& 0x3f).toInt64.toUInt64).toInt64).toInt32)), (.int ((((q3.toUInt64 >>> ((32 : Int32) &&& 0x3f).toInt64.toUInt64).toInt64).toInt32).toInt8.toInt32))])) _
    refine XS.i2b X0.here hx rfl (hb hby d3_61) rfl ?_
    show Steps p.tables e below (s₁.setTop (mkF m 62 #[.val (.ref a1), .val (.int p2), .val (.long q3), .second] [(.int ((((q3.toUInt64 >>> ((32 : Int32) &&& 0x3f).toInt64.toUInt64).toInt64).toInt32).toInt8.toInt32)), (.int ((((q3.toUInt64 >>> ((32 : Int32) &&& 0x3f).toInt64.toUInt64).toInt64).toInt32).toInt8.toInt32))])) _
    refine XS.icmpNo X0.here hx rfl (hb hby d3_62) rfl (teq rfl).2 ?_
    show Steps p.tables e below (s₁.setTop (mkF m 65 #[.val (.ref a1), .val (.int p2), .val (.long q3), .second] [])) _
    refine XS.aloadN X0.here hx rfl (hb hby d3_65) rfl rfl ?_
    show Steps p.tables e below (s₁.setTop (mkF m 66 #[.val (.ref a1), .val (.int p2), .val (.long q3), .second] [(.ref a1)])) _
    refine XS.iloadN X0.here hx rfl (hb hby d3_66) rfl ?_
    show Steps p.tables e below (s₁.setTop (mkF m 67 #[.val (.ref a1), .val (.int p2), .val (.long q3), .second] [(.int p2), (.ref a1)])) _
    refine XS.iconst X0.here hx rfl (hb hby d3_67) ?_
    show Steps p.tables e below (s₁.setTop (mkF m 68 #[.val (.ref a1), .val (.int p2), .val (.long q3), .second] [(.int (5 : Int32)), (.int p2), (.ref a1)])) _
    refine XS.iadd X0.here hx rfl (hb hby d3_68) rfl ?_
    show Steps p.tables e below (s₁.setTop (mkF m 69 #[.val (.ref a1), .val (.int p2), .val (.long q3), .second] [(.int (p2 + (5 : Int32))), (.ref a1)])) _
    refine own_ldB X0 hx hZ e0 FA (j := (p2 + (5 : Int32))) (k + 5) (own_ix (d := 5) (i := 5) hj hk rfl (by omega)).1 (own_ix (d := 5) (i := 5) hj hk rfl (by omega)).2 (by omega) (v := (.int ((((q3.toUInt64 >>> ((40 : Int32) &&& 0x3f).toInt64.toUInt64).toInt64).toInt32).toInt8.toInt32))) (hf 5 (by decide)) (g := (mkF m 69 #[.val (.ref a1), .val (.int p2), .val (.long q3), .second] [(.int (p2 + (5 : Int32))), (.ref a1)])) rfl rfl (hb hby d3_69) _ ?_
    show Steps p.tables e below (s₁.setTop (mkF m 70 #[.val (.ref a1), .val (.int p2), .val (.long q3), .second] [(.int ((((q3.toUInt64 >>> ((40 : Int32) &&& 0x3f).toInt64.toUInt64).toInt64).toInt32).toInt8.toInt32))])) _
    refine XS.lloadN X0.here hx rfl (hb hby d3_70) rfl ?_
    show Steps p.tables e below (s₁.setTop (mkF m 71 #[.val (.ref a1), .val (.int p2), .val (.long q3), .second] [(.long q3), (.int ((((q3.toUInt64 >>> ((40 : Int32) &&& 0x3f).toInt64.toUInt64).toInt64).toInt32).toInt8.toInt32))])) _
    refine XS.bipush X0.here hx rfl (hb hby d3_71) ?_
    show Steps p.tables e below (s₁.setTop (mkF m 73 #[.val (.ref a1), .val (.int p2), .val (.long q3), .second] [(.int (40 : Int32)), (.long q3), (.int ((((q3.toUInt64 >>> ((40 : Int32) &&& 0x3f).toInt64.toUInt64).toInt64).toInt32).toInt8.toInt32))])) _
    refine XS.lushr X0.here hx rfl (hb hby d3_73) rfl ?_
    show Steps p.tables e below (s₁.setTop (mkF m 74 #[.val (.ref a1), .val (.int p2), .val (.long q3), .second] [(.long ((q3.toUInt64 >>> ((40 : Int32) &&& 0x3f).toInt64.toUInt64).toInt64)), (.int ((((q3.toUInt64 >>> ((40 : Int32) &&& 0x3f).toInt64.toUInt64).toInt64).toInt32).toInt8.toInt32))])) _
    refine XS.l2i X0.here hx rfl (hb hby d3_74) rfl ?_
    show Steps p.tables e below (s₁.setTop (mkF m 75 #[.val (.ref a1), .val (.int p2), .val (.long q3), .second] [(.int (((q3.toUInt64 >>> ((40 : Int32) &&& 0x3f).toInt64.toUInt64).toInt64).toInt32)), (.int ((((q3.toUInt64 >>> ((40 : Int32) &&& 0x3f).toInt64.toUInt64).toInt64).toInt32).toInt8.toInt32))])) _
    refine XS.i2b X0.here hx rfl (hb hby d3_75) rfl ?_
    show Steps p.tables e below (s₁.setTop (mkF m 76 #[.val (.ref a1), .val (.int p2), .val (.long q3), .second] [(.int ((((q3.toUInt64 >>> ((40 : Int32) &&& 0x3f).toInt64.toUInt64).toInt64).toInt32).toInt8.toInt32)), (.int ((((q3.toUInt64 >>> ((40 : Int32) &&& 0x3f).toInt64.toUInt64).toInt64).toInt32).toInt8.toInt32))])) _
    refine XS.icmpNo X0.here hx rfl (hb hby d3_76) rfl (teq rfl).2 ?_
    show Steps p.tables e below (s₁.setTop (mkF m 79 #[.val (.ref a1), .val (.int p2), .val (.long q3), .second] [])) _
    refine XS.aloadN X0.here hx rfl (hb hby d3_79) rfl rfl ?_
    show Steps p.tables e below (s₁.setTop (mkF m 80 #[.val (.ref a1), .val (.int p2), .val (.long q3), .second] [(.ref a1)])) _
    refine XS.iloadN X0.here hx rfl (hb hby d3_80) rfl ?_
    show Steps p.tables e below (s₁.setTop (mkF m 81 #[.val (.ref a1), .val (.int p2), .val (.long q3), .second] [(.int p2), (.ref a1)])) _
    refine XS.bipush X0.here hx rfl (hb hby d3_81) ?_
    show Steps p.tables e below (s₁.setTop (mkF m 83 #[.val (.ref a1), .val (.int p2), .val (.long q3), .second] [(.int (6 : Int32)), (.int p2), (.ref a1)])) _
    refine XS.iadd X0.here hx rfl (hb hby d3_83) rfl ?_
    show Steps p.tables e below (s₁.setTop (mkF m 84 #[.val (.ref a1), .val (.int p2), .val (.long q3), .second] [(.int (p2 + (6 : Int32))), (.ref a1)])) _
    refine own_ldB X0 hx hZ e0 FA (j := (p2 + (6 : Int32))) (k + 6) (own_ix (d := 6) (i := 6) hj hk rfl (by omega)).1 (own_ix (d := 6) (i := 6) hj hk rfl (by omega)).2 (by omega) (v := (.int ((((q3.toUInt64 >>> ((48 : Int32) &&& 0x3f).toInt64.toUInt64).toInt64).toInt32).toInt8.toInt32))) (hf 6 (by decide)) (g := (mkF m 84 #[.val (.ref a1), .val (.int p2), .val (.long q3), .second] [(.int (p2 + (6 : Int32))), (.ref a1)])) rfl rfl (hb hby d3_84) _ ?_
    show Steps p.tables e below (s₁.setTop (mkF m 85 #[.val (.ref a1), .val (.int p2), .val (.long q3), .second] [(.int ((((q3.toUInt64 >>> ((48 : Int32) &&& 0x3f).toInt64.toUInt64).toInt64).toInt32).toInt8.toInt32))])) _
    refine XS.lloadN X0.here hx rfl (hb hby d3_85) rfl ?_
    show Steps p.tables e below (s₁.setTop (mkF m 86 #[.val (.ref a1), .val (.int p2), .val (.long q3), .second] [(.long q3), (.int ((((q3.toUInt64 >>> ((48 : Int32) &&& 0x3f).toInt64.toUInt64).toInt64).toInt32).toInt8.toInt32))])) _
    refine XS.bipush X0.here hx rfl (hb hby d3_86) ?_
    show Steps p.tables e below (s₁.setTop (mkF m 88 #[.val (.ref a1), .val (.int p2), .val (.long q3), .second] [(.int (48 : Int32)), (.long q3), (.int ((((q3.toUInt64 >>> ((48 : Int32) &&& 0x3f).toInt64.toUInt64).toInt64).toInt32).toInt8.toInt32))])) _
    refine XS.lushr X0.here hx rfl (hb hby d3_88) rfl ?_
    show Steps p.tables e below (s₁.setTop (mkF m 89 #[.val (.ref a1), .val (.int p2), .val (.long q3), .second] [(.long ((q3.toUInt64 >>> ((48 : Int32) &&& 0x3f).toInt64.toUInt64).toInt64)), (.int ((((q3.toUInt64 >>> ((48 : Int32) &&& 0x3f).toInt64.toUInt64).toInt64).toInt32).toInt8.toInt32))])) _
    refine XS.l2i X0.here hx rfl (hb hby d3_89) rfl ?_
    show Steps p.tables e below (s₁.setTop (mkF m 90 #[.val (.ref a1), .val (.int p2), .val (.long q3), .second] [(.int (((q3.toUInt64 >>> ((48 : Int32) &&& 0x3f).toInt64.toUInt64).toInt64).toInt32)), (.int ((((q3.toUInt64 >>> ((48 : Int32) &&& 0x3f).toInt64.toUInt64).toInt64).toInt32).toInt8.toInt32))])) _
    refine XS.i2b X0.here hx rfl (hb hby d3_90) rfl ?_
    show Steps p.tables e below (s₁.setTop (mkF m 91 #[.val (.ref a1), .val (.int p2), .val (.long q3), .second] [(.int ((((q3.toUInt64 >>> ((48 : Int32) &&& 0x3f).toInt64.toUInt64).toInt64).toInt32).toInt8.toInt32)), (.int ((((q3.toUInt64 >>> ((48 : Int32) &&& 0x3f).toInt64.toUInt64).toInt64).toInt32).toInt8.toInt32))])) _
    refine XS.icmpNo X0.here hx rfl (hb hby d3_91) rfl (teq rfl).2 ?_
    show Steps p.tables e below (s₁.setTop (mkF m 94 #[.val (.ref a1), .val (.int p2), .val (.long q3), .second] [])) _
    refine XS.aloadN X0.here hx rfl (hb hby d3_94) rfl rfl ?_
    show Steps p.tables e below (s₁.setTop (mkF m 95 #[.val (.ref a1), .val (.int p2), .val (.long q3), .second] [(.ref a1)])) _
    refine XS.iloadN X0.here hx rfl (hb hby d3_95) rfl ?_
    show Steps p.tables e below (s₁.setTop (mkF m 96 #[.val (.ref a1), .val (.int p2), .val (.long q3), .second] [(.int p2), (.ref a1)])) _
    refine XS.bipush X0.here hx rfl (hb hby d3_96) ?_
    show Steps p.tables e below (s₁.setTop (mkF m 98 #[.val (.ref a1), .val (.int p2), .val (.long q3), .second] [(.int (7 : Int32)), (.int p2), (.ref a1)])) _
    refine XS.iadd X0.here hx rfl (hb hby d3_98) rfl ?_
    show Steps p.tables e below (s₁.setTop (mkF m 99 #[.val (.ref a1), .val (.int p2), .val (.long q3), .second] [(.int (p2 + (7 : Int32))), (.ref a1)])) _
    refine own_ldB X0 hx hZ e0 FA (j := (p2 + (7 : Int32))) (k + 7) (own_ix (d := 7) (i := 7) hj hk rfl (by omega)).1 (own_ix (d := 7) (i := 7) hj hk rfl (by omega)).2 (by omega) (v := (.int ((((q3.toUInt64 >>> ((56 : Int32) &&& 0x3f).toInt64.toUInt64).toInt64).toInt32).toInt8.toInt32))) (hf 7 (by decide)) (g := (mkF m 99 #[.val (.ref a1), .val (.int p2), .val (.long q3), .second] [(.int (p2 + (7 : Int32))), (.ref a1)])) rfl rfl (hb hby d3_99) _ ?_
    show Steps p.tables e below (s₁.setTop (mkF m 100 #[.val (.ref a1), .val (.int p2), .val (.long q3), .second] [(.int ((((q3.toUInt64 >>> ((56 : Int32) &&& 0x3f).toInt64.toUInt64).toInt64).toInt32).toInt8.toInt32))])) _
    refine XS.lloadN X0.here hx rfl (hb hby d3_100) rfl ?_
    show Steps p.tables e below (s₁.setTop (mkF m 101 #[.val (.ref a1), .val (.int p2), .val (.long q3), .second] [(.long q3), (.int ((((q3.toUInt64 >>> ((56 : Int32) &&& 0x3f).toInt64.toUInt64).toInt64).toInt32).toInt8.toInt32))])) _
    refine XS.bipush X0.here hx rfl (hb hby d3_101) ?_
    show Steps p.tables e below (s₁.setTop (mkF m 103 #[.val (.ref a1), .val (.int p2), .val (.long q3), .second] [(.int (56 : Int32)), (.long q3), (.int ((((q3.toUInt64 >>> ((56 : Int32) &&& 0x3f).toInt64.toUInt64).toInt64).toInt32).toInt8.toInt32))])) _
    refine XS.lushr X0.here hx rfl (hb hby d3_103) rfl ?_
    show Steps p.tables e below (s₁.setTop (mkF m 104 #[.val (.ref a1), .val (.int p2), .val (.long q3), .second] [(.long ((q3.toUInt64 >>> ((56 : Int32) &&& 0x3f).toInt64.toUInt64).toInt64)), (.int ((((q3.toUInt64 >>> ((56 : Int32) &&& 0x3f).toInt64.toUInt64).toInt64).toInt32).toInt8.toInt32))])) _
    refine XS.l2i X0.here hx rfl (hb hby d3_104) rfl ?_
    show Steps p.tables e below (s₁.setTop (mkF m 105 #[.val (.ref a1), .val (.int p2), .val (.long q3), .second] [(.int (((q3.toUInt64 >>> ((56 : Int32) &&& 0x3f).toInt64.toUInt64).toInt64).toInt32)), (.int ((((q3.toUInt64 >>> ((56 : Int32) &&& 0x3f).toInt64.toUInt64).toInt64).toInt32).toInt8.toInt32))])) _
    refine XS.i2b X0.here hx rfl (hb hby d3_105) rfl ?_
    show Steps p.tables e below (s₁.setTop (mkF m 106 #[.val (.ref a1), .val (.int p2), .val (.long q3), .second] [(.int ((((q3.toUInt64 >>> ((56 : Int32) &&& 0x3f).toInt64.toUInt64).toInt64).toInt32).toInt8.toInt32)), (.int ((((q3.toUInt64 >>> ((56 : Int32) &&& 0x3f).toInt64.toUInt64).toInt64).toInt32).toInt8.toInt32))])) _
    refine XS.icmpNo X0.here hx rfl (hb hby d3_106) rfl (teq rfl).2 ?_
    show Steps p.tables e below (s₁.setTop (mkF m 109 #[.val (.ref a1), .val (.int p2), .val (.long q3), .second] [])) _
    refine XS.iconst X0.here hx rfl (hb hby d3_109) ?_
    show Steps p.tables e below (s₁.setTop (mkF m 110 #[.val (.ref a1), .val (.int p2), .val (.long q3), .second] [(.int (1 : Int32))])) _
    refine XS.goto X0.here hx rfl (pc0 := 110) (pc' := 114) rfl (hb hby d3_110) (by decide) (by decide) ?_
    show Steps p.tables e below (s₁.setTop (mkF m 114 #[.val (.ref a1), .val (.int p2), .val (.long q3), .second] [(.int (1 : Int32))])) _
    exact retN X0 hx (t := .boolean) Bd.returns (by simp) (hb hby d3_114) hr
  · show QS h0 n0 _ s₁.heap _
    rw [e0]
    exact ⟨rfl, N0, rfl⟩
def QC (Z : State) (f : Nat → Value) (h0 : Heap) (n0 : Nat) (v : Option Value) (h : Heap) (L : List Loc) : Prop := ∃ b, v = some (.ref b) ∧ Fr n0 L ∧ Keep h0 h [] ∧ h0.size ≤ b ∧ OwnA Z h b .byte 32 f
set_option maxRecDepth 65536 in
set_option maxHeartbeats 40000000 in
theorem rmC (l : Launch) (Z : State) (a0 : Array Value) (hw : ∀ d ∈ tables_1, d.before a0 Z = true) (ws : List Jvm.Cond) (a1 : Addr) (f : Nat → Value) (h0 : Heap) (n0 : Nat) (Z0 : n0 ≤ h0.size) (FA : OwnA Z h0 a1 .byte 32 f) (EA : Exa Z h0 a1 "[B") :
    MetFree l (⟨"com/example/custody/custody/merkle/TreeHash", "copy", "([B)[B"⟩ : MethodName) (head1 (Jvm.Cond.code (⟨"com/example/custody/custody/merkle/TreeHash", "copy", "([B)[B"⟩ : MethodName) prog_24_method_5_code 1 (some (.array .byte)) :: ws) ({ frames := 1, cells := 1, slots := 32, locals := 14 } : Room)) (fun a U => a = #[(.ref a1)] ∧ Z.Warmed39 U.vm ∧ U.heap = h0) (fun _ _ _ _ _ => True) (fun _ U o U' => ∃ v L, o = .returned v ∧ QC Z f h0 n0 v U'.heap L ∧ FrameEnd U o U' L ({ frames := 1, cells := 1, slots := 32, locals := 14 } : Room).cells ({ frames := 1, cells := 1, slots := 32, locals := 14 } : Room).slots) := by
  refine MetFree.of_bodySF (plainFor_of_name own_pn1) hisR ?_
  intro p e s m args below meth c s₁ Bd hml0 hP hK
  obtain ⟨rfl, hZ, hh⟩ := hP
  have hx := Bd.exec
  have hby := Bd.bytes
  have hml : c.maxLocals = 1 := hml0
  have hown : s.vm.findClass "com/example/custody/custody/merkle/TreeHash" = some m.cls := findClass_of_methodNamed Bd.named
  have hnm := (name_of_methodNamed Bd.named Bd.method).1
  have X0 : Stand p l e ({ frames := 1, cells := 1, slots := 32, locals := 14 } : Room) s m #[(.ref a1)] below meth c s₁ [] 0 0 := Stand.of_body Bd
  have e0 : s₁.heap = h0 := by rw [← hh, Bd.state]; rfl
  have N0 := Fr.nil n0
  have ef : entryFrame m #[(.ref a1)] 1 = mkF m 0 #[.val (.ref a1)] [] := by first | (simp [entryFrame, mkF, argsToLocals, Value.category]; done) | rfl
  have pre0 : ∀ t, Steps p.tables e below (s₁.setTop (mkF m 0 #[.val (.ref a1)] [])) t → Steps p.tables e below (s₁.setTop (entryFrame m #[(.ref a1)] 1)) t := fun t k => castTop ef k
  obtain ⟨T101, h101, X101, e101, E101, V101, Ex101, st101⟩ := own_clone X0 hx hZ hown (hw _ (List.mem_of_getElem? (i := 9) rfl)) (hw _ (List.mem_of_getElem? (i := 10) rfl)) (hw _ (List.mem_of_getElem? (i := 14) rfl)) (hw _ (List.mem_of_getElem? (i := 12) rfl)) (hw _ (List.mem_of_getElem? (i := 13) rfl)) (hw _ (List.mem_of_getElem? (i := 15) rfl)) e0 FA EA (g := (mkF m 23 #[.val (.ref a1)] [(.ref a1)])) rfl (by rw [hml]; rfl) rfl (hb hby d2_23) (by decide) (W := 0) (by show 2 * 0 + _ ≤ _; exact Nat.le_of_eq rfl) (by decide) (cap := 32) (by decide) (by decide) (by decide)
  obtain ⟨b101, g101⟩ : ∃ z, z = h0.size := ⟨_, rfl⟩
  rw [← g101] at V101 Ex101 st101
  have ne_a1_b101 : a1 ≠ b101 := Nat.ne_of_lt (Nat.lt_of_lt_of_le FA.lt (Nat.le_of_eq g101.symm))
  have g_b101 : n0 ≤ b101 := Nat.le_trans Z0 (Nat.le_of_eq g101.symm)
  have sz_b101 : h0.size ≤ b101 := Nat.le_trans (Keep.refl h0 []).1 (Nat.le_of_eq g101.symm)
  have Z101 : n0 ≤ h101.size := Nat.le_trans Z0 E101.1
  have KC101 : Keep h0 h101 [] := (Keep.refl h0 []).ext E101
  obtain ⟨T102, X102, e102, st102⟩ := castY X101 hx hZ hown (hw _ (List.mem_of_getElem? (i := 16) rfl)) e101 (Ins.self Ex101) (g := (mkF m 26 #[.val (.ref a1)] [(.ref b101)])) rfl rfl (hb hby d2_26)
  obtain ⟨fs, hr, hrun, hended, hW, hsame⟩ := X102.leave (v := some (.ref b101)) (fun h => by rw [Bd.returns] at h; cases h)
  refine ⟨_, _, pre0 _ ?_, hrun, hended, _, _, rfl, ?_, ⟨_, rfl⟩, hW, hsame.mono (by decide) (by decide)⟩
  · show Steps p.tables e below (s₁.setTop (mkF m 0 #[.val (.ref a1)] [])) _
    refine XS.aloadN X0.here hx rfl (hb hby d2_0) rfl rfl ?_
    show Steps p.tables e below (s₁.setTop (mkF m 1 #[.val (.ref a1)] [(.ref a1)])) _
    refine own_len X0 hx hZ e0 FA (z := (32 : Int32)) rfl (g := (mkF m 1 #[.val (.ref a1)] [(.ref a1)])) rfl rfl (hb hby d2_1) _ ?_
    show Steps p.tables e below (s₁.setTop (mkF m 2 #[.val (.ref a1)] [(.int (32 : Int32))])) _
    refine XS.bipush X0.here hx rfl (hb hby d2_2) ?_
    show Steps p.tables e below (s₁.setTop (mkF m 4 #[.val (.ref a1)] [(.int (32 : Int32)), (.int (32 : Int32))])) _
    refine XS.icmpYes X0.here hx rfl (pc0 := 4) (pc' := 22) rfl (hb hby d2_4) rfl (teq rfl).1 (by decide) (by decide) ?_
    show Steps p.tables e below (s₁.setTop (mkF m 22 #[.val (.ref a1)] [])) _
    refine XS.aloadN X0.here hx rfl (hb hby d2_22) rfl rfl ?_
    show Steps p.tables e below (s₁.setTop (mkF m 23 #[.val (.ref a1)] [(.ref a1)])) _
    refine st101 _ ?_
    show Steps p.tables e below (T101.setTop (mkF m 26 #[.val (.ref a1)] [(.ref b101)])) _
    refine st102 _ ?_
    show Steps p.tables e below (T102.setTop (mkF m 29 #[.val (.ref a1)] [(.ref b101)])) _
    exact own_retA X102 hx (t := (.array .byte)) rfl Bd.returns (hb hby d2_29) hr
  · show QC Z f h0 n0 _ T102.heap _
    rw [e102]
    exact ⟨b101, rfl, N0, KC101, sz_b101, V101⟩
def QLaw (n0 : Nat) (v : Option Value) (h : Heap) (L : List Loc) : Prop := v = some (.int 1) ∧ Fr n0 L
set_option maxRecDepth 65536 in
set_option maxHeartbeats 40000000 in
theorem rm0 (l : Launch) (Z : State) (a0 : Array Value) (hw : ∀ d ∈ tables_1, d.before a0 Z = true) (ws : List Jvm.Cond) (q0 : Int64) (q1 : Int64) (q2 : Int64) (q3 : Int64) (p4 : Int32) (h0 : Heap) (n0 : Nat) (Z0 : n0 ≤ h0.size)  :
    MetFree l x (head1 (Jvm.Cond.code x code maxLocals ret :: ws) room_1) (fun a U => a = #[(.long q0), (.long q1), (.long q2), (.long q3), (.int p4)] ∧ Z.Warmed39 U.vm ∧ U.heap = h0) (fun _ _ _ _ _ => True) (fun _ U o U' => ∃ v L, o = .returned v ∧ QLaw n0 v U'.heap L ∧ FrameEnd U o U' L room_1.cells room_1.slots) := by
  refine MetFree.of_bodySF (plainFor_of_name own_pn0) hisR ?_
  intro p e s m args below meth c s₁ Bd hml0 hP hK
  obtain ⟨rfl, hZ, hh⟩ := hP
  have hx := Bd.exec
  have hby := Bd.bytes
  have hml : c.maxLocals = 13 := hml0
  have hown : s.vm.findClass "com/example/custody/custody/merkle/TreeHashCopyPinLaw" = some m.cls := findClass_of_methodNamed Bd.named
  have hnm := (name_of_methodNamed Bd.named Bd.method).1
  have X0 : Stand p l e room_1 s m #[(.long q0), (.long q1), (.long q2), (.long q3), (.int p4)] below meth c s₁ [] 0 0 := Stand.of_body Bd
  have e0 : s₁.heap = h0 := by rw [← hh, Bd.state]; rfl
  have N0 := Fr.nil n0
  have ef : entryFrame m #[(.long q0), (.long q1), (.long q2), (.long q3), (.int p4)] maxLocals = mkF m 0 #[.val (.long q0), .second, .val (.long q1), .second, .val (.long q2), .second, .val (.long q3), .second, .val (.int p4), .unset, .unset, .unset, .unset] [] := by first | (simp [entryFrame, mkF, argsToLocals, Value.category, maxLocals]; done) | rfl
  have pre0 : ∀ t, Steps p.tables e below (s₁.setTop (mkF m 0 #[.val (.long q0), .second, .val (.long q1), .second, .val (.long q2), .second, .val (.long q3), .second, .val (.int p4), .unset, .unset, .unset, .unset] [])) t → Steps p.tables e below (s₁.setTop (entryFrame m #[(.long q0), (.long q1), (.long q2), (.long q3), (.int p4)] maxLocals)) t := fun t k => castTop ef k
  obtain ⟨T101, h101, k101, X101, e101, E101, A101, Ex101, st101⟩ := newPE X0 hx hZ (aty := .byte) (hw _ (List.mem_of_getElem? (i := 0) rfl)) e0 (g := (mkF m 2 #[.val (.long q0), .second, .val (.long q1), .second, .val (.long q2), .second, .val (.long q3), .second, .val (.int p4), .unset, .unset, .unset, .unset] [(.int (32 : Int32))])) rfl (hb hby at_2) rfl (by decide) (cap := 32) (by decide) (by decide) (by decide) (by decide) (ad := "[B") (by decide)
  obtain ⟨b101, g101⟩ : ∃ z, z = h0.size := ⟨_, rfl⟩
  rw [← g101] at A101 Ex101 st101
  have g_b101 : n0 ≤ b101 := Nat.le_trans Z0 (Nat.le_of_eq g101.symm)
  have sz_b101 : h0.size ≤ b101 := Nat.le_trans (Keep.refl h0 []).1 (Nat.le_of_eq g101.symm)
  have Z101 : n0 ≤ h101.size := Nat.le_trans Z0 E101.1
  have KC101 : Keep h0 h101 [] := (Keep.refl h0 []).ext E101
  have V101 : OwnA Z h101 b101 .byte 32 (fun _ => (.int (0 : Int32))) := OwnA.new A101 rfl
  obtain ⟨_, _, ⟨T102, L102, k102, n102⟩, -, X102, ⟨Lc102, hQ102, l102, y102, z102⟩, st102⟩ := Jvm.LawKit.callS X101 hx (y := (⟨"com/example/custody/custody/merkle/TreeHashCopyPinLaw", "put", "([BIJ)V"⟩ : MethodName)) hown (mvT hZ (hw _ (List.mem_of_getElem? (i := 1) rfl))) (mvT hZ (hw _ (List.mem_of_getElem? (i := 2) rfl))) (mvT hZ (hw _ (List.mem_of_getElem? (i := 3) rfl))) (mvT hZ (hw _ (List.mem_of_getElem? (i := 4) rfl))) (by decide) (backOf (W := 0) (rmP l Z a0 hw [] b101 (0 : Int32) q0 0 _ h101 n0 Z101 V101 g_b101 (by decide) rfl (by decide)) hZ (hw _ (List.mem_of_getElem? (i := 4) rfl)) (hw _ (List.mem_of_getElem? (i := 3) rfl)) (by decide) (by decide)) (g := (mkF m 10 #[.val (.long q0), .second, .val (.long q1), .second, .val (.long q2), .second, .val (.long q3), .second, .val (.int p4), .val (.ref b101), .unset, .unset, .unset] [(.long q0), (.int (0 : Int32)), (.ref b101)])) rfl (by rw [hml]; rfl) (argsL := [(.ref b101), (.int (0 : Int32)), (.long q0)]) (rest := []) (lenOf own_pd0 rfl) rfl (by show 2 * 0 + _ ≤ _; exact Nat.le_of_eq rfl) (hb hby at_10) (fun _ _ => ⟨rfl, e101, (by decide : 1 + 0 ≤ _), (by decide : 32 + 0 ≤ _)⟩)
  dsimp only [Pt.U, Pt.locs, Pt.cells, Pt.slots] at X102 l102 y102 z102 st102 hQ102
  subst l102 y102 z102
  obtain ⟨rfl, Nq102, K102, V102⟩ := hQ102
  have Z102 : n0 ≤ T102.heap.size := Nat.le_trans Z101 K102.1
  have KC102 : Keep h0 T102.heap [] := KC101.trans K102 (allS (Or.inr sz_b101) all0)
  have N102 := Fr.app N0 Nq102
  obtain ⟨_, _, ⟨T103, L103, k103, n103⟩, -, X103, ⟨Lc103, hQ103, l103, y103, z103⟩, st103⟩ := Jvm.LawKit.callS X102 hx (y := (⟨"com/example/custody/custody/merkle/TreeHashCopyPinLaw", "put", "([BIJ)V"⟩ : MethodName)) hown (mvT hZ (hw _ (List.mem_of_getElem? (i := 1) rfl))) (mvT hZ (hw _ (List.mem_of_getElem? (i := 2) rfl))) (mvT hZ (hw _ (List.mem_of_getElem? (i := 3) rfl))) (mvT hZ (hw _ (List.mem_of_getElem? (i := 4) rfl))) (by decide) (backOf (W := 0) (rmP l Z a0 hw [] b101 (8 : Int32) q1 8 _ T102.heap n0 Z102 V102 g_b101 (by decide) rfl (by decide)) hZ (hw _ (List.mem_of_getElem? (i := 4) rfl)) (hw _ (List.mem_of_getElem? (i := 3) rfl)) (by decide) (by decide)) (g := (mkF m 18 #[.val (.long q0), .second, .val (.long q1), .second, .val (.long q2), .second, .val (.long q3), .second, .val (.int p4), .val (.ref b101), .unset, .unset, .unset] [(.long q1), (.int (8 : Int32)), (.ref b101)])) rfl (by rw [hml]; rfl) (argsL := [(.ref b101), (.int (8 : Int32)), (.long q1)]) (rest := []) (lenOf own_pd0 rfl) rfl (by show 2 * 0 + _ ≤ _; exact Nat.le_of_eq rfl) (hb hby at_18) (fun _ _ => ⟨rfl, rfl, (by decide : 1 + 0 ≤ _), (by decide : 32 + 0 ≤ _)⟩)
  dsimp only [Pt.U, Pt.locs, Pt.cells, Pt.slots] at X103 l103 y103 z103 st103 hQ103
  subst l103 y103 z103
  have f104 := (Ex101.keep K102)
  obtain ⟨rfl, Nq103, K103, V103⟩ := hQ103
  have Z103 : n0 ≤ T103.heap.size := Nat.le_trans Z102 K103.1
  have KC103 : Keep h0 T103.heap [] := KC102.trans K103 (allS (Or.inr sz_b101) all0)
  have N103 := Fr.app N102 Nq103
  obtain ⟨_, _, ⟨T105, L105, k105, n105⟩, -, X105, ⟨Lc105, hQ105, l105, y105, z105⟩, st105⟩ := Jvm.LawKit.callS X103 hx (y := (⟨"com/example/custody/custody/merkle/TreeHashCopyPinLaw", "put", "([BIJ)V"⟩ : MethodName)) hown (mvT hZ (hw _ (List.mem_of_getElem? (i := 1) rfl))) (mvT hZ (hw _ (List.mem_of_getElem? (i := 2) rfl))) (mvT hZ (hw _ (List.mem_of_getElem? (i := 3) rfl))) (mvT hZ (hw _ (List.mem_of_getElem? (i := 4) rfl))) (by decide) (backOf (W := 0) (rmP l Z a0 hw [] b101 (16 : Int32) q2 16 _ T103.heap n0 Z103 V103 g_b101 (by decide) rfl (by decide)) hZ (hw _ (List.mem_of_getElem? (i := 4) rfl)) (hw _ (List.mem_of_getElem? (i := 3) rfl)) (by decide) (by decide)) (g := (mkF m 27 #[.val (.long q0), .second, .val (.long q1), .second, .val (.long q2), .second, .val (.long q3), .second, .val (.int p4), .val (.ref b101), .unset, .unset, .unset] [(.long q2), (.int (16 : Int32)), (.ref b101)])) rfl (by rw [hml]; rfl) (argsL := [(.ref b101), (.int (16 : Int32)), (.long q2)]) (rest := []) (lenOf own_pd0 rfl) rfl (by show 2 * 0 + _ ≤ _; exact Nat.le_of_eq rfl) (hb hby at_27) (fun _ _ => ⟨rfl, rfl, (by decide : 1 + 0 ≤ _), (by decide : 32 + 0 ≤ _)⟩)
  dsimp only [Pt.U, Pt.locs, Pt.cells, Pt.slots] at X105 l105 y105 z105 st105 hQ105
  subst l105 y105 z105
  have f106 := (f104.keep K103)
  obtain ⟨rfl, Nq105, K105, V105⟩ := hQ105
  have Z105 : n0 ≤ T105.heap.size := Nat.le_trans Z103 K105.1
  have KC105 : Keep h0 T105.heap [] := KC103.trans K105 (allS (Or.inr sz_b101) all0)
  have N105 := Fr.app N103 Nq105
  obtain ⟨_, _, ⟨T107, L107, k107, n107⟩, -, X107, ⟨Lc107, hQ107, l107, y107, z107⟩, st107⟩ := Jvm.LawKit.callS X105 hx (y := (⟨"com/example/custody/custody/merkle/TreeHashCopyPinLaw", "put", "([BIJ)V"⟩ : MethodName)) hown (mvT hZ (hw _ (List.mem_of_getElem? (i := 1) rfl))) (mvT hZ (hw _ (List.mem_of_getElem? (i := 2) rfl))) (mvT hZ (hw _ (List.mem_of_getElem? (i := 3) rfl))) (mvT hZ (hw _ (List.mem_of_getElem? (i := 4) rfl))) (by decide) (backOf (W := 0) (rmP l Z a0 hw [] b101 (24 : Int32) q3 24 _ T105.heap n0 Z105 V105 g_b101 (by decide) rfl (by decide)) hZ (hw _ (List.mem_of_getElem? (i := 4) rfl)) (hw _ (List.mem_of_getElem? (i := 3) rfl)) (by decide) (by decide)) (g := (mkF m 36 #[.val (.long q0), .second, .val (.long q1), .second, .val (.long q2), .second, .val (.long q3), .second, .val (.int p4), .val (.ref b101), .unset, .unset, .unset] [(.long q3), (.int (24 : Int32)), (.ref b101)])) rfl (by rw [hml]; rfl) (argsL := [(.ref b101), (.int (24 : Int32)), (.long q3)]) (rest := []) (lenOf own_pd0 rfl) rfl (by show 2 * 0 + _ ≤ _; exact Nat.le_of_eq rfl) (hb hby at_36) (fun _ _ => ⟨rfl, rfl, (by decide : 1 + 0 ≤ _), (by decide : 32 + 0 ≤ _)⟩)
  dsimp only [Pt.U, Pt.locs, Pt.cells, Pt.slots] at X107 l107 y107 z107 st107 hQ107
  subst l107 y107 z107
  have f108 := (f106.keep K105)
  obtain ⟨rfl, Nq107, K107, V107⟩ := hQ107
  have Z107 : n0 ≤ T107.heap.size := Nat.le_trans Z105 K107.1
  have KC107 : Keep h0 T107.heap [] := KC105.trans K107 (allS (Or.inr sz_b101) all0)
  have N107 := Fr.app N105 Nq107
  have f109 := (f108.keep K107)
  obtain ⟨_, _, ⟨T110, L110, k110, n110⟩, -, X110, ⟨Lc110, hQ110, l110, y110, z110⟩, st110⟩ := Jvm.LawKit.callS X107 hx (y := (⟨"com/example/custody/custody/merkle/TreeHash", "copy", "([B)[B"⟩ : MethodName)) hown (mvT hZ (hw _ (List.mem_of_getElem? (i := 5) rfl))) (mvT hZ (hw _ (List.mem_of_getElem? (i := 6) rfl))) (mvT hZ (hw _ (List.mem_of_getElem? (i := 7) rfl))) (mvT hZ (hw _ (List.mem_of_getElem? (i := 8) rfl))) (by decide) (backOf (W := 0) (rmC l Z a0 hw [] b101 _ T107.heap n0 Z107 V107 f109) hZ (hw _ (List.mem_of_getElem? (i := 8) rfl)) (hw _ (List.mem_of_getElem? (i := 7) rfl)) (by decide) (by decide)) (g := (mkF m 41 #[.val (.long q0), .second, .val (.long q1), .second, .val (.long q2), .second, .val (.long q3), .second, .val (.int p4), .val (.ref b101), .unset, .unset, .unset] [(.ref b101)])) rfl (by rw [hml]; rfl) (argsL := [(.ref b101)]) (rest := []) (lenOf own_pd1 rfl) rfl (by show 2 * 0 + _ ≤ _; exact Nat.le_of_eq rfl) (hb hby at_41) (fun _ _ => ⟨rfl, rfl, (by decide : 1 + 1 ≤ _), (by decide : 32 + 32 ≤ _)⟩)
  dsimp only [Pt.U, Pt.locs, Pt.cells, Pt.slots] at X110 l110 y110 z110 st110 hQ110
  subst l110 y110 z110
  obtain ⟨b110, rfl, Nq110, K110, by_b110, V110⟩ := hQ110
  have ne_b101_b110 : b101 ≠ b110 := Nat.ne_of_lt (Nat.lt_of_lt_of_le f109.lt by_b110)
  have g_b110 : n0 ≤ b110 := Nat.le_trans Z107 by_b110
  have sz_b110 : h0.size ≤ b110 := Nat.le_trans KC107.1 by_b110
  have Z110 : n0 ≤ T110.heap.size := Nat.le_trans Z107 K110.1
  have KC110 : Keep h0 T110.heap [] := KC107.trans K110 all0
  have N110 := Fr.app N107 Nq110
  have f111 := (V107.keep K110 nin0)
  obtain ⟨_, _, ⟨T112, L112, k112, n112⟩, -, X112, ⟨Lc112, hQ112, l112, y112, z112⟩, st112⟩ := Jvm.LawKit.callS X110 hx (y := (⟨"com/example/custody/custody/merkle/TreeHashCopyPinLaw", "same", "([BIJ)Z"⟩ : MethodName)) hown (mvT hZ (hw _ (List.mem_of_getElem? (i := 18) rfl))) (mvT hZ (hw _ (List.mem_of_getElem? (i := 19) rfl))) (mvT hZ (hw _ (List.mem_of_getElem? (i := 3) rfl))) (mvT hZ (hw _ (List.mem_of_getElem? (i := 20) rfl))) (by decide) (backOf (W := 0) (rmS l Z a0 hw [] b101 (0 : Int32) q0 0 _ T110.heap n0 Z110 f111 (by decide) rfl (by decide) (fun i hi => own_got0 _ q0 q1 q2 q3 i hi)) hZ (hw _ (List.mem_of_getElem? (i := 20) rfl)) (hw _ (List.mem_of_getElem? (i := 3) rfl)) (by decide) (by decide)) (g := (mkF m 72 #[.val (.long q0), .second, .val (.long q1), .second, .val (.long q2), .second, .val (.long q3), .second, .val (.int p4), .val (.ref b101), .val (.ref b110), .unset, .unset] [(.long q0), (.int (0 : Int32)), (.ref b101)])) rfl (by rw [hml]; rfl) (argsL := [(.ref b101), (.int (0 : Int32)), (.long q0)]) (rest := []) (lenOf own_pd2 rfl) rfl (by show 2 * 0 + _ ≤ _; exact Nat.le_of_eq rfl) (hb hby at_72) (fun _ _ => ⟨rfl, rfl, (by decide : 2 + 0 ≤ _), (by decide : 64 + 0 ≤ _)⟩)
  dsimp only [Pt.U, Pt.locs, Pt.cells, Pt.slots] at X112 l112 y112 z112 st112 hQ112
  subst l112 y112 z112
  obtain ⟨rfl, Nq112, e112⟩ := hQ112
  have N112 := Fr.app N110 Nq112
  obtain ⟨_, _, ⟨T113, L113, k113, n113⟩, -, X113, ⟨Lc113, hQ113, l113, y113, z113⟩, st113⟩ := Jvm.LawKit.callS X112 hx (y := (⟨"com/example/custody/custody/merkle/TreeHashCopyPinLaw", "same", "([BIJ)Z"⟩ : MethodName)) hown (mvT hZ (hw _ (List.mem_of_getElem? (i := 18) rfl))) (mvT hZ (hw _ (List.mem_of_getElem? (i := 19) rfl))) (mvT hZ (hw _ (List.mem_of_getElem? (i := 3) rfl))) (mvT hZ (hw _ (List.mem_of_getElem? (i := 20) rfl))) (by decide) (backOf (W := 0) (rmS l Z a0 hw [] b101 (8 : Int32) q1 8 _ T110.heap n0 Z110 f111 (by decide) rfl (by decide) (fun i hi => own_got8 _ q0 q1 q2 q3 i hi)) hZ (hw _ (List.mem_of_getElem? (i := 20) rfl)) (hw _ (List.mem_of_getElem? (i := 3) rfl)) (by decide) (by decide)) (g := (mkF m 83 #[.val (.long q0), .second, .val (.long q1), .second, .val (.long q2), .second, .val (.long q3), .second, .val (.int p4), .val (.ref b101), .val (.ref b110), .unset, .unset] [(.long q1), (.int (8 : Int32)), (.ref b101)])) rfl (by rw [hml]; rfl) (argsL := [(.ref b101), (.int (8 : Int32)), (.long q1)]) (rest := []) (lenOf own_pd2 rfl) rfl (by show 2 * 0 + _ ≤ _; exact Nat.le_of_eq rfl) (hb hby at_83) (fun _ _ => ⟨rfl, e112, (by decide : 2 + 0 ≤ _), (by decide : 64 + 0 ≤ _)⟩)
  dsimp only [Pt.U, Pt.locs, Pt.cells, Pt.slots] at X113 l113 y113 z113 st113 hQ113
  subst l113 y113 z113
  obtain ⟨rfl, Nq113, e113⟩ := hQ113
  have N113 := Fr.app N112 Nq113
  obtain ⟨_, _, ⟨T114, L114, k114, n114⟩, -, X114, ⟨Lc114, hQ114, l114, y114, z114⟩, st114⟩ := Jvm.LawKit.callS X113 hx (y := (⟨"com/example/custody/custody/merkle/TreeHashCopyPinLaw", "same", "([BIJ)Z"⟩ : MethodName)) hown (mvT hZ (hw _ (List.mem_of_getElem? (i := 18) rfl))) (mvT hZ (hw _ (List.mem_of_getElem? (i := 19) rfl))) (mvT hZ (hw _ (List.mem_of_getElem? (i := 3) rfl))) (mvT hZ (hw _ (List.mem_of_getElem? (i := 20) rfl))) (by decide) (backOf (W := 0) (rmS l Z a0 hw [] b101 (16 : Int32) q2 16 _ T110.heap n0 Z110 f111 (by decide) rfl (by decide) (fun i hi => own_got16 _ q0 q1 q2 q3 i hi)) hZ (hw _ (List.mem_of_getElem? (i := 20) rfl)) (hw _ (List.mem_of_getElem? (i := 3) rfl)) (by decide) (by decide)) (g := (mkF m 95 #[.val (.long q0), .second, .val (.long q1), .second, .val (.long q2), .second, .val (.long q3), .second, .val (.int p4), .val (.ref b101), .val (.ref b110), .unset, .unset] [(.long q2), (.int (16 : Int32)), (.ref b101)])) rfl (by rw [hml]; rfl) (argsL := [(.ref b101), (.int (16 : Int32)), (.long q2)]) (rest := []) (lenOf own_pd2 rfl) rfl (by show 2 * 0 + _ ≤ _; exact Nat.le_of_eq rfl) (hb hby at_95) (fun _ _ => ⟨rfl, e113, (by decide : 2 + 0 ≤ _), (by decide : 64 + 0 ≤ _)⟩)
  dsimp only [Pt.U, Pt.locs, Pt.cells, Pt.slots] at X114 l114 y114 z114 st114 hQ114
  subst l114 y114 z114
  obtain ⟨rfl, Nq114, e114⟩ := hQ114
  have N114 := Fr.app N113 Nq114
  obtain ⟨_, _, ⟨T115, L115, k115, n115⟩, -, X115, ⟨Lc115, hQ115, l115, y115, z115⟩, st115⟩ := Jvm.LawKit.callS X114 hx (y := (⟨"com/example/custody/custody/merkle/TreeHashCopyPinLaw", "same", "([BIJ)Z"⟩ : MethodName)) hown (mvT hZ (hw _ (List.mem_of_getElem? (i := 18) rfl))) (mvT hZ (hw _ (List.mem_of_getElem? (i := 19) rfl))) (mvT hZ (hw _ (List.mem_of_getElem? (i := 3) rfl))) (mvT hZ (hw _ (List.mem_of_getElem? (i := 20) rfl))) (by decide) (backOf (W := 0) (rmS l Z a0 hw [] b101 (24 : Int32) q3 24 _ T110.heap n0 Z110 f111 (by decide) rfl (by decide) (fun i hi => own_got24 _ q0 q1 q2 q3 i hi)) hZ (hw _ (List.mem_of_getElem? (i := 20) rfl)) (hw _ (List.mem_of_getElem? (i := 3) rfl)) (by decide) (by decide)) (g := (mkF m 107 #[.val (.long q0), .second, .val (.long q1), .second, .val (.long q2), .second, .val (.long q3), .second, .val (.int p4), .val (.ref b101), .val (.ref b110), .unset, .unset] [(.long q3), (.int (24 : Int32)), (.ref b101)])) rfl (by rw [hml]; rfl) (argsL := [(.ref b101), (.int (24 : Int32)), (.long q3)]) (rest := []) (lenOf own_pd2 rfl) rfl (by show 2 * 0 + _ ≤ _; exact Nat.le_of_eq rfl) (hb hby at_107) (fun _ _ => ⟨rfl, e114, (by decide : 2 + 0 ≤ _), (by decide : 64 + 0 ≤ _)⟩)
  dsimp only [Pt.U, Pt.locs, Pt.cells, Pt.slots] at X115 l115 y115 z115 st115 hQ115
  subst l115 y115 z115
  obtain ⟨rfl, Nq115, e115⟩ := hQ115
  have N115 := Fr.app N114 Nq115
  obtain ⟨j, hv_j⟩ : ∃ z : Int32, z = (p4 &&& (31 : Int32)) := ⟨_, rfl⟩
  obtain ⟨hj, k, hk, hk32⟩ := own_idx hv_j
  obtain ⟨xk, hxk⟩ := own_val f111 hk32
  obtain ⟨T116, h116, X116, e116, W116, V116, st116⟩ := own_stB X115 hx hZ e115 f111 (j := j) k hj hk hk32 (g := (mkF m 141 #[.val (.long q0), .second, .val (.long q1), .second, .val (.long q2), .second, .val (.long q3), .second, .val (.int p4), .val (.ref b101), .val (.ref b110), .val (.int (1 : Int32)), .val (.int j)] [(.int ((xk ^^^ (255 : Int32)).toInt8.toInt32)), (.int j), (.ref b101)])) rfl rfl (hb hby at_141)
  have Z116 : n0 ≤ h116.size := Nat.le_trans Z110 (Nat.le_of_eq W116.size.symm)
  have KC116 : Keep h0 h116 [] := KC110.wr W116 (Or.inr sz_b101)
  have N116 := Fr.snoc X116 N115 g_b101
  have f117 := (V110.other W116 (Ne.symm ne_b101_b110))
  obtain ⟨_, _, ⟨T118, L118, k118, n118⟩, -, X118, ⟨Lc118, hQ118, l118, y118, z118⟩, st118⟩ := Jvm.LawKit.callS X116 hx (y := (⟨"com/example/custody/custody/merkle/TreeHashCopyPinLaw", "same", "([BIJ)Z"⟩ : MethodName)) hown (mvT hZ (hw _ (List.mem_of_getElem? (i := 18) rfl))) (mvT hZ (hw _ (List.mem_of_getElem? (i := 19) rfl))) (mvT hZ (hw _ (List.mem_of_getElem? (i := 3) rfl))) (mvT hZ (hw _ (List.mem_of_getElem? (i := 20) rfl))) (by decide) (backOf (W := 0) (rmS l Z a0 hw [] b110 (0 : Int32) q0 0 _ h116 n0 Z116 f117 (by decide) rfl (by decide) (fun i hi => own_got0 _ q0 q1 q2 q3 i hi)) hZ (hw _ (List.mem_of_getElem? (i := 20) rfl)) (hw _ (List.mem_of_getElem? (i := 3) rfl)) (by decide) (by decide)) (g := (mkF m 151 #[.val (.long q0), .second, .val (.long q1), .second, .val (.long q2), .second, .val (.long q3), .second, .val (.int p4), .val (.ref b101), .val (.ref b110), .val (.int (1 : Int32)), .val (.int j)] [(.long q0), (.int (0 : Int32)), (.ref b110)])) rfl (by rw [hml]; rfl) (argsL := [(.ref b110), (.int (0 : Int32)), (.long q0)]) (rest := []) (lenOf own_pd2 rfl) rfl (by show 2 * 0 + _ ≤ _; exact Nat.le_of_eq rfl) (hb hby at_151) (fun _ _ => ⟨rfl, e116, (by decide : 2 + 0 ≤ _), (by decide : 64 + 0 ≤ _)⟩)
  dsimp only [Pt.U, Pt.locs, Pt.cells, Pt.slots] at X118 l118 y118 z118 st118 hQ118
  subst l118 y118 z118
  obtain ⟨rfl, Nq118, e118⟩ := hQ118
  have N118 := Fr.app N116 Nq118
  obtain ⟨_, _, ⟨T119, L119, k119, n119⟩, -, X119, ⟨Lc119, hQ119, l119, y119, z119⟩, st119⟩ := Jvm.LawKit.callS X118 hx (y := (⟨"com/example/custody/custody/merkle/TreeHashCopyPinLaw", "same", "([BIJ)Z"⟩ : MethodName)) hown (mvT hZ (hw _ (List.mem_of_getElem? (i := 18) rfl))) (mvT hZ (hw _ (List.mem_of_getElem? (i := 19) rfl))) (mvT hZ (hw _ (List.mem_of_getElem? (i := 3) rfl))) (mvT hZ (hw _ (List.mem_of_getElem? (i := 20) rfl))) (by decide) (backOf (W := 0) (rmS l Z a0 hw [] b110 (8 : Int32) q1 8 _ h116 n0 Z116 f117 (by decide) rfl (by decide) (fun i hi => own_got8 _ q0 q1 q2 q3 i hi)) hZ (hw _ (List.mem_of_getElem? (i := 20) rfl)) (hw _ (List.mem_of_getElem? (i := 3) rfl)) (by decide) (by decide)) (g := (mkF m 162 #[.val (.long q0), .second, .val (.long q1), .second, .val (.long q2), .second, .val (.long q3), .second, .val (.int p4), .val (.ref b101), .val (.ref b110), .val (.int (1 : Int32)), .val (.int j)] [(.long q1), (.int (8 : Int32)), (.ref b110)])) rfl (by rw [hml]; rfl) (argsL := [(.ref b110), (.int (8 : Int32)), (.long q1)]) (rest := []) (lenOf own_pd2 rfl) rfl (by show 2 * 0 + _ ≤ _; exact Nat.le_of_eq rfl) (hb hby at_162) (fun _ _ => ⟨rfl, e118, (by decide : 2 + 0 ≤ _), (by decide : 64 + 0 ≤ _)⟩)
  dsimp only [Pt.U, Pt.locs, Pt.cells, Pt.slots] at X119 l119 y119 z119 st119 hQ119
  subst l119 y119 z119
  obtain ⟨rfl, Nq119, e119⟩ := hQ119
  have N119 := Fr.app N118 Nq119
  obtain ⟨_, _, ⟨T120, L120, k120, n120⟩, -, X120, ⟨Lc120, hQ120, l120, y120, z120⟩, st120⟩ := Jvm.LawKit.callS X119 hx (y := (⟨"com/example/custody/custody/merkle/TreeHashCopyPinLaw", "same", "([BIJ)Z"⟩ : MethodName)) hown (mvT hZ (hw _ (List.mem_of_getElem? (i := 18) rfl))) (mvT hZ (hw _ (List.mem_of_getElem? (i := 19) rfl))) (mvT hZ (hw _ (List.mem_of_getElem? (i := 3) rfl))) (mvT hZ (hw _ (List.mem_of_getElem? (i := 20) rfl))) (by decide) (backOf (W := 0) (rmS l Z a0 hw [] b110 (16 : Int32) q2 16 _ h116 n0 Z116 f117 (by decide) rfl (by decide) (fun i hi => own_got16 _ q0 q1 q2 q3 i hi)) hZ (hw _ (List.mem_of_getElem? (i := 20) rfl)) (hw _ (List.mem_of_getElem? (i := 3) rfl)) (by decide) (by decide)) (g := (mkF m 174 #[.val (.long q0), .second, .val (.long q1), .second, .val (.long q2), .second, .val (.long q3), .second, .val (.int p4), .val (.ref b101), .val (.ref b110), .val (.int (1 : Int32)), .val (.int j)] [(.long q2), (.int (16 : Int32)), (.ref b110)])) rfl (by rw [hml]; rfl) (argsL := [(.ref b110), (.int (16 : Int32)), (.long q2)]) (rest := []) (lenOf own_pd2 rfl) rfl (by show 2 * 0 + _ ≤ _; exact Nat.le_of_eq rfl) (hb hby at_174) (fun _ _ => ⟨rfl, e119, (by decide : 2 + 0 ≤ _), (by decide : 64 + 0 ≤ _)⟩)
  dsimp only [Pt.U, Pt.locs, Pt.cells, Pt.slots] at X120 l120 y120 z120 st120 hQ120
  subst l120 y120 z120
  obtain ⟨rfl, Nq120, e120⟩ := hQ120
  have N120 := Fr.app N119 Nq120
  obtain ⟨_, _, ⟨T121, L121, k121, n121⟩, -, X121, ⟨Lc121, hQ121, l121, y121, z121⟩, st121⟩ := Jvm.LawKit.callS X120 hx (y := (⟨"com/example/custody/custody/merkle/TreeHashCopyPinLaw", "same", "([BIJ)Z"⟩ : MethodName)) hown (mvT hZ (hw _ (List.mem_of_getElem? (i := 18) rfl))) (mvT hZ (hw _ (List.mem_of_getElem? (i := 19) rfl))) (mvT hZ (hw _ (List.mem_of_getElem? (i := 3) rfl))) (mvT hZ (hw _ (List.mem_of_getElem? (i := 20) rfl))) (by decide) (backOf (W := 0) (rmS l Z a0 hw [] b110 (24 : Int32) q3 24 _ h116 n0 Z116 f117 (by decide) rfl (by decide) (fun i hi => own_got24 _ q0 q1 q2 q3 i hi)) hZ (hw _ (List.mem_of_getElem? (i := 20) rfl)) (hw _ (List.mem_of_getElem? (i := 3) rfl)) (by decide) (by decide)) (g := (mkF m 186 #[.val (.long q0), .second, .val (.long q1), .second, .val (.long q2), .second, .val (.long q3), .second, .val (.int p4), .val (.ref b101), .val (.ref b110), .val (.int (1 : Int32)), .val (.int j)] [(.long q3), (.int (24 : Int32)), (.ref b110)])) rfl (by rw [hml]; rfl) (argsL := [(.ref b110), (.int (24 : Int32)), (.long q3)]) (rest := []) (lenOf own_pd2 rfl) rfl (by show 2 * 0 + _ ≤ _; exact Nat.le_of_eq rfl) (hb hby at_186) (fun _ _ => ⟨rfl, e120, (by decide : 2 + 0 ≤ _), (by decide : 64 + 0 ≤ _)⟩)
  dsimp only [Pt.U, Pt.locs, Pt.cells, Pt.slots] at X121 l121 y121 z121 st121 hQ121
  subst l121 y121 z121
  obtain ⟨rfl, Nq121, e121⟩ := hQ121
  have N121 := Fr.app N120 Nq121
  obtain ⟨fs, hr, hrun, hended, hW, hsame⟩ := X121.leave (v := some (.int (1 : Int32))) (fun h => by rw [Bd.returns] at h; cases h)
  refine ⟨_, _, pre0 _ ?_, hrun, hended, _, _, rfl, ?_, ⟨_, rfl⟩, hW, hsame.mono (by decide) (by decide)⟩
  · show Steps p.tables e below (s₁.setTop (mkF m 0 #[.val (.long q0), .second, .val (.long q1), .second, .val (.long q2), .second, .val (.long q3), .second, .val (.int p4), .unset, .unset, .unset, .unset] [])) _
    refine XS.bipush X0.here hx rfl (hb hby at_0) ?_
    show Steps p.tables e below (s₁.setTop (mkF m 2 #[.val (.long q0), .second, .val (.long q1), .second, .val (.long q2), .second, .val (.long q3), .second, .val (.int p4), .unset, .unset, .unset, .unset] [(.int (32 : Int32))])) _
    refine st101 _ ?_
    show Steps p.tables e below (T101.setTop (mkF m 4 #[.val (.long q0), .second, .val (.long q1), .second, .val (.long q2), .second, .val (.long q3), .second, .val (.int p4), .unset, .unset, .unset, .unset] [(.ref b101)])) _
    refine XS.astore X101.here hx rfl (hb hby at_4) rfl rfl (l' := #[.val (.long q0), .second, .val (.long q1), .second, .val (.long q2), .second, .val (.long q3), .second, .val (.int p4), .val (.ref b101), .unset, .unset, .unset]) rfl ?_
    show Steps p.tables e below (T101.setTop (mkF m 6 #[.val (.long q0), .second, .val (.long q1), .second, .val (.long q2), .second, .val (.long q3), .second, .val (.int p4), .val (.ref b101), .unset, .unset, .unset] [])) _
    refine XS.aload X101.here hx rfl (hb hby at_6) rfl rfl ?_
    show Steps p.tables e below (T101.setTop (mkF m 8 #[.val (.long q0), .second, .val (.long q1), .second, .val (.long q2), .second, .val (.long q3), .second, .val (.int p4), .val (.ref b101), .unset, .unset, .unset] [(.ref b101)])) _
    refine XS.iconst X101.here hx rfl (hb hby at_8) ?_
    show Steps p.tables e below (T101.setTop (mkF m 9 #[.val (.long q0), .second, .val (.long q1), .second, .val (.long q2), .second, .val (.long q3), .second, .val (.int p4), .val (.ref b101), .unset, .unset, .unset] [(.int (0 : Int32)), (.ref b101)])) _
    refine XS.lloadN X101.here hx rfl (hb hby at_9) rfl ?_
    show Steps p.tables e below (T101.setTop (mkF m 10 #[.val (.long q0), .second, .val (.long q1), .second, .val (.long q2), .second, .val (.long q3), .second, .val (.int p4), .val (.ref b101), .unset, .unset, .unset] [(.long q0), (.int (0 : Int32)), (.ref b101)])) _
    refine st102 _ ?_
    show Steps p.tables e below (T102.setTop (mkF m 13 #[.val (.long q0), .second, .val (.long q1), .second, .val (.long q2), .second, .val (.long q3), .second, .val (.int p4), .val (.ref b101), .unset, .unset, .unset] [])) _
    refine XS.aload X102.here hx rfl (hb hby at_13) rfl rfl ?_
    show Steps p.tables e below (T102.setTop (mkF m 15 #[.val (.long q0), .second, .val (.long q1), .second, .val (.long q2), .second, .val (.long q3), .second, .val (.int p4), .val (.ref b101), .unset, .unset, .unset] [(.ref b101)])) _
    refine XS.bipush X102.here hx rfl (hb hby at_15) ?_
    show Steps p.tables e below (T102.setTop (mkF m 17 #[.val (.long q0), .second, .val (.long q1), .second, .val (.long q2), .second, .val (.long q3), .second, .val (.int p4), .val (.ref b101), .unset, .unset, .unset] [(.int (8 : Int32)), (.ref b101)])) _
    refine XS.lloadN X102.here hx rfl (hb hby at_17) rfl ?_
    show Steps p.tables e below (T102.setTop (mkF m 18 #[.val (.long q0), .second, .val (.long q1), .second, .val (.long q2), .second, .val (.long q3), .second, .val (.int p4), .val (.ref b101), .unset, .unset, .unset] [(.long q1), (.int (8 : Int32)), (.ref b101)])) _
    refine st103 _ ?_
    show Steps p.tables e below (T103.setTop (mkF m 21 #[.val (.long q0), .second, .val (.long q1), .second, .val (.long q2), .second, .val (.long q3), .second, .val (.int p4), .val (.ref b101), .unset, .unset, .unset] [])) _
    refine XS.aload X103.here hx rfl (hb hby at_21) rfl rfl ?_
    show Steps p.tables e below (T103.setTop (mkF m 23 #[.val (.long q0), .second, .val (.long q1), .second, .val (.long q2), .second, .val (.long q3), .second, .val (.int p4), .val (.ref b101), .unset, .unset, .unset] [(.ref b101)])) _
    refine XS.bipush X103.here hx rfl (hb hby at_23) ?_
    show Steps p.tables e below (T103.setTop (mkF m 25 #[.val (.long q0), .second, .val (.long q1), .second, .val (.long q2), .second, .val (.long q3), .second, .val (.int p4), .val (.ref b101), .unset, .unset, .unset] [(.int (16 : Int32)), (.ref b101)])) _
    refine XS.lload X103.here hx rfl (hb hby at_25) rfl ?_
    show Steps p.tables e below (T103.setTop (mkF m 27 #[.val (.long q0), .second, .val (.long q1), .second, .val (.long q2), .second, .val (.long q3), .second, .val (.int p4), .val (.ref b101), .unset, .unset, .unset] [(.long q2), (.int (16 : Int32)), (.ref b101)])) _
    refine st105 _ ?_
    show Steps p.tables e below (T105.setTop (mkF m 30 #[.val (.long q0), .second, .val (.long q1), .second, .val (.long q2), .second, .val (.long q3), .second, .val (.int p4), .val (.ref b101), .unset, .unset, .unset] [])) _
    refine XS.aload X105.here hx rfl (hb hby at_30) rfl rfl ?_
    show Steps p.tables e below (T105.setTop (mkF m 32 #[.val (.long q0), .second, .val (.long q1), .second, .val (.long q2), .second, .val (.long q3), .second, .val (.int p4), .val (.ref b101), .unset, .unset, .unset] [(.ref b101)])) _
    refine XS.bipush X105.here hx rfl (hb hby at_32) ?_
    show Steps p.tables e below (T105.setTop (mkF m 34 #[.val (.long q0), .second, .val (.long q1), .second, .val (.long q2), .second, .val (.long q3), .second, .val (.int p4), .val (.ref b101), .unset, .unset, .unset] [(.int (24 : Int32)), (.ref b101)])) _
    refine XS.lload X105.here hx rfl (hb hby at_34) rfl ?_
    show Steps p.tables e below (T105.setTop (mkF m 36 #[.val (.long q0), .second, .val (.long q1), .second, .val (.long q2), .second, .val (.long q3), .second, .val (.int p4), .val (.ref b101), .unset, .unset, .unset] [(.long q3), (.int (24 : Int32)), (.ref b101)])) _
    refine st107 _ ?_
    show Steps p.tables e below (T107.setTop (mkF m 39 #[.val (.long q0), .second, .val (.long q1), .second, .val (.long q2), .second, .val (.long q3), .second, .val (.int p4), .val (.ref b101), .unset, .unset, .unset] [])) _
    refine XS.aload X107.here hx rfl (hb hby at_39) rfl rfl ?_
    show Steps p.tables e below (T107.setTop (mkF m 41 #[.val (.long q0), .second, .val (.long q1), .second, .val (.long q2), .second, .val (.long q3), .second, .val (.int p4), .val (.ref b101), .unset, .unset, .unset] [(.ref b101)])) _
    refine st110 _ ?_
    show Steps p.tables e below (T110.setTop (mkF m 44 #[.val (.long q0), .second, .val (.long q1), .second, .val (.long q2), .second, .val (.long q3), .second, .val (.int p4), .val (.ref b101), .unset, .unset, .unset] [(.ref b110)])) _
    refine XS.astore X110.here hx rfl (hb hby at_44) rfl rfl (l' := #[.val (.long q0), .second, .val (.long q1), .second, .val (.long q2), .second, .val (.long q3), .second, .val (.int p4), .val (.ref b101), .val (.ref b110), .unset, .unset]) rfl ?_
    show Steps p.tables e below (T110.setTop (mkF m 46 #[.val (.long q0), .second, .val (.long q1), .second, .val (.long q2), .second, .val (.long q3), .second, .val (.int p4), .val (.ref b101), .val (.ref b110), .unset, .unset] [])) _
    refine XS.aload X110.here hx rfl (hb hby at_46) rfl rfl ?_
    show Steps p.tables e below (T110.setTop (mkF m 48 #[.val (.long q0), .second, .val (.long q1), .second, .val (.long q2), .second, .val (.long q3), .second, .val (.int p4), .val (.ref b101), .val (.ref b110), .unset, .unset] [(.ref b110)])) _
    refine XS.ifnullNo X110.here hx rfl (hb hby at_48) rfl ?_
    show Steps p.tables e below (T110.setTop (mkF m 51 #[.val (.long q0), .second, .val (.long q1), .second, .val (.long q2), .second, .val (.long q3), .second, .val (.int p4), .val (.ref b101), .val (.ref b110), .unset, .unset] [])) _
    refine XS.aload X110.here hx rfl (hb hby at_51) rfl rfl ?_
    show Steps p.tables e below (T110.setTop (mkF m 53 #[.val (.long q0), .second, .val (.long q1), .second, .val (.long q2), .second, .val (.long q3), .second, .val (.int p4), .val (.ref b101), .val (.ref b110), .unset, .unset] [(.ref b110)])) _
    refine XS.aload X110.here hx rfl (hb hby at_53) rfl rfl ?_
    show Steps p.tables e below (T110.setTop (mkF m 55 #[.val (.long q0), .second, .val (.long q1), .second, .val (.long q2), .second, .val (.long q3), .second, .val (.int p4), .val (.ref b101), .val (.ref b110), .unset, .unset] [(.ref b101), (.ref b110)])) _
    refine Jvm.RoadKit.acmp (g := (mkF m 55 #[.val (.long q0), .second, .val (.long q1), .second, .val (.long q2), .second, .val (.long q3), .second, .val (.int p4), .val (.ref b101), .val (.ref b110), .unset, .unset] [(.ref b101), (.ref b110)])) X110 hx rfl rfl rfl (pc0 := 55) (pc' := 58) (same := false) rfl (hb hby at_55) rfl (decide_eq_false fun q => (Ne.symm ne_b101_b110) (Value.ref.inj q)) (by decide) (by decide) ?_
    show Steps p.tables e below (T110.setTop (mkF m 58 #[.val (.long q0), .second, .val (.long q1), .second, .val (.long q2), .second, .val (.long q3), .second, .val (.int p4), .val (.ref b101), .val (.ref b110), .unset, .unset] [])) _
    refine XS.aload X110.here hx rfl (hb hby at_58) rfl rfl ?_
    show Steps p.tables e below (T110.setTop (mkF m 60 #[.val (.long q0), .second, .val (.long q1), .second, .val (.long q2), .second, .val (.long q3), .second, .val (.int p4), .val (.ref b101), .val (.ref b110), .unset, .unset] [(.ref b110)])) _
    refine own_len X110 hx hZ rfl V110 (z := (32 : Int32)) rfl (g := (mkF m 60 #[.val (.long q0), .second, .val (.long q1), .second, .val (.long q2), .second, .val (.long q3), .second, .val (.int p4), .val (.ref b101), .val (.ref b110), .unset, .unset] [(.ref b110)])) rfl rfl (hb hby at_60) _ ?_
    show Steps p.tables e below (T110.setTop (mkF m 61 #[.val (.long q0), .second, .val (.long q1), .second, .val (.long q2), .second, .val (.long q3), .second, .val (.int p4), .val (.ref b101), .val (.ref b110), .unset, .unset] [(.int (32 : Int32))])) _
    refine XS.bipush X110.here hx rfl (hb hby at_61) ?_
    show Steps p.tables e below (T110.setTop (mkF m 63 #[.val (.long q0), .second, .val (.long q1), .second, .val (.long q2), .second, .val (.long q3), .second, .val (.int p4), .val (.ref b101), .val (.ref b110), .unset, .unset] [(.int (32 : Int32)), (.int (32 : Int32))])) _
    refine XS.icmpYes X110.here hx rfl (pc0 := 63) (pc' := 68) rfl (hb hby at_63) rfl (teq rfl).1 (by decide) (by decide) ?_
    show Steps p.tables e below (T110.setTop (mkF m 68 #[.val (.long q0), .second, .val (.long q1), .second, .val (.long q2), .second, .val (.long q3), .second, .val (.int p4), .val (.ref b101), .val (.ref b110), .unset, .unset] [])) _
    refine XS.aload X110.here hx rfl (hb hby at_68) rfl rfl ?_
    show Steps p.tables e below (T110.setTop (mkF m 70 #[.val (.long q0), .second, .val (.long q1), .second, .val (.long q2), .second, .val (.long q3), .second, .val (.int p4), .val (.ref b101), .val (.ref b110), .unset, .unset] [(.ref b101)])) _
    refine XS.iconst X110.here hx rfl (hb hby at_70) ?_
    show Steps p.tables e below (T110.setTop (mkF m 71 #[.val (.long q0), .second, .val (.long q1), .second, .val (.long q2), .second, .val (.long q3), .second, .val (.int p4), .val (.ref b101), .val (.ref b110), .unset, .unset] [(.int (0 : Int32)), (.ref b101)])) _
    refine XS.lloadN X110.here hx rfl (hb hby at_71) rfl ?_
    show Steps p.tables e below (T110.setTop (mkF m 72 #[.val (.long q0), .second, .val (.long q1), .second, .val (.long q2), .second, .val (.long q3), .second, .val (.int p4), .val (.ref b101), .val (.ref b110), .unset, .unset] [(.long q0), (.int (0 : Int32)), (.ref b101)])) _
    refine st112 _ ?_
    show Steps p.tables e below (T112.setTop (mkF m 75 #[.val (.long q0), .second, .val (.long q1), .second, .val (.long q2), .second, .val (.long q3), .second, .val (.int p4), .val (.ref b101), .val (.ref b110), .unset, .unset] [(.int (1 : Int32))])) _
    refine XS.ifNo X112.here hx rfl (hb hby at_75) rfl ((if0 _ _).trans (feq (by decide : ¬ (1 : Int32) = (0 : Int32))).1) ?_
    show Steps p.tables e below (T112.setTop (mkF m 78 #[.val (.long q0), .second, .val (.long q1), .second, .val (.long q2), .second, .val (.long q3), .second, .val (.int p4), .val (.ref b101), .val (.ref b110), .unset, .unset] [])) _
    refine XS.aload X112.here hx rfl (hb hby at_78) rfl rfl ?_
    show Steps p.tables e below (T112.setTop (mkF m 80 #[.val (.long q0), .second, .val (.long q1), .second, .val (.long q2), .second, .val (.long q3), .second, .val (.int p4), .val (.ref b101), .val (.ref b110), .unset, .unset] [(.ref b101)])) _
    refine XS.bipush X112.here hx rfl (hb hby at_80) ?_
    show Steps p.tables e below (T112.setTop (mkF m 82 #[.val (.long q0), .second, .val (.long q1), .second, .val (.long q2), .second, .val (.long q3), .second, .val (.int p4), .val (.ref b101), .val (.ref b110), .unset, .unset] [(.int (8 : Int32)), (.ref b101)])) _
    refine XS.lloadN X112.here hx rfl (hb hby at_82) rfl ?_
    show Steps p.tables e below (T112.setTop (mkF m 83 #[.val (.long q0), .second, .val (.long q1), .second, .val (.long q2), .second, .val (.long q3), .second, .val (.int p4), .val (.ref b101), .val (.ref b110), .unset, .unset] [(.long q1), (.int (8 : Int32)), (.ref b101)])) _
    refine st113 _ ?_
    show Steps p.tables e below (T113.setTop (mkF m 86 #[.val (.long q0), .second, .val (.long q1), .second, .val (.long q2), .second, .val (.long q3), .second, .val (.int p4), .val (.ref b101), .val (.ref b110), .unset, .unset] [(.int (1 : Int32))])) _
    refine XS.ifNo X113.here hx rfl (hb hby at_86) rfl ((if0 _ _).trans (feq (by decide : ¬ (1 : Int32) = (0 : Int32))).1) ?_
    show Steps p.tables e below (T113.setTop (mkF m 89 #[.val (.long q0), .second, .val (.long q1), .second, .val (.long q2), .second, .val (.long q3), .second, .val (.int p4), .val (.ref b101), .val (.ref b110), .unset, .unset] [])) _
    refine XS.aload X113.here hx rfl (hb hby at_89) rfl rfl ?_
    show Steps p.tables e below (T113.setTop (mkF m 91 #[.val (.long q0), .second, .val (.long q1), .second, .val (.long q2), .second, .val (.long q3), .second, .val (.int p4), .val (.ref b101), .val (.ref b110), .unset, .unset] [(.ref b101)])) _
    refine XS.bipush X113.here hx rfl (hb hby at_91) ?_
    show Steps p.tables e below (T113.setTop (mkF m 93 #[.val (.long q0), .second, .val (.long q1), .second, .val (.long q2), .second, .val (.long q3), .second, .val (.int p4), .val (.ref b101), .val (.ref b110), .unset, .unset] [(.int (16 : Int32)), (.ref b101)])) _
    refine XS.lload X113.here hx rfl (hb hby at_93) rfl ?_
    show Steps p.tables e below (T113.setTop (mkF m 95 #[.val (.long q0), .second, .val (.long q1), .second, .val (.long q2), .second, .val (.long q3), .second, .val (.int p4), .val (.ref b101), .val (.ref b110), .unset, .unset] [(.long q2), (.int (16 : Int32)), (.ref b101)])) _
    refine st114 _ ?_
    show Steps p.tables e below (T114.setTop (mkF m 98 #[.val (.long q0), .second, .val (.long q1), .second, .val (.long q2), .second, .val (.long q3), .second, .val (.int p4), .val (.ref b101), .val (.ref b110), .unset, .unset] [(.int (1 : Int32))])) _
    refine XS.ifNo X114.here hx rfl (hb hby at_98) rfl ((if0 _ _).trans (feq (by decide : ¬ (1 : Int32) = (0 : Int32))).1) ?_
    show Steps p.tables e below (T114.setTop (mkF m 101 #[.val (.long q0), .second, .val (.long q1), .second, .val (.long q2), .second, .val (.long q3), .second, .val (.int p4), .val (.ref b101), .val (.ref b110), .unset, .unset] [])) _
    refine XS.aload X114.here hx rfl (hb hby at_101) rfl rfl ?_
    show Steps p.tables e below (T114.setTop (mkF m 103 #[.val (.long q0), .second, .val (.long q1), .second, .val (.long q2), .second, .val (.long q3), .second, .val (.int p4), .val (.ref b101), .val (.ref b110), .unset, .unset] [(.ref b101)])) _
    refine XS.bipush X114.here hx rfl (hb hby at_103) ?_
    show Steps p.tables e below (T114.setTop (mkF m 105 #[.val (.long q0), .second, .val (.long q1), .second, .val (.long q2), .second, .val (.long q3), .second, .val (.int p4), .val (.ref b101), .val (.ref b110), .unset, .unset] [(.int (24 : Int32)), (.ref b101)])) _
    refine XS.lload X114.here hx rfl (hb hby at_105) rfl ?_
    show Steps p.tables e below (T114.setTop (mkF m 107 #[.val (.long q0), .second, .val (.long q1), .second, .val (.long q2), .second, .val (.long q3), .second, .val (.int p4), .val (.ref b101), .val (.ref b110), .unset, .unset] [(.long q3), (.int (24 : Int32)), (.ref b101)])) _
    refine st115 _ ?_
    show Steps p.tables e below (T115.setTop (mkF m 110 #[.val (.long q0), .second, .val (.long q1), .second, .val (.long q2), .second, .val (.long q3), .second, .val (.int p4), .val (.ref b101), .val (.ref b110), .unset, .unset] [(.int (1 : Int32))])) _
    refine XS.ifNo X115.here hx rfl (hb hby at_110) rfl ((if0 _ _).trans (feq (by decide : ¬ (1 : Int32) = (0 : Int32))).1) ?_
    show Steps p.tables e below (T115.setTop (mkF m 113 #[.val (.long q0), .second, .val (.long q1), .second, .val (.long q2), .second, .val (.long q3), .second, .val (.int p4), .val (.ref b101), .val (.ref b110), .unset, .unset] [])) _
    refine XS.iconst X115.here hx rfl (hb hby at_113) ?_
    show Steps p.tables e below (T115.setTop (mkF m 114 #[.val (.long q0), .second, .val (.long q1), .second, .val (.long q2), .second, .val (.long q3), .second, .val (.int p4), .val (.ref b101), .val (.ref b110), .unset, .unset] [(.int (1 : Int32))])) _
    refine XS.goto X115.here hx rfl (pc0 := 114) (pc' := 118) rfl (hb hby at_114) (by decide) (by decide) ?_
    show Steps p.tables e below (T115.setTop (mkF m 118 #[.val (.long q0), .second, .val (.long q1), .second, .val (.long q2), .second, .val (.long q3), .second, .val (.int p4), .val (.ref b101), .val (.ref b110), .unset, .unset] [(.int (1 : Int32))])) _
    refine XS.istore X115.here hx rfl (hb hby at_118) rfl (l' := #[.val (.long q0), .second, .val (.long q1), .second, .val (.long q2), .second, .val (.long q3), .second, .val (.int p4), .val (.ref b101), .val (.ref b110), .val (.int (1 : Int32)), .unset]) rfl ?_
    show Steps p.tables e below (T115.setTop (mkF m 120 #[.val (.long q0), .second, .val (.long q1), .second, .val (.long q2), .second, .val (.long q3), .second, .val (.int p4), .val (.ref b101), .val (.ref b110), .val (.int (1 : Int32)), .unset] [])) _
    refine XS.iload X115.here hx rfl (hb hby at_120) rfl ?_
    show Steps p.tables e below (T115.setTop (mkF m 122 #[.val (.long q0), .second, .val (.long q1), .second, .val (.long q2), .second, .val (.long q3), .second, .val (.int p4), .val (.ref b101), .val (.ref b110), .val (.int (1 : Int32)), .unset] [(.int p4)])) _
    refine XS.bipush X115.here hx rfl (hb hby at_122) ?_
    show Steps p.tables e below (T115.setTop (mkF m 124 #[.val (.long q0), .second, .val (.long q1), .second, .val (.long q2), .second, .val (.long q3), .second, .val (.int p4), .val (.ref b101), .val (.ref b110), .val (.int (1 : Int32)), .unset] [(.int (31 : Int32)), (.int p4)])) _
    refine XS.iand X115.here hx rfl (hb hby at_124) rfl ?_
    show Steps p.tables e below (T115.setTop (mkF m 125 #[.val (.long q0), .second, .val (.long q1), .second, .val (.long q2), .second, .val (.long q3), .second, .val (.int p4), .val (.ref b101), .val (.ref b110), .val (.int (1 : Int32)), .unset] [(.int (p4 &&& (31 : Int32)))])) _
    rw [← hv_j]
    show Steps p.tables e below (T115.setTop (mkF m 125 #[.val (.long q0), .second, .val (.long q1), .second, .val (.long q2), .second, .val (.long q3), .second, .val (.int p4), .val (.ref b101), .val (.ref b110), .val (.int (1 : Int32)), .unset] [(.int j)])) _
    refine XS.istore X115.here hx rfl (hb hby at_125) rfl (l' := #[.val (.long q0), .second, .val (.long q1), .second, .val (.long q2), .second, .val (.long q3), .second, .val (.int p4), .val (.ref b101), .val (.ref b110), .val (.int (1 : Int32)), .val (.int j)]) rfl ?_
    show Steps p.tables e below (T115.setTop (mkF m 127 #[.val (.long q0), .second, .val (.long q1), .second, .val (.long q2), .second, .val (.long q3), .second, .val (.int p4), .val (.ref b101), .val (.ref b110), .val (.int (1 : Int32)), .val (.int j)] [])) _
    refine XS.aload X115.here hx rfl (hb hby at_127) rfl rfl ?_
    show Steps p.tables e below (T115.setTop (mkF m 129 #[.val (.long q0), .second, .val (.long q1), .second, .val (.long q2), .second, .val (.long q3), .second, .val (.int p4), .val (.ref b101), .val (.ref b110), .val (.int (1 : Int32)), .val (.int j)] [(.ref b101)])) _
    refine XS.iload X115.here hx rfl (hb hby at_129) rfl ?_
    show Steps p.tables e below (T115.setTop (mkF m 131 #[.val (.long q0), .second, .val (.long q1), .second, .val (.long q2), .second, .val (.long q3), .second, .val (.int p4), .val (.ref b101), .val (.ref b110), .val (.int (1 : Int32)), .val (.int j)] [(.int j), (.ref b101)])) _
    refine XS.aload X115.here hx rfl (hb hby at_131) rfl rfl ?_
    show Steps p.tables e below (T115.setTop (mkF m 133 #[.val (.long q0), .second, .val (.long q1), .second, .val (.long q2), .second, .val (.long q3), .second, .val (.int p4), .val (.ref b101), .val (.ref b110), .val (.int (1 : Int32)), .val (.int j)] [(.ref b101), (.int j), (.ref b101)])) _
    refine XS.iload X115.here hx rfl (hb hby at_133) rfl ?_
    show Steps p.tables e below (T115.setTop (mkF m 135 #[.val (.long q0), .second, .val (.long q1), .second, .val (.long q2), .second, .val (.long q3), .second, .val (.int p4), .val (.ref b101), .val (.ref b110), .val (.int (1 : Int32)), .val (.int j)] [(.int j), (.ref b101), (.int j), (.ref b101)])) _
    refine own_ldB X115 hx hZ e115 f111 (j := j) k hj hk hk32 (v := (.int xk)) hxk (g := (mkF m 135 #[.val (.long q0), .second, .val (.long q1), .second, .val (.long q2), .second, .val (.long q3), .second, .val (.int p4), .val (.ref b101), .val (.ref b110), .val (.int (1 : Int32)), .val (.int j)] [(.int j), (.ref b101), (.int j), (.ref b101)])) rfl rfl (hb hby at_135) _ ?_
    show Steps p.tables e below (T115.setTop (mkF m 136 #[.val (.long q0), .second, .val (.long q1), .second, .val (.long q2), .second, .val (.long q3), .second, .val (.int p4), .val (.ref b101), .val (.ref b110), .val (.int (1 : Int32)), .val (.int j)] [(.int xk), (.int j), (.ref b101)])) _
    refine XS.sipush X115.here hx rfl (hb hby at_136) ?_
    show Steps p.tables e below (T115.setTop (mkF m 139 #[.val (.long q0), .second, .val (.long q1), .second, .val (.long q2), .second, .val (.long q3), .second, .val (.int p4), .val (.ref b101), .val (.ref b110), .val (.int (1 : Int32)), .val (.int j)] [(.int (255 : Int32)), (.int xk), (.int j), (.ref b101)])) _
    refine XS.ixor X115.here hx rfl (hb hby at_139) rfl ?_
    show Steps p.tables e below (T115.setTop (mkF m 140 #[.val (.long q0), .second, .val (.long q1), .second, .val (.long q2), .second, .val (.long q3), .second, .val (.int p4), .val (.ref b101), .val (.ref b110), .val (.int (1 : Int32)), .val (.int j)] [(.int (xk ^^^ (255 : Int32))), (.int j), (.ref b101)])) _
    refine XS.i2b X115.here hx rfl (hb hby at_140) rfl ?_
    show Steps p.tables e below (T115.setTop (mkF m 141 #[.val (.long q0), .second, .val (.long q1), .second, .val (.long q2), .second, .val (.long q3), .second, .val (.int p4), .val (.ref b101), .val (.ref b110), .val (.int (1 : Int32)), .val (.int j)] [(.int ((xk ^^^ (255 : Int32)).toInt8.toInt32)), (.int j), (.ref b101)])) _
    refine st116 _ ?_
    show Steps p.tables e below (T116.setTop (mkF m 142 #[.val (.long q0), .second, .val (.long q1), .second, .val (.long q2), .second, .val (.long q3), .second, .val (.int p4), .val (.ref b101), .val (.ref b110), .val (.int (1 : Int32)), .val (.int j)] [])) _
    refine XS.iload X116.here hx rfl (hb hby at_142) rfl ?_
    show Steps p.tables e below (T116.setTop (mkF m 144 #[.val (.long q0), .second, .val (.long q1), .second, .val (.long q2), .second, .val (.long q3), .second, .val (.int p4), .val (.ref b101), .val (.ref b110), .val (.int (1 : Int32)), .val (.int j)] [(.int (1 : Int32))])) _
    refine XS.ifNo X116.here hx rfl (hb hby at_144) rfl ((if0 _ _).trans (feq (by decide : ¬ (1 : Int32) = (0 : Int32))).1) ?_
    show Steps p.tables e below (T116.setTop (mkF m 147 #[.val (.long q0), .second, .val (.long q1), .second, .val (.long q2), .second, .val (.long q3), .second, .val (.int p4), .val (.ref b101), .val (.ref b110), .val (.int (1 : Int32)), .val (.int j)] [])) _
    refine XS.aload X116.here hx rfl (hb hby at_147) rfl rfl ?_
    show Steps p.tables e below (T116.setTop (mkF m 149 #[.val (.long q0), .second, .val (.long q1), .second, .val (.long q2), .second, .val (.long q3), .second, .val (.int p4), .val (.ref b101), .val (.ref b110), .val (.int (1 : Int32)), .val (.int j)] [(.ref b110)])) _
    refine XS.iconst X116.here hx rfl (hb hby at_149) ?_
    show Steps p.tables e below (T116.setTop (mkF m 150 #[.val (.long q0), .second, .val (.long q1), .second, .val (.long q2), .second, .val (.long q3), .second, .val (.int p4), .val (.ref b101), .val (.ref b110), .val (.int (1 : Int32)), .val (.int j)] [(.int (0 : Int32)), (.ref b110)])) _
    refine XS.lloadN X116.here hx rfl (hb hby at_150) rfl ?_
    show Steps p.tables e below (T116.setTop (mkF m 151 #[.val (.long q0), .second, .val (.long q1), .second, .val (.long q2), .second, .val (.long q3), .second, .val (.int p4), .val (.ref b101), .val (.ref b110), .val (.int (1 : Int32)), .val (.int j)] [(.long q0), (.int (0 : Int32)), (.ref b110)])) _
    refine st118 _ ?_
    show Steps p.tables e below (T118.setTop (mkF m 154 #[.val (.long q0), .second, .val (.long q1), .second, .val (.long q2), .second, .val (.long q3), .second, .val (.int p4), .val (.ref b101), .val (.ref b110), .val (.int (1 : Int32)), .val (.int j)] [(.int (1 : Int32))])) _
    refine XS.ifNo X118.here hx rfl (hb hby at_154) rfl ((if0 _ _).trans (feq (by decide : ¬ (1 : Int32) = (0 : Int32))).1) ?_
    show Steps p.tables e below (T118.setTop (mkF m 157 #[.val (.long q0), .second, .val (.long q1), .second, .val (.long q2), .second, .val (.long q3), .second, .val (.int p4), .val (.ref b101), .val (.ref b110), .val (.int (1 : Int32)), .val (.int j)] [])) _
    refine XS.aload X118.here hx rfl (hb hby at_157) rfl rfl ?_
    show Steps p.tables e below (T118.setTop (mkF m 159 #[.val (.long q0), .second, .val (.long q1), .second, .val (.long q2), .second, .val (.long q3), .second, .val (.int p4), .val (.ref b101), .val (.ref b110), .val (.int (1 : Int32)), .val (.int j)] [(.ref b110)])) _
    refine XS.bipush X118.here hx rfl (hb hby at_159) ?_
    show Steps p.tables e below (T118.setTop (mkF m 161 #[.val (.long q0), .second, .val (.long q1), .second, .val (.long q2), .second, .val (.long q3), .second, .val (.int p4), .val (.ref b101), .val (.ref b110), .val (.int (1 : Int32)), .val (.int j)] [(.int (8 : Int32)), (.ref b110)])) _
    refine XS.lloadN X118.here hx rfl (hb hby at_161) rfl ?_
    show Steps p.tables e below (T118.setTop (mkF m 162 #[.val (.long q0), .second, .val (.long q1), .second, .val (.long q2), .second, .val (.long q3), .second, .val (.int p4), .val (.ref b101), .val (.ref b110), .val (.int (1 : Int32)), .val (.int j)] [(.long q1), (.int (8 : Int32)), (.ref b110)])) _
    refine st119 _ ?_
    show Steps p.tables e below (T119.setTop (mkF m 165 #[.val (.long q0), .second, .val (.long q1), .second, .val (.long q2), .second, .val (.long q3), .second, .val (.int p4), .val (.ref b101), .val (.ref b110), .val (.int (1 : Int32)), .val (.int j)] [(.int (1 : Int32))])) _
    refine XS.ifNo X119.here hx rfl (hb hby at_165) rfl ((if0 _ _).trans (feq (by decide : ¬ (1 : Int32) = (0 : Int32))).1) ?_
    show Steps p.tables e below (T119.setTop (mkF m 168 #[.val (.long q0), .second, .val (.long q1), .second, .val (.long q2), .second, .val (.long q3), .second, .val (.int p4), .val (.ref b101), .val (.ref b110), .val (.int (1 : Int32)), .val (.int j)] [])) _
    refine XS.aload X119.here hx rfl (hb hby at_168) rfl rfl ?_
    show Steps p.tables e below (T119.setTop (mkF m 170 #[.val (.long q0), .second, .val (.long q1), .second, .val (.long q2), .second, .val (.long q3), .second, .val (.int p4), .val (.ref b101), .val (.ref b110), .val (.int (1 : Int32)), .val (.int j)] [(.ref b110)])) _
    refine XS.bipush X119.here hx rfl (hb hby at_170) ?_
    show Steps p.tables e below (T119.setTop (mkF m 172 #[.val (.long q0), .second, .val (.long q1), .second, .val (.long q2), .second, .val (.long q3), .second, .val (.int p4), .val (.ref b101), .val (.ref b110), .val (.int (1 : Int32)), .val (.int j)] [(.int (16 : Int32)), (.ref b110)])) _
    refine XS.lload X119.here hx rfl (hb hby at_172) rfl ?_
    show Steps p.tables e below (T119.setTop (mkF m 174 #[.val (.long q0), .second, .val (.long q1), .second, .val (.long q2), .second, .val (.long q3), .second, .val (.int p4), .val (.ref b101), .val (.ref b110), .val (.int (1 : Int32)), .val (.int j)] [(.long q2), (.int (16 : Int32)), (.ref b110)])) _
    refine st120 _ ?_
    show Steps p.tables e below (T120.setTop (mkF m 177 #[.val (.long q0), .second, .val (.long q1), .second, .val (.long q2), .second, .val (.long q3), .second, .val (.int p4), .val (.ref b101), .val (.ref b110), .val (.int (1 : Int32)), .val (.int j)] [(.int (1 : Int32))])) _
    refine XS.ifNo X120.here hx rfl (hb hby at_177) rfl ((if0 _ _).trans (feq (by decide : ¬ (1 : Int32) = (0 : Int32))).1) ?_
    show Steps p.tables e below (T120.setTop (mkF m 180 #[.val (.long q0), .second, .val (.long q1), .second, .val (.long q2), .second, .val (.long q3), .second, .val (.int p4), .val (.ref b101), .val (.ref b110), .val (.int (1 : Int32)), .val (.int j)] [])) _
    refine XS.aload X120.here hx rfl (hb hby at_180) rfl rfl ?_
    show Steps p.tables e below (T120.setTop (mkF m 182 #[.val (.long q0), .second, .val (.long q1), .second, .val (.long q2), .second, .val (.long q3), .second, .val (.int p4), .val (.ref b101), .val (.ref b110), .val (.int (1 : Int32)), .val (.int j)] [(.ref b110)])) _
    refine XS.bipush X120.here hx rfl (hb hby at_182) ?_
    show Steps p.tables e below (T120.setTop (mkF m 184 #[.val (.long q0), .second, .val (.long q1), .second, .val (.long q2), .second, .val (.long q3), .second, .val (.int p4), .val (.ref b101), .val (.ref b110), .val (.int (1 : Int32)), .val (.int j)] [(.int (24 : Int32)), (.ref b110)])) _
    refine XS.lload X120.here hx rfl (hb hby at_184) rfl ?_
    show Steps p.tables e below (T120.setTop (mkF m 186 #[.val (.long q0), .second, .val (.long q1), .second, .val (.long q2), .second, .val (.long q3), .second, .val (.int p4), .val (.ref b101), .val (.ref b110), .val (.int (1 : Int32)), .val (.int j)] [(.long q3), (.int (24 : Int32)), (.ref b110)])) _
    refine st121 _ ?_
    show Steps p.tables e below (T121.setTop (mkF m 189 #[.val (.long q0), .second, .val (.long q1), .second, .val (.long q2), .second, .val (.long q3), .second, .val (.int p4), .val (.ref b101), .val (.ref b110), .val (.int (1 : Int32)), .val (.int j)] [(.int (1 : Int32))])) _
    refine XS.ifNo X121.here hx rfl (hb hby at_189) rfl ((if0 _ _).trans (feq (by decide : ¬ (1 : Int32) = (0 : Int32))).1) ?_
    show Steps p.tables e below (T121.setTop (mkF m 192 #[.val (.long q0), .second, .val (.long q1), .second, .val (.long q2), .second, .val (.long q3), .second, .val (.int p4), .val (.ref b101), .val (.ref b110), .val (.int (1 : Int32)), .val (.int j)] [])) _
    refine XS.iconst X121.here hx rfl (hb hby at_192) ?_
    show Steps p.tables e below (T121.setTop (mkF m 193 #[.val (.long q0), .second, .val (.long q1), .second, .val (.long q2), .second, .val (.long q3), .second, .val (.int p4), .val (.ref b101), .val (.ref b110), .val (.int (1 : Int32)), .val (.int j)] [(.int (1 : Int32))])) _
    refine XS.goto X121.here hx rfl (pc0 := 193) (pc' := 197) rfl (hb hby at_193) (by decide) (by decide) ?_
    show Steps p.tables e below (T121.setTop (mkF m 197 #[.val (.long q0), .second, .val (.long q1), .second, .val (.long q2), .second, .val (.long q3), .second, .val (.int p4), .val (.ref b101), .val (.ref b110), .val (.int (1 : Int32)), .val (.int j)] [(.int (1 : Int32))])) _
    exact retN X121 hx (t := .boolean) Bd.returns (by simp) (hb hby at_197) hr
  · show QLaw n0 _ T121.heap _
    rw [e121]
    exact ⟨rfl, N121⟩
set_option maxRecDepth 65536 in
set_option maxHeartbeats 40000000 in
theorem comes_1 {Post : Tables → Env → Array Value → State → Outcome → State → Prop} (hpost : ∀ tb e args s v u, (limb_1_1.after args s (.returned v) u = true ∧ limb_1_2.after args s (.returned v) u = true ∧ True) → FrameEnd s (.returned v) u (Jvm.fieldLocs frame_1_writes args s ++ Jvm.arrayLocs frame_1_arrays args s ++ Jvm.staticLocs frame_1_statics s) 16 192 → Post tb e args s (.returned v) u) :
    ArmFor flags0 classFile x code maxLocals ret World_1 tables_1 room_1 Calls_1 rest_1 Pre_1 Post := by
  intro l hfl _ _ p e ha hc hk s m args below hf hA hF happ hP
  obtain ⟨hcalls, hrest, hpre⟩ := hP
  obtain ⟨-, -, -, hnamed, -, -, -, hat⟩ := (Spec.applies_iff hf).mp happ
  obtain ⟨hg, hn⟩ := and_e (Cond.before_iff.mp (show (Jvm.Cond.and given_1 narrow_1).before args s = true from hpre))
  obtain ⟨hcnt, hg0⟩ := and_e hg
  obtain ⟨ha0, hg1⟩ := and_e hg0
  obtain ⟨ha1, hg2⟩ := and_e hg1
  obtain ⟨ha2, hg3⟩ := and_e hg2
  obtain ⟨ha3, hg4⟩ := and_e hg3
  have ha4 := hg4
  obtain ⟨w0, w1, w2, w3, w4, rfl⟩ : ∃ w0 w1 w2 w3 w4 : Value, args = #[w0, w1, w2, w3, w4] := by
    have hs : args.size = 5 := by simpa [Cond.value, given_1] using hcnt
    obtain ⟨L⟩ := args
    match L, hs with
    | [w0, w1, w2, w3, w4], _ => exact ⟨w0, w1, w2, w3, w4, rfl⟩
  have hw := fun d (hd : d ∈ tables_1) => atoms_spec (ws := Jvm.Cond.code x code maxLocals ret :: tables_1) hat d (List.mem_cons_of_mem _ hd)
  have hfit : Fit s := fun {y c} hc i hi => by
    obtain ⟨ha, rfl⟩ := Array.getElem?_eq_some_iff.mp hc
    have q := List.all_eq_true.mp ((Array.all_eq_true_iff_forall_mem.mp hF) _ (Array.getElem_mem ha)) i (List.mem_range.mpr hi)
    simpa [Array.getElem?_eq_getElem hi] using q
  obtain ⟨i0, ei0⟩ := isL_v ha0
  obtain rfl : w0 = (.long i0) := Option.some.inj ei0
  obtain ⟨i1, ei1⟩ := isL_v ha1
  obtain rfl : w1 = (.long i1) := Option.some.inj ei1
  obtain ⟨i2, ei2⟩ := isL_v ha2
  obtain rfl : w2 = (.long i2) := Option.some.inj ei2
  obtain ⟨i3, ei3⟩ := isL_v ha3
  obtain rfl : w3 = (.long i3) := Option.some.inj ei3
  obtain ⟨i4, ei4⟩ := is_v ha4
  obtain rfl : w4 = (.int i4) := Option.some.inj ei4
  obtain ⟨n, o, h1, h2, h3, _, L, rfl, ⟨rfl, N⟩, hq⟩ := rm0 l s _ hw tables_1 i0 i1 i2 i3 i4 s.heap s.heap.size (Nat.le_refl _)  p e ha hc hk s m _ below hf ((Spec.applies_iff_loose hf).mp happ).1 ⟨rfl, State.Warmed39.refl s, rfl⟩ trivial
  refine ⟨n, _, h1, h2, h3, hpost _ _ _ _ _ _ ⟨Cond.after_iff.mpr rfl, Cond.after_iff.mpr (eq_i res_at (Term.int_eval (1)) rfl), trivial⟩ ⟨hq.1, hq.2.1, (hq.2.2.sift fun y hy => Or.inr (N y hy)).mono (by decide) (by decide)⟩⟩
theorem main_1_1 : Claimed_1_1 := comes_1 fun _ _ _ _ _ _ h hF => ⟨h.1, hF⟩
theorem main_1_2 : Claimed_1_2 := comes_1 fun _ _ _ _ _ _ h hF => ⟨h.2.1, hF⟩
end Jvm.Pilot.@@N@@
namespace Jvm.Pilot.@@N@@
open Jvm Jvm.ClassFile Sem Op Lib Jvm.Free Jvm.Stand Jvm.Pilot.@@N@@.Jvm.D
/-! MADE BY PROGRAM (witnessworld.py) out of the Statement's table words and the real class files: 9 classes; the members and pool entries that the words name. The judged class is class 1, her method 1. -/
namespace start1
open Jvm.ClassFile
def u (s : String) : CpInfo := .utf8 (stringToUtf16 s)
/-- a pool by its gaps: so many unusable entries, then the entry; so many at the end -/
def gap : Nat → List CpInfo → List CpInfo
  | 0, r => r
  | n + 1, r => .unusable :: gap n r
def poolList (es : List (Nat × CpInfo)) (last : Nat) : List CpInfo := es.foldr (fun e r => gap e.1 (e.2 :: r)) (gap last [])
def pool (es : List (Nat × CpInfo)) (last : Nat) : Array CpInfo := ⟨poolList es last⟩
def fileOf (pool : Array CpInfo) (this : Nat) (attrs : Array Attribute := #[]) (ms : Array MethodInfo := #[]) (fl : Nat := 33) (sup : Nat := 0) (ifs : Array Nat := #[]) (fds : Array FieldInfo := #[]) : ClassFile where
  minorVersion := 0
  majorVersion := 65
  constantPool := pool
  accessFlags := fl
  thisClass := this
  superClass := sup
  interfaces := ifs
  fields := fds
  methods := ms
  attributes := attrs
def plain (name : String) (sup : Option ClassId) : Class where
  name := name
  kind := .ordinary
  loader := none
  accessFlags := 33
  super := sup
  interfaces := #[]
  cf := none
  fields := #[]
  methods := #[]
  instanceTypes := #[]
  staticTypes := #[]
  resolved := #[]
  callSites := []
  init := .initialized
  statics := none
  mirror := none

def pool0 : Array CpInfo := pool [(5, u "<init>"), (0, u "()V"), (1, .class_ 10), (1, u "java/lang/Object"), (85, u "clone"), (0, u "()Ljava/lang/Object;")] 26

def k0m0 : Method := { name := "<init>", desc := "()V", sig := { parameters := [], returnType := none }, accessFlags := 1, code := none }
def k0m1 : Method := { name := "clone", desc := "()Ljava/lang/Object;", sig := { parameters := [], returnType := some (.object "java/lang/Object") }, accessFlags := 260, code := none }
/-- java/lang/Object -/
def k0 : Class := { plain "java/lang/Object" none with
  accessFlags := 33
  interfaces := #[]
  cf := some (fileOf pool0 8 #[] #[{ accessFlags := 1, nameIndex := 5, descriptorIndex := 6, attributes := #[] }, { accessFlags := 260, nameIndex := 96, descriptorIndex := 97, attributes := #[] }] 33 0 #[] #[])
  fields := #[]
  methods := #[k0m0, k0m1]
  instanceTypes := #[]
  staticTypes := #[]
  resolved := Array.replicate 124 none
  statics := none }

def pool1 : Array CpInfo := pool [(2, .class_ 4), (1, u "java/lang/Object"), (0, u "<init>"), (0, u "()V"), (0, .methodref 8 9), (0, .class_ 10), (0, .nameAndType 11 12), (0, u "com/example/custody/custody/merkle/TreeHashCopyPinLaw"), (0, u "put"), (0, u "([BIJ)V"), (0, .methodref 14 15), (0, .class_ 16), (0, .nameAndType 17 18), (0, u "com/example/custody/custody/merkle/TreeHash"), (0, u "copy"), (0, u "([B)[B"), (0, .methodref 8 20), (0, .nameAndType 21 22), (0, u "same"), (0, u "([BIJ)Z"), (2, u "law"), (0, u "(JJJJI)Z")] 5

def k1m0 : Method := { name := "<init>", desc := "()V", sig := { parameters := [], returnType := none }, accessFlags := 1, code := none }
def k1c1 : Code := { maxStack := 4, maxLocals := 13, code := code, exceptionTable := #[], attributes := #[] }
def k1m1 : Method := { name := "law", desc := "(JJJJI)Z", sig := { parameters := [.long, .long, .long, .long, .int], returnType := some .boolean }, accessFlags := 9, code := some k1c1 }
def k1c2 : Code := { maxStack := 5, maxLocals := 4, code := method_3_code, exceptionTable := #[], attributes := #[] }
def k1m2 : Method := { name := "put", desc := "([BIJ)V", sig := { parameters := [(.array .byte), .int, .long], returnType := none }, accessFlags := 10, code := some k1c2 }
def k1c3 : Code := { maxStack := 4, maxLocals := 4, code := method_4_code, exceptionTable := #[], attributes := #[] }
def k1m3 : Method := { name := "same", desc := "([BIJ)Z", sig := { parameters := [(.array .byte), .int, .long], returnType := some .boolean }, accessFlags := 10, code := some k1c3 }
/-- com/example/custody/custody/merkle/TreeHashCopyPinLaw -/
def k1 : Class := { plain "com/example/custody/custody/merkle/TreeHashCopyPinLaw" (some 0) with
  accessFlags := 49
  interfaces := #[]
  cf := some (fileOf pool1 8 #[] #[{ accessFlags := 1, nameIndex := 5, descriptorIndex := 6, attributes := #[] }, { accessFlags := 9, nameIndex := 25, descriptorIndex := 26, attributes := #[] }, { accessFlags := 10, nameIndex := 11, descriptorIndex := 12, attributes := #[] }, { accessFlags := 10, nameIndex := 21, descriptorIndex := 22, attributes := #[] }] 49 2 #[] #[])
  fields := #[]
  methods := #[k1m0, k1m1, k1m2, k1m3]
  instanceTypes := #[]
  staticTypes := #[]
  resolved := Array.replicate 32 none
  statics := none }

def pool2 : Array CpInfo := pool [(2, .class_ 4), (1, u "java/lang/Object"), (0, u "<init>"), (0, u "()V"), (1, .class_ 10), (1, u "com/example/custody/custody/merkle/TreeHash"), (4, u "sha256"), (0, u "Ljava/security/MessageDigest;"), (24, .methodref 42 43), (0, .class_ 44), (0, .nameAndType 45 46), (0, u "[B"), (0, u "clone"), (0, u "()Ljava/lang/Object;"), (21, u "LEAF_PREFIX"), (0, u "B"), (2, u "NODE_PREFIX"), (5, u "([B)[B"), (2, u "copy")] 19

def k2m0 : Method := { name := "<init>", desc := "()V", sig := { parameters := [], returnType := none }, accessFlags := 0, code := none }
def k2c1 : Code := { maxStack := 3, maxLocals := 1, code := prog_24_method_5_code, exceptionTable := #[], attributes := #[] }
def k2m1 : Method := { name := "copy", desc := "([B)[B", sig := { parameters := [(.array .byte)], returnType := some (.array .byte) }, accessFlags := 8, code := some k2c1 }
/-- com/example/custody/custody/merkle/TreeHash -/
def k2 : Class := { plain "com/example/custody/custody/merkle/TreeHash" (some 0) with
  accessFlags := 32
  interfaces := #[]
  cf := some (fileOf pool2 8 #[] #[{ accessFlags := 0, nameIndex := 5, descriptorIndex := 6, attributes := #[] }, { accessFlags := 8, nameIndex := 81, descriptorIndex := 78, attributes := #[] }] 32 2 #[] #[{ accessFlags := 26, nameIndex := 68, descriptorIndex := 69, attributes := #[] }, { accessFlags := 26, nameIndex := 72, descriptorIndex := 69, attributes := #[] }, { accessFlags := 18, nameIndex := 15, descriptorIndex := 16, attributes := #[] }])
  fields := #[{ name := "LEAF_PREFIX", type := .byte, accessFlags := 26, slot := 0, constantValue := 0 }, { name := "NODE_PREFIX", type := .byte, accessFlags := 26, slot := 1, constantValue := 0 }, { name := "sha256", type := (.object "java/security/MessageDigest"), accessFlags := 18, slot := 0, constantValue := 0 }]
  methods := #[k2m0, k2m1]
  instanceTypes := #[(.object "java/security/MessageDigest")]
  staticTypes := #[.byte, .byte]
  resolved := Array.replicate 101 none
  statics := none }

def pool3 : Array CpInfo := pool [(1, .class_ 2), (0, u "java/lang/Cloneable"), (0, .class_ 4), (0, u "java/lang/Object")] 2

/-- java/lang/Cloneable -/
def k3 : Class := { plain "java/lang/Cloneable" (some 0) with
  accessFlags := 1537
  interfaces := #[]
  cf := some (fileOf pool3 1 #[] #[] 1537 3 #[] #[])
  fields := #[]
  methods := #[]
  instanceTypes := #[]
  staticTypes := #[]
  resolved := Array.replicate 7 none
  statics := none }

def pool4 : Array CpInfo := pool [(1, u "java/io/Serializable"), (0, .class_ 1), (0, u "java/lang/Object"), (0, .class_ 3)] 3

/-- java/io/Serializable -/
def k4 : Class := { plain "java/io/Serializable" (some 0) with
  accessFlags := 1537
  interfaces := #[]
  cf := some (fileOf pool4 2 #[] #[] 1537 4 #[] #[])
  fields := #[]
  methods := #[]
  instanceTypes := #[]
  staticTypes := #[]
  resolved := Array.replicate 8 none
  statics := none }

/-- the primitive byte -/
def k5 : Class := { plain "byte" none with kind := .primitive 'B', accessFlags := 0x411 }
/-- [B -/
def k6 : Class := { plain "[B" (some 0) with kind := .array 5 .byte, interfaces := #[3, 4], accessFlags := 1041 }

/-- the primitive int -/
def k7 : Class := { plain "int" none with kind := .primitive 'I', accessFlags := 0x411 }
/-- [I -/
def k8 : Class := { plain "[I" (some 0) with kind := .array 7 .int, interfaces := #[3, 4], accessFlags := 1041 }

def heap : Heap := #[]
def classes : Array Class := #[k0, k1, k2, k3, k4, k5, k6, k7, k8]
def interned : List (Array UInt16 × Addr) := []
def slotsUsed : Nat := 0
def theMethod : MethodId := ⟨1, 1⟩
def args0 : Array Value := #[.long 5, .long 6, .long 7, .long 8, .int 3]
def aboutOver (below : List Frame) : State where
  vm := { classes := classes, interned := interned.toArray }
  heap := heap
  slotsUsed := slotsUsed
  threads := #[{ frames := .invoking theMethod args0 :: below }]
def below0 : List Frame := [.native { method := ⟨0, 0⟩, args := #[] }]
def about1 : State := aboutOver below0
def p0 : Program := .bare "" "" ""
def e0 : Env := launch0.env 0 0 0
theorem w_frames : about1.frames = Frame.invoking theMethod args0 :: below0 := rfl
set_option maxRecDepth 65536 in
theorem w_args : argsFit about1.vm theMethod args0 = true := by decide +kernel
set_option maxRecDepth 65536 in
theorem w_heap : heapFits about1 = true := by decide +kernel
set_option maxRecDepth 65536 in
theorem w_runnable : about1.curStatus? = some .runnable := by decide +kernel
set_option maxRecDepth 65536 in
theorem w_alone : about1.alone = true := by decide +kernel
set_option maxRecDepth 65536 in
theorem w_named : about1.methodNamed? x = some theMethod := by decide +kernel
set_option maxRecDepth 65536 in
theorem w_hears : about1.hears theMethod below0 = true := by decide +kernel
set_option maxRecDepth 65536 in
theorem w_ripe : about1.ripe theMethod args0 below0 = true := by decide +kernel
theorem w_running : about1.status = .running := rfl
set_option maxRecDepth 65536 in
theorem w_room : about1.hasRoom e0.platform room_1 = true :=
  launch0.hasRoom_least _ room_1 (by decide +kernel) (by decide +kernel) (by decide +kernel) (by decide +kernel) (by decide +kernel) (by decide +kernel)
theorem allAtoms_all (ts : List Jvm.Cond) (a : Array Jvm.Value) (st : Jvm.State) : (allAtoms ts).before a st = ts.all (fun c => c.before a st) := by
  induction ts with
  | nil => rfl
  | cons c t ih =>
    show (Jvm.Cond.and c (allAtoms t)).before a st = _
    rw [Jvm.Cond.before_and, ih, List.all_cons]
def words1 : List Jvm.Cond := Jvm.Cond.code x code maxLocals ret :: tables_1
/-- a 'code' word, met by the world's own term for the bytes: nothing is compared byte by byte -/
theorem code_word {y : MethodName} {bytes : ByteArray} {mx : Nat} {rt : Option FieldType} {a : Array Value} {s : State} {m : MethodId} {meth : Method} {c : Code} (h1 : s.methodNamed? y = some m) (h2 : s.vm.method? m = some meth) (h3 : meth.code = some c) (h4 : c.code = bytes)
    (h5 : (c.maxLocals == mx && c.exceptionTable.isEmpty && decide (c.maxStack ≤ mostOperands) && decide (meth.sig.returnType = rt) && !meth.locks && decide (parseMethodDescriptor y.desc = some meth.sig)) = true) : (Jvm.Cond.code y bytes mx rt).before a s = true := by
  simp only [Bool.and_eq_true, beq_iff_eq, Bool.not_eq_true', decide_eq_true_eq] at h5
  obtain ⟨⟨⟨⟨⟨g1, g2⟩, g3⟩, g4⟩, g5⟩, g6⟩ := h5
  simp [Cond.before, Cond.holds, Cond.value, h1, h2, h3, h4, g1, g2, g3, g4, g5, g6]
def isCode : Jvm.Cond → Bool
  | .code _ _ _ _ => true
  | _ => false
theorem all_split {L : List Jvm.Cond} {P : Jvm.Cond → Bool} (h1 : L.all (fun c => isCode c || P c) = true) (h2 : ∀ c ∈ L.filter isCode, P c = true) : L.all P = true := by
  refine List.all_eq_true.mpr fun c hc => ?_
  have h := List.all_eq_true.mp h1 c hc
  rcases Bool.eq_false_or_eq_true (isCode c) with hi | hi
  · exact h2 c (List.mem_filter.mpr ⟨hc, hi⟩)
  · simpa [hi] using h
set_option maxRecDepth 65536 in
theorem w_c0 : (Jvm.Cond.code x code maxLocals ret).before args0 about1 = true := code_word (m := ⟨1, 1⟩) (meth := k1m1) (c := k1c1) (by decide +kernel) rfl rfl rfl (by decide +kernel)
set_option maxRecDepth 65536 in
theorem w_c1 : (Jvm.Cond.code ({ cls := "com/example/custody/custody/merkle/TreeHashCopyPinLaw", name := "put", desc := "([BIJ)V" } : Jvm.MethodName) method_3_code (4 : Nat) (Option.none : Option Jvm.ClassFile.FieldType)).before args0 about1 = true := code_word (m := ⟨1, 2⟩) (meth := k1m2) (c := k1c2) (by decide +kernel) rfl rfl rfl (by decide +kernel)
set_option maxRecDepth 65536 in
theorem w_c2 : (Jvm.Cond.code ({ cls := "com/example/custody/custody/merkle/TreeHash", name := "copy", desc := "([B)[B" } : Jvm.MethodName) prog_24_method_5_code (1 : Nat) (Option.some (Jvm.ClassFile.FieldType.array Jvm.ClassFile.FieldType.byte))).before args0 about1 = true := code_word (m := ⟨2, 1⟩) (meth := k2m1) (c := k2c1) (by decide +kernel) rfl rfl rfl (by decide +kernel)
set_option maxRecDepth 65536 in
theorem w_c3 : (Jvm.Cond.code ({ cls := "com/example/custody/custody/merkle/TreeHashCopyPinLaw", name := "same", desc := "([BIJ)Z" } : Jvm.MethodName) method_4_code (4 : Nat) (Option.some Jvm.ClassFile.FieldType.boolean)).before args0 about1 = true := code_word (m := ⟨1, 3⟩) (meth := k1m3) (c := k1c3) (by decide +kernel) rfl rfl rfl (by decide +kernel)
def codes1 : List Jvm.Cond := [Jvm.Cond.code x code maxLocals ret, Jvm.Cond.code ({ cls := "com/example/custody/custody/merkle/TreeHashCopyPinLaw", name := "put", desc := "([BIJ)V" } : Jvm.MethodName) method_3_code (4 : Nat) (Option.none : Option Jvm.ClassFile.FieldType), Jvm.Cond.code ({ cls := "com/example/custody/custody/merkle/TreeHash", name := "copy", desc := "([B)[B" } : Jvm.MethodName) prog_24_method_5_code (1 : Nat) (Option.some (Jvm.ClassFile.FieldType.array Jvm.ClassFile.FieldType.byte)), Jvm.Cond.code ({ cls := "com/example/custody/custody/merkle/TreeHashCopyPinLaw", name := "same", desc := "([BIJ)Z" } : Jvm.MethodName) method_4_code (4 : Nat) (Option.some Jvm.ClassFile.FieldType.boolean)]
set_option maxRecDepth 65536 in
theorem codes_eq : words1.filter isCode = codes1 := rfl
theorem w_codes : ∀ c ∈ words1.filter isCode, c.before args0 about1 = true := by
  rw [codes_eq]
  intro c hc
  simp only [codes1, List.mem_cons, List.not_mem_nil, or_false] at hc
  rcases hc with rfl | rfl | rfl | rfl
  · exact w_c0
  · exact w_c1
  · exact w_c2
  · exact w_c3
set_option maxRecDepth 65536 in
theorem w_t1 : words1.all (fun c => isCode c || c.before args0 about1) = true := by decide +kernel
theorem w_tables : (allAtoms (Jvm.Cond.code x code maxLocals ret :: tables_1)).before args0 about1 = true := by
  rw [allAtoms_all]
  show words1.all (fun c => c.before args0 about1) = true
  refine all_split ?_ w_codes
  rw [w_t1]
set_option maxRecDepth 65536 in
theorem w_case : (Jvm.Cond.and given_1 narrow_1).before args0 about1 = true := by decide +kernel
theorem w_applies : (headSpec (Jvm.Cond.code x code maxLocals ret :: tables_1) room_1).applies x e0.platform about1 = true :=
  (Spec.applies_iff w_frames).mpr ⟨w_running, w_runnable, w_alone, w_named, w_hears, w_ripe, w_room, w_tables⟩
theorem atStart : AtStart classFile x code maxLocals ret World_1 tables_1 room_1 Calls_1 rest_1 Pre_1 launch0 p0 e0 about1 theMethod args0 below0 :=
  ⟨lists_1, trivial, launch0.admits_env _ _ _, launch0.least_env, fairChoices_fair.cas, fairChoices_fair.clock, w_frames, w_args, w_heap, w_applies, trivial, trivial, w_case⟩
end start1
theorem witness_1 : WitnessClaimed_1 := ⟨start1.p0, start1.e0, start1.about1, start1.theMethod, start1.args0, start1.below0, start1.atStart⟩
end Jvm.Pilot.@@N@@
