import JvmDerived
import JvmDerived.Pilot.@@N@@Statement
import JvmDerived.Pilot.@@N@@Code
set_option linter.unusedVariables false
set_option linter.unusedSimpArgs false
@@BLOCK:NumsL.lean.txt@@
namespace Jvm.Pilot.@@N@@
open Jvm Jvm.ClassFile Sem Op Lib Jvm.Free Jvm.Stand Jvm.LawKit Jvm.RoadKit Bundle Jvm.Pilot.@@N@@.Jvm.D
section OwnKit
variable {p : Program} {l : Launch} {e : Env} {R : Room} {s : State} {m : MethodId} {args : Array Value} {below : List Frame} {meth : Method} {c : Code} {T : State} {locs : List Loc} {cells slots : Nat} {Z : State} {h h' : Heap} {a b : Addr} {ty : FieldType} {n sl : Nat} {f : Nat → Value} {v : Value} {ws : List Addr}
theorem own_retI (X : Stand p l e R s m args below meth c T locs cells slots) (hx : p.tables.exec = Jvm.exec) {pc : Nat} {Ls : Array Slot} {z : Int32} {rest : List Value} (hret : meth.sig.returnType = some .int) (hd : decode c.code pc = .ok (.ireturn, 1)) {fs : List Frame}
    (hl : ∀ (f : JFrame) (acts : List Action), f.method = m → f.locked = none → f.entered = [] → (doReturn e (T.setTop f) acts (some (.int z))).1 = T.setFrames fs) : Steps p.tables e below (T.setTop (mkF m pc Ls (.int z :: rest))) (T.setFrames fs) := by
  have hm' : T.vm.method? m = some meth := X.method'
  have hn : narrow .int (.int z) = .int z := rfl
  show Steps p.tables e below (T.setTop { method := m, pc := pc, locals := Ls, stack := _ :: rest, locked := none }) _
  jvm_step X.here [X.here.top, hx, hd, hm', hret, hn]
  first | (intro acts; rw [hl _ acts rfl rfl rfl]) | rw [hl _ _ rfl rfl rfl]
  exact Steps.refl _
theorem own_retA (X : Stand p l e R s m args below meth c T locs cells slots) (hx : p.tables.exec = Jvm.exec) {pc : Nat} {Ls : Array Slot} {w : Addr} {rest : List Value} {t : FieldType} (ht : t.isReference = true) (hret : meth.sig.returnType = some t) (hd : decode c.code pc = .ok (.areturn, 1)) {fs : List Frame}
    (hl : ∀ (f : JFrame) (acts : List Action), f.method = m → f.locked = none → f.entered = [] → (doReturn e (T.setTop f) acts (some (.ref w))).1 = T.setFrames fs) : Steps p.tables e below (T.setTop (mkF m pc Ls (.ref w :: rest))) (T.setFrames fs) := by
  have hm' : T.vm.method? m = some meth := X.method'
  show Steps p.tables e below (T.setTop { method := m, pc := pc, locals := Ls, stack := _ :: rest, locked := none }) _
  jvm_step X.here [X.here.top, hx, hd, hm', hret, ht, Value.isRef]
  first | (intro acts; rw [hl _ acts rfl rfl rfl]) | rw [hl _ _ rfl rfl rfl]
  exact Steps.refl _
theorem own_retL (X : Stand p l e R s m args below meth c T locs cells slots) (hx : p.tables.exec = Jvm.exec) {pc : Nat} {Ls : Array Slot} {w : Int64} {rest : List Value} (hret : meth.sig.returnType = some .long) (hd : decode c.code pc = .ok (.lreturn, 1)) {fs : List Frame}
    (hl : ∀ (f : JFrame) (acts : List Action), f.method = m → f.locked = none → f.entered = [] → (doReturn e (T.setTop f) acts (some (.long w))).1 = T.setFrames fs) : Steps p.tables e below (T.setTop (mkF m pc Ls (.long w :: rest))) (T.setFrames fs) := by
  have hm' : T.vm.method? m = some meth := X.method'
  show Steps p.tables e below (T.setTop { method := m, pc := pc, locals := Ls, stack := _ :: rest, locked := none }) _
  jvm_step X.here [X.here.top, hx, hd, hm', hret]
  first | (intro acts; rw [hl _ acts rfl rfl rfl]) | rw [hl _ _ rfl rfl rfl]
  exact Steps.refl _
/-- an array: its kind, its length, what lies at each place -/
def OwnA (Z : State) (h : Heap) (a : Addr) (ty : FieldType) (n : Nat) (f : Nat → Value) : Prop :=
  ∃ c : Cell, Arr Z h a c ty ∧ c.slots.size = n ∧ (∀ i, i < n → c.slots[i]? = some (f i)) ∧ ∀ i, i < n → fits ty (f i) = true
def own_upd (f : Nat → Value) (j : Nat) (v : Value) : Nat → Value := fun i => if i = j then v else f i
theorem own_at (f : Nat → Value) (j : Nat) (v : Value) : own_upd f j v j = v := if_pos rfl
theorem own_off (f : Nat → Value) {i j : Nat} (v : Value) (q : i ≠ j) : own_upd f j v i = f i := if_neg q
theorem OwnA.lt (F : OwnA Z h a ty n f) : a < h.size := by obtain ⟨c, A, -⟩ := F; exact A.lt
theorem OwnA.ext (F : OwnA Z h a ty n f) (E : Ext h h') : OwnA Z h' a ty n f := by obtain ⟨c, A, r⟩ := F; exact ⟨c, A.ext E, r⟩
theorem OwnA.other (F : OwnA Z h b ty n f) (W : Wr h h' a sl v) (q : b ≠ a) : OwnA Z h' b ty n f := by obtain ⟨c, A, r⟩ := F; exact ⟨c, A.other W q, r⟩
theorem OwnA.keep (F : OwnA Z h a ty n f) (K : Keep h h' ws) (q : a ∉ ws) : OwnA Z h' a ty n f := by obtain ⟨c, A, r⟩ := F; exact ⟨c, ⟨K.2.1 a c A.1 q, A.2⟩, r⟩
theorem OwnA.cast {f' : Nat → Value} (F : OwnA Z h a ty n f) (q : ∀ i, i < n → f i = f' i) : OwnA Z h a ty n f' := by
  obtain ⟨c, A, r1, r2, r3⟩ := F
  exact ⟨c, A, r1, fun i hi => by rw [← q i hi]; exact r2 i hi, fun i hi => by rw [← q i hi]; exact r3 i hi⟩
theorem OwnA.set {k : Nat} (F : OwnA Z h a ty n f) (W : Wr h h' a k v) (hv : fits ty v = true) : OwnA Z h' a ty n (own_upd f k v) := by
  obtain ⟨c, A, r1, r2, r3⟩ := F
  refine ⟨_, A.same W, by rw [sz_set]; exact r1, fun i hi => ?_, fun i hi => ?_⟩
  · by_cases q : i = k
    · subst q
      rw [own_at]
      have : i < c.slots.size := by rw [r1]; exact hi
      simp [Cell.setSlot, this]
    · rw [own_off _ _ q, ← r2 i hi]
      simp only [Cell.setSlot]
      rw [Array.getElem?_setIfInBounds_ne (Ne.symm q)]
  · by_cases q : i = k
    · subst q; rw [own_at]; exact hv
    · rw [own_off _ _ q]; exact r3 i hi
theorem OwnA.new {k : ClassId} {z : Int32} (A : Arr Z h a (newA k ty z) ty) (hz : z.toNatClampNeg = n) : OwnA Z h a ty n (fun _ => defaultValue ty) := by
  refine ⟨_, A, by rw [sz_new]; exact hz, fun i hi => ?_, fun i _ => by cases ty <;> rfl⟩
  subst hz; simp [newA, hi]
theorem own_in {c : Cell} {j : Int32} {k : Nat} (r1 : c.slots.size = n) (hj : ¬ j < 0) (hk : j.toNatClampNeg = k) (hn : k < n) : ¬ (j < 0 ∨ c.slots.size ≤ j.toNatClampNeg) := by
  rintro (q | q)
  · exact hj q
  · omega
theorem own_stB (X : Stand p l e R s m args below meth c T locs cells slots) (hx : p.tables.exec = Jvm.exec) (hZ : Z.Warmed39 s.vm) (eT : T.heap = h) (F : OwnA Z h a .byte n f) {j x : Int32} (k : Nat) (hj : ¬ j < 0) (hk : j.toNatClampNeg = k) (hn : k < n) {g : JFrame} (hg : g.method = m) {rest : List Value} (hs : g.stack = .int x :: .int j :: .ref a :: rest) (hd : decode c.code g.pc = .ok (.bastore, 1)) :
    ∃ T' h', Stand p l e R s m args below meth c T' (locs ++ [⟨a, k⟩]) cells slots ∧ T'.heap = h' ∧ Wr h h' a k (.int x.toInt8.toInt32) ∧ OwnA Z h' a .byte n (own_upd f k (.int x.toInt8.toInt32)) ∧ ∀ target, Steps p.tables e below (T'.setTop { g with pc := g.pc + 1, stack := rest }) target → Steps p.tables e below (T.setTop g) target := by
  obtain ⟨c0, A, r1, r2, r3⟩ := F
  obtain ⟨T', h', X', e', W', st⟩ := stB X hx hZ eT A (own_in r1 hj hk hn) hg hs hd
  subst hk
  exact ⟨T', h', X', e', W', OwnA.set ⟨c0, A, r1, r2, r3⟩ W' (fits_nar_byte _), st⟩
theorem own_stC (X : Stand p l e R s m args below meth c T locs cells slots) (hx : p.tables.exec = Jvm.exec) (hZ : Z.Warmed39 s.vm) (eT : T.heap = h) (F : OwnA Z h a .char n f) {j x : Int32} (k : Nat) (hj : ¬ j < 0) (hk : j.toNatClampNeg = k) (hn : k < n) {g : JFrame} (hg : g.method = m) {rest : List Value} (hs : g.stack = .int x :: .int j :: .ref a :: rest) (hd : decode c.code g.pc = .ok (.castore, 1)) :
    ∃ T' h', Stand p l e R s m args below meth c T' (locs ++ [⟨a, k⟩]) cells slots ∧ T'.heap = h' ∧ Wr h h' a k (.int x.toUInt32.toUInt16.toUInt32.toInt32) ∧ OwnA Z h' a .char n (own_upd f k (.int x.toUInt32.toUInt16.toUInt32.toInt32)) ∧ ∀ target, Steps p.tables e below (T'.setTop { g with pc := g.pc + 1, stack := rest }) target → Steps p.tables e below (T.setTop g) target := by
  obtain ⟨c0, A, r1, r2, r3⟩ := F
  obtain ⟨T', h', X', e', W', st⟩ := stC X hx hZ eT A (own_in r1 hj hk hn) hg hs hd
  subst hk
  exact ⟨T', h', X', e', W', OwnA.set ⟨c0, A, r1, r2, r3⟩ W' (fits_nar_char _), st⟩
theorem own_stJ (X : Stand p l e R s m args below meth c T locs cells slots) (hx : p.tables.exec = Jvm.exec) (hZ : Z.Warmed39 s.vm) (eT : T.heap = h) (F : OwnA Z h a .long n f) {j : Int32} {x : Int64} (k : Nat) (hj : ¬ j < 0) (hk : j.toNatClampNeg = k) (hn : k < n) {g : JFrame} (hg : g.method = m) {rest : List Value} (hs : g.stack = .long x :: .int j :: .ref a :: rest) (hd : decode c.code g.pc = .ok (.lastore, 1)) :
    ∃ T' h', Stand p l e R s m args below meth c T' (locs ++ [⟨a, k⟩]) cells slots ∧ T'.heap = h' ∧ Wr h h' a k (.long x) ∧ OwnA Z h' a .long n (own_upd f k (.long x)) ∧ ∀ target, Steps p.tables e below (T'.setTop { g with pc := g.pc + 1, stack := rest }) target → Steps p.tables e below (T.setTop g) target := by
  obtain ⟨c0, A, r1, r2, r3⟩ := F
  obtain ⟨T', h', X', e', W', st⟩ := stJ X hx hZ eT A (own_in r1 hj hk hn) hg hs hd
  subst hk
  exact ⟨T', h', X', e', W', OwnA.set ⟨c0, A, r1, r2, r3⟩ W' rfl, st⟩
theorem own_stR (X : Stand p l e R s m args below meth c T locs cells slots) (hx : p.tables.exec = Jvm.exec) (hZ : Z.Warmed39 s.vm) (eT : T.heap = h) (F : OwnA Z h a ty n f) (hty : ty.isReference = true) (So : Sto Z h a v) (hv : fits ty v = true) {j : Int32} (k : Nat) (hj : ¬ j < 0) (hk : j.toNatClampNeg = k) (hn : k < n) {g : JFrame} (hg : g.method = m) {rest : List Value} (hs : g.stack = v :: .int j :: .ref a :: rest) (hd : decode c.code g.pc = .ok (.aastore, 1)) :
    ∃ T' h', Stand p l e R s m args below meth c T' (locs ++ [⟨a, k⟩]) cells slots ∧ T'.heap = h' ∧ Wr h h' a k v ∧ OwnA Z h' a ty n (own_upd f k v) ∧ ∀ target, Steps p.tables e below (T'.setTop { g with pc := g.pc + 1, stack := rest }) target → Steps p.tables e below (T.setTop g) target := by
  obtain ⟨c0, A, r1, r2, r3⟩ := F
  obtain ⟨T', h', X', e', W', st⟩ := stR X hx hZ eT A (own_in r1 hj hk hn) hty So hg hs hd
  subst hk
  exact ⟨T', h', X', e', W', OwnA.set ⟨c0, A, r1, r2, r3⟩ W' hv, st⟩
theorem own_ldB (X : Stand p l e R s m args below meth c T locs cells slots) (hx : p.tables.exec = Jvm.exec) (hZ : Z.Warmed39 s.vm) (eT : T.heap = h) (F : OwnA Z h a .byte n f) {j : Int32} (k : Nat) (hj : ¬ j < 0) (hk : j.toNatClampNeg = k) (hn : k < n) (hv : f k = v) {g : JFrame} (hg : g.method = m) {rest : List Value} (hs : g.stack = .int j :: .ref a :: rest) (hd : decode c.code g.pc = .ok (.baload, 1)) :
    ∀ target, Steps p.tables e below (T.setTop { g with pc := g.pc + 1, stack := v :: rest }) target → Steps p.tables e below (T.setTop g) target := by
  obtain ⟨c0, A, r1, r2, r3⟩ := F
  subst hk hv
  exact X.baloadBytes hx (j := j) (by rw [eT]; exact A.1) (State.isArrayOf_alike hZ.alike A.2.1) A.2.2 (own_in r1 hj rfl hn) (r2 _ hn) hg hs hd
theorem own_ldC (X : Stand p l e R s m args below meth c T locs cells slots) (hx : p.tables.exec = Jvm.exec) (hZ : Z.Warmed39 s.vm) (eT : T.heap = h) (F : OwnA Z h a .char n f) {j : Int32} (k : Nat) (hj : ¬ j < 0) (hk : j.toNatClampNeg = k) (hn : k < n) (hv : f k = v) {g : JFrame} (hg : g.method = m) {rest : List Value} (hs : g.stack = .int j :: .ref a :: rest) (hd : decode c.code g.pc = .ok (.caload, 1)) :
    ∀ target, Steps p.tables e below (T.setTop { g with pc := g.pc + 1, stack := v :: rest }) target → Steps p.tables e below (T.setTop g) target := by
  obtain ⟨c0, A, r1, r2, r3⟩ := F
  subst hk hv
  exact X.caload hx (j := j) (by rw [eT]; exact A.1) (State.isArrayOf_alike hZ.alike A.2.1) A.2.2 (own_in r1 hj rfl hn) (r2 _ hn) hg hs hd
theorem own_ldJ (X : Stand p l e R s m args below meth c T locs cells slots) (hx : p.tables.exec = Jvm.exec) (hZ : Z.Warmed39 s.vm) (eT : T.heap = h) (F : OwnA Z h a .long n f) {j : Int32} (k : Nat) (hj : ¬ j < 0) (hk : j.toNatClampNeg = k) (hn : k < n) (hv : f k = v) {g : JFrame} (hg : g.method = m) {rest : List Value} (hs : g.stack = .int j :: .ref a :: rest) (hd : decode c.code g.pc = .ok (.laload, 1)) :
    ∀ target, Steps p.tables e below (T.setTop { g with pc := g.pc + 1, stack := v :: rest }) target → Steps p.tables e below (T.setTop g) target := by
  obtain ⟨c0, A, r1, r2, r3⟩ := F
  subst hk hv
  exact X.laload hx (j := j) (by rw [eT]; exact A.1) (State.isArrayOf_alike hZ.alike A.2.1) A.2.2 (own_in r1 hj rfl hn) (r2 _ hn) hg hs hd
theorem own_ldR (X : Stand p l e R s m args below meth c T locs cells slots) (hx : p.tables.exec = Jvm.exec) (hZ : Z.Warmed39 s.vm) (eT : T.heap = h) (F : OwnA Z h a ty n f) (hty : ty.isReference = true) {j : Int32} (k : Nat) (hj : ¬ j < 0) (hk : j.toNatClampNeg = k) (hn : k < n) (hv : f k = v) {g : JFrame} (hg : g.method = m) {rest : List Value} (hs : g.stack = .int j :: .ref a :: rest) (hd : decode c.code g.pc = .ok (.aaload, 1)) :
    ∀ target, Steps p.tables e below (T.setTop { g with pc := g.pc + 1, stack := v :: rest }) target → Steps p.tables e below (T.setTop g) target := by
  obtain ⟨c0, A, r1, r2, r3⟩ := F
  subst hk hv
  exact X.aaload hx (j := j) (by rw [eT]; exact A.1) (State.isArrayOf_alike hZ.alike A.2.1) hty A.2.2 (own_in r1 hj rfl hn) (r2 _ hn) hg hs hd
theorem own_len (X : Stand p l e R s m args below meth c T locs cells slots) (hx : p.tables.exec = Jvm.exec) (hZ : Z.Warmed39 s.vm) (eT : T.heap = h) (F : OwnA Z h a ty n f) {z : Int32} (hz : n.toInt32 = z) {g : JFrame} (hg : g.method = m) {rest : List Value} (hs : g.stack = .ref a :: rest) (hd : decode c.code g.pc = .ok (.arraylength, 1)) :
    ∀ target, Steps p.tables e below (T.setTop { g with pc := g.pc + 1, stack := .int z :: rest }) target → Steps p.tables e below (T.setTop g) target := by
  obtain ⟨c0, A, r1, r2, r3⟩ := F
  subst hz r1
  exact X.arraylength hx (by rw [eT]; exact A.1) (State.isArrayOf_alike hZ.alike A.2.1) hg hs hd
theorem own_clone (X : Stand p l e R s m args below meth c T locs cells slots) (hx : p.tables.exec = Jvm.exec) (hZ : Z.Warmed39 s.vm) {a0 : Array Value} {own ad : String} {index : Nat} (hown : s.vm.findClass own = some m.cls)
    (w1 : (Jvm.Cond.methodLink own index ⟨ad, "clone", "()Ljava/lang/Object;"⟩).before a0 Z = true) (w2 : (Jvm.Cond.sameMethod ad "java/lang/Object" "clone" "()Ljava/lang/Object;").before a0 Z = true) (w3 : (Jvm.Cond.native ⟨"java/lang/Object", "clone", "()Ljava/lang/Object;"⟩).before a0 Z = true)
    (w4 : (Jvm.Cond.instanceMethod ⟨"java/lang/Object", "clone", "()Ljava/lang/Object;"⟩).before a0 Z = true) (w5 : (Jvm.Cond.selects ad ⟨ad, "clone", "()Ljava/lang/Object;"⟩ ⟨"java/lang/Object", "clone", "()Ljava/lang/Object;"⟩).before a0 Z = true) (w6 : (Jvm.Cond.castable ad "java/lang/Cloneable").before a0 Z = true)
    (eT : T.heap = h) (F : OwnA Z h a ty n f) (E : Exa Z h a ad) {g : JFrame} (hg : g.method = m) (hsize : g.locals.size = c.maxLocals) {rest : List Value} (hs : g.stack = .ref a :: rest) (hd : decode c.code g.pc = .ok (.invokevirtual index, 3))
    (hf : 1 ≤ R.frames) {W cap : Nat} (hW : 2 * g.monitorRoom + (rest.map fun v => v.category).sum ≤ W) (hl : W + 14 ≤ R.locals) (hcap : n ≤ cap) (hc : cells + 1 ≤ R.cells) (hsl : slots + cap ≤ R.slots) :
    ∃ T' h', Stand p l e R s m args below meth c T' locs (cells + 1) (slots + cap) ∧ T'.heap = h' ∧ Ext h h' ∧ OwnA Z h' h.size ty n f ∧ Exa Z h' h.size ad ∧
      ∀ target, Steps p.tables e below (T'.setTop { g with pc := g.pc + 3, stack := .ref h.size :: rest }) target → Steps p.tables e below (T.setTop g) target := by
  obtain ⟨c0, A, r1, r2, r3⟩ := F
  have FC : FitC Z c0 := fitC_of A fun i hi v hv => by
    rw [r1] at hi; rw [r2 i hi] at hv; cases hv; exact r3 i hi
  obtain ⟨T', h', X', e', ex, A', E', st⟩ := cloneA X hx hZ hown w1 w2 w3 w4 w5 w6 eT A E FC hg hsize hs hd hf hW hl (by rw [r1]; exact hcap) hc hsl
  exact ⟨T', h', X', e', ex, ⟨cloneOf c0, A', r1, r2, r3⟩, E', st⟩
theorem own_selP {s : State} {args : Array Value} {y y' : MethodName} (hsel : (Jvm.Cond.selects y.cls y' y').before args s = true) (hc : y'.cls = y.cls) (hpriv : s.PrivateAt y) (hinst : (Jvm.Cond.instanceMethod y).before args s = true) (hy : y.cls ≠ "java/lang/invoke/MethodHandle" ∧ y.cls ≠ "java/lang/invoke/VarHandle") :
    (Jvm.Cond.selects y.cls y y).before args s = true := by
  obtain ⟨c2, r2, m2, a1, a2, q3, a4, kP, hkP, hkPi⟩ := Cond.selects_spec hsel
  have hf := findClass_of_methodNamed q3
  rw [hc] at hf
  exact Stand.selects_self_of_private hf hkP hkPi hpriv hinst hy
theorem own_fcast {C nm d : String} {x y : Int32} (F : Fld Z h a C nm d (.int x)) (q : x = y) : Fld Z h a C nm d (.int y) := q ▸ F
theorem own_ix {j d : Int32} {k i : Nat} (hj : ¬ j < 0) (hk : j.toNatClampNeg = k) (hd : d.toInt = (i : Int)) (hlt : k + i < 2147483648) : ¬ (j + d) < 0 ∧ (j + d).toNatClampNeg = k + i := by
  have e0 : (0 : Int32).toInt = 0 := rfl
  simp only [Int32.lt_iff_toInt_lt, e0, Int32.toNatClampNeg] at hj hk ⊢
  rw [Int32.toInt_add, hd]
  have : (j.toInt + (i : Int)).bmod (2 ^ 32) = j.toInt + (i : Int) := bmod32 (by omega) (by omega)
  rw [this]
  omega
theorem own_mask31 (x : Int32) : 0 ≤ (x &&& (2147483647 : Int32)).toInt := (c_andS x 2147483647).2.2 (by decide)
theorem own_rem {x y : Int32} (hx : 0 ≤ x.toInt) (hy : 0 < y.toInt) : 0 ≤ (x % y).toInt ∧ (x % y).toInt < y.toInt := by
  rw [Int32.toInt_mod]
  exact ⟨Int.tmod_nonneg _ hx, Int.tmod_lt_of_pos _ hy⟩
theorem own_lcEq {x y : Int64} (q : x = y) : lcmpW x y = 0 := by subst q; simp [lcmpW, Int64.lt_irrefl]
theorem own_lcNe {x y : Int64} (q : ¬ x = y) : ¬ lcmpW x y = 0 := by
  by_cases h : x > y
  · rw [lcmpW, if_pos h]; decide
  · rw [lcmpW, if_neg h, if_neg q]; decide
theorem own_lcGt {x y : Int64} (q : y < x) : (0 : Int32) < lcmpW x y := by rw [lcmpW, if_pos q]; decide
theorem own_lcLe {x y : Int64} (q : ¬ y < x) : ¬ (0 : Int32) < lcmpW x y := by
  rw [lcmpW, if_neg q]
  by_cases h : x = y
  · rw [if_pos h]; decide
  · rw [if_neg h]; decide
theorem own_lcLt {x y : Int64} (q : x < y) : lcmpW x y < 0 := by
  rw [lcmpW, if_neg (fun z => Int64.lt_irrefl (Int64.lt_trans z q)), if_neg (fun z => Int64.lt_irrefl (z ▸ q))]; decide
theorem own_lcGe {x y : Int64} (q : ¬ x < y) : ¬ lcmpW x y < 0 := by
  by_cases h : x > y
  · rw [lcmpW, if_pos h]; decide
  · rw [lcmpW, if_neg h, if_pos (Int64.le_antisymm (Int64.not_lt.mp h) (Int64.not_lt.mp q))]; decide
end OwnKit

theorem d1_0 : decode prog_14_method_2_code 0 = .ok (.lload_n 0, 1) := by decide +kernel
theorem d1_1 : decode prog_14_method_2_code 1 = .ok (.bipush 8, 2) := by decide +kernel
theorem d1_3 : decode prog_14_method_2_code 3 = .ok (.lushr, 1) := by decide +kernel
theorem d1_4 : decode prog_14_method_2_code 4 = .ok (.lstore_n 2, 1) := by decide +kernel
theorem d1_5 : decode prog_14_method_2_code 5 = .ok (.ldc2_w 9, 3) := by decide +kernel
theorem d1_8 : decode prog_14_method_2_code 8 = .ok (.lload_n 2, 1) := by decide +kernel
theorem d1_9 : decode prog_14_method_2_code 9 = .ok (.lmul, 1) := by decide +kernel
theorem d1_10 : decode prog_14_method_2_code 10 = .ok (.lload_n 2, 1) := by decide +kernel
theorem d1_11 : decode prog_14_method_2_code 11 = .ok (.invokestatic 11, 3) := by decide +kernel
theorem d1_14 : decode prog_14_method_2_code 14 = .ok (.i2l, 1) := by decide +kernel
theorem d1_15 : decode prog_14_method_2_code 15 = .ok (.lsub, 1) := by decide +kernel
theorem d1_16 : decode prog_14_method_2_code 16 = .ok (.lreturn, 1) := by decide +kernel
theorem d2_0 : decode jdk_35_method_50_code 0 = .ok (.lload_n 0, 1) := by decide +kernel
theorem d2_1 : decode jdk_35_method_50_code 1 = .ok (.lload_n 0, 1) := by decide +kernel
theorem d2_2 : decode jdk_35_method_50_code 2 = .ok (.iconst 1, 1) := by decide +kernel
theorem d2_3 : decode jdk_35_method_50_code 3 = .ok (.lushr, 1) := by decide +kernel
theorem d2_4 : decode jdk_35_method_50_code 4 = .ok (.ldc2_w 314, 3) := by decide +kernel
theorem d2_7 : decode jdk_35_method_50_code 7 = .ok (.land, 1) := by decide +kernel
theorem d2_8 : decode jdk_35_method_50_code 8 = .ok (.lsub, 1) := by decide +kernel
theorem d2_9 : decode jdk_35_method_50_code 9 = .ok (.lstore_n 0, 1) := by decide +kernel
theorem d2_10 : decode jdk_35_method_50_code 10 = .ok (.lload_n 0, 1) := by decide +kernel
theorem d2_11 : decode jdk_35_method_50_code 11 = .ok (.ldc2_w 316, 3) := by decide +kernel
theorem d2_14 : decode jdk_35_method_50_code 14 = .ok (.land, 1) := by decide +kernel
theorem d2_15 : decode jdk_35_method_50_code 15 = .ok (.lload_n 0, 1) := by decide +kernel
theorem d2_16 : decode jdk_35_method_50_code 16 = .ok (.iconst 2, 1) := by decide +kernel
theorem d2_17 : decode jdk_35_method_50_code 17 = .ok (.lushr, 1) := by decide +kernel
theorem d2_18 : decode jdk_35_method_50_code 18 = .ok (.ldc2_w 316, 3) := by decide +kernel
theorem d2_21 : decode jdk_35_method_50_code 21 = .ok (.land, 1) := by decide +kernel
theorem d2_22 : decode jdk_35_method_50_code 22 = .ok (.ladd, 1) := by decide +kernel
theorem d2_23 : decode jdk_35_method_50_code 23 = .ok (.lstore_n 0, 1) := by decide +kernel
theorem d2_24 : decode jdk_35_method_50_code 24 = .ok (.lload_n 0, 1) := by decide +kernel
theorem d2_25 : decode jdk_35_method_50_code 25 = .ok (.lload_n 0, 1) := by decide +kernel
theorem d2_26 : decode jdk_35_method_50_code 26 = .ok (.iconst 4, 1) := by decide +kernel
theorem d2_27 : decode jdk_35_method_50_code 27 = .ok (.lushr, 1) := by decide +kernel
theorem d2_28 : decode jdk_35_method_50_code 28 = .ok (.ladd, 1) := by decide +kernel
theorem d2_29 : decode jdk_35_method_50_code 29 = .ok (.ldc2_w 318, 3) := by decide +kernel
theorem d2_32 : decode jdk_35_method_50_code 32 = .ok (.land, 1) := by decide +kernel
theorem d2_33 : decode jdk_35_method_50_code 33 = .ok (.lstore_n 0, 1) := by decide +kernel
theorem d2_34 : decode jdk_35_method_50_code 34 = .ok (.lload_n 0, 1) := by decide +kernel
theorem d2_35 : decode jdk_35_method_50_code 35 = .ok (.lload_n 0, 1) := by decide +kernel
theorem d2_36 : decode jdk_35_method_50_code 36 = .ok (.bipush 8, 2) := by decide +kernel
theorem d2_38 : decode jdk_35_method_50_code 38 = .ok (.lushr, 1) := by decide +kernel
theorem d2_39 : decode jdk_35_method_50_code 39 = .ok (.ladd, 1) := by decide +kernel
theorem d2_40 : decode jdk_35_method_50_code 40 = .ok (.lstore_n 0, 1) := by decide +kernel
theorem d2_41 : decode jdk_35_method_50_code 41 = .ok (.lload_n 0, 1) := by decide +kernel
theorem d2_42 : decode jdk_35_method_50_code 42 = .ok (.lload_n 0, 1) := by decide +kernel
theorem d2_43 : decode jdk_35_method_50_code 43 = .ok (.bipush 16, 2) := by decide +kernel
theorem d2_45 : decode jdk_35_method_50_code 45 = .ok (.lushr, 1) := by decide +kernel
theorem d2_46 : decode jdk_35_method_50_code 46 = .ok (.ladd, 1) := by decide +kernel
theorem d2_47 : decode jdk_35_method_50_code 47 = .ok (.lstore_n 0, 1) := by decide +kernel
theorem d2_48 : decode jdk_35_method_50_code 48 = .ok (.lload_n 0, 1) := by decide +kernel
theorem d2_49 : decode jdk_35_method_50_code 49 = .ok (.lload_n 0, 1) := by decide +kernel
theorem d2_50 : decode jdk_35_method_50_code 50 = .ok (.bipush 32, 2) := by decide +kernel
theorem d2_52 : decode jdk_35_method_50_code 52 = .ok (.lushr, 1) := by decide +kernel
theorem d2_53 : decode jdk_35_method_50_code 53 = .ok (.ladd, 1) := by decide +kernel
theorem d2_54 : decode jdk_35_method_50_code 54 = .ok (.lstore_n 0, 1) := by decide +kernel
theorem d2_55 : decode jdk_35_method_50_code 55 = .ok (.lload_n 0, 1) := by decide +kernel
theorem d2_56 : decode jdk_35_method_50_code 56 = .ok (.l2i, 1) := by decide +kernel
theorem d2_57 : decode jdk_35_method_50_code 57 = .ok (.bipush 127, 2) := by decide +kernel
theorem d2_59 : decode jdk_35_method_50_code 59 = .ok (.iand, 1) := by decide +kernel
theorem d2_60 : decode jdk_35_method_50_code 60 = .ok (.ireturn, 1) := by decide +kernel
theorem own_pn0 : plainName "java/lang/Long" = true := by first | (simp [plainName, overriddenIn]; done) | decide +kernel
theorem own_pn1 : plainName "com/example/custody/custody/merkle/KeptSubtrees" = true := by first | (simp [plainName, overriddenIn]; done) | decide +kernel
theorem own_pn2 : plainName "com/example/custody/custody/merkle/KeptSubtreesCountPinLaw" = true := by first | (simp [plainName, overriddenIn]; done) | decide +kernel
theorem own_pd0 : parseMethodDescriptor "(J)I" = some ⟨[.long], some .int⟩ := by decide +kernel
theorem own_pd1 : parseMethodDescriptor "(J)J" = some ⟨[.long], some .long⟩ := by decide +kernel
def own_bc (q1 : Int64) : Int32 :=
  let s1 : Int64 := (q1 - (((q1.toUInt64 >>> ((1 : Int32) &&& 0x3f).toInt64.toUInt64).toInt64) &&& (6148914691236517205 : Int64)))
  let s2 : Int64 := ((s1 &&& (3689348814741910323 : Int64)) + (((s1.toUInt64 >>> ((2 : Int32) &&& 0x3f).toInt64.toUInt64).toInt64) &&& (3689348814741910323 : Int64)))
  let s3 : Int64 := ((s2 + ((s2.toUInt64 >>> ((4 : Int32) &&& 0x3f).toInt64.toUInt64).toInt64)) &&& (1085102592571150095 : Int64))
  let s4 : Int64 := (s3 + ((s3.toUInt64 >>> ((8 : Int32) &&& 0x3f).toInt64.toUInt64).toInt64))
  let s5 : Int64 := (s4 + ((s4.toUInt64 >>> ((16 : Int32) &&& 0x3f).toInt64.toUInt64).toInt64))
  let s6 : Int64 := (s5 + ((s5.toUInt64 >>> ((32 : Int32) &&& 0x3f).toInt64.toUInt64).toInt64))
  ((s6.toInt32) &&& (127 : Int32))
def QI (q1 : Int64) (h0 : Heap) (n0 : Nat) (v : Option Value) (h : Heap) (L : List Loc) : Prop := v = some (.int (own_bc q1)) ∧ Fr n0 L ∧ h = h0
set_option maxRecDepth 65536 in
set_option maxHeartbeats 40000000 in
theorem rmB (l : Launch) (Z : State) (a0 : Array Value) (hw : ∀ d ∈ tables_1, d.before a0 Z = true) (ws : List Jvm.Cond) (q1 : Int64) (h0 : Heap) (n0 : Nat) (Z0 : n0 ≤ h0.size)  :
    MetFree l (⟨"java/lang/Long", "bitCount", "(J)I"⟩ : MethodName) (head1 (Jvm.Cond.code (⟨"java/lang/Long", "bitCount", "(J)I"⟩ : MethodName) jdk_35_method_50_code 2 (some .int) :: ws) ({ frames := 0, cells := 0, slots := 0, locals := 0 } : Room)) (fun a U => a = #[(.long q1)] ∧ Z.Warmed39 U.vm ∧ U.heap = h0) (fun _ _ _ _ _ => True) (fun _ U o U' => ∃ v L, o = .returned v ∧ QI q1 h0 n0 v U'.heap L ∧ FrameEnd U o U' L ({ frames := 0, cells := 0, slots := 0, locals := 0 } : Room).cells ({ frames := 0, cells := 0, slots := 0, locals := 0 } : Room).slots) := by
  refine MetFree.of_bodySF (plainFor_of_name own_pn0) hisR ?_
  intro p e s m args below meth c s₁ Bd hml0 hP hK
  obtain ⟨rfl, hZ, hh⟩ := hP
  have hx := Bd.exec
  have hby := Bd.bytes
  have hml : c.maxLocals = 2 := hml0
  have hown : s.vm.findClass "java/lang/Long" = some m.cls := findClass_of_methodNamed Bd.named
  have hnm := (name_of_methodNamed Bd.named Bd.method).1
  have X0 : Stand p l e ({ frames := 0, cells := 0, slots := 0, locals := 0 } : Room) s m #[(.long q1)] below meth c s₁ [] 0 0 := Stand.of_body Bd
  have e0 : s₁.heap = h0 := by rw [← hh, Bd.state]; rfl
  have N0 := Fr.nil n0
  have ef : entryFrame m #[(.long q1)] 2 = mkF m 0 #[.val (.long q1), .second] [] := by first | (simp [entryFrame, mkF, argsToLocals, Value.category]; done) | rfl
  have pre0 : ∀ t, Steps p.tables e below (s₁.setTop (mkF m 0 #[.val (.long q1), .second] [])) t → Steps p.tables e below (s₁.setTop (entryFrame m #[(.long q1)] 2)) t := fun t k => castTop ef k
  obtain ⟨s1, hv_s1⟩ : ∃ z : Int64, z = (q1 - (((q1.toUInt64 >>> ((1 : Int32) &&& 0x3f).toInt64.toUInt64).toInt64) &&& (6148914691236517205 : Int64))) := ⟨_, rfl⟩
  obtain ⟨s2, hv_s2⟩ : ∃ z : Int64, z = ((s1 &&& (3689348814741910323 : Int64)) + (((s1.toUInt64 >>> ((2 : Int32) &&& 0x3f).toInt64.toUInt64).toInt64) &&& (3689348814741910323 : Int64))) := ⟨_, rfl⟩
  obtain ⟨s3, hv_s3⟩ : ∃ z : Int64, z = ((s2 + ((s2.toUInt64 >>> ((4 : Int32) &&& 0x3f).toInt64.toUInt64).toInt64)) &&& (1085102592571150095 : Int64)) := ⟨_, rfl⟩
  obtain ⟨s4, hv_s4⟩ : ∃ z : Int64, z = (s3 + ((s3.toUInt64 >>> ((8 : Int32) &&& 0x3f).toInt64.toUInt64).toInt64)) := ⟨_, rfl⟩
  obtain ⟨s5, hv_s5⟩ : ∃ z : Int64, z = (s4 + ((s4.toUInt64 >>> ((16 : Int32) &&& 0x3f).toInt64.toUInt64).toInt64)) := ⟨_, rfl⟩
  obtain ⟨s6, hv_s6⟩ : ∃ z : Int64, z = (s5 + ((s5.toUInt64 >>> ((32 : Int32) &&& 0x3f).toInt64.toUInt64).toInt64)) := ⟨_, rfl⟩
  obtain ⟨fs, hr, hrun, hended, hW, hsame⟩ := X0.leave (v := some (.int ((s6.toInt32) &&& (127 : Int32)))) (fun h => by rw [Bd.returns] at h; cases h)
  refine ⟨_, _, pre0 _ ?_, hrun, hended, _, _, rfl, ?_, ⟨_, rfl⟩, hW, hsame.mono (by decide) (by decide)⟩
  · show Steps p.tables e below (s₁.setTop (mkF m 0 #[.val (.long q1), .second] [])) _
    refine XS.lloadN X0.here hx rfl (hb hby d2_0) rfl ?_
    show Steps p.tables e below (s₁.setTop (mkF m 1 #[.val (.long q1), .second] [(.long q1)])) _
    refine XS.lloadN X0.here hx rfl (hb hby d2_1) rfl ?_
    show Steps p.tables e below (s₁.setTop (mkF m 2 #[.val (.long q1), .second] [(.long q1), (.long q1)])) _
    refine XS.iconst X0.here hx rfl (hb hby d2_2) ?_
    show Steps p.tables e below (s₁.setTop (mkF m 3 #[.val (.long q1), .second] [(.int (1 : Int32)), (.long q1), (.long q1)])) _
    refine XS.lushr X0.here hx rfl (hb hby d2_3) rfl ?_
    show Steps p.tables e below (s₁.setTop (mkF m 4 #[.val (.long q1), .second] [(.long ((q1.toUInt64 >>> ((1 : Int32) &&& 0x3f).toInt64.toUInt64).toInt64)), (.long q1)])) _
    refine X0.ldc2Long hx hown (mvT hZ (hw _ (List.mem_of_getElem? (i := 10) rfl))) (g := (mkF m 4 #[.val (.long q1), .second] [(.long ((q1.toUInt64 >>> ((1 : Int32) &&& 0x3f).toInt64.toUInt64).toInt64)), (.long q1)])) rfl (hb hby d2_4) _ ?_
    show Steps p.tables e below (s₁.setTop (mkF m 7 #[.val (.long q1), .second] [(.long (6148914691236517205 : Int64)), (.long ((q1.toUInt64 >>> ((1 : Int32) &&& 0x3f).toInt64.toUInt64).toInt64)), (.long q1)])) _
    refine XS.land X0.here hx rfl (hb hby d2_7) rfl ?_
    show Steps p.tables e below (s₁.setTop (mkF m 8 #[.val (.long q1), .second] [(.long (((q1.toUInt64 >>> ((1 : Int32) &&& 0x3f).toInt64.toUInt64).toInt64) &&& (6148914691236517205 : Int64))), (.long q1)])) _
    refine XS.lsub X0.here hx rfl (hb hby d2_8) rfl ?_
    show Steps p.tables e below (s₁.setTop (mkF m 9 #[.val (.long q1), .second] [(.long (q1 - (((q1.toUInt64 >>> ((1 : Int32) &&& 0x3f).toInt64.toUInt64).toInt64) &&& (6148914691236517205 : Int64))))])) _
    rw [← hv_s1]
    show Steps p.tables e below (s₁.setTop (mkF m 9 #[.val (.long q1), .second] [(.long s1)])) _
    refine XS.lstoreN X0.here hx rfl (hb hby d2_9) rfl (l' := #[.val (.long s1), .second]) rfl ?_
    show Steps p.tables e below (s₁.setTop (mkF m 10 #[.val (.long s1), .second] [])) _
    refine XS.lloadN X0.here hx rfl (hb hby d2_10) rfl ?_
    show Steps p.tables e below (s₁.setTop (mkF m 11 #[.val (.long s1), .second] [(.long s1)])) _
    refine X0.ldc2Long hx hown (mvT hZ (hw _ (List.mem_of_getElem? (i := 11) rfl))) (g := (mkF m 11 #[.val (.long s1), .second] [(.long s1)])) rfl (hb hby d2_11) _ ?_
    show Steps p.tables e below (s₁.setTop (mkF m 14 #[.val (.long s1), .second] [(.long (3689348814741910323 : Int64)), (.long s1)])) _
    refine XS.land X0.here hx rfl (hb hby d2_14) rfl ?_
    show Steps p.tables e below (s₁.setTop (mkF m 15 #[.val (.long s1), .second] [(.long (s1 &&& (3689348814741910323 : Int64)))])) _
    refine XS.lloadN X0.here hx rfl (hb hby d2_15) rfl ?_
    show Steps p.tables e below (s₁.setTop (mkF m 16 #[.val (.long s1), .second] [(.long s1), (.long (s1 &&& (3689348814741910323 : Int64)))])) _
    refine XS.iconst X0.here hx rfl (hb hby d2_16) ?_
    show Steps p.tables e below (s₁.setTop (mkF m 17 #[.val (.long s1), .second] [(.int (2 : Int32)), (.long s1), (.long (s1 &&& (3689348814741910323 : Int64)))])) _
    refine XS.lushr X0.here hx rfl (hb hby d2_17) rfl ?_
    show Steps p.tables e below (s₁.setTop (mkF m 18 #[.val (.long s1), .second] [(.long ((s1.toUInt64 >>> ((2 : Int32) &&& 0x3f).toInt64.toUInt64).toInt64)), (.long (s1 &&& (3689348814741910323 : Int64)))])) _
    refine X0.ldc2Long hx hown (mvT hZ (hw _ (List.mem_of_getElem? (i := 11) rfl))) (g := (mkF m 18 #[.val (.long s1), .second] [(.long ((s1.toUInt64 >>> ((2 : Int32) &&& 0x3f).toInt64.toUInt64).toInt64)), (.long (s1 &&& (3689348814741910323 : Int64)))])) rfl (hb hby d2_18) _ ?_
    show Steps p.tables e below (s₁.setTop (mkF m 21 #[.val (.long s1), .second] [(.long (3689348814741910323 : Int64)), (.long ((s1.toUInt64 >>> ((2 : Int32) &&& 0x3f).toInt64.toUInt64).toInt64)), (.long (s1 &&& (3689348814741910323 : Int64)))])) _
    refine XS.land X0.here hx rfl (hb hby d2_21) rfl ?_
    show Steps p.tables e below (s₁.setTop (mkF m 22 #[.val (.long s1), .second] [(.long (((s1.toUInt64 >>> ((2 : Int32) &&& 0x3f).toInt64.toUInt64).toInt64) &&& (3689348814741910323 : Int64))), (.long (s1 &&& (3689348814741910323 : Int64)))])) _
    refine XS.ladd X0.here hx rfl (hb hby d2_22) rfl ?_
    show Steps p.tables e below (s₁.setTop (mkF m 23 #[.val (.long s1), .second] [(.long ((s1 &&& (3689348814741910323 : Int64)) + (((s1.toUInt64 >>> ((2 : Int32) &&& 0x3f).toInt64.toUInt64).toInt64) &&& (3689348814741910323 : Int64))))])) _
    rw [← hv_s2]
    show Steps p.tables e below (s₁.setTop (mkF m 23 #[.val (.long s1), .second] [(.long s2)])) _
    refine XS.lstoreN X0.here hx rfl (hb hby d2_23) rfl (l' := #[.val (.long s2), .second]) rfl ?_
    show Steps p.tables e below (s₁.setTop (mkF m 24 #[.val (.long s2), .second] [])) _
    refine XS.lloadN X0.here hx rfl (hb hby d2_24) rfl ?_
    show Steps p.tables e below (s₁.setTop (mkF m 25 #[.val (.long s2), .second] [(.long s2)])) _
    refine XS.lloadN X0.here hx rfl (hb hby d2_25) rfl ?_
    show Steps p.tables e below (s₁.setTop (mkF m 26 #[.val (.long s2), .second] [(.long s2), (.long s2)])) _
    refine XS.iconst X0.here hx rfl (hb hby d2_26) ?_
    show Steps p.tables e below (s₁.setTop (mkF m 27 #[.val (.long s2), .second] [(.int (4 : Int32)), (.long s2), (.long s2)])) _
    refine XS.lushr X0.here hx rfl (hb hby d2_27) rfl ?_
    show Steps p.tables e below (s₁.setTop (mkF m 28 #[.val (.long s2), .second] [(.long ((s2.toUInt64 >>> ((4 : Int32) &&& 0x3f).toInt64.toUInt64).toInt64)), (.long s2)])) _
    refine XS.ladd X0.here hx rfl (hb hby d2_28) rfl ?_
    show Steps p.tables e below (s₁.setTop (mkF m 29 #[.val (.long s2), .second] [(.long (s2 + ((s2.toUInt64 >>> ((4 : Int32) &&& 0x3f).toInt64.toUInt64).toInt64)))])) _
    refine X0.ldc2Long hx hown (mvT hZ (hw _ (List.mem_of_getElem? (i := 12) rfl))) (g := (mkF m 29 #[.val (.long s2), .second] [(.long (s2 + ((s2.toUInt64 >>> ((4 : Int32) &&& 0x3f).toInt64.toUInt64).toInt64)))])) rfl (hb hby d2_29) _ ?_
    show Steps p.tables e below (s₁.setTop (mkF m 32 #[.val (.long s2), .second] [(.long (1085102592571150095 : Int64)), (.long (s2 + ((s2.toUInt64 >>> ((4 : Int32) &&& 0x3f).toInt64.toUInt64).toInt64)))])) _
    refine XS.land X0.here hx rfl (hb hby d2_32) rfl ?_
    show Steps p.tables e below (s₁.setTop (mkF m 33 #[.val (.long s2), .second] [(.long ((s2 + ((s2.toUInt64 >>> ((4 : Int32) &&& 0x3f).toInt64.toUInt64).toInt64)) &&& (1085102592571150095 : Int64)))])) _
    rw [← hv_s3]
    show Steps p.tables e below (s₁.setTop (mkF m 33 #[.val (.long s2), .second] [(.long s3)])) _
    refine XS.lstoreN X0.here hx rfl (hb hby d2_33) rfl (l' := #[.val (.long s3), .second]) rfl ?_
    show Steps p.tables e below (s₁.setTop (mkF m 34 #[.val (.long s3), .second] [])) _
    refine XS.lloadN X0.here hx rfl (hb hby d2_34) rfl ?_
    show Steps p.tables e below (s₁.setTop (mkF m 35 #[.val (.long s3), .second] [(.long s3)])) _
    refine XS.lloadN X0.here hx rfl (hb hby d2_35) rfl ?_
    show Steps p.tables e below (s₁.setTop (mkF m 36 #[.val (.long s3), .second] [(.long s3), (.long s3)])) _
    refine XS.bipush X0.here hx rfl (hb hby d2_36) ?_
    show Steps p.tables e below (s₁.setTop (mkF m 38 #[.val (.long s3), .second] [(.int (8 : Int32)), (.long s3), (.long s3)])) _
    refine XS.lushr X0.here hx rfl (hb hby d2_38) rfl ?_
    show Steps p.tables e below (s₁.setTop (mkF m 39 #[.val (.long s3), .second] [(.long ((s3.toUInt64 >>> ((8 : Int32) &&& 0x3f).toInt64.toUInt64).toInt64)), (.long s3)])) _
    refine XS.ladd X0.here hx rfl (hb hby d2_39) rfl ?_
    show Steps p.tables e below (s₁.setTop (mkF m 40 #[.val (.long s3), .second] [(.long (s3 + ((s3.toUInt64 >>> ((8 : Int32) &&& 0x3f).toInt64.toUInt64).toInt64)))])) _
    rw [← hv_s4]
    show Steps p.tables e below (s₁.setTop (mkF m 40 #[.val (.long s3), .second] [(.long s4)])) _
    refine XS.lstoreN X0.here hx rfl (hb hby d2_40) rfl (l' := #[.val (.long s4), .second]) rfl ?_
    show Steps p.tables e below (s₁.setTop (mkF m 41 #[.val (.long s4), .second] [])) _
    refine XS.lloadN X0.here hx rfl (hb hby d2_41) rfl ?_
    show Steps p.tables e below (s₁.setTop (mkF m 42 #[.val (.long s4), .second] [(.long s4)])) _
    refine XS.lloadN X0.here hx rfl (hb hby d2_42) rfl ?_
    show Steps p.tables e below (s₁.setTop (mkF m 43 #[.val (.long s4), .second] [(.long s4), (.long s4)])) _
    refine XS.bipush X0.here hx rfl (hb hby d2_43) ?_
    show Steps p.tables e below (s₁.setTop (mkF m 45 #[.val (.long s4), .second] [(.int (16 : Int32)), (.long s4), (.long s4)])) _
    refine XS.lushr X0.here hx rfl (hb hby d2_45) rfl ?_
    show Steps p.tables e below (s₁.setTop (mkF m 46 #[.val (.long s4), .second] [(.long ((s4.toUInt64 >>> ((16 : Int32) &&& 0x3f).toInt64.toUInt64).toInt64)), (.long s4)])) _
    refine XS.ladd X0.here hx rfl (hb hby d2_46) rfl ?_
    show Steps p.tables e below (s₁.setTop (mkF m 47 #[.val (.long s4), .second] [(.long (s4 + ((s4.toUInt64 >>> ((16 : Int32) &&& 0x3f).toInt64.toUInt64).toInt64)))])) _
    rw [← hv_s5]
    show Steps p.tables e below (s₁.setTop (mkF m 47 #[.val (.long s4), .second] [(.long s5)])) _
    refine XS.lstoreN X0.here hx rfl (hb hby d2_47) rfl (l' := #[.val (.long s5), .second]) rfl ?_
    show Steps p.tables e below (s₁.setTop (mkF m 48 #[.val (.long s5), .second] [])) _
    refine XS.lloadN X0.here hx rfl (hb hby d2_48) rfl ?_
    show Steps p.tables e below (s₁.setTop (mkF m 49 #[.val (.long s5), .second] [(.long s5)])) _
    refine XS.lloadN X0.here hx rfl (hb hby d2_49) rfl ?_
    show Steps p.tables e below (s₁.setTop (mkF m 50 #[.val (.long s5), .second] [(.long s5), (.long s5)])) _
    refine XS.bipush X0.here hx rfl (hb hby d2_50) ?_
    show Steps p.tables e below (s₁.setTop (mkF m 52 #[.val (.long s5), .second] [(.int (32 : Int32)), (.long s5), (.long s5)])) _
    refine XS.lushr X0.here hx rfl (hb hby d2_52) rfl ?_
    show Steps p.tables e below (s₁.setTop (mkF m 53 #[.val (.long s5), .second] [(.long ((s5.toUInt64 >>> ((32 : Int32) &&& 0x3f).toInt64.toUInt64).toInt64)), (.long s5)])) _
    refine XS.ladd X0.here hx rfl (hb hby d2_53) rfl ?_
    show Steps p.tables e below (s₁.setTop (mkF m 54 #[.val (.long s5), .second] [(.long (s5 + ((s5.toUInt64 >>> ((32 : Int32) &&& 0x3f).toInt64.toUInt64).toInt64)))])) _
    rw [← hv_s6]
    show Steps p.tables e below (s₁.setTop (mkF m 54 #[.val (.long s5), .second] [(.long s6)])) _
    refine XS.lstoreN X0.here hx rfl (hb hby d2_54) rfl (l' := #[.val (.long s6), .second]) rfl ?_
    show Steps p.tables e below (s₁.setTop (mkF m 55 #[.val (.long s6), .second] [])) _
    refine XS.lloadN X0.here hx rfl (hb hby d2_55) rfl ?_
    show Steps p.tables e below (s₁.setTop (mkF m 56 #[.val (.long s6), .second] [(.long s6)])) _
    refine XS.l2i X0.here hx rfl (hb hby d2_56) rfl ?_
    show Steps p.tables e below (s₁.setTop (mkF m 57 #[.val (.long s6), .second] [(.int (s6.toInt32))])) _
    refine XS.bipush X0.here hx rfl (hb hby d2_57) ?_
    show Steps p.tables e below (s₁.setTop (mkF m 59 #[.val (.long s6), .second] [(.int (127 : Int32)), (.int (s6.toInt32))])) _
    refine XS.iand X0.here hx rfl (hb hby d2_59) rfl ?_
    show Steps p.tables e below (s₁.setTop (mkF m 60 #[.val (.long s6), .second] [(.int ((s6.toInt32) &&& (127 : Int32)))])) _
    exact own_retI X0 hx Bd.returns (hb hby d2_60) hr
  · show QI q1 h0 n0 _ s₁.heap _
    rw [e0]
    subst hv_s6 hv_s5 hv_s4 hv_s3 hv_s2 hv_s1
    exact ⟨rfl, N0, rfl⟩
def own_count (q1 : Int64) : Int64 := (((2 : Int64) * ((q1.toUInt64 >>> ((8 : Int32) &&& 0x3f).toInt64.toUInt64).toInt64)) - ((own_bc ((q1.toUInt64 >>> ((8 : Int32) &&& 0x3f).toInt64.toUInt64).toInt64)).toInt64))
def QL (q1 : Int64) (h0 : Heap) (n0 : Nat) (v : Option Value) (h : Heap) (L : List Loc) : Prop := v = some (.long (own_count q1)) ∧ Fr n0 L ∧ h = h0
set_option maxRecDepth 65536 in
set_option maxHeartbeats 40000000 in
theorem rmC (l : Launch) (Z : State) (a0 : Array Value) (hw : ∀ d ∈ tables_1, d.before a0 Z = true) (ws : List Jvm.Cond) (q1 : Int64) (h0 : Heap) (n0 : Nat) (Z0 : n0 ≤ h0.size)  :
    MetFree l (⟨"com/example/custody/custody/merkle/KeptSubtrees", "count", "(J)J"⟩ : MethodName) (head1 (Jvm.Cond.code (⟨"com/example/custody/custody/merkle/KeptSubtrees", "count", "(J)J"⟩ : MethodName) prog_14_method_2_code 4 (some .long) :: ws) ({ frames := 1, cells := 0, slots := 0, locals := 15 } : Room)) (fun a U => a = #[(.long q1)] ∧ Z.Warmed39 U.vm ∧ U.heap = h0) (fun _ _ _ _ _ => True) (fun _ U o U' => ∃ v L, o = .returned v ∧ QL q1 h0 n0 v U'.heap L ∧ FrameEnd U o U' L ({ frames := 1, cells := 0, slots := 0, locals := 15 } : Room).cells ({ frames := 1, cells := 0, slots := 0, locals := 15 } : Room).slots) := by
  refine MetFree.of_bodySF (plainFor_of_name own_pn1) hisR ?_
  intro p e s m args below meth c s₁ Bd hml0 hP hK
  obtain ⟨rfl, hZ, hh⟩ := hP
  have hx := Bd.exec
  have hby := Bd.bytes
  have hml : c.maxLocals = 4 := hml0
  have hown : s.vm.findClass "com/example/custody/custody/merkle/KeptSubtrees" = some m.cls := findClass_of_methodNamed Bd.named
  have hnm := (name_of_methodNamed Bd.named Bd.method).1
  have X0 : Stand p l e ({ frames := 1, cells := 0, slots := 0, locals := 15 } : Room) s m #[(.long q1)] below meth c s₁ [] 0 0 := Stand.of_body Bd
  have e0 : s₁.heap = h0 := by rw [← hh, Bd.state]; rfl
  have N0 := Fr.nil n0
  have ef : entryFrame m #[(.long q1)] 4 = mkF m 0 #[.val (.long q1), .second, .unset, .unset] [] := by first | (simp [entryFrame, mkF, argsToLocals, Value.category]; done) | rfl
  have pre0 : ∀ t, Steps p.tables e below (s₁.setTop (mkF m 0 #[.val (.long q1), .second, .unset, .unset] [])) t → Steps p.tables e below (s₁.setTop (entryFrame m #[(.long q1)] 4)) t := fun t k => castTop ef k
  obtain ⟨_, _, ⟨T101, L101, k101, n101⟩, -, X101, ⟨Lc101, hQ101, l101, y101, z101⟩, st101⟩ := Jvm.LawKit.callS X0 hx (y := (⟨"java/lang/Long", "bitCount", "(J)I"⟩ : MethodName)) hown (mvT hZ (hw _ (List.mem_of_getElem? (i := 6) rfl))) (mvT hZ (hw _ (List.mem_of_getElem? (i := 7) rfl))) (mvT hZ (hw _ (List.mem_of_getElem? (i := 8) rfl))) (mvT hZ (hw _ (List.mem_of_getElem? (i := 9) rfl))) (by decide) (backOf (W := 2) (rmB l Z a0 hw [] ((q1.toUInt64 >>> ((8 : Int32) &&& 0x3f).toInt64.toUInt64).toInt64) h0 n0 Z0 ) hZ (hw _ (List.mem_of_getElem? (i := 9) rfl)) (hw _ (List.mem_of_getElem? (i := 8) rfl)) (by decide) (by decide)) (g := (mkF m 11 #[.val (.long q1), .second, .val (.long ((q1.toUInt64 >>> ((8 : Int32) &&& 0x3f).toInt64.toUInt64).toInt64)), .second] [(.long ((q1.toUInt64 >>> ((8 : Int32) &&& 0x3f).toInt64.toUInt64).toInt64)), (.long ((2 : Int64) * ((q1.toUInt64 >>> ((8 : Int32) &&& 0x3f).toInt64.toUInt64).toInt64)))])) rfl (by rw [hml]; rfl) (argsL := [(.long ((q1.toUInt64 >>> ((8 : Int32) &&& 0x3f).toInt64.toUInt64).toInt64))]) (rest := [(.long ((2 : Int64) * ((q1.toUInt64 >>> ((8 : Int32) &&& 0x3f).toInt64.toUInt64).toInt64)))]) (lenOf own_pd0 rfl) rfl (by show 2 * 0 + _ ≤ _; exact Nat.le_of_eq rfl) (hb hby d1_11) (fun _ _ => ⟨rfl, e0, (by decide : 0 + 0 ≤ _), (by decide : 0 + 0 ≤ _)⟩)
  dsimp only [Pt.U, Pt.locs, Pt.cells, Pt.slots] at X101 l101 y101 z101 st101 hQ101
  subst l101 y101 z101
  obtain ⟨rfl, Nq101, e101⟩ := hQ101
  have N101 := Fr.app N0 Nq101
  obtain ⟨fs, hr, hrun, hended, hW, hsame⟩ := X101.leave (v := some (.long (((2 : Int64) * ((q1.toUInt64 >>> ((8 : Int32) &&& 0x3f).toInt64.toUInt64).toInt64)) - ((own_bc ((q1.toUInt64 >>> ((8 : Int32) &&& 0x3f).toInt64.toUInt64).toInt64)).toInt64)))) (fun h => by rw [Bd.returns] at h; cases h)
  refine ⟨_, _, pre0 _ ?_, hrun, hended, _, _, rfl, ?_, ⟨_, rfl⟩, hW, hsame.mono (by decide) (by decide)⟩
  · show Steps p.tables e below (s₁.setTop (mkF m 0 #[.val (.long q1), .second, .unset, .unset] [])) _
    refine XS.lloadN X0.here hx rfl (hb hby d1_0) rfl ?_
    show Steps p.tables e below (s₁.setTop (mkF m 1 #[.val (.long q1), .second, .unset, .unset] [(.long q1)])) _
    refine XS.bipush X0.here hx rfl (hb hby d1_1) ?_
    show Steps p.tables e below (s₁.setTop (mkF m 3 #[.val (.long q1), .second, .unset, .unset] [(.int (8 : Int32)), (.long q1)])) _
    refine XS.lushr X0.here hx rfl (hb hby d1_3) rfl ?_
    show Steps p.tables e below (s₁.setTop (mkF m 4 #[.val (.long q1), .second, .unset, .unset] [(.long ((q1.toUInt64 >>> ((8 : Int32) &&& 0x3f).toInt64.toUInt64).toInt64))])) _
    refine XS.lstoreN X0.here hx rfl (hb hby d1_4) rfl (l' := #[.val (.long q1), .second, .val (.long ((q1.toUInt64 >>> ((8 : Int32) &&& 0x3f).toInt64.toUInt64).toInt64)), .second]) rfl ?_
    show Steps p.tables e below (s₁.setTop (mkF m 5 #[.val (.long q1), .second, .val (.long ((q1.toUInt64 >>> ((8 : Int32) &&& 0x3f).toInt64.toUInt64).toInt64)), .second] [])) _
    refine X0.ldc2Long hx hown (mvT hZ (hw _ (List.mem_of_getElem? (i := 5) rfl))) (g := (mkF m 5 #[.val (.long q1), .second, .val (.long ((q1.toUInt64 >>> ((8 : Int32) &&& 0x3f).toInt64.toUInt64).toInt64)), .second] [])) rfl (hb hby d1_5) _ ?_
    show Steps p.tables e below (s₁.setTop (mkF m 8 #[.val (.long q1), .second, .val (.long ((q1.toUInt64 >>> ((8 : Int32) &&& 0x3f).toInt64.toUInt64).toInt64)), .second] [(.long (2 : Int64))])) _
    refine XS.lloadN X0.here hx rfl (hb hby d1_8) rfl ?_
    show Steps p.tables e below (s₁.setTop (mkF m 9 #[.val (.long q1), .second, .val (.long ((q1.toUInt64 >>> ((8 : Int32) &&& 0x3f).toInt64.toUInt64).toInt64)), .second] [(.long ((q1.toUInt64 >>> ((8 : Int32) &&& 0x3f).toInt64.toUInt64).toInt64)), (.long (2 : Int64))])) _
    refine XS.lmul X0.here hx rfl (hb hby d1_9) rfl ?_
    show Steps p.tables e below (s₁.setTop (mkF m 10 #[.val (.long q1), .second, .val (.long ((q1.toUInt64 >>> ((8 : Int32) &&& 0x3f).toInt64.toUInt64).toInt64)), .second] [(.long ((2 : Int64) * ((q1.toUInt64 >>> ((8 : Int32) &&& 0x3f).toInt64.toUInt64).toInt64)))])) _
    refine XS.lloadN X0.here hx rfl (hb hby d1_10) rfl ?_
    show Steps p.tables e below (s₁.setTop (mkF m 11 #[.val (.long q1), .second, .val (.long ((q1.toUInt64 >>> ((8 : Int32) &&& 0x3f).toInt64.toUInt64).toInt64)), .second] [(.long ((q1.toUInt64 >>> ((8 : Int32) &&& 0x3f).toInt64.toUInt64).toInt64)), (.long ((2 : Int64) * ((q1.toUInt64 >>> ((8 : Int32) &&& 0x3f).toInt64.toUInt64).toInt64)))])) _
    refine st101 _ ?_
    show Steps p.tables e below (T101.setTop (mkF m 14 #[.val (.long q1), .second, .val (.long ((q1.toUInt64 >>> ((8 : Int32) &&& 0x3f).toInt64.toUInt64).toInt64)), .second] [(.int (own_bc ((q1.toUInt64 >>> ((8 : Int32) &&& 0x3f).toInt64.toUInt64).toInt64))), (.long ((2 : Int64) * ((q1.toUInt64 >>> ((8 : Int32) &&& 0x3f).toInt64.toUInt64).toInt64)))])) _
    refine XS.i2l X101.here hx rfl (hb hby d1_14) rfl ?_
    show Steps p.tables e below (T101.setTop (mkF m 15 #[.val (.long q1), .second, .val (.long ((q1.toUInt64 >>> ((8 : Int32) &&& 0x3f).toInt64.toUInt64).toInt64)), .second] [(.long ((own_bc ((q1.toUInt64 >>> ((8 : Int32) &&& 0x3f).toInt64.toUInt64).toInt64)).toInt64)), (.long ((2 : Int64) * ((q1.toUInt64 >>> ((8 : Int32) &&& 0x3f).toInt64.toUInt64).toInt64)))])) _
    refine XS.lsub X101.here hx rfl (hb hby d1_15) rfl ?_
    show Steps p.tables e below (T101.setTop (mkF m 16 #[.val (.long q1), .second, .val (.long ((q1.toUInt64 >>> ((8 : Int32) &&& 0x3f).toInt64.toUInt64).toInt64)), .second] [(.long (((2 : Int64) * ((q1.toUInt64 >>> ((8 : Int32) &&& 0x3f).toInt64.toUInt64).toInt64)) - ((own_bc ((q1.toUInt64 >>> ((8 : Int32) &&& 0x3f).toInt64.toUInt64).toInt64)).toInt64)))])) _
    exact own_retL X101 hx Bd.returns (hb hby d1_16) hr
  · show QL q1 h0 n0 _ T101.heap _
    rw [e101]
    exact ⟨rfl, N101, rfl⟩
def own_R : Nat → Nat
  | 0 => 0
  | n + 1 => 256 * own_R n + 1
def own_pcr : Nat → Nat → Nat
  | 0, _ => 0
  | n + 1, x => x % 2 + own_pcr n (x / 2)
def own_bm : Nat → Nat → Nat
  | 0, _ => 0
  | n + 1, x => 256 * own_bm n (x / 256) + own_pcr 8 (x % 256)
def own_S1 (n x : Nat) : Nat := x - ((x / 2) &&& (85 * own_R n))
def own_S2 (n x : Nat) : Nat := (own_S1 n x &&& (51 * own_R n)) + ((own_S1 n x / 4) &&& (51 * own_R n))
def own_S3 (n x : Nat) : Nat := (own_S2 n x + own_S2 n x / 16) &&& (15 * own_R n)
def own_b1 (r : Nat) : Nat := r - ((r / 2) &&& 85)
def own_b2 (r : Nat) : Nat := (own_b1 r &&& 51) + ((own_b1 r / 4) &&& 51)
theorem own_and (a r m k : Nat) (hr : r < 256) (hk : k < 256) : (256 * a + r) &&& (256 * m + k) = 256 * (a &&& m) + (r &&& k) := by
  have h1 : ((256 * a + r) &&& (256 * m + k)) / 2 ^ 8 = ((256 * a + r) / 2 ^ 8) &&& ((256 * m + k) / 2 ^ 8) := Nat.and_div_two_pow
  have h2 : ((256 * a + r) &&& (256 * m + k)) % 2 ^ 8 = ((256 * a + r) % 2 ^ 8) &&& ((256 * m + k) % 2 ^ 8) := Nat.and_mod_two_pow
  rw [show (256 * a + r) / 2 ^ 8 = a by omega, show (256 * m + k) / 2 ^ 8 = m by omega] at h1
  rw [show (256 * a + r) % 2 ^ 8 = r by omega, show (256 * m + k) % 2 ^ 8 = k by omega] at h2
  omega
theorem own_t1 : ∀ r : Fin 256, ∀ e : Fin 2, (128 * e.1 + r.1 / 2) &&& 85 = (r.1 / 2) &&& 85 := by decide +kernel
theorem own_t2 : ∀ r : Fin 256, ∀ e : Fin 4, (64 * e.1 + own_b1 r.1 / 4) &&& 51 = (own_b1 r.1 / 4) &&& 51 := by decide +kernel
theorem own_t3 : ∀ r : Fin 256, ∀ e : Fin 5, 16 * e.1 + (own_b2 r.1 + own_b2 r.1 / 16) < 256 ∧ (16 * e.1 + (own_b2 r.1 + own_b2 r.1 / 16)) &&& 15 = own_pcr 8 r.1 := by decide +kernel
theorem own_t4 : ∀ r : Fin 256, own_b1 r.1 < 256 ∧ (r.1 / 2) &&& 85 ≤ r.1 ∧ own_b2 r.1 < 256 ∧ own_b2 r.1 % 16 ≤ 4 ∧ own_pcr 8 r.1 ≤ 8 := by decide +kernel
theorem own_s1 (n y r : Nat) (hr : r < 256) : own_S1 (n + 1) (256 * y + r) = 256 * own_S1 n y + own_b1 r := by
  unfold own_S1 own_b1
  rw [show (256 * y + r) / 2 = 256 * (y / 2) + (128 * (y % 2) + r / 2) by omega, show 85 * own_R (n + 1) = 256 * (85 * own_R n) + 85 by simp only [own_R]; omega, own_and _ _ _ _ (by omega) (by omega)]
  have h1 := own_t1 ⟨r, hr⟩ ⟨y % 2, by omega⟩
  have h2 := (own_t4 ⟨r, hr⟩).2.1
  simp only at h1 h2
  rw [h1]
  have h3 : (y / 2) &&& (85 * own_R n) ≤ y / 2 := Nat.and_le_left
  omega
theorem own_s2 (n y r : Nat) (hr : r < 256) : own_S2 (n + 1) (256 * y + r) = 256 * own_S2 n y + own_b2 r := by
  unfold own_S2 own_b2
  rw [own_s1 n y r hr]
  generalize own_S1 n y = Y
  have h0 := (own_t4 ⟨r, hr⟩).1
  have h1 := own_t2 ⟨r, hr⟩ ⟨Y % 4, by omega⟩
  simp only at h0 h1
  rw [show (256 * Y + own_b1 r) / 4 = 256 * (Y / 4) + (64 * (Y % 4) + own_b1 r / 4) by omega, show 51 * own_R (n + 1) = 256 * (51 * own_R n) + 51 by simp only [own_R]; omega, own_and _ _ _ _ h0 (by omega), own_and _ _ _ _ (by omega) (by omega), h1]
  omega
theorem own_s2m (n y : Nat) : own_S2 n y % 16 ≤ 4 := by
  cases n with
  | zero => simp [own_S2, own_R]
  | succ n =>
    have h := own_s2 n (y / 256) (y % 256) (by omega)
    rw [show 256 * (y / 256) + y % 256 = y by omega] at h
    have h4 := (own_t4 ⟨y % 256, by omega⟩).2.2.2.1
    simp only at h4
    rw [h]; omega
theorem own_s3 (n y r : Nat) (hr : r < 256) : own_S3 (n + 1) (256 * y + r) = 256 * own_S3 n y + own_pcr 8 r := by
  unfold own_S3
  rw [own_s2 n y r hr]
  have hm := own_s2m n y
  generalize own_S2 n y = Y at *
  have h1 := own_t3 ⟨r, hr⟩ ⟨Y % 16, by omega⟩
  simp only at h1
  rw [show 256 * Y + own_b2 r + (256 * Y + own_b2 r) / 16 = 256 * (Y + Y / 16) + (16 * (Y % 16) + (own_b2 r + own_b2 r / 16)) by omega, show 15 * own_R (n + 1) = 256 * (15 * own_R n) + 15 by simp only [own_R]; omega, own_and _ _ _ _ h1.1 (by omega), h1.2]
theorem own_s3b (n : Nat) : ∀ x, own_S3 n x = own_bm n x := by
  induction n with
  | zero => intro x; simp [own_S3, own_R, own_bm]
  | succ n ih =>
    intro x
    have h := own_s3 n (x / 256) (x % 256) (by omega)
    rw [show 256 * (x / 256) + x % 256 = x by omega] at h
    rw [h, ih, own_bm]
theorem own_pcr8 (k x : Nat) : own_pcr (k + 8) x = own_pcr 8 (x % 256) + own_pcr k (x / 256) := by
  simp only [own_pcr, Nat.div_div_eq_div_mul, Nat.reduceMul]
  rw [show x % 256 % 2 = x % 2 by omega, show x % 256 / 2 % 2 = x / 2 % 2 by omega, show x % 256 / 4 % 2 = x / 4 % 2 by omega, show x % 256 / 8 % 2 = x / 8 % 2 by omega, show x % 256 / 16 % 2 = x / 16 % 2 by omega, show x % 256 / 32 % 2 = x / 32 % 2 by omega, show x % 256 / 64 % 2 = x / 64 % 2 by omega, show x % 256 / 128 % 2 = x / 128 % 2 by omega]
  omega
theorem own_pcr_le (x : Nat) : own_pcr 8 (x % 256) ≤ 8 := (own_t4 ⟨x % 256, by omega⟩).2.2.2.2
theorem own_dv (x B r m : Nat) (h : x = m * B + r) (hr : r < m) : x / m = B := by
  rw [h, Nat.mul_add_div (by omega), Nat.div_eq_of_lt hr, Nat.add_zero]
theorem own_sum8 (t p0 p1 p2 p3 p4 p5 p6 p7 : Nat) (h0 : p0 ≤ 8) (h1 : p1 ≤ 8) (h2 : p2 ≤ 8) (h3 : p3 ≤ 8) (h4 : p4 ≤ 8) (h5 : p5 ≤ 8) (h6 : p6 ≤ 8) (h7 : p7 ≤ 8)
    (ht : t = 256 * (256 * (256 * (256 * (256 * (256 * (256 * (256 * 0 + p7) + p6) + p5) + p4) + p3) + p2) + p1) + p0) {u v w : Nat} (hu : u = t + t / 256) (hv : v = u + u / 65536) (hw : w = v + v / 4294967296) :
    w % 128 = p0 + p1 + p2 + p3 + p4 + p5 + p6 + p7 := by
  obtain ⟨A7, e7⟩ : ∃ A, A = 256 * 0 + p7 := ⟨_, rfl⟩
  obtain ⟨A6, e6⟩ : ∃ A, A = 256 * A7 + p6 := ⟨_, rfl⟩
  obtain ⟨A5, e5⟩ : ∃ A, A = 256 * A6 + p5 := ⟨_, rfl⟩
  obtain ⟨A4, e4⟩ : ∃ A, A = 256 * A5 + p4 := ⟨_, rfl⟩
  obtain ⟨A3, e3⟩ : ∃ A, A = 256 * A4 + p3 := ⟨_, rfl⟩
  obtain ⟨A2, e2⟩ : ∃ A, A = 256 * A3 + p2 := ⟨_, rfl⟩
  obtain ⟨A1, e1⟩ : ∃ A, A = 256 * A2 + p1 := ⟨_, rfl⟩
  rw [← e7, ← e6, ← e5, ← e4, ← e3, ← e2, ← e1] at ht
  have q1 : t / 256 = A1 := own_dv t A1 p0 256 ht (by omega)
  rw [q1] at hu
  have q2 : u / 65536 = A2 + A3 := by
    refine own_dv u (A2 + A3) (256 * (p1 + p2) + (p0 + p1)) 65536 ?_ (by omega)
    rw [hu, ht]; clear hv hw; omega
  rw [q2] at hv
  have q3 : v / 4294967296 = A4 + A5 + A6 + A7 := by
    refine own_dv v (A4 + A5 + A6 + A7) (16777216 * (p3 + p4 + p5 + p6) + 65536 * (p2 + p3 + p4 + p5) + 256 * (p1 + p2 + p3 + p4) + (p0 + p1 + p2 + p3)) 4294967296 ?_ (by omega)
    rw [hv, hu, ht]; clear hw; omega
  rw [q3] at hw
  have q4 : w = 256 * (A1 + A2 + A3 + A4 + A5 + A6 + A7) + (p0 + p1 + p2 + p3 + p4 + p5 + p6 + p7) := by
    rw [hw, hv, hu, ht]; omega
  have q5 : p0 + p1 + p2 + p3 + p4 + p5 + p6 + p7 < 128 := by omega
  generalize p0 + p1 + p2 + p3 + p4 + p5 + p6 + p7 = S at q4 q5 ⊢
  generalize A1 + A2 + A3 + A4 + A5 + A6 + A7 = B at q4
  omega
theorem own_tail (x : Nat) {u v w : Nat} (hu : u = own_bm 8 x + own_bm 8 x / 256) (hv : v = u + u / 65536) (hw : w = v + v / 4294967296) : w % 128 = own_pcr 64 x := by
  have e : own_pcr 64 x = own_pcr 8 (x % 256) + own_pcr 8 (x / 256 % 256) + own_pcr 8 (x / 256 / 256 % 256) + own_pcr 8 (x / 256 / 256 / 256 % 256) + own_pcr 8 (x / 256 / 256 / 256 / 256 % 256) + own_pcr 8 (x / 256 / 256 / 256 / 256 / 256 % 256) + own_pcr 8 (x / 256 / 256 / 256 / 256 / 256 / 256 % 256) + own_pcr 8 (x / 256 / 256 / 256 / 256 / 256 / 256 / 256 % 256) := by
    rw [show own_pcr 64 (x) = _ from own_pcr8 56 (x), show own_pcr 56 (x / 256) = _ from own_pcr8 48 (x / 256), show own_pcr 48 (x / 256 / 256) = _ from own_pcr8 40 (x / 256 / 256), show own_pcr 40 (x / 256 / 256 / 256) = _ from own_pcr8 32 (x / 256 / 256 / 256), show own_pcr 32 (x / 256 / 256 / 256 / 256) = _ from own_pcr8 24 (x / 256 / 256 / 256 / 256), show own_pcr 24 (x / 256 / 256 / 256 / 256 / 256) = _ from own_pcr8 16 (x / 256 / 256 / 256 / 256 / 256), show own_pcr 16 (x / 256 / 256 / 256 / 256 / 256 / 256) = _ from own_pcr8 8 (x / 256 / 256 / 256 / 256 / 256 / 256), show own_pcr 8 (x / 256 / 256 / 256 / 256 / 256 / 256 / 256) = _ from own_pcr8 0 (x / 256 / 256 / 256 / 256 / 256 / 256 / 256), show ∀ y, own_pcr 0 y = 0 from fun _ => rfl]
    omega
  rw [e]
  exact own_sum8 _ _ _ _ _ _ _ _ _ (own_pcr_le _) (own_pcr_le _) (own_pcr_le _) (own_pcr_le _) (own_pcr_le _) (own_pcr_le _) (own_pcr_le _) (own_pcr_le _) rfl hu hv hw
def own_N (x : Int64) : Nat := x.toBitVec.toNat
theorem own_N_lt (x : Int64) : own_N x < 18446744073709551616 := x.toBitVec.isLt
theorem own_N_add (x y : Int64) (h : own_N x + own_N y < 18446744073709551616) : own_N (x + y) = own_N x + own_N y := by
  unfold own_N at *; rw [Int64.toBitVec_add, BitVec.toNat_add]; omega
theorem own_N_sub (x y : Int64) (h : own_N y ≤ own_N x) : own_N (x - y) = own_N x - own_N y := by
  have := own_N_lt x
  unfold own_N at *; rw [Int64.toBitVec_sub, BitVec.toNat_sub]; omega
theorem own_N_and (x y : Int64) : own_N (x &&& y) = own_N x &&& own_N y := by
  unfold own_N; rw [Int64.toBitVec_and, BitVec.toNat_and]
theorem own_N_shr (x : Int64) (k : Int32) (j : Nat) (hk : ((k &&& 0x3f).toInt64.toUInt64).toNat = j) (hj : j < 64) : own_N ((x.toUInt64 >>> (k &&& 0x3f).toInt64.toUInt64).toInt64) = own_N x / 2 ^ j := by
  show (x.toUInt64 >>> (k &&& 0x3f).toInt64.toUInt64).toNat = x.toUInt64.toNat / 2 ^ j
  rw [UInt64.toNat_shiftRight, hk, Nat.mod_eq_of_lt hj, Nat.shiftRight_eq_div_pow]
theorem own_N_int (x : Int64) (h : own_N x < 9223372036854775808) : x.toInt = (own_N x : Int) := by
  unfold own_N at *
  show x.toBitVec.toInt = _
  rw [BitVec.toInt_eq_toNat_cond, if_pos (by omega)]
theorem own_N_le (z m : Int64) : own_N (z &&& m) ≤ own_N m := by rw [own_N_and]; exact Nat.and_le_right
theorem own_bcN (q : Int64) : (own_bc q).toInt = (own_pcr 64 (own_N q) : Int) := by
  have key : ∀ s1 s2 s3 s4 s5 s6 : Int64, s1 = (q - (((q.toUInt64 >>> ((1 : Int32) &&& 0x3f).toInt64.toUInt64).toInt64) &&& (6148914691236517205 : Int64))) →
      s2 = ((s1 &&& (3689348814741910323 : Int64)) + (((s1.toUInt64 >>> ((2 : Int32) &&& 0x3f).toInt64.toUInt64).toInt64) &&& (3689348814741910323 : Int64))) →
      s3 = ((s2 + ((s2.toUInt64 >>> ((4 : Int32) &&& 0x3f).toInt64.toUInt64).toInt64)) &&& (1085102592571150095 : Int64)) →
      s4 = (s3 + ((s3.toUInt64 >>> ((8 : Int32) &&& 0x3f).toInt64.toUInt64).toInt64)) → s5 = (s4 + ((s4.toUInt64 >>> ((16 : Int32) &&& 0x3f).toInt64.toUInt64).toInt64)) →
      s6 = (s5 + ((s5.toUInt64 >>> ((32 : Int32) &&& 0x3f).toInt64.toUInt64).toInt64)) → ((s6.toInt32) &&& (127 : Int32)).toInt = (own_pcr 64 (own_N q) : Int) := by
    intro s1 s2 s3 s4 s5 s6 h1 h2 h3 h4 h5 h6
    have m1 : own_N (6148914691236517205 : Int64) = 85 * own_R 8 := by decide +kernel
    have m2 : own_N (3689348814741910323 : Int64) = 51 * own_R 8 := by decide +kernel
    have m2' : own_N (3689348814741910323 : Int64) = 3689348814741910323 := by decide +kernel
    have m4 : own_N (1085102592571150095 : Int64) = 15 * own_R 8 := by decide +kernel
    have m4' : own_N (1085102592571150095 : Int64) = 1085102592571150095 := by decide +kernel
    have n1 : own_N s1 = own_S1 8 (own_N q) := by
      have e : own_N (((q.toUInt64 >>> ((1 : Int32) &&& 0x3f).toInt64.toUInt64).toInt64) &&& (6148914691236517205 : Int64)) = (own_N q / 2) &&& (85 * own_R 8) := by
        rw [own_N_and, m1, own_N_shr q 1 1 (by decide +kernel) (by decide)]
      rw [h1, own_N_sub _ _ (by rw [e]; exact Nat.le_trans Nat.and_le_left (Nat.div_le_self _ _)), e]; rfl
    have b1 := own_N_le s1 3689348814741910323
    have b2 := own_N_le ((s1.toUInt64 >>> ((2 : Int32) &&& 0x3f).toInt64.toUInt64).toInt64) 3689348814741910323
    rw [m2'] at b1 b2
    have e2 := own_N_add (s1 &&& (3689348814741910323 : Int64)) (((s1.toUInt64 >>> ((2 : Int32) &&& 0x3f).toInt64.toUInt64).toInt64) &&& (3689348814741910323 : Int64)) (by omega)
    rw [← h2] at e2
    have n2 : own_N s2 = own_S2 8 (own_N q) := by
      rw [e2, own_N_and, own_N_and, m2, own_N_shr s1 2 2 (by decide +kernel) (by decide), n1]; rfl
    have k4 := own_N_shr s2 4 4 (by decide +kernel) (by decide)
    have e3 := own_N_add s2 ((s2.toUInt64 >>> ((4 : Int32) &&& 0x3f).toInt64.toUInt64).toInt64) (by rw [k4]; omega)
    have n3 : own_N s3 = own_bm 8 (own_N q) := by
      rw [← own_s3b, h3, own_N_and, m4, e3, k4, n2]; rfl
    have b3 : own_N s3 ≤ 1085102592571150095 := by rw [h3]; exact Nat.le_trans (own_N_le _ _) (Nat.le_of_eq m4')
    have k8 := own_N_shr s3 8 8 (by decide +kernel) (by decide)
    have n4 : own_N s4 = own_N s3 + own_N s3 / 256 := by
      rw [h4, own_N_add _ _ (by rw [k8]; omega), k8]
    have k16 := own_N_shr s4 16 16 (by decide +kernel) (by decide)
    have n5 : own_N s5 = own_N s4 + own_N s4 / 65536 := by
      rw [h5, own_N_add _ _ (by rw [k16]; omega), k16]
    have k32 := own_N_shr s5 32 32 (by decide +kernel) (by decide)
    have n6 : own_N s6 = own_N s5 + own_N s5 / 4294967296 := by
      rw [h6, own_N_add _ _ (by rw [k32]; omega), k32]
    have fin := own_tail (own_N q) (u := own_N s4) (v := own_N s5) (w := own_N s6) (by rw [n4, n3]) n5 n6
    have i6 := own_N_int s6 (by omega)
    have hd : ((2 : Int) ^ 7) ∣ ((2 ^ 32 : Nat) : Int) := by decide
    rw [Jvm.Kit.i32_mask _ 127 (k := 7) (by decide) (by decide), Int64.toInt_toInt32, i6, ← Int.emod_emod_of_dvd (Int.bmod _ _) hd, Int.bmod_emod, Int.emod_emod_of_dvd _ hd]
    omega
  exact key _ _ _ _ _ _ rfl rfl rfl rfl rfl rfl
theorem own_pcr_half (x : Nat) (h : x < 2 ^ 64) : own_pcr 64 x = x % 2 + own_pcr 64 (x / 2) := by
  have key : ∀ n y, y < 2 ^ n → own_pcr (n + 1) y = own_pcr n y := by
    intro n
    induction n with
    | zero => intro y hy; have : y = 0 := by omega
              subst this; rfl
    | succ n ih =>
      intro y hy
      show y % 2 + own_pcr (n + 1) (y / 2) = y % 2 + own_pcr n (y / 2)
      rw [ih (y / 2) (by rw [Nat.pow_succ] at hy; omega)]
  have h2 := key 63 (x / 2) (by omega)
  show x % 2 + own_pcr 63 (x / 2) = _
  rw [← h2]
theorem own_pcr_bound (n x : Nat) : own_pcr n x ≤ n := by
  induction n generalizing x with
  | zero => exact Nat.le_refl _
  | succ n ih => have := ih (x / 2); show x % 2 + own_pcr n (x / 2) ≤ n + 1; omega
theorem own_N_zero (x : Int64) (h : own_N x = 0) : x = 0 := by
  apply Int64.toBitVec_inj.mp
  apply BitVec.eq_of_toNat_eq
  exact h
theorem own_base (p : Int32) : own_count ((p &&& (255 : Int32)).toInt64) = (0 : Int64) := by
  have h : own_N ((((p &&& (255 : Int32)).toInt64).toUInt64 >>> ((8 : Int32) &&& 0x3f).toInt64.toUInt64).toInt64) = 0 := by
    rw [own_N_shr _ 8 8 (by decide +kernel) (by decide)]
    have e : ((p &&& (255 : Int32)).toInt64).toInt = p.toInt % 2 ^ 8 := by
      rw [Int32.toInt_toInt64]; exact Jvm.Kit.i32_mask p 255 (by decide) (by decide)
    have e2 : ((p &&& (255 : Int32)).toInt64).toInt = Int.bmod (own_N ((p &&& (255 : Int32)).toInt64)) (2 ^ 64) := BitVec.toInt_eq_toNat_bmod _
    have h3 := own_N_lt ((p &&& (255 : Int32)).toInt64)
    rw [e, Int.bmod_def] at e2
    omega
  unfold own_count
  rw [own_N_zero _ h]
  decide +kernel
theorem own_cnt (x : Int64) (h : own_N x < 9223372036854775808) : (own_count x).toInt = 2 * ((own_N x / 256 : Nat) : Int) - (own_pcr 64 (own_N x / 256) : Int) := by
  unfold own_count
  have k8 := own_N_shr x 8 8 (by decide +kernel) (by decide)
  have hb := own_bcN ((x.toUInt64 >>> ((8 : Int32) &&& 0x3f).toInt64.toUInt64).toInt64)
  have hi := own_N_int ((x.toUInt64 >>> ((8 : Int32) &&& 0x3f).toInt64.toUInt64).toInt64) (by rw [k8]; omega)
  rw [k8] at hb hi
  generalize (x.toUInt64 >>> ((8 : Int32) &&& 0x3f).toInt64.toUInt64).toInt64 = b at *
  have hp := own_pcr_bound 64 (own_N x / 2 ^ 8)
  have e2 : (2 : Int64).toInt = 2 := rfl
  have e1 : ((2 : Int64) * b).toInt = 2 * b.toInt := by
    rw [Jvm.Kit.i64_mul (by rw [e2, hi]; omega) (by rw [e2, hi]; omega), e2]
  have e3 : (own_bc b).toInt64.toInt = (own_bc b).toInt := Int32.toInt_toInt64 _
  rw [Jvm.Kit.i64_sub (by rw [e1, e3, hb, hi]; omega) (by rw [e1, e3, hb, hi]; omega), e1, e3, hb, hi]
theorem own_step (q : Int64) : own_count (q &&& (9223372036854775807 : Int64)) = ((((q &&& (9223372036854775807 : Int64)).toUInt64 >>> ((8 : Int32) &&& 0x3f).toInt64.toUInt64).toInt64) + own_count ((((q &&& (9223372036854775807 : Int64)).toUInt64 >>> ((1 : Int32) &&& 0x3f).toInt64.toUInt64).toInt64))) := by
  have hn : own_N (q &&& (9223372036854775807 : Int64)) < 9223372036854775808 := Nat.lt_of_le_of_lt (own_N_le _ _) (by decide +kernel)
  generalize (q &&& (9223372036854775807 : Int64)) = n at *
  have k8 := own_N_shr n 8 8 (by decide +kernel) (by decide)
  have k1 := own_N_shr n 1 1 (by decide +kernel) (by decide)
  have c1 := own_cnt n hn
  have c2 := own_cnt ((n.toUInt64 >>> ((1 : Int32) &&& 0x3f).toInt64.toUInt64).toInt64) (by rw [k1]; omega)
  have i8 := own_N_int ((n.toUInt64 >>> ((8 : Int32) &&& 0x3f).toInt64.toUInt64).toInt64) (by rw [k8]; omega)
  rw [k1] at c2
  rw [k8] at i8
  have hh := own_pcr_half (own_N n / 256) (by omega)
  have p1 := own_pcr_bound 64 (own_N n / 256)
  have p2 := own_pcr_bound 64 (own_N n / 2 ^ 1 / 256)
  rw [show own_N n / 256 / 2 = own_N n / 2 ^ 1 / 256 by omega] at hh
  apply Int64.toInt_inj.mp
  rw [Jvm.Kit.i64_add (by rw [i8, c2]; omega) (by rw [i8, c2]; omega), c1, c2, i8]
  omega

def QLaw (n0 : Nat) (v : Option Value) (h : Heap) (L : List Loc) : Prop := v = some (.int 1) ∧ Fr n0 L
set_option maxRecDepth 65536 in
set_option maxHeartbeats 40000000 in
theorem rm0 (l : Launch) (Z : State) (a0 : Array Value) (hw : ∀ d ∈ tables_1, d.before a0 Z = true) (ws : List Jvm.Cond) (q0 : Int64) (p1 : Int32) (h0 : Heap) (n0 : Nat) (Z0 : n0 ≤ h0.size)  :
    MetFree l x (head1 (Jvm.Cond.code x code maxLocals ret :: ws) room_1) (fun a U => a = #[(.long q0), (.int p1)] ∧ Z.Warmed39 U.vm ∧ U.heap = h0) (fun _ _ _ _ _ => True) (fun _ U o U' => ∃ v L, o = .returned v ∧ QLaw n0 v U'.heap L ∧ FrameEnd U o U' L room_1.cells room_1.slots) := by
  refine MetFree.of_bodySF (plainFor_of_name own_pn2) hisR ?_
  intro p e s m args below meth c s₁ Bd hml0 hP hK
  obtain ⟨rfl, hZ, hh⟩ := hP
  have hx := Bd.exec
  have hby := Bd.bytes
  have hml : c.maxLocals = 9 := hml0
  have hown : s.vm.findClass "com/example/custody/custody/merkle/KeptSubtreesCountPinLaw" = some m.cls := findClass_of_methodNamed Bd.named
  have hnm := (name_of_methodNamed Bd.named Bd.method).1
  have X0 : Stand p l e room_1 s m #[(.long q0), (.int p1)] below meth c s₁ [] 0 0 := Stand.of_body Bd
  have e0 : s₁.heap = h0 := by rw [← hh, Bd.state]; rfl
  have N0 := Fr.nil n0
  have ef : entryFrame m #[(.long q0), (.int p1)] maxLocals = mkF m 0 #[.val (.long q0), .second, .val (.int p1), .unset, .unset, .unset, .unset, .unset, .unset] [] := by first | (simp [entryFrame, mkF, argsToLocals, Value.category, maxLocals]; done) | rfl
  have pre0 : ∀ t, Steps p.tables e below (s₁.setTop (mkF m 0 #[.val (.long q0), .second, .val (.int p1), .unset, .unset, .unset, .unset, .unset, .unset] [])) t → Steps p.tables e below (s₁.setTop (entryFrame m #[(.long q0), (.int p1)] maxLocals)) t := fun t k => castTop ef k
  obtain ⟨_, _, ⟨T101, L101, k101, n101⟩, -, X101, ⟨Lc101, hQ101, l101, y101, z101⟩, st101⟩ := Jvm.LawKit.callS X0 hx (y := (⟨"com/example/custody/custody/merkle/KeptSubtrees", "count", "(J)J"⟩ : MethodName)) hown (mvT hZ (hw _ (List.mem_of_getElem? (i := 1) rfl))) (mvT hZ (hw _ (List.mem_of_getElem? (i := 2) rfl))) (mvT hZ (hw _ (List.mem_of_getElem? (i := 3) rfl))) (mvT hZ (hw _ (List.mem_of_getElem? (i := 4) rfl))) (by decide) (backOf (W := 0) (rmC l Z a0 hw [] ((p1 &&& (255 : Int32)).toInt64) h0 n0 Z0 ) hZ (hw _ (List.mem_of_getElem? (i := 4) rfl)) (hw _ (List.mem_of_getElem? (i := 3) rfl)) (by decide) (by decide)) (g := (mkF m 16 #[.val (.long q0), .second, .val (.int p1), .val (.long (q0 &&& (9223372036854775807 : Int64))), .second, .val (.long ((p1 &&& (255 : Int32)).toInt64)), .second, .unset, .unset] [(.long ((p1 &&& (255 : Int32)).toInt64))])) rfl (by rw [hml]; rfl) (argsL := [(.long ((p1 &&& (255 : Int32)).toInt64))]) (rest := []) (lenOf own_pd1 rfl) rfl (by show 2 * 0 + _ ≤ _; exact Nat.le_of_eq rfl) (hb hby at_16) (fun _ _ => ⟨rfl, e0, (by decide : 0 + 0 ≤ _), (by decide : 0 + 0 ≤ _)⟩)
  dsimp only [Pt.U, Pt.locs, Pt.cells, Pt.slots] at X101 l101 y101 z101 st101 hQ101
  subst l101 y101 z101
  obtain ⟨rfl, Nq101, e101⟩ := hQ101
  have N101 := Fr.app N0 Nq101
  obtain ⟨_, _, ⟨T102, L102, k102, n102⟩, -, X102, ⟨Lc102, hQ102, l102, y102, z102⟩, st102⟩ := Jvm.LawKit.callS X101 hx (y := (⟨"com/example/custody/custody/merkle/KeptSubtrees", "count", "(J)J"⟩ : MethodName)) hown (mvT hZ (hw _ (List.mem_of_getElem? (i := 1) rfl))) (mvT hZ (hw _ (List.mem_of_getElem? (i := 2) rfl))) (mvT hZ (hw _ (List.mem_of_getElem? (i := 3) rfl))) (mvT hZ (hw _ (List.mem_of_getElem? (i := 4) rfl))) (by decide) (backOf (W := 0) (rmC l Z a0 hw [] (q0 &&& (9223372036854775807 : Int64)) h0 n0 Z0 ) hZ (hw _ (List.mem_of_getElem? (i := 4) rfl)) (hw _ (List.mem_of_getElem? (i := 3) rfl)) (by decide) (by decide)) (g := (mkF m 32 #[.val (.long q0), .second, .val (.int p1), .val (.long (q0 &&& (9223372036854775807 : Int64))), .second, .val (.long ((p1 &&& (255 : Int32)).toInt64)), .second, .val (.int (1 : Int32)), .unset] [(.long (q0 &&& (9223372036854775807 : Int64)))])) rfl (by rw [hml]; rfl) (argsL := [(.long (q0 &&& (9223372036854775807 : Int64)))]) (rest := []) (lenOf own_pd1 rfl) rfl (by show 2 * 0 + _ ≤ _; exact Nat.le_of_eq rfl) (hb hby at_32) (fun _ _ => ⟨rfl, e101, (by decide : 0 + 0 ≤ _), (by decide : 0 + 0 ≤ _)⟩)
  dsimp only [Pt.U, Pt.locs, Pt.cells, Pt.slots] at X102 l102 y102 z102 st102 hQ102
  subst l102 y102 z102
  obtain ⟨rfl, Nq102, e102⟩ := hQ102
  have N102 := Fr.app N101 Nq102
  obtain ⟨_, _, ⟨T103, L103, k103, n103⟩, -, X103, ⟨Lc103, hQ103, l103, y103, z103⟩, st103⟩ := Jvm.LawKit.callS X102 hx (y := (⟨"com/example/custody/custody/merkle/KeptSubtrees", "count", "(J)J"⟩ : MethodName)) hown (mvT hZ (hw _ (List.mem_of_getElem? (i := 1) rfl))) (mvT hZ (hw _ (List.mem_of_getElem? (i := 2) rfl))) (mvT hZ (hw _ (List.mem_of_getElem? (i := 3) rfl))) (mvT hZ (hw _ (List.mem_of_getElem? (i := 4) rfl))) (by decide) (backOf (W := 4) (rmC l Z a0 hw [] (((q0 &&& (9223372036854775807 : Int64)).toUInt64 >>> ((1 : Int32) &&& 0x3f).toInt64.toUInt64).toInt64) h0 n0 Z0 ) hZ (hw _ (List.mem_of_getElem? (i := 4) rfl)) (hw _ (List.mem_of_getElem? (i := 3) rfl)) (by decide) (by decide)) (g := (mkF m 42 #[.val (.long q0), .second, .val (.int p1), .val (.long (q0 &&& (9223372036854775807 : Int64))), .second, .val (.long ((p1 &&& (255 : Int32)).toInt64)), .second, .val (.int (1 : Int32)), .unset] [(.long (((q0 &&& (9223372036854775807 : Int64)).toUInt64 >>> ((1 : Int32) &&& 0x3f).toInt64.toUInt64).toInt64)), (.long (((q0 &&& (9223372036854775807 : Int64)).toUInt64 >>> ((8 : Int32) &&& 0x3f).toInt64.toUInt64).toInt64)), (.long (own_count (q0 &&& (9223372036854775807 : Int64))))])) rfl (by rw [hml]; rfl) (argsL := [(.long (((q0 &&& (9223372036854775807 : Int64)).toUInt64 >>> ((1 : Int32) &&& 0x3f).toInt64.toUInt64).toInt64))]) (rest := [(.long (((q0 &&& (9223372036854775807 : Int64)).toUInt64 >>> ((8 : Int32) &&& 0x3f).toInt64.toUInt64).toInt64)), (.long (own_count (q0 &&& (9223372036854775807 : Int64))))]) (lenOf own_pd1 rfl) rfl (by show 2 * 0 + _ ≤ _; exact Nat.le_of_eq rfl) (hb hby at_42) (fun _ _ => ⟨rfl, e102, (by decide : 0 + 0 ≤ _), (by decide : 0 + 0 ≤ _)⟩)
  dsimp only [Pt.U, Pt.locs, Pt.cells, Pt.slots] at X103 l103 y103 z103 st103 hQ103
  subst l103 y103 z103
  obtain ⟨rfl, Nq103, e103⟩ := hQ103
  have N103 := Fr.app N102 Nq103
  obtain ⟨fs, hr, hrun, hended, hW, hsame⟩ := X103.leave (v := some (.int (1 : Int32))) (fun h => by rw [Bd.returns] at h; cases h)
  refine ⟨_, _, pre0 _ ?_, hrun, hended, _, _, rfl, ?_, ⟨_, rfl⟩, hW, hsame.mono (by decide) (by decide)⟩
  · show Steps p.tables e below (s₁.setTop (mkF m 0 #[.val (.long q0), .second, .val (.int p1), .unset, .unset, .unset, .unset, .unset, .unset] [])) _
    refine XS.lloadN X0.here hx rfl (hb hby at_0) rfl ?_
    show Steps p.tables e below (s₁.setTop (mkF m 1 #[.val (.long q0), .second, .val (.int p1), .unset, .unset, .unset, .unset, .unset, .unset] [(.long q0)])) _
    refine X0.ldc2Long hx hown (mvT hZ (hw _ (List.mem_of_getElem? (i := 0) rfl))) (g := (mkF m 1 #[.val (.long q0), .second, .val (.int p1), .unset, .unset, .unset, .unset, .unset, .unset] [(.long q0)])) rfl (hb hby at_1) _ ?_
    show Steps p.tables e below (s₁.setTop (mkF m 4 #[.val (.long q0), .second, .val (.int p1), .unset, .unset, .unset, .unset, .unset, .unset] [(.long (9223372036854775807 : Int64)), (.long q0)])) _
    refine XS.land X0.here hx rfl (hb hby at_4) rfl ?_
    show Steps p.tables e below (s₁.setTop (mkF m 5 #[.val (.long q0), .second, .val (.int p1), .unset, .unset, .unset, .unset, .unset, .unset] [(.long (q0 &&& (9223372036854775807 : Int64)))])) _
    refine XS.lstoreN X0.here hx rfl (hb hby at_5) rfl (l' := #[.val (.long q0), .second, .val (.int p1), .val (.long (q0 &&& (9223372036854775807 : Int64))), .second, .unset, .unset, .unset, .unset]) rfl ?_
    show Steps p.tables e below (s₁.setTop (mkF m 6 #[.val (.long q0), .second, .val (.int p1), .val (.long (q0 &&& (9223372036854775807 : Int64))), .second, .unset, .unset, .unset, .unset] [])) _
    refine XS.iloadN X0.here hx rfl (hb hby at_6) rfl ?_
    show Steps p.tables e below (s₁.setTop (mkF m 7 #[.val (.long q0), .second, .val (.int p1), .val (.long (q0 &&& (9223372036854775807 : Int64))), .second, .unset, .unset, .unset, .unset] [(.int p1)])) _
    refine XS.sipush X0.here hx rfl (hb hby at_7) ?_
    show Steps p.tables e below (s₁.setTop (mkF m 10 #[.val (.long q0), .second, .val (.int p1), .val (.long (q0 &&& (9223372036854775807 : Int64))), .second, .unset, .unset, .unset, .unset] [(.int (255 : Int32)), (.int p1)])) _
    refine XS.iand X0.here hx rfl (hb hby at_10) rfl ?_
    show Steps p.tables e below (s₁.setTop (mkF m 11 #[.val (.long q0), .second, .val (.int p1), .val (.long (q0 &&& (9223372036854775807 : Int64))), .second, .unset, .unset, .unset, .unset] [(.int (p1 &&& (255 : Int32)))])) _
    refine XS.i2l X0.here hx rfl (hb hby at_11) rfl ?_
    show Steps p.tables e below (s₁.setTop (mkF m 12 #[.val (.long q0), .second, .val (.int p1), .val (.long (q0 &&& (9223372036854775807 : Int64))), .second, .unset, .unset, .unset, .unset] [(.long ((p1 &&& (255 : Int32)).toInt64))])) _
    refine XS.lstore X0.here hx rfl (hb hby at_12) rfl (l' := #[.val (.long q0), .second, .val (.int p1), .val (.long (q0 &&& (9223372036854775807 : Int64))), .second, .val (.long ((p1 &&& (255 : Int32)).toInt64)), .second, .unset, .unset]) rfl ?_
    show Steps p.tables e below (s₁.setTop (mkF m 14 #[.val (.long q0), .second, .val (.int p1), .val (.long (q0 &&& (9223372036854775807 : Int64))), .second, .val (.long ((p1 &&& (255 : Int32)).toInt64)), .second, .unset, .unset] [])) _
    refine XS.lload X0.here hx rfl (hb hby at_14) rfl ?_
    show Steps p.tables e below (s₁.setTop (mkF m 16 #[.val (.long q0), .second, .val (.int p1), .val (.long (q0 &&& (9223372036854775807 : Int64))), .second, .val (.long ((p1 &&& (255 : Int32)).toInt64)), .second, .unset, .unset] [(.long ((p1 &&& (255 : Int32)).toInt64))])) _
    refine st101 _ ?_
    show Steps p.tables e below (T101.setTop (mkF m 19 #[.val (.long q0), .second, .val (.int p1), .val (.long (q0 &&& (9223372036854775807 : Int64))), .second, .val (.long ((p1 &&& (255 : Int32)).toInt64)), .second, .unset, .unset] [(.long (own_count ((p1 &&& (255 : Int32)).toInt64)))])) _
    refine XS.lconst X101.here hx rfl (hb hby at_19) ?_
    show Steps p.tables e below (T101.setTop (mkF m 20 #[.val (.long q0), .second, .val (.int p1), .val (.long (q0 &&& (9223372036854775807 : Int64))), .second, .val (.long ((p1 &&& (255 : Int32)).toInt64)), .second, .unset, .unset] [(.long (0 : Int64)), (.long (own_count ((p1 &&& (255 : Int32)).toInt64)))])) _
    refine XS.lcmp X101.here hx rfl (hb hby at_20) rfl ?_
    show Steps p.tables e below (T101.setTop (mkF m 21 #[.val (.long q0), .second, .val (.int p1), .val (.long (q0 &&& (9223372036854775807 : Int64))), .second, .val (.long ((p1 &&& (255 : Int32)).toInt64)), .second, .unset, .unset] [(.int (lcmpW (own_count ((p1 &&& (255 : Int32)).toInt64)) (0 : Int64)))])) _
    refine XS.ifNo X101.here hx rfl (hb hby at_21) rfl ((if0 _ _).trans (teq (own_lcEq (own_base p1))).2) ?_
    show Steps p.tables e below (T101.setTop (mkF m 24 #[.val (.long q0), .second, .val (.int p1), .val (.long (q0 &&& (9223372036854775807 : Int64))), .second, .val (.long ((p1 &&& (255 : Int32)).toInt64)), .second, .unset, .unset] [])) _
    refine XS.iconst X101.here hx rfl (hb hby at_24) ?_
    show Steps p.tables e below (T101.setTop (mkF m 25 #[.val (.long q0), .second, .val (.int p1), .val (.long (q0 &&& (9223372036854775807 : Int64))), .second, .val (.long ((p1 &&& (255 : Int32)).toInt64)), .second, .unset, .unset] [(.int (1 : Int32))])) _
    refine XS.goto X101.here hx rfl (pc0 := 25) (pc' := 29) rfl (hb hby at_25) (by decide) (by decide) ?_
    show Steps p.tables e below (T101.setTop (mkF m 29 #[.val (.long q0), .second, .val (.int p1), .val (.long (q0 &&& (9223372036854775807 : Int64))), .second, .val (.long ((p1 &&& (255 : Int32)).toInt64)), .second, .unset, .unset] [(.int (1 : Int32))])) _
    refine XS.istore X101.here hx rfl (hb hby at_29) rfl (l' := #[.val (.long q0), .second, .val (.int p1), .val (.long (q0 &&& (9223372036854775807 : Int64))), .second, .val (.long ((p1 &&& (255 : Int32)).toInt64)), .second, .val (.int (1 : Int32)), .unset]) rfl ?_
    show Steps p.tables e below (T101.setTop (mkF m 31 #[.val (.long q0), .second, .val (.int p1), .val (.long (q0 &&& (9223372036854775807 : Int64))), .second, .val (.long ((p1 &&& (255 : Int32)).toInt64)), .second, .val (.int (1 : Int32)), .unset] [])) _
    refine XS.lloadN X101.here hx rfl (hb hby at_31) rfl ?_
    show Steps p.tables e below (T101.setTop (mkF m 32 #[.val (.long q0), .second, .val (.int p1), .val (.long (q0 &&& (9223372036854775807 : Int64))), .second, .val (.long ((p1 &&& (255 : Int32)).toInt64)), .second, .val (.int (1 : Int32)), .unset] [(.long (q0 &&& (9223372036854775807 : Int64)))])) _
    refine st102 _ ?_
    show Steps p.tables e below (T102.setTop (mkF m 35 #[.val (.long q0), .second, .val (.int p1), .val (.long (q0 &&& (9223372036854775807 : Int64))), .second, .val (.long ((p1 &&& (255 : Int32)).toInt64)), .second, .val (.int (1 : Int32)), .unset] [(.long (own_count (q0 &&& (9223372036854775807 : Int64))))])) _
    refine XS.lloadN X102.here hx rfl (hb hby at_35) rfl ?_
    show Steps p.tables e below (T102.setTop (mkF m 36 #[.val (.long q0), .second, .val (.int p1), .val (.long (q0 &&& (9223372036854775807 : Int64))), .second, .val (.long ((p1 &&& (255 : Int32)).toInt64)), .second, .val (.int (1 : Int32)), .unset] [(.long (q0 &&& (9223372036854775807 : Int64))), (.long (own_count (q0 &&& (9223372036854775807 : Int64))))])) _
    refine XS.bipush X102.here hx rfl (hb hby at_36) ?_
    show Steps p.tables e below (T102.setTop (mkF m 38 #[.val (.long q0), .second, .val (.int p1), .val (.long (q0 &&& (9223372036854775807 : Int64))), .second, .val (.long ((p1 &&& (255 : Int32)).toInt64)), .second, .val (.int (1 : Int32)), .unset] [(.int (8 : Int32)), (.long (q0 &&& (9223372036854775807 : Int64))), (.long (own_count (q0 &&& (9223372036854775807 : Int64))))])) _
    refine XS.lushr X102.here hx rfl (hb hby at_38) rfl ?_
    show Steps p.tables e below (T102.setTop (mkF m 39 #[.val (.long q0), .second, .val (.int p1), .val (.long (q0 &&& (9223372036854775807 : Int64))), .second, .val (.long ((p1 &&& (255 : Int32)).toInt64)), .second, .val (.int (1 : Int32)), .unset] [(.long (((q0 &&& (9223372036854775807 : Int64)).toUInt64 >>> ((8 : Int32) &&& 0x3f).toInt64.toUInt64).toInt64)), (.long (own_count (q0 &&& (9223372036854775807 : Int64))))])) _
    refine XS.lloadN X102.here hx rfl (hb hby at_39) rfl ?_
    show Steps p.tables e below (T102.setTop (mkF m 40 #[.val (.long q0), .second, .val (.int p1), .val (.long (q0 &&& (9223372036854775807 : Int64))), .second, .val (.long ((p1 &&& (255 : Int32)).toInt64)), .second, .val (.int (1 : Int32)), .unset] [(.long (q0 &&& (9223372036854775807 : Int64))), (.long (((q0 &&& (9223372036854775807 : Int64)).toUInt64 >>> ((8 : Int32) &&& 0x3f).toInt64.toUInt64).toInt64)), (.long (own_count (q0 &&& (9223372036854775807 : Int64))))])) _
    refine XS.iconst X102.here hx rfl (hb hby at_40) ?_
    show Steps p.tables e below (T102.setTop (mkF m 41 #[.val (.long q0), .second, .val (.int p1), .val (.long (q0 &&& (9223372036854775807 : Int64))), .second, .val (.long ((p1 &&& (255 : Int32)).toInt64)), .second, .val (.int (1 : Int32)), .unset] [(.int (1 : Int32)), (.long (q0 &&& (9223372036854775807 : Int64))), (.long (((q0 &&& (9223372036854775807 : Int64)).toUInt64 >>> ((8 : Int32) &&& 0x3f).toInt64.toUInt64).toInt64)), (.long (own_count (q0 &&& (9223372036854775807 : Int64))))])) _
    refine XS.lushr X102.here hx rfl (hb hby at_41) rfl ?_
    show Steps p.tables e below (T102.setTop (mkF m 42 #[.val (.long q0), .second, .val (.int p1), .val (.long (q0 &&& (9223372036854775807 : Int64))), .second, .val (.long ((p1 &&& (255 : Int32)).toInt64)), .second, .val (.int (1 : Int32)), .unset] [(.long (((q0 &&& (9223372036854775807 : Int64)).toUInt64 >>> ((1 : Int32) &&& 0x3f).toInt64.toUInt64).toInt64)), (.long (((q0 &&& (9223372036854775807 : Int64)).toUInt64 >>> ((8 : Int32) &&& 0x3f).toInt64.toUInt64).toInt64)), (.long (own_count (q0 &&& (9223372036854775807 : Int64))))])) _
    refine st103 _ ?_
    show Steps p.tables e below (T103.setTop (mkF m 45 #[.val (.long q0), .second, .val (.int p1), .val (.long (q0 &&& (9223372036854775807 : Int64))), .second, .val (.long ((p1 &&& (255 : Int32)).toInt64)), .second, .val (.int (1 : Int32)), .unset] [(.long (own_count (((q0 &&& (9223372036854775807 : Int64)).toUInt64 >>> ((1 : Int32) &&& 0x3f).toInt64.toUInt64).toInt64))), (.long (((q0 &&& (9223372036854775807 : Int64)).toUInt64 >>> ((8 : Int32) &&& 0x3f).toInt64.toUInt64).toInt64)), (.long (own_count (q0 &&& (9223372036854775807 : Int64))))])) _
    refine XS.ladd X103.here hx rfl (hb hby at_45) rfl ?_
    show Steps p.tables e below (T103.setTop (mkF m 46 #[.val (.long q0), .second, .val (.int p1), .val (.long (q0 &&& (9223372036854775807 : Int64))), .second, .val (.long ((p1 &&& (255 : Int32)).toInt64)), .second, .val (.int (1 : Int32)), .unset] [(.long ((((q0 &&& (9223372036854775807 : Int64)).toUInt64 >>> ((8 : Int32) &&& 0x3f).toInt64.toUInt64).toInt64) + (own_count (((q0 &&& (9223372036854775807 : Int64)).toUInt64 >>> ((1 : Int32) &&& 0x3f).toInt64.toUInt64).toInt64)))), (.long (own_count (q0 &&& (9223372036854775807 : Int64))))])) _
    refine XS.lcmp X103.here hx rfl (hb hby at_46) rfl ?_
    show Steps p.tables e below (T103.setTop (mkF m 47 #[.val (.long q0), .second, .val (.int p1), .val (.long (q0 &&& (9223372036854775807 : Int64))), .second, .val (.long ((p1 &&& (255 : Int32)).toInt64)), .second, .val (.int (1 : Int32)), .unset] [(.int (lcmpW (own_count (q0 &&& (9223372036854775807 : Int64))) ((((q0 &&& (9223372036854775807 : Int64)).toUInt64 >>> ((8 : Int32) &&& 0x3f).toInt64.toUInt64).toInt64) + (own_count (((q0 &&& (9223372036854775807 : Int64)).toUInt64 >>> ((1 : Int32) &&& 0x3f).toInt64.toUInt64).toInt64)))))])) _
    refine XS.ifNo X103.here hx rfl (hb hby at_47) rfl ((if0 _ _).trans (teq (own_lcEq (own_step q0))).2) ?_
    show Steps p.tables e below (T103.setTop (mkF m 50 #[.val (.long q0), .second, .val (.int p1), .val (.long (q0 &&& (9223372036854775807 : Int64))), .second, .val (.long ((p1 &&& (255 : Int32)).toInt64)), .second, .val (.int (1 : Int32)), .unset] [])) _
    refine XS.iconst X103.here hx rfl (hb hby at_50) ?_
    show Steps p.tables e below (T103.setTop (mkF m 51 #[.val (.long q0), .second, .val (.int p1), .val (.long (q0 &&& (9223372036854775807 : Int64))), .second, .val (.long ((p1 &&& (255 : Int32)).toInt64)), .second, .val (.int (1 : Int32)), .unset] [(.int (1 : Int32))])) _
    refine XS.goto X103.here hx rfl (pc0 := 51) (pc' := 55) rfl (hb hby at_51) (by decide) (by decide) ?_
    show Steps p.tables e below (T103.setTop (mkF m 55 #[.val (.long q0), .second, .val (.int p1), .val (.long (q0 &&& (9223372036854775807 : Int64))), .second, .val (.long ((p1 &&& (255 : Int32)).toInt64)), .second, .val (.int (1 : Int32)), .unset] [(.int (1 : Int32))])) _
    refine XS.istore X103.here hx rfl (hb hby at_55) rfl (l' := #[.val (.long q0), .second, .val (.int p1), .val (.long (q0 &&& (9223372036854775807 : Int64))), .second, .val (.long ((p1 &&& (255 : Int32)).toInt64)), .second, .val (.int (1 : Int32)), .val (.int (1 : Int32))]) rfl ?_
    show Steps p.tables e below (T103.setTop (mkF m 57 #[.val (.long q0), .second, .val (.int p1), .val (.long (q0 &&& (9223372036854775807 : Int64))), .second, .val (.long ((p1 &&& (255 : Int32)).toInt64)), .second, .val (.int (1 : Int32)), .val (.int (1 : Int32))] [])) _
    refine XS.iload X103.here hx rfl (hb hby at_57) rfl ?_
    show Steps p.tables e below (T103.setTop (mkF m 59 #[.val (.long q0), .second, .val (.int p1), .val (.long (q0 &&& (9223372036854775807 : Int64))), .second, .val (.long ((p1 &&& (255 : Int32)).toInt64)), .second, .val (.int (1 : Int32)), .val (.int (1 : Int32))] [(.int (1 : Int32))])) _
    refine XS.ifNo X103.here hx rfl (hb hby at_59) rfl ((if0 _ _).trans (feq (by decide : ¬ (1 : Int32) = (0 : Int32))).1) ?_
    show Steps p.tables e below (T103.setTop (mkF m 62 #[.val (.long q0), .second, .val (.int p1), .val (.long (q0 &&& (9223372036854775807 : Int64))), .second, .val (.long ((p1 &&& (255 : Int32)).toInt64)), .second, .val (.int (1 : Int32)), .val (.int (1 : Int32))] [])) _
    refine XS.iload X103.here hx rfl (hb hby at_62) rfl ?_
    show Steps p.tables e below (T103.setTop (mkF m 64 #[.val (.long q0), .second, .val (.int p1), .val (.long (q0 &&& (9223372036854775807 : Int64))), .second, .val (.long ((p1 &&& (255 : Int32)).toInt64)), .second, .val (.int (1 : Int32)), .val (.int (1 : Int32))] [(.int (1 : Int32))])) _
    refine XS.ifNo X103.here hx rfl (hb hby at_64) rfl ((if0 _ _).trans (feq (by decide : ¬ (1 : Int32) = (0 : Int32))).1) ?_
    show Steps p.tables e below (T103.setTop (mkF m 67 #[.val (.long q0), .second, .val (.int p1), .val (.long (q0 &&& (9223372036854775807 : Int64))), .second, .val (.long ((p1 &&& (255 : Int32)).toInt64)), .second, .val (.int (1 : Int32)), .val (.int (1 : Int32))] [])) _
    refine XS.iconst X103.here hx rfl (hb hby at_67) ?_
    show Steps p.tables e below (T103.setTop (mkF m 68 #[.val (.long q0), .second, .val (.int p1), .val (.long (q0 &&& (9223372036854775807 : Int64))), .second, .val (.long ((p1 &&& (255 : Int32)).toInt64)), .second, .val (.int (1 : Int32)), .val (.int (1 : Int32))] [(.int (1 : Int32))])) _
    refine XS.goto X103.here hx rfl (pc0 := 68) (pc' := 72) rfl (hb hby at_68) (by decide) (by decide) ?_
    show Steps p.tables e below (T103.setTop (mkF m 72 #[.val (.long q0), .second, .val (.int p1), .val (.long (q0 &&& (9223372036854775807 : Int64))), .second, .val (.long ((p1 &&& (255 : Int32)).toInt64)), .second, .val (.int (1 : Int32)), .val (.int (1 : Int32))] [(.int (1 : Int32))])) _
    exact retN X103 hx (t := .boolean) Bd.returns (by simp) (hb hby at_72) hr
  · show QLaw n0 _ T103.heap _
    rw [e103]
    exact ⟨rfl, N103⟩
set_option maxRecDepth 65536 in
set_option maxHeartbeats 40000000 in
theorem comes_1 {Post : Tables → Env → Array Value → State → Outcome → State → Prop} (hpost : ∀ tb e args s v u, (limb_1_1.after args s (.returned v) u = true ∧ limb_1_2.after args s (.returned v) u = true ∧ True) → FrameEnd s (.returned v) u (Jvm.fieldLocs frame_1_writes args s ++ Jvm.arrayLocs frame_1_arrays args s ++ Jvm.staticLocs frame_1_statics s) 0 0 → Post tb e args s (.returned v) u) :
    ArmFor flags0 classFile x code maxLocals ret World_1 tables_1 room_1 Calls_1 rest_1 Pre_1 Post := by
  intro l hfl _ _ p e ha hc hk s m args below hf hA hF happ hP
  obtain ⟨hcalls, hrest, hpre⟩ := hP
  obtain ⟨-, -, -, hnamed, -, -, -, hat⟩ := (Spec.applies_iff hf).mp happ
  obtain ⟨hg, hn⟩ := and_e (Cond.before_iff.mp (show (Jvm.Cond.and given_1 narrow_1).before args s = true from hpre))
  obtain ⟨hcnt, hg0⟩ := and_e hg
  obtain ⟨ha0, hg1⟩ := and_e hg0
  have ha1 := hg1
  obtain ⟨w0, w1, rfl⟩ : ∃ w0 w1 : Value, args = #[w0, w1] := by
    have hs : args.size = 2 := by simpa [Cond.value, given_1] using hcnt
    obtain ⟨L⟩ := args
    match L, hs with
    | [w0, w1], _ => exact ⟨w0, w1, rfl⟩
  have hw := fun d (hd : d ∈ tables_1) => atoms_spec (ws := Jvm.Cond.code x code maxLocals ret :: tables_1) hat d (List.mem_cons_of_mem _ hd)
  have hfit : Fit s := fun {y c} hc i hi => by
    obtain ⟨ha, rfl⟩ := Array.getElem?_eq_some_iff.mp hc
    have q := List.all_eq_true.mp ((Array.all_eq_true_iff_forall_mem.mp hF) _ (Array.getElem_mem ha)) i (List.mem_range.mpr hi)
    simpa [Array.getElem?_eq_getElem hi] using q
  obtain ⟨i0, ei0⟩ := isL_v ha0
  obtain rfl : w0 = (.long i0) := Option.some.inj ei0
  obtain ⟨i1, ei1⟩ := is_v ha1
  obtain rfl : w1 = (.int i1) := Option.some.inj ei1
  obtain ⟨n, o, h1, h2, h3, _, L, rfl, ⟨rfl, N⟩, hq⟩ := rm0 l s _ hw tables_1 i0 i1 s.heap s.heap.size (Nat.le_refl _)  p e ha hc hk s m _ below hf ((Spec.applies_iff_loose hf).mp happ).1 ⟨rfl, State.Warmed39.refl s, rfl⟩ trivial
  refine ⟨n, _, h1, h2, h3, hpost _ _ _ _ _ _ ⟨Cond.after_iff.mpr rfl, Cond.after_iff.mpr (eq_i res_at (Term.int_eval (1)) rfl), trivial⟩ ⟨hq.1, hq.2.1, (hq.2.2.sift fun y hy => Or.inr (N y hy)).mono (by decide) (by decide)⟩⟩
theorem main_1_1 : Claimed_1_1 := comes_1 fun _ _ _ _ _ _ h hF => ⟨h.1, hF⟩
theorem main_1_2 : Claimed_1_2 := comes_1 fun _ _ _ _ _ _ h hF => ⟨h.2.1, hF⟩
end Jvm.Pilot.@@N@@
namespace Jvm.Pilot.@@N@@
open Jvm Jvm.ClassFile Sem Op Lib Jvm.Free Jvm.Stand Jvm.Pilot.@@N@@.Jvm.D
/-! MADE BY PROGRAM (witnessworld.py) out of the Statement's table words and the real class files: 14 classes; the members and pool entries that the words name. The judged class is class 1, her method 1. -/
namespace start1
open Jvm.ClassFile
def u (s : String) : CpInfo := .utf8 (stringToUtf16 s)
/-- a pool by its gaps: so many unusable entries, then the entry; so many at the end -/
def gap : Nat → List CpInfo → List CpInfo
  | 0, r => r
  | n + 1, r => .unusable :: gap n r
def poolList (es : List (Nat × CpInfo)) (last : Nat) : List CpInfo := es.foldr (fun e r => gap e.1 (e.2 :: r)) (gap last [])
def pool (es : List (Nat × CpInfo)) (last : Nat) : Array CpInfo := ⟨poolList es last⟩
def fileOf (pool : Array CpInfo) (this : Nat) (attrs : Array Attribute := #[]) (ms : Array MethodInfo := #[]) (fl : Nat := 33) (sup : Nat := 0) (ifs : Array Nat := #[]) (fds : Array FieldInfo := #[]) : ClassFile where
  minorVersion := 0
  majorVersion := 65
  constantPool := pool
  accessFlags := fl
  thisClass := this
  superClass := sup
  interfaces := ifs
  fields := fds
  methods := ms
  attributes := attrs
def plain (name : String) (sup : Option ClassId) : Class where
  name := name
  kind := .ordinary
  loader := none
  accessFlags := 33
  super := sup
  interfaces := #[]
  cf := none
  fields := #[]
  methods := #[]
  instanceTypes := #[]
  staticTypes := #[]
  resolved := #[]
  callSites := []
  init := .initialized
  statics := none
  mirror := none

def pool0 : Array CpInfo := pool [(5, u "<init>"), (0, u "()V"), (1, .class_ 10), (1, u "java/lang/Object")] 113

def k0m0 : Method := { name := "<init>", desc := "()V", sig := { parameters := [], returnType := none }, accessFlags := 1, code := none }
/-- java/lang/Object -/
def k0 : Class := { plain "java/lang/Object" none with
  accessFlags := 33
  interfaces := #[]
  cf := some (fileOf pool0 8 #[] #[{ accessFlags := 1, nameIndex := 5, descriptorIndex := 6, attributes := #[] }] 33 0 #[] #[])
  fields := #[]
  methods := #[k0m0]
  instanceTypes := #[]
  staticTypes := #[]
  resolved := Array.replicate 124 none
  statics := none }

def pool1 : Array CpInfo := pool [(2, .class_ 4), (1, u "java/lang/Object"), (0, u "<init>"), (0, u "()V"), (2, .long 9223372036854775807), (1, .methodref 12 13), (0, .class_ 14), (0, .nameAndType 15 16), (0, u "com/example/custody/custody/merkle/KeptSubtrees"), (0, u "count"), (0, u "(J)J"), (0, .class_ 18), (0, u "com/example/custody/custody/merkle/KeptSubtreesCountPinLaw"), (2, u "law"), (0, u "(JI)Z")] 3

def k1m0 : Method := { name := "<init>", desc := "()V", sig := { parameters := [], returnType := none }, accessFlags := 1, code := none }
def k1c1 : Code := { maxStack := 7, maxLocals := 9, code := code, exceptionTable := #[], attributes := #[] }
def k1m1 : Method := { name := "law", desc := "(JI)Z", sig := { parameters := [.long, .int], returnType := some .boolean }, accessFlags := 9, code := some k1c1 }
/-- com/example/custody/custody/merkle/KeptSubtreesCountPinLaw -/
def k1 : Class := { plain "com/example/custody/custody/merkle/KeptSubtreesCountPinLaw" (some 0) with
  accessFlags := 49
  interfaces := #[]
  cf := some (fileOf pool1 17 #[] #[{ accessFlags := 1, nameIndex := 5, descriptorIndex := 6, attributes := #[] }, { accessFlags := 9, nameIndex := 21, descriptorIndex := 22, attributes := #[] }] 49 2 #[] #[])
  fields := #[]
  methods := #[k1m0, k1m1]
  instanceTypes := #[]
  staticTypes := #[]
  resolved := Array.replicate 26 none
  statics := none }

def pool2 : Array CpInfo := pool [(1, .class_ 2), (0, u "com/example/custody/custody/merkle/KeptSubtrees"), (1, .class_ 6), (1, u "java/lang/Object"), (0, u "<init>"), (0, u "()V"), (0, .long 2), (1, .methodref 12 13), (0, .class_ 14), (0, .nameAndType 15 16), (0, u "java/lang/Long"), (0, u "bitCount"), (0, u "(J)I"), (0, .class_ 18), (0, u "com/example/custody/custody/merkle/KeptSubtrees$Hashes"), (5, u "count"), (0, u "(J)J"), (3, u "MIN_HEIGHT"), (0, u "I"), (2, u "MIN_LEAVES"), (0, u "J"), (11, .class_ 47), (0, u "com/example/custody/custody/merkle/KeptSubtrees$Roots")] 3

def k2m0 : Method := { name := "<init>", desc := "()V", sig := { parameters := [], returnType := none }, accessFlags := 2, code := none }
def k2c1 : Code := { maxStack := 4, maxLocals := 4, code := prog_14_method_2_code, exceptionTable := #[], attributes := #[] }
def k2m1 : Method := { name := "count", desc := "(J)J", sig := { parameters := [.long], returnType := some .long }, accessFlags := 9, code := some k2c1 }
/-- com/example/custody/custody/merkle/KeptSubtrees -/
def k2 : Class := { plain "com/example/custody/custody/merkle/KeptSubtrees" (some 0) with
  accessFlags := 33
  interfaces := #[]
  cf := some (fileOf pool2 1 #[.nestMembers #[17, 46]] #[{ accessFlags := 2, nameIndex := 7, descriptorIndex := 8, attributes := #[] }, { accessFlags := 9, nameIndex := 24, descriptorIndex := 25, attributes := #[] }] 33 4 #[] #[{ accessFlags := 25, nameIndex := 29, descriptorIndex := 30, attributes := #[] }, { accessFlags := 25, nameIndex := 33, descriptorIndex := 34, attributes := #[] }])
  fields := #[{ name := "MIN_HEIGHT", type := .int, accessFlags := 25, slot := 0, constantValue := 0 }, { name := "MIN_LEAVES", type := .long, accessFlags := 25, slot := 1, constantValue := 0 }]
  methods := #[k2m0, k2m1]
  instanceTypes := #[]
  staticTypes := #[.int, .long]
  resolved := Array.replicate 51 none
  statics := none }

def pool3 : Array CpInfo := pool [(1, .class_ 2), (0, u "java/io/Serializable"), (0, .class_ 4), (0, u "java/lang/Object")] 2

/-- java/io/Serializable -/
def k3 : Class := { plain "java/io/Serializable" (some 0) with
  accessFlags := 1537
  interfaces := #[]
  cf := some (fileOf pool3 1 #[] #[] 1537 3 #[] #[])
  fields := #[]
  methods := #[]
  instanceTypes := #[]
  staticTypes := #[]
  resolved := Array.replicate 7 none
  statics := none }

def pool4 : Array CpInfo := pool [(2, .class_ 4), (1, u "java/lang/Object"), (0, u "<init>"), (0, u "()V"), (1, .class_ 10), (1, u "java/lang/Number"), (2, .class_ 14), (0, u "java/io/Serializable"), (0, u "serialVersionUID"), (0, u "J")] 20

def k4m0 : Method := { name := "<init>", desc := "()V", sig := { parameters := [], returnType := none }, accessFlags := 1, code := none }
/-- java/lang/Number -/
def k4 : Class := { plain "java/lang/Number" (some 0) with
  accessFlags := 1057
  interfaces := #[3]
  cf := some (fileOf pool4 8 #[] #[{ accessFlags := 1, nameIndex := 5, descriptorIndex := 6, attributes := #[] }] 1057 2 #[13] #[{ accessFlags := 26, nameIndex := 15, descriptorIndex := 16, attributes := #[] }])
  fields := #[{ name := "serialVersionUID", type := .long, accessFlags := 26, slot := 0, constantValue := 0 }]
  methods := #[k4m0]
  instanceTypes := #[]
  staticTypes := #[.long]
  resolved := Array.replicate 37 none
  statics := none }

def pool5 : Array CpInfo := pool [(1, .class_ 2), (0, u "java/lang/Comparable"), (0, .class_ 4), (0, u "java/lang/Object")] 7

/-- java/lang/Comparable -/
def k5 : Class := { plain "java/lang/Comparable" (some 0) with
  accessFlags := 1537
  interfaces := #[]
  cf := some (fileOf pool5 1 #[] #[] 1537 3 #[] #[])
  fields := #[]
  methods := #[]
  instanceTypes := #[]
  staticTypes := #[]
  resolved := Array.replicate 12 none
  statics := none }

def pool6 : Array CpInfo := pool [(1, .class_ 2), (0, u "java/lang/constant/Constable"), (0, .class_ 4), (0, u "java/lang/Object")] 6

/-- java/lang/constant/Constable -/
def k6 : Class := { plain "java/lang/constant/Constable" (some 0) with
  accessFlags := 1537
  interfaces := #[]
  cf := some (fileOf pool6 1 #[] #[] 1537 3 #[] #[])
  fields := #[]
  methods := #[]
  instanceTypes := #[]
  staticTypes := #[]
  resolved := Array.replicate 11 none
  statics := none }

def pool7 : Array CpInfo := pool [(1, .class_ 2), (0, u "java/lang/constant/ConstantDesc"), (0, .class_ 4), (0, u "java/lang/Object")] 32

/-- java/lang/constant/ConstantDesc -/
def k7 : Class := { plain "java/lang/constant/ConstantDesc" (some 0) with
  accessFlags := 1537
  interfaces := #[]
  cf := some (fileOf pool7 1 #[] #[] 1537 3 #[] #[])
  fields := #[]
  methods := #[]
  instanceTypes := #[]
  staticTypes := #[]
  resolved := Array.replicate 37 none
  statics := none }

def pool8 : Array CpInfo := pool [(1, .class_ 2), (0, u "java/lang/Long"), (98, u "(J)I"), (133, .class_ 237), (1, u "java/lang/Long$LongCache"), (33, .class_ 272), (0, u "java/lang/Number"), (2, u "value"), (0, u "J"), (37, .long 6148914691236517205), (1, .long 3689348814741910323), (1, .long 1085102592571150095), (42, u "TYPE"), (0, u "Ljava/lang/Class;"), (0, .class_ 364), (0, u "java/lang/Comparable"), (0, .class_ 366), (0, u "java/lang/constant/Constable"), (0, .class_ 368), (0, u "java/lang/constant/ConstantDesc"), (0, u "MIN_VALUE"), (1, u "MAX_VALUE"), (4, u "SIZE"), (0, u "I"), (1, u "BYTES"), (1, u "serialVersionUID"), (94, u "bitCount")] 47

def k8c0 : Code := { maxStack := 6, maxLocals := 2, code := jdk_35_method_50_code, exceptionTable := #[], attributes := #[] }
def k8m0 : Method := { name := "bitCount", desc := "(J)I", sig := { parameters := [.long], returnType := some .int }, accessFlags := 9, code := some k8c0 }
/-- java/lang/Long -/
def k8 : Class := { plain "java/lang/Long" (some 4) with
  accessFlags := 49
  interfaces := #[5, 6, 7]
  cf := some (fileOf pool8 1 #[.nestMembers #[235]] #[{ accessFlags := 9, nameIndex := 476, descriptorIndex := 101, attributes := #[] }] 49 271 #[363, 365, 367] #[{ accessFlags := 25, nameIndex := 369, descriptorIndex := 276, attributes := #[] }, { accessFlags := 25, nameIndex := 371, descriptorIndex := 276, attributes := #[] }, { accessFlags := 25, nameIndex := 361, descriptorIndex := 362, attributes := #[] }, { accessFlags := 18, nameIndex := 275, descriptorIndex := 276, attributes := #[] }, { accessFlags := 25, nameIndex := 376, descriptorIndex := 377, attributes := #[] }, { accessFlags := 25, nameIndex := 379, descriptorIndex := 377, attributes := #[] }, { accessFlags := 26, nameIndex := 381, descriptorIndex := 276, attributes := #[] }])
  fields := #[{ name := "MIN_VALUE", type := .long, accessFlags := 25, slot := 0, constantValue := 0 }, { name := "MAX_VALUE", type := .long, accessFlags := 25, slot := 1, constantValue := 0 }, { name := "TYPE", type := (.object "java/lang/Class"), accessFlags := 25, slot := 2, constantValue := 0 }, { name := "value", type := .long, accessFlags := 18, slot := 0, constantValue := 0 }, { name := "SIZE", type := .int, accessFlags := 25, slot := 3, constantValue := 0 }, { name := "BYTES", type := .int, accessFlags := 25, slot := 4, constantValue := 0 }, { name := "serialVersionUID", type := .long, accessFlags := 26, slot := 5, constantValue := 0 }]
  methods := #[k8m0]
  instanceTypes := #[.long]
  staticTypes := #[.long, .long, (.object "java/lang/Class"), .int, .int, .long]
  resolved := Array.replicate 524 none
  statics := none }

def pool9 : Array CpInfo := pool [(1, u "java/lang/Cloneable"), (0, .class_ 1), (0, u "java/lang/Object"), (0, .class_ 3)] 3

/-- java/lang/Cloneable -/
def k9 : Class := { plain "java/lang/Cloneable" (some 0) with
  accessFlags := 1537
  interfaces := #[]
  cf := some (fileOf pool9 2 #[] #[] 1537 4 #[] #[])
  fields := #[]
  methods := #[]
  instanceTypes := #[]
  staticTypes := #[]
  resolved := Array.replicate 8 none
  statics := none }

/-- the primitive byte -/
def k10 : Class := { plain "byte" none with kind := .primitive 'B', accessFlags := 0x411 }
/-- [B -/
def k11 : Class := { plain "[B" (some 0) with kind := .array 10 .byte, interfaces := #[9, 3], accessFlags := 1041 }

/-- the primitive int -/
def k12 : Class := { plain "int" none with kind := .primitive 'I', accessFlags := 0x411 }
/-- [I -/
def k13 : Class := { plain "[I" (some 0) with kind := .array 12 .int, interfaces := #[9, 3], accessFlags := 1041 }

def heap : Heap := #[]
def classes : Array Class := #[k0, k1, k2, k3, k4, k5, k6, k7, k8, k9, k10, k11, k12, k13]
def interned : List (Array UInt16 × Addr) := []
def slotsUsed : Nat := 0
def theMethod : MethodId := ⟨1, 1⟩
def args0 : Array Value := #[.long 5, .int 7]
def aboutOver (below : List Frame) : State where
  vm := { classes := classes, interned := interned.toArray }
  heap := heap
  slotsUsed := slotsUsed
  threads := #[{ frames := .invoking theMethod args0 :: below }]
def below0 : List Frame := [.native { method := ⟨0, 0⟩, args := #[] }]
def about1 : State := aboutOver below0
def p0 : Program := .bare "" "" ""
def e0 : Env := launch0.env 0 0 0
theorem w_frames : about1.frames = Frame.invoking theMethod args0 :: below0 := rfl
set_option maxRecDepth 65536 in
theorem w_args : argsFit about1.vm theMethod args0 = true := by decide +kernel
set_option maxRecDepth 65536 in
theorem w_heap : heapFits about1 = true := by decide +kernel
set_option maxRecDepth 65536 in
theorem w_runnable : about1.curStatus? = some .runnable := by decide +kernel
set_option maxRecDepth 65536 in
theorem w_alone : about1.alone = true := by decide +kernel
set_option maxRecDepth 65536 in
theorem w_named : about1.methodNamed? x = some theMethod := by decide +kernel
set_option maxRecDepth 65536 in
theorem w_hears : about1.hears theMethod below0 = true := by decide +kernel
set_option maxRecDepth 65536 in
theorem w_ripe : about1.ripe theMethod args0 below0 = true := by decide +kernel
theorem w_running : about1.status = .running := rfl
set_option maxRecDepth 65536 in
theorem w_room : about1.hasRoom e0.platform room_1 = true :=
  launch0.hasRoom_least _ room_1 (by decide +kernel) (by decide +kernel) (by decide +kernel) (by decide +kernel) (by decide +kernel) (by decide +kernel)
theorem allAtoms_all (ts : List Jvm.Cond) (a : Array Jvm.Value) (st : Jvm.State) : (allAtoms ts).before a st = ts.all (fun c => c.before a st) := by
  induction ts with
  | nil => rfl
  | cons c t ih =>
    show (Jvm.Cond.and c (allAtoms t)).before a st = _
    rw [Jvm.Cond.before_and, ih, List.all_cons]
def words1 : List Jvm.Cond := Jvm.Cond.code x code maxLocals ret :: tables_1
/-- a 'code' word, met by the world's own term for the bytes: nothing is compared byte by byte -/
theorem code_word {y : MethodName} {bytes : ByteArray} {mx : Nat} {rt : Option FieldType} {a : Array Value} {s : State} {m : MethodId} {meth : Method} {c : Code} (h1 : s.methodNamed? y = some m) (h2 : s.vm.method? m = some meth) (h3 : meth.code = some c) (h4 : c.code = bytes)
    (h5 : (c.maxLocals == mx && c.exceptionTable.isEmpty && decide (c.maxStack ≤ mostOperands) && decide (meth.sig.returnType = rt) && !meth.locks && decide (parseMethodDescriptor y.desc = some meth.sig)) = true) : (Jvm.Cond.code y bytes mx rt).before a s = true := by
  simp only [Bool.and_eq_true, beq_iff_eq, Bool.not_eq_true', decide_eq_true_eq] at h5
  obtain ⟨⟨⟨⟨⟨g1, g2⟩, g3⟩, g4⟩, g5⟩, g6⟩ := h5
  simp [Cond.before, Cond.holds, Cond.value, h1, h2, h3, h4, g1, g2, g3, g4, g5, g6]
def isCode : Jvm.Cond → Bool
  | .code _ _ _ _ => true
  | _ => false
theorem all_split {L : List Jvm.Cond} {P : Jvm.Cond → Bool} (h1 : L.all (fun c => isCode c || P c) = true) (h2 : ∀ c ∈ L.filter isCode, P c = true) : L.all P = true := by
  refine List.all_eq_true.mpr fun c hc => ?_
  have h := List.all_eq_true.mp h1 c hc
  rcases Bool.eq_false_or_eq_true (isCode c) with hi | hi
  · exact h2 c (List.mem_filter.mpr ⟨hc, hi⟩)
  · simpa [hi] using h
set_option maxRecDepth 65536 in
theorem w_c0 : (Jvm.Cond.code x code maxLocals ret).before args0 about1 = true := code_word (m := ⟨1, 1⟩) (meth := k1m1) (c := k1c1) (by decide +kernel) rfl rfl rfl (by decide +kernel)
set_option maxRecDepth 65536 in
theorem w_c1 : (Jvm.Cond.code ({ cls := "com/example/custody/custody/merkle/KeptSubtrees", name := "count", desc := "(J)J" } : Jvm.MethodName) prog_14_method_2_code (4 : Nat) (Option.some Jvm.ClassFile.FieldType.long)).before args0 about1 = true := code_word (m := ⟨2, 1⟩) (meth := k2m1) (c := k2c1) (by decide +kernel) rfl rfl rfl (by decide +kernel)
set_option maxRecDepth 65536 in
theorem w_c2 : (Jvm.Cond.code ({ cls := "java/lang/Long", name := "bitCount", desc := "(J)I" } : Jvm.MethodName) jdk_35_method_50_code (2 : Nat) (Option.some Jvm.ClassFile.FieldType.int)).before args0 about1 = true := code_word (m := ⟨8, 0⟩) (meth := k8m0) (c := k8c0) (by decide +kernel) rfl rfl rfl (by decide +kernel)
def codes1 : List Jvm.Cond := [Jvm.Cond.code x code maxLocals ret, Jvm.Cond.code ({ cls := "com/example/custody/custody/merkle/KeptSubtrees", name := "count", desc := "(J)J" } : Jvm.MethodName) prog_14_method_2_code (4 : Nat) (Option.some Jvm.ClassFile.FieldType.long), Jvm.Cond.code ({ cls := "java/lang/Long", name := "bitCount", desc := "(J)I" } : Jvm.MethodName) jdk_35_method_50_code (2 : Nat) (Option.some Jvm.ClassFile.FieldType.int)]
set_option maxRecDepth 65536 in
theorem codes_eq : words1.filter isCode = codes1 := rfl
theorem w_codes : ∀ c ∈ words1.filter isCode, c.before args0 about1 = true := by
  rw [codes_eq]
  intro c hc
  simp only [codes1, List.mem_cons, List.not_mem_nil, or_false] at hc
  rcases hc with rfl | rfl | rfl
  · exact w_c0
  · exact w_c1
  · exact w_c2
set_option maxRecDepth 65536 in
theorem w_t1 : words1.all (fun c => isCode c || c.before args0 about1) = true := by decide +kernel
theorem w_tables : (allAtoms (Jvm.Cond.code x code maxLocals ret :: tables_1)).before args0 about1 = true := by
  rw [allAtoms_all]
  show words1.all (fun c => c.before args0 about1) = true
  refine all_split ?_ w_codes
  rw [w_t1]
set_option maxRecDepth 65536 in
theorem w_case : (Jvm.Cond.and given_1 narrow_1).before args0 about1 = true := by decide +kernel
theorem w_applies : (headSpec (Jvm.Cond.code x code maxLocals ret :: tables_1) room_1).applies x e0.platform about1 = true :=
  (Spec.applies_iff w_frames).mpr ⟨w_running, w_runnable, w_alone, w_named, w_hears, w_ripe, w_room, w_tables⟩
theorem atStart : AtStart classFile x code maxLocals ret World_1 tables_1 room_1 Calls_1 rest_1 Pre_1 launch0 p0 e0 about1 theMethod args0 below0 :=
  ⟨lists_1, trivial, launch0.admits_env _ _ _, launch0.least_env, fairChoices_fair.cas, fairChoices_fair.clock, w_frames, w_args, w_heap, w_applies, trivial, trivial, w_case⟩
end start1
theorem witness_1 : WitnessClaimed_1 := ⟨start1.p0, start1.e0, start1.about1, start1.theMethod, start1.args0, start1.below0, start1.atStart⟩
end Jvm.Pilot.@@N@@
