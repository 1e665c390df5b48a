import JvmDerived
import JvmDerived.Pilot.@@N@@Statement
import JvmDerived.Pilot.@@N@@Code
set_option linter.unusedVariables false
set_option linter.unusedSimpArgs false
@@BLOCK:NumsL.lean.txt@@
namespace Jvm.Pilot.@@N@@
open Jvm Jvm.ClassFile Sem Op Lib Jvm.Free Jvm.Stand Jvm.LawKit Jvm.RoadKit Bundle Jvm.Pilot.@@N@@.Jvm.D
section OwnKit
variable {p : Program} {l : Launch} {e : Env} {R : Room} {s : State} {m : MethodId} {args : Array Value} {below : List Frame} {meth : Method} {c : Code} {T : State} {locs : List Loc} {cells slots : Nat} {Z : State} {h h' : Heap} {a b : Addr} {ty : FieldType} {n sl : Nat} {f : Nat → Value} {v : Value} {ws : List Addr}
theorem own_retI (X : Stand p l e R s m args below meth c T locs cells slots) (hx : p.tables.exec = Jvm.exec) {pc : Nat} {Ls : Array Slot} {z : Int32} {rest : List Value} (hret : meth.sig.returnType = some .int) (hd : decode c.code pc = .ok (.ireturn, 1)) {fs : List Frame}
    (hl : ∀ (f : JFrame) (acts : List Action), f.method = m → f.locked = none → f.entered = [] → (doReturn e (T.setTop f) acts (some (.int z))).1 = T.setFrames fs) : Steps p.tables e below (T.setTop (mkF m pc Ls (.int z :: rest))) (T.setFrames fs) := by
  have hm' : T.vm.method? m = some meth := X.method'
  have hn : narrow .int (.int z) = .int z := rfl
  show Steps p.tables e below (T.setTop { method := m, pc := pc, locals := Ls, stack := _ :: rest, locked := none }) _
  jvm_step X.here [X.here.top, hx, hd, hm', hret, hn]
  first | (intro acts; rw [hl _ acts rfl rfl rfl]) | rw [hl _ _ rfl rfl rfl]
  exact Steps.refl _
theorem own_retA (X : Stand p l e R s m args below meth c T locs cells slots) (hx : p.tables.exec = Jvm.exec) {pc : Nat} {Ls : Array Slot} {w : Addr} {rest : List Value} {t : FieldType} (ht : t.isReference = true) (hret : meth.sig.returnType = some t) (hd : decode c.code pc = .ok (.areturn, 1)) {fs : List Frame}
    (hl : ∀ (f : JFrame) (acts : List Action), f.method = m → f.locked = none → f.entered = [] → (doReturn e (T.setTop f) acts (some (.ref w))).1 = T.setFrames fs) : Steps p.tables e below (T.setTop (mkF m pc Ls (.ref w :: rest))) (T.setFrames fs) := by
  have hm' : T.vm.method? m = some meth := X.method'
  show Steps p.tables e below (T.setTop { method := m, pc := pc, locals := Ls, stack := _ :: rest, locked := none }) _
  jvm_step X.here [X.here.top, hx, hd, hm', hret, ht, Value.isRef]
  first | (intro acts; rw [hl _ acts rfl rfl rfl]) | rw [hl _ _ rfl rfl rfl]
  exact Steps.refl _
theorem own_retL (X : Stand p l e R s m args below meth c T locs cells slots) (hx : p.tables.exec = Jvm.exec) {pc : Nat} {Ls : Array Slot} {w : Int64} {rest : List Value} (hret : meth.sig.returnType = some .long) (hd : decode c.code pc = .ok (.lreturn, 1)) {fs : List Frame}
    (hl : ∀ (f : JFrame) (acts : List Action), f.method = m → f.locked = none → f.entered = [] → (doReturn e (T.setTop f) acts (some (.long w))).1 = T.setFrames fs) : Steps p.tables e below (T.setTop (mkF m pc Ls (.long w :: rest))) (T.setFrames fs) := by
  have hm' : T.vm.method? m = some meth := X.method'
  show Steps p.tables e below (T.setTop { method := m, pc := pc, locals := Ls, stack := _ :: rest, locked := none }) _
  jvm_step X.here [X.here.top, hx, hd, hm', hret]
  first | (intro acts; rw [hl _ acts rfl rfl rfl]) | rw [hl _ _ rfl rfl rfl]
  exact Steps.refl _
/-- an array: its kind, its length, what lies at each place -/
def OwnA (Z : State) (h : Heap) (a : Addr) (ty : FieldType) (n : Nat) (f : Nat → Value) : Prop :=
  ∃ c : Cell, Arr Z h a c ty ∧ c.slots.size = n ∧ (∀ i, i < n → c.slots[i]? = some (f i)) ∧ ∀ i, i < n → fits ty (f i) = true
def own_upd (f : Nat → Value) (j : Nat) (v : Value) : Nat → Value := fun i => if i = j then v else f i
theorem own_at (f : Nat → Value) (j : Nat) (v : Value) : own_upd f j v j = v := if_pos rfl
theorem own_off (f : Nat → Value) {i j : Nat} (v : Value) (q : i ≠ j) : own_upd f j v i = f i := if_neg q
theorem OwnA.lt (F : OwnA Z h a ty n f) : a < h.size := by obtain ⟨c, A, -⟩ := F; exact A.lt
theorem OwnA.ext (F : OwnA Z h a ty n f) (E : Ext h h') : OwnA Z h' a ty n f := by obtain ⟨c, A, r⟩ := F; exact ⟨c, A.ext E, r⟩
theorem OwnA.other (F : OwnA Z h b ty n f) (W : Wr h h' a sl v) (q : b ≠ a) : OwnA Z h' b ty n f := by obtain ⟨c, A, r⟩ := F; exact ⟨c, A.other W q, r⟩
theorem OwnA.keep (F : OwnA Z h a ty n f) (K : Keep h h' ws) (q : a ∉ ws) : OwnA Z h' a ty n f := by obtain ⟨c, A, r⟩ := F; exact ⟨c, ⟨K.2.1 a c A.1 q, A.2⟩, r⟩
theorem OwnA.cast {f' : Nat → Value} (F : OwnA Z h a ty n f) (q : ∀ i, i < n → f i = f' i) : OwnA Z h a ty n f' := by
  obtain ⟨c, A, r1, r2, r3⟩ := F
  exact ⟨c, A, r1, fun i hi => by rw [← q i hi]; exact r2 i hi, fun i hi => by rw [← q i hi]; exact r3 i hi⟩
theorem OwnA.set {k : Nat} (F : OwnA Z h a ty n f) (W : Wr h h' a k v) (hv : fits ty v = true) : OwnA Z h' a ty n (own_upd f k v) := by
  obtain ⟨c, A, r1, r2, r3⟩ := F
  refine ⟨_, A.same W, by rw [sz_set]; exact r1, fun i hi => ?_, fun i hi => ?_⟩
  · by_cases q : i = k
    · subst q
      rw [own_at]
      have : i < c.slots.size := by rw [r1]; exact hi
      simp [Cell.setSlot, this]
    · rw [own_off _ _ q, ← r2 i hi]
      simp only [Cell.setSlot]
      rw [Array.getElem?_setIfInBounds_ne (Ne.symm q)]
  · by_cases q : i = k
    · subst q; rw [own_at]; exact hv
    · rw [own_off _ _ q]; exact r3 i hi
theorem OwnA.new {k : ClassId} {z : Int32} (A : Arr Z h a (newA k ty z) ty) (hz : z.toNatClampNeg = n) : OwnA Z h a ty n (fun _ => defaultValue ty) := by
  refine ⟨_, A, by rw [sz_new]; exact hz, fun i hi => ?_, fun i _ => by cases ty <;> rfl⟩
  subst hz; simp [newA, hi]
theorem own_in {c : Cell} {j : Int32} {k : Nat} (r1 : c.slots.size = n) (hj : ¬ j < 0) (hk : j.toNatClampNeg = k) (hn : k < n) : ¬ (j < 0 ∨ c.slots.size ≤ j.toNatClampNeg) := by
  rintro (q | q)
  · exact hj q
  · omega
theorem own_stB (X : Stand p l e R s m args below meth c T locs cells slots) (hx : p.tables.exec = Jvm.exec) (hZ : Z.Warmed39 s.vm) (eT : T.heap = h) (F : OwnA Z h a .byte n f) {j x : Int32} (k : Nat) (hj : ¬ j < 0) (hk : j.toNatClampNeg = k) (hn : k < n) {g : JFrame} (hg : g.method = m) {rest : List Value} (hs : g.stack = .int x :: .int j :: .ref a :: rest) (hd : decode c.code g.pc = .ok (.bastore, 1)) :
    ∃ T' h', Stand p l e R s m args below meth c T' (locs ++ [⟨a, k⟩]) cells slots ∧ T'.heap = h' ∧ Wr h h' a k (.int x.toInt8.toInt32) ∧ OwnA Z h' a .byte n (own_upd f k (.int x.toInt8.toInt32)) ∧ ∀ target, Steps p.tables e below (T'.setTop { g with pc := g.pc + 1, stack := rest }) target → Steps p.tables e below (T.setTop g) target := by
  obtain ⟨c0, A, r1, r2, r3⟩ := F
  obtain ⟨T', h', X', e', W', st⟩ := stB X hx hZ eT A (own_in r1 hj hk hn) hg hs hd
  subst hk
  exact ⟨T', h', X', e', W', OwnA.set ⟨c0, A, r1, r2, r3⟩ W' (fits_nar_byte _), st⟩
theorem own_stC (X : Stand p l e R s m args below meth c T locs cells slots) (hx : p.tables.exec = Jvm.exec) (hZ : Z.Warmed39 s.vm) (eT : T.heap = h) (F : OwnA Z h a .char n f) {j x : Int32} (k : Nat) (hj : ¬ j < 0) (hk : j.toNatClampNeg = k) (hn : k < n) {g : JFrame} (hg : g.method = m) {rest : List Value} (hs : g.stack = .int x :: .int j :: .ref a :: rest) (hd : decode c.code g.pc = .ok (.castore, 1)) :
    ∃ T' h', Stand p l e R s m args below meth c T' (locs ++ [⟨a, k⟩]) cells slots ∧ T'.heap = h' ∧ Wr h h' a k (.int x.toUInt32.toUInt16.toUInt32.toInt32) ∧ OwnA Z h' a .char n (own_upd f k (.int x.toUInt32.toUInt16.toUInt32.toInt32)) ∧ ∀ target, Steps p.tables e below (T'.setTop { g with pc := g.pc + 1, stack := rest }) target → Steps p.tables e below (T.setTop g) target := by
  obtain ⟨c0, A, r1, r2, r3⟩ := F
  obtain ⟨T', h', X', e', W', st⟩ := stC X hx hZ eT A (own_in r1 hj hk hn) hg hs hd
  subst hk
  exact ⟨T', h', X', e', W', OwnA.set ⟨c0, A, r1, r2, r3⟩ W' (fits_nar_char _), st⟩
theorem own_stJ (X : Stand p l e R s m args below meth c T locs cells slots) (hx : p.tables.exec = Jvm.exec) (hZ : Z.Warmed39 s.vm) (eT : T.heap = h) (F : OwnA Z h a .long n f) {j : Int32} {x : Int64} (k : Nat) (hj : ¬ j < 0) (hk : j.toNatClampNeg = k) (hn : k < n) {g : JFrame} (hg : g.method = m) {rest : List Value} (hs : g.stack = .long x :: .int j :: .ref a :: rest) (hd : decode c.code g.pc = .ok (.lastore, 1)) :
    ∃ T' h', Stand p l e R s m args below meth c T' (locs ++ [⟨a, k⟩]) cells slots ∧ T'.heap = h' ∧ Wr h h' a k (.long x) ∧ OwnA Z h' a .long n (own_upd f k (.long x)) ∧ ∀ target, Steps p.tables e below (T'.setTop { g with pc := g.pc + 1, stack := rest }) target → Steps p.tables e below (T.setTop g) target := by
  obtain ⟨c0, A, r1, r2, r3⟩ := F
  obtain ⟨T', h', X', e', W', st⟩ := stJ X hx hZ eT A (own_in r1 hj hk hn) hg hs hd
  subst hk
  exact ⟨T', h', X', e', W', OwnA.set ⟨c0, A, r1, r2, r3⟩ W' rfl, st⟩
theorem own_stR (X : Stand p l e R s m args below meth c T locs cells slots) (hx : p.tables.exec = Jvm.exec) (hZ : Z.Warmed39 s.vm) (eT : T.heap = h) (F : OwnA Z h a ty n f) (hty : ty.isReference = true) (So : Sto Z h a v) (hv : fits ty v = true) {j : Int32} (k : Nat) (hj : ¬ j < 0) (hk : j.toNatClampNeg = k) (hn : k < n) {g : JFrame} (hg : g.method = m) {rest : List Value} (hs : g.stack = v :: .int j :: .ref a :: rest) (hd : decode c.code g.pc = .ok (.aastore, 1)) :
    ∃ T' h', Stand p l e R s m args below meth c T' (locs ++ [⟨a, k⟩]) cells slots ∧ T'.heap = h' ∧ Wr h h' a k v ∧ OwnA Z h' a ty n (own_upd f k v) ∧ ∀ target, Steps p.tables e below (T'.setTop { g with pc := g.pc + 1, stack := rest }) target → Steps p.tables e below (T.setTop g) target := by
  obtain ⟨c0, A, r1, r2, r3⟩ := F
  obtain ⟨T', h', X', e', W', st⟩ := stR X hx hZ eT A (own_in r1 hj hk hn) hty So hg hs hd
  subst hk
  exact ⟨T', h', X', e', W', OwnA.set ⟨c0, A, r1, r2, r3⟩ W' hv, st⟩
theorem own_ldB (X : Stand p l e R s m args below meth c T locs cells slots) (hx : p.tables.exec = Jvm.exec) (hZ : Z.Warmed39 s.vm) (eT : T.heap = h) (F : OwnA Z h a .byte n f) {j : Int32} (k : Nat) (hj : ¬ j < 0) (hk : j.toNatClampNeg = k) (hn : k < n) (hv : f k = v) {g : JFrame} (hg : g.method = m) {rest : List Value} (hs : g.stack = .int j :: .ref a :: rest) (hd : decode c.code g.pc = .ok (.baload, 1)) :
    ∀ target, Steps p.tables e below (T.setTop { g with pc := g.pc + 1, stack := v :: rest }) target → Steps p.tables e below (T.setTop g) target := by
  obtain ⟨c0, A, r1, r2, r3⟩ := F
  subst hk hv
  exact X.baloadBytes hx (j := j) (by rw [eT]; exact A.1) (State.isArrayOf_alike hZ.alike A.2.1) A.2.2 (own_in r1 hj rfl hn) (r2 _ hn) hg hs hd
theorem own_ldC (X : Stand p l e R s m args below meth c T locs cells slots) (hx : p.tables.exec = Jvm.exec) (hZ : Z.Warmed39 s.vm) (eT : T.heap = h) (F : OwnA Z h a .char n f) {j : Int32} (k : Nat) (hj : ¬ j < 0) (hk : j.toNatClampNeg = k) (hn : k < n) (hv : f k = v) {g : JFrame} (hg : g.method = m) {rest : List Value} (hs : g.stack = .int j :: .ref a :: rest) (hd : decode c.code g.pc = .ok (.caload, 1)) :
    ∀ target, Steps p.tables e below (T.setTop { g with pc := g.pc + 1, stack := v :: rest }) target → Steps p.tables e below (T.setTop g) target := by
  obtain ⟨c0, A, r1, r2, r3⟩ := F
  subst hk hv
  exact X.caload hx (j := j) (by rw [eT]; exact A.1) (State.isArrayOf_alike hZ.alike A.2.1) A.2.2 (own_in r1 hj rfl hn) (r2 _ hn) hg hs hd
theorem own_ldJ (X : Stand p l e R s m args below meth c T locs cells slots) (hx : p.tables.exec = Jvm.exec) (hZ : Z.Warmed39 s.vm) (eT : T.heap = h) (F : OwnA Z h a .long n f) {j : Int32} (k : Nat) (hj : ¬ j < 0) (hk : j.toNatClampNeg = k) (hn : k < n) (hv : f k = v) {g : JFrame} (hg : g.method = m) {rest : List Value} (hs : g.stack = .int j :: .ref a :: rest) (hd : decode c.code g.pc = .ok (.laload, 1)) :
    ∀ target, Steps p.tables e below (T.setTop { g with pc := g.pc + 1, stack := v :: rest }) target → Steps p.tables e below (T.setTop g) target := by
  obtain ⟨c0, A, r1, r2, r3⟩ := F
  subst hk hv
  exact X.laload hx (j := j) (by rw [eT]; exact A.1) (State.isArrayOf_alike hZ.alike A.2.1) A.2.2 (own_in r1 hj rfl hn) (r2 _ hn) hg hs hd
theorem own_ldR (X : Stand p l e R s m args below meth c T locs cells slots) (hx : p.tables.exec = Jvm.exec) (hZ : Z.Warmed39 s.vm) (eT : T.heap = h) (F : OwnA Z h a ty n f) (hty : ty.isReference = true) {j : Int32} (k : Nat) (hj : ¬ j < 0) (hk : j.toNatClampNeg = k) (hn : k < n) (hv : f k = v) {g : JFrame} (hg : g.method = m) {rest : List Value} (hs : g.stack = .int j :: .ref a :: rest) (hd : decode c.code g.pc = .ok (.aaload, 1)) :
    ∀ target, Steps p.tables e below (T.setTop { g with pc := g.pc + 1, stack := v :: rest }) target → Steps p.tables e below (T.setTop g) target := by
  obtain ⟨c0, A, r1, r2, r3⟩ := F
  subst hk hv
  exact X.aaload hx (j := j) (by rw [eT]; exact A.1) (State.isArrayOf_alike hZ.alike A.2.1) hty A.2.2 (own_in r1 hj rfl hn) (r2 _ hn) hg hs hd
theorem own_len (X : Stand p l e R s m args below meth c T locs cells slots) (hx : p.tables.exec = Jvm.exec) (hZ : Z.Warmed39 s.vm) (eT : T.heap = h) (F : OwnA Z h a ty n f) {z : Int32} (hz : n.toInt32 = z) {g : JFrame} (hg : g.method = m) {rest : List Value} (hs : g.stack = .ref a :: rest) (hd : decode c.code g.pc = .ok (.arraylength, 1)) :
    ∀ target, Steps p.tables e below (T.setTop { g with pc := g.pc + 1, stack := .int z :: rest }) target → Steps p.tables e below (T.setTop g) target := by
  obtain ⟨c0, A, r1, r2, r3⟩ := F
  subst hz r1
  exact X.arraylength hx (by rw [eT]; exact A.1) (State.isArrayOf_alike hZ.alike A.2.1) hg hs hd
theorem own_clone (X : Stand p l e R s m args below meth c T locs cells slots) (hx : p.tables.exec = Jvm.exec) (hZ : Z.Warmed39 s.vm) {a0 : Array Value} {own ad : String} {index : Nat} (hown : s.vm.findClass own = some m.cls)
    (w1 : (Jvm.Cond.methodLink own index ⟨ad, "clone", "()Ljava/lang/Object;"⟩).before a0 Z = true) (w2 : (Jvm.Cond.sameMethod ad "java/lang/Object" "clone" "()Ljava/lang/Object;").before a0 Z = true) (w3 : (Jvm.Cond.native ⟨"java/lang/Object", "clone", "()Ljava/lang/Object;"⟩).before a0 Z = true)
    (w4 : (Jvm.Cond.instanceMethod ⟨"java/lang/Object", "clone", "()Ljava/lang/Object;"⟩).before a0 Z = true) (w5 : (Jvm.Cond.selects ad ⟨ad, "clone", "()Ljava/lang/Object;"⟩ ⟨"java/lang/Object", "clone", "()Ljava/lang/Object;"⟩).before a0 Z = true) (w6 : (Jvm.Cond.castable ad "java/lang/Cloneable").before a0 Z = true)
    (eT : T.heap = h) (F : OwnA Z h a ty n f) (E : Exa Z h a ad) {g : JFrame} (hg : g.method = m) (hsize : g.locals.size = c.maxLocals) {rest : List Value} (hs : g.stack = .ref a :: rest) (hd : decode c.code g.pc = .ok (.invokevirtual index, 3))
    (hf : 1 ≤ R.frames) {W cap : Nat} (hW : 2 * g.monitorRoom + (rest.map fun v => v.category).sum ≤ W) (hl : W + 14 ≤ R.locals) (hcap : n ≤ cap) (hc : cells + 1 ≤ R.cells) (hsl : slots + cap ≤ R.slots) :
    ∃ T' h', Stand p l e R s m args below meth c T' locs (cells + 1) (slots + cap) ∧ T'.heap = h' ∧ Ext h h' ∧ OwnA Z h' h.size ty n f ∧ Exa Z h' h.size ad ∧
      ∀ target, Steps p.tables e below (T'.setTop { g with pc := g.pc + 3, stack := .ref h.size :: rest }) target → Steps p.tables e below (T.setTop g) target := by
  obtain ⟨c0, A, r1, r2, r3⟩ := F
  have FC : FitC Z c0 := fitC_of A fun i hi v hv => by
    rw [r1] at hi; rw [r2 i hi] at hv; cases hv; exact r3 i hi
  obtain ⟨T', h', X', e', ex, A', E', st⟩ := cloneA X hx hZ hown w1 w2 w3 w4 w5 w6 eT A E FC hg hsize hs hd hf hW hl (by rw [r1]; exact hcap) hc hsl
  exact ⟨T', h', X', e', ex, ⟨cloneOf c0, A', r1, r2, r3⟩, E', st⟩
theorem own_selP {s : State} {args : Array Value} {y y' : MethodName} (hsel : (Jvm.Cond.selects y.cls y' y').before args s = true) (hc : y'.cls = y.cls) (hpriv : s.PrivateAt y) (hinst : (Jvm.Cond.instanceMethod y).before args s = true) (hy : y.cls ≠ "java/lang/invoke/MethodHandle" ∧ y.cls ≠ "java/lang/invoke/VarHandle") :
    (Jvm.Cond.selects y.cls y y).before args s = true := by
  obtain ⟨c2, r2, m2, a1, a2, q3, a4, kP, hkP, hkPi⟩ := Cond.selects_spec hsel
  have hf := findClass_of_methodNamed q3
  rw [hc] at hf
  exact Stand.selects_self_of_private hf hkP hkPi hpriv hinst hy
theorem own_fcast {C nm d : String} {x y : Int32} (F : Fld Z h a C nm d (.int x)) (q : x = y) : Fld Z h a C nm d (.int y) := q ▸ F
theorem own_ix {j d : Int32} {k i : Nat} (hj : ¬ j < 0) (hk : j.toNatClampNeg = k) (hd : d.toInt = (i : Int)) (hlt : k + i < 2147483648) : ¬ (j + d) < 0 ∧ (j + d).toNatClampNeg = k + i := by
  have e0 : (0 : Int32).toInt = 0 := rfl
  simp only [Int32.lt_iff_toInt_lt, e0, Int32.toNatClampNeg] at hj hk ⊢
  rw [Int32.toInt_add, hd]
  have : (j.toInt + (i : Int)).bmod (2 ^ 32) = j.toInt + (i : Int) := bmod32 (by omega) (by omega)
  rw [this]
  omega
theorem own_mask31 (x : Int32) : 0 ≤ (x &&& (2147483647 : Int32)).toInt := (c_andS x 2147483647).2.2 (by decide)
theorem own_rem {x y : Int32} (hx : 0 ≤ x.toInt) (hy : 0 < y.toInt) : 0 ≤ (x % y).toInt ∧ (x % y).toInt < y.toInt := by
  rw [Int32.toInt_mod]
  exact ⟨Int.tmod_nonneg _ hx, Int.tmod_lt_of_pos _ hy⟩
theorem own_lcEq {x y : Int64} (q : x = y) : lcmpW x y = 0 := by subst q; simp [lcmpW, Int64.lt_irrefl]
theorem own_lcNe {x y : Int64} (q : ¬ x = y) : ¬ lcmpW x y = 0 := by
  by_cases h : x > y
  · rw [lcmpW, if_pos h]; decide
  · rw [lcmpW, if_neg h, if_neg q]; decide
theorem own_lcGt {x y : Int64} (q : y < x) : (0 : Int32) < lcmpW x y := by rw [lcmpW, if_pos q]; decide
theorem own_lcLe {x y : Int64} (q : ¬ y < x) : ¬ (0 : Int32) < lcmpW x y := by
  rw [lcmpW, if_neg q]
  by_cases h : x = y
  · rw [if_pos h]; decide
  · rw [if_neg h]; decide
theorem own_lcLt {x y : Int64} (q : x < y) : lcmpW x y < 0 := by
  rw [lcmpW, if_neg (fun z => Int64.lt_irrefl (Int64.lt_trans z q)), if_neg (fun z => Int64.lt_irrefl (z ▸ q))]; decide
theorem own_lcGe {x y : Int64} (q : ¬ x < y) : ¬ lcmpW x y < 0 := by
  by_cases h : x > y
  · rw [lcmpW, if_pos h]; decide
  · rw [lcmpW, if_neg h, if_pos (Int64.le_antisymm (Int64.not_lt.mp h) (Int64.not_lt.mp q))]; decide
end OwnKit

theorem d1_0 : decode jdk_42_method_139_code 0 = .ok (.getstatic 38, 3) := by decide +kernel
theorem d1_3 : decode jdk_42_method_139_code 3 = .ok (.ifCond .eq 23, 3) := by decide +kernel
theorem d1_6 : decode jdk_42_method_139_code 6 = .ok (.iload_n 0, 1) := by decide +kernel
theorem d1_7 : decode jdk_42_method_139_code 7 = .ok (.invokestatic 1015, 3) := by decide +kernel
theorem d1_10 : decode jdk_42_method_139_code 10 = .ok (.ifCond .eq 16, 3) := by decide +kernel
theorem d1_13 : decode jdk_42_method_139_code 13 = .ok (.new 10, 3) := by decide +kernel
theorem d1_16 : decode jdk_42_method_139_code 16 = .ok (.dup, 1) := by decide +kernel
theorem d1_17 : decode jdk_42_method_139_code 17 = .ok (.iload_n 0, 1) := by decide +kernel
theorem d1_18 : decode jdk_42_method_139_code 18 = .ok (.invokestatic 1018, 3) := by decide +kernel
theorem d1_21 : decode jdk_42_method_139_code 21 = .ok (.iconst 0, 1) := by decide +kernel
theorem d1_22 : decode jdk_42_method_139_code 22 = .ok (.invokespecial 209, 3) := by decide +kernel
theorem d1_25 : decode jdk_42_method_139_code 25 = .ok (.areturn, 1) := by decide +kernel
theorem d2_0 : decode jdk_43_method_3_code 0 = .ok (.iload_n 0, 1) := by decide +kernel
theorem d2_1 : decode jdk_43_method_3_code 1 = .ok (.sipush 255, 3) := by decide +kernel
theorem d2_4 : decode jdk_43_method_3_code 4 = .ok (.if_icmp .gt 7, 3) := by decide +kernel
theorem d2_7 : decode jdk_43_method_3_code 7 = .ok (.iconst 1, 1) := by decide +kernel
theorem d2_8 : decode jdk_43_method_3_code 8 = .ok (.goto 4, 3) := by decide +kernel
theorem d2_12 : decode jdk_43_method_3_code 12 = .ok (.ireturn, 1) := by decide +kernel
theorem d3_0 : decode jdk_43_method_46_code 0 = .ok (.iconst 1, 1) := by decide +kernel
theorem d3_1 : decode jdk_43_method_46_code 1 = .ok (.newarray .byte, 2) := by decide +kernel
theorem d3_3 : decode jdk_43_method_46_code 3 = .ok (.dup, 1) := by decide +kernel
theorem d3_4 : decode jdk_43_method_46_code 4 = .ok (.iconst 0, 1) := by decide +kernel
theorem d3_5 : decode jdk_43_method_46_code 5 = .ok (.iload_n 0, 1) := by decide +kernel
theorem d3_6 : decode jdk_43_method_46_code 6 = .ok (.i2b, 1) := by decide +kernel
theorem d3_7 : decode jdk_43_method_46_code 7 = .ok (.bastore, 1) := by decide +kernel
theorem d3_8 : decode jdk_43_method_46_code 8 = .ok (.areturn, 1) := by decide +kernel
theorem d4_0 : decode jdk_42_method_151_code 0 = .ok (.aload_n 0, 1) := by decide +kernel
theorem d4_1 : decode jdk_42_method_151_code 1 = .ok (.invokespecial 1, 3) := by decide +kernel
theorem d4_4 : decode jdk_42_method_151_code 4 = .ok (.aload_n 0, 1) := by decide +kernel
theorem d4_5 : decode jdk_42_method_151_code 5 = .ok (.aload_n 1, 1) := by decide +kernel
theorem d4_6 : decode jdk_42_method_151_code 6 = .ok (.putfield 9, 3) := by decide +kernel
theorem d4_9 : decode jdk_42_method_151_code 9 = .ok (.aload_n 0, 1) := by decide +kernel
theorem d4_10 : decode jdk_42_method_151_code 10 = .ok (.iload_n 2, 1) := by decide +kernel
theorem d4_11 : decode jdk_42_method_151_code 11 = .ok (.putfield 15, 3) := by decide +kernel
theorem d4_14 : decode jdk_42_method_151_code 14 = .ok (.return_, 1) := by decide +kernel
theorem d6_0 : decode method_2_code 0 = .ok (.iload_n 0, 1) := by decide +kernel
theorem d6_1 : decode method_2_code 1 = .ok (.iconst 1, 1) := by decide +kernel
theorem d6_2 : decode method_2_code 2 = .ok (.if_icmp .ne 12, 3) := by decide +kernel
theorem d6_5 : decode method_2_code 5 = .ok (.iconst 1, 1) := by decide +kernel
theorem d6_6 : decode method_2_code 6 = .ok (.anewarray 7, 3) := by decide +kernel
theorem d6_9 : decode method_2_code 9 = .ok (.dup, 1) := by decide +kernel
theorem d6_10 : decode method_2_code 10 = .ok (.iconst 0, 1) := by decide +kernel
theorem d6_11 : decode method_2_code 11 = .ok (.aload_n 1, 1) := by decide +kernel
theorem d6_12 : decode method_2_code 12 = .ok (.aastore, 1) := by decide +kernel
theorem d6_13 : decode method_2_code 13 = .ok (.areturn, 1) := by decide +kernel
theorem d6_14 : decode method_2_code 14 = .ok (.iload_n 0, 1) := by decide +kernel
theorem d6_15 : decode method_2_code 15 = .ok (.iconst 2, 1) := by decide +kernel
theorem d6_16 : decode method_2_code 16 = .ok (.if_icmp .ne 16, 3) := by decide +kernel
theorem d6_19 : decode method_2_code 19 = .ok (.iconst 2, 1) := by decide +kernel
theorem d6_20 : decode method_2_code 20 = .ok (.anewarray 7, 3) := by decide +kernel
theorem d6_23 : decode method_2_code 23 = .ok (.dup, 1) := by decide +kernel
theorem d6_24 : decode method_2_code 24 = .ok (.iconst 0, 1) := by decide +kernel
theorem d6_25 : decode method_2_code 25 = .ok (.aload_n 1, 1) := by decide +kernel
theorem d6_26 : decode method_2_code 26 = .ok (.aastore, 1) := by decide +kernel
theorem d6_27 : decode method_2_code 27 = .ok (.dup, 1) := by decide +kernel
theorem d6_28 : decode method_2_code 28 = .ok (.iconst 1, 1) := by decide +kernel
theorem d6_29 : decode method_2_code 29 = .ok (.aload_n 2, 1) := by decide +kernel
theorem d6_30 : decode method_2_code 30 = .ok (.aastore, 1) := by decide +kernel
theorem d6_31 : decode method_2_code 31 = .ok (.areturn, 1) := by decide +kernel
theorem d6_32 : decode method_2_code 32 = .ok (.iload_n 0, 1) := by decide +kernel
theorem d6_33 : decode method_2_code 33 = .ok (.iconst 3, 1) := by decide +kernel
theorem d6_34 : decode method_2_code 34 = .ok (.if_icmp .ne 20, 3) := by decide +kernel
theorem d6_37 : decode method_2_code 37 = .ok (.iconst 3, 1) := by decide +kernel
theorem d6_38 : decode method_2_code 38 = .ok (.anewarray 7, 3) := by decide +kernel
theorem d6_41 : decode method_2_code 41 = .ok (.dup, 1) := by decide +kernel
theorem d6_42 : decode method_2_code 42 = .ok (.iconst 0, 1) := by decide +kernel
theorem d6_43 : decode method_2_code 43 = .ok (.aload_n 1, 1) := by decide +kernel
theorem d6_44 : decode method_2_code 44 = .ok (.aastore, 1) := by decide +kernel
theorem d6_45 : decode method_2_code 45 = .ok (.dup, 1) := by decide +kernel
theorem d6_46 : decode method_2_code 46 = .ok (.iconst 1, 1) := by decide +kernel
theorem d6_47 : decode method_2_code 47 = .ok (.aload_n 2, 1) := by decide +kernel
theorem d6_48 : decode method_2_code 48 = .ok (.aastore, 1) := by decide +kernel
theorem d6_49 : decode method_2_code 49 = .ok (.dup, 1) := by decide +kernel
theorem d6_50 : decode method_2_code 50 = .ok (.iconst 2, 1) := by decide +kernel
theorem d6_51 : decode method_2_code 51 = .ok (.aload_n 3, 1) := by decide +kernel
theorem d6_52 : decode method_2_code 52 = .ok (.aastore, 1) := by decide +kernel
theorem d6_53 : decode method_2_code 53 = .ok (.areturn, 1) := by decide +kernel
theorem d6_54 : decode method_2_code 54 = .ok (.iload_n 0, 1) := by decide +kernel
theorem d6_55 : decode method_2_code 55 = .ok (.iconst 4, 1) := by decide +kernel
theorem d6_56 : decode method_2_code 56 = .ok (.if_icmp .ne 25, 3) := by decide +kernel
theorem d6_59 : decode method_2_code 59 = .ok (.iconst 4, 1) := by decide +kernel
theorem d6_60 : decode method_2_code 60 = .ok (.anewarray 7, 3) := by decide +kernel
theorem d6_63 : decode method_2_code 63 = .ok (.dup, 1) := by decide +kernel
theorem d6_64 : decode method_2_code 64 = .ok (.iconst 0, 1) := by decide +kernel
theorem d6_65 : decode method_2_code 65 = .ok (.aload_n 1, 1) := by decide +kernel
theorem d6_66 : decode method_2_code 66 = .ok (.aastore, 1) := by decide +kernel
theorem d6_67 : decode method_2_code 67 = .ok (.dup, 1) := by decide +kernel
theorem d6_68 : decode method_2_code 68 = .ok (.iconst 1, 1) := by decide +kernel
theorem d6_69 : decode method_2_code 69 = .ok (.aload_n 2, 1) := by decide +kernel
theorem d6_70 : decode method_2_code 70 = .ok (.aastore, 1) := by decide +kernel
theorem d6_71 : decode method_2_code 71 = .ok (.dup, 1) := by decide +kernel
theorem d6_72 : decode method_2_code 72 = .ok (.iconst 2, 1) := by decide +kernel
theorem d6_73 : decode method_2_code 73 = .ok (.aload_n 3, 1) := by decide +kernel
theorem d6_74 : decode method_2_code 74 = .ok (.aastore, 1) := by decide +kernel
theorem d6_75 : decode method_2_code 75 = .ok (.dup, 1) := by decide +kernel
theorem d6_76 : decode method_2_code 76 = .ok (.iconst 3, 1) := by decide +kernel
theorem d6_77 : decode method_2_code 77 = .ok (.aload 4, 2) := by decide +kernel
theorem d6_79 : decode method_2_code 79 = .ok (.aastore, 1) := by decide +kernel
theorem d6_80 : decode method_2_code 80 = .ok (.areturn, 1) := by decide +kernel
theorem d6_81 : decode method_2_code 81 = .ok (.iconst 5, 1) := by decide +kernel
theorem d6_82 : decode method_2_code 82 = .ok (.anewarray 7, 3) := by decide +kernel
theorem d6_85 : decode method_2_code 85 = .ok (.dup, 1) := by decide +kernel
theorem d6_86 : decode method_2_code 86 = .ok (.iconst 0, 1) := by decide +kernel
theorem d6_87 : decode method_2_code 87 = .ok (.aload_n 1, 1) := by decide +kernel
theorem d6_88 : decode method_2_code 88 = .ok (.aastore, 1) := by decide +kernel
theorem d6_89 : decode method_2_code 89 = .ok (.dup, 1) := by decide +kernel
theorem d6_90 : decode method_2_code 90 = .ok (.iconst 1, 1) := by decide +kernel
theorem d6_91 : decode method_2_code 91 = .ok (.aload_n 2, 1) := by decide +kernel
theorem d6_92 : decode method_2_code 92 = .ok (.aastore, 1) := by decide +kernel
theorem d6_93 : decode method_2_code 93 = .ok (.dup, 1) := by decide +kernel
theorem d6_94 : decode method_2_code 94 = .ok (.iconst 2, 1) := by decide +kernel
theorem d6_95 : decode method_2_code 95 = .ok (.aload_n 3, 1) := by decide +kernel
theorem d6_96 : decode method_2_code 96 = .ok (.aastore, 1) := by decide +kernel
theorem d6_97 : decode method_2_code 97 = .ok (.dup, 1) := by decide +kernel
theorem d6_98 : decode method_2_code 98 = .ok (.iconst 3, 1) := by decide +kernel
theorem d6_99 : decode method_2_code 99 = .ok (.aload 4, 2) := by decide +kernel
theorem d6_101 : decode method_2_code 101 = .ok (.aastore, 1) := by decide +kernel
theorem d6_102 : decode method_2_code 102 = .ok (.dup, 1) := by decide +kernel
theorem d6_103 : decode method_2_code 103 = .ok (.iconst 4, 1) := by decide +kernel
theorem d6_104 : decode method_2_code 104 = .ok (.aload 5, 2) := by decide +kernel
theorem d6_106 : decode method_2_code 106 = .ok (.aastore, 1) := by decide +kernel
theorem d6_107 : decode method_2_code 107 = .ok (.areturn, 1) := by decide +kernel
theorem d7_0 : decode prog_39_method_1_code 0 = .ok (.aload_n 0, 1) := by decide +kernel
theorem d7_1 : decode prog_39_method_1_code 1 = .ok (.invokespecial 1, 3) := by decide +kernel
theorem d7_4 : decode prog_39_method_1_code 4 = .ok (.aload_n 0, 1) := by decide +kernel
theorem d7_5 : decode prog_39_method_1_code 5 = .ok (.aload_n 1, 1) := by decide +kernel
theorem d7_6 : decode prog_39_method_1_code 6 = .ok (.putfield 7, 3) := by decide +kernel
theorem d7_9 : decode prog_39_method_1_code 9 = .ok (.return_, 1) := by decide +kernel
theorem d8_0 : decode prog_39_method_2_code 0 = .ok (.aload_n 0, 1) := by decide +kernel
theorem d8_1 : decode prog_39_method_2_code 1 = .ok (.getfield 13, 3) := by decide +kernel
theorem d8_4 : decode prog_39_method_2_code 4 = .ok (.aload_n 0, 1) := by decide +kernel
theorem d8_5 : decode prog_39_method_2_code 5 = .ok (.getfield 7, 3) := by decide +kernel
theorem d8_8 : decode prog_39_method_2_code 8 = .ok (.arraylength, 1) := by decide +kernel
theorem d8_9 : decode prog_39_method_2_code 9 = .ok (.if_icmp .ge 7, 3) := by decide +kernel
theorem d8_12 : decode prog_39_method_2_code 12 = .ok (.iconst 1, 1) := by decide +kernel
theorem d8_13 : decode prog_39_method_2_code 13 = .ok (.goto 4, 3) := by decide +kernel
theorem d8_16 : decode prog_39_method_2_code 16 = .ok (.iconst 0, 1) := by decide +kernel
theorem d8_17 : decode prog_39_method_2_code 17 = .ok (.ireturn, 1) := by decide +kernel
theorem d9_0 : decode prog_39_method_3_code 0 = .ok (.aload_n 0, 1) := by decide +kernel
theorem d9_1 : decode prog_39_method_3_code 1 = .ok (.aload_n 0, 1) := by decide +kernel
theorem d9_2 : decode prog_39_method_3_code 2 = .ok (.getfield 7, 3) := by decide +kernel
theorem d9_5 : decode prog_39_method_3_code 5 = .ok (.aload_n 0, 1) := by decide +kernel
theorem d9_6 : decode prog_39_method_3_code 6 = .ok (.getfield 13, 3) := by decide +kernel
theorem d9_9 : decode prog_39_method_3_code 9 = .ok (.aaload, 1) := by decide +kernel
theorem d9_10 : decode prog_39_method_3_code 10 = .ok (.putfield 17, 3) := by decide +kernel
theorem d9_13 : decode prog_39_method_3_code 13 = .ok (.aload_n 0, 1) := by decide +kernel
theorem d9_14 : decode prog_39_method_3_code 14 = .ok (.dup, 1) := by decide +kernel
theorem d9_15 : decode prog_39_method_3_code 15 = .ok (.getfield 13, 3) := by decide +kernel
theorem d9_18 : decode prog_39_method_3_code 18 = .ok (.iconst 2, 1) := by decide +kernel
theorem d9_19 : decode prog_39_method_3_code 19 = .ok (.iadd, 1) := by decide +kernel
theorem d9_20 : decode prog_39_method_3_code 20 = .ok (.putfield 13, 3) := by decide +kernel
theorem d9_23 : decode prog_39_method_3_code 23 = .ok (.aload_n 0, 1) := by decide +kernel
theorem d9_24 : decode prog_39_method_3_code 24 = .ok (.getfield 17, 3) := by decide +kernel
theorem d9_27 : decode prog_39_method_3_code 27 = .ok (.areturn, 1) := by decide +kernel
theorem d10_0 : decode jdk_42_method_66_code 0 = .ok (.aload_n 0, 1) := by decide +kernel
theorem d10_1 : decode jdk_42_method_66_code 1 = .ok (.aload_n 1, 1) := by decide +kernel
theorem d10_2 : decode jdk_42_method_66_code 2 = .ok (.if_acmp .ne 5, 3) := by decide +kernel
theorem d10_5 : decode jdk_42_method_66_code 5 = .ok (.iconst 1, 1) := by decide +kernel
theorem d10_6 : decode jdk_42_method_66_code 6 = .ok (.ireturn, 1) := by decide +kernel
theorem d11_0 : decode prog_39_method_4_code 0 = .ok (.aload_n 0, 1) := by decide +kernel
theorem d11_1 : decode prog_39_method_4_code 1 = .ok (.getfield 13, 3) := by decide +kernel
theorem d11_4 : decode prog_39_method_4_code 4 = .ok (.iconst 1, 1) := by decide +kernel
theorem d11_5 : decode prog_39_method_4_code 5 = .ok (.isub, 1) := by decide +kernel
theorem d11_6 : decode prog_39_method_4_code 6 = .ok (.istore_n 1, 1) := by decide +kernel
theorem d11_7 : decode prog_39_method_4_code 7 = .ok (.iload_n 1, 1) := by decide +kernel
theorem d11_8 : decode prog_39_method_4_code 8 = .ok (.aload_n 0, 1) := by decide +kernel
theorem d11_9 : decode prog_39_method_4_code 9 = .ok (.getfield 7, 3) := by decide +kernel
theorem d11_12 : decode prog_39_method_4_code 12 = .ok (.arraylength, 1) := by decide +kernel
theorem d11_13 : decode prog_39_method_4_code 13 = .ok (.if_icmp .lt 20, 3) := by decide +kernel
theorem d11_33 : decode prog_39_method_4_code 33 = .ok (.aload_n 0, 1) := by decide +kernel
theorem d11_34 : decode prog_39_method_4_code 34 = .ok (.getfield 7, 3) := by decide +kernel
theorem d11_37 : decode prog_39_method_4_code 37 = .ok (.iload_n 1, 1) := by decide +kernel
theorem d11_38 : decode prog_39_method_4_code 38 = .ok (.aaload, 1) := by decide +kernel
theorem d11_39 : decode prog_39_method_4_code 39 = .ok (.areturn, 1) := by decide +kernel
theorem own_pn0 : plainName "java/lang/StringLatin1" = true := by first | (simp [plainName, overriddenIn]; done) | decide +kernel
theorem own_pn1 : plainName "java/lang/String" = true := by first | (simp [plainName, overriddenIn]; done) | decide +kernel
theorem own_pn2 : plainName "com/example/seglport/seglport/options/OptionReaderNextPinLaw" = true := by first | (simp [plainName, overriddenIn]; done) | decide +kernel
theorem own_pn3 : plainName "com/example/seglport/seglport/options/OptionReader" = true := by first | (simp [plainName, overriddenIn]; done) | decide +kernel
theorem own_pd0 : parseMethodDescriptor "(C)Z" = some ⟨[.char], some .boolean⟩ := by decide +kernel
theorem own_pd1 : parseMethodDescriptor "(C)[B" = some ⟨[.char], some (.array .byte)⟩ := by decide +kernel
theorem own_pd2 : parseMethodDescriptor "([BB)V" = some ⟨[(.array .byte), .byte], none⟩ := by decide +kernel
theorem own_pd3 : parseMethodDescriptor "(C)Ljava/lang/String;" = some ⟨[.char], some (.object "java/lang/String")⟩ := by decide +kernel
theorem own_pd4 : parseMethodDescriptor "(ILjava/lang/String;Ljava/lang/String;Ljava/lang/String;Ljava/lang/String;Ljava/lang/String;)[Ljava/lang/String;" = some ⟨[.int, (.object "java/lang/String"), (.object "java/lang/String"), (.object "java/lang/String"), (.object "java/lang/String"), (.object "java/lang/String")], some (.array (.object "java/lang/String"))⟩ := by decide +kernel
theorem own_pd5 : parseMethodDescriptor "([Ljava/lang/String;)V" = some ⟨[(.array (.object "java/lang/String"))], none⟩ := by decide +kernel
theorem own_pd6 : parseMethodDescriptor "()Z" = some ⟨[], some .boolean⟩ := by decide +kernel
theorem own_pd7 : parseMethodDescriptor "()Ljava/lang/String;" = some ⟨[], some (.object "java/lang/String")⟩ := by decide +kernel
theorem own_pd8 : parseMethodDescriptor "(Ljava/lang/Object;)Z" = some ⟨[(.object "java/lang/Object")], some .boolean⟩ := by decide +kernel
def QN (x : Int32) (h0 : Heap) (n0 : Nat) (v : Option Value) (h : Heap) (L : List Loc) : Prop := v = some (.int x) ∧ Fr n0 L ∧ h = h0
def QA (x : Addr) (h0 : Heap) (n0 : Nat) (v : Option Value) (h : Heap) (L : List Loc) : Prop := v = some (.ref x) ∧ Fr n0 L ∧ h = h0
set_option maxRecDepth 65536 in
set_option maxHeartbeats 40000000 in
theorem rm_can (l : Launch) (Z : State) (a0 : Array Value) (hw : ∀ d ∈ tables_1, d.before a0 Z = true) (ws : List Jvm.Cond) (p1 : Int32) (h0 : Heap) (n0 : Nat) (Z0 : n0 ≤ h0.size) (hp : ¬ (255 : Int32) < p1) :
    MetFree l (⟨"java/lang/StringLatin1", "canEncode", "(C)Z"⟩ : MethodName) (head1 (Jvm.Cond.code (⟨"java/lang/StringLatin1", "canEncode", "(C)Z"⟩ : MethodName) jdk_43_method_3_code 1 (some .boolean) :: ws) ({ frames := 0, cells := 0, slots := 0, locals := 0 } : Room)) (fun a U => a = #[(.int p1)] ∧ Z.Warmed39 U.vm ∧ U.heap = h0) (fun _ _ _ _ _ => True) (fun _ U o U' => ∃ v L, o = .returned v ∧ QN (1 : Int32) h0 n0 v U'.heap L ∧ FrameEnd U o U' L ({ frames := 0, cells := 0, slots := 0, locals := 0 } : Room).cells ({ frames := 0, cells := 0, slots := 0, locals := 0 } : Room).slots) := by
  refine MetFree.of_bodySF (plainFor_of_name own_pn0) hisR ?_
  intro p e s m args below meth c s₁ Bd hml0 hP hK
  obtain ⟨rfl, hZ, hh⟩ := hP
  have hx := Bd.exec
  have hby := Bd.bytes
  have hml : c.maxLocals = 1 := hml0
  have hown : s.vm.findClass "java/lang/StringLatin1" = some m.cls := findClass_of_methodNamed Bd.named
  have hnm := (name_of_methodNamed Bd.named Bd.method).1
  have X0 : Stand p l e ({ frames := 0, cells := 0, slots := 0, locals := 0 } : Room) s m #[(.int p1)] below meth c s₁ [] 0 0 := Stand.of_body Bd
  have e0 : s₁.heap = h0 := by rw [← hh, Bd.state]; rfl
  have N0 := Fr.nil n0
  have ef : entryFrame m #[(.int p1)] 1 = mkF m 0 #[.val (.int p1)] [] := by first | (simp [entryFrame, mkF, argsToLocals, Value.category]; done) | rfl
  have pre0 : ∀ t, Steps p.tables e below (s₁.setTop (mkF m 0 #[.val (.int p1)] [])) t → Steps p.tables e below (s₁.setTop (entryFrame m #[(.int p1)] 1)) t := fun t k => castTop ef k
  obtain ⟨fs, hr, hrun, hended, hW, hsame⟩ := X0.leave (v := some (.int (1 : Int32))) (fun h => by rw [Bd.returns] at h; cases h)
  refine ⟨_, _, pre0 _ ?_, hrun, hended, _, _, rfl, ?_, ⟨_, rfl⟩, hW, hsame.mono (by decide) (by decide)⟩
  · show Steps p.tables e below (s₁.setTop (mkF m 0 #[.val (.int p1)] [])) _
    refine XS.iloadN X0.here hx rfl (hb hby d2_0) rfl ?_
    show Steps p.tables e below (s₁.setTop (mkF m 1 #[.val (.int p1)] [(.int p1)])) _
    refine XS.sipush X0.here hx rfl (hb hby d2_1) ?_
    show Steps p.tables e below (s₁.setTop (mkF m 4 #[.val (.int p1)] [(.int (255 : Int32)), (.int p1)])) _
    refine XS.icmpNo X0.here hx rfl (hb hby d2_4) rfl (flt hp).2.2.1 ?_
    show Steps p.tables e below (s₁.setTop (mkF m 7 #[.val (.int p1)] [])) _
    refine XS.iconst X0.here hx rfl (hb hby d2_7) ?_
    show Steps p.tables e below (s₁.setTop (mkF m 8 #[.val (.int p1)] [(.int (1 : Int32))])) _
    refine XS.goto X0.here hx rfl (pc0 := 8) (pc' := 12) rfl (hb hby d2_8) (by decide) (by decide) ?_
    show Steps p.tables e below (s₁.setTop (mkF m 12 #[.val (.int p1)] [(.int (1 : Int32))])) _
    exact retN X0 hx (t := .boolean) Bd.returns (by simp) (hb hby d2_12) hr
  · show QN (1 : Int32) h0 n0 _ s₁.heap _
    rw [e0]
    exact ⟨rfl, N0, rfl⟩
def QB (Z : State) (h0 : Heap) (n0 : Nat) (v : Option Value) (h : Heap) (L : List Loc) : Prop := ∃ b, v = some (.ref b) ∧ Fr n0 L ∧ Keep h0 h [] ∧ h0.size ≤ b ∧ n0 ≤ b
set_option maxRecDepth 65536 in
set_option maxHeartbeats 40000000 in
theorem rm_bytes (l : Launch) (Z : State) (a0 : Array Value) (hw : ∀ d ∈ tables_1, d.before a0 Z = true) (ws : List Jvm.Cond) (p1 : Int32) (h0 : Heap) (n0 : Nat) (Z0 : n0 ≤ h0.size)  :
    MetFree l (⟨"java/lang/StringLatin1", "toBytes", "(C)[B"⟩ : MethodName) (head1 (Jvm.Cond.code (⟨"java/lang/StringLatin1", "toBytes", "(C)[B"⟩ : MethodName) jdk_43_method_46_code 1 (some (.array .byte)) :: ws) ({ frames := 0, cells := 1, slots := 1, locals := 0 } : Room)) (fun a U => a = #[(.int p1)] ∧ Z.Warmed39 U.vm ∧ U.heap = h0) (fun _ _ _ _ _ => True) (fun _ U o U' => ∃ v L, o = .returned v ∧ QB Z h0 n0 v U'.heap L ∧ FrameEnd U o U' L ({ frames := 0, cells := 1, slots := 1, locals := 0 } : Room).cells ({ frames := 0, cells := 1, slots := 1, locals := 0 } : Room).slots) := by
  refine MetFree.of_bodySF (plainFor_of_name own_pn0) hisR ?_
  intro p e s m args below meth c s₁ Bd hml0 hP hK
  obtain ⟨rfl, hZ, hh⟩ := hP
  have hx := Bd.exec
  have hby := Bd.bytes
  have hml : c.maxLocals = 1 := hml0
  have hown : s.vm.findClass "java/lang/StringLatin1" = some m.cls := findClass_of_methodNamed Bd.named
  have hnm := (name_of_methodNamed Bd.named Bd.method).1
  have X0 : Stand p l e ({ frames := 0, cells := 1, slots := 1, locals := 0 } : Room) s m #[(.int p1)] below meth c s₁ [] 0 0 := Stand.of_body Bd
  have e0 : s₁.heap = h0 := by rw [← hh, Bd.state]; rfl
  have N0 := Fr.nil n0
  have ef : entryFrame m #[(.int p1)] 1 = mkF m 0 #[.val (.int p1)] [] := by first | (simp [entryFrame, mkF, argsToLocals, Value.category]; done) | rfl
  have pre0 : ∀ t, Steps p.tables e below (s₁.setTop (mkF m 0 #[.val (.int p1)] [])) t → Steps p.tables e below (s₁.setTop (entryFrame m #[(.int p1)] 1)) t := fun t k => castTop ef k
  obtain ⟨T101, h101, k101, X101, e101, E101, A101, Ex101, st101⟩ := newPE X0 hx hZ (aty := .byte) (hw _ (List.mem_of_getElem? (i := 15) rfl)) e0 (g := (mkF m 1 #[.val (.int p1)] [(.int (1 : Int32))])) rfl (hb hby d3_1) rfl (by decide) (cap := 1) (by decide) (by decide) (by decide) (by decide) (ad := "[B") (by decide)
  obtain ⟨b101, g101⟩ : ∃ z, z = h0.size := ⟨_, rfl⟩
  rw [← g101] at A101 Ex101 st101
  have g_b101 : n0 ≤ b101 := Nat.le_trans Z0 (Nat.le_of_eq g101.symm)
  have sz_b101 : h0.size ≤ b101 := Nat.le_trans (Keep.refl h0 []).1 (Nat.le_of_eq g101.symm)
  have Z101 : n0 ≤ h101.size := Nat.le_trans Z0 E101.1
  have KC101 : Keep h0 h101 [] := (Keep.refl h0 []).ext E101
  have V101 : OwnA Z h101 b101 .byte 1 (fun _ => (.int (0 : Int32))) := OwnA.new A101 rfl
  obtain ⟨T102, h102, X102, e102, W102, V102, st102⟩ := own_stB X101 hx hZ e101 V101 (j := (0 : Int32)) 0 (by decide) rfl (by decide) (g := (mkF m 7 #[.val (.int p1)] [(.int (p1.toInt8.toInt32)), (.int (0 : Int32)), (.ref b101), (.ref b101)])) rfl rfl (hb hby d3_7)
  have Z102 : n0 ≤ h102.size := Nat.le_trans Z101 (Nat.le_of_eq W102.size.symm)
  have KC102 : Keep h0 h102 [] := KC101.wr W102 (Or.inr sz_b101)
  have N102 := Fr.snoc X102 N0 g_b101
  obtain ⟨fs, hr, hrun, hended, hW, hsame⟩ := X102.leave (v := some (.ref b101)) (fun h => by rw [Bd.returns] at h; cases h)
  refine ⟨_, _, pre0 _ ?_, hrun, hended, _, _, rfl, ?_, ⟨_, rfl⟩, hW, hsame.mono (by decide) (by decide)⟩
  · show Steps p.tables e below (s₁.setTop (mkF m 0 #[.val (.int p1)] [])) _
    refine XS.iconst X0.here hx rfl (hb hby d3_0) ?_
    show Steps p.tables e below (s₁.setTop (mkF m 1 #[.val (.int p1)] [(.int (1 : Int32))])) _
    refine st101 _ ?_
    show Steps p.tables e below (T101.setTop (mkF m 3 #[.val (.int p1)] [(.ref b101)])) _
    refine XS.dup X101.here hx rfl (hb hby d3_3) rfl rfl ?_
    show Steps p.tables e below (T101.setTop (mkF m 4 #[.val (.int p1)] [(.ref b101), (.ref b101)])) _
    refine XS.iconst X101.here hx rfl (hb hby d3_4) ?_
    show Steps p.tables e below (T101.setTop (mkF m 5 #[.val (.int p1)] [(.int (0 : Int32)), (.ref b101), (.ref b101)])) _
    refine XS.iloadN X101.here hx rfl (hb hby d3_5) rfl ?_
    show Steps p.tables e below (T101.setTop (mkF m 6 #[.val (.int p1)] [(.int p1), (.int (0 : Int32)), (.ref b101), (.ref b101)])) _
    refine XS.i2b X101.here hx rfl (hb hby d3_6) rfl ?_
    show Steps p.tables e below (T101.setTop (mkF m 7 #[.val (.int p1)] [(.int (p1.toInt8.toInt32)), (.int (0 : Int32)), (.ref b101), (.ref b101)])) _
    refine st102 _ ?_
    show Steps p.tables e below (T102.setTop (mkF m 8 #[.val (.int p1)] [(.ref b101)])) _
    exact own_retA X102 hx (t := (.array .byte)) rfl Bd.returns (hb hby d3_8) hr
  · show QB Z h0 n0 _ T102.heap _
    rw [e102]
    exact ⟨b101, rfl, N102, KC102, sz_b101, g_b101⟩
def QI (Z : State) (a1 : Addr) (h0 : Heap) (n0 : Nat) (v : Option Value) (h : Heap) (L : List Loc) : Prop := v = none ∧ Fr n0 L ∧ Keep h0 h [a1] ∧ Exa Z h a1 "java/lang/String"
set_option maxRecDepth 65536 in
set_option maxHeartbeats 40000000 in
theorem rm_str (l : Launch) (Z : State) (a0 : Array Value) (hw : ∀ d ∈ tables_1, d.before a0 Z = true) (ws : List Jvm.Cond) (a1 : Addr) (a2 : Addr) (h0 : Heap) (n0 : Nat) (Z0 : n0 ≤ h0.size) (Ex : Exa Z h0 a1 "java/lang/String") (g_a1 : n0 ≤ a1) (F0 : Fld Z h0 a1 "java/lang/String" "value" "[B" .null) (F1 : Fld Z h0 a1 "java/lang/String" "coder" "B" (.int (0 : Int32))) :
    MetFree l (⟨"java/lang/String", "<init>", "([BB)V"⟩ : MethodName) (head1 (Jvm.Cond.code (⟨"java/lang/String", "<init>", "([BB)V"⟩ : MethodName) jdk_42_method_151_code 3 none :: ws) ({ frames := 1, cells := 0, slots := 0, locals := 12 } : Room)) (fun a U => a = #[(.ref a1), (.ref a2), (.int (0 : Int32))] ∧ Z.Warmed39 U.vm ∧ U.heap = h0) (fun _ _ _ _ _ => True) (fun _ U o U' => ∃ v L, o = .returned v ∧ QI Z a1 h0 n0 v U'.heap L ∧ FrameEnd U o U' L ({ frames := 1, cells := 0, slots := 0, locals := 12 } : Room).cells ({ frames := 1, cells := 0, slots := 0, locals := 12 } : Room).slots) := by
  refine MetFree.of_bodySF (plainFor_of_name own_pn1) hisR ?_
  intro p e s m args below meth c s₁ Bd hml0 hP hK
  obtain ⟨rfl, hZ, hh⟩ := hP
  have hx := Bd.exec
  have hby := Bd.bytes
  have hml : c.maxLocals = 3 := hml0
  have hown : s.vm.findClass "java/lang/String" = some m.cls := findClass_of_methodNamed Bd.named
  have hnm := (name_of_methodNamed Bd.named Bd.method).1
  have X0 : Stand p l e ({ frames := 1, cells := 0, slots := 0, locals := 12 } : Room) s m #[(.ref a1), (.ref a2), (.int (0 : Int32))] below meth c s₁ [] 0 0 := Stand.of_body Bd
  have e0 : s₁.heap = h0 := by rw [← hh, Bd.state]; rfl
  have N0 := Fr.nil n0
  have ef : entryFrame m #[(.ref a1), (.ref a2), (.int (0 : Int32))] 3 = mkF m 0 #[.val (.ref a1), .val (.ref a2), .val (.int (0 : Int32))] [] := by first | (simp [entryFrame, mkF, argsToLocals, Value.category]; done) | rfl
  have pre0 : ∀ t, Steps p.tables e below (s₁.setTop (mkF m 0 #[.val (.ref a1), .val (.ref a2), .val (.int (0 : Int32))] [])) t → Steps p.tables e below (s₁.setTop (entryFrame m #[(.ref a1), (.ref a2), (.int (0 : Int32))] 3)) t := fun t k => castTop ef k
  obtain ⟨T101, X101, e101, st101⟩ := initO X0 hx hZ hown (hw _ (List.mem_of_getElem? (i := 20) rfl)) (hw _ (List.mem_of_getElem? (i := 21) rfl)) (hw _ (List.mem_of_getElem? (i := 22) rfl)) e0 (g := (mkF m 1 #[.val (.ref a1), .val (.ref a2), .val (.int (0 : Int32))] [(.ref a1)])) rfl (by rw [hml]; rfl) rfl (hb hby d4_1) (by decide) (W := 0) (by show 2 * 0 + _ ≤ _; exact Nat.le_of_eq rfl) (by decide)
  obtain ⟨T102, h102, X102, e102, W102, st102⟩ := putF X101 hx hZ hown (host := "") (Or.inl (hw _ (List.mem_of_getElem? (i := 23) rfl))) Via.refl e101 F0 Ex (Or.inr ⟨(hw _ (List.mem_of_getElem? (i := 24) rfl)), rfl, hnm⟩) (hw _ (List.mem_of_getElem? (i := 11) rfl)) (ty := (.array .byte)) (by decide) rfl rfl (g := (mkF m 6 #[.val (.ref a1), .val (.ref a2), .val (.int (0 : Int32))] [(.ref a2), (.ref a1)])) rfl rfl (hb hby d4_6)
  have F102 := F0.same W102
  have Z102 : n0 ≤ h102.size := Nat.le_trans Z0 (Nat.le_of_eq W102.size.symm)
  have KC102 : Keep h0 h102 [a1] := (Keep.refl h0 [a1]).wr W102 (Or.inl (List.mem_of_getElem? (i := 0) rfl))
  have N102 := Fr.snoc X102 N0 g_a1
  have f103 := (Ex.wr W102)
  have f104 := (F1.other W102 (Or.inr (slot_ne (Or.inr (hw _ (List.mem_of_getElem? (i := 26) rfl))) (Or.inr (hw _ (List.mem_of_getElem? (i := 24) rfl))) (by decide) (t := .byte) (t' := (.array .byte)) (by decide) (by decide))))
  obtain ⟨T105, h105, X105, e105, W105, st105⟩ := putFN X102 hx hZ hown (hw _ (List.mem_of_getElem? (i := 25) rfl)) Via.refl e102 f104 f103 (Or.inr ⟨(hw _ (List.mem_of_getElem? (i := 26) rfl)), rfl, hnm⟩) (hw _ (List.mem_of_getElem? (i := 11) rfl)) (ty := .byte) (v' := .int (0 : Int32)) (by decide) rfl rfl (g := (mkF m 11 #[.val (.ref a1), .val (.ref a2), .val (.int (0 : Int32))] [(.int (0 : Int32)), (.ref a1)])) rfl rfl (hb hby d4_11)
  have F105 := f104.same W105
  have Z105 : n0 ≤ h105.size := Nat.le_trans Z102 (Nat.le_of_eq W105.size.symm)
  have KC105 : Keep h0 h105 [a1] := KC102.wr W105 (Or.inl (List.mem_of_getElem? (i := 0) rfl))
  have N105 := Fr.snoc X105 N102 g_a1
  have f106 := (f103.wr W105)
  obtain ⟨fs, hr, hrun, hended, hW, hsame⟩ := X105.leave (v := none) (fun _ => rfl)
  refine ⟨_, _, pre0 _ ?_, hrun, hended, _, _, rfl, ?_, ⟨_, rfl⟩, hW, hsame.mono (by decide) (by decide)⟩
  · show Steps p.tables e below (s₁.setTop (mkF m 0 #[.val (.ref a1), .val (.ref a2), .val (.int (0 : Int32))] [])) _
    refine XS.aloadN X0.here hx rfl (hb hby d4_0) rfl rfl ?_
    show Steps p.tables e below (s₁.setTop (mkF m 1 #[.val (.ref a1), .val (.ref a2), .val (.int (0 : Int32))] [(.ref a1)])) _
    refine st101 _ ?_
    show Steps p.tables e below (T101.setTop (mkF m 4 #[.val (.ref a1), .val (.ref a2), .val (.int (0 : Int32))] [])) _
    refine XS.aloadN X101.here hx rfl (hb hby d4_4) rfl rfl ?_
    show Steps p.tables e below (T101.setTop (mkF m 5 #[.val (.ref a1), .val (.ref a2), .val (.int (0 : Int32))] [(.ref a1)])) _
    refine XS.aloadN X101.here hx rfl (hb hby d4_5) rfl rfl ?_
    show Steps p.tables e below (T101.setTop (mkF m 6 #[.val (.ref a1), .val (.ref a2), .val (.int (0 : Int32))] [(.ref a2), (.ref a1)])) _
    refine st102 _ ?_
    show Steps p.tables e below (T102.setTop (mkF m 9 #[.val (.ref a1), .val (.ref a2), .val (.int (0 : Int32))] [])) _
    refine XS.aloadN X102.here hx rfl (hb hby d4_9) rfl rfl ?_
    show Steps p.tables e below (T102.setTop (mkF m 10 #[.val (.ref a1), .val (.ref a2), .val (.int (0 : Int32))] [(.ref a1)])) _
    refine XS.iloadN X102.here hx rfl (hb hby d4_10) rfl ?_
    show Steps p.tables e below (T102.setTop (mkF m 11 #[.val (.ref a1), .val (.ref a2), .val (.int (0 : Int32))] [(.int (0 : Int32)), (.ref a1)])) _
    refine st105 _ ?_
    show Steps p.tables e below (T105.setTop (mkF m 14 #[.val (.ref a1), .val (.ref a2), .val (.int (0 : Int32))] [])) _
    exact X105.returnOut hx Bd.returns (hb hby d4_14) hr
  · show QI Z a1 h0 n0 _ T105.heap _
    rw [e105]
    exact ⟨rfl, N105, KC105, f106⟩
def QS (Z : State) (h0 : Heap) (n0 : Nat) (v : Option Value) (h : Heap) (L : List Loc) : Prop := ∃ b, v = some (.ref b) ∧ Fr n0 L ∧ Keep h0 h [] ∧ h0.size ≤ b ∧ Exa Z h b "java/lang/String"
set_option maxRecDepth 65536 in
set_option maxHeartbeats 40000000 in
theorem rm_val (l : Launch) (Z : State) (a0 : Array Value) (hw : ∀ d ∈ tables_1, d.before a0 Z = true) (ws : List Jvm.Cond) (p1 : Int32) (cs : Int32) (h0 : Heap) (n0 : Nat) (Z0 : n0 ≤ h0.size) (Sc : Sta Z Z.heap "java/lang/String" "COMPACT_STRINGS" "Z" (.int cs)) (hcs : ¬ (cs = (0 : Int32))) (O0 : Old Z n0 h0) (hp : ¬ (255 : Int32) < p1) :
    MetFree l (⟨"java/lang/String", "valueOf", "(C)Ljava/lang/String;"⟩ : MethodName) (head1 (Jvm.Cond.code (⟨"java/lang/String", "valueOf", "(C)Ljava/lang/String;"⟩ : MethodName) jdk_42_method_139_code 1 (some (.object "java/lang/String")) :: ws) ({ frames := 2, cells := 2, slots := 5, locals := 27 } : Room)) (fun a U => a = #[(.int p1)] ∧ Z.Warmed39 U.vm ∧ U.heap = h0) (fun _ _ _ _ _ => True) (fun _ U o U' => ∃ v L, o = .returned v ∧ QS Z h0 n0 v U'.heap L ∧ FrameEnd U o U' L ({ frames := 2, cells := 2, slots := 5, locals := 27 } : Room).cells ({ frames := 2, cells := 2, slots := 5, locals := 27 } : Room).slots) := by
  refine MetFree.of_bodySF (plainFor_of_name own_pn1) hisR ?_
  intro p e s m args below meth c s₁ Bd hml0 hP hK
  obtain ⟨rfl, hZ, hh⟩ := hP
  have hx := Bd.exec
  have hby := Bd.bytes
  have hml : c.maxLocals = 1 := hml0
  have hown : s.vm.findClass "java/lang/String" = some m.cls := findClass_of_methodNamed Bd.named
  have hnm := (name_of_methodNamed Bd.named Bd.method).1
  have X0 : Stand p l e ({ frames := 2, cells := 2, slots := 5, locals := 27 } : Room) s m #[(.int p1)] below meth c s₁ [] 0 0 := Stand.of_body Bd
  have e0 : s₁.heap = h0 := by rw [← hh, Bd.state]; rfl
  have N0 := Fr.nil n0
  have ef : entryFrame m #[(.int p1)] 1 = mkF m 0 #[.val (.int p1)] [] := by first | (simp [entryFrame, mkF, argsToLocals, Value.category]; done) | rfl
  have pre0 : ∀ t, Steps p.tables e below (s₁.setTop (mkF m 0 #[.val (.int p1)] [])) t → Steps p.tables e below (s₁.setTop (entryFrame m #[(.int p1)] 1)) t := fun t k => castTop ef k
  obtain ⟨T101, X101, e101, st101⟩ := getS X0 hx hZ (host := "") hown (hw _ (List.mem_of_getElem? (i := 5) rfl)) Via.refl e0 (Sc.ext O0.2) (g := (mkF m 0 #[.val (.int p1)] [])) rfl (hb hby d1_0)
  obtain ⟨_, _, ⟨T102, L102, k102, n102⟩, -, X102, ⟨Lc102, hQ102, l102, y102, z102⟩, st102⟩ := Jvm.LawKit.callS X101 hx (y := (⟨"java/lang/StringLatin1", "canEncode", "(C)Z"⟩ : MethodName)) hown (mvT hZ (hw _ (List.mem_of_getElem? (i := 6) rfl))) (mvT hZ (hw _ (List.mem_of_getElem? (i := 7) rfl))) (mvT hZ (hw _ (List.mem_of_getElem? (i := 8) rfl))) (mvT hZ (hw _ (List.mem_of_getElem? (i := 9) rfl))) (by decide) (backOf (W := 0) (rm_can l Z a0 hw [] p1 h0 n0 Z0 hp) hZ (hw _ (List.mem_of_getElem? (i := 9) rfl)) (hw _ (List.mem_of_getElem? (i := 8) rfl)) (by decide) (by decide)) (g := (mkF m 7 #[.val (.int p1)] [(.int p1)])) rfl (by rw [hml]; rfl) (argsL := [(.int p1)]) (rest := []) (lenOf own_pd0 rfl) rfl (by show 2 * 0 + _ ≤ _; exact Nat.le_of_eq rfl) (hb hby d1_7) (fun _ _ => ⟨rfl, e101, (by decide : 0 + 0 ≤ _), (by decide : 0 + 0 ≤ _)⟩)
  dsimp only [Pt.U, Pt.locs, Pt.cells, Pt.slots] at X102 l102 y102 z102 st102 hQ102
  subst l102 y102 z102
  obtain ⟨rfl, Nq102, e102⟩ := hQ102
  have N102 := Fr.app N0 Nq102
  obtain ⟨T103, h103, X103, e103, E103, A103, D103, -, st103⟩ := newO X102 hx hZ hown (hw _ (List.mem_of_getElem? (i := 10) rfl)) (hw _ (List.mem_of_getElem? (i := 11) rfl)) (hw _ (List.mem_of_getElem? (i := 3) rfl)) e102 (g := (mkF m 13 #[.val (.int p1)] [])) rfl (hb hby d1_13) (by decide) (by decide)
  obtain ⟨b103, g103⟩ : ∃ z, z = h0.size := ⟨_, rfl⟩
  rw [← g103] at A103 D103 st103
  have g_b103 : n0 ≤ b103 := Nat.le_trans Z0 (Nat.le_of_eq g103.symm)
  have sz_b103 : h0.size ≤ b103 := Nat.le_trans (Keep.refl h0 []).1 (Nat.le_of_eq g103.symm)
  have Z103 : n0 ≤ h103.size := Nat.le_trans Z0 E103.1
  have KC103 : Keep h0 h103 [] := (Keep.refl h0 []).ext E103
  have F_value_b103 : Fld Z h103 b103 "java/lang/String" "value" "[B" .null := D103 (Or.inr (hw _ (List.mem_of_getElem? (i := 24) rfl))) (ty := (.array .byte)) (by decide)
  have F_coder_b103 : Fld Z h103 b103 "java/lang/String" "coder" "B" (.int (0 : Int32)) := D103 (Or.inr (hw _ (List.mem_of_getElem? (i := 26) rfl))) (ty := .byte) (by decide)
  obtain ⟨_, _, ⟨T104, L104, k104, n104⟩, -, X104, ⟨Lc104, hQ104, l104, y104, z104⟩, st104⟩ := Jvm.LawKit.callS X103 hx (y := (⟨"java/lang/StringLatin1", "toBytes", "(C)[B"⟩ : MethodName)) hown (mvT hZ (hw _ (List.mem_of_getElem? (i := 12) rfl))) (mvT hZ (hw _ (List.mem_of_getElem? (i := 13) rfl))) (mvT hZ (hw _ (List.mem_of_getElem? (i := 8) rfl))) (mvT hZ (hw _ (List.mem_of_getElem? (i := 14) rfl))) (by decide) (backOf (W := 2) (rm_bytes l Z a0 hw [] p1 h103 n0 Z103 ) hZ (hw _ (List.mem_of_getElem? (i := 14) rfl)) (hw _ (List.mem_of_getElem? (i := 8) rfl)) (by decide) (by decide)) (g := (mkF m 18 #[.val (.int p1)] [(.int p1), (.ref b103), (.ref b103)])) rfl (by rw [hml]; rfl) (argsL := [(.int p1)]) (rest := [(.ref b103), (.ref b103)]) (lenOf own_pd1 rfl) rfl (by show 2 * 0 + _ ≤ _; exact Nat.le_of_eq rfl) (hb hby d1_18) (fun _ _ => ⟨rfl, e103, (by decide : 1 + 1 ≤ _), (by decide : 4 + 1 ≤ _)⟩)
  dsimp only [Pt.U, Pt.locs, Pt.cells, Pt.slots] at X104 l104 y104 z104 st104 hQ104
  subst l104 y104 z104
  obtain ⟨b104, rfl, Nq104, K104, by_b104, g_b104⟩ := hQ104
  have ne_b103_b104 : b103 ≠ b104 := Nat.ne_of_lt (Nat.lt_of_lt_of_le A103.lt by_b104)
  have g_b104 : n0 ≤ b104 := Nat.le_trans Z103 by_b104
  have sz_b104 : h0.size ≤ b104 := Nat.le_trans KC103.1 by_b104
  have Z104 : n0 ≤ T104.heap.size := Nat.le_trans Z103 K104.1
  have KC104 : Keep h0 T104.heap [] := KC103.trans K104 all0
  have N104 := Fr.app N102 Nq104
  have f105 := (A103.keep K104)
  have f106 := (F_value_b103.keep K104 nin0)
  have f107 := (F_coder_b103.keep K104 nin0)
  obtain ⟨_, _, ⟨T108, L108, k108, n108⟩, -, X108, ⟨Lc108, hQ108, l108, y108, z108⟩, st108⟩ := X104.specialBack hx (y := (⟨"java/lang/String", "<init>", "([BB)V"⟩ : MethodName)) rfl hown (mvT hZ (hw _ (List.mem_of_getElem? (i := 16) rfl))) (mvT hZ (hw _ (List.mem_of_getElem? (i := 17) rfl))) (mvT hZ (hw _ (List.mem_of_getElem? (i := 19) rfl))) (by decide) (backOf (W := 1) (rm_str l Z a0 hw [] b103 b104 T104.heap n0 Z104 f105 g_b103 f106 f107) hZ (hw _ (List.mem_of_getElem? (i := 19) rfl)) (hw _ (List.mem_of_getElem? (i := 3) rfl)) (by decide) (by decide)) (g := (mkF m 22 #[.val (.int p1)] [(.int (0 : Int32)), (.ref b104), (.ref b103), (.ref b103)])) rfl (by rw [hml]; rfl) (Steps.refl _) (a := b103) (argsL := [(.ref b104), (.int (0 : Int32))]) (rest := [(.ref b103)]) (lenOf own_pd2 rfl) rfl (by show 2 * 0 + _ ≤ _; exact Nat.le_of_eq rfl) (hb hby d1_22) (fun _ _ => ⟨rfl, rfl, (by decide : 2 + 0 ≤ _), (by decide : 5 + 0 ≤ _)⟩)
  dsimp only [Pt.U, Pt.locs, Pt.cells, Pt.slots] at X108 l108 y108 z108 st108 hQ108
  subst l108 y108 z108
  obtain ⟨rfl, Nq108, K108, Ex108⟩ := hQ108
  have Z108 : n0 ≤ T108.heap.size := Nat.le_trans Z104 K108.1
  have KC108 : Keep h0 T108.heap [] := KC104.trans K108 (allS (Or.inr sz_b103) all0)
  have N108 := Fr.app N104 Nq108
  obtain ⟨fs, hr, hrun, hended, hW, hsame⟩ := X108.leave (v := some (.ref b103)) (fun h => by rw [Bd.returns] at h; cases h)
  refine ⟨_, _, pre0 _ ?_, hrun, hended, _, _, rfl, ?_, ⟨_, rfl⟩, hW, hsame.mono (by decide) (by decide)⟩
  · show Steps p.tables e below (s₁.setTop (mkF m 0 #[.val (.int p1)] [])) _
    refine st101 _ ?_
    show Steps p.tables e below (T101.setTop (mkF m 3 #[.val (.int p1)] [(.int cs)])) _
    refine XS.ifNo X101.here hx rfl (hb hby d1_3) rfl ((if0 _ _).trans (feq hcs).1) ?_
    show Steps p.tables e below (T101.setTop (mkF m 6 #[.val (.int p1)] [])) _
    refine XS.iloadN X101.here hx rfl (hb hby d1_6) rfl ?_
    show Steps p.tables e below (T101.setTop (mkF m 7 #[.val (.int p1)] [(.int p1)])) _
    refine st102 _ ?_
    show Steps p.tables e below (T102.setTop (mkF m 10 #[.val (.int p1)] [(.int (1 : Int32))])) _
    refine XS.ifNo X102.here hx rfl (hb hby d1_10) rfl ((if0 _ _).trans (feq (by decide : ¬ (1 : Int32) = (0 : Int32))).1) ?_
    show Steps p.tables e below (T102.setTop (mkF m 13 #[.val (.int p1)] [])) _
    refine st103 _ ?_
    show Steps p.tables e below (T103.setTop (mkF m 16 #[.val (.int p1)] [(.ref b103)])) _
    refine XS.dup X103.here hx rfl (hb hby d1_16) rfl rfl ?_
    show Steps p.tables e below (T103.setTop (mkF m 17 #[.val (.int p1)] [(.ref b103), (.ref b103)])) _
    refine XS.iloadN X103.here hx rfl (hb hby d1_17) rfl ?_
    show Steps p.tables e below (T103.setTop (mkF m 18 #[.val (.int p1)] [(.int p1), (.ref b103), (.ref b103)])) _
    refine st104 _ ?_
    show Steps p.tables e below (T104.setTop (mkF m 21 #[.val (.int p1)] [(.ref b104), (.ref b103), (.ref b103)])) _
    refine XS.iconst X104.here hx rfl (hb hby d1_21) ?_
    show Steps p.tables e below (T104.setTop (mkF m 22 #[.val (.int p1)] [(.int (0 : Int32)), (.ref b104), (.ref b103), (.ref b103)])) _
    refine st108.trans ?_
    show Steps p.tables e below (T108.setTop (mkF m 25 #[.val (.int p1)] [(.ref b103)])) _
    exact own_retA X108 hx (t := (.object "java/lang/String")) rfl Bd.returns (hb hby d1_25) hr
  · show QS Z h0 n0 _ T108.heap _
    skip
    exact ⟨b103, rfl, N108, KC108, sz_b103, Ex108⟩
def QM (Z : State) (N : Nat) (f : Nat → Value) (h0 : Heap) (n0 : Nat) (v : Option Value) (h : Heap) (L : List Loc) : Prop := ∃ b, v = some (.ref b) ∧ Fr n0 L ∧ Keep h0 h [] ∧ h0.size ≤ b ∧ OwnA Z h b (.object "java/lang/String") N f
set_option maxRecDepth 65536 in
set_option maxHeartbeats 40000000 in
theorem rm_make1 (l : Launch) (Z : State) (a0 : Array Value) (hw : ∀ d ∈ tables_1, d.before a0 Z = true) (ws : List Jvm.Cond) (a0 : Addr) (a1 : Addr) (a2 : Addr) (a3 : Addr) (a4 : Addr) (h0 : Heap) (n0 : Nat) (Z0 : n0 ≤ h0.size) (E0a : Exa Z h0 a0 "java/lang/String") (E1a : Exa Z h0 a1 "java/lang/String") (E2a : Exa Z h0 a2 "java/lang/String") (E3a : Exa Z h0 a3 "java/lang/String") (E4a : Exa Z h0 a4 "java/lang/String") :
    MetFree l (⟨"com/example/seglport/seglport/options/OptionReaderNextPinLaw", "make", "(ILjava/lang/String;Ljava/lang/String;Ljava/lang/String;Ljava/lang/String;Ljava/lang/String;)[Ljava/lang/String;"⟩ : MethodName) (head1 (Jvm.Cond.code (⟨"com/example/seglport/seglport/options/OptionReaderNextPinLaw", "make", "(ILjava/lang/String;Ljava/lang/String;Ljava/lang/String;Ljava/lang/String;Ljava/lang/String;)[Ljava/lang/String;"⟩ : MethodName) method_2_code 6 (some (.array (.object "java/lang/String"))) :: ws) ({ frames := 0, cells := 1, slots := 1, locals := 0 } : Room)) (fun a U => a = #[(.int (1 : Int32)), (.ref a0), (.ref a1), (.ref a2), (.ref a3), (.ref a4)] ∧ Z.Warmed39 U.vm ∧ U.heap = h0) (fun _ _ _ _ _ => True) (fun _ U o U' => ∃ v L, o = .returned v ∧ QM Z 1 (own_upd (fun _ => .null) 0 (.ref a0)) h0 n0 v U'.heap L ∧ FrameEnd U o U' L ({ frames := 0, cells := 1, slots := 1, locals := 0 } : Room).cells ({ frames := 0, cells := 1, slots := 1, locals := 0 } : Room).slots) := by
  refine MetFree.of_bodySF (plainFor_of_name own_pn2) hisR ?_
  intro p e s m args below meth c s₁ Bd hml0 hP hK
  obtain ⟨rfl, hZ, hh⟩ := hP
  have hx := Bd.exec
  have hby := Bd.bytes
  have hml : c.maxLocals = 6 := hml0
  have hown : s.vm.findClass "com/example/seglport/seglport/options/OptionReaderNextPinLaw" = some m.cls := findClass_of_methodNamed Bd.named
  have hnm := (name_of_methodNamed Bd.named Bd.method).1
  have X0 : Stand p l e ({ frames := 0, cells := 1, slots := 1, locals := 0 } : Room) s m #[(.int (1 : Int32)), (.ref a0), (.ref a1), (.ref a2), (.ref a3), (.ref a4)] below meth c s₁ [] 0 0 := Stand.of_body Bd
  have e0 : s₁.heap = h0 := by rw [← hh, Bd.state]; rfl
  have N0 := Fr.nil n0
  have ef : entryFrame m #[(.int (1 : Int32)), (.ref a0), (.ref a1), (.ref a2), (.ref a3), (.ref a4)] 6 = mkF m 0 #[.val (.int (1 : Int32)), .val (.ref a0), .val (.ref a1), .val (.ref a2), .val (.ref a3), .val (.ref a4)] [] := by first | (simp [entryFrame, mkF, argsToLocals, Value.category]; done) | rfl
  have pre0 : ∀ t, Steps p.tables e below (s₁.setTop (mkF m 0 #[.val (.int (1 : Int32)), .val (.ref a0), .val (.ref a1), .val (.ref a2), .val (.ref a3), .val (.ref a4)] [])) t → Steps p.tables e below (s₁.setTop (entryFrame m #[(.int (1 : Int32)), (.ref a0), (.ref a1), (.ref a2), (.ref a3), (.ref a4)] 6)) t := fun t k => castTop ef k
  obtain ⟨T101, h101, k101, X101, e101, E101, A101, Ex101, O101, st101⟩ := newRE X0 hx hZ hown (hw _ (List.mem_of_getElem? (i := 31) rfl)) (hw _ (List.mem_of_getElem? (i := 32) rfl)) e0 (g := (mkF m 6 #[.val (.int (1 : Int32)), .val (.ref a0), .val (.ref a1), .val (.ref a2), .val (.ref a3), .val (.ref a4)] [(.int (1 : Int32))])) rfl (hb hby d6_6) rfl (by decide) (cap := 1) (by decide) (by decide) (by decide) (by decide) (ad := "[Ljava/lang/String;") (by decide)
  obtain ⟨b101, g101⟩ : ∃ z, z = h0.size := ⟨_, rfl⟩
  rw [← g101] at A101 Ex101 st101
  have ne_a0_b101 : a0 ≠ b101 := Nat.ne_of_lt (Nat.lt_of_lt_of_le E0a.lt (Nat.le_of_eq g101.symm))
  have ne_a1_b101 : a1 ≠ b101 := Nat.ne_of_lt (Nat.lt_of_lt_of_le E1a.lt (Nat.le_of_eq g101.symm))
  have ne_a2_b101 : a2 ≠ b101 := Nat.ne_of_lt (Nat.lt_of_lt_of_le E2a.lt (Nat.le_of_eq g101.symm))
  have ne_a3_b101 : a3 ≠ b101 := Nat.ne_of_lt (Nat.lt_of_lt_of_le E3a.lt (Nat.le_of_eq g101.symm))
  have ne_a4_b101 : a4 ≠ b101 := Nat.ne_of_lt (Nat.lt_of_lt_of_le E4a.lt (Nat.le_of_eq g101.symm))
  have g_b101 : n0 ≤ b101 := Nat.le_trans Z0 (Nat.le_of_eq g101.symm)
  have sz_b101 : h0.size ≤ b101 := Nat.le_trans (Keep.refl h0 []).1 (Nat.le_of_eq g101.symm)
  have Z101 : n0 ≤ h101.size := Nat.le_trans Z0 E101.1
  have KC101 : Keep h0 h101 [] := (Keep.refl h0 []).ext E101
  have V101 : OwnA Z h101 b101 (.object "java/lang/String") 1 (fun _ => .null) := OwnA.new A101 rfl
  have f102 := (E0a.ext E101)
  have So101_a0 : Sto Z h101 b101 (.ref a0) := Sto.of A101 O101 (Ins.self f102)
  have f103 := (E1a.ext E101)
  have So101_a1 : Sto Z h101 b101 (.ref a1) := Sto.of A101 O101 (Ins.self f103)
  have f104 := (E2a.ext E101)
  have So101_a2 : Sto Z h101 b101 (.ref a2) := Sto.of A101 O101 (Ins.self f104)
  have f105 := (E3a.ext E101)
  have So101_a3 : Sto Z h101 b101 (.ref a3) := Sto.of A101 O101 (Ins.self f105)
  have f106 := (E4a.ext E101)
  have So101_a4 : Sto Z h101 b101 (.ref a4) := Sto.of A101 O101 (Ins.self f106)
  obtain ⟨T107, h107, X107, e107, W107, V107, st107⟩ := own_stR X101 hx hZ e101 V101 rfl So101_a0 rfl (j := (0 : Int32)) 0 (by decide) rfl (by decide) (g := (mkF m 12 #[.val (.int (1 : Int32)), .val (.ref a0), .val (.ref a1), .val (.ref a2), .val (.ref a3), .val (.ref a4)] [(.ref a0), (.int (0 : Int32)), (.ref b101), (.ref b101)])) rfl rfl (hb hby d6_12)
  have Z107 : n0 ≤ h107.size := Nat.le_trans Z101 (Nat.le_of_eq W107.size.symm)
  have KC107 : Keep h0 h107 [] := KC101.wr W107 (Or.inr sz_b101)
  have N107 := Fr.snoc X107 N0 g_b101
  obtain ⟨fs, hr, hrun, hended, hW, hsame⟩ := X107.leave (v := some (.ref b101)) (fun h => by rw [Bd.returns] at h; cases h)
  refine ⟨_, _, pre0 _ ?_, hrun, hended, _, _, rfl, ?_, ⟨_, rfl⟩, hW, hsame.mono (by decide) (by decide)⟩
  · show Steps p.tables e below (s₁.setTop (mkF m 0 #[.val (.int (1 : Int32)), .val (.ref a0), .val (.ref a1), .val (.ref a2), .val (.ref a3), .val (.ref a4)] [])) _
    refine XS.iloadN X0.here hx rfl (hb hby d6_0) rfl ?_
    show Steps p.tables e below (s₁.setTop (mkF m 1 #[.val (.int (1 : Int32)), .val (.ref a0), .val (.ref a1), .val (.ref a2), .val (.ref a3), .val (.ref a4)] [(.int (1 : Int32))])) _
    refine XS.iconst X0.here hx rfl (hb hby d6_1) ?_
    show Steps p.tables e below (s₁.setTop (mkF m 2 #[.val (.int (1 : Int32)), .val (.ref a0), .val (.ref a1), .val (.ref a2), .val (.ref a3), .val (.ref a4)] [(.int (1 : Int32)), (.int (1 : Int32))])) _
    refine XS.icmpNo X0.here hx rfl (hb hby d6_2) rfl (teq rfl).2 ?_
    show Steps p.tables e below (s₁.setTop (mkF m 5 #[.val (.int (1 : Int32)), .val (.ref a0), .val (.ref a1), .val (.ref a2), .val (.ref a3), .val (.ref a4)] [])) _
    refine XS.iconst X0.here hx rfl (hb hby d6_5) ?_
    show Steps p.tables e below (s₁.setTop (mkF m 6 #[.val (.int (1 : Int32)), .val (.ref a0), .val (.ref a1), .val (.ref a2), .val (.ref a3), .val (.ref a4)] [(.int (1 : Int32))])) _
    refine st101 _ ?_
    show Steps p.tables e below (T101.setTop (mkF m 9 #[.val (.int (1 : Int32)), .val (.ref a0), .val (.ref a1), .val (.ref a2), .val (.ref a3), .val (.ref a4)] [(.ref b101)])) _
    refine XS.dup X101.here hx rfl (hb hby d6_9) rfl rfl ?_
    show Steps p.tables e below (T101.setTop (mkF m 10 #[.val (.int (1 : Int32)), .val (.ref a0), .val (.ref a1), .val (.ref a2), .val (.ref a3), .val (.ref a4)] [(.ref b101), (.ref b101)])) _
    refine XS.iconst X101.here hx rfl (hb hby d6_10) ?_
    show Steps p.tables e below (T101.setTop (mkF m 11 #[.val (.int (1 : Int32)), .val (.ref a0), .val (.ref a1), .val (.ref a2), .val (.ref a3), .val (.ref a4)] [(.int (0 : Int32)), (.ref b101), (.ref b101)])) _
    refine XS.aloadN X101.here hx rfl (hb hby d6_11) rfl rfl ?_
    show Steps p.tables e below (T101.setTop (mkF m 12 #[.val (.int (1 : Int32)), .val (.ref a0), .val (.ref a1), .val (.ref a2), .val (.ref a3), .val (.ref a4)] [(.ref a0), (.int (0 : Int32)), (.ref b101), (.ref b101)])) _
    refine st107 _ ?_
    show Steps p.tables e below (T107.setTop (mkF m 13 #[.val (.int (1 : Int32)), .val (.ref a0), .val (.ref a1), .val (.ref a2), .val (.ref a3), .val (.ref a4)] [(.ref b101)])) _
    exact own_retA X107 hx (t := (.array (.object "java/lang/String"))) rfl Bd.returns (hb hby d6_13) hr
  · show QM Z 1 (own_upd (fun _ => .null) 0 (.ref a0)) h0 n0 _ T107.heap _
    rw [e107]
    exact ⟨b101, rfl, N107, KC107, sz_b101, V107⟩
set_option maxRecDepth 65536 in
set_option maxHeartbeats 40000000 in
theorem rm_make2 (l : Launch) (Z : State) (a0 : Array Value) (hw : ∀ d ∈ tables_1, d.before a0 Z = true) (ws : List Jvm.Cond) (a0 : Addr) (a1 : Addr) (a2 : Addr) (a3 : Addr) (a4 : Addr) (h0 : Heap) (n0 : Nat) (Z0 : n0 ≤ h0.size) (E0a : Exa Z h0 a0 "java/lang/String") (E1a : Exa Z h0 a1 "java/lang/String") (E2a : Exa Z h0 a2 "java/lang/String") (E3a : Exa Z h0 a3 "java/lang/String") (E4a : Exa Z h0 a4 "java/lang/String") :
    MetFree l (⟨"com/example/seglport/seglport/options/OptionReaderNextPinLaw", "make", "(ILjava/lang/String;Ljava/lang/String;Ljava/lang/String;Ljava/lang/String;Ljava/lang/String;)[Ljava/lang/String;"⟩ : MethodName) (head1 (Jvm.Cond.code (⟨"com/example/seglport/seglport/options/OptionReaderNextPinLaw", "make", "(ILjava/lang/String;Ljava/lang/String;Ljava/lang/String;Ljava/lang/String;Ljava/lang/String;)[Ljava/lang/String;"⟩ : MethodName) method_2_code 6 (some (.array (.object "java/lang/String"))) :: ws) ({ frames := 0, cells := 1, slots := 2, locals := 0 } : Room)) (fun a U => a = #[(.int (2 : Int32)), (.ref a0), (.ref a1), (.ref a2), (.ref a3), (.ref a4)] ∧ Z.Warmed39 U.vm ∧ U.heap = h0) (fun _ _ _ _ _ => True) (fun _ U o U' => ∃ v L, o = .returned v ∧ QM Z 2 (own_upd (own_upd (fun _ => .null) 0 (.ref a0)) 1 (.ref a1)) h0 n0 v U'.heap L ∧ FrameEnd U o U' L ({ frames := 0, cells := 1, slots := 2, locals := 0 } : Room).cells ({ frames := 0, cells := 1, slots := 2, locals := 0 } : Room).slots) := by
  refine MetFree.of_bodySF (plainFor_of_name own_pn2) hisR ?_
  intro p e s m args below meth c s₁ Bd hml0 hP hK
  obtain ⟨rfl, hZ, hh⟩ := hP
  have hx := Bd.exec
  have hby := Bd.bytes
  have hml : c.maxLocals = 6 := hml0
  have hown : s.vm.findClass "com/example/seglport/seglport/options/OptionReaderNextPinLaw" = some m.cls := findClass_of_methodNamed Bd.named
  have hnm := (name_of_methodNamed Bd.named Bd.method).1
  have X0 : Stand p l e ({ frames := 0, cells := 1, slots := 2, locals := 0 } : Room) s m #[(.int (2 : Int32)), (.ref a0), (.ref a1), (.ref a2), (.ref a3), (.ref a4)] below meth c s₁ [] 0 0 := Stand.of_body Bd
  have e0 : s₁.heap = h0 := by rw [← hh, Bd.state]; rfl
  have N0 := Fr.nil n0
  have ef : entryFrame m #[(.int (2 : Int32)), (.ref a0), (.ref a1), (.ref a2), (.ref a3), (.ref a4)] 6 = mkF m 0 #[.val (.int (2 : Int32)), .val (.ref a0), .val (.ref a1), .val (.ref a2), .val (.ref a3), .val (.ref a4)] [] := by first | (simp [entryFrame, mkF, argsToLocals, Value.category]; done) | rfl
  have pre0 : ∀ t, Steps p.tables e below (s₁.setTop (mkF m 0 #[.val (.int (2 : Int32)), .val (.ref a0), .val (.ref a1), .val (.ref a2), .val (.ref a3), .val (.ref a4)] [])) t → Steps p.tables e below (s₁.setTop (entryFrame m #[(.int (2 : Int32)), (.ref a0), (.ref a1), (.ref a2), (.ref a3), (.ref a4)] 6)) t := fun t k => castTop ef k
  obtain ⟨T101, h101, k101, X101, e101, E101, A101, Ex101, O101, st101⟩ := newRE X0 hx hZ hown (hw _ (List.mem_of_getElem? (i := 31) rfl)) (hw _ (List.mem_of_getElem? (i := 32) rfl)) e0 (g := (mkF m 20 #[.val (.int (2 : Int32)), .val (.ref a0), .val (.ref a1), .val (.ref a2), .val (.ref a3), .val (.ref a4)] [(.int (2 : Int32))])) rfl (hb hby d6_20) rfl (by decide) (cap := 2) (by decide) (by decide) (by decide) (by decide) (ad := "[Ljava/lang/String;") (by decide)
  obtain ⟨b101, g101⟩ : ∃ z, z = h0.size := ⟨_, rfl⟩
  rw [← g101] at A101 Ex101 st101
  have ne_a0_b101 : a0 ≠ b101 := Nat.ne_of_lt (Nat.lt_of_lt_of_le E0a.lt (Nat.le_of_eq g101.symm))
  have ne_a1_b101 : a1 ≠ b101 := Nat.ne_of_lt (Nat.lt_of_lt_of_le E1a.lt (Nat.le_of_eq g101.symm))
  have ne_a2_b101 : a2 ≠ b101 := Nat.ne_of_lt (Nat.lt_of_lt_of_le E2a.lt (Nat.le_of_eq g101.symm))
  have ne_a3_b101 : a3 ≠ b101 := Nat.ne_of_lt (Nat.lt_of_lt_of_le E3a.lt (Nat.le_of_eq g101.symm))
  have ne_a4_b101 : a4 ≠ b101 := Nat.ne_of_lt (Nat.lt_of_lt_of_le E4a.lt (Nat.le_of_eq g101.symm))
  have g_b101 : n0 ≤ b101 := Nat.le_trans Z0 (Nat.le_of_eq g101.symm)
  have sz_b101 : h0.size ≤ b101 := Nat.le_trans (Keep.refl h0 []).1 (Nat.le_of_eq g101.symm)
  have Z101 : n0 ≤ h101.size := Nat.le_trans Z0 E101.1
  have KC101 : Keep h0 h101 [] := (Keep.refl h0 []).ext E101
  have V101 : OwnA Z h101 b101 (.object "java/lang/String") 2 (fun _ => .null) := OwnA.new A101 rfl
  have f102 := (E0a.ext E101)
  have So101_a0 : Sto Z h101 b101 (.ref a0) := Sto.of A101 O101 (Ins.self f102)
  have f103 := (E1a.ext E101)
  have So101_a1 : Sto Z h101 b101 (.ref a1) := Sto.of A101 O101 (Ins.self f103)
  have f104 := (E2a.ext E101)
  have So101_a2 : Sto Z h101 b101 (.ref a2) := Sto.of A101 O101 (Ins.self f104)
  have f105 := (E3a.ext E101)
  have So101_a3 : Sto Z h101 b101 (.ref a3) := Sto.of A101 O101 (Ins.self f105)
  have f106 := (E4a.ext E101)
  have So101_a4 : Sto Z h101 b101 (.ref a4) := Sto.of A101 O101 (Ins.self f106)
  obtain ⟨T107, h107, X107, e107, W107, V107, st107⟩ := own_stR X101 hx hZ e101 V101 rfl So101_a0 rfl (j := (0 : Int32)) 0 (by decide) rfl (by decide) (g := (mkF m 26 #[.val (.int (2 : Int32)), .val (.ref a0), .val (.ref a1), .val (.ref a2), .val (.ref a3), .val (.ref a4)] [(.ref a0), (.int (0 : Int32)), (.ref b101), (.ref b101)])) rfl rfl (hb hby d6_26)
  have Z107 : n0 ≤ h107.size := Nat.le_trans Z101 (Nat.le_of_eq W107.size.symm)
  have KC107 : Keep h0 h107 [] := KC101.wr W107 (Or.inr sz_b101)
  have N107 := Fr.snoc X107 N0 g_b101
  have f108 := (So101_a1.wr W107)
  obtain ⟨T109, h109, X109, e109, W109, V109, st109⟩ := own_stR X107 hx hZ e107 V107 rfl f108 rfl (j := (1 : Int32)) 1 (by decide) rfl (by decide) (g := (mkF m 30 #[.val (.int (2 : Int32)), .val (.ref a0), .val (.ref a1), .val (.ref a2), .val (.ref a3), .val (.ref a4)] [(.ref a1), (.int (1 : Int32)), (.ref b101), (.ref b101)])) rfl rfl (hb hby d6_30)
  have Z109 : n0 ≤ h109.size := Nat.le_trans Z107 (Nat.le_of_eq W109.size.symm)
  have KC109 : Keep h0 h109 [] := KC107.wr W109 (Or.inr sz_b101)
  have N109 := Fr.snoc X109 N107 g_b101
  obtain ⟨fs, hr, hrun, hended, hW, hsame⟩ := X109.leave (v := some (.ref b101)) (fun h => by rw [Bd.returns] at h; cases h)
  refine ⟨_, _, pre0 _ ?_, hrun, hended, _, _, rfl, ?_, ⟨_, rfl⟩, hW, hsame.mono (by decide) (by decide)⟩
  · show Steps p.tables e below (s₁.setTop (mkF m 0 #[.val (.int (2 : Int32)), .val (.ref a0), .val (.ref a1), .val (.ref a2), .val (.ref a3), .val (.ref a4)] [])) _
    refine XS.iloadN X0.here hx rfl (hb hby d6_0) rfl ?_
    show Steps p.tables e below (s₁.setTop (mkF m 1 #[.val (.int (2 : Int32)), .val (.ref a0), .val (.ref a1), .val (.ref a2), .val (.ref a3), .val (.ref a4)] [(.int (2 : Int32))])) _
    refine XS.iconst X0.here hx rfl (hb hby d6_1) ?_
    show Steps p.tables e below (s₁.setTop (mkF m 2 #[.val (.int (2 : Int32)), .val (.ref a0), .val (.ref a1), .val (.ref a2), .val (.ref a3), .val (.ref a4)] [(.int (1 : Int32)), (.int (2 : Int32))])) _
    refine XS.icmpYes X0.here hx rfl (pc0 := 2) (pc' := 14) rfl (hb hby d6_2) rfl (feq (by decide : ¬ (2 : Int32) = (1 : Int32))).2 (by decide) (by decide) ?_
    show Steps p.tables e below (s₁.setTop (mkF m 14 #[.val (.int (2 : Int32)), .val (.ref a0), .val (.ref a1), .val (.ref a2), .val (.ref a3), .val (.ref a4)] [])) _
    refine XS.iloadN X0.here hx rfl (hb hby d6_14) rfl ?_
    show Steps p.tables e below (s₁.setTop (mkF m 15 #[.val (.int (2 : Int32)), .val (.ref a0), .val (.ref a1), .val (.ref a2), .val (.ref a3), .val (.ref a4)] [(.int (2 : Int32))])) _
    refine XS.iconst X0.here hx rfl (hb hby d6_15) ?_
    show Steps p.tables e below (s₁.setTop (mkF m 16 #[.val (.int (2 : Int32)), .val (.ref a0), .val (.ref a1), .val (.ref a2), .val (.ref a3), .val (.ref a4)] [(.int (2 : Int32)), (.int (2 : Int32))])) _
    refine XS.icmpNo X0.here hx rfl (hb hby d6_16) rfl (teq rfl).2 ?_
    show Steps p.tables e below (s₁.setTop (mkF m 19 #[.val (.int (2 : Int32)), .val (.ref a0), .val (.ref a1), .val (.ref a2), .val (.ref a3), .val (.ref a4)] [])) _
    refine XS.iconst X0.here hx rfl (hb hby d6_19) ?_
    show Steps p.tables e below (s₁.setTop (mkF m 20 #[.val (.int (2 : Int32)), .val (.ref a0), .val (.ref a1), .val (.ref a2), .val (.ref a3), .val (.ref a4)] [(.int (2 : Int32))])) _
    refine st101 _ ?_
    show Steps p.tables e below (T101.setTop (mkF m 23 #[.val (.int (2 : Int32)), .val (.ref a0), .val (.ref a1), .val (.ref a2), .val (.ref a3), .val (.ref a4)] [(.ref b101)])) _
    refine XS.dup X101.here hx rfl (hb hby d6_23) rfl rfl ?_
    show Steps p.tables e below (T101.setTop (mkF m 24 #[.val (.int (2 : Int32)), .val (.ref a0), .val (.ref a1), .val (.ref a2), .val (.ref a3), .val (.ref a4)] [(.ref b101), (.ref b101)])) _
    refine XS.iconst X101.here hx rfl (hb hby d6_24) ?_
    show Steps p.tables e below (T101.setTop (mkF m 25 #[.val (.int (2 : Int32)), .val (.ref a0), .val (.ref a1), .val (.ref a2), .val (.ref a3), .val (.ref a4)] [(.int (0 : Int32)), (.ref b101), (.ref b101)])) _
    refine XS.aloadN X101.here hx rfl (hb hby d6_25) rfl rfl ?_
    show Steps p.tables e below (T101.setTop (mkF m 26 #[.val (.int (2 : Int32)), .val (.ref a0), .val (.ref a1), .val (.ref a2), .val (.ref a3), .val (.ref a4)] [(.ref a0), (.int (0 : Int32)), (.ref b101), (.ref b101)])) _
    refine st107 _ ?_
    show Steps p.tables e below (T107.setTop (mkF m 27 #[.val (.int (2 : Int32)), .val (.ref a0), .val (.ref a1), .val (.ref a2), .val (.ref a3), .val (.ref a4)] [(.ref b101)])) _
    refine XS.dup X107.here hx rfl (hb hby d6_27) rfl rfl ?_
    show Steps p.tables e below (T107.setTop (mkF m 28 #[.val (.int (2 : Int32)), .val (.ref a0), .val (.ref a1), .val (.ref a2), .val (.ref a3), .val (.ref a4)] [(.ref b101), (.ref b101)])) _
    refine XS.iconst X107.here hx rfl (hb hby d6_28) ?_
    show Steps p.tables e below (T107.setTop (mkF m 29 #[.val (.int (2 : Int32)), .val (.ref a0), .val (.ref a1), .val (.ref a2), .val (.ref a3), .val (.ref a4)] [(.int (1 : Int32)), (.ref b101), (.ref b101)])) _
    refine XS.aloadN X107.here hx rfl (hb hby d6_29) rfl rfl ?_
    show Steps p.tables e below (T107.setTop (mkF m 30 #[.val (.int (2 : Int32)), .val (.ref a0), .val (.ref a1), .val (.ref a2), .val (.ref a3), .val (.ref a4)] [(.ref a1), (.int (1 : Int32)), (.ref b101), (.ref b101)])) _
    refine st109 _ ?_
    show Steps p.tables e below (T109.setTop (mkF m 31 #[.val (.int (2 : Int32)), .val (.ref a0), .val (.ref a1), .val (.ref a2), .val (.ref a3), .val (.ref a4)] [(.ref b101)])) _
    exact own_retA X109 hx (t := (.array (.object "java/lang/String"))) rfl Bd.returns (hb hby d6_31) hr
  · show QM Z 2 (own_upd (own_upd (fun _ => .null) 0 (.ref a0)) 1 (.ref a1)) h0 n0 _ T109.heap _
    rw [e109]
    exact ⟨b101, rfl, N109, KC109, sz_b101, V109⟩
set_option maxRecDepth 65536 in
set_option maxHeartbeats 40000000 in
theorem rm_make3 (l : Launch) (Z : State) (a0 : Array Value) (hw : ∀ d ∈ tables_1, d.before a0 Z = true) (ws : List Jvm.Cond) (a0 : Addr) (a1 : Addr) (a2 : Addr) (a3 : Addr) (a4 : Addr) (h0 : Heap) (n0 : Nat) (Z0 : n0 ≤ h0.size) (E0a : Exa Z h0 a0 "java/lang/String") (E1a : Exa Z h0 a1 "java/lang/String") (E2a : Exa Z h0 a2 "java/lang/String") (E3a : Exa Z h0 a3 "java/lang/String") (E4a : Exa Z h0 a4 "java/lang/String") :
    MetFree l (⟨"com/example/seglport/seglport/options/OptionReaderNextPinLaw", "make", "(ILjava/lang/String;Ljava/lang/String;Ljava/lang/String;Ljava/lang/String;Ljava/lang/String;)[Ljava/lang/String;"⟩ : MethodName) (head1 (Jvm.Cond.code (⟨"com/example/seglport/seglport/options/OptionReaderNextPinLaw", "make", "(ILjava/lang/String;Ljava/lang/String;Ljava/lang/String;Ljava/lang/String;Ljava/lang/String;)[Ljava/lang/String;"⟩ : MethodName) method_2_code 6 (some (.array (.object "java/lang/String"))) :: ws) ({ frames := 0, cells := 1, slots := 3, locals := 0 } : Room)) (fun a U => a = #[(.int (3 : Int32)), (.ref a0), (.ref a1), (.ref a2), (.ref a3), (.ref a4)] ∧ Z.Warmed39 U.vm ∧ U.heap = h0) (fun _ _ _ _ _ => True) (fun _ U o U' => ∃ v L, o = .returned v ∧ QM Z 3 (own_upd (own_upd (own_upd (fun _ => .null) 0 (.ref a0)) 1 (.ref a1)) 2 (.ref a2)) h0 n0 v U'.heap L ∧ FrameEnd U o U' L ({ frames := 0, cells := 1, slots := 3, locals := 0 } : Room).cells ({ frames := 0, cells := 1, slots := 3, locals := 0 } : Room).slots) := by
  refine MetFree.of_bodySF (plainFor_of_name own_pn2) hisR ?_
  intro p e s m args below meth c s₁ Bd hml0 hP hK
  obtain ⟨rfl, hZ, hh⟩ := hP
  have hx := Bd.exec
  have hby := Bd.bytes
  have hml : c.maxLocals = 6 := hml0
  have hown : s.vm.findClass "com/example/seglport/seglport/options/OptionReaderNextPinLaw" = some m.cls := findClass_of_methodNamed Bd.named
  have hnm := (name_of_methodNamed Bd.named Bd.method).1
  have X0 : Stand p l e ({ frames := 0, cells := 1, slots := 3, locals := 0 } : Room) s m #[(.int (3 : Int32)), (.ref a0), (.ref a1), (.ref a2), (.ref a3), (.ref a4)] below meth c s₁ [] 0 0 := Stand.of_body Bd
  have e0 : s₁.heap = h0 := by rw [← hh, Bd.state]; rfl
  have N0 := Fr.nil n0
  have ef : entryFrame m #[(.int (3 : Int32)), (.ref a0), (.ref a1), (.ref a2), (.ref a3), (.ref a4)] 6 = mkF m 0 #[.val (.int (3 : Int32)), .val (.ref a0), .val (.ref a1), .val (.ref a2), .val (.ref a3), .val (.ref a4)] [] := by first | (simp [entryFrame, mkF, argsToLocals, Value.category]; done) | rfl
  have pre0 : ∀ t, Steps p.tables e below (s₁.setTop (mkF m 0 #[.val (.int (3 : Int32)), .val (.ref a0), .val (.ref a1), .val (.ref a2), .val (.ref a3), .val (.ref a4)] [])) t → Steps p.tables e below (s₁.setTop (entryFrame m #[(.int (3 : Int32)), (.ref a0), (.ref a1), (.ref a2), (.ref a3), (.ref a4)] 6)) t := fun t k => castTop ef k
  obtain ⟨T101, h101, k101, X101, e101, E101, A101, Ex101, O101, st101⟩ := newRE X0 hx hZ hown (hw _ (List.mem_of_getElem? (i := 31) rfl)) (hw _ (List.mem_of_getElem? (i := 32) rfl)) e0 (g := (mkF m 38 #[.val (.int (3 : Int32)), .val (.ref a0), .val (.ref a1), .val (.ref a2), .val (.ref a3), .val (.ref a4)] [(.int (3 : Int32))])) rfl (hb hby d6_38) rfl (by decide) (cap := 3) (by decide) (by decide) (by decide) (by decide) (ad := "[Ljava/lang/String;") (by decide)
  obtain ⟨b101, g101⟩ : ∃ z, z = h0.size := ⟨_, rfl⟩
  rw [← g101] at A101 Ex101 st101
  have ne_a0_b101 : a0 ≠ b101 := Nat.ne_of_lt (Nat.lt_of_lt_of_le E0a.lt (Nat.le_of_eq g101.symm))
  have ne_a1_b101 : a1 ≠ b101 := Nat.ne_of_lt (Nat.lt_of_lt_of_le E1a.lt (Nat.le_of_eq g101.symm))
  have ne_a2_b101 : a2 ≠ b101 := Nat.ne_of_lt (Nat.lt_of_lt_of_le E2a.lt (Nat.le_of_eq g101.symm))
  have ne_a3_b101 : a3 ≠ b101 := Nat.ne_of_lt (Nat.lt_of_lt_of_le E3a.lt (Nat.le_of_eq g101.symm))
  have ne_a4_b101 : a4 ≠ b101 := Nat.ne_of_lt (Nat.lt_of_lt_of_le E4a.lt (Nat.le_of_eq g101.symm))
  have g_b101 : n0 ≤ b101 := Nat.le_trans Z0 (Nat.le_of_eq g101.symm)
  have sz_b101 : h0.size ≤ b101 := Nat.le_trans (Keep.refl h0 []).1 (Nat.le_of_eq g101.symm)
  have Z101 : n0 ≤ h101.size := Nat.le_trans Z0 E101.1
  have KC101 : Keep h0 h101 [] := (Keep.refl h0 []).ext E101
  have V101 : OwnA Z h101 b101 (.object "java/lang/String") 3 (fun _ => .null) := OwnA.new A101 rfl
  have f102 := (E0a.ext E101)
  have So101_a0 : Sto Z h101 b101 (.ref a0) := Sto.of A101 O101 (Ins.self f102)
  have f103 := (E1a.ext E101)
  have So101_a1 : Sto Z h101 b101 (.ref a1) := Sto.of A101 O101 (Ins.self f103)
  have f104 := (E2a.ext E101)
  have So101_a2 : Sto Z h101 b101 (.ref a2) := Sto.of A101 O101 (Ins.self f104)
  have f105 := (E3a.ext E101)
  have So101_a3 : Sto Z h101 b101 (.ref a3) := Sto.of A101 O101 (Ins.self f105)
  have f106 := (E4a.ext E101)
  have So101_a4 : Sto Z h101 b101 (.ref a4) := Sto.of A101 O101 (Ins.self f106)
  obtain ⟨T107, h107, X107, e107, W107, V107, st107⟩ := own_stR X101 hx hZ e101 V101 rfl So101_a0 rfl (j := (0 : Int32)) 0 (by decide) rfl (by decide) (g := (mkF m 44 #[.val (.int (3 : Int32)), .val (.ref a0), .val (.ref a1), .val (.ref a2), .val (.ref a3), .val (.ref a4)] [(.ref a0), (.int (0 : Int32)), (.ref b101), (.ref b101)])) rfl rfl (hb hby d6_44)
  have Z107 : n0 ≤ h107.size := Nat.le_trans Z101 (Nat.le_of_eq W107.size.symm)
  have KC107 : Keep h0 h107 [] := KC101.wr W107 (Or.inr sz_b101)
  have N107 := Fr.snoc X107 N0 g_b101
  have f108 := (So101_a1.wr W107)
  obtain ⟨T109, h109, X109, e109, W109, V109, st109⟩ := own_stR X107 hx hZ e107 V107 rfl f108 rfl (j := (1 : Int32)) 1 (by decide) rfl (by decide) (g := (mkF m 48 #[.val (.int (3 : Int32)), .val (.ref a0), .val (.ref a1), .val (.ref a2), .val (.ref a3), .val (.ref a4)] [(.ref a1), (.int (1 : Int32)), (.ref b101), (.ref b101)])) rfl rfl (hb hby d6_48)
  have Z109 : n0 ≤ h109.size := Nat.le_trans Z107 (Nat.le_of_eq W109.size.symm)
  have KC109 : Keep h0 h109 [] := KC107.wr W109 (Or.inr sz_b101)
  have N109 := Fr.snoc X109 N107 g_b101
  have f110 := ((So101_a2.wr W107).wr W109)
  obtain ⟨T111, h111, X111, e111, W111, V111, st111⟩ := own_stR X109 hx hZ e109 V109 rfl f110 rfl (j := (2 : Int32)) 2 (by decide) rfl (by decide) (g := (mkF m 52 #[.val (.int (3 : Int32)), .val (.ref a0), .val (.ref a1), .val (.ref a2), .val (.ref a3), .val (.ref a4)] [(.ref a2), (.int (2 : Int32)), (.ref b101), (.ref b101)])) rfl rfl (hb hby d6_52)
  have Z111 : n0 ≤ h111.size := Nat.le_trans Z109 (Nat.le_of_eq W111.size.symm)
  have KC111 : Keep h0 h111 [] := KC109.wr W111 (Or.inr sz_b101)
  have N111 := Fr.snoc X111 N109 g_b101
  obtain ⟨fs, hr, hrun, hended, hW, hsame⟩ := X111.leave (v := some (.ref b101)) (fun h => by rw [Bd.returns] at h; cases h)
  refine ⟨_, _, pre0 _ ?_, hrun, hended, _, _, rfl, ?_, ⟨_, rfl⟩, hW, hsame.mono (by decide) (by decide)⟩
  · show Steps p.tables e below (s₁.setTop (mkF m 0 #[.val (.int (3 : Int32)), .val (.ref a0), .val (.ref a1), .val (.ref a2), .val (.ref a3), .val (.ref a4)] [])) _
    refine XS.iloadN X0.here hx rfl (hb hby d6_0) rfl ?_
    show Steps p.tables e below (s₁.setTop (mkF m 1 #[.val (.int (3 : Int32)), .val (.ref a0), .val (.ref a1), .val (.ref a2), .val (.ref a3), .val (.ref a4)] [(.int (3 : Int32))])) _
    refine XS.iconst X0.here hx rfl (hb hby d6_1) ?_
    show Steps p.tables e below (s₁.setTop (mkF m 2 #[.val (.int (3 : Int32)), .val (.ref a0), .val (.ref a1), .val (.ref a2), .val (.ref a3), .val (.ref a4)] [(.int (1 : Int32)), (.int (3 : Int32))])) _
    refine XS.icmpYes X0.here hx rfl (pc0 := 2) (pc' := 14) rfl (hb hby d6_2) rfl (feq (by decide : ¬ (3 : Int32) = (1 : Int32))).2 (by decide) (by decide) ?_
    show Steps p.tables e below (s₁.setTop (mkF m 14 #[.val (.int (3 : Int32)), .val (.ref a0), .val (.ref a1), .val (.ref a2), .val (.ref a3), .val (.ref a4)] [])) _
    refine XS.iloadN X0.here hx rfl (hb hby d6_14) rfl ?_
    show Steps p.tables e below (s₁.setTop (mkF m 15 #[.val (.int (3 : Int32)), .val (.ref a0), .val (.ref a1), .val (.ref a2), .val (.ref a3), .val (.ref a4)] [(.int (3 : Int32))])) _
    refine XS.iconst X0.here hx rfl (hb hby d6_15) ?_
    show Steps p.tables e below (s₁.setTop (mkF m 16 #[.val (.int (3 : Int32)), .val (.ref a0), .val (.ref a1), .val (.ref a2), .val (.ref a3), .val (.ref a4)] [(.int (2 : Int32)), (.int (3 : Int32))])) _
    refine XS.icmpYes X0.here hx rfl (pc0 := 16) (pc' := 32) rfl (hb hby d6_16) rfl (feq (by decide : ¬ (3 : Int32) = (2 : Int32))).2 (by decide) (by decide) ?_
    show Steps p.tables e below (s₁.setTop (mkF m 32 #[.val (.int (3 : Int32)), .val (.ref a0), .val (.ref a1), .val (.ref a2), .val (.ref a3), .val (.ref a4)] [])) _
    refine XS.iloadN X0.here hx rfl (hb hby d6_32) rfl ?_
    show Steps p.tables e below (s₁.setTop (mkF m 33 #[.val (.int (3 : Int32)), .val (.ref a0), .val (.ref a1), .val (.ref a2), .val (.ref a3), .val (.ref a4)] [(.int (3 : Int32))])) _
    refine XS.iconst X0.here hx rfl (hb hby d6_33) ?_
    show Steps p.tables e below (s₁.setTop (mkF m 34 #[.val (.int (3 : Int32)), .val (.ref a0), .val (.ref a1), .val (.ref a2), .val (.ref a3), .val (.ref a4)] [(.int (3 : Int32)), (.int (3 : Int32))])) _
    refine XS.icmpNo X0.here hx rfl (hb hby d6_34) rfl (teq rfl).2 ?_
    show Steps p.tables e below (s₁.setTop (mkF m 37 #[.val (.int (3 : Int32)), .val (.ref a0), .val (.ref a1), .val (.ref a2), .val (.ref a3), .val (.ref a4)] [])) _
    refine XS.iconst X0.here hx rfl (hb hby d6_37) ?_
    show Steps p.tables e below (s₁.setTop (mkF m 38 #[.val (.int (3 : Int32)), .val (.ref a0), .val (.ref a1), .val (.ref a2), .val (.ref a3), .val (.ref a4)] [(.int (3 : Int32))])) _
    refine st101 _ ?_
    show Steps p.tables e below (T101.setTop (mkF m 41 #[.val (.int (3 : Int32)), .val (.ref a0), .val (.ref a1), .val (.ref a2), .val (.ref a3), .val (.ref a4)] [(.ref b101)])) _
    refine XS.dup X101.here hx rfl (hb hby d6_41) rfl rfl ?_
    show Steps p.tables e below (T101.setTop (mkF m 42 #[.val (.int (3 : Int32)), .val (.ref a0), .val (.ref a1), .val (.ref a2), .val (.ref a3), .val (.ref a4)] [(.ref b101), (.ref b101)])) _
    refine XS.iconst X101.here hx rfl (hb hby d6_42) ?_
    show Steps p.tables e below (T101.setTop (mkF m 43 #[.val (.int (3 : Int32)), .val (.ref a0), .val (.ref a1), .val (.ref a2), .val (.ref a3), .val (.ref a4)] [(.int (0 : Int32)), (.ref b101), (.ref b101)])) _
    refine XS.aloadN X101.here hx rfl (hb hby d6_43) rfl rfl ?_
    show Steps p.tables e below (T101.setTop (mkF m 44 #[.val (.int (3 : Int32)), .val (.ref a0), .val (.ref a1), .val (.ref a2), .val (.ref a3), .val (.ref a4)] [(.ref a0), (.int (0 : Int32)), (.ref b101), (.ref b101)])) _
    refine st107 _ ?_
    show Steps p.tables e below (T107.setTop (mkF m 45 #[.val (.int (3 : Int32)), .val (.ref a0), .val (.ref a1), .val (.ref a2), .val (.ref a3), .val (.ref a4)] [(.ref b101)])) _
    refine XS.dup X107.here hx rfl (hb hby d6_45) rfl rfl ?_
    show Steps p.tables e below (T107.setTop (mkF m 46 #[.val (.int (3 : Int32)), .val (.ref a0), .val (.ref a1), .val (.ref a2), .val (.ref a3), .val (.ref a4)] [(.ref b101), (.ref b101)])) _
    refine XS.iconst X107.here hx rfl (hb hby d6_46) ?_
    show Steps p.tables e below (T107.setTop (mkF m 47 #[.val (.int (3 : Int32)), .val (.ref a0), .val (.ref a1), .val (.ref a2), .val (.ref a3), .val (.ref a4)] [(.int (1 : Int32)), (.ref b101), (.ref b101)])) _
    refine XS.aloadN X107.here hx rfl (hb hby d6_47) rfl rfl ?_
    show Steps p.tables e below (T107.setTop (mkF m 48 #[.val (.int (3 : Int32)), .val (.ref a0), .val (.ref a1), .val (.ref a2), .val (.ref a3), .val (.ref a4)] [(.ref a1), (.int (1 : Int32)), (.ref b101), (.ref b101)])) _
    refine st109 _ ?_
    show Steps p.tables e below (T109.setTop (mkF m 49 #[.val (.int (3 : Int32)), .val (.ref a0), .val (.ref a1), .val (.ref a2), .val (.ref a3), .val (.ref a4)] [(.ref b101)])) _
    refine XS.dup X109.here hx rfl (hb hby d6_49) rfl rfl ?_
    show Steps p.tables e below (T109.setTop (mkF m 50 #[.val (.int (3 : Int32)), .val (.ref a0), .val (.ref a1), .val (.ref a2), .val (.ref a3), .val (.ref a4)] [(.ref b101), (.ref b101)])) _
    refine XS.iconst X109.here hx rfl (hb hby d6_50) ?_
    show Steps p.tables e below (T109.setTop (mkF m 51 #[.val (.int (3 : Int32)), .val (.ref a0), .val (.ref a1), .val (.ref a2), .val (.ref a3), .val (.ref a4)] [(.int (2 : Int32)), (.ref b101), (.ref b101)])) _
    refine XS.aloadN X109.here hx rfl (hb hby d6_51) rfl rfl ?_
    show Steps p.tables e below (T109.setTop (mkF m 52 #[.val (.int (3 : Int32)), .val (.ref a0), .val (.ref a1), .val (.ref a2), .val (.ref a3), .val (.ref a4)] [(.ref a2), (.int (2 : Int32)), (.ref b101), (.ref b101)])) _
    refine st111 _ ?_
    show Steps p.tables e below (T111.setTop (mkF m 53 #[.val (.int (3 : Int32)), .val (.ref a0), .val (.ref a1), .val (.ref a2), .val (.ref a3), .val (.ref a4)] [(.ref b101)])) _
    exact own_retA X111 hx (t := (.array (.object "java/lang/String"))) rfl Bd.returns (hb hby d6_53) hr
  · show QM Z 3 (own_upd (own_upd (own_upd (fun _ => .null) 0 (.ref a0)) 1 (.ref a1)) 2 (.ref a2)) h0 n0 _ T111.heap _
    rw [e111]
    exact ⟨b101, rfl, N111, KC111, sz_b101, V111⟩
set_option maxRecDepth 65536 in
set_option maxHeartbeats 40000000 in
theorem rm_make4 (l : Launch) (Z : State) (a0 : Array Value) (hw : ∀ d ∈ tables_1, d.before a0 Z = true) (ws : List Jvm.Cond) (a0 : Addr) (a1 : Addr) (a2 : Addr) (a3 : Addr) (a4 : Addr) (h0 : Heap) (n0 : Nat) (Z0 : n0 ≤ h0.size) (E0a : Exa Z h0 a0 "java/lang/String") (E1a : Exa Z h0 a1 "java/lang/String") (E2a : Exa Z h0 a2 "java/lang/String") (E3a : Exa Z h0 a3 "java/lang/String") (E4a : Exa Z h0 a4 "java/lang/String") :
    MetFree l (⟨"com/example/seglport/seglport/options/OptionReaderNextPinLaw", "make", "(ILjava/lang/String;Ljava/lang/String;Ljava/lang/String;Ljava/lang/String;Ljava/lang/String;)[Ljava/lang/String;"⟩ : MethodName) (head1 (Jvm.Cond.code (⟨"com/example/seglport/seglport/options/OptionReaderNextPinLaw", "make", "(ILjava/lang/String;Ljava/lang/String;Ljava/lang/String;Ljava/lang/String;Ljava/lang/String;)[Ljava/lang/String;"⟩ : MethodName) method_2_code 6 (some (.array (.object "java/lang/String"))) :: ws) ({ frames := 0, cells := 1, slots := 4, locals := 0 } : Room)) (fun a U => a = #[(.int (4 : Int32)), (.ref a0), (.ref a1), (.ref a2), (.ref a3), (.ref a4)] ∧ Z.Warmed39 U.vm ∧ U.heap = h0) (fun _ _ _ _ _ => True) (fun _ U o U' => ∃ v L, o = .returned v ∧ QM Z 4 (own_upd (own_upd (own_upd (own_upd (fun _ => .null) 0 (.ref a0)) 1 (.ref a1)) 2 (.ref a2)) 3 (.ref a3)) h0 n0 v U'.heap L ∧ FrameEnd U o U' L ({ frames := 0, cells := 1, slots := 4, locals := 0 } : Room).cells ({ frames := 0, cells := 1, slots := 4, locals := 0 } : Room).slots) := by
  refine MetFree.of_bodySF (plainFor_of_name own_pn2) hisR ?_
  intro p e s m args below meth c s₁ Bd hml0 hP hK
  obtain ⟨rfl, hZ, hh⟩ := hP
  have hx := Bd.exec
  have hby := Bd.bytes
  have hml : c.maxLocals = 6 := hml0
  have hown : s.vm.findClass "com/example/seglport/seglport/options/OptionReaderNextPinLaw" = some m.cls := findClass_of_methodNamed Bd.named
  have hnm := (name_of_methodNamed Bd.named Bd.method).1
  have X0 : Stand p l e ({ frames := 0, cells := 1, slots := 4, locals := 0 } : Room) s m #[(.int (4 : Int32)), (.ref a0), (.ref a1), (.ref a2), (.ref a3), (.ref a4)] below meth c s₁ [] 0 0 := Stand.of_body Bd
  have e0 : s₁.heap = h0 := by rw [← hh, Bd.state]; rfl
  have N0 := Fr.nil n0
  have ef : entryFrame m #[(.int (4 : Int32)), (.ref a0), (.ref a1), (.ref a2), (.ref a3), (.ref a4)] 6 = mkF m 0 #[.val (.int (4 : Int32)), .val (.ref a0), .val (.ref a1), .val (.ref a2), .val (.ref a3), .val (.ref a4)] [] := by first | (simp [entryFrame, mkF, argsToLocals, Value.category]; done) | rfl
  have pre0 : ∀ t, Steps p.tables e below (s₁.setTop (mkF m 0 #[.val (.int (4 : Int32)), .val (.ref a0), .val (.ref a1), .val (.ref a2), .val (.ref a3), .val (.ref a4)] [])) t → Steps p.tables e below (s₁.setTop (entryFrame m #[(.int (4 : Int32)), (.ref a0), (.ref a1), (.ref a2), (.ref a3), (.ref a4)] 6)) t := fun t k => castTop ef k
  obtain ⟨T101, h101, k101, X101, e101, E101, A101, Ex101, O101, st101⟩ := newRE X0 hx hZ hown (hw _ (List.mem_of_getElem? (i := 31) rfl)) (hw _ (List.mem_of_getElem? (i := 32) rfl)) e0 (g := (mkF m 60 #[.val (.int (4 : Int32)), .val (.ref a0), .val (.ref a1), .val (.ref a2), .val (.ref a3), .val (.ref a4)] [(.int (4 : Int32))])) rfl (hb hby d6_60) rfl (by decide) (cap := 4) (by decide) (by decide) (by decide) (by decide) (ad := "[Ljava/lang/String;") (by decide)
  obtain ⟨b101, g101⟩ : ∃ z, z = h0.size := ⟨_, rfl⟩
  rw [← g101] at A101 Ex101 st101
  have ne_a0_b101 : a0 ≠ b101 := Nat.ne_of_lt (Nat.lt_of_lt_of_le E0a.lt (Nat.le_of_eq g101.symm))
  have ne_a1_b101 : a1 ≠ b101 := Nat.ne_of_lt (Nat.lt_of_lt_of_le E1a.lt (Nat.le_of_eq g101.symm))
  have ne_a2_b101 : a2 ≠ b101 := Nat.ne_of_lt (Nat.lt_of_lt_of_le E2a.lt (Nat.le_of_eq g101.symm))
  have ne_a3_b101 : a3 ≠ b101 := Nat.ne_of_lt (Nat.lt_of_lt_of_le E3a.lt (Nat.le_of_eq g101.symm))
  have ne_a4_b101 : a4 ≠ b101 := Nat.ne_of_lt (Nat.lt_of_lt_of_le E4a.lt (Nat.le_of_eq g101.symm))
  have g_b101 : n0 ≤ b101 := Nat.le_trans Z0 (Nat.le_of_eq g101.symm)
  have sz_b101 : h0.size ≤ b101 := Nat.le_trans (Keep.refl h0 []).1 (Nat.le_of_eq g101.symm)
  have Z101 : n0 ≤ h101.size := Nat.le_trans Z0 E101.1
  have KC101 : Keep h0 h101 [] := (Keep.refl h0 []).ext E101
  have V101 : OwnA Z h101 b101 (.object "java/lang/String") 4 (fun _ => .null) := OwnA.new A101 rfl
  have f102 := (E0a.ext E101)
  have So101_a0 : Sto Z h101 b101 (.ref a0) := Sto.of A101 O101 (Ins.self f102)
  have f103 := (E1a.ext E101)
  have So101_a1 : Sto Z h101 b101 (.ref a1) := Sto.of A101 O101 (Ins.self f103)
  have f104 := (E2a.ext E101)
  have So101_a2 : Sto Z h101 b101 (.ref a2) := Sto.of A101 O101 (Ins.self f104)
  have f105 := (E3a.ext E101)
  have So101_a3 : Sto Z h101 b101 (.ref a3) := Sto.of A101 O101 (Ins.self f105)
  have f106 := (E4a.ext E101)
  have So101_a4 : Sto Z h101 b101 (.ref a4) := Sto.of A101 O101 (Ins.self f106)
  obtain ⟨T107, h107, X107, e107, W107, V107, st107⟩ := own_stR X101 hx hZ e101 V101 rfl So101_a0 rfl (j := (0 : Int32)) 0 (by decide) rfl (by decide) (g := (mkF m 66 #[.val (.int (4 : Int32)), .val (.ref a0), .val (.ref a1), .val (.ref a2), .val (.ref a3), .val (.ref a4)] [(.ref a0), (.int (0 : Int32)), (.ref b101), (.ref b101)])) rfl rfl (hb hby d6_66)
  have Z107 : n0 ≤ h107.size := Nat.le_trans Z101 (Nat.le_of_eq W107.size.symm)
  have KC107 : Keep h0 h107 [] := KC101.wr W107 (Or.inr sz_b101)
  have N107 := Fr.snoc X107 N0 g_b101
  have f108 := (So101_a1.wr W107)
  obtain ⟨T109, h109, X109, e109, W109, V109, st109⟩ := own_stR X107 hx hZ e107 V107 rfl f108 rfl (j := (1 : Int32)) 1 (by decide) rfl (by decide) (g := (mkF m 70 #[.val (.int (4 : Int32)), .val (.ref a0), .val (.ref a1), .val (.ref a2), .val (.ref a3), .val (.ref a4)] [(.ref a1), (.int (1 : Int32)), (.ref b101), (.ref b101)])) rfl rfl (hb hby d6_70)
  have Z109 : n0 ≤ h109.size := Nat.le_trans Z107 (Nat.le_of_eq W109.size.symm)
  have KC109 : Keep h0 h109 [] := KC107.wr W109 (Or.inr sz_b101)
  have N109 := Fr.snoc X109 N107 g_b101
  have f110 := ((So101_a2.wr W107).wr W109)
  obtain ⟨T111, h111, X111, e111, W111, V111, st111⟩ := own_stR X109 hx hZ e109 V109 rfl f110 rfl (j := (2 : Int32)) 2 (by decide) rfl (by decide) (g := (mkF m 74 #[.val (.int (4 : Int32)), .val (.ref a0), .val (.ref a1), .val (.ref a2), .val (.ref a3), .val (.ref a4)] [(.ref a2), (.int (2 : Int32)), (.ref b101), (.ref b101)])) rfl rfl (hb hby d6_74)
  have Z111 : n0 ≤ h111.size := Nat.le_trans Z109 (Nat.le_of_eq W111.size.symm)
  have KC111 : Keep h0 h111 [] := KC109.wr W111 (Or.inr sz_b101)
  have N111 := Fr.snoc X111 N109 g_b101
  have f112 := (((So101_a3.wr W107).wr W109).wr W111)
  obtain ⟨T113, h113, X113, e113, W113, V113, st113⟩ := own_stR X111 hx hZ e111 V111 rfl f112 rfl (j := (3 : Int32)) 3 (by decide) rfl (by decide) (g := (mkF m 79 #[.val (.int (4 : Int32)), .val (.ref a0), .val (.ref a1), .val (.ref a2), .val (.ref a3), .val (.ref a4)] [(.ref a3), (.int (3 : Int32)), (.ref b101), (.ref b101)])) rfl rfl (hb hby d6_79)
  have Z113 : n0 ≤ h113.size := Nat.le_trans Z111 (Nat.le_of_eq W113.size.symm)
  have KC113 : Keep h0 h113 [] := KC111.wr W113 (Or.inr sz_b101)
  have N113 := Fr.snoc X113 N111 g_b101
  obtain ⟨fs, hr, hrun, hended, hW, hsame⟩ := X113.leave (v := some (.ref b101)) (fun h => by rw [Bd.returns] at h; cases h)
  refine ⟨_, _, pre0 _ ?_, hrun, hended, _, _, rfl, ?_, ⟨_, rfl⟩, hW, hsame.mono (by decide) (by decide)⟩
  · show Steps p.tables e below (s₁.setTop (mkF m 0 #[.val (.int (4 : Int32)), .val (.ref a0), .val (.ref a1), .val (.ref a2), .val (.ref a3), .val (.ref a4)] [])) _
    refine XS.iloadN X0.here hx rfl (hb hby d6_0) rfl ?_
    show Steps p.tables e below (s₁.setTop (mkF m 1 #[.val (.int (4 : Int32)), .val (.ref a0), .val (.ref a1), .val (.ref a2), .val (.ref a3), .val (.ref a4)] [(.int (4 : Int32))])) _
    refine XS.iconst X0.here hx rfl (hb hby d6_1) ?_
    show Steps p.tables e below (s₁.setTop (mkF m 2 #[.val (.int (4 : Int32)), .val (.ref a0), .val (.ref a1), .val (.ref a2), .val (.ref a3), .val (.ref a4)] [(.int (1 : Int32)), (.int (4 : Int32))])) _
    refine XS.icmpYes X0.here hx rfl (pc0 := 2) (pc' := 14) rfl (hb hby d6_2) rfl (feq (by decide : ¬ (4 : Int32) = (1 : Int32))).2 (by decide) (by decide) ?_
    show Steps p.tables e below (s₁.setTop (mkF m 14 #[.val (.int (4 : Int32)), .val (.ref a0), .val (.ref a1), .val (.ref a2), .val (.ref a3), .val (.ref a4)] [])) _
    refine XS.iloadN X0.here hx rfl (hb hby d6_14) rfl ?_
    show Steps p.tables e below (s₁.setTop (mkF m 15 #[.val (.int (4 : Int32)), .val (.ref a0), .val (.ref a1), .val (.ref a2), .val (.ref a3), .val (.ref a4)] [(.int (4 : Int32))])) _
    refine XS.iconst X0.here hx rfl (hb hby d6_15) ?_
    show Steps p.tables e below (s₁.setTop (mkF m 16 #[.val (.int (4 : Int32)), .val (.ref a0), .val (.ref a1), .val (.ref a2), .val (.ref a3), .val (.ref a4)] [(.int (2 : Int32)), (.int (4 : Int32))])) _
    refine XS.icmpYes X0.here hx rfl (pc0 := 16) (pc' := 32) rfl (hb hby d6_16) rfl (feq (by decide : ¬ (4 : Int32) = (2 : Int32))).2 (by decide) (by decide) ?_
    show Steps p.tables e below (s₁.setTop (mkF m 32 #[.val (.int (4 : Int32)), .val (.ref a0), .val (.ref a1), .val (.ref a2), .val (.ref a3), .val (.ref a4)] [])) _
    refine XS.iloadN X0.here hx rfl (hb hby d6_32) rfl ?_
    show Steps p.tables e below (s₁.setTop (mkF m 33 #[.val (.int (4 : Int32)), .val (.ref a0), .val (.ref a1), .val (.ref a2), .val (.ref a3), .val (.ref a4)] [(.int (4 : Int32))])) _
    refine XS.iconst X0.here hx rfl (hb hby d6_33) ?_
    show Steps p.tables e below (s₁.setTop (mkF m 34 #[.val (.int (4 : Int32)), .val (.ref a0), .val (.ref a1), .val (.ref a2), .val (.ref a3), .val (.ref a4)] [(.int (3 : Int32)), (.int (4 : Int32))])) _
    refine XS.icmpYes X0.here hx rfl (pc0 := 34) (pc' := 54) rfl (hb hby d6_34) rfl (feq (by decide : ¬ (4 : Int32) = (3 : Int32))).2 (by decide) (by decide) ?_
    show Steps p.tables e below (s₁.setTop (mkF m 54 #[.val (.int (4 : Int32)), .val (.ref a0), .val (.ref a1), .val (.ref a2), .val (.ref a3), .val (.ref a4)] [])) _
    refine XS.iloadN X0.here hx rfl (hb hby d6_54) rfl ?_
    show Steps p.tables e below (s₁.setTop (mkF m 55 #[.val (.int (4 : Int32)), .val (.ref a0), .val (.ref a1), .val (.ref a2), .val (.ref a3), .val (.ref a4)] [(.int (4 : Int32))])) _
    refine XS.iconst X0.here hx rfl (hb hby d6_55) ?_
    show Steps p.tables e below (s₁.setTop (mkF m 56 #[.val (.int (4 : Int32)), .val (.ref a0), .val (.ref a1), .val (.ref a2), .val (.ref a3), .val (.ref a4)] [(.int (4 : Int32)), (.int (4 : Int32))])) _
    refine XS.icmpNo X0.here hx rfl (hb hby d6_56) rfl (teq rfl).2 ?_
    show Steps p.tables e below (s₁.setTop (mkF m 59 #[.val (.int (4 : Int32)), .val (.ref a0), .val (.ref a1), .val (.ref a2), .val (.ref a3), .val (.ref a4)] [])) _
    refine XS.iconst X0.here hx rfl (hb hby d6_59) ?_
    show Steps p.tables e below (s₁.setTop (mkF m 60 #[.val (.int (4 : Int32)), .val (.ref a0), .val (.ref a1), .val (.ref a2), .val (.ref a3), .val (.ref a4)] [(.int (4 : Int32))])) _
    refine st101 _ ?_
    show Steps p.tables e below (T101.setTop (mkF m 63 #[.val (.int (4 : Int32)), .val (.ref a0), .val (.ref a1), .val (.ref a2), .val (.ref a3), .val (.ref a4)] [(.ref b101)])) _
    refine XS.dup X101.here hx rfl (hb hby d6_63) rfl rfl ?_
    show Steps p.tables e below (T101.setTop (mkF m 64 #[.val (.int (4 : Int32)), .val (.ref a0), .val (.ref a1), .val (.ref a2), .val (.ref a3), .val (.ref a4)] [(.ref b101), (.ref b101)])) _
    refine XS.iconst X101.here hx rfl (hb hby d6_64) ?_
    show Steps p.tables e below (T101.setTop (mkF m 65 #[.val (.int (4 : Int32)), .val (.ref a0), .val (.ref a1), .val (.ref a2), .val (.ref a3), .val (.ref a4)] [(.int (0 : Int32)), (.ref b101), (.ref b101)])) _
    refine XS.aloadN X101.here hx rfl (hb hby d6_65) rfl rfl ?_
    show Steps p.tables e below (T101.setTop (mkF m 66 #[.val (.int (4 : Int32)), .val (.ref a0), .val (.ref a1), .val (.ref a2), .val (.ref a3), .val (.ref a4)] [(.ref a0), (.int (0 : Int32)), (.ref b101), (.ref b101)])) _
    refine st107 _ ?_
    show Steps p.tables e below (T107.setTop (mkF m 67 #[.val (.int (4 : Int32)), .val (.ref a0), .val (.ref a1), .val (.ref a2), .val (.ref a3), .val (.ref a4)] [(.ref b101)])) _
    refine XS.dup X107.here hx rfl (hb hby d6_67) rfl rfl ?_
    show Steps p.tables e below (T107.setTop (mkF m 68 #[.val (.int (4 : Int32)), .val (.ref a0), .val (.ref a1), .val (.ref a2), .val (.ref a3), .val (.ref a4)] [(.ref b101), (.ref b101)])) _
    refine XS.iconst X107.here hx rfl (hb hby d6_68) ?_
    show Steps p.tables e below (T107.setTop (mkF m 69 #[.val (.int (4 : Int32)), .val (.ref a0), .val (.ref a1), .val (.ref a2), .val (.ref a3), .val (.ref a4)] [(.int (1 : Int32)), (.ref b101), (.ref b101)])) _
    refine XS.aloadN X107.here hx rfl (hb hby d6_69) rfl rfl ?_
    show Steps p.tables e below (T107.setTop (mkF m 70 #[.val (.int (4 : Int32)), .val (.ref a0), .val (.ref a1), .val (.ref a2), .val (.ref a3), .val (.ref a4)] [(.ref a1), (.int (1 : Int32)), (.ref b101), (.ref b101)])) _
    refine st109 _ ?_
    show Steps p.tables e below (T109.setTop (mkF m 71 #[.val (.int (4 : Int32)), .val (.ref a0), .val (.ref a1), .val (.ref a2), .val (.ref a3), .val (.ref a4)] [(.ref b101)])) _
    refine XS.dup X109.here hx rfl (hb hby d6_71) rfl rfl ?_
    show Steps p.tables e below (T109.setTop (mkF m 72 #[.val (.int (4 : Int32)), .val (.ref a0), .val (.ref a1), .val (.ref a2), .val (.ref a3), .val (.ref a4)] [(.ref b101), (.ref b101)])) _
    refine XS.iconst X109.here hx rfl (hb hby d6_72) ?_
    show Steps p.tables e below (T109.setTop (mkF m 73 #[.val (.int (4 : Int32)), .val (.ref a0), .val (.ref a1), .val (.ref a2), .val (.ref a3), .val (.ref a4)] [(.int (2 : Int32)), (.ref b101), (.ref b101)])) _
    refine XS.aloadN X109.here hx rfl (hb hby d6_73) rfl rfl ?_
    show Steps p.tables e below (T109.setTop (mkF m 74 #[.val (.int (4 : Int32)), .val (.ref a0), .val (.ref a1), .val (.ref a2), .val (.ref a3), .val (.ref a4)] [(.ref a2), (.int (2 : Int32)), (.ref b101), (.ref b101)])) _
    refine st111 _ ?_
    show Steps p.tables e below (T111.setTop (mkF m 75 #[.val (.int (4 : Int32)), .val (.ref a0), .val (.ref a1), .val (.ref a2), .val (.ref a3), .val (.ref a4)] [(.ref b101)])) _
    refine XS.dup X111.here hx rfl (hb hby d6_75) rfl rfl ?_
    show Steps p.tables e below (T111.setTop (mkF m 76 #[.val (.int (4 : Int32)), .val (.ref a0), .val (.ref a1), .val (.ref a2), .val (.ref a3), .val (.ref a4)] [(.ref b101), (.ref b101)])) _
    refine XS.iconst X111.here hx rfl (hb hby d6_76) ?_
    show Steps p.tables e below (T111.setTop (mkF m 77 #[.val (.int (4 : Int32)), .val (.ref a0), .val (.ref a1), .val (.ref a2), .val (.ref a3), .val (.ref a4)] [(.int (3 : Int32)), (.ref b101), (.ref b101)])) _
    refine XS.aload X111.here hx rfl (hb hby d6_77) rfl rfl ?_
    show Steps p.tables e below (T111.setTop (mkF m 79 #[.val (.int (4 : Int32)), .val (.ref a0), .val (.ref a1), .val (.ref a2), .val (.ref a3), .val (.ref a4)] [(.ref a3), (.int (3 : Int32)), (.ref b101), (.ref b101)])) _
    refine st113 _ ?_
    show Steps p.tables e below (T113.setTop (mkF m 80 #[.val (.int (4 : Int32)), .val (.ref a0), .val (.ref a1), .val (.ref a2), .val (.ref a3), .val (.ref a4)] [(.ref b101)])) _
    exact own_retA X113 hx (t := (.array (.object "java/lang/String"))) rfl Bd.returns (hb hby d6_80) hr
  · show QM Z 4 (own_upd (own_upd (own_upd (own_upd (fun _ => .null) 0 (.ref a0)) 1 (.ref a1)) 2 (.ref a2)) 3 (.ref a3)) h0 n0 _ T113.heap _
    rw [e113]
    exact ⟨b101, rfl, N113, KC113, sz_b101, V113⟩
set_option maxRecDepth 65536 in
set_option maxHeartbeats 40000000 in
theorem rm_make5 (l : Launch) (Z : State) (a0 : Array Value) (hw : ∀ d ∈ tables_1, d.before a0 Z = true) (ws : List Jvm.Cond) (a0 : Addr) (a1 : Addr) (a2 : Addr) (a3 : Addr) (a4 : Addr) (h0 : Heap) (n0 : Nat) (Z0 : n0 ≤ h0.size) (E0a : Exa Z h0 a0 "java/lang/String") (E1a : Exa Z h0 a1 "java/lang/String") (E2a : Exa Z h0 a2 "java/lang/String") (E3a : Exa Z h0 a3 "java/lang/String") (E4a : Exa Z h0 a4 "java/lang/String") :
    MetFree l (⟨"com/example/seglport/seglport/options/OptionReaderNextPinLaw", "make", "(ILjava/lang/String;Ljava/lang/String;Ljava/lang/String;Ljava/lang/String;Ljava/lang/String;)[Ljava/lang/String;"⟩ : MethodName) (head1 (Jvm.Cond.code (⟨"com/example/seglport/seglport/options/OptionReaderNextPinLaw", "make", "(ILjava/lang/String;Ljava/lang/String;Ljava/lang/String;Ljava/lang/String;Ljava/lang/String;)[Ljava/lang/String;"⟩ : MethodName) method_2_code 6 (some (.array (.object "java/lang/String"))) :: ws) ({ frames := 0, cells := 1, slots := 5, locals := 0 } : Room)) (fun a U => a = #[(.int (5 : Int32)), (.ref a0), (.ref a1), (.ref a2), (.ref a3), (.ref a4)] ∧ Z.Warmed39 U.vm ∧ U.heap = h0) (fun _ _ _ _ _ => True) (fun _ U o U' => ∃ v L, o = .returned v ∧ QM Z 5 (own_upd (own_upd (own_upd (own_upd (own_upd (fun _ => .null) 0 (.ref a0)) 1 (.ref a1)) 2 (.ref a2)) 3 (.ref a3)) 4 (.ref a4)) h0 n0 v U'.heap L ∧ FrameEnd U o U' L ({ frames := 0, cells := 1, slots := 5, locals := 0 } : Room).cells ({ frames := 0, cells := 1, slots := 5, locals := 0 } : Room).slots) := by
  refine MetFree.of_bodySF (plainFor_of_name own_pn2) hisR ?_
  intro p e s m args below meth c s₁ Bd hml0 hP hK
  obtain ⟨rfl, hZ, hh⟩ := hP
  have hx := Bd.exec
  have hby := Bd.bytes
  have hml : c.maxLocals = 6 := hml0
  have hown : s.vm.findClass "com/example/seglport/seglport/options/OptionReaderNextPinLaw" = some m.cls := findClass_of_methodNamed Bd.named
  have hnm := (name_of_methodNamed Bd.named Bd.method).1
  have X0 : Stand p l e ({ frames := 0, cells := 1, slots := 5, locals := 0 } : Room) s m #[(.int (5 : Int32)), (.ref a0), (.ref a1), (.ref a2), (.ref a3), (.ref a4)] below meth c s₁ [] 0 0 := Stand.of_body Bd
  have e0 : s₁.heap = h0 := by rw [← hh, Bd.state]; rfl
  have N0 := Fr.nil n0
  have ef : entryFrame m #[(.int (5 : Int32)), (.ref a0), (.ref a1), (.ref a2), (.ref a3), (.ref a4)] 6 = mkF m 0 #[.val (.int (5 : Int32)), .val (.ref a0), .val (.ref a1), .val (.ref a2), .val (.ref a3), .val (.ref a4)] [] := by first | (simp [entryFrame, mkF, argsToLocals, Value.category]; done) | rfl
  have pre0 : ∀ t, Steps p.tables e below (s₁.setTop (mkF m 0 #[.val (.int (5 : Int32)), .val (.ref a0), .val (.ref a1), .val (.ref a2), .val (.ref a3), .val (.ref a4)] [])) t → Steps p.tables e below (s₁.setTop (entryFrame m #[(.int (5 : Int32)), (.ref a0), (.ref a1), (.ref a2), (.ref a3), (.ref a4)] 6)) t := fun t k => castTop ef k
  obtain ⟨T101, h101, k101, X101, e101, E101, A101, Ex101, O101, st101⟩ := newRE X0 hx hZ hown (hw _ (List.mem_of_getElem? (i := 31) rfl)) (hw _ (List.mem_of_getElem? (i := 32) rfl)) e0 (g := (mkF m 82 #[.val (.int (5 : Int32)), .val (.ref a0), .val (.ref a1), .val (.ref a2), .val (.ref a3), .val (.ref a4)] [(.int (5 : Int32))])) rfl (hb hby d6_82) rfl (by decide) (cap := 5) (by decide) (by decide) (by decide) (by decide) (ad := "[Ljava/lang/String;") (by decide)
  obtain ⟨b101, g101⟩ : ∃ z, z = h0.size := ⟨_, rfl⟩
  rw [← g101] at A101 Ex101 st101
  have ne_a0_b101 : a0 ≠ b101 := Nat.ne_of_lt (Nat.lt_of_lt_of_le E0a.lt (Nat.le_of_eq g101.symm))
  have ne_a1_b101 : a1 ≠ b101 := Nat.ne_of_lt (Nat.lt_of_lt_of_le E1a.lt (Nat.le_of_eq g101.symm))
  have ne_a2_b101 : a2 ≠ b101 := Nat.ne_of_lt (Nat.lt_of_lt_of_le E2a.lt (Nat.le_of_eq g101.symm))
  have ne_a3_b101 : a3 ≠ b101 := Nat.ne_of_lt (Nat.lt_of_lt_of_le E3a.lt (Nat.le_of_eq g101.symm))
  have ne_a4_b101 : a4 ≠ b101 := Nat.ne_of_lt (Nat.lt_of_lt_of_le E4a.lt (Nat.le_of_eq g101.symm))
  have g_b101 : n0 ≤ b101 := Nat.le_trans Z0 (Nat.le_of_eq g101.symm)
  have sz_b101 : h0.size ≤ b101 := Nat.le_trans (Keep.refl h0 []).1 (Nat.le_of_eq g101.symm)
  have Z101 : n0 ≤ h101.size := Nat.le_trans Z0 E101.1
  have KC101 : Keep h0 h101 [] := (Keep.refl h0 []).ext E101
  have V101 : OwnA Z h101 b101 (.object "java/lang/String") 5 (fun _ => .null) := OwnA.new A101 rfl
  have f102 := (E0a.ext E101)
  have So101_a0 : Sto Z h101 b101 (.ref a0) := Sto.of A101 O101 (Ins.self f102)
  have f103 := (E1a.ext E101)
  have So101_a1 : Sto Z h101 b101 (.ref a1) := Sto.of A101 O101 (Ins.self f103)
  have f104 := (E2a.ext E101)
  have So101_a2 : Sto Z h101 b101 (.ref a2) := Sto.of A101 O101 (Ins.self f104)
  have f105 := (E3a.ext E101)
  have So101_a3 : Sto Z h101 b101 (.ref a3) := Sto.of A101 O101 (Ins.self f105)
  have f106 := (E4a.ext E101)
  have So101_a4 : Sto Z h101 b101 (.ref a4) := Sto.of A101 O101 (Ins.self f106)
  obtain ⟨T107, h107, X107, e107, W107, V107, st107⟩ := own_stR X101 hx hZ e101 V101 rfl So101_a0 rfl (j := (0 : Int32)) 0 (by decide) rfl (by decide) (g := (mkF m 88 #[.val (.int (5 : Int32)), .val (.ref a0), .val (.ref a1), .val (.ref a2), .val (.ref a3), .val (.ref a4)] [(.ref a0), (.int (0 : Int32)), (.ref b101), (.ref b101)])) rfl rfl (hb hby d6_88)
  have Z107 : n0 ≤ h107.size := Nat.le_trans Z101 (Nat.le_of_eq W107.size.symm)
  have KC107 : Keep h0 h107 [] := KC101.wr W107 (Or.inr sz_b101)
  have N107 := Fr.snoc X107 N0 g_b101
  have f108 := (So101_a1.wr W107)
  obtain ⟨T109, h109, X109, e109, W109, V109, st109⟩ := own_stR X107 hx hZ e107 V107 rfl f108 rfl (j := (1 : Int32)) 1 (by decide) rfl (by decide) (g := (mkF m 92 #[.val (.int (5 : Int32)), .val (.ref a0), .val (.ref a1), .val (.ref a2), .val (.ref a3), .val (.ref a4)] [(.ref a1), (.int (1 : Int32)), (.ref b101), (.ref b101)])) rfl rfl (hb hby d6_92)
  have Z109 : n0 ≤ h109.size := Nat.le_trans Z107 (Nat.le_of_eq W109.size.symm)
  have KC109 : Keep h0 h109 [] := KC107.wr W109 (Or.inr sz_b101)
  have N109 := Fr.snoc X109 N107 g_b101
  have f110 := ((So101_a2.wr W107).wr W109)
  obtain ⟨T111, h111, X111, e111, W111, V111, st111⟩ := own_stR X109 hx hZ e109 V109 rfl f110 rfl (j := (2 : Int32)) 2 (by decide) rfl (by decide) (g := (mkF m 96 #[.val (.int (5 : Int32)), .val (.ref a0), .val (.ref a1), .val (.ref a2), .val (.ref a3), .val (.ref a4)] [(.ref a2), (.int (2 : Int32)), (.ref b101), (.ref b101)])) rfl rfl (hb hby d6_96)
  have Z111 : n0 ≤ h111.size := Nat.le_trans Z109 (Nat.le_of_eq W111.size.symm)
  have KC111 : Keep h0 h111 [] := KC109.wr W111 (Or.inr sz_b101)
  have N111 := Fr.snoc X111 N109 g_b101
  have f112 := (((So101_a3.wr W107).wr W109).wr W111)
  obtain ⟨T113, h113, X113, e113, W113, V113, st113⟩ := own_stR X111 hx hZ e111 V111 rfl f112 rfl (j := (3 : Int32)) 3 (by decide) rfl (by decide) (g := (mkF m 101 #[.val (.int (5 : Int32)), .val (.ref a0), .val (.ref a1), .val (.ref a2), .val (.ref a3), .val (.ref a4)] [(.ref a3), (.int (3 : Int32)), (.ref b101), (.ref b101)])) rfl rfl (hb hby d6_101)
  have Z113 : n0 ≤ h113.size := Nat.le_trans Z111 (Nat.le_of_eq W113.size.symm)
  have KC113 : Keep h0 h113 [] := KC111.wr W113 (Or.inr sz_b101)
  have N113 := Fr.snoc X113 N111 g_b101
  have f114 := ((((So101_a4.wr W107).wr W109).wr W111).wr W113)
  obtain ⟨T115, h115, X115, e115, W115, V115, st115⟩ := own_stR X113 hx hZ e113 V113 rfl f114 rfl (j := (4 : Int32)) 4 (by decide) rfl (by decide) (g := (mkF m 106 #[.val (.int (5 : Int32)), .val (.ref a0), .val (.ref a1), .val (.ref a2), .val (.ref a3), .val (.ref a4)] [(.ref a4), (.int (4 : Int32)), (.ref b101), (.ref b101)])) rfl rfl (hb hby d6_106)
  have Z115 : n0 ≤ h115.size := Nat.le_trans Z113 (Nat.le_of_eq W115.size.symm)
  have KC115 : Keep h0 h115 [] := KC113.wr W115 (Or.inr sz_b101)
  have N115 := Fr.snoc X115 N113 g_b101
  obtain ⟨fs, hr, hrun, hended, hW, hsame⟩ := X115.leave (v := some (.ref b101)) (fun h => by rw [Bd.returns] at h; cases h)
  refine ⟨_, _, pre0 _ ?_, hrun, hended, _, _, rfl, ?_, ⟨_, rfl⟩, hW, hsame.mono (by decide) (by decide)⟩
  · show Steps p.tables e below (s₁.setTop (mkF m 0 #[.val (.int (5 : Int32)), .val (.ref a0), .val (.ref a1), .val (.ref a2), .val (.ref a3), .val (.ref a4)] [])) _
    refine XS.iloadN X0.here hx rfl (hb hby d6_0) rfl ?_
    show Steps p.tables e below (s₁.setTop (mkF m 1 #[.val (.int (5 : Int32)), .val (.ref a0), .val (.ref a1), .val (.ref a2), .val (.ref a3), .val (.ref a4)] [(.int (5 : Int32))])) _
    refine XS.iconst X0.here hx rfl (hb hby d6_1) ?_
    show Steps p.tables e below (s₁.setTop (mkF m 2 #[.val (.int (5 : Int32)), .val (.ref a0), .val (.ref a1), .val (.ref a2), .val (.ref a3), .val (.ref a4)] [(.int (1 : Int32)), (.int (5 : Int32))])) _
    refine XS.icmpYes X0.here hx rfl (pc0 := 2) (pc' := 14) rfl (hb hby d6_2) rfl (feq (by decide : ¬ (5 : Int32) = (1 : Int32))).2 (by decide) (by decide) ?_
    show Steps p.tables e below (s₁.setTop (mkF m 14 #[.val (.int (5 : Int32)), .val (.ref a0), .val (.ref a1), .val (.ref a2), .val (.ref a3), .val (.ref a4)] [])) _
    refine XS.iloadN X0.here hx rfl (hb hby d6_14) rfl ?_
    show Steps p.tables e below (s₁.setTop (mkF m 15 #[.val (.int (5 : Int32)), .val (.ref a0), .val (.ref a1), .val (.ref a2), .val (.ref a3), .val (.ref a4)] [(.int (5 : Int32))])) _
    refine XS.iconst X0.here hx rfl (hb hby d6_15) ?_
    show Steps p.tables e below (s₁.setTop (mkF m 16 #[.val (.int (5 : Int32)), .val (.ref a0), .val (.ref a1), .val (.ref a2), .val (.ref a3), .val (.ref a4)] [(.int (2 : Int32)), (.int (5 : Int32))])) _
    refine XS.icmpYes X0.here hx rfl (pc0 := 16) (pc' := 32) rfl (hb hby d6_16) rfl (feq (by decide : ¬ (5 : Int32) = (2 : Int32))).2 (by decide) (by decide) ?_
    show Steps p.tables e below (s₁.setTop (mkF m 32 #[.val (.int (5 : Int32)), .val (.ref a0), .val (.ref a1), .val (.ref a2), .val (.ref a3), .val (.ref a4)] [])) _
    refine XS.iloadN X0.here hx rfl (hb hby d6_32) rfl ?_
    show Steps p.tables e below (s₁.setTop (mkF m 33 #[.val (.int (5 : Int32)), .val (.ref a0), .val (.ref a1), .val (.ref a2), .val (.ref a3), .val (.ref a4)] [(.int (5 : Int32))])) _
    refine XS.iconst X0.here hx rfl (hb hby d6_33) ?_
    show Steps p.tables e below (s₁.setTop (mkF m 34 #[.val (.int (5 : Int32)), .val (.ref a0), .val (.ref a1), .val (.ref a2), .val (.ref a3), .val (.ref a4)] [(.int (3 : Int32)), (.int (5 : Int32))])) _
    refine XS.icmpYes X0.here hx rfl (pc0 := 34) (pc' := 54) rfl (hb hby d6_34) rfl (feq (by decide : ¬ (5 : Int32) = (3 : Int32))).2 (by decide) (by decide) ?_
    show Steps p.tables e below (s₁.setTop (mkF m 54 #[.val (.int (5 : Int32)), .val (.ref a0), .val (.ref a1), .val (.ref a2), .val (.ref a3), .val (.ref a4)] [])) _
    refine XS.iloadN X0.here hx rfl (hb hby d6_54) rfl ?_
    show Steps p.tables e below (s₁.setTop (mkF m 55 #[.val (.int (5 : Int32)), .val (.ref a0), .val (.ref a1), .val (.ref a2), .val (.ref a3), .val (.ref a4)] [(.int (5 : Int32))])) _
    refine XS.iconst X0.here hx rfl (hb hby d6_55) ?_
    show Steps p.tables e below (s₁.setTop (mkF m 56 #[.val (.int (5 : Int32)), .val (.ref a0), .val (.ref a1), .val (.ref a2), .val (.ref a3), .val (.ref a4)] [(.int (4 : Int32)), (.int (5 : Int32))])) _
    refine XS.icmpYes X0.here hx rfl (pc0 := 56) (pc' := 81) rfl (hb hby d6_56) rfl (feq (by decide : ¬ (5 : Int32) = (4 : Int32))).2 (by decide) (by decide) ?_
    show Steps p.tables e below (s₁.setTop (mkF m 81 #[.val (.int (5 : Int32)), .val (.ref a0), .val (.ref a1), .val (.ref a2), .val (.ref a3), .val (.ref a4)] [])) _
    refine XS.iconst X0.here hx rfl (hb hby d6_81) ?_
    show Steps p.tables e below (s₁.setTop (mkF m 82 #[.val (.int (5 : Int32)), .val (.ref a0), .val (.ref a1), .val (.ref a2), .val (.ref a3), .val (.ref a4)] [(.int (5 : Int32))])) _
    refine st101 _ ?_
    show Steps p.tables e below (T101.setTop (mkF m 85 #[.val (.int (5 : Int32)), .val (.ref a0), .val (.ref a1), .val (.ref a2), .val (.ref a3), .val (.ref a4)] [(.ref b101)])) _
    refine XS.dup X101.here hx rfl (hb hby d6_85) rfl rfl ?_
    show Steps p.tables e below (T101.setTop (mkF m 86 #[.val (.int (5 : Int32)), .val (.ref a0), .val (.ref a1), .val (.ref a2), .val (.ref a3), .val (.ref a4)] [(.ref b101), (.ref b101)])) _
    refine XS.iconst X101.here hx rfl (hb hby d6_86) ?_
    show Steps p.tables e below (T101.setTop (mkF m 87 #[.val (.int (5 : Int32)), .val (.ref a0), .val (.ref a1), .val (.ref a2), .val (.ref a3), .val (.ref a4)] [(.int (0 : Int32)), (.ref b101), (.ref b101)])) _
    refine XS.aloadN X101.here hx rfl (hb hby d6_87) rfl rfl ?_
    show Steps p.tables e below (T101.setTop (mkF m 88 #[.val (.int (5 : Int32)), .val (.ref a0), .val (.ref a1), .val (.ref a2), .val (.ref a3), .val (.ref a4)] [(.ref a0), (.int (0 : Int32)), (.ref b101), (.ref b101)])) _
    refine st107 _ ?_
    show Steps p.tables e below (T107.setTop (mkF m 89 #[.val (.int (5 : Int32)), .val (.ref a0), .val (.ref a1), .val (.ref a2), .val (.ref a3), .val (.ref a4)] [(.ref b101)])) _
    refine XS.dup X107.here hx rfl (hb hby d6_89) rfl rfl ?_
    show Steps p.tables e below (T107.setTop (mkF m 90 #[.val (.int (5 : Int32)), .val (.ref a0), .val (.ref a1), .val (.ref a2), .val (.ref a3), .val (.ref a4)] [(.ref b101), (.ref b101)])) _
    refine XS.iconst X107.here hx rfl (hb hby d6_90) ?_
    show Steps p.tables e below (T107.setTop (mkF m 91 #[.val (.int (5 : Int32)), .val (.ref a0), .val (.ref a1), .val (.ref a2), .val (.ref a3), .val (.ref a4)] [(.int (1 : Int32)), (.ref b101), (.ref b101)])) _
    refine XS.aloadN X107.here hx rfl (hb hby d6_91) rfl rfl ?_
    show Steps p.tables e below (T107.setTop (mkF m 92 #[.val (.int (5 : Int32)), .val (.ref a0), .val (.ref a1), .val (.ref a2), .val (.ref a3), .val (.ref a4)] [(.ref a1), (.int (1 : Int32)), (.ref b101), (.ref b101)])) _
    refine st109 _ ?_
    show Steps p.tables e below (T109.setTop (mkF m 93 #[.val (.int (5 : Int32)), .val (.ref a0), .val (.ref a1), .val (.ref a2), .val (.ref a3), .val (.ref a4)] [(.ref b101)])) _
    refine XS.dup X109.here hx rfl (hb hby d6_93) rfl rfl ?_
    show Steps p.tables e below (T109.setTop (mkF m 94 #[.val (.int (5 : Int32)), .val (.ref a0), .val (.ref a1), .val (.ref a2), .val (.ref a3), .val (.ref a4)] [(.ref b101), (.ref b101)])) _
    refine XS.iconst X109.here hx rfl (hb hby d6_94) ?_
    show Steps p.tables e below (T109.setTop (mkF m 95 #[.val (.int (5 : Int32)), .val (.ref a0), .val (.ref a1), .val (.ref a2), .val (.ref a3), .val (.ref a4)] [(.int (2 : Int32)), (.ref b101), (.ref b101)])) _
    refine XS.aloadN X109.here hx rfl (hb hby d6_95) rfl rfl ?_
    show Steps p.tables e below (T109.setTop (mkF m 96 #[.val (.int (5 : Int32)), .val (.ref a0), .val (.ref a1), .val (.ref a2), .val (.ref a3), .val (.ref a4)] [(.ref a2), (.int (2 : Int32)), (.ref b101), (.ref b101)])) _
    refine st111 _ ?_
    show Steps p.tables e below (T111.setTop (mkF m 97 #[.val (.int (5 : Int32)), .val (.ref a0), .val (.ref a1), .val (.ref a2), .val (.ref a3), .val (.ref a4)] [(.ref b101)])) _
    refine XS.dup X111.here hx rfl (hb hby d6_97) rfl rfl ?_
    show Steps p.tables e below (T111.setTop (mkF m 98 #[.val (.int (5 : Int32)), .val (.ref a0), .val (.ref a1), .val (.ref a2), .val (.ref a3), .val (.ref a4)] [(.ref b101), (.ref b101)])) _
    refine XS.iconst X111.here hx rfl (hb hby d6_98) ?_
    show Steps p.tables e below (T111.setTop (mkF m 99 #[.val (.int (5 : Int32)), .val (.ref a0), .val (.ref a1), .val (.ref a2), .val (.ref a3), .val (.ref a4)] [(.int (3 : Int32)), (.ref b101), (.ref b101)])) _
    refine XS.aload X111.here hx rfl (hb hby d6_99) rfl rfl ?_
    show Steps p.tables e below (T111.setTop (mkF m 101 #[.val (.int (5 : Int32)), .val (.ref a0), .val (.ref a1), .val (.ref a2), .val (.ref a3), .val (.ref a4)] [(.ref a3), (.int (3 : Int32)), (.ref b101), (.ref b101)])) _
    refine st113 _ ?_
    show Steps p.tables e below (T113.setTop (mkF m 102 #[.val (.int (5 : Int32)), .val (.ref a0), .val (.ref a1), .val (.ref a2), .val (.ref a3), .val (.ref a4)] [(.ref b101)])) _
    refine XS.dup X113.here hx rfl (hb hby d6_102) rfl rfl ?_
    show Steps p.tables e below (T113.setTop (mkF m 103 #[.val (.int (5 : Int32)), .val (.ref a0), .val (.ref a1), .val (.ref a2), .val (.ref a3), .val (.ref a4)] [(.ref b101), (.ref b101)])) _
    refine XS.iconst X113.here hx rfl (hb hby d6_103) ?_
    show Steps p.tables e below (T113.setTop (mkF m 104 #[.val (.int (5 : Int32)), .val (.ref a0), .val (.ref a1), .val (.ref a2), .val (.ref a3), .val (.ref a4)] [(.int (4 : Int32)), (.ref b101), (.ref b101)])) _
    refine XS.aload X113.here hx rfl (hb hby d6_104) rfl rfl ?_
    show Steps p.tables e below (T113.setTop (mkF m 106 #[.val (.int (5 : Int32)), .val (.ref a0), .val (.ref a1), .val (.ref a2), .val (.ref a3), .val (.ref a4)] [(.ref a4), (.int (4 : Int32)), (.ref b101), (.ref b101)])) _
    refine st115 _ ?_
    show Steps p.tables e below (T115.setTop (mkF m 107 #[.val (.int (5 : Int32)), .val (.ref a0), .val (.ref a1), .val (.ref a2), .val (.ref a3), .val (.ref a4)] [(.ref b101)])) _
    exact own_retA X115 hx (t := (.array (.object "java/lang/String"))) rfl Bd.returns (hb hby d6_107) hr
  · show QM Z 5 (own_upd (own_upd (own_upd (own_upd (own_upd (fun _ => .null) 0 (.ref a0)) 1 (.ref a1)) 2 (.ref a2)) 3 (.ref a3)) 4 (.ref a4)) h0 n0 _ T115.heap _
    rw [e115]
    exact ⟨b101, rfl, N115, KC115, sz_b101, V115⟩
def QR (Z : State) (a1 : Addr) (x : Option Value) (a2 : Addr) (nx : Int32) (op : Value) (h0 : Heap) (n0 : Nat) (v : Option Value) (h : Heap) (L : List Loc) : Prop := v = x ∧ Fr n0 L ∧ Keep h0 h [a1] ∧ Exa Z h a1 "com/example/seglport/seglport/options/OptionReader" ∧ Fld Z h a1 "com/example/seglport/seglport/options/OptionReader" "_args" "[Ljava/lang/String;" (.ref a2) ∧ Fld Z h a1 "com/example/seglport/seglport/options/OptionReader" "_next" "I" (.int nx) ∧ Fld Z h a1 "com/example/seglport/seglport/options/OptionReader" "_option" "Ljava/lang/String;" op
set_option maxRecDepth 65536 in
set_option maxHeartbeats 40000000 in
theorem rm_init (l : Launch) (Z : State) (a0 : Array Value) (hw : ∀ d ∈ tables_1, d.before a0 Z = true) (ws : List Jvm.Cond) (a1 : Addr) (a2 : Addr) (h0 : Heap) (n0 : Nat) (Z0 : n0 ≤ h0.size) (Ex : Exa Z h0 a1 "com/example/seglport/seglport/options/OptionReader") (F0 : Fld Z h0 a1 "com/example/seglport/seglport/options/OptionReader" "_args" "[Ljava/lang/String;" .null) (F1 : Fld Z h0 a1 "com/example/seglport/seglport/options/OptionReader" "_next" "I" (.int (0 : Int32))) (F2 : Fld Z h0 a1 "com/example/seglport/seglport/options/OptionReader" "_option" "Ljava/lang/String;" .null) (g_a1 : n0 ≤ a1) :
    MetFree l (⟨"com/example/seglport/seglport/options/OptionReader", "<init>", "([Ljava/lang/String;)V"⟩ : MethodName) (head1 (Jvm.Cond.code (⟨"com/example/seglport/seglport/options/OptionReader", "<init>", "([Ljava/lang/String;)V"⟩ : MethodName) prog_39_method_1_code 2 none :: ws) ({ frames := 1, cells := 0, slots := 0, locals := 12 } : Room)) (fun a U => a = #[(.ref a1), (.ref a2)] ∧ Z.Warmed39 U.vm ∧ U.heap = h0) (fun _ _ _ _ _ => True) (fun _ U o U' => ∃ v L, o = .returned v ∧ QR Z a1 none a2 (0 : Int32) .null h0 n0 v U'.heap L ∧ FrameEnd U o U' L ({ frames := 1, cells := 0, slots := 0, locals := 12 } : Room).cells ({ frames := 1, cells := 0, slots := 0, locals := 12 } : Room).slots) := by
  refine MetFree.of_bodySF (plainFor_of_name own_pn3) hisR ?_
  intro p e s m args below meth c s₁ Bd hml0 hP hK
  obtain ⟨rfl, hZ, hh⟩ := hP
  have hx := Bd.exec
  have hby := Bd.bytes
  have hml : c.maxLocals = 2 := hml0
  have hown : s.vm.findClass "com/example/seglport/seglport/options/OptionReader" = some m.cls := findClass_of_methodNamed Bd.named
  have hnm := (name_of_methodNamed Bd.named Bd.method).1
  have X0 : Stand p l e ({ frames := 1, cells := 0, slots := 0, locals := 12 } : Room) s m #[(.ref a1), (.ref a2)] below meth c s₁ [] 0 0 := Stand.of_body Bd
  have e0 : s₁.heap = h0 := by rw [← hh, Bd.state]; rfl
  have N0 := Fr.nil n0
  have ef : entryFrame m #[(.ref a1), (.ref a2)] 2 = mkF m 0 #[.val (.ref a1), .val (.ref a2)] [] := by first | (simp [entryFrame, mkF, argsToLocals, Value.category]; done) | rfl
  have pre0 : ∀ t, Steps p.tables e below (s₁.setTop (mkF m 0 #[.val (.ref a1), .val (.ref a2)] [])) t → Steps p.tables e below (s₁.setTop (entryFrame m #[(.ref a1), (.ref a2)] 2)) t := fun t k => castTop ef k
  obtain ⟨T101, X101, e101, st101⟩ := initO X0 hx hZ hown (hw _ (List.mem_of_getElem? (i := 39) rfl)) (hw _ (List.mem_of_getElem? (i := 21) rfl)) (hw _ (List.mem_of_getElem? (i := 22) rfl)) e0 (g := (mkF m 1 #[.val (.ref a1), .val (.ref a2)] [(.ref a1)])) rfl (by rw [hml]; rfl) rfl (hb hby d7_1) (by decide) (W := 0) (by show 2 * 0 + _ ≤ _; exact Nat.le_of_eq rfl) (by decide)
  obtain ⟨T102, h102, X102, e102, W102, st102⟩ := putF X101 hx hZ hown (host := "") (Or.inl (hw _ (List.mem_of_getElem? (i := 40) rfl))) Via.refl e101 F0 Ex (Or.inr ⟨(hw _ (List.mem_of_getElem? (i := 41) rfl)), rfl, hnm⟩) (hw _ (List.mem_of_getElem? (i := 34) rfl)) (ty := (.array (.object "java/lang/String"))) (by decide) rfl rfl (g := (mkF m 6 #[.val (.ref a1), .val (.ref a2)] [(.ref a2), (.ref a1)])) rfl rfl (hb hby d7_6)
  have F102 := F0.same W102
  have Z102 : n0 ≤ h102.size := Nat.le_trans Z0 (Nat.le_of_eq W102.size.symm)
  have KC102 : Keep h0 h102 [a1] := (Keep.refl h0 [a1]).wr W102 (Or.inl (List.mem_of_getElem? (i := 0) rfl))
  have N102 := Fr.snoc X102 N0 g_a1
  have f103 := (Ex.wr W102)
  have f104 := (F1.other W102 (Or.inr (slot_ne (Or.inl (hw _ (List.mem_of_getElem? (i := 48) rfl))) (Or.inr (hw _ (List.mem_of_getElem? (i := 41) rfl))) (by decide) (t := .int) (t' := (.array (.object "java/lang/String"))) (by decide) (by decide))))
  have f105 := (F2.other W102 (Or.inr (slot_ne (Or.inl (hw _ (List.mem_of_getElem? (i := 55) rfl))) (Or.inr (hw _ (List.mem_of_getElem? (i := 41) rfl))) (by decide) (t := (.object "java/lang/String")) (t' := (.array (.object "java/lang/String"))) (by decide) (by decide))))
  obtain ⟨fs, hr, hrun, hended, hW, hsame⟩ := X102.leave (v := none) (fun _ => rfl)
  refine ⟨_, _, pre0 _ ?_, hrun, hended, _, _, rfl, ?_, ⟨_, rfl⟩, hW, hsame.mono (by decide) (by decide)⟩
  · show Steps p.tables e below (s₁.setTop (mkF m 0 #[.val (.ref a1), .val (.ref a2)] [])) _
    refine XS.aloadN X0.here hx rfl (hb hby d7_0) rfl rfl ?_
    show Steps p.tables e below (s₁.setTop (mkF m 1 #[.val (.ref a1), .val (.ref a2)] [(.ref a1)])) _
    refine st101 _ ?_
    show Steps p.tables e below (T101.setTop (mkF m 4 #[.val (.ref a1), .val (.ref a2)] [])) _
    refine XS.aloadN X101.here hx rfl (hb hby d7_4) rfl rfl ?_
    show Steps p.tables e below (T101.setTop (mkF m 5 #[.val (.ref a1), .val (.ref a2)] [(.ref a1)])) _
    refine XS.aloadN X101.here hx rfl (hb hby d7_5) rfl rfl ?_
    show Steps p.tables e below (T101.setTop (mkF m 6 #[.val (.ref a1), .val (.ref a2)] [(.ref a2), (.ref a1)])) _
    refine st102 _ ?_
    show Steps p.tables e below (T102.setTop (mkF m 9 #[.val (.ref a1), .val (.ref a2)] [])) _
    exact X102.returnOut hx Bd.returns (hb hby d7_9) hr
  · show QR Z a1 none a2 (0 : Int32) .null h0 n0 _ T102.heap _
    rw [e102]
    exact ⟨rfl, N102, KC102, f103, F102, f104, f105⟩
set_option maxRecDepth 65536 in
set_option maxHeartbeats 40000000 in
theorem rm_hasT (l : Launch) (Z : State) (a0 : Array Value) (hw : ∀ d ∈ tables_1, d.before a0 Z = true) (ws : List Jvm.Cond) (a1 : Addr) (a2 : Addr) (N : Nat) (f : Nat → Value) (z : Int32) (p1 : Int32) (op : Value) (h0 : Heap) (n0 : Nat) (Z0 : n0 ≤ h0.size) (Ex : Exa Z h0 a1 "com/example/seglport/seglport/options/OptionReader") (F0 : Fld Z h0 a1 "com/example/seglport/seglport/options/OptionReader" "_args" "[Ljava/lang/String;" (.ref a2)) (F1 : Fld Z h0 a1 "com/example/seglport/seglport/options/OptionReader" "_next" "I" (.int p1)) (F2 : Fld Z h0 a1 "com/example/seglport/seglport/options/OptionReader" "_option" "Ljava/lang/String;" op) (FA : OwnA Z h0 a2 (.object "java/lang/String") N f) (hz : N.toInt32 = z) (hlt : p1 < z) :
    MetFree l (⟨"com/example/seglport/seglport/options/OptionReader", "hasNext", "()Z"⟩ : MethodName) (head1 (Jvm.Cond.code (⟨"com/example/seglport/seglport/options/OptionReader", "hasNext", "()Z"⟩ : MethodName) prog_39_method_2_code 1 (some .boolean) :: ws) ({ frames := 0, cells := 0, slots := 0, locals := 0 } : Room)) (fun a U => a = #[(.ref a1)] ∧ Z.Warmed39 U.vm ∧ U.heap = h0) (fun _ _ _ _ _ => True) (fun _ U o U' => ∃ v L, o = .returned v ∧ QN (1 : Int32) h0 n0 v U'.heap L ∧ FrameEnd U o U' L ({ frames := 0, cells := 0, slots := 0, locals := 0 } : Room).cells ({ frames := 0, cells := 0, slots := 0, locals := 0 } : Room).slots) := by
  refine MetFree.of_bodySF (plainFor_of_name own_pn3) hisR ?_
  intro p e s m args below meth c s₁ Bd hml0 hP hK
  obtain ⟨rfl, hZ, hh⟩ := hP
  have hx := Bd.exec
  have hby := Bd.bytes
  have hml : c.maxLocals = 1 := hml0
  have hown : s.vm.findClass "com/example/seglport/seglport/options/OptionReader" = some m.cls := findClass_of_methodNamed Bd.named
  have hnm := (name_of_methodNamed Bd.named Bd.method).1
  have X0 : Stand p l e ({ frames := 0, cells := 0, slots := 0, locals := 0 } : Room) s m #[(.ref a1)] below meth c s₁ [] 0 0 := Stand.of_body Bd
  have e0 : s₁.heap = h0 := by rw [← hh, Bd.state]; rfl
  have N0 := Fr.nil n0
  have ef : entryFrame m #[(.ref a1)] 1 = mkF m 0 #[.val (.ref a1)] [] := by first | (simp [entryFrame, mkF, argsToLocals, Value.category]; done) | rfl
  have pre0 : ∀ t, Steps p.tables e below (s₁.setTop (mkF m 0 #[.val (.ref a1)] [])) t → Steps p.tables e below (s₁.setTop (entryFrame m #[(.ref a1)] 1)) t := fun t k => castTop ef k
  obtain ⟨T101, X101, e101, st101⟩ := getF X0 hx hZ hown (host := "") (Or.inl (hw _ (List.mem_of_getElem? (i := 47) rfl))) Via.refl e0 F1 (g := (mkF m 1 #[.val (.ref a1)] [(.ref a1)])) rfl rfl (hb hby d8_1)
  obtain ⟨T102, X102, e102, st102⟩ := getF X101 hx hZ hown (host := "") (Or.inl (hw _ (List.mem_of_getElem? (i := 40) rfl))) Via.refl e101 F0 (g := (mkF m 5 #[.val (.ref a1)] [(.ref a1), (.int p1)])) rfl rfl (hb hby d8_5)
  obtain ⟨fs, hr, hrun, hended, hW, hsame⟩ := X102.leave (v := some (.int (1 : Int32))) (fun h => by rw [Bd.returns] at h; cases h)
  refine ⟨_, _, pre0 _ ?_, hrun, hended, _, _, rfl, ?_, ⟨_, rfl⟩, hW, hsame.mono (by decide) (by decide)⟩
  · show Steps p.tables e below (s₁.setTop (mkF m 0 #[.val (.ref a1)] [])) _
    refine XS.aloadN X0.here hx rfl (hb hby d8_0) rfl rfl ?_
    show Steps p.tables e below (s₁.setTop (mkF m 1 #[.val (.ref a1)] [(.ref a1)])) _
    refine st101 _ ?_
    show Steps p.tables e below (T101.setTop (mkF m 4 #[.val (.ref a1)] [(.int p1)])) _
    refine XS.aloadN X101.here hx rfl (hb hby d8_4) rfl rfl ?_
    show Steps p.tables e below (T101.setTop (mkF m 5 #[.val (.ref a1)] [(.ref a1), (.int p1)])) _
    refine st102 _ ?_
    show Steps p.tables e below (T102.setTop (mkF m 8 #[.val (.ref a1)] [(.ref a2), (.int p1)])) _
    refine own_len X102 hx hZ e102 FA (z := z) hz (g := (mkF m 8 #[.val (.ref a1)] [(.ref a2), (.int p1)])) rfl rfl (hb hby d8_8) _ ?_
    show Steps p.tables e below (T102.setTop (mkF m 9 #[.val (.ref a1)] [(.int z), (.int p1)])) _
    refine XS.icmpNo X102.here hx rfl (hb hby d8_9) rfl (tlt hlt).2.1 ?_
    show Steps p.tables e below (T102.setTop (mkF m 12 #[.val (.ref a1)] [])) _
    refine XS.iconst X102.here hx rfl (hb hby d8_12) ?_
    show Steps p.tables e below (T102.setTop (mkF m 13 #[.val (.ref a1)] [(.int (1 : Int32))])) _
    refine XS.goto X102.here hx rfl (pc0 := 13) (pc' := 17) rfl (hb hby d8_13) (by decide) (by decide) ?_
    show Steps p.tables e below (T102.setTop (mkF m 17 #[.val (.ref a1)] [(.int (1 : Int32))])) _
    exact retN X102 hx (t := .boolean) Bd.returns (by simp) (hb hby d8_17) hr
  · show QN (1 : Int32) h0 n0 _ T102.heap _
    rw [e102]
    exact ⟨rfl, N0, rfl⟩
set_option maxRecDepth 65536 in
set_option maxHeartbeats 40000000 in
theorem rm_hasF (l : Launch) (Z : State) (a0 : Array Value) (hw : ∀ d ∈ tables_1, d.before a0 Z = true) (ws : List Jvm.Cond) (a1 : Addr) (a2 : Addr) (N : Nat) (f : Nat → Value) (z : Int32) (p1 : Int32) (op : Value) (h0 : Heap) (n0 : Nat) (Z0 : n0 ≤ h0.size) (Ex : Exa Z h0 a1 "com/example/seglport/seglport/options/OptionReader") (F0 : Fld Z h0 a1 "com/example/seglport/seglport/options/OptionReader" "_args" "[Ljava/lang/String;" (.ref a2)) (F1 : Fld Z h0 a1 "com/example/seglport/seglport/options/OptionReader" "_next" "I" (.int p1)) (F2 : Fld Z h0 a1 "com/example/seglport/seglport/options/OptionReader" "_option" "Ljava/lang/String;" op) (FA : OwnA Z h0 a2 (.object "java/lang/String") N f) (hz : N.toInt32 = z) (hlt : ¬ p1 < z) :
    MetFree l (⟨"com/example/seglport/seglport/options/OptionReader", "hasNext", "()Z"⟩ : MethodName) (head1 (Jvm.Cond.code (⟨"com/example/seglport/seglport/options/OptionReader", "hasNext", "()Z"⟩ : MethodName) prog_39_method_2_code 1 (some .boolean) :: ws) ({ frames := 0, cells := 0, slots := 0, locals := 0 } : Room)) (fun a U => a = #[(.ref a1)] ∧ Z.Warmed39 U.vm ∧ U.heap = h0) (fun _ _ _ _ _ => True) (fun _ U o U' => ∃ v L, o = .returned v ∧ QN (0 : Int32) h0 n0 v U'.heap L ∧ FrameEnd U o U' L ({ frames := 0, cells := 0, slots := 0, locals := 0 } : Room).cells ({ frames := 0, cells := 0, slots := 0, locals := 0 } : Room).slots) := by
  refine MetFree.of_bodySF (plainFor_of_name own_pn3) hisR ?_
  intro p e s m args below meth c s₁ Bd hml0 hP hK
  obtain ⟨rfl, hZ, hh⟩ := hP
  have hx := Bd.exec
  have hby := Bd.bytes
  have hml : c.maxLocals = 1 := hml0
  have hown : s.vm.findClass "com/example/seglport/seglport/options/OptionReader" = some m.cls := findClass_of_methodNamed Bd.named
  have hnm := (name_of_methodNamed Bd.named Bd.method).1
  have X0 : Stand p l e ({ frames := 0, cells := 0, slots := 0, locals := 0 } : Room) s m #[(.ref a1)] below meth c s₁ [] 0 0 := Stand.of_body Bd
  have e0 : s₁.heap = h0 := by rw [← hh, Bd.state]; rfl
  have N0 := Fr.nil n0
  have ef : entryFrame m #[(.ref a1)] 1 = mkF m 0 #[.val (.ref a1)] [] := by first | (simp [entryFrame, mkF, argsToLocals, Value.category]; done) | rfl
  have pre0 : ∀ t, Steps p.tables e below (s₁.setTop (mkF m 0 #[.val (.ref a1)] [])) t → Steps p.tables e below (s₁.setTop (entryFrame m #[(.ref a1)] 1)) t := fun t k => castTop ef k
  obtain ⟨T101, X101, e101, st101⟩ := getF X0 hx hZ hown (host := "") (Or.inl (hw _ (List.mem_of_getElem? (i := 47) rfl))) Via.refl e0 F1 (g := (mkF m 1 #[.val (.ref a1)] [(.ref a1)])) rfl rfl (hb hby d8_1)
  obtain ⟨T102, X102, e102, st102⟩ := getF X101 hx hZ hown (host := "") (Or.inl (hw _ (List.mem_of_getElem? (i := 40) rfl))) Via.refl e101 F0 (g := (mkF m 5 #[.val (.ref a1)] [(.ref a1), (.int p1)])) rfl rfl (hb hby d8_5)
  obtain ⟨fs, hr, hrun, hended, hW, hsame⟩ := X102.leave (v := some (.int (0 : Int32))) (fun h => by rw [Bd.returns] at h; cases h)
  refine ⟨_, _, pre0 _ ?_, hrun, hended, _, _, rfl, ?_, ⟨_, rfl⟩, hW, hsame.mono (by decide) (by decide)⟩
  · show Steps p.tables e below (s₁.setTop (mkF m 0 #[.val (.ref a1)] [])) _
    refine XS.aloadN X0.here hx rfl (hb hby d8_0) rfl rfl ?_
    show Steps p.tables e below (s₁.setTop (mkF m 1 #[.val (.ref a1)] [(.ref a1)])) _
    refine st101 _ ?_
    show Steps p.tables e below (T101.setTop (mkF m 4 #[.val (.ref a1)] [(.int p1)])) _
    refine XS.aloadN X101.here hx rfl (hb hby d8_4) rfl rfl ?_
    show Steps p.tables e below (T101.setTop (mkF m 5 #[.val (.ref a1)] [(.ref a1), (.int p1)])) _
    refine st102 _ ?_
    show Steps p.tables e below (T102.setTop (mkF m 8 #[.val (.ref a1)] [(.ref a2), (.int p1)])) _
    refine own_len X102 hx hZ e102 FA (z := z) hz (g := (mkF m 8 #[.val (.ref a1)] [(.ref a2), (.int p1)])) rfl rfl (hb hby d8_8) _ ?_
    show Steps p.tables e below (T102.setTop (mkF m 9 #[.val (.ref a1)] [(.int z), (.int p1)])) _
    refine XS.icmpYes X102.here hx rfl (pc0 := 9) (pc' := 16) rfl (hb hby d8_9) rfl (flt hlt).2.1 (by decide) (by decide) ?_
    show Steps p.tables e below (T102.setTop (mkF m 16 #[.val (.ref a1)] [])) _
    refine XS.iconst X102.here hx rfl (hb hby d8_16) ?_
    show Steps p.tables e below (T102.setTop (mkF m 17 #[.val (.ref a1)] [(.int (0 : Int32))])) _
    exact retN X102 hx (t := .boolean) Bd.returns (by simp) (hb hby d8_17) hr
  · show QN (0 : Int32) h0 n0 _ T102.heap _
    rw [e102]
    exact ⟨rfl, N0, rfl⟩
set_option maxRecDepth 65536 in
set_option maxHeartbeats 40000000 in
theorem rm_next (l : Launch) (Z : State) (a0 : Array Value) (hw : ∀ d ∈ tables_1, d.before a0 Z = true) (ws : List Jvm.Cond) (a1 : Addr) (a2 : Addr) (N : Nat) (f : Nat → Value) (z : Int32) (p1 : Int32) (op : Value) (k : Nat) (sr : Addr) (r : Int32) (h0 : Heap) (n0 : Nat) (Z0 : n0 ≤ h0.size) (Ex : Exa Z h0 a1 "com/example/seglport/seglport/options/OptionReader") (F0 : Fld Z h0 a1 "com/example/seglport/seglport/options/OptionReader" "_args" "[Ljava/lang/String;" (.ref a2)) (F1 : Fld Z h0 a1 "com/example/seglport/seglport/options/OptionReader" "_next" "I" (.int p1)) (F2 : Fld Z h0 a1 "com/example/seglport/seglport/options/OptionReader" "_option" "Ljava/lang/String;" op) (FA : OwnA Z h0 a2 (.object "java/lang/String") N f) (hz : N.toInt32 = z) (g_a1 : n0 ≤ a1) (hj : ¬ p1 < 0) (hk : p1.toNatClampNeg = k) (hn : k < N) (hv : f k = .ref sr) (hr2 : (p1 + (2 : Int32)) = r) :
    MetFree l (⟨"com/example/seglport/seglport/options/OptionReader", "next", "()Ljava/lang/String;"⟩ : MethodName) (head1 (Jvm.Cond.code (⟨"com/example/seglport/seglport/options/OptionReader", "next", "()Ljava/lang/String;"⟩ : MethodName) prog_39_method_3_code 1 (some (.object "java/lang/String")) :: ws) ({ frames := 0, cells := 0, slots := 0, locals := 0 } : Room)) (fun a U => a = #[(.ref a1)] ∧ Z.Warmed39 U.vm ∧ U.heap = h0) (fun _ _ _ _ _ => True) (fun _ U o U' => ∃ v L, o = .returned v ∧ QR Z a1 (some (.ref sr)) a2 r (.ref sr) h0 n0 v U'.heap L ∧ FrameEnd U o U' L ({ frames := 0, cells := 0, slots := 0, locals := 0 } : Room).cells ({ frames := 0, cells := 0, slots := 0, locals := 0 } : Room).slots) := by
  refine MetFree.of_bodySF (plainFor_of_name own_pn3) hisR ?_
  intro p e s m args below meth c s₁ Bd hml0 hP hK
  obtain ⟨rfl, hZ, hh⟩ := hP
  have hx := Bd.exec
  have hby := Bd.bytes
  have hml : c.maxLocals = 1 := hml0
  have hown : s.vm.findClass "com/example/seglport/seglport/options/OptionReader" = some m.cls := findClass_of_methodNamed Bd.named
  have hnm := (name_of_methodNamed Bd.named Bd.method).1
  have X0 : Stand p l e ({ frames := 0, cells := 0, slots := 0, locals := 0 } : Room) s m #[(.ref a1)] below meth c s₁ [] 0 0 := Stand.of_body Bd
  have e0 : s₁.heap = h0 := by rw [← hh, Bd.state]; rfl
  have N0 := Fr.nil n0
  have ef : entryFrame m #[(.ref a1)] 1 = mkF m 0 #[.val (.ref a1)] [] := by first | (simp [entryFrame, mkF, argsToLocals, Value.category]; done) | rfl
  have pre0 : ∀ t, Steps p.tables e below (s₁.setTop (mkF m 0 #[.val (.ref a1)] [])) t → Steps p.tables e below (s₁.setTop (entryFrame m #[(.ref a1)] 1)) t := fun t k => castTop ef k
  obtain ⟨T101, X101, e101, st101⟩ := getF X0 hx hZ hown (host := "") (Or.inl (hw _ (List.mem_of_getElem? (i := 40) rfl))) Via.refl e0 F0 (g := (mkF m 2 #[.val (.ref a1)] [(.ref a1), (.ref a1)])) rfl rfl (hb hby d9_2)
  obtain ⟨T102, X102, e102, st102⟩ := getF X101 hx hZ hown (host := "") (Or.inl (hw _ (List.mem_of_getElem? (i := 47) rfl))) Via.refl e101 F1 (g := (mkF m 6 #[.val (.ref a1)] [(.ref a1), (.ref a2), (.ref a1)])) rfl rfl (hb hby d9_6)
  obtain ⟨T103, h103, X103, e103, W103, st103⟩ := putF X102 hx hZ hown (host := "") (Or.inl (hw _ (List.mem_of_getElem? (i := 54) rfl))) Via.refl e102 F2 Ex (Or.inl (hw _ (List.mem_of_getElem? (i := 55) rfl))) (hw _ (List.mem_of_getElem? (i := 34) rfl)) (ty := (.object "java/lang/String")) (by decide) rfl rfl (g := (mkF m 10 #[.val (.ref a1)] [(.ref sr), (.ref a1)])) rfl rfl (hb hby d9_10)
  have F103 := F2.same W103
  have Z103 : n0 ≤ h103.size := Nat.le_trans Z0 (Nat.le_of_eq W103.size.symm)
  have KC103 : Keep h0 h103 [a1] := (Keep.refl h0 [a1]).wr W103 (Or.inl (List.mem_of_getElem? (i := 0) rfl))
  have N103 := Fr.snoc X103 N0 g_a1
  have f104 := (F1.other W103 (Or.inr (slot_ne (Or.inl (hw _ (List.mem_of_getElem? (i := 48) rfl))) (Or.inl (hw _ (List.mem_of_getElem? (i := 55) rfl))) (by decide) (t := .int) (t' := (.object "java/lang/String")) (by decide) (by decide))))
  obtain ⟨T105, X105, e105, st105⟩ := getF X103 hx hZ hown (host := "") (Or.inl (hw _ (List.mem_of_getElem? (i := 47) rfl))) Via.refl e103 f104 (g := (mkF m 15 #[.val (.ref a1)] [(.ref a1), (.ref a1)])) rfl rfl (hb hby d9_15)
  have f106 := (Ex.wr W103)
  obtain ⟨T107, h107, X107, e107, W107, st107⟩ := putF X105 hx hZ hown (host := "") (Or.inl (hw _ (List.mem_of_getElem? (i := 47) rfl))) Via.refl e105 f104 f106 (Or.inl (hw _ (List.mem_of_getElem? (i := 48) rfl))) (hw _ (List.mem_of_getElem? (i := 34) rfl)) (ty := .int) (by decide) rfl rfl (g := (mkF m 20 #[.val (.ref a1)] [(.int r), (.ref a1)])) rfl rfl (hb hby d9_20)
  have F107 := f104.same W107
  have Z107 : n0 ≤ h107.size := Nat.le_trans Z103 (Nat.le_of_eq W107.size.symm)
  have KC107 : Keep h0 h107 [a1] := KC103.wr W107 (Or.inl (List.mem_of_getElem? (i := 0) rfl))
  have N107 := Fr.snoc X107 N103 g_a1
  have f108 := (F103.other W107 (Or.inr (slot_ne (Or.inl (hw _ (List.mem_of_getElem? (i := 55) rfl))) (Or.inl (hw _ (List.mem_of_getElem? (i := 48) rfl))) (by decide) (t := (.object "java/lang/String")) (t' := .int) (by decide) (by decide))))
  obtain ⟨T109, X109, e109, st109⟩ := getF X107 hx hZ hown (host := "") (Or.inl (hw _ (List.mem_of_getElem? (i := 54) rfl))) Via.refl e107 f108 (g := (mkF m 24 #[.val (.ref a1)] [(.ref a1)])) rfl rfl (hb hby d9_24)
  have f110 := (f106.wr W107)
  have f111 := ((F0.other W103 (Or.inr (slot_ne (Or.inr (hw _ (List.mem_of_getElem? (i := 41) rfl))) (Or.inl (hw _ (List.mem_of_getElem? (i := 55) rfl))) (by decide) (t := (.array (.object "java/lang/String"))) (t' := (.object "java/lang/String")) (by decide) (by decide)))).other W107 (Or.inr (slot_ne (Or.inr (hw _ (List.mem_of_getElem? (i := 41) rfl))) (Or.inl (hw _ (List.mem_of_getElem? (i := 48) rfl))) (by decide) (t := (.array (.object "java/lang/String"))) (t' := .int) (by decide) (by decide))))
  obtain ⟨fs, hr, hrun, hended, hW, hsame⟩ := X109.leave (v := some (.ref sr)) (fun h => by rw [Bd.returns] at h; cases h)
  refine ⟨_, _, pre0 _ ?_, hrun, hended, _, _, rfl, ?_, ⟨_, rfl⟩, hW, hsame.mono (by decide) (by decide)⟩
  · show Steps p.tables e below (s₁.setTop (mkF m 0 #[.val (.ref a1)] [])) _
    refine XS.aloadN X0.here hx rfl (hb hby d9_0) rfl rfl ?_
    show Steps p.tables e below (s₁.setTop (mkF m 1 #[.val (.ref a1)] [(.ref a1)])) _
    refine XS.aloadN X0.here hx rfl (hb hby d9_1) rfl rfl ?_
    show Steps p.tables e below (s₁.setTop (mkF m 2 #[.val (.ref a1)] [(.ref a1), (.ref a1)])) _
    refine st101 _ ?_
    show Steps p.tables e below (T101.setTop (mkF m 5 #[.val (.ref a1)] [(.ref a2), (.ref a1)])) _
    refine XS.aloadN X101.here hx rfl (hb hby d9_5) rfl rfl ?_
    show Steps p.tables e below (T101.setTop (mkF m 6 #[.val (.ref a1)] [(.ref a1), (.ref a2), (.ref a1)])) _
    refine st102 _ ?_
    show Steps p.tables e below (T102.setTop (mkF m 9 #[.val (.ref a1)] [(.int p1), (.ref a2), (.ref a1)])) _
    refine own_ldR X102 hx hZ e102 FA rfl (j := p1) k hj hk hn (v := (.ref sr)) hv (g := (mkF m 9 #[.val (.ref a1)] [(.int p1), (.ref a2), (.ref a1)])) rfl rfl (hb hby d9_9) _ ?_
    show Steps p.tables e below (T102.setTop (mkF m 10 #[.val (.ref a1)] [(.ref sr), (.ref a1)])) _
    refine st103 _ ?_
    show Steps p.tables e below (T103.setTop (mkF m 13 #[.val (.ref a1)] [])) _
    refine XS.aloadN X103.here hx rfl (hb hby d9_13) rfl rfl ?_
    show Steps p.tables e below (T103.setTop (mkF m 14 #[.val (.ref a1)] [(.ref a1)])) _
    refine XS.dup X103.here hx rfl (hb hby d9_14) rfl rfl ?_
    show Steps p.tables e below (T103.setTop (mkF m 15 #[.val (.ref a1)] [(.ref a1), (.ref a1)])) _
    refine st105 _ ?_
    show Steps p.tables e below (T105.setTop (mkF m 18 #[.val (.ref a1)] [(.int p1), (.ref a1)])) _
    refine XS.iconst X105.here hx rfl (hb hby d9_18) ?_
    show Steps p.tables e below (T105.setTop (mkF m 19 #[.val (.ref a1)] [(.int (2 : Int32)), (.int p1), (.ref a1)])) _
    refine XS.iadd X105.here hx rfl (hb hby d9_19) rfl ?_
    show Steps p.tables e below (T105.setTop (mkF m 20 #[.val (.ref a1)] [(.int (p1 + (2 : Int32))), (.ref a1)])) _
    rw [hr2]
    show Steps p.tables e below (T105.setTop (mkF m 20 #[.val (.ref a1)] [(.int r), (.ref a1)])) _
    refine st107 _ ?_
    show Steps p.tables e below (T107.setTop (mkF m 23 #[.val (.ref a1)] [])) _
    refine XS.aloadN X107.here hx rfl (hb hby d9_23) rfl rfl ?_
    show Steps p.tables e below (T107.setTop (mkF m 24 #[.val (.ref a1)] [(.ref a1)])) _
    refine st109 _ ?_
    show Steps p.tables e below (T109.setTop (mkF m 27 #[.val (.ref a1)] [(.ref sr)])) _
    exact own_retA X109 hx (t := (.object "java/lang/String")) rfl Bd.returns (hb hby d9_27) hr
  · show QR Z a1 (some (.ref sr)) a2 r (.ref sr) h0 n0 _ T109.heap _
    rw [e109]
    exact ⟨rfl, N107, KC107, f110, f111, F107, f108⟩
set_option maxRecDepth 65536 in
set_option maxHeartbeats 40000000 in
theorem rm_value (l : Launch) (Z : State) (a0 : Array Value) (hw : ∀ d ∈ tables_1, d.before a0 Z = true) (ws : List Jvm.Cond) (a1 : Addr) (a2 : Addr) (N : Nat) (f : Nat → Value) (z : Int32) (p1 : Int32) (op : Value) (k : Nat) (sr : Addr) (h0 : Heap) (n0 : Nat) (Z0 : n0 ≤ h0.size) (Ex : Exa Z h0 a1 "com/example/seglport/seglport/options/OptionReader") (F0 : Fld Z h0 a1 "com/example/seglport/seglport/options/OptionReader" "_args" "[Ljava/lang/String;" (.ref a2)) (F1 : Fld Z h0 a1 "com/example/seglport/seglport/options/OptionReader" "_next" "I" (.int p1)) (F2 : Fld Z h0 a1 "com/example/seglport/seglport/options/OptionReader" "_option" "Ljava/lang/String;" op) (FA : OwnA Z h0 a2 (.object "java/lang/String") N f) (hz : N.toInt32 = z) (hj : ¬ (p1 - (1 : Int32)) < 0) (hk : (p1 - (1 : Int32)).toNatClampNeg = k) (hn : k < N) (hv : f k = .ref sr) (hlt : (p1 - (1 : Int32)) < z) :
    MetFree l (⟨"com/example/seglport/seglport/options/OptionReader", "value", "()Ljava/lang/String;"⟩ : MethodName) (head1 (Jvm.Cond.code (⟨"com/example/seglport/seglport/options/OptionReader", "value", "()Ljava/lang/String;"⟩ : MethodName) prog_39_method_4_code 2 (some (.object "java/lang/String")) :: ws) ({ frames := 0, cells := 0, slots := 0, locals := 0 } : Room)) (fun a U => a = #[(.ref a1)] ∧ Z.Warmed39 U.vm ∧ U.heap = h0) (fun _ _ _ _ _ => True) (fun _ U o U' => ∃ v L, o = .returned v ∧ QA sr h0 n0 v U'.heap L ∧ FrameEnd U o U' L ({ frames := 0, cells := 0, slots := 0, locals := 0 } : Room).cells ({ frames := 0, cells := 0, slots := 0, locals := 0 } : Room).slots) := by
  refine MetFree.of_bodySF (plainFor_of_name own_pn3) hisR ?_
  intro p e s m args below meth c s₁ Bd hml0 hP hK
  obtain ⟨rfl, hZ, hh⟩ := hP
  have hx := Bd.exec
  have hby := Bd.bytes
  have hml : c.maxLocals = 2 := hml0
  have hown : s.vm.findClass "com/example/seglport/seglport/options/OptionReader" = some m.cls := findClass_of_methodNamed Bd.named
  have hnm := (name_of_methodNamed Bd.named Bd.method).1
  have X0 : Stand p l e ({ frames := 0, cells := 0, slots := 0, locals := 0 } : Room) s m #[(.ref a1)] below meth c s₁ [] 0 0 := Stand.of_body Bd
  have e0 : s₁.heap = h0 := by rw [← hh, Bd.state]; rfl
  have N0 := Fr.nil n0
  have ef : entryFrame m #[(.ref a1)] 2 = mkF m 0 #[.val (.ref a1), .unset] [] := by first | (simp [entryFrame, mkF, argsToLocals, Value.category]; done) | rfl
  have pre0 : ∀ t, Steps p.tables e below (s₁.setTop (mkF m 0 #[.val (.ref a1), .unset] [])) t → Steps p.tables e below (s₁.setTop (entryFrame m #[(.ref a1)] 2)) t := fun t k => castTop ef k
  obtain ⟨T101, X101, e101, st101⟩ := getF X0 hx hZ hown (host := "") (Or.inl (hw _ (List.mem_of_getElem? (i := 47) rfl))) Via.refl e0 F1 (g := (mkF m 1 #[.val (.ref a1), .unset] [(.ref a1)])) rfl rfl (hb hby d11_1)
  obtain ⟨T102, X102, e102, st102⟩ := getF X101 hx hZ hown (host := "") (Or.inl (hw _ (List.mem_of_getElem? (i := 40) rfl))) Via.refl e101 F0 (g := (mkF m 9 #[.val (.ref a1), .val (.int (p1 - (1 : Int32)))] [(.ref a1), (.int (p1 - (1 : Int32)))])) rfl rfl (hb hby d11_9)
  obtain ⟨T103, X103, e103, st103⟩ := getF X102 hx hZ hown (host := "") (Or.inl (hw _ (List.mem_of_getElem? (i := 40) rfl))) Via.refl e102 F0 (g := (mkF m 34 #[.val (.ref a1), .val (.int (p1 - (1 : Int32)))] [(.ref a1)])) rfl rfl (hb hby d11_34)
  obtain ⟨fs, hr, hrun, hended, hW, hsame⟩ := X103.leave (v := some (.ref sr)) (fun h => by rw [Bd.returns] at h; cases h)
  refine ⟨_, _, pre0 _ ?_, hrun, hended, _, _, rfl, ?_, ⟨_, rfl⟩, hW, hsame.mono (by decide) (by decide)⟩
  · show Steps p.tables e below (s₁.setTop (mkF m 0 #[.val (.ref a1), .unset] [])) _
    refine XS.aloadN X0.here hx rfl (hb hby d11_0) rfl rfl ?_
    show Steps p.tables e below (s₁.setTop (mkF m 1 #[.val (.ref a1), .unset] [(.ref a1)])) _
    refine st101 _ ?_
    show Steps p.tables e below (T101.setTop (mkF m 4 #[.val (.ref a1), .unset] [(.int p1)])) _
    refine XS.iconst X101.here hx rfl (hb hby d11_4) ?_
    show Steps p.tables e below (T101.setTop (mkF m 5 #[.val (.ref a1), .unset] [(.int (1 : Int32)), (.int p1)])) _
    refine XS.isub X101.here hx rfl (hb hby d11_5) rfl ?_
    show Steps p.tables e below (T101.setTop (mkF m 6 #[.val (.ref a1), .unset] [(.int (p1 - (1 : Int32)))])) _
    refine XS.istoreN X101.here hx rfl (hb hby d11_6) rfl (l' := #[.val (.ref a1), .val (.int (p1 - (1 : Int32)))]) rfl ?_
    show Steps p.tables e below (T101.setTop (mkF m 7 #[.val (.ref a1), .val (.int (p1 - (1 : Int32)))] [])) _
    refine XS.iloadN X101.here hx rfl (hb hby d11_7) rfl ?_
    show Steps p.tables e below (T101.setTop (mkF m 8 #[.val (.ref a1), .val (.int (p1 - (1 : Int32)))] [(.int (p1 - (1 : Int32)))])) _
    refine XS.aloadN X101.here hx rfl (hb hby d11_8) rfl rfl ?_
    show Steps p.tables e below (T101.setTop (mkF m 9 #[.val (.ref a1), .val (.int (p1 - (1 : Int32)))] [(.ref a1), (.int (p1 - (1 : Int32)))])) _
    refine st102 _ ?_
    show Steps p.tables e below (T102.setTop (mkF m 12 #[.val (.ref a1), .val (.int (p1 - (1 : Int32)))] [(.ref a2), (.int (p1 - (1 : Int32)))])) _
    refine own_len X102 hx hZ e102 FA (z := z) hz (g := (mkF m 12 #[.val (.ref a1), .val (.int (p1 - (1 : Int32)))] [(.ref a2), (.int (p1 - (1 : Int32)))])) rfl rfl (hb hby d11_12) _ ?_
    show Steps p.tables e below (T102.setTop (mkF m 13 #[.val (.ref a1), .val (.int (p1 - (1 : Int32)))] [(.int z), (.int (p1 - (1 : Int32)))])) _
    refine XS.icmpYes X102.here hx rfl (pc0 := 13) (pc' := 33) rfl (hb hby d11_13) rfl (tlt hlt).1 (by decide) (by decide) ?_
    show Steps p.tables e below (T102.setTop (mkF m 33 #[.val (.ref a1), .val (.int (p1 - (1 : Int32)))] [])) _
    refine XS.aloadN X102.here hx rfl (hb hby d11_33) rfl rfl ?_
    show Steps p.tables e below (T102.setTop (mkF m 34 #[.val (.ref a1), .val (.int (p1 - (1 : Int32)))] [(.ref a1)])) _
    refine st103 _ ?_
    show Steps p.tables e below (T103.setTop (mkF m 37 #[.val (.ref a1), .val (.int (p1 - (1 : Int32)))] [(.ref a2)])) _
    refine XS.iloadN X103.here hx rfl (hb hby d11_37) rfl ?_
    show Steps p.tables e below (T103.setTop (mkF m 38 #[.val (.ref a1), .val (.int (p1 - (1 : Int32)))] [(.int (p1 - (1 : Int32))), (.ref a2)])) _
    refine own_ldR X103 hx hZ e103 FA rfl (j := (p1 - (1 : Int32))) k hj hk hn (v := (.ref sr)) hv (g := (mkF m 38 #[.val (.ref a1), .val (.int (p1 - (1 : Int32)))] [(.int (p1 - (1 : Int32))), (.ref a2)])) rfl rfl (hb hby d11_38) _ ?_
    show Steps p.tables e below (T103.setTop (mkF m 39 #[.val (.ref a1), .val (.int (p1 - (1 : Int32)))] [(.ref sr)])) _
    exact own_retA X103 hx (t := (.object "java/lang/String")) rfl Bd.returns (hb hby d11_39) hr
  · show QA sr h0 n0 _ T103.heap _
    rw [e103]
    exact ⟨rfl, N0, rfl⟩
set_option maxRecDepth 65536 in
set_option maxHeartbeats 40000000 in
theorem rm_eq (l : Launch) (Z : State) (a0 : Array Value) (hw : ∀ d ∈ tables_1, d.before a0 Z = true) (ws : List Jvm.Cond) (a1 : Addr) (h0 : Heap) (n0 : Nat) (Z0 : n0 ≤ h0.size)  :
    MetFree l (⟨"java/lang/String", "equals", "(Ljava/lang/Object;)Z"⟩ : MethodName) (head1 (Jvm.Cond.code (⟨"java/lang/String", "equals", "(Ljava/lang/Object;)Z"⟩ : MethodName) jdk_42_method_66_code 3 (some .boolean) :: ws) ({ frames := 0, cells := 0, slots := 0, locals := 0 } : Room)) (fun a U => a = #[(.ref a1), (.ref a1)] ∧ Z.Warmed39 U.vm ∧ U.heap = h0) (fun _ _ _ _ _ => True) (fun _ U o U' => ∃ v L, o = .returned v ∧ QN (1 : Int32) h0 n0 v U'.heap L ∧ FrameEnd U o U' L ({ frames := 0, cells := 0, slots := 0, locals := 0 } : Room).cells ({ frames := 0, cells := 0, slots := 0, locals := 0 } : Room).slots) := by
  refine MetFree.of_bodySF (plainFor_of_name own_pn1) hisR ?_
  intro p e s m args below meth c s₁ Bd hml0 hP hK
  obtain ⟨rfl, hZ, hh⟩ := hP
  have hx := Bd.exec
  have hby := Bd.bytes
  have hml : c.maxLocals = 3 := hml0
  have hown : s.vm.findClass "java/lang/String" = some m.cls := findClass_of_methodNamed Bd.named
  have hnm := (name_of_methodNamed Bd.named Bd.method).1
  have X0 : Stand p l e ({ frames := 0, cells := 0, slots := 0, locals := 0 } : Room) s m #[(.ref a1), (.ref a1)] below meth c s₁ [] 0 0 := Stand.of_body Bd
  have e0 : s₁.heap = h0 := by rw [← hh, Bd.state]; rfl
  have N0 := Fr.nil n0
  have ef : entryFrame m #[(.ref a1), (.ref a1)] 3 = mkF m 0 #[.val (.ref a1), .val (.ref a1), .unset] [] := by first | (simp [entryFrame, mkF, argsToLocals, Value.category]; done) | rfl
  have pre0 : ∀ t, Steps p.tables e below (s₁.setTop (mkF m 0 #[.val (.ref a1), .val (.ref a1), .unset] [])) t → Steps p.tables e below (s₁.setTop (entryFrame m #[(.ref a1), (.ref a1)] 3)) t := fun t k => castTop ef k
  obtain ⟨fs, hr, hrun, hended, hW, hsame⟩ := X0.leave (v := some (.int (1 : Int32))) (fun h => by rw [Bd.returns] at h; cases h)
  refine ⟨_, _, pre0 _ ?_, hrun, hended, _, _, rfl, ?_, ⟨_, rfl⟩, hW, hsame.mono (by decide) (by decide)⟩
  · show Steps p.tables e below (s₁.setTop (mkF m 0 #[.val (.ref a1), .val (.ref a1), .unset] [])) _
    refine XS.aloadN X0.here hx rfl (hb hby d10_0) rfl rfl ?_
    show Steps p.tables e below (s₁.setTop (mkF m 1 #[.val (.ref a1), .val (.ref a1), .unset] [(.ref a1)])) _
    refine XS.aloadN X0.here hx rfl (hb hby d10_1) rfl rfl ?_
    show Steps p.tables e below (s₁.setTop (mkF m 2 #[.val (.ref a1), .val (.ref a1), .unset] [(.ref a1), (.ref a1)])) _
    refine Jvm.RoadKit.acmp (g := (mkF m 2 #[.val (.ref a1), .val (.ref a1), .unset] [(.ref a1), (.ref a1)])) X0 hx rfl rfl rfl (pc0 := 2) (pc' := 5) (same := true) rfl (hb hby d10_2) rfl (decide_eq_true rfl) (by decide) (by decide) ?_
    show Steps p.tables e below (s₁.setTop (mkF m 5 #[.val (.ref a1), .val (.ref a1), .unset] [])) _
    refine XS.iconst X0.here hx rfl (hb hby d10_5) ?_
    show Steps p.tables e below (s₁.setTop (mkF m 6 #[.val (.ref a1), .val (.ref a1), .unset] [(.int (1 : Int32))])) _
    exact retN X0 hx (t := .boolean) Bd.returns (by simp) (hb hby d10_6) hr
  · show QN (1 : Int32) h0 n0 _ s₁.heap _
    rw [e0]
    exact ⟨rfl, N0, rfl⟩
theorem own_c (x : Int32) : ¬ (255 : Int32) < ((x &&& (255 : Int32)).toUInt32.toUInt16.toUInt32.toInt32) := by
  rw [i2c_mask, Int32.lt_iff_toInt_lt, Jvm.Kit.i32_mask x 255 (k := 8) (by decide) (by decide)]
  have : (255 : Int32).toInt = 255 := rfl
  omega
theorem own_n5 (p : Int32) : (((p &&& (2147483647 : Int32)) % (5 : Int32)) + (1 : Int32)) = (1 : Int32) ∨ (((p &&& (2147483647 : Int32)) % (5 : Int32)) + (1 : Int32)) = (2 : Int32) ∨ (((p &&& (2147483647 : Int32)) % (5 : Int32)) + (1 : Int32)) = (3 : Int32) ∨ (((p &&& (2147483647 : Int32)) % (5 : Int32)) + (1 : Int32)) = (4 : Int32) ∨ (((p &&& (2147483647 : Int32)) % (5 : Int32)) + (1 : Int32)) = (5 : Int32) := by
  obtain ⟨h1, h2⟩ := own_rem (y := 5) (own_mask31 p) (by decide)
  generalize (p &&& (2147483647 : Int32)) % (5 : Int32) = r at h1 h2 ⊢
  have e3 : (5 : Int32).toInt = 5 := rfl
  have h : r.toInt = (0 : Int32).toInt ∨ r.toInt = (1 : Int32).toInt ∨ r.toInt = (2 : Int32).toInt ∨ r.toInt = (3 : Int32).toInt ∨ r.toInt = (4 : Int32).toInt := by
    show r.toInt = 0 ∨ r.toInt = 1 ∨ r.toInt = 2 ∨ r.toInt = 3 ∨ r.toInt = 4
    omega
  rcases h with q | q | q | q | q <;> (cases Int32.toInt_inj.mp q)
  · exact Or.inl (by decide)
  · exact Or.inr (Or.inl (by decide))
  · exact Or.inr (Or.inr (Or.inl (by decide)))
  · exact Or.inr (Or.inr (Or.inr (Or.inl (by decide))))
  · exact Or.inr (Or.inr (Or.inr (Or.inr (by decide))))

def QLaw (n0 : Nat) (v : Option Value) (h : Heap) (L : List Loc) : Prop := v = some (.int 1) ∧ Fr n0 L
set_option maxRecDepth 65536 in
set_option maxHeartbeats 40000000 in
theorem rm0_1 (l : Launch) (Z : State) (a0 : Array Value) (hw : ∀ d ∈ tables_1, d.before a0 Z = true) (ws : List Jvm.Cond) (p0 : Int32) (p1 : Int32) (p2 : Int32) (p3 : Int32) (p4 : Int32) (p5 : Int32) (cs : Int32) (h0 : Heap) (n0 : Nat) (Z0 : n0 ≤ h0.size) (Sc : Sta Z Z.heap "java/lang/String" "COMPACT_STRINGS" "Z" (.int cs)) (hcs : ¬ (cs = (0 : Int32))) (O0 : Old Z n0 h0) (hN : (((p0 &&& (2147483647 : Int32)) % (5 : Int32)) + (1 : Int32)) = (1 : Int32)) :
    MetFree l x (head1 (Jvm.Cond.code x code maxLocals ret :: ws) room_1) (fun a U => a = #[(.int p0), (.int p1), (.int p2), (.int p3), (.int p4), (.int p5)] ∧ Z.Warmed39 U.vm ∧ U.heap = h0) (fun _ _ _ _ _ => True) (fun _ U o U' => ∃ v L, o = .returned v ∧ QLaw n0 v U'.heap L ∧ FrameEnd U o U' L room_1.cells room_1.slots) := by
  refine MetFree.of_bodySF (plainFor_of_name own_pn2) hisR ?_
  intro p e s m args below meth c s₁ Bd hml0 hP hK
  obtain ⟨rfl, hZ, hh⟩ := hP
  have hx := Bd.exec
  have hby := Bd.bytes
  have hml : c.maxLocals = 17 := hml0
  have hown : s.vm.findClass "com/example/seglport/seglport/options/OptionReaderNextPinLaw" = some m.cls := findClass_of_methodNamed Bd.named
  have hnm := (name_of_methodNamed Bd.named Bd.method).1
  have X0 : Stand p l e room_1 s m #[(.int p0), (.int p1), (.int p2), (.int p3), (.int p4), (.int p5)] below meth c s₁ [] 0 0 := Stand.of_body Bd
  have e0 : s₁.heap = h0 := by rw [← hh, Bd.state]; rfl
  have N0 := Fr.nil n0
  have ef : entryFrame m #[(.int p0), (.int p1), (.int p2), (.int p3), (.int p4), (.int p5)] maxLocals = mkF m 0 #[.val (.int p0), .val (.int p1), .val (.int p2), .val (.int p3), .val (.int p4), .val (.int p5), .unset, .unset, .unset, .unset, .unset, .unset, .unset, .unset, .unset, .unset, .unset] [] := by first | (simp [entryFrame, mkF, argsToLocals, Value.category, maxLocals]; done) | rfl
  have pre0 : ∀ t, Steps p.tables e below (s₁.setTop (mkF m 0 #[.val (.int p0), .val (.int p1), .val (.int p2), .val (.int p3), .val (.int p4), .val (.int p5), .unset, .unset, .unset, .unset, .unset, .unset, .unset, .unset, .unset, .unset, .unset] [])) t → Steps p.tables e below (s₁.setTop (entryFrame m #[(.int p0), (.int p1), (.int p2), (.int p3), (.int p4), (.int p5)] maxLocals)) t := fun t k => castTop ef k
  obtain ⟨_, _, ⟨T101, L101, k101, n101⟩, -, X101, ⟨Lc101, hQ101, l101, y101, z101⟩, st101⟩ := Jvm.LawKit.callS X0 hx (y := (⟨"java/lang/String", "valueOf", "(C)Ljava/lang/String;"⟩ : MethodName)) hown (mvT hZ (hw _ (List.mem_of_getElem? (i := 1) rfl))) (mvT hZ (hw _ (List.mem_of_getElem? (i := 2) rfl))) (mvT hZ (hw _ (List.mem_of_getElem? (i := 3) rfl))) (mvT hZ (hw _ (List.mem_of_getElem? (i := 4) rfl))) (by decide) (backOf (W := 0) (rm_val l Z a0 hw [] ((p1 &&& (255 : Int32)).toUInt32.toUInt16.toUInt32.toInt32) cs h0 n0 Z0 Sc hcs O0 (own_c _)) hZ (hw _ (List.mem_of_getElem? (i := 4) rfl)) (hw _ (List.mem_of_getElem? (i := 3) rfl)) (by decide) (by decide)) (g := (mkF m 16 #[.val (.int p0), .val (.int p1), .val (.int p2), .val (.int p3), .val (.int p4), .val (.int p5), .val (.int (1 : Int32)), .unset, .unset, .unset, .unset, .unset, .unset, .unset, .unset, .unset, .unset] [(.int ((p1 &&& (255 : Int32)).toUInt32.toUInt16.toUInt32.toInt32))])) rfl (by rw [hml]; rfl) (argsL := [(.int ((p1 &&& (255 : Int32)).toUInt32.toUInt16.toUInt32.toInt32))]) (rest := []) (lenOf own_pd3 rfl) rfl (by show 2 * 0 + _ ≤ _; exact Nat.le_of_eq rfl) (hb hby at_16) (fun _ _ => ⟨rfl, e0, (by decide : 0 + 2 ≤ _), (by decide : 0 + 5 ≤ _)⟩)
  dsimp only [Pt.U, Pt.locs, Pt.cells, Pt.slots] at X101 l101 y101 z101 st101 hQ101
  subst l101 y101 z101
  obtain ⟨b101, rfl, Nq101, K101, by_b101, Ex101⟩ := hQ101
  have g_b101 : n0 ≤ b101 := Nat.le_trans Z0 by_b101
  have sz_b101 : h0.size ≤ b101 := Nat.le_trans (Keep.refl h0 []).1 by_b101
  have Z101 : n0 ≤ T101.heap.size := Nat.le_trans Z0 K101.1
  have KC101 : Keep h0 T101.heap [] := (Keep.refl h0 []).trans K101 all0
  have N101 := Fr.app N0 Nq101
  obtain ⟨_, _, ⟨T102, L102, k102, n102⟩, -, X102, ⟨Lc102, hQ102, l102, y102, z102⟩, st102⟩ := Jvm.LawKit.callS X101 hx (y := (⟨"java/lang/String", "valueOf", "(C)Ljava/lang/String;"⟩ : MethodName)) hown (mvT hZ (hw _ (List.mem_of_getElem? (i := 1) rfl))) (mvT hZ (hw _ (List.mem_of_getElem? (i := 2) rfl))) (mvT hZ (hw _ (List.mem_of_getElem? (i := 3) rfl))) (mvT hZ (hw _ (List.mem_of_getElem? (i := 4) rfl))) (by decide) (backOf (W := 0) (rm_val l Z a0 hw [] ((p2 &&& (255 : Int32)).toUInt32.toUInt16.toUInt32.toInt32) cs T101.heap n0 Z101 Sc hcs (O0.keep K101 all0) (own_c _)) hZ (hw _ (List.mem_of_getElem? (i := 4) rfl)) (hw _ (List.mem_of_getElem? (i := 3) rfl)) (by decide) (by decide)) (g := (mkF m 27 #[.val (.int p0), .val (.int p1), .val (.int p2), .val (.int p3), .val (.int p4), .val (.int p5), .val (.int (1 : Int32)), .val (.ref b101), .unset, .unset, .unset, .unset, .unset, .unset, .unset, .unset, .unset] [(.int ((p2 &&& (255 : Int32)).toUInt32.toUInt16.toUInt32.toInt32))])) rfl (by rw [hml]; rfl) (argsL := [(.int ((p2 &&& (255 : Int32)).toUInt32.toUInt16.toUInt32.toInt32))]) (rest := []) (lenOf own_pd3 rfl) rfl (by show 2 * 0 + _ ≤ _; exact Nat.le_of_eq rfl) (hb hby at_27) (fun _ _ => ⟨rfl, rfl, (by decide : 2 + 2 ≤ _), (by decide : 5 + 5 ≤ _)⟩)
  dsimp only [Pt.U, Pt.locs, Pt.cells, Pt.slots] at X102 l102 y102 z102 st102 hQ102
  subst l102 y102 z102
  obtain ⟨b102, rfl, Nq102, K102, by_b102, Ex102⟩ := hQ102
  have ne_b101_b102 : b101 ≠ b102 := Nat.ne_of_lt (Nat.lt_of_lt_of_le Ex101.lt by_b102)
  have g_b102 : n0 ≤ b102 := Nat.le_trans Z101 by_b102
  have sz_b102 : h0.size ≤ b102 := Nat.le_trans KC101.1 by_b102
  have Z102 : n0 ≤ T102.heap.size := Nat.le_trans Z101 K102.1
  have KC102 : Keep h0 T102.heap [] := KC101.trans K102 all0
  have N102 := Fr.app N101 Nq102
  obtain ⟨_, _, ⟨T103, L103, k103, n103⟩, -, X103, ⟨Lc103, hQ103, l103, y103, z103⟩, st103⟩ := Jvm.LawKit.callS X102 hx (y := (⟨"java/lang/String", "valueOf", "(C)Ljava/lang/String;"⟩ : MethodName)) hown (mvT hZ (hw _ (List.mem_of_getElem? (i := 1) rfl))) (mvT hZ (hw _ (List.mem_of_getElem? (i := 2) rfl))) (mvT hZ (hw _ (List.mem_of_getElem? (i := 3) rfl))) (mvT hZ (hw _ (List.mem_of_getElem? (i := 4) rfl))) (by decide) (backOf (W := 0) (rm_val l Z a0 hw [] ((p3 &&& (255 : Int32)).toUInt32.toUInt16.toUInt32.toInt32) cs T102.heap n0 Z102 Sc hcs ((O0.keep K101 all0).keep K102 all0) (own_c _)) hZ (hw _ (List.mem_of_getElem? (i := 4) rfl)) (hw _ (List.mem_of_getElem? (i := 3) rfl)) (by decide) (by decide)) (g := (mkF m 38 #[.val (.int p0), .val (.int p1), .val (.int p2), .val (.int p3), .val (.int p4), .val (.int p5), .val (.int (1 : Int32)), .val (.ref b101), .val (.ref b102), .unset, .unset, .unset, .unset, .unset, .unset, .unset, .unset] [(.int ((p3 &&& (255 : Int32)).toUInt32.toUInt16.toUInt32.toInt32))])) rfl (by rw [hml]; rfl) (argsL := [(.int ((p3 &&& (255 : Int32)).toUInt32.toUInt16.toUInt32.toInt32))]) (rest := []) (lenOf own_pd3 rfl) rfl (by show 2 * 0 + _ ≤ _; exact Nat.le_of_eq rfl) (hb hby at_38) (fun _ _ => ⟨rfl, rfl, (by decide : 4 + 2 ≤ _), (by decide : 10 + 5 ≤ _)⟩)
  dsimp only [Pt.U, Pt.locs, Pt.cells, Pt.slots] at X103 l103 y103 z103 st103 hQ103
  subst l103 y103 z103
  obtain ⟨b103, rfl, Nq103, K103, by_b103, Ex103⟩ := hQ103
  have f104 := (Ex101.keep K102)
  have ne_b101_b103 : b101 ≠ b103 := Nat.ne_of_lt (Nat.lt_of_lt_of_le f104.lt by_b103)
  have ne_b102_b103 : b102 ≠ b103 := Nat.ne_of_lt (Nat.lt_of_lt_of_le Ex102.lt by_b103)
  have g_b103 : n0 ≤ b103 := Nat.le_trans Z102 by_b103
  have sz_b103 : h0.size ≤ b103 := Nat.le_trans KC102.1 by_b103
  have Z103 : n0 ≤ T103.heap.size := Nat.le_trans Z102 K103.1
  have KC103 : Keep h0 T103.heap [] := KC102.trans K103 all0
  have N103 := Fr.app N102 Nq103
  obtain ⟨_, _, ⟨T105, L105, k105, n105⟩, -, X105, ⟨Lc105, hQ105, l105, y105, z105⟩, st105⟩ := Jvm.LawKit.callS X103 hx (y := (⟨"java/lang/String", "valueOf", "(C)Ljava/lang/String;"⟩ : MethodName)) hown (mvT hZ (hw _ (List.mem_of_getElem? (i := 1) rfl))) (mvT hZ (hw _ (List.mem_of_getElem? (i := 2) rfl))) (mvT hZ (hw _ (List.mem_of_getElem? (i := 3) rfl))) (mvT hZ (hw _ (List.mem_of_getElem? (i := 4) rfl))) (by decide) (backOf (W := 0) (rm_val l Z a0 hw [] ((p4 &&& (255 : Int32)).toUInt32.toUInt16.toUInt32.toInt32) cs T103.heap n0 Z103 Sc hcs (((O0.keep K101 all0).keep K102 all0).keep K103 all0) (own_c _)) hZ (hw _ (List.mem_of_getElem? (i := 4) rfl)) (hw _ (List.mem_of_getElem? (i := 3) rfl)) (by decide) (by decide)) (g := (mkF m 50 #[.val (.int p0), .val (.int p1), .val (.int p2), .val (.int p3), .val (.int p4), .val (.int p5), .val (.int (1 : Int32)), .val (.ref b101), .val (.ref b102), .val (.ref b103), .unset, .unset, .unset, .unset, .unset, .unset, .unset] [(.int ((p4 &&& (255 : Int32)).toUInt32.toUInt16.toUInt32.toInt32))])) rfl (by rw [hml]; rfl) (argsL := [(.int ((p4 &&& (255 : Int32)).toUInt32.toUInt16.toUInt32.toInt32))]) (rest := []) (lenOf own_pd3 rfl) rfl (by show 2 * 0 + _ ≤ _; exact Nat.le_of_eq rfl) (hb hby at_50) (fun _ _ => ⟨rfl, rfl, (by decide : 6 + 2 ≤ _), (by decide : 15 + 5 ≤ _)⟩)
  dsimp only [Pt.U, Pt.locs, Pt.cells, Pt.slots] at X105 l105 y105 z105 st105 hQ105
  subst l105 y105 z105
  obtain ⟨b105, rfl, Nq105, K105, by_b105, Ex105⟩ := hQ105
  have f106 := (f104.keep K103)
  have f107 := (Ex102.keep K103)
  have ne_b101_b105 : b101 ≠ b105 := Nat.ne_of_lt (Nat.lt_of_lt_of_le f106.lt by_b105)
  have ne_b102_b105 : b102 ≠ b105 := Nat.ne_of_lt (Nat.lt_of_lt_of_le f107.lt by_b105)
  have ne_b103_b105 : b103 ≠ b105 := Nat.ne_of_lt (Nat.lt_of_lt_of_le Ex103.lt by_b105)
  have g_b105 : n0 ≤ b105 := Nat.le_trans Z103 by_b105
  have sz_b105 : h0.size ≤ b105 := Nat.le_trans KC103.1 by_b105
  have Z105 : n0 ≤ T105.heap.size := Nat.le_trans Z103 K105.1
  have KC105 : Keep h0 T105.heap [] := KC103.trans K105 all0
  have N105 := Fr.app N103 Nq105
  obtain ⟨_, _, ⟨T108, L108, k108, n108⟩, -, X108, ⟨Lc108, hQ108, l108, y108, z108⟩, st108⟩ := Jvm.LawKit.callS X105 hx (y := (⟨"java/lang/String", "valueOf", "(C)Ljava/lang/String;"⟩ : MethodName)) hown (mvT hZ (hw _ (List.mem_of_getElem? (i := 1) rfl))) (mvT hZ (hw _ (List.mem_of_getElem? (i := 2) rfl))) (mvT hZ (hw _ (List.mem_of_getElem? (i := 3) rfl))) (mvT hZ (hw _ (List.mem_of_getElem? (i := 4) rfl))) (by decide) (backOf (W := 0) (rm_val l Z a0 hw [] ((p5 &&& (255 : Int32)).toUInt32.toUInt16.toUInt32.toInt32) cs T105.heap n0 Z105 Sc hcs ((((O0.keep K101 all0).keep K102 all0).keep K103 all0).keep K105 all0) (own_c _)) hZ (hw _ (List.mem_of_getElem? (i := 4) rfl)) (hw _ (List.mem_of_getElem? (i := 3) rfl)) (by decide) (by decide)) (g := (mkF m 62 #[.val (.int p0), .val (.int p1), .val (.int p2), .val (.int p3), .val (.int p4), .val (.int p5), .val (.int (1 : Int32)), .val (.ref b101), .val (.ref b102), .val (.ref b103), .val (.ref b105), .unset, .unset, .unset, .unset, .unset, .unset] [(.int ((p5 &&& (255 : Int32)).toUInt32.toUInt16.toUInt32.toInt32))])) rfl (by rw [hml]; rfl) (argsL := [(.int ((p5 &&& (255 : Int32)).toUInt32.toUInt16.toUInt32.toInt32))]) (rest := []) (lenOf own_pd3 rfl) rfl (by show 2 * 0 + _ ≤ _; exact Nat.le_of_eq rfl) (hb hby at_62) (fun _ _ => ⟨rfl, rfl, (by decide : 8 + 2 ≤ _), (by decide : 20 + 5 ≤ _)⟩)
  dsimp only [Pt.U, Pt.locs, Pt.cells, Pt.slots] at X108 l108 y108 z108 st108 hQ108
  subst l108 y108 z108
  obtain ⟨b108, rfl, Nq108, K108, by_b108, Ex108⟩ := hQ108
  have f109 := (f106.keep K105)
  have f110 := (f107.keep K105)
  have f111 := (Ex103.keep K105)
  have ne_b101_b108 : b101 ≠ b108 := Nat.ne_of_lt (Nat.lt_of_lt_of_le f109.lt by_b108)
  have ne_b102_b108 : b102 ≠ b108 := Nat.ne_of_lt (Nat.lt_of_lt_of_le f110.lt by_b108)
  have ne_b103_b108 : b103 ≠ b108 := Nat.ne_of_lt (Nat.lt_of_lt_of_le f111.lt by_b108)
  have ne_b105_b108 : b105 ≠ b108 := Nat.ne_of_lt (Nat.lt_of_lt_of_le Ex105.lt by_b108)
  have g_b108 : n0 ≤ b108 := Nat.le_trans Z105 by_b108
  have sz_b108 : h0.size ≤ b108 := Nat.le_trans KC105.1 by_b108
  have Z108 : n0 ≤ T108.heap.size := Nat.le_trans Z105 K108.1
  have KC108 : Keep h0 T108.heap [] := KC105.trans K108 all0
  have N108 := Fr.app N105 Nq108
  have f112 := (f109.keep K108)
  have f113 := (f110.keep K108)
  have f114 := (f111.keep K108)
  have f115 := (Ex105.keep K108)
  obtain ⟨_, _, ⟨T116, L116, k116, n116⟩, -, X116, ⟨Lc116, hQ116, l116, y116, z116⟩, st116⟩ := Jvm.LawKit.callS X108 hx (y := (⟨"com/example/seglport/seglport/options/OptionReaderNextPinLaw", "make", "(ILjava/lang/String;Ljava/lang/String;Ljava/lang/String;Ljava/lang/String;Ljava/lang/String;)[Ljava/lang/String;"⟩ : MethodName)) hown (mvT hZ (hw _ (List.mem_of_getElem? (i := 27) rfl))) (mvT hZ (hw _ (List.mem_of_getElem? (i := 28) rfl))) (mvT hZ (hw _ (List.mem_of_getElem? (i := 29) rfl))) (mvT hZ (hw _ (List.mem_of_getElem? (i := 30) rfl))) (by decide) (backOf (W := 0) (rm_make1 l Z a0 hw [] b101 b102 b103 b105 b108 T108.heap n0 Z108 f112 f113 f114 f115 Ex108) hZ (hw _ (List.mem_of_getElem? (i := 30) rfl)) (hw _ (List.mem_of_getElem? (i := 29) rfl)) (by decide) (by decide)) (g := (mkF m 79 #[.val (.int p0), .val (.int p1), .val (.int p2), .val (.int p3), .val (.int p4), .val (.int p5), .val (.int (1 : Int32)), .val (.ref b101), .val (.ref b102), .val (.ref b103), .val (.ref b105), .val (.ref b108), .unset, .unset, .unset, .unset, .unset] [(.ref b108), (.ref b105), (.ref b103), (.ref b102), (.ref b101), (.int (1 : Int32))])) rfl (by rw [hml]; rfl) (argsL := [(.int (1 : Int32)), (.ref b101), (.ref b102), (.ref b103), (.ref b105), (.ref b108)]) (rest := []) (lenOf own_pd4 rfl) rfl (by show 2 * 0 + _ ≤ _; exact Nat.le_of_eq rfl) (hb hby at_79) (fun _ _ => ⟨rfl, rfl, (by decide : 10 + 1 ≤ _), (by decide : 25 + 1 ≤ _)⟩)
  dsimp only [Pt.U, Pt.locs, Pt.cells, Pt.slots] at X116 l116 y116 z116 st116 hQ116
  subst l116 y116 z116
  obtain ⟨b116, rfl, Nq116, K116, by_b116, V116⟩ := hQ116
  have ne_b101_b116 : b101 ≠ b116 := Nat.ne_of_lt (Nat.lt_of_lt_of_le f112.lt by_b116)
  have ne_b102_b116 : b102 ≠ b116 := Nat.ne_of_lt (Nat.lt_of_lt_of_le f113.lt by_b116)
  have ne_b103_b116 : b103 ≠ b116 := Nat.ne_of_lt (Nat.lt_of_lt_of_le f114.lt by_b116)
  have ne_b105_b116 : b105 ≠ b116 := Nat.ne_of_lt (Nat.lt_of_lt_of_le f115.lt by_b116)
  have ne_b108_b116 : b108 ≠ b116 := Nat.ne_of_lt (Nat.lt_of_lt_of_le Ex108.lt by_b116)
  have g_b116 : n0 ≤ b116 := Nat.le_trans Z108 by_b116
  have sz_b116 : h0.size ≤ b116 := Nat.le_trans KC108.1 by_b116
  have Z116 : n0 ≤ T116.heap.size := Nat.le_trans Z108 K116.1
  have KC116 : Keep h0 T116.heap [] := KC108.trans K116 all0
  have N116 := Fr.app N108 Nq116
  obtain ⟨T117, h117, X117, e117, E117, A117, D117, -, st117⟩ := newO X116 hx hZ hown (hw _ (List.mem_of_getElem? (i := 33) rfl)) (hw _ (List.mem_of_getElem? (i := 34) rfl)) (hw _ (List.mem_of_getElem? (i := 35) rfl)) rfl (g := (mkF m 84 #[.val (.int p0), .val (.int p1), .val (.int p2), .val (.int p3), .val (.int p4), .val (.int p5), .val (.int (1 : Int32)), .val (.ref b101), .val (.ref b102), .val (.ref b103), .val (.ref b105), .val (.ref b108), .val (.ref b116), .unset, .unset, .unset, .unset] [])) rfl (hb hby at_84) (by decide) (by decide)
  obtain ⟨b117, g117⟩ : ∃ z, z = T116.heap.size := ⟨_, rfl⟩
  rw [← g117] at A117 D117 st117
  have f118 := (f112.keep K116)
  have f119 := (f113.keep K116)
  have f120 := (f114.keep K116)
  have f121 := (f115.keep K116)
  have f122 := (Ex108.keep K116)
  have ne_b101_b117 : b101 ≠ b117 := Nat.ne_of_lt (Nat.lt_of_lt_of_le f118.lt (Nat.le_of_eq g117.symm))
  have ne_b102_b117 : b102 ≠ b117 := Nat.ne_of_lt (Nat.lt_of_lt_of_le f119.lt (Nat.le_of_eq g117.symm))
  have ne_b103_b117 : b103 ≠ b117 := Nat.ne_of_lt (Nat.lt_of_lt_of_le f120.lt (Nat.le_of_eq g117.symm))
  have ne_b105_b117 : b105 ≠ b117 := Nat.ne_of_lt (Nat.lt_of_lt_of_le f121.lt (Nat.le_of_eq g117.symm))
  have ne_b108_b117 : b108 ≠ b117 := Nat.ne_of_lt (Nat.lt_of_lt_of_le f122.lt (Nat.le_of_eq g117.symm))
  have ne_b116_b117 : b116 ≠ b117 := Nat.ne_of_lt (Nat.lt_of_lt_of_le V116.lt (Nat.le_of_eq g117.symm))
  have g_b117 : n0 ≤ b117 := Nat.le_trans Z116 (Nat.le_of_eq g117.symm)
  have sz_b117 : h0.size ≤ b117 := Nat.le_trans KC116.1 (Nat.le_of_eq g117.symm)
  have Z117 : n0 ≤ h117.size := Nat.le_trans Z116 E117.1
  have KC117 : Keep h0 h117 [] := KC116.ext E117
  have F__args_b117 : Fld Z h117 b117 "com/example/seglport/seglport/options/OptionReader" "_args" "[Ljava/lang/String;" .null := D117 (Or.inr (hw _ (List.mem_of_getElem? (i := 41) rfl))) (ty := (.array (.object "java/lang/String"))) (by decide)
  have F__next_b117 : Fld Z h117 b117 "com/example/seglport/seglport/options/OptionReader" "_next" "I" (.int (0 : Int32)) := D117 (Or.inl (hw _ (List.mem_of_getElem? (i := 48) rfl))) (ty := .int) (by decide)
  have F__option_b117 : Fld Z h117 b117 "com/example/seglport/seglport/options/OptionReader" "_option" "Ljava/lang/String;" .null := D117 (Or.inl (hw _ (List.mem_of_getElem? (i := 55) rfl))) (ty := (.object "java/lang/String")) (by decide)
  obtain ⟨_, _, ⟨T123, L123, k123, n123⟩, -, X123, ⟨Lc123, hQ123, l123, y123, z123⟩, st123⟩ := X117.specialBack hx (y := (⟨"com/example/seglport/seglport/options/OptionReader", "<init>", "([Ljava/lang/String;)V"⟩ : MethodName)) rfl hown (mvT hZ (hw _ (List.mem_of_getElem? (i := 36) rfl))) (mvT hZ (hw _ (List.mem_of_getElem? (i := 37) rfl))) (mvT hZ (hw _ (List.mem_of_getElem? (i := 38) rfl))) (by decide) (backOf (W := 1) (rm_init l Z a0 hw [] b117 b116 h117 n0 Z117 A117 F__args_b117 F__next_b117 F__option_b117 g_b117) hZ (hw _ (List.mem_of_getElem? (i := 38) rfl)) (hw _ (List.mem_of_getElem? (i := 35) rfl)) (by decide) (by decide)) (g := (mkF m 90 #[.val (.int p0), .val (.int p1), .val (.int p2), .val (.int p3), .val (.int p4), .val (.int p5), .val (.int (1 : Int32)), .val (.ref b101), .val (.ref b102), .val (.ref b103), .val (.ref b105), .val (.ref b108), .val (.ref b116), .unset, .unset, .unset, .unset] [(.ref b116), (.ref b117), (.ref b117)])) rfl (by rw [hml]; rfl) (Steps.refl _) (a := b117) (argsL := [(.ref b116)]) (rest := [(.ref b117)]) (lenOf own_pd5 rfl) rfl (by show 2 * 0 + _ ≤ _; exact Nat.le_of_eq rfl) (hb hby at_90) (fun _ _ => ⟨rfl, e117, (by decide : 12 + 0 ≤ _), (by decide : 29 + 0 ≤ _)⟩)
  dsimp only [Pt.U, Pt.locs, Pt.cells, Pt.slots] at X123 l123 y123 z123 st123 hQ123
  subst l123 y123 z123
  obtain ⟨rfl, Nq123, K123, R123_0, R123_1, R123_2, R123_3⟩ := hQ123
  have Z123 : n0 ≤ T123.heap.size := Nat.le_trans Z117 K123.1
  have KC123 : Keep h0 T123.heap [] := KC117.trans K123 (allS (Or.inr sz_b117) all0)
  have N123 := Fr.app N116 Nq123
  have f124 := ((V116.ext E117).keep K123 (ninS ne_b116_b117 nin0))
  obtain ⟨cq125, kq125, q125a, q125b, q125c⟩ := isOf hZ rfl R123_0
  obtain ⟨_, _, ⟨T125, L125, k125, n125⟩, -, X125, ⟨Lc125, hQ125, l125, y125, z125⟩, st125⟩ := X123.virtualBack hx (y := (⟨"com/example/seglport/seglport/options/OptionReader", "hasNext", "()Z"⟩ : MethodName)) (z := (⟨"com/example/seglport/seglport/options/OptionReader", "hasNext", "()Z"⟩ : MethodName)) hown (mvT hZ (hw _ (List.mem_of_getElem? (i := 42) rfl))) (mvT hZ (hw _ (List.mem_of_getElem? (i := 43) rfl))) (notFace_of_selects (args := #[]) (mvT hZ (hw _ (List.mem_of_getElem? (i := 45) rfl)))) (mvT hZ (hw _ (List.mem_of_getElem? (i := 45) rfl))) (mvT hZ (hw _ (List.mem_of_getElem? (i := 44) rfl))) (by decide) (backOf (W := 0) (rm_hasT l Z a0 hw [] b117 b116 1 _ (1 : Int32) (0 : Int32) .null T123.heap n0 Z123 R123_0 R123_1 R123_2 R123_3 f124 rfl (by decide)) hZ (hw _ (List.mem_of_getElem? (i := 46) rfl)) (hw _ (List.mem_of_getElem? (i := 35) rfl)) (by decide) (by decide)) q125a q125c (g := (mkF m 97 #[.val (.int p0), .val (.int p1), .val (.int p2), .val (.int p3), .val (.int p4), .val (.int p5), .val (.int (1 : Int32)), .val (.ref b101), .val (.ref b102), .val (.ref b103), .val (.ref b105), .val (.ref b108), .val (.ref b116), .val (.ref b117), .unset, .unset, .unset] [(.ref b117)])) rfl (by rw [hml]; rfl) (Steps.refl _) (argsL := []) (rest := []) (lenOf own_pd6 rfl) rfl (by show 2 * 0 + _ ≤ _; exact Nat.le_of_eq rfl) (hb hby at_97) (fun _ _ => ⟨rfl, rfl, (by decide : 12 + 0 ≤ _), (by decide : 29 + 0 ≤ _)⟩)
  dsimp only [Pt.U, Pt.locs, Pt.cells, Pt.slots] at X125 l125 y125 z125 st125 hQ125
  subst l125 y125 z125
  obtain ⟨rfl, Nq125, e125⟩ := hQ125
  have N125 := Fr.app N123 Nq125
  obtain ⟨cq126, kq126, q126a, q126b, q126c⟩ := isOf hZ e125 R123_0
  obtain ⟨_, _, ⟨T126, L126, k126, n126⟩, -, X126, ⟨Lc126, hQ126, l126, y126, z126⟩, st126⟩ := X125.virtualBack hx (y := (⟨"com/example/seglport/seglport/options/OptionReader", "next", "()Ljava/lang/String;"⟩ : MethodName)) (z := (⟨"com/example/seglport/seglport/options/OptionReader", "next", "()Ljava/lang/String;"⟩ : MethodName)) hown (mvT hZ (hw _ (List.mem_of_getElem? (i := 49) rfl))) (mvT hZ (hw _ (List.mem_of_getElem? (i := 50) rfl))) (notFace_of_selects (args := #[]) (mvT hZ (hw _ (List.mem_of_getElem? (i := 52) rfl)))) (mvT hZ (hw _ (List.mem_of_getElem? (i := 52) rfl))) (mvT hZ (hw _ (List.mem_of_getElem? (i := 51) rfl))) (by decide) (backOf (W := 0) (rm_next l Z a0 hw [] b117 b116 1 _ (1 : Int32) (0 : Int32) .null 0 b101 (2 : Int32) T123.heap n0 Z123 R123_0 R123_1 R123_2 R123_3 f124 rfl g_b117 (by decide) rfl (by decide) rfl (by decide)) hZ (hw _ (List.mem_of_getElem? (i := 53) rfl)) (hw _ (List.mem_of_getElem? (i := 35) rfl)) (by decide) (by decide)) q126a q126c (g := (mkF m 107 #[.val (.int p0), .val (.int p1), .val (.int p2), .val (.int p3), .val (.int p4), .val (.int p5), .val (.int (1 : Int32)), .val (.ref b101), .val (.ref b102), .val (.ref b103), .val (.ref b105), .val (.ref b108), .val (.ref b116), .val (.ref b117), .unset, .unset, .unset] [(.ref b117)])) rfl (by rw [hml]; rfl) (Steps.refl _) (argsL := []) (rest := []) (lenOf own_pd7 rfl) rfl (by show 2 * 0 + _ ≤ _; exact Nat.le_of_eq rfl) (hb hby at_107) (fun _ _ => ⟨rfl, e125, (by decide : 12 + 0 ≤ _), (by decide : 29 + 0 ≤ _)⟩)
  dsimp only [Pt.U, Pt.locs, Pt.cells, Pt.slots] at X126 l126 y126 z126 st126 hQ126
  subst l126 y126 z126
  obtain ⟨rfl, Nq126, K126, R126_0, R126_1, R126_2, R126_3⟩ := hQ126
  have Z126 : n0 ≤ T126.heap.size := Nat.le_trans Z123 K126.1
  have KC126 : Keep h0 T126.heap [] := KC123.trans K126 (allS (Or.inr sz_b117) all0)
  have N126 := Fr.app N125 Nq126
  have f128 := (((f118.ext E117).keep K123).keep K126)
  obtain ⟨cq127, kq127, q127a, q127b, q127c⟩ := isOf hZ rfl f128
  obtain ⟨_, _, ⟨T127, L127, k127, n127⟩, -, X127, ⟨Lc127, hQ127, l127, y127, z127⟩, st127⟩ := X126.virtualBack hx (y := (⟨"java/lang/String", "equals", "(Ljava/lang/Object;)Z"⟩ : MethodName)) (z := (⟨"java/lang/String", "equals", "(Ljava/lang/Object;)Z"⟩ : MethodName)) hown (mvT hZ (hw _ (List.mem_of_getElem? (i := 56) rfl))) (mvT hZ (hw _ (List.mem_of_getElem? (i := 57) rfl))) (notFace_of_selects (args := #[]) (mvT hZ (hw _ (List.mem_of_getElem? (i := 59) rfl)))) (mvT hZ (hw _ (List.mem_of_getElem? (i := 59) rfl))) (mvT hZ (hw _ (List.mem_of_getElem? (i := 58) rfl))) (by decide) (backOf (W := 0) (rm_eq l Z a0 hw [] b101 T126.heap n0 Z126 ) hZ (hw _ (List.mem_of_getElem? (i := 60) rfl)) (hw _ (List.mem_of_getElem? (i := 3) rfl)) (by decide) (by decide)) q127a q127c (g := (mkF m 116 #[.val (.int p0), .val (.int p1), .val (.int p2), .val (.int p3), .val (.int p4), .val (.int p5), .val (.int (1 : Int32)), .val (.ref b101), .val (.ref b102), .val (.ref b103), .val (.ref b105), .val (.ref b108), .val (.ref b116), .val (.ref b117), .val (.ref b101), .unset, .unset] [(.ref b101), (.ref b101)])) rfl (by rw [hml]; rfl) (Steps.refl _) (argsL := [(.ref b101)]) (rest := []) (lenOf own_pd8 rfl) rfl (by show 2 * 0 + _ ≤ _; exact Nat.le_of_eq rfl) (hb hby at_116) (fun _ _ => ⟨rfl, rfl, (by decide : 12 + 0 ≤ _), (by decide : 29 + 0 ≤ _)⟩)
  dsimp only [Pt.U, Pt.locs, Pt.cells, Pt.slots] at X127 l127 y127 z127 st127 hQ127
  subst l127 y127 z127
  obtain ⟨rfl, Nq127, e127⟩ := hQ127
  have N127 := Fr.app N126 Nq127
  have f129 := (f124.keep K126 (ninS ne_b116_b117 nin0))
  obtain ⟨cq130, kq130, q130a, q130b, q130c⟩ := isOf hZ e127 R126_0
  obtain ⟨_, _, ⟨T130, L130, k130, n130⟩, -, X130, ⟨Lc130, hQ130, l130, y130, z130⟩, st130⟩ := X127.virtualBack hx (y := (⟨"com/example/seglport/seglport/options/OptionReader", "hasNext", "()Z"⟩ : MethodName)) (z := (⟨"com/example/seglport/seglport/options/OptionReader", "hasNext", "()Z"⟩ : MethodName)) hown (mvT hZ (hw _ (List.mem_of_getElem? (i := 42) rfl))) (mvT hZ (hw _ (List.mem_of_getElem? (i := 43) rfl))) (notFace_of_selects (args := #[]) (mvT hZ (hw _ (List.mem_of_getElem? (i := 45) rfl)))) (mvT hZ (hw _ (List.mem_of_getElem? (i := 45) rfl))) (mvT hZ (hw _ (List.mem_of_getElem? (i := 44) rfl))) (by decide) (backOf (W := 0) (rm_hasF l Z a0 hw [] b117 b116 1 _ (1 : Int32) (2 : Int32) (.ref b101) T126.heap n0 Z126 R126_0 R126_1 R126_2 R126_3 f129 rfl (by decide)) hZ (hw _ (List.mem_of_getElem? (i := 46) rfl)) (hw _ (List.mem_of_getElem? (i := 35) rfl)) (by decide) (by decide)) q130a q130c (g := (mkF m 126 #[.val (.int p0), .val (.int p1), .val (.int p2), .val (.int p3), .val (.int p4), .val (.int p5), .val (.int (1 : Int32)), .val (.ref b101), .val (.ref b102), .val (.ref b103), .val (.ref b105), .val (.ref b108), .val (.ref b116), .val (.ref b117), .val (.ref b101), .unset, .unset] [(.ref b117)])) rfl (by rw [hml]; rfl) (Steps.refl _) (argsL := []) (rest := []) (lenOf own_pd6 rfl) rfl (by show 2 * 0 + _ ≤ _; exact Nat.le_of_eq rfl) (hb hby at_126) (fun _ _ => ⟨rfl, e127, (by decide : 12 + 0 ≤ _), (by decide : 29 + 0 ≤ _)⟩)
  dsimp only [Pt.U, Pt.locs, Pt.cells, Pt.slots] at X130 l130 y130 z130 st130 hQ130
  subst l130 y130 z130
  obtain ⟨rfl, Nq130, e130⟩ := hQ130
  have N130 := Fr.app N127 Nq130
  obtain ⟨fs, hr, hrun, hended, hW, hsame⟩ := X130.leave (v := some (.int (1 : Int32))) (fun h => by rw [Bd.returns] at h; cases h)
  refine ⟨_, _, pre0 _ ?_, hrun, hended, _, _, rfl, ?_, ⟨_, rfl⟩, hW, hsame.mono (by decide) (by decide)⟩
  · show Steps p.tables e below (s₁.setTop (mkF m 0 #[.val (.int p0), .val (.int p1), .val (.int p2), .val (.int p3), .val (.int p4), .val (.int p5), .unset, .unset, .unset, .unset, .unset, .unset, .unset, .unset, .unset, .unset, .unset] [])) _
    refine XS.iloadN X0.here hx rfl (hb hby at_0) rfl ?_
    show Steps p.tables e below (s₁.setTop (mkF m 1 #[.val (.int p0), .val (.int p1), .val (.int p2), .val (.int p3), .val (.int p4), .val (.int p5), .unset, .unset, .unset, .unset, .unset, .unset, .unset, .unset, .unset, .unset, .unset] [(.int p0)])) _
    refine X0.ldcInt hx hown (mvT hZ (hw _ (List.mem_of_getElem? (i := 0) rfl))) (g := (mkF m 1 #[.val (.int p0), .val (.int p1), .val (.int p2), .val (.int p3), .val (.int p4), .val (.int p5), .unset, .unset, .unset, .unset, .unset, .unset, .unset, .unset, .unset, .unset, .unset] [(.int p0)])) rfl (hb hby at_1) _ ?_
    show Steps p.tables e below (s₁.setTop (mkF m 3 #[.val (.int p0), .val (.int p1), .val (.int p2), .val (.int p3), .val (.int p4), .val (.int p5), .unset, .unset, .unset, .unset, .unset, .unset, .unset, .unset, .unset, .unset, .unset] [(.int (2147483647 : Int32)), (.int p0)])) _
    refine XS.iand X0.here hx rfl (hb hby at_3) rfl ?_
    show Steps p.tables e below (s₁.setTop (mkF m 4 #[.val (.int p0), .val (.int p1), .val (.int p2), .val (.int p3), .val (.int p4), .val (.int p5), .unset, .unset, .unset, .unset, .unset, .unset, .unset, .unset, .unset, .unset, .unset] [(.int (p0 &&& (2147483647 : Int32)))])) _
    refine XS.iconst X0.here hx rfl (hb hby at_4) ?_
    show Steps p.tables e below (s₁.setTop (mkF m 5 #[.val (.int p0), .val (.int p1), .val (.int p2), .val (.int p3), .val (.int p4), .val (.int p5), .unset, .unset, .unset, .unset, .unset, .unset, .unset, .unset, .unset, .unset, .unset] [(.int (5 : Int32)), (.int (p0 &&& (2147483647 : Int32)))])) _
    refine iremM X0 hx rfl (hb hby at_5) rfl (by decide) ?_
    show Steps p.tables e below (s₁.setTop (mkF m 6 #[.val (.int p0), .val (.int p1), .val (.int p2), .val (.int p3), .val (.int p4), .val (.int p5), .unset, .unset, .unset, .unset, .unset, .unset, .unset, .unset, .unset, .unset, .unset] [(.int ((p0 &&& (2147483647 : Int32)) % (5 : Int32)))])) _
    refine XS.iconst X0.here hx rfl (hb hby at_6) ?_
    show Steps p.tables e below (s₁.setTop (mkF m 7 #[.val (.int p0), .val (.int p1), .val (.int p2), .val (.int p3), .val (.int p4), .val (.int p5), .unset, .unset, .unset, .unset, .unset, .unset, .unset, .unset, .unset, .unset, .unset] [(.int (1 : Int32)), (.int ((p0 &&& (2147483647 : Int32)) % (5 : Int32)))])) _
    refine XS.iadd X0.here hx rfl (hb hby at_7) rfl ?_
    show Steps p.tables e below (s₁.setTop (mkF m 8 #[.val (.int p0), .val (.int p1), .val (.int p2), .val (.int p3), .val (.int p4), .val (.int p5), .unset, .unset, .unset, .unset, .unset, .unset, .unset, .unset, .unset, .unset, .unset] [(.int (((p0 &&& (2147483647 : Int32)) % (5 : Int32)) + (1 : Int32)))])) _
    rw [hN]
    show Steps p.tables e below (s₁.setTop (mkF m 8 #[.val (.int p0), .val (.int p1), .val (.int p2), .val (.int p3), .val (.int p4), .val (.int p5), .unset, .unset, .unset, .unset, .unset, .unset, .unset, .unset, .unset, .unset, .unset] [(.int (1 : Int32))])) _
    refine XS.istore X0.here hx rfl (hb hby at_8) rfl (l' := #[.val (.int p0), .val (.int p1), .val (.int p2), .val (.int p3), .val (.int p4), .val (.int p5), .val (.int (1 : Int32)), .unset, .unset, .unset, .unset, .unset, .unset, .unset, .unset, .unset, .unset]) rfl ?_
    show Steps p.tables e below (s₁.setTop (mkF m 10 #[.val (.int p0), .val (.int p1), .val (.int p2), .val (.int p3), .val (.int p4), .val (.int p5), .val (.int (1 : Int32)), .unset, .unset, .unset, .unset, .unset, .unset, .unset, .unset, .unset, .unset] [])) _
    refine XS.iloadN X0.here hx rfl (hb hby at_10) rfl ?_
    show Steps p.tables e below (s₁.setTop (mkF m 11 #[.val (.int p0), .val (.int p1), .val (.int p2), .val (.int p3), .val (.int p4), .val (.int p5), .val (.int (1 : Int32)), .unset, .unset, .unset, .unset, .unset, .unset, .unset, .unset, .unset, .unset] [(.int p1)])) _
    refine XS.sipush X0.here hx rfl (hb hby at_11) ?_
    show Steps p.tables e below (s₁.setTop (mkF m 14 #[.val (.int p0), .val (.int p1), .val (.int p2), .val (.int p3), .val (.int p4), .val (.int p5), .val (.int (1 : Int32)), .unset, .unset, .unset, .unset, .unset, .unset, .unset, .unset, .unset, .unset] [(.int (255 : Int32)), (.int p1)])) _
    refine XS.iand X0.here hx rfl (hb hby at_14) rfl ?_
    show Steps p.tables e below (s₁.setTop (mkF m 15 #[.val (.int p0), .val (.int p1), .val (.int p2), .val (.int p3), .val (.int p4), .val (.int p5), .val (.int (1 : Int32)), .unset, .unset, .unset, .unset, .unset, .unset, .unset, .unset, .unset, .unset] [(.int (p1 &&& (255 : Int32)))])) _
    refine XS.i2c X0.here hx rfl (hb hby at_15) rfl ?_
    show Steps p.tables e below (s₁.setTop (mkF m 16 #[.val (.int p0), .val (.int p1), .val (.int p2), .val (.int p3), .val (.int p4), .val (.int p5), .val (.int (1 : Int32)), .unset, .unset, .unset, .unset, .unset, .unset, .unset, .unset, .unset, .unset] [(.int ((p1 &&& (255 : Int32)).toUInt32.toUInt16.toUInt32.toInt32))])) _
    refine st101 _ ?_
    show Steps p.tables e below (T101.setTop (mkF m 19 #[.val (.int p0), .val (.int p1), .val (.int p2), .val (.int p3), .val (.int p4), .val (.int p5), .val (.int (1 : Int32)), .unset, .unset, .unset, .unset, .unset, .unset, .unset, .unset, .unset, .unset] [(.ref b101)])) _
    refine XS.astore X101.here hx rfl (hb hby at_19) rfl rfl (l' := #[.val (.int p0), .val (.int p1), .val (.int p2), .val (.int p3), .val (.int p4), .val (.int p5), .val (.int (1 : Int32)), .val (.ref b101), .unset, .unset, .unset, .unset, .unset, .unset, .unset, .unset, .unset]) rfl ?_
    show Steps p.tables e below (T101.setTop (mkF m 21 #[.val (.int p0), .val (.int p1), .val (.int p2), .val (.int p3), .val (.int p4), .val (.int p5), .val (.int (1 : Int32)), .val (.ref b101), .unset, .unset, .unset, .unset, .unset, .unset, .unset, .unset, .unset] [])) _
    refine XS.iloadN X101.here hx rfl (hb hby at_21) rfl ?_
    show Steps p.tables e below (T101.setTop (mkF m 22 #[.val (.int p0), .val (.int p1), .val (.int p2), .val (.int p3), .val (.int p4), .val (.int p5), .val (.int (1 : Int32)), .val (.ref b101), .unset, .unset, .unset, .unset, .unset, .unset, .unset, .unset, .unset] [(.int p2)])) _
    refine XS.sipush X101.here hx rfl (hb hby at_22) ?_
    show Steps p.tables e below (T101.setTop (mkF m 25 #[.val (.int p0), .val (.int p1), .val (.int p2), .val (.int p3), .val (.int p4), .val (.int p5), .val (.int (1 : Int32)), .val (.ref b101), .unset, .unset, .unset, .unset, .unset, .unset, .unset, .unset, .unset] [(.int (255 : Int32)), (.int p2)])) _
    refine XS.iand X101.here hx rfl (hb hby at_25) rfl ?_
    show Steps p.tables e below (T101.setTop (mkF m 26 #[.val (.int p0), .val (.int p1), .val (.int p2), .val (.int p3), .val (.int p4), .val (.int p5), .val (.int (1 : Int32)), .val (.ref b101), .unset, .unset, .unset, .unset, .unset, .unset, .unset, .unset, .unset] [(.int (p2 &&& (255 : Int32)))])) _
    refine XS.i2c X101.here hx rfl (hb hby at_26) rfl ?_
    show Steps p.tables e below (T101.setTop (mkF m 27 #[.val (.int p0), .val (.int p1), .val (.int p2), .val (.int p3), .val (.int p4), .val (.int p5), .val (.int (1 : Int32)), .val (.ref b101), .unset, .unset, .unset, .unset, .unset, .unset, .unset, .unset, .unset] [(.int ((p2 &&& (255 : Int32)).toUInt32.toUInt16.toUInt32.toInt32))])) _
    refine st102 _ ?_
    show Steps p.tables e below (T102.setTop (mkF m 30 #[.val (.int p0), .val (.int p1), .val (.int p2), .val (.int p3), .val (.int p4), .val (.int p5), .val (.int (1 : Int32)), .val (.ref b101), .unset, .unset, .unset, .unset, .unset, .unset, .unset, .unset, .unset] [(.ref b102)])) _
    refine XS.astore X102.here hx rfl (hb hby at_30) rfl rfl (l' := #[.val (.int p0), .val (.int p1), .val (.int p2), .val (.int p3), .val (.int p4), .val (.int p5), .val (.int (1 : Int32)), .val (.ref b101), .val (.ref b102), .unset, .unset, .unset, .unset, .unset, .unset, .unset, .unset]) rfl ?_
    show Steps p.tables e below (T102.setTop (mkF m 32 #[.val (.int p0), .val (.int p1), .val (.int p2), .val (.int p3), .val (.int p4), .val (.int p5), .val (.int (1 : Int32)), .val (.ref b101), .val (.ref b102), .unset, .unset, .unset, .unset, .unset, .unset, .unset, .unset] [])) _
    refine XS.iloadN X102.here hx rfl (hb hby at_32) rfl ?_
    show Steps p.tables e below (T102.setTop (mkF m 33 #[.val (.int p0), .val (.int p1), .val (.int p2), .val (.int p3), .val (.int p4), .val (.int p5), .val (.int (1 : Int32)), .val (.ref b101), .val (.ref b102), .unset, .unset, .unset, .unset, .unset, .unset, .unset, .unset] [(.int p3)])) _
    refine XS.sipush X102.here hx rfl (hb hby at_33) ?_
    show Steps p.tables e below (T102.setTop (mkF m 36 #[.val (.int p0), .val (.int p1), .val (.int p2), .val (.int p3), .val (.int p4), .val (.int p5), .val (.int (1 : Int32)), .val (.ref b101), .val (.ref b102), .unset, .unset, .unset, .unset, .unset, .unset, .unset, .unset] [(.int (255 : Int32)), (.int p3)])) _
    refine XS.iand X102.here hx rfl (hb hby at_36) rfl ?_
    show Steps p.tables e below (T102.setTop (mkF m 37 #[.val (.int p0), .val (.int p1), .val (.int p2), .val (.int p3), .val (.int p4), .val (.int p5), .val (.int (1 : Int32)), .val (.ref b101), .val (.ref b102), .unset, .unset, .unset, .unset, .unset, .unset, .unset, .unset] [(.int (p3 &&& (255 : Int32)))])) _
    refine XS.i2c X102.here hx rfl (hb hby at_37) rfl ?_
    show Steps p.tables e below (T102.setTop (mkF m 38 #[.val (.int p0), .val (.int p1), .val (.int p2), .val (.int p3), .val (.int p4), .val (.int p5), .val (.int (1 : Int32)), .val (.ref b101), .val (.ref b102), .unset, .unset, .unset, .unset, .unset, .unset, .unset, .unset] [(.int ((p3 &&& (255 : Int32)).toUInt32.toUInt16.toUInt32.toInt32))])) _
    refine st103 _ ?_
    show Steps p.tables e below (T103.setTop (mkF m 41 #[.val (.int p0), .val (.int p1), .val (.int p2), .val (.int p3), .val (.int p4), .val (.int p5), .val (.int (1 : Int32)), .val (.ref b101), .val (.ref b102), .unset, .unset, .unset, .unset, .unset, .unset, .unset, .unset] [(.ref b103)])) _
    refine XS.astore X103.here hx rfl (hb hby at_41) rfl rfl (l' := #[.val (.int p0), .val (.int p1), .val (.int p2), .val (.int p3), .val (.int p4), .val (.int p5), .val (.int (1 : Int32)), .val (.ref b101), .val (.ref b102), .val (.ref b103), .unset, .unset, .unset, .unset, .unset, .unset, .unset]) rfl ?_
    show Steps p.tables e below (T103.setTop (mkF m 43 #[.val (.int p0), .val (.int p1), .val (.int p2), .val (.int p3), .val (.int p4), .val (.int p5), .val (.int (1 : Int32)), .val (.ref b101), .val (.ref b102), .val (.ref b103), .unset, .unset, .unset, .unset, .unset, .unset, .unset] [])) _
    refine XS.iload X103.here hx rfl (hb hby at_43) rfl ?_
    show Steps p.tables e below (T103.setTop (mkF m 45 #[.val (.int p0), .val (.int p1), .val (.int p2), .val (.int p3), .val (.int p4), .val (.int p5), .val (.int (1 : Int32)), .val (.ref b101), .val (.ref b102), .val (.ref b103), .unset, .unset, .unset, .unset, .unset, .unset, .unset] [(.int p4)])) _
    refine XS.sipush X103.here hx rfl (hb hby at_45) ?_
    show Steps p.tables e below (T103.setTop (mkF m 48 #[.val (.int p0), .val (.int p1), .val (.int p2), .val (.int p3), .val (.int p4), .val (.int p5), .val (.int (1 : Int32)), .val (.ref b101), .val (.ref b102), .val (.ref b103), .unset, .unset, .unset, .unset, .unset, .unset, .unset] [(.int (255 : Int32)), (.int p4)])) _
    refine XS.iand X103.here hx rfl (hb hby at_48) rfl ?_
    show Steps p.tables e below (T103.setTop (mkF m 49 #[.val (.int p0), .val (.int p1), .val (.int p2), .val (.int p3), .val (.int p4), .val (.int p5), .val (.int (1 : Int32)), .val (.ref b101), .val (.ref b102), .val (.ref b103), .unset, .unset, .unset, .unset, .unset, .unset, .unset] [(.int (p4 &&& (255 : Int32)))])) _
    refine XS.i2c X103.here hx rfl (hb hby at_49) rfl ?_
    show Steps p.tables e below (T103.setTop (mkF m 50 #[.val (.int p0), .val (.int p1), .val (.int p2), .val (.int p3), .val (.int p4), .val (.int p5), .val (.int (1 : Int32)), .val (.ref b101), .val (.ref b102), .val (.ref b103), .unset, .unset, .unset, .unset, .unset, .unset, .unset] [(.int ((p4 &&& (255 : Int32)).toUInt32.toUInt16.toUInt32.toInt32))])) _
    refine st105 _ ?_
    show Steps p.tables e below (T105.setTop (mkF m 53 #[.val (.int p0), .val (.int p1), .val (.int p2), .val (.int p3), .val (.int p4), .val (.int p5), .val (.int (1 : Int32)), .val (.ref b101), .val (.ref b102), .val (.ref b103), .unset, .unset, .unset, .unset, .unset, .unset, .unset] [(.ref b105)])) _
    refine XS.astore X105.here hx rfl (hb hby at_53) rfl rfl (l' := #[.val (.int p0), .val (.int p1), .val (.int p2), .val (.int p3), .val (.int p4), .val (.int p5), .val (.int (1 : Int32)), .val (.ref b101), .val (.ref b102), .val (.ref b103), .val (.ref b105), .unset, .unset, .unset, .unset, .unset, .unset]) rfl ?_
    show Steps p.tables e below (T105.setTop (mkF m 55 #[.val (.int p0), .val (.int p1), .val (.int p2), .val (.int p3), .val (.int p4), .val (.int p5), .val (.int (1 : Int32)), .val (.ref b101), .val (.ref b102), .val (.ref b103), .val (.ref b105), .unset, .unset, .unset, .unset, .unset, .unset] [])) _
    refine XS.iload X105.here hx rfl (hb hby at_55) rfl ?_
    show Steps p.tables e below (T105.setTop (mkF m 57 #[.val (.int p0), .val (.int p1), .val (.int p2), .val (.int p3), .val (.int p4), .val (.int p5), .val (.int (1 : Int32)), .val (.ref b101), .val (.ref b102), .val (.ref b103), .val (.ref b105), .unset, .unset, .unset, .unset, .unset, .unset] [(.int p5)])) _
    refine XS.sipush X105.here hx rfl (hb hby at_57) ?_
    show Steps p.tables e below (T105.setTop (mkF m 60 #[.val (.int p0), .val (.int p1), .val (.int p2), .val (.int p3), .val (.int p4), .val (.int p5), .val (.int (1 : Int32)), .val (.ref b101), .val (.ref b102), .val (.ref b103), .val (.ref b105), .unset, .unset, .unset, .unset, .unset, .unset] [(.int (255 : Int32)), (.int p5)])) _
    refine XS.iand X105.here hx rfl (hb hby at_60) rfl ?_
    show Steps p.tables e below (T105.setTop (mkF m 61 #[.val (.int p0), .val (.int p1), .val (.int p2), .val (.int p3), .val (.int p4), .val (.int p5), .val (.int (1 : Int32)), .val (.ref b101), .val (.ref b102), .val (.ref b103), .val (.ref b105), .unset, .unset, .unset, .unset, .unset, .unset] [(.int (p5 &&& (255 : Int32)))])) _
    refine XS.i2c X105.here hx rfl (hb hby at_61) rfl ?_
    show Steps p.tables e below (T105.setTop (mkF m 62 #[.val (.int p0), .val (.int p1), .val (.int p2), .val (.int p3), .val (.int p4), .val (.int p5), .val (.int (1 : Int32)), .val (.ref b101), .val (.ref b102), .val (.ref b103), .val (.ref b105), .unset, .unset, .unset, .unset, .unset, .unset] [(.int ((p5 &&& (255 : Int32)).toUInt32.toUInt16.toUInt32.toInt32))])) _
    refine st108 _ ?_
    show Steps p.tables e below (T108.setTop (mkF m 65 #[.val (.int p0), .val (.int p1), .val (.int p2), .val (.int p3), .val (.int p4), .val (.int p5), .val (.int (1 : Int32)), .val (.ref b101), .val (.ref b102), .val (.ref b103), .val (.ref b105), .unset, .unset, .unset, .unset, .unset, .unset] [(.ref b108)])) _
    refine XS.astore X108.here hx rfl (hb hby at_65) rfl rfl (l' := #[.val (.int p0), .val (.int p1), .val (.int p2), .val (.int p3), .val (.int p4), .val (.int p5), .val (.int (1 : Int32)), .val (.ref b101), .val (.ref b102), .val (.ref b103), .val (.ref b105), .val (.ref b108), .unset, .unset, .unset, .unset, .unset]) rfl ?_
    show Steps p.tables e below (T108.setTop (mkF m 67 #[.val (.int p0), .val (.int p1), .val (.int p2), .val (.int p3), .val (.int p4), .val (.int p5), .val (.int (1 : Int32)), .val (.ref b101), .val (.ref b102), .val (.ref b103), .val (.ref b105), .val (.ref b108), .unset, .unset, .unset, .unset, .unset] [])) _
    refine XS.iload X108.here hx rfl (hb hby at_67) rfl ?_
    show Steps p.tables e below (T108.setTop (mkF m 69 #[.val (.int p0), .val (.int p1), .val (.int p2), .val (.int p3), .val (.int p4), .val (.int p5), .val (.int (1 : Int32)), .val (.ref b101), .val (.ref b102), .val (.ref b103), .val (.ref b105), .val (.ref b108), .unset, .unset, .unset, .unset, .unset] [(.int (1 : Int32))])) _
    refine XS.aload X108.here hx rfl (hb hby at_69) rfl rfl ?_
    show Steps p.tables e below (T108.setTop (mkF m 71 #[.val (.int p0), .val (.int p1), .val (.int p2), .val (.int p3), .val (.int p4), .val (.int p5), .val (.int (1 : Int32)), .val (.ref b101), .val (.ref b102), .val (.ref b103), .val (.ref b105), .val (.ref b108), .unset, .unset, .unset, .unset, .unset] [(.ref b101), (.int (1 : Int32))])) _
    refine XS.aload X108.here hx rfl (hb hby at_71) rfl rfl ?_
    show Steps p.tables e below (T108.setTop (mkF m 73 #[.val (.int p0), .val (.int p1), .val (.int p2), .val (.int p3), .val (.int p4), .val (.int p5), .val (.int (1 : Int32)), .val (.ref b101), .val (.ref b102), .val (.ref b103), .val (.ref b105), .val (.ref b108), .unset, .unset, .unset, .unset, .unset] [(.ref b102), (.ref b101), (.int (1 : Int32))])) _
    refine XS.aload X108.here hx rfl (hb hby at_73) rfl rfl ?_
    show Steps p.tables e below (T108.setTop (mkF m 75 #[.val (.int p0), .val (.int p1), .val (.int p2), .val (.int p3), .val (.int p4), .val (.int p5), .val (.int (1 : Int32)), .val (.ref b101), .val (.ref b102), .val (.ref b103), .val (.ref b105), .val (.ref b108), .unset, .unset, .unset, .unset, .unset] [(.ref b103), (.ref b102), (.ref b101), (.int (1 : Int32))])) _
    refine XS.aload X108.here hx rfl (hb hby at_75) rfl rfl ?_
    show Steps p.tables e below (T108.setTop (mkF m 77 #[.val (.int p0), .val (.int p1), .val (.int p2), .val (.int p3), .val (.int p4), .val (.int p5), .val (.int (1 : Int32)), .val (.ref b101), .val (.ref b102), .val (.ref b103), .val (.ref b105), .val (.ref b108), .unset, .unset, .unset, .unset, .unset] [(.ref b105), (.ref b103), (.ref b102), (.ref b101), (.int (1 : Int32))])) _
    refine XS.aload X108.here hx rfl (hb hby at_77) rfl rfl ?_
    show Steps p.tables e below (T108.setTop (mkF m 79 #[.val (.int p0), .val (.int p1), .val (.int p2), .val (.int p3), .val (.int p4), .val (.int p5), .val (.int (1 : Int32)), .val (.ref b101), .val (.ref b102), .val (.ref b103), .val (.ref b105), .val (.ref b108), .unset, .unset, .unset, .unset, .unset] [(.ref b108), (.ref b105), (.ref b103), (.ref b102), (.ref b101), (.int (1 : Int32))])) _
    refine st116 _ ?_
    show Steps p.tables e below (T116.setTop (mkF m 82 #[.val (.int p0), .val (.int p1), .val (.int p2), .val (.int p3), .val (.int p4), .val (.int p5), .val (.int (1 : Int32)), .val (.ref b101), .val (.ref b102), .val (.ref b103), .val (.ref b105), .val (.ref b108), .unset, .unset, .unset, .unset, .unset] [(.ref b116)])) _
    refine XS.astore X116.here hx rfl (hb hby at_82) rfl rfl (l' := #[.val (.int p0), .val (.int p1), .val (.int p2), .val (.int p3), .val (.int p4), .val (.int p5), .val (.int (1 : Int32)), .val (.ref b101), .val (.ref b102), .val (.ref b103), .val (.ref b105), .val (.ref b108), .val (.ref b116), .unset, .unset, .unset, .unset]) rfl ?_
    show Steps p.tables e below (T116.setTop (mkF m 84 #[.val (.int p0), .val (.int p1), .val (.int p2), .val (.int p3), .val (.int p4), .val (.int p5), .val (.int (1 : Int32)), .val (.ref b101), .val (.ref b102), .val (.ref b103), .val (.ref b105), .val (.ref b108), .val (.ref b116), .unset, .unset, .unset, .unset] [])) _
    refine st117 _ ?_
    show Steps p.tables e below (T117.setTop (mkF m 87 #[.val (.int p0), .val (.int p1), .val (.int p2), .val (.int p3), .val (.int p4), .val (.int p5), .val (.int (1 : Int32)), .val (.ref b101), .val (.ref b102), .val (.ref b103), .val (.ref b105), .val (.ref b108), .val (.ref b116), .unset, .unset, .unset, .unset] [(.ref b117)])) _
    refine XS.dup X117.here hx rfl (hb hby at_87) rfl rfl ?_
    show Steps p.tables e below (T117.setTop (mkF m 88 #[.val (.int p0), .val (.int p1), .val (.int p2), .val (.int p3), .val (.int p4), .val (.int p5), .val (.int (1 : Int32)), .val (.ref b101), .val (.ref b102), .val (.ref b103), .val (.ref b105), .val (.ref b108), .val (.ref b116), .unset, .unset, .unset, .unset] [(.ref b117), (.ref b117)])) _
    refine XS.aload X117.here hx rfl (hb hby at_88) rfl rfl ?_
    show Steps p.tables e below (T117.setTop (mkF m 90 #[.val (.int p0), .val (.int p1), .val (.int p2), .val (.int p3), .val (.int p4), .val (.int p5), .val (.int (1 : Int32)), .val (.ref b101), .val (.ref b102), .val (.ref b103), .val (.ref b105), .val (.ref b108), .val (.ref b116), .unset, .unset, .unset, .unset] [(.ref b116), (.ref b117), (.ref b117)])) _
    refine st123.trans ?_
    show Steps p.tables e below (T123.setTop (mkF m 93 #[.val (.int p0), .val (.int p1), .val (.int p2), .val (.int p3), .val (.int p4), .val (.int p5), .val (.int (1 : Int32)), .val (.ref b101), .val (.ref b102), .val (.ref b103), .val (.ref b105), .val (.ref b108), .val (.ref b116), .unset, .unset, .unset, .unset] [(.ref b117)])) _
    refine XS.astore X123.here hx rfl (hb hby at_93) rfl rfl (l' := #[.val (.int p0), .val (.int p1), .val (.int p2), .val (.int p3), .val (.int p4), .val (.int p5), .val (.int (1 : Int32)), .val (.ref b101), .val (.ref b102), .val (.ref b103), .val (.ref b105), .val (.ref b108), .val (.ref b116), .val (.ref b117), .unset, .unset, .unset]) rfl ?_
    show Steps p.tables e below (T123.setTop (mkF m 95 #[.val (.int p0), .val (.int p1), .val (.int p2), .val (.int p3), .val (.int p4), .val (.int p5), .val (.int (1 : Int32)), .val (.ref b101), .val (.ref b102), .val (.ref b103), .val (.ref b105), .val (.ref b108), .val (.ref b116), .val (.ref b117), .unset, .unset, .unset] [])) _
    refine XS.aload X123.here hx rfl (hb hby at_95) rfl rfl ?_
    show Steps p.tables e below (T123.setTop (mkF m 97 #[.val (.int p0), .val (.int p1), .val (.int p2), .val (.int p3), .val (.int p4), .val (.int p5), .val (.int (1 : Int32)), .val (.ref b101), .val (.ref b102), .val (.ref b103), .val (.ref b105), .val (.ref b108), .val (.ref b116), .val (.ref b117), .unset, .unset, .unset] [(.ref b117)])) _
    refine st125.trans ?_
    show Steps p.tables e below (T125.setTop (mkF m 100 #[.val (.int p0), .val (.int p1), .val (.int p2), .val (.int p3), .val (.int p4), .val (.int p5), .val (.int (1 : Int32)), .val (.ref b101), .val (.ref b102), .val (.ref b103), .val (.ref b105), .val (.ref b108), .val (.ref b116), .val (.ref b117), .unset, .unset, .unset] [(.int (1 : Int32))])) _
    refine XS.ifYes X125.here hx rfl (pc0 := 100) (pc' := 105) rfl (hb hby at_100) rfl ((if0 _ _).trans (feq (by decide : ¬ (1 : Int32) = (0 : Int32))).2) (by decide) (by decide) ?_
    show Steps p.tables e below (T125.setTop (mkF m 105 #[.val (.int p0), .val (.int p1), .val (.int p2), .val (.int p3), .val (.int p4), .val (.int p5), .val (.int (1 : Int32)), .val (.ref b101), .val (.ref b102), .val (.ref b103), .val (.ref b105), .val (.ref b108), .val (.ref b116), .val (.ref b117), .unset, .unset, .unset] [])) _
    refine XS.aload X125.here hx rfl (hb hby at_105) rfl rfl ?_
    show Steps p.tables e below (T125.setTop (mkF m 107 #[.val (.int p0), .val (.int p1), .val (.int p2), .val (.int p3), .val (.int p4), .val (.int p5), .val (.int (1 : Int32)), .val (.ref b101), .val (.ref b102), .val (.ref b103), .val (.ref b105), .val (.ref b108), .val (.ref b116), .val (.ref b117), .unset, .unset, .unset] [(.ref b117)])) _
    refine st126.trans ?_
    show Steps p.tables e below (T126.setTop (mkF m 110 #[.val (.int p0), .val (.int p1), .val (.int p2), .val (.int p3), .val (.int p4), .val (.int p5), .val (.int (1 : Int32)), .val (.ref b101), .val (.ref b102), .val (.ref b103), .val (.ref b105), .val (.ref b108), .val (.ref b116), .val (.ref b117), .unset, .unset, .unset] [(.ref b101)])) _
    refine XS.astore X126.here hx rfl (hb hby at_110) rfl rfl (l' := #[.val (.int p0), .val (.int p1), .val (.int p2), .val (.int p3), .val (.int p4), .val (.int p5), .val (.int (1 : Int32)), .val (.ref b101), .val (.ref b102), .val (.ref b103), .val (.ref b105), .val (.ref b108), .val (.ref b116), .val (.ref b117), .val (.ref b101), .unset, .unset]) rfl ?_
    show Steps p.tables e below (T126.setTop (mkF m 112 #[.val (.int p0), .val (.int p1), .val (.int p2), .val (.int p3), .val (.int p4), .val (.int p5), .val (.int (1 : Int32)), .val (.ref b101), .val (.ref b102), .val (.ref b103), .val (.ref b105), .val (.ref b108), .val (.ref b116), .val (.ref b117), .val (.ref b101), .unset, .unset] [])) _
    refine XS.aload X126.here hx rfl (hb hby at_112) rfl rfl ?_
    show Steps p.tables e below (T126.setTop (mkF m 114 #[.val (.int p0), .val (.int p1), .val (.int p2), .val (.int p3), .val (.int p4), .val (.int p5), .val (.int (1 : Int32)), .val (.ref b101), .val (.ref b102), .val (.ref b103), .val (.ref b105), .val (.ref b108), .val (.ref b116), .val (.ref b117), .val (.ref b101), .unset, .unset] [(.ref b101)])) _
    refine XS.aload X126.here hx rfl (hb hby at_114) rfl rfl ?_
    show Steps p.tables e below (T126.setTop (mkF m 116 #[.val (.int p0), .val (.int p1), .val (.int p2), .val (.int p3), .val (.int p4), .val (.int p5), .val (.int (1 : Int32)), .val (.ref b101), .val (.ref b102), .val (.ref b103), .val (.ref b105), .val (.ref b108), .val (.ref b116), .val (.ref b117), .val (.ref b101), .unset, .unset] [(.ref b101), (.ref b101)])) _
    refine st127.trans ?_
    show Steps p.tables e below (T127.setTop (mkF m 119 #[.val (.int p0), .val (.int p1), .val (.int p2), .val (.int p3), .val (.int p4), .val (.int p5), .val (.int (1 : Int32)), .val (.ref b101), .val (.ref b102), .val (.ref b103), .val (.ref b105), .val (.ref b108), .val (.ref b116), .val (.ref b117), .val (.ref b101), .unset, .unset] [(.int (1 : Int32))])) _
    refine XS.ifYes X127.here hx rfl (pc0 := 119) (pc' := 124) rfl (hb hby at_119) rfl ((if0 _ _).trans (feq (by decide : ¬ (1 : Int32) = (0 : Int32))).2) (by decide) (by decide) ?_
    show Steps p.tables e below (T127.setTop (mkF m 124 #[.val (.int p0), .val (.int p1), .val (.int p2), .val (.int p3), .val (.int p4), .val (.int p5), .val (.int (1 : Int32)), .val (.ref b101), .val (.ref b102), .val (.ref b103), .val (.ref b105), .val (.ref b108), .val (.ref b116), .val (.ref b117), .val (.ref b101), .unset, .unset] [])) _
    refine XS.aload X127.here hx rfl (hb hby at_124) rfl rfl ?_
    show Steps p.tables e below (T127.setTop (mkF m 126 #[.val (.int p0), .val (.int p1), .val (.int p2), .val (.int p3), .val (.int p4), .val (.int p5), .val (.int (1 : Int32)), .val (.ref b101), .val (.ref b102), .val (.ref b103), .val (.ref b105), .val (.ref b108), .val (.ref b116), .val (.ref b117), .val (.ref b101), .unset, .unset] [(.ref b117)])) _
    refine st130.trans ?_
    show Steps p.tables e below (T130.setTop (mkF m 129 #[.val (.int p0), .val (.int p1), .val (.int p2), .val (.int p3), .val (.int p4), .val (.int p5), .val (.int (1 : Int32)), .val (.ref b101), .val (.ref b102), .val (.ref b103), .val (.ref b105), .val (.ref b108), .val (.ref b116), .val (.ref b117), .val (.ref b101), .unset, .unset] [(.int (0 : Int32))])) _
    refine XS.iload X130.here hx rfl (hb hby at_129) rfl ?_
    show Steps p.tables e below (T130.setTop (mkF m 131 #[.val (.int p0), .val (.int p1), .val (.int p2), .val (.int p3), .val (.int p4), .val (.int p5), .val (.int (1 : Int32)), .val (.ref b101), .val (.ref b102), .val (.ref b103), .val (.ref b105), .val (.ref b108), .val (.ref b116), .val (.ref b117), .val (.ref b101), .unset, .unset] [(.int (1 : Int32)), (.int (0 : Int32))])) _
    refine XS.iconst X130.here hx rfl (hb hby at_131) ?_
    show Steps p.tables e below (T130.setTop (mkF m 132 #[.val (.int p0), .val (.int p1), .val (.int p2), .val (.int p3), .val (.int p4), .val (.int p5), .val (.int (1 : Int32)), .val (.ref b101), .val (.ref b102), .val (.ref b103), .val (.ref b105), .val (.ref b108), .val (.ref b116), .val (.ref b117), .val (.ref b101), .unset, .unset] [(.int (2 : Int32)), (.int (1 : Int32)), (.int (0 : Int32))])) _
    refine XS.icmpYes X130.here hx rfl (pc0 := 132) (pc' := 139) rfl (hb hby at_132) rfl (flt (by decide : ¬ (2 : Int32) < (1 : Int32))).2.2.2 (by decide) (by decide) ?_
    show Steps p.tables e below (T130.setTop (mkF m 139 #[.val (.int p0), .val (.int p1), .val (.int p2), .val (.int p3), .val (.int p4), .val (.int p5), .val (.int (1 : Int32)), .val (.ref b101), .val (.ref b102), .val (.ref b103), .val (.ref b105), .val (.ref b108), .val (.ref b116), .val (.ref b117), .val (.ref b101), .unset, .unset] [(.int (0 : Int32))])) _
    refine XS.iconst X130.here hx rfl (hb hby at_139) ?_
    show Steps p.tables e below (T130.setTop (mkF m 140 #[.val (.int p0), .val (.int p1), .val (.int p2), .val (.int p3), .val (.int p4), .val (.int p5), .val (.int (1 : Int32)), .val (.ref b101), .val (.ref b102), .val (.ref b103), .val (.ref b105), .val (.ref b108), .val (.ref b116), .val (.ref b117), .val (.ref b101), .unset, .unset] [(.int (0 : Int32)), (.int (0 : Int32))])) _
    refine XS.icmpYes X130.here hx rfl (pc0 := 140) (pc' := 145) rfl (hb hby at_140) rfl (teq rfl).1 (by decide) (by decide) ?_
    show Steps p.tables e below (T130.setTop (mkF m 145 #[.val (.int p0), .val (.int p1), .val (.int p2), .val (.int p3), .val (.int p4), .val (.int p5), .val (.int (1 : Int32)), .val (.ref b101), .val (.ref b102), .val (.ref b103), .val (.ref b105), .val (.ref b108), .val (.ref b116), .val (.ref b117), .val (.ref b101), .unset, .unset] [])) _
    refine XS.iload X130.here hx rfl (hb hby at_145) rfl ?_
    show Steps p.tables e below (T130.setTop (mkF m 147 #[.val (.int p0), .val (.int p1), .val (.int p2), .val (.int p3), .val (.int p4), .val (.int p5), .val (.int (1 : Int32)), .val (.ref b101), .val (.ref b102), .val (.ref b103), .val (.ref b105), .val (.ref b108), .val (.ref b116), .val (.ref b117), .val (.ref b101), .unset, .unset] [(.int (1 : Int32))])) _
    refine XS.iconst X130.here hx rfl (hb hby at_147) ?_
    show Steps p.tables e below (T130.setTop (mkF m 148 #[.val (.int p0), .val (.int p1), .val (.int p2), .val (.int p3), .val (.int p4), .val (.int p5), .val (.int (1 : Int32)), .val (.ref b101), .val (.ref b102), .val (.ref b103), .val (.ref b105), .val (.ref b108), .val (.ref b116), .val (.ref b117), .val (.ref b101), .unset, .unset] [(.int (2 : Int32)), (.int (1 : Int32))])) _
    refine XS.icmpYes X130.here hx rfl (pc0 := 148) (pc' := 166) rfl (hb hby at_148) rfl (tlt (by decide : (1 : Int32) < (2 : Int32))).1 (by decide) (by decide) ?_
    show Steps p.tables e below (T130.setTop (mkF m 166 #[.val (.int p0), .val (.int p1), .val (.int p2), .val (.int p3), .val (.int p4), .val (.int p5), .val (.int (1 : Int32)), .val (.ref b101), .val (.ref b102), .val (.ref b103), .val (.ref b105), .val (.ref b108), .val (.ref b116), .val (.ref b117), .val (.ref b101), .unset, .unset] [])) _
    refine XS.iload X130.here hx rfl (hb hby at_166) rfl ?_
    show Steps p.tables e below (T130.setTop (mkF m 168 #[.val (.int p0), .val (.int p1), .val (.int p2), .val (.int p3), .val (.int p4), .val (.int p5), .val (.int (1 : Int32)), .val (.ref b101), .val (.ref b102), .val (.ref b103), .val (.ref b105), .val (.ref b108), .val (.ref b116), .val (.ref b117), .val (.ref b101), .unset, .unset] [(.int (1 : Int32))])) _
    refine XS.iconst X130.here hx rfl (hb hby at_168) ?_
    show Steps p.tables e below (T130.setTop (mkF m 169 #[.val (.int p0), .val (.int p1), .val (.int p2), .val (.int p3), .val (.int p4), .val (.int p5), .val (.int (1 : Int32)), .val (.ref b101), .val (.ref b102), .val (.ref b103), .val (.ref b105), .val (.ref b108), .val (.ref b116), .val (.ref b117), .val (.ref b101), .unset, .unset] [(.int (3 : Int32)), (.int (1 : Int32))])) _
    refine XS.icmpNo X130.here hx rfl (hb hby at_169) rfl (tlt (by decide : (1 : Int32) < (3 : Int32))).2.1 ?_
    show Steps p.tables e below (T130.setTop (mkF m 172 #[.val (.int p0), .val (.int p1), .val (.int p2), .val (.int p3), .val (.int p4), .val (.int p5), .val (.int (1 : Int32)), .val (.ref b101), .val (.ref b102), .val (.ref b103), .val (.ref b105), .val (.ref b108), .val (.ref b116), .val (.ref b117), .val (.ref b101), .unset, .unset] [])) _
    refine XS.iconst X130.here hx rfl (hb hby at_172) ?_
    show Steps p.tables e below (T130.setTop (mkF m 173 #[.val (.int p0), .val (.int p1), .val (.int p2), .val (.int p3), .val (.int p4), .val (.int p5), .val (.int (1 : Int32)), .val (.ref b101), .val (.ref b102), .val (.ref b103), .val (.ref b105), .val (.ref b108), .val (.ref b116), .val (.ref b117), .val (.ref b101), .unset, .unset] [(.int (1 : Int32))])) _
    exact retN X130 hx (t := .boolean) Bd.returns (by simp) (hb hby at_173) hr
  · show QLaw n0 _ T130.heap _
    rw [e130]
    exact ⟨rfl, N130⟩
set_option maxRecDepth 65536 in
set_option maxHeartbeats 40000000 in
theorem rm0_2 (l : Launch) (Z : State) (a0 : Array Value) (hw : ∀ d ∈ tables_1, d.before a0 Z = true) (ws : List Jvm.Cond) (p0 : Int32) (p1 : Int32) (p2 : Int32) (p3 : Int32) (p4 : Int32) (p5 : Int32) (cs : Int32) (h0 : Heap) (n0 : Nat) (Z0 : n0 ≤ h0.size) (Sc : Sta Z Z.heap "java/lang/String" "COMPACT_STRINGS" "Z" (.int cs)) (hcs : ¬ (cs = (0 : Int32))) (O0 : Old Z n0 h0) (hN : (((p0 &&& (2147483647 : Int32)) % (5 : Int32)) + (1 : Int32)) = (2 : Int32)) :
    MetFree l x (head1 (Jvm.Cond.code x code maxLocals ret :: ws) room_1) (fun a U => a = #[(.int p0), (.int p1), (.int p2), (.int p3), (.int p4), (.int p5)] ∧ Z.Warmed39 U.vm ∧ U.heap = h0) (fun _ _ _ _ _ => True) (fun _ U o U' => ∃ v L, o = .returned v ∧ QLaw n0 v U'.heap L ∧ FrameEnd U o U' L room_1.cells room_1.slots) := by
  refine MetFree.of_bodySF (plainFor_of_name own_pn2) hisR ?_
  intro p e s m args below meth c s₁ Bd hml0 hP hK
  obtain ⟨rfl, hZ, hh⟩ := hP
  have hx := Bd.exec
  have hby := Bd.bytes
  have hml : c.maxLocals = 17 := hml0
  have hown : s.vm.findClass "com/example/seglport/seglport/options/OptionReaderNextPinLaw" = some m.cls := findClass_of_methodNamed Bd.named
  have hnm := (name_of_methodNamed Bd.named Bd.method).1
  have X0 : Stand p l e room_1 s m #[(.int p0), (.int p1), (.int p2), (.int p3), (.int p4), (.int p5)] below meth c s₁ [] 0 0 := Stand.of_body Bd
  have e0 : s₁.heap = h0 := by rw [← hh, Bd.state]; rfl
  have N0 := Fr.nil n0
  have ef : entryFrame m #[(.int p0), (.int p1), (.int p2), (.int p3), (.int p4), (.int p5)] maxLocals = mkF m 0 #[.val (.int p0), .val (.int p1), .val (.int p2), .val (.int p3), .val (.int p4), .val (.int p5), .unset, .unset, .unset, .unset, .unset, .unset, .unset, .unset, .unset, .unset, .unset] [] := by first | (simp [entryFrame, mkF, argsToLocals, Value.category, maxLocals]; done) | rfl
  have pre0 : ∀ t, Steps p.tables e below (s₁.setTop (mkF m 0 #[.val (.int p0), .val (.int p1), .val (.int p2), .val (.int p3), .val (.int p4), .val (.int p5), .unset, .unset, .unset, .unset, .unset, .unset, .unset, .unset, .unset, .unset, .unset] [])) t → Steps p.tables e below (s₁.setTop (entryFrame m #[(.int p0), (.int p1), (.int p2), (.int p3), (.int p4), (.int p5)] maxLocals)) t := fun t k => castTop ef k
  obtain ⟨_, _, ⟨T101, L101, k101, n101⟩, -, X101, ⟨Lc101, hQ101, l101, y101, z101⟩, st101⟩ := Jvm.LawKit.callS X0 hx (y := (⟨"java/lang/String", "valueOf", "(C)Ljava/lang/String;"⟩ : MethodName)) hown (mvT hZ (hw _ (List.mem_of_getElem? (i := 1) rfl))) (mvT hZ (hw _ (List.mem_of_getElem? (i := 2) rfl))) (mvT hZ (hw _ (List.mem_of_getElem? (i := 3) rfl))) (mvT hZ (hw _ (List.mem_of_getElem? (i := 4) rfl))) (by decide) (backOf (W := 0) (rm_val l Z a0 hw [] ((p1 &&& (255 : Int32)).toUInt32.toUInt16.toUInt32.toInt32) cs h0 n0 Z0 Sc hcs O0 (own_c _)) hZ (hw _ (List.mem_of_getElem? (i := 4) rfl)) (hw _ (List.mem_of_getElem? (i := 3) rfl)) (by decide) (by decide)) (g := (mkF m 16 #[.val (.int p0), .val (.int p1), .val (.int p2), .val (.int p3), .val (.int p4), .val (.int p5), .val (.int (2 : Int32)), .unset, .unset, .unset, .unset, .unset, .unset, .unset, .unset, .unset, .unset] [(.int ((p1 &&& (255 : Int32)).toUInt32.toUInt16.toUInt32.toInt32))])) rfl (by rw [hml]; rfl) (argsL := [(.int ((p1 &&& (255 : Int32)).toUInt32.toUInt16.toUInt32.toInt32))]) (rest := []) (lenOf own_pd3 rfl) rfl (by show 2 * 0 + _ ≤ _; exact Nat.le_of_eq rfl) (hb hby at_16) (fun _ _ => ⟨rfl, e0, (by decide : 0 + 2 ≤ _), (by decide : 0 + 5 ≤ _)⟩)
  dsimp only [Pt.U, Pt.locs, Pt.cells, Pt.slots] at X101 l101 y101 z101 st101 hQ101
  subst l101 y101 z101
  obtain ⟨b101, rfl, Nq101, K101, by_b101, Ex101⟩ := hQ101
  have g_b101 : n0 ≤ b101 := Nat.le_trans Z0 by_b101
  have sz_b101 : h0.size ≤ b101 := Nat.le_trans (Keep.refl h0 []).1 by_b101
  have Z101 : n0 ≤ T101.heap.size := Nat.le_trans Z0 K101.1
  have KC101 : Keep h0 T101.heap [] := (Keep.refl h0 []).trans K101 all0
  have N101 := Fr.app N0 Nq101
  obtain ⟨_, _, ⟨T102, L102, k102, n102⟩, -, X102, ⟨Lc102, hQ102, l102, y102, z102⟩, st102⟩ := Jvm.LawKit.callS X101 hx (y := (⟨"java/lang/String", "valueOf", "(C)Ljava/lang/String;"⟩ : MethodName)) hown (mvT hZ (hw _ (List.mem_of_getElem? (i := 1) rfl))) (mvT hZ (hw _ (List.mem_of_getElem? (i := 2) rfl))) (mvT hZ (hw _ (List.mem_of_getElem? (i := 3) rfl))) (mvT hZ (hw _ (List.mem_of_getElem? (i := 4) rfl))) (by decide) (backOf (W := 0) (rm_val l Z a0 hw [] ((p2 &&& (255 : Int32)).toUInt32.toUInt16.toUInt32.toInt32) cs T101.heap n0 Z101 Sc hcs (O0.keep K101 all0) (own_c _)) hZ (hw _ (List.mem_of_getElem? (i := 4) rfl)) (hw _ (List.mem_of_getElem? (i := 3) rfl)) (by decide) (by decide)) (g := (mkF m 27 #[.val (.int p0), .val (.int p1), .val (.int p2), .val (.int p3), .val (.int p4), .val (.int p5), .val (.int (2 : Int32)), .val (.ref b101), .unset, .unset, .unset, .unset, .unset, .unset, .unset, .unset, .unset] [(.int ((p2 &&& (255 : Int32)).toUInt32.toUInt16.toUInt32.toInt32))])) rfl (by rw [hml]; rfl) (argsL := [(.int ((p2 &&& (255 : Int32)).toUInt32.toUInt16.toUInt32.toInt32))]) (rest := []) (lenOf own_pd3 rfl) rfl (by show 2 * 0 + _ ≤ _; exact Nat.le_of_eq rfl) (hb hby at_27) (fun _ _ => ⟨rfl, rfl, (by decide : 2 + 2 ≤ _), (by decide : 5 + 5 ≤ _)⟩)
  dsimp only [Pt.U, Pt.locs, Pt.cells, Pt.slots] at X102 l102 y102 z102 st102 hQ102
  subst l102 y102 z102
  obtain ⟨b102, rfl, Nq102, K102, by_b102, Ex102⟩ := hQ102
  have ne_b101_b102 : b101 ≠ b102 := Nat.ne_of_lt (Nat.lt_of_lt_of_le Ex101.lt by_b102)
  have g_b102 : n0 ≤ b102 := Nat.le_trans Z101 by_b102
  have sz_b102 : h0.size ≤ b102 := Nat.le_trans KC101.1 by_b102
  have Z102 : n0 ≤ T102.heap.size := Nat.le_trans Z101 K102.1
  have KC102 : Keep h0 T102.heap [] := KC101.trans K102 all0
  have N102 := Fr.app N101 Nq102
  obtain ⟨_, _, ⟨T103, L103, k103, n103⟩, -, X103, ⟨Lc103, hQ103, l103, y103, z103⟩, st103⟩ := Jvm.LawKit.callS X102 hx (y := (⟨"java/lang/String", "valueOf", "(C)Ljava/lang/String;"⟩ : MethodName)) hown (mvT hZ (hw _ (List.mem_of_getElem? (i := 1) rfl))) (mvT hZ (hw _ (List.mem_of_getElem? (i := 2) rfl))) (mvT hZ (hw _ (List.mem_of_getElem? (i := 3) rfl))) (mvT hZ (hw _ (List.mem_of_getElem? (i := 4) rfl))) (by decide) (backOf (W := 0) (rm_val l Z a0 hw [] ((p3 &&& (255 : Int32)).toUInt32.toUInt16.toUInt32.toInt32) cs T102.heap n0 Z102 Sc hcs ((O0.keep K101 all0).keep K102 all0) (own_c _)) hZ (hw _ (List.mem_of_getElem? (i := 4) rfl)) (hw _ (List.mem_of_getElem? (i := 3) rfl)) (by decide) (by decide)) (g := (mkF m 38 #[.val (.int p0), .val (.int p1), .val (.int p2), .val (.int p3), .val (.int p4), .val (.int p5), .val (.int (2 : Int32)), .val (.ref b101), .val (.ref b102), .unset, .unset, .unset, .unset, .unset, .unset, .unset, .unset] [(.int ((p3 &&& (255 : Int32)).toUInt32.toUInt16.toUInt32.toInt32))])) rfl (by rw [hml]; rfl) (argsL := [(.int ((p3 &&& (255 : Int32)).toUInt32.toUInt16.toUInt32.toInt32))]) (rest := []) (lenOf own_pd3 rfl) rfl (by show 2 * 0 + _ ≤ _; exact Nat.le_of_eq rfl) (hb hby at_38) (fun _ _ => ⟨rfl, rfl, (by decide : 4 + 2 ≤ _), (by decide : 10 + 5 ≤ _)⟩)
  dsimp only [Pt.U, Pt.locs, Pt.cells, Pt.slots] at X103 l103 y103 z103 st103 hQ103
  subst l103 y103 z103
  obtain ⟨b103, rfl, Nq103, K103, by_b103, Ex103⟩ := hQ103
  have f104 := (Ex101.keep K102)
  have ne_b101_b103 : b101 ≠ b103 := Nat.ne_of_lt (Nat.lt_of_lt_of_le f104.lt by_b103)
  have ne_b102_b103 : b102 ≠ b103 := Nat.ne_of_lt (Nat.lt_of_lt_of_le Ex102.lt by_b103)
  have g_b103 : n0 ≤ b103 := Nat.le_trans Z102 by_b103
  have sz_b103 : h0.size ≤ b103 := Nat.le_trans KC102.1 by_b103
  have Z103 : n0 ≤ T103.heap.size := Nat.le_trans Z102 K103.1
  have KC103 : Keep h0 T103.heap [] := KC102.trans K103 all0
  have N103 := Fr.app N102 Nq103
  obtain ⟨_, _, ⟨T105, L105, k105, n105⟩, -, X105, ⟨Lc105, hQ105, l105, y105, z105⟩, st105⟩ := Jvm.LawKit.callS X103 hx (y := (⟨"java/lang/String", "valueOf", "(C)Ljava/lang/String;"⟩ : MethodName)) hown (mvT hZ (hw _ (List.mem_of_getElem? (i := 1) rfl))) (mvT hZ (hw _ (List.mem_of_getElem? (i := 2) rfl))) (mvT hZ (hw _ (List.mem_of_getElem? (i := 3) rfl))) (mvT hZ (hw _ (List.mem_of_getElem? (i := 4) rfl))) (by decide) (backOf (W := 0) (rm_val l Z a0 hw [] ((p4 &&& (255 : Int32)).toUInt32.toUInt16.toUInt32.toInt32) cs T103.heap n0 Z103 Sc hcs (((O0.keep K101 all0).keep K102 all0).keep K103 all0) (own_c _)) hZ (hw _ (List.mem_of_getElem? (i := 4) rfl)) (hw _ (List.mem_of_getElem? (i := 3) rfl)) (by decide) (by decide)) (g := (mkF m 50 #[.val (.int p0), .val (.int p1), .val (.int p2), .val (.int p3), .val (.int p4), .val (.int p5), .val (.int (2 : Int32)), .val (.ref b101), .val (.ref b102), .val (.ref b103), .unset, .unset, .unset, .unset, .unset, .unset, .unset] [(.int ((p4 &&& (255 : Int32)).toUInt32.toUInt16.toUInt32.toInt32))])) rfl (by rw [hml]; rfl) (argsL := [(.int ((p4 &&& (255 : Int32)).toUInt32.toUInt16.toUInt32.toInt32))]) (rest := []) (lenOf own_pd3 rfl) rfl (by show 2 * 0 + _ ≤ _; exact Nat.le_of_eq rfl) (hb hby at_50) (fun _ _ => ⟨rfl, rfl, (by decide : 6 + 2 ≤ _), (by decide : 15 + 5 ≤ _)⟩)
  dsimp only [Pt.U, Pt.locs, Pt.cells, Pt.slots] at X105 l105 y105 z105 st105 hQ105
  subst l105 y105 z105
  obtain ⟨b105, rfl, Nq105, K105, by_b105, Ex105⟩ := hQ105
  have f106 := (f104.keep K103)
  have f107 := (Ex102.keep K103)
  have ne_b101_b105 : b101 ≠ b105 := Nat.ne_of_lt (Nat.lt_of_lt_of_le f106.lt by_b105)
  have ne_b102_b105 : b102 ≠ b105 := Nat.ne_of_lt (Nat.lt_of_lt_of_le f107.lt by_b105)
  have ne_b103_b105 : b103 ≠ b105 := Nat.ne_of_lt (Nat.lt_of_lt_of_le Ex103.lt by_b105)
  have g_b105 : n0 ≤ b105 := Nat.le_trans Z103 by_b105
  have sz_b105 : h0.size ≤ b105 := Nat.le_trans KC103.1 by_b105
  have Z105 : n0 ≤ T105.heap.size := Nat.le_trans Z103 K105.1
  have KC105 : Keep h0 T105.heap [] := KC103.trans K105 all0
  have N105 := Fr.app N103 Nq105
  obtain ⟨_, _, ⟨T108, L108, k108, n108⟩, -, X108, ⟨Lc108, hQ108, l108, y108, z108⟩, st108⟩ := Jvm.LawKit.callS X105 hx (y := (⟨"java/lang/String", "valueOf", "(C)Ljava/lang/String;"⟩ : MethodName)) hown (mvT hZ (hw _ (List.mem_of_getElem? (i := 1) rfl))) (mvT hZ (hw _ (List.mem_of_getElem? (i := 2) rfl))) (mvT hZ (hw _ (List.mem_of_getElem? (i := 3) rfl))) (mvT hZ (hw _ (List.mem_of_getElem? (i := 4) rfl))) (by decide) (backOf (W := 0) (rm_val l Z a0 hw [] ((p5 &&& (255 : Int32)).toUInt32.toUInt16.toUInt32.toInt32) cs T105.heap n0 Z105 Sc hcs ((((O0.keep K101 all0).keep K102 all0).keep K103 all0).keep K105 all0) (own_c _)) hZ (hw _ (List.mem_of_getElem? (i := 4) rfl)) (hw _ (List.mem_of_getElem? (i := 3) rfl)) (by decide) (by decide)) (g := (mkF m 62 #[.val (.int p0), .val (.int p1), .val (.int p2), .val (.int p3), .val (.int p4), .val (.int p5), .val (.int (2 : Int32)), .val (.ref b101), .val (.ref b102), .val (.ref b103), .val (.ref b105), .unset, .unset, .unset, .unset, .unset, .unset] [(.int ((p5 &&& (255 : Int32)).toUInt32.toUInt16.toUInt32.toInt32))])) rfl (by rw [hml]; rfl) (argsL := [(.int ((p5 &&& (255 : Int32)).toUInt32.toUInt16.toUInt32.toInt32))]) (rest := []) (lenOf own_pd3 rfl) rfl (by show 2 * 0 + _ ≤ _; exact Nat.le_of_eq rfl) (hb hby at_62) (fun _ _ => ⟨rfl, rfl, (by decide : 8 + 2 ≤ _), (by decide : 20 + 5 ≤ _)⟩)
  dsimp only [Pt.U, Pt.locs, Pt.cells, Pt.slots] at X108 l108 y108 z108 st108 hQ108
  subst l108 y108 z108
  obtain ⟨b108, rfl, Nq108, K108, by_b108, Ex108⟩ := hQ108
  have f109 := (f106.keep K105)
  have f110 := (f107.keep K105)
  have f111 := (Ex103.keep K105)
  have ne_b101_b108 : b101 ≠ b108 := Nat.ne_of_lt (Nat.lt_of_lt_of_le f109.lt by_b108)
  have ne_b102_b108 : b102 ≠ b108 := Nat.ne_of_lt (Nat.lt_of_lt_of_le f110.lt by_b108)
  have ne_b103_b108 : b103 ≠ b108 := Nat.ne_of_lt (Nat.lt_of_lt_of_le f111.lt by_b108)
  have ne_b105_b108 : b105 ≠ b108 := Nat.ne_of_lt (Nat.lt_of_lt_of_le Ex105.lt by_b108)
  have g_b108 : n0 ≤ b108 := Nat.le_trans Z105 by_b108
  have sz_b108 : h0.size ≤ b108 := Nat.le_trans KC105.1 by_b108
  have Z108 : n0 ≤ T108.heap.size := Nat.le_trans Z105 K108.1
  have KC108 : Keep h0 T108.heap [] := KC105.trans K108 all0
  have N108 := Fr.app N105 Nq108
  have f112 := (f109.keep K108)
  have f113 := (f110.keep K108)
  have f114 := (f111.keep K108)
  have f115 := (Ex105.keep K108)
  obtain ⟨_, _, ⟨T116, L116, k116, n116⟩, -, X116, ⟨Lc116, hQ116, l116, y116, z116⟩, st116⟩ := Jvm.LawKit.callS X108 hx (y := (⟨"com/example/seglport/seglport/options/OptionReaderNextPinLaw", "make", "(ILjava/lang/String;Ljava/lang/String;Ljava/lang/String;Ljava/lang/String;Ljava/lang/String;)[Ljava/lang/String;"⟩ : MethodName)) hown (mvT hZ (hw _ (List.mem_of_getElem? (i := 27) rfl))) (mvT hZ (hw _ (List.mem_of_getElem? (i := 28) rfl))) (mvT hZ (hw _ (List.mem_of_getElem? (i := 29) rfl))) (mvT hZ (hw _ (List.mem_of_getElem? (i := 30) rfl))) (by decide) (backOf (W := 0) (rm_make2 l Z a0 hw [] b101 b102 b103 b105 b108 T108.heap n0 Z108 f112 f113 f114 f115 Ex108) hZ (hw _ (List.mem_of_getElem? (i := 30) rfl)) (hw _ (List.mem_of_getElem? (i := 29) rfl)) (by decide) (by decide)) (g := (mkF m 79 #[.val (.int p0), .val (.int p1), .val (.int p2), .val (.int p3), .val (.int p4), .val (.int p5), .val (.int (2 : Int32)), .val (.ref b101), .val (.ref b102), .val (.ref b103), .val (.ref b105), .val (.ref b108), .unset, .unset, .unset, .unset, .unset] [(.ref b108), (.ref b105), (.ref b103), (.ref b102), (.ref b101), (.int (2 : Int32))])) rfl (by rw [hml]; rfl) (argsL := [(.int (2 : Int32)), (.ref b101), (.ref b102), (.ref b103), (.ref b105), (.ref b108)]) (rest := []) (lenOf own_pd4 rfl) rfl (by show 2 * 0 + _ ≤ _; exact Nat.le_of_eq rfl) (hb hby at_79) (fun _ _ => ⟨rfl, rfl, (by decide : 10 + 1 ≤ _), (by decide : 25 + 2 ≤ _)⟩)
  dsimp only [Pt.U, Pt.locs, Pt.cells, Pt.slots] at X116 l116 y116 z116 st116 hQ116
  subst l116 y116 z116
  obtain ⟨b116, rfl, Nq116, K116, by_b116, V116⟩ := hQ116
  have ne_b101_b116 : b101 ≠ b116 := Nat.ne_of_lt (Nat.lt_of_lt_of_le f112.lt by_b116)
  have ne_b102_b116 : b102 ≠ b116 := Nat.ne_of_lt (Nat.lt_of_lt_of_le f113.lt by_b116)
  have ne_b103_b116 : b103 ≠ b116 := Nat.ne_of_lt (Nat.lt_of_lt_of_le f114.lt by_b116)
  have ne_b105_b116 : b105 ≠ b116 := Nat.ne_of_lt (Nat.lt_of_lt_of_le f115.lt by_b116)
  have ne_b108_b116 : b108 ≠ b116 := Nat.ne_of_lt (Nat.lt_of_lt_of_le Ex108.lt by_b116)
  have g_b116 : n0 ≤ b116 := Nat.le_trans Z108 by_b116
  have sz_b116 : h0.size ≤ b116 := Nat.le_trans KC108.1 by_b116
  have Z116 : n0 ≤ T116.heap.size := Nat.le_trans Z108 K116.1
  have KC116 : Keep h0 T116.heap [] := KC108.trans K116 all0
  have N116 := Fr.app N108 Nq116
  obtain ⟨T117, h117, X117, e117, E117, A117, D117, -, st117⟩ := newO X116 hx hZ hown (hw _ (List.mem_of_getElem? (i := 33) rfl)) (hw _ (List.mem_of_getElem? (i := 34) rfl)) (hw _ (List.mem_of_getElem? (i := 35) rfl)) rfl (g := (mkF m 84 #[.val (.int p0), .val (.int p1), .val (.int p2), .val (.int p3), .val (.int p4), .val (.int p5), .val (.int (2 : Int32)), .val (.ref b101), .val (.ref b102), .val (.ref b103), .val (.ref b105), .val (.ref b108), .val (.ref b116), .unset, .unset, .unset, .unset] [])) rfl (hb hby at_84) (by decide) (by decide)
  obtain ⟨b117, g117⟩ : ∃ z, z = T116.heap.size := ⟨_, rfl⟩
  rw [← g117] at A117 D117 st117
  have f118 := (f112.keep K116)
  have f119 := (f113.keep K116)
  have f120 := (f114.keep K116)
  have f121 := (f115.keep K116)
  have f122 := (Ex108.keep K116)
  have ne_b101_b117 : b101 ≠ b117 := Nat.ne_of_lt (Nat.lt_of_lt_of_le f118.lt (Nat.le_of_eq g117.symm))
  have ne_b102_b117 : b102 ≠ b117 := Nat.ne_of_lt (Nat.lt_of_lt_of_le f119.lt (Nat.le_of_eq g117.symm))
  have ne_b103_b117 : b103 ≠ b117 := Nat.ne_of_lt (Nat.lt_of_lt_of_le f120.lt (Nat.le_of_eq g117.symm))
  have ne_b105_b117 : b105 ≠ b117 := Nat.ne_of_lt (Nat.lt_of_lt_of_le f121.lt (Nat.le_of_eq g117.symm))
  have ne_b108_b117 : b108 ≠ b117 := Nat.ne_of_lt (Nat.lt_of_lt_of_le f122.lt (Nat.le_of_eq g117.symm))
  have ne_b116_b117 : b116 ≠ b117 := Nat.ne_of_lt (Nat.lt_of_lt_of_le V116.lt (Nat.le_of_eq g117.symm))
  have g_b117 : n0 ≤ b117 := Nat.le_trans Z116 (Nat.le_of_eq g117.symm)
  have sz_b117 : h0.size ≤ b117 := Nat.le_trans KC116.1 (Nat.le_of_eq g117.symm)
  have Z117 : n0 ≤ h117.size := Nat.le_trans Z116 E117.1
  have KC117 : Keep h0 h117 [] := KC116.ext E117
  have F__args_b117 : Fld Z h117 b117 "com/example/seglport/seglport/options/OptionReader" "_args" "[Ljava/lang/String;" .null := D117 (Or.inr (hw _ (List.mem_of_getElem? (i := 41) rfl))) (ty := (.array (.object "java/lang/String"))) (by decide)
  have F__next_b117 : Fld Z h117 b117 "com/example/seglport/seglport/options/OptionReader" "_next" "I" (.int (0 : Int32)) := D117 (Or.inl (hw _ (List.mem_of_getElem? (i := 48) rfl))) (ty := .int) (by decide)
  have F__option_b117 : Fld Z h117 b117 "com/example/seglport/seglport/options/OptionReader" "_option" "Ljava/lang/String;" .null := D117 (Or.inl (hw _ (List.mem_of_getElem? (i := 55) rfl))) (ty := (.object "java/lang/String")) (by decide)
  obtain ⟨_, _, ⟨T123, L123, k123, n123⟩, -, X123, ⟨Lc123, hQ123, l123, y123, z123⟩, st123⟩ := X117.specialBack hx (y := (⟨"com/example/seglport/seglport/options/OptionReader", "<init>", "([Ljava/lang/String;)V"⟩ : MethodName)) rfl hown (mvT hZ (hw _ (List.mem_of_getElem? (i := 36) rfl))) (mvT hZ (hw _ (List.mem_of_getElem? (i := 37) rfl))) (mvT hZ (hw _ (List.mem_of_getElem? (i := 38) rfl))) (by decide) (backOf (W := 1) (rm_init l Z a0 hw [] b117 b116 h117 n0 Z117 A117 F__args_b117 F__next_b117 F__option_b117 g_b117) hZ (hw _ (List.mem_of_getElem? (i := 38) rfl)) (hw _ (List.mem_of_getElem? (i := 35) rfl)) (by decide) (by decide)) (g := (mkF m 90 #[.val (.int p0), .val (.int p1), .val (.int p2), .val (.int p3), .val (.int p4), .val (.int p5), .val (.int (2 : Int32)), .val (.ref b101), .val (.ref b102), .val (.ref b103), .val (.ref b105), .val (.ref b108), .val (.ref b116), .unset, .unset, .unset, .unset] [(.ref b116), (.ref b117), (.ref b117)])) rfl (by rw [hml]; rfl) (Steps.refl _) (a := b117) (argsL := [(.ref b116)]) (rest := [(.ref b117)]) (lenOf own_pd5 rfl) rfl (by show 2 * 0 + _ ≤ _; exact Nat.le_of_eq rfl) (hb hby at_90) (fun _ _ => ⟨rfl, e117, (by decide : 12 + 0 ≤ _), (by decide : 30 + 0 ≤ _)⟩)
  dsimp only [Pt.U, Pt.locs, Pt.cells, Pt.slots] at X123 l123 y123 z123 st123 hQ123
  subst l123 y123 z123
  obtain ⟨rfl, Nq123, K123, R123_0, R123_1, R123_2, R123_3⟩ := hQ123
  have Z123 : n0 ≤ T123.heap.size := Nat.le_trans Z117 K123.1
  have KC123 : Keep h0 T123.heap [] := KC117.trans K123 (allS (Or.inr sz_b117) all0)
  have N123 := Fr.app N116 Nq123
  have f124 := ((V116.ext E117).keep K123 (ninS ne_b116_b117 nin0))
  obtain ⟨cq125, kq125, q125a, q125b, q125c⟩ := isOf hZ rfl R123_0
  obtain ⟨_, _, ⟨T125, L125, k125, n125⟩, -, X125, ⟨Lc125, hQ125, l125, y125, z125⟩, st125⟩ := X123.virtualBack hx (y := (⟨"com/example/seglport/seglport/options/OptionReader", "hasNext", "()Z"⟩ : MethodName)) (z := (⟨"com/example/seglport/seglport/options/OptionReader", "hasNext", "()Z"⟩ : MethodName)) hown (mvT hZ (hw _ (List.mem_of_getElem? (i := 42) rfl))) (mvT hZ (hw _ (List.mem_of_getElem? (i := 43) rfl))) (notFace_of_selects (args := #[]) (mvT hZ (hw _ (List.mem_of_getElem? (i := 45) rfl)))) (mvT hZ (hw _ (List.mem_of_getElem? (i := 45) rfl))) (mvT hZ (hw _ (List.mem_of_getElem? (i := 44) rfl))) (by decide) (backOf (W := 0) (rm_hasT l Z a0 hw [] b117 b116 2 _ (2 : Int32) (0 : Int32) .null T123.heap n0 Z123 R123_0 R123_1 R123_2 R123_3 f124 rfl (by decide)) hZ (hw _ (List.mem_of_getElem? (i := 46) rfl)) (hw _ (List.mem_of_getElem? (i := 35) rfl)) (by decide) (by decide)) q125a q125c (g := (mkF m 97 #[.val (.int p0), .val (.int p1), .val (.int p2), .val (.int p3), .val (.int p4), .val (.int p5), .val (.int (2 : Int32)), .val (.ref b101), .val (.ref b102), .val (.ref b103), .val (.ref b105), .val (.ref b108), .val (.ref b116), .val (.ref b117), .unset, .unset, .unset] [(.ref b117)])) rfl (by rw [hml]; rfl) (Steps.refl _) (argsL := []) (rest := []) (lenOf own_pd6 rfl) rfl (by show 2 * 0 + _ ≤ _; exact Nat.le_of_eq rfl) (hb hby at_97) (fun _ _ => ⟨rfl, rfl, (by decide : 12 + 0 ≤ _), (by decide : 30 + 0 ≤ _)⟩)
  dsimp only [Pt.U, Pt.locs, Pt.cells, Pt.slots] at X125 l125 y125 z125 st125 hQ125
  subst l125 y125 z125
  obtain ⟨rfl, Nq125, e125⟩ := hQ125
  have N125 := Fr.app N123 Nq125
  obtain ⟨cq126, kq126, q126a, q126b, q126c⟩ := isOf hZ e125 R123_0
  obtain ⟨_, _, ⟨T126, L126, k126, n126⟩, -, X126, ⟨Lc126, hQ126, l126, y126, z126⟩, st126⟩ := X125.virtualBack hx (y := (⟨"com/example/seglport/seglport/options/OptionReader", "next", "()Ljava/lang/String;"⟩ : MethodName)) (z := (⟨"com/example/seglport/seglport/options/OptionReader", "next", "()Ljava/lang/String;"⟩ : MethodName)) hown (mvT hZ (hw _ (List.mem_of_getElem? (i := 49) rfl))) (mvT hZ (hw _ (List.mem_of_getElem? (i := 50) rfl))) (notFace_of_selects (args := #[]) (mvT hZ (hw _ (List.mem_of_getElem? (i := 52) rfl)))) (mvT hZ (hw _ (List.mem_of_getElem? (i := 52) rfl))) (mvT hZ (hw _ (List.mem_of_getElem? (i := 51) rfl))) (by decide) (backOf (W := 0) (rm_next l Z a0 hw [] b117 b116 2 _ (2 : Int32) (0 : Int32) .null 0 b101 (2 : Int32) T123.heap n0 Z123 R123_0 R123_1 R123_2 R123_3 f124 rfl g_b117 (by decide) rfl (by decide) rfl (by decide)) hZ (hw _ (List.mem_of_getElem? (i := 53) rfl)) (hw _ (List.mem_of_getElem? (i := 35) rfl)) (by decide) (by decide)) q126a q126c (g := (mkF m 107 #[.val (.int p0), .val (.int p1), .val (.int p2), .val (.int p3), .val (.int p4), .val (.int p5), .val (.int (2 : Int32)), .val (.ref b101), .val (.ref b102), .val (.ref b103), .val (.ref b105), .val (.ref b108), .val (.ref b116), .val (.ref b117), .unset, .unset, .unset] [(.ref b117)])) rfl (by rw [hml]; rfl) (Steps.refl _) (argsL := []) (rest := []) (lenOf own_pd7 rfl) rfl (by show 2 * 0 + _ ≤ _; exact Nat.le_of_eq rfl) (hb hby at_107) (fun _ _ => ⟨rfl, e125, (by decide : 12 + 0 ≤ _), (by decide : 30 + 0 ≤ _)⟩)
  dsimp only [Pt.U, Pt.locs, Pt.cells, Pt.slots] at X126 l126 y126 z126 st126 hQ126
  subst l126 y126 z126
  obtain ⟨rfl, Nq126, K126, R126_0, R126_1, R126_2, R126_3⟩ := hQ126
  have Z126 : n0 ≤ T126.heap.size := Nat.le_trans Z123 K126.1
  have KC126 : Keep h0 T126.heap [] := KC123.trans K126 (allS (Or.inr sz_b117) all0)
  have N126 := Fr.app N125 Nq126
  have f128 := (((f118.ext E117).keep K123).keep K126)
  obtain ⟨cq127, kq127, q127a, q127b, q127c⟩ := isOf hZ rfl f128
  obtain ⟨_, _, ⟨T127, L127, k127, n127⟩, -, X127, ⟨Lc127, hQ127, l127, y127, z127⟩, st127⟩ := X126.virtualBack hx (y := (⟨"java/lang/String", "equals", "(Ljava/lang/Object;)Z"⟩ : MethodName)) (z := (⟨"java/lang/String", "equals", "(Ljava/lang/Object;)Z"⟩ : MethodName)) hown (mvT hZ (hw _ (List.mem_of_getElem? (i := 56) rfl))) (mvT hZ (hw _ (List.mem_of_getElem? (i := 57) rfl))) (notFace_of_selects (args := #[]) (mvT hZ (hw _ (List.mem_of_getElem? (i := 59) rfl)))) (mvT hZ (hw _ (List.mem_of_getElem? (i := 59) rfl))) (mvT hZ (hw _ (List.mem_of_getElem? (i := 58) rfl))) (by decide) (backOf (W := 0) (rm_eq l Z a0 hw [] b101 T126.heap n0 Z126 ) hZ (hw _ (List.mem_of_getElem? (i := 60) rfl)) (hw _ (List.mem_of_getElem? (i := 3) rfl)) (by decide) (by decide)) q127a q127c (g := (mkF m 116 #[.val (.int p0), .val (.int p1), .val (.int p2), .val (.int p3), .val (.int p4), .val (.int p5), .val (.int (2 : Int32)), .val (.ref b101), .val (.ref b102), .val (.ref b103), .val (.ref b105), .val (.ref b108), .val (.ref b116), .val (.ref b117), .val (.ref b101), .unset, .unset] [(.ref b101), (.ref b101)])) rfl (by rw [hml]; rfl) (Steps.refl _) (argsL := [(.ref b101)]) (rest := []) (lenOf own_pd8 rfl) rfl (by show 2 * 0 + _ ≤ _; exact Nat.le_of_eq rfl) (hb hby at_116) (fun _ _ => ⟨rfl, rfl, (by decide : 12 + 0 ≤ _), (by decide : 30 + 0 ≤ _)⟩)
  dsimp only [Pt.U, Pt.locs, Pt.cells, Pt.slots] at X127 l127 y127 z127 st127 hQ127
  subst l127 y127 z127
  obtain ⟨rfl, Nq127, e127⟩ := hQ127
  have N127 := Fr.app N126 Nq127
  have f129 := (f124.keep K126 (ninS ne_b116_b117 nin0))
  obtain ⟨cq130, kq130, q130a, q130b, q130c⟩ := isOf hZ e127 R126_0
  obtain ⟨_, _, ⟨T130, L130, k130, n130⟩, -, X130, ⟨Lc130, hQ130, l130, y130, z130⟩, st130⟩ := X127.virtualBack hx (y := (⟨"com/example/seglport/seglport/options/OptionReader", "hasNext", "()Z"⟩ : MethodName)) (z := (⟨"com/example/seglport/seglport/options/OptionReader", "hasNext", "()Z"⟩ : MethodName)) hown (mvT hZ (hw _ (List.mem_of_getElem? (i := 42) rfl))) (mvT hZ (hw _ (List.mem_of_getElem? (i := 43) rfl))) (notFace_of_selects (args := #[]) (mvT hZ (hw _ (List.mem_of_getElem? (i := 45) rfl)))) (mvT hZ (hw _ (List.mem_of_getElem? (i := 45) rfl))) (mvT hZ (hw _ (List.mem_of_getElem? (i := 44) rfl))) (by decide) (backOf (W := 0) (rm_hasF l Z a0 hw [] b117 b116 2 _ (2 : Int32) (2 : Int32) (.ref b101) T126.heap n0 Z126 R126_0 R126_1 R126_2 R126_3 f129 rfl (by decide)) hZ (hw _ (List.mem_of_getElem? (i := 46) rfl)) (hw _ (List.mem_of_getElem? (i := 35) rfl)) (by decide) (by decide)) q130a q130c (g := (mkF m 126 #[.val (.int p0), .val (.int p1), .val (.int p2), .val (.int p3), .val (.int p4), .val (.int p5), .val (.int (2 : Int32)), .val (.ref b101), .val (.ref b102), .val (.ref b103), .val (.ref b105), .val (.ref b108), .val (.ref b116), .val (.ref b117), .val (.ref b101), .unset, .unset] [(.ref b117)])) rfl (by rw [hml]; rfl) (Steps.refl _) (argsL := []) (rest := []) (lenOf own_pd6 rfl) rfl (by show 2 * 0 + _ ≤ _; exact Nat.le_of_eq rfl) (hb hby at_126) (fun _ _ => ⟨rfl, e127, (by decide : 12 + 0 ≤ _), (by decide : 30 + 0 ≤ _)⟩)
  dsimp only [Pt.U, Pt.locs, Pt.cells, Pt.slots] at X130 l130 y130 z130 st130 hQ130
  subst l130 y130 z130
  obtain ⟨rfl, Nq130, e130⟩ := hQ130
  have N130 := Fr.app N127 Nq130
  obtain ⟨cq131, kq131, q131a, q131b, q131c⟩ := isOf hZ e130 R126_0
  obtain ⟨_, _, ⟨T131, L131, k131, n131⟩, -, X131, ⟨Lc131, hQ131, l131, y131, z131⟩, st131⟩ := X130.virtualBack hx (y := (⟨"com/example/seglport/seglport/options/OptionReader", "value", "()Ljava/lang/String;"⟩ : MethodName)) (z := (⟨"com/example/seglport/seglport/options/OptionReader", "value", "()Ljava/lang/String;"⟩ : MethodName)) hown (mvT hZ (hw _ (List.mem_of_getElem? (i := 61) rfl))) (mvT hZ (hw _ (List.mem_of_getElem? (i := 62) rfl))) (notFace_of_selects (args := #[]) (mvT hZ (hw _ (List.mem_of_getElem? (i := 64) rfl)))) (mvT hZ (hw _ (List.mem_of_getElem? (i := 64) rfl))) (mvT hZ (hw _ (List.mem_of_getElem? (i := 63) rfl))) (by decide) (backOf (W := 0) (rm_value l Z a0 hw [] b117 b116 2 _ (2 : Int32) (2 : Int32) (.ref b101) 1 b102 T126.heap n0 Z126 R126_0 R126_1 R126_2 R126_3 f129 rfl (by decide) rfl (by decide) rfl (by decide)) hZ (hw _ (List.mem_of_getElem? (i := 65) rfl)) (hw _ (List.mem_of_getElem? (i := 35) rfl)) (by decide) (by decide)) q131a q131c (g := (mkF m 153 #[.val (.int p0), .val (.int p1), .val (.int p2), .val (.int p3), .val (.int p4), .val (.int p5), .val (.int (2 : Int32)), .val (.ref b101), .val (.ref b102), .val (.ref b103), .val (.ref b105), .val (.ref b108), .val (.ref b116), .val (.ref b117), .val (.ref b101), .unset, .unset] [(.ref b117)])) rfl (by rw [hml]; rfl) (Steps.refl _) (argsL := []) (rest := []) (lenOf own_pd7 rfl) rfl (by show 2 * 0 + _ ≤ _; exact Nat.le_of_eq rfl) (hb hby at_153) (fun _ _ => ⟨rfl, e130, (by decide : 12 + 0 ≤ _), (by decide : 30 + 0 ≤ _)⟩)
  dsimp only [Pt.U, Pt.locs, Pt.cells, Pt.slots] at X131 l131 y131 z131 st131 hQ131
  subst l131 y131 z131
  obtain ⟨rfl, Nq131, e131⟩ := hQ131
  have N131 := Fr.app N130 Nq131
  have f133 := (((f119.ext E117).keep K123).keep K126)
  obtain ⟨cq132, kq132, q132a, q132b, q132c⟩ := isOf hZ e131 f133
  obtain ⟨_, _, ⟨T132, L132, k132, n132⟩, -, X132, ⟨Lc132, hQ132, l132, y132, z132⟩, st132⟩ := X131.virtualBack hx (y := (⟨"java/lang/String", "equals", "(Ljava/lang/Object;)Z"⟩ : MethodName)) (z := (⟨"java/lang/String", "equals", "(Ljava/lang/Object;)Z"⟩ : MethodName)) hown (mvT hZ (hw _ (List.mem_of_getElem? (i := 56) rfl))) (mvT hZ (hw _ (List.mem_of_getElem? (i := 57) rfl))) (notFace_of_selects (args := #[]) (mvT hZ (hw _ (List.mem_of_getElem? (i := 59) rfl)))) (mvT hZ (hw _ (List.mem_of_getElem? (i := 59) rfl))) (mvT hZ (hw _ (List.mem_of_getElem? (i := 58) rfl))) (by decide) (backOf (W := 0) (rm_eq l Z a0 hw [] b102 T126.heap n0 Z126 ) hZ (hw _ (List.mem_of_getElem? (i := 60) rfl)) (hw _ (List.mem_of_getElem? (i := 3) rfl)) (by decide) (by decide)) q132a q132c (g := (mkF m 158 #[.val (.int p0), .val (.int p1), .val (.int p2), .val (.int p3), .val (.int p4), .val (.int p5), .val (.int (2 : Int32)), .val (.ref b101), .val (.ref b102), .val (.ref b103), .val (.ref b105), .val (.ref b108), .val (.ref b116), .val (.ref b117), .val (.ref b101), .unset, .unset] [(.ref b102), (.ref b102)])) rfl (by rw [hml]; rfl) (Steps.refl _) (argsL := [(.ref b102)]) (rest := []) (lenOf own_pd8 rfl) rfl (by show 2 * 0 + _ ≤ _; exact Nat.le_of_eq rfl) (hb hby at_158) (fun _ _ => ⟨rfl, e131, (by decide : 12 + 0 ≤ _), (by decide : 30 + 0 ≤ _)⟩)
  dsimp only [Pt.U, Pt.locs, Pt.cells, Pt.slots] at X132 l132 y132 z132 st132 hQ132
  subst l132 y132 z132
  obtain ⟨rfl, Nq132, e132⟩ := hQ132
  have N132 := Fr.app N131 Nq132
  obtain ⟨fs, hr, hrun, hended, hW, hsame⟩ := X132.leave (v := some (.int (1 : Int32))) (fun h => by rw [Bd.returns] at h; cases h)
  refine ⟨_, _, pre0 _ ?_, hrun, hended, _, _, rfl, ?_, ⟨_, rfl⟩, hW, hsame.mono (by decide) (by decide)⟩
  · show Steps p.tables e below (s₁.setTop (mkF m 0 #[.val (.int p0), .val (.int p1), .val (.int p2), .val (.int p3), .val (.int p4), .val (.int p5), .unset, .unset, .unset, .unset, .unset, .unset, .unset, .unset, .unset, .unset, .unset] [])) _
    refine XS.iloadN X0.here hx rfl (hb hby at_0) rfl ?_
    show Steps p.tables e below (s₁.setTop (mkF m 1 #[.val (.int p0), .val (.int p1), .val (.int p2), .val (.int p3), .val (.int p4), .val (.int p5), .unset, .unset, .unset, .unset, .unset, .unset, .unset, .unset, .unset, .unset, .unset] [(.int p0)])) _
    refine X0.ldcInt hx hown (mvT hZ (hw _ (List.mem_of_getElem? (i := 0) rfl))) (g := (mkF m 1 #[.val (.int p0), .val (.int p1), .val (.int p2), .val (.int p3), .val (.int p4), .val (.int p5), .unset, .unset, .unset, .unset, .unset, .unset, .unset, .unset, .unset, .unset, .unset] [(.int p0)])) rfl (hb hby at_1) _ ?_
    show Steps p.tables e below (s₁.setTop (mkF m 3 #[.val (.int p0), .val (.int p1), .val (.int p2), .val (.int p3), .val (.int p4), .val (.int p5), .unset, .unset, .unset, .unset, .unset, .unset, .unset, .unset, .unset, .unset, .unset] [(.int (2147483647 : Int32)), (.int p0)])) _
    refine XS.iand X0.here hx rfl (hb hby at_3) rfl ?_
    show Steps p.tables e below (s₁.setTop (mkF m 4 #[.val (.int p0), .val (.int p1), .val (.int p2), .val (.int p3), .val (.int p4), .val (.int p5), .unset, .unset, .unset, .unset, .unset, .unset, .unset, .unset, .unset, .unset, .unset] [(.int (p0 &&& (2147483647 : Int32)))])) _
    refine XS.iconst X0.here hx rfl (hb hby at_4) ?_
    show Steps p.tables e below (s₁.setTop (mkF m 5 #[.val (.int p0), .val (.int p1), .val (.int p2), .val (.int p3), .val (.int p4), .val (.int p5), .unset, .unset, .unset, .unset, .unset, .unset, .unset, .unset, .unset, .unset, .unset] [(.int (5 : Int32)), (.int (p0 &&& (2147483647 : Int32)))])) _
    refine iremM X0 hx rfl (hb hby at_5) rfl (by decide) ?_
    show Steps p.tables e below (s₁.setTop (mkF m 6 #[.val (.int p0), .val (.int p1), .val (.int p2), .val (.int p3), .val (.int p4), .val (.int p5), .unset, .unset, .unset, .unset, .unset, .unset, .unset, .unset, .unset, .unset, .unset] [(.int ((p0 &&& (2147483647 : Int32)) % (5 : Int32)))])) _
    refine XS.iconst X0.here hx rfl (hb hby at_6) ?_
    show Steps p.tables e below (s₁.setTop (mkF m 7 #[.val (.int p0), .val (.int p1), .val (.int p2), .val (.int p3), .val (.int p4), .val (.int p5), .unset, .unset, .unset, .unset, .unset, .unset, .unset, .unset, .unset, .unset, .unset] [(.int (1 : Int32)), (.int ((p0 &&& (2147483647 : Int32)) % (5 : Int32)))])) _
    refine XS.iadd X0.here hx rfl (hb hby at_7) rfl ?_
    show Steps p.tables e below (s₁.setTop (mkF m 8 #[.val (.int p0), .val (.int p1), .val (.int p2), .val (.int p3), .val (.int p4), .val (.int p5), .unset, .unset, .unset, .unset, .unset, .unset, .unset, .unset, .unset, .unset, .unset] [(.int (((p0 &&& (2147483647 : Int32)) % (5 : Int32)) + (1 : Int32)))])) _
    rw [hN]
    show Steps p.tables e below (s₁.setTop (mkF m 8 #[.val (.int p0), .val (.int p1), .val (.int p2), .val (.int p3), .val (.int p4), .val (.int p5), .unset, .unset, .unset, .unset, .unset, .unset, .unset, .unset, .unset, .unset, .unset] [(.int (2 : Int32))])) _
    refine XS.istore X0.here hx rfl (hb hby at_8) rfl (l' := #[.val (.int p0), .val (.int p1), .val (.int p2), .val (.int p3), .val (.int p4), .val (.int p5), .val (.int (2 : Int32)), .unset, .unset, .unset, .unset, .unset, .unset, .unset, .unset, .unset, .unset]) rfl ?_
    show Steps p.tables e below (s₁.setTop (mkF m 10 #[.val (.int p0), .val (.int p1), .val (.int p2), .val (.int p3), .val (.int p4), .val (.int p5), .val (.int (2 : Int32)), .unset, .unset, .unset, .unset, .unset, .unset, .unset, .unset, .unset, .unset] [])) _
    refine XS.iloadN X0.here hx rfl (hb hby at_10) rfl ?_
    show Steps p.tables e below (s₁.setTop (mkF m 11 #[.val (.int p0), .val (.int p1), .val (.int p2), .val (.int p3), .val (.int p4), .val (.int p5), .val (.int (2 : Int32)), .unset, .unset, .unset, .unset, .unset, .unset, .unset, .unset, .unset, .unset] [(.int p1)])) _
    refine XS.sipush X0.here hx rfl (hb hby at_11) ?_
    show Steps p.tables e below (s₁.setTop (mkF m 14 #[.val (.int p0), .val (.int p1), .val (.int p2), .val (.int p3), .val (.int p4), .val (.int p5), .val (.int (2 : Int32)), .unset, .unset, .unset, .unset, .unset, .unset, .unset, .unset, .unset, .unset] [(.int (255 : Int32)), (.int p1)])) _
    refine XS.iand X0.here hx rfl (hb hby at_14) rfl ?_
    show Steps p.tables e below (s₁.setTop (mkF m 15 #[.val (.int p0), .val (.int p1), .val (.int p2), .val (.int p3), .val (.int p4), .val (.int p5), .val (.int (2 : Int32)), .unset, .unset, .unset, .unset, .unset, .unset, .unset, .unset, .unset, .unset] [(.int (p1 &&& (255 : Int32)))])) _
    refine XS.i2c X0.here hx rfl (hb hby at_15) rfl ?_
    show Steps p.tables e below (s₁.setTop (mkF m 16 #[.val (.int p0), .val (.int p1), .val (.int p2), .val (.int p3), .val (.int p4), .val (.int p5), .val (.int (2 : Int32)), .unset, .unset, .unset, .unset, .unset, .unset, .unset, .unset, .unset, .unset] [(.int ((p1 &&& (255 : Int32)).toUInt32.toUInt16.toUInt32.toInt32))])) _
    refine st101 _ ?_
    show Steps p.tables e below (T101.setTop (mkF m 19 #[.val (.int p0), .val (.int p1), .val (.int p2), .val (.int p3), .val (.int p4), .val (.int p5), .val (.int (2 : Int32)), .unset, .unset, .unset, .unset, .unset, .unset, .unset, .unset, .unset, .unset] [(.ref b101)])) _
    refine XS.astore X101.here hx rfl (hb hby at_19) rfl rfl (l' := #[.val (.int p0), .val (.int p1), .val (.int p2), .val (.int p3), .val (.int p4), .val (.int p5), .val (.int (2 : Int32)), .val (.ref b101), .unset, .unset, .unset, .unset, .unset, .unset, .unset, .unset, .unset]) rfl ?_
    show Steps p.tables e below (T101.setTop (mkF m 21 #[.val (.int p0), .val (.int p1), .val (.int p2), .val (.int p3), .val (.int p4), .val (.int p5), .val (.int (2 : Int32)), .val (.ref b101), .unset, .unset, .unset, .unset, .unset, .unset, .unset, .unset, .unset] [])) _
    refine XS.iloadN X101.here hx rfl (hb hby at_21) rfl ?_
    show Steps p.tables e below (T101.setTop (mkF m 22 #[.val (.int p0), .val (.int p1), .val (.int p2), .val (.int p3), .val (.int p4), .val (.int p5), .val (.int (2 : Int32)), .val (.ref b101), .unset, .unset, .unset, .unset, .unset, .unset, .unset, .unset, .unset] [(.int p2)])) _
    refine XS.sipush X101.here hx rfl (hb hby at_22) ?_
    show Steps p.tables e below (T101.setTop (mkF m 25 #[.val (.int p0), .val (.int p1), .val (.int p2), .val (.int p3), .val (.int p4), .val (.int p5), .val (.int (2 : Int32)), .val (.ref b101), .unset, .unset, .unset, .unset, .unset, .unset, .unset, .unset, .unset] [(.int (255 : Int32)), (.int p2)])) _
    refine XS.iand X101.here hx rfl (hb hby at_25) rfl ?_
    show Steps p.tables e below (T101.setTop (mkF m 26 #[.val (.int p0), .val (.int p1), .val (.int p2), .val (.int p3), .val (.int p4), .val (.int p5), .val (.int (2 : Int32)), .val (.ref b101), .unset, .unset, .unset, .unset, .unset, .unset, .unset, .unset, .unset] [(.int (p2 &&& (255 : Int32)))])) _
    refine XS.i2c X101.here hx rfl (hb hby at_26) rfl ?_
    show Steps p.tables e below (T101.setTop (mkF m 27 #[.val (.int p0), .val (.int p1), .val (.int p2), .val (.int p3), .val (.int p4), .val (.int p5), .val (.int (2 : Int32)), .val (.ref b101), .unset, .unset, .unset, .unset, .unset, .unset, .unset, .unset, .unset] [(.int ((p2 &&& (255 : Int32)).toUInt32.toUInt16.toUInt32.toInt32))])) _
    refine st102 _ ?_
    show Steps p.tables e below (T102.setTop (mkF m 30 #[.val (.int p0), .val (.int p1), .val (.int p2), .val (.int p3), .val (.int p4), .val (.int p5), .val (.int (2 : Int32)), .val (.ref b101), .unset, .unset, .unset, .unset, .unset, .unset, .unset, .unset, .unset] [(.ref b102)])) _
    refine XS.astore X102.here hx rfl (hb hby at_30) rfl rfl (l' := #[.val (.int p0), .val (.int p1), .val (.int p2), .val (.int p3), .val (.int p4), .val (.int p5), .val (.int (2 : Int32)), .val (.ref b101), .val (.ref b102), .unset, .unset, .unset, .unset, .unset, .unset, .unset, .unset]) rfl ?_
    show Steps p.tables e below (T102.setTop (mkF m 32 #[.val (.int p0), .val (.int p1), .val (.int p2), .val (.int p3), .val (.int p4), .val (.int p5), .val (.int (2 : Int32)), .val (.ref b101), .val (.ref b102), .unset, .unset, .unset, .unset, .unset, .unset, .unset, .unset] [])) _
    refine XS.iloadN X102.here hx rfl (hb hby at_32) rfl ?_
    show Steps p.tables e below (T102.setTop (mkF m 33 #[.val (.int p0), .val (.int p1), .val (.int p2), .val (.int p3), .val (.int p4), .val (.int p5), .val (.int (2 : Int32)), .val (.ref b101), .val (.ref b102), .unset, .unset, .unset, .unset, .unset, .unset, .unset, .unset] [(.int p3)])) _
    refine XS.sipush X102.here hx rfl (hb hby at_33) ?_
    show Steps p.tables e below (T102.setTop (mkF m 36 #[.val (.int p0), .val (.int p1), .val (.int p2), .val (.int p3), .val (.int p4), .val (.int p5), .val (.int (2 : Int32)), .val (.ref b101), .val (.ref b102), .unset, .unset, .unset, .unset, .unset, .unset, .unset, .unset] [(.int (255 : Int32)), (.int p3)])) _
    refine XS.iand X102.here hx rfl (hb hby at_36) rfl ?_
    show Steps p.tables e below (T102.setTop (mkF m 37 #[.val (.int p0), .val (.int p1), .val (.int p2), .val (.int p3), .val (.int p4), .val (.int p5), .val (.int (2 : Int32)), .val (.ref b101), .val (.ref b102), .unset, .unset, .unset, .unset, .unset, .unset, .unset, .unset] [(.int (p3 &&& (255 : Int32)))])) _
    refine XS.i2c X102.here hx rfl (hb hby at_37) rfl ?_
    show Steps p.tables e below (T102.setTop (mkF m 38 #[.val (.int p0), .val (.int p1), .val (.int p2), .val (.int p3), .val (.int p4), .val (.int p5), .val (.int (2 : Int32)), .val (.ref b101), .val (.ref b102), .unset, .unset, .unset, .unset, .unset, .unset, .unset, .unset] [(.int ((p3 &&& (255 : Int32)).toUInt32.toUInt16.toUInt32.toInt32))])) _
    refine st103 _ ?_
    show Steps p.tables e below (T103.setTop (mkF m 41 #[.val (.int p0), .val (.int p1), .val (.int p2), .val (.int p3), .val (.int p4), .val (.int p5), .val (.int (2 : Int32)), .val (.ref b101), .val (.ref b102), .unset, .unset, .unset, .unset, .unset, .unset, .unset, .unset] [(.ref b103)])) _
    refine XS.astore X103.here hx rfl (hb hby at_41) rfl rfl (l' := #[.val (.int p0), .val (.int p1), .val (.int p2), .val (.int p3), .val (.int p4), .val (.int p5), .val (.int (2 : Int32)), .val (.ref b101), .val (.ref b102), .val (.ref b103), .unset, .unset, .unset, .unset, .unset, .unset, .unset]) rfl ?_
    show Steps p.tables e below (T103.setTop (mkF m 43 #[.val (.int p0), .val (.int p1), .val (.int p2), .val (.int p3), .val (.int p4), .val (.int p5), .val (.int (2 : Int32)), .val (.ref b101), .val (.ref b102), .val (.ref b103), .unset, .unset, .unset, .unset, .unset, .unset, .unset] [])) _
    refine XS.iload X103.here hx rfl (hb hby at_43) rfl ?_
    show Steps p.tables e below (T103.setTop (mkF m 45 #[.val (.int p0), .val (.int p1), .val (.int p2), .val (.int p3), .val (.int p4), .val (.int p5), .val (.int (2 : Int32)), .val (.ref b101), .val (.ref b102), .val (.ref b103), .unset, .unset, .unset, .unset, .unset, .unset, .unset] [(.int p4)])) _
    refine XS.sipush X103.here hx rfl (hb hby at_45) ?_
    show Steps p.tables e below (T103.setTop (mkF m 48 #[.val (.int p0), .val (.int p1), .val (.int p2), .val (.int p3), .val (.int p4), .val (.int p5), .val (.int (2 : Int32)), .val (.ref b101), .val (.ref b102), .val (.ref b103), .unset, .unset, .unset, .unset, .unset, .unset, .unset] [(.int (255 : Int32)), (.int p4)])) _
    refine XS.iand X103.here hx rfl (hb hby at_48) rfl ?_
    show Steps p.tables e below (T103.setTop (mkF m 49 #[.val (.int p0), .val (.int p1), .val (.int p2), .val (.int p3), .val (.int p4), .val (.int p5), .val (.int (2 : Int32)), .val (.ref b101), .val (.ref b102), .val (.ref b103), .unset, .unset, .unset, .unset, .unset, .unset, .unset] [(.int (p4 &&& (255 : Int32)))])) _
    refine XS.i2c X103.here hx rfl (hb hby at_49) rfl ?_
    show Steps p.tables e below (T103.setTop (mkF m 50 #[.val (.int p0), .val (.int p1), .val (.int p2), .val (.int p3), .val (.int p4), .val (.int p5), .val (.int (2 : Int32)), .val (.ref b101), .val (.ref b102), .val (.ref b103), .unset, .unset, .unset, .unset, .unset, .unset, .unset] [(.int ((p4 &&& (255 : Int32)).toUInt32.toUInt16.toUInt32.toInt32))])) _
    refine st105 _ ?_
    show Steps p.tables e below (T105.setTop (mkF m 53 #[.val (.int p0), .val (.int p1), .val (.int p2), .val (.int p3), .val (.int p4), .val (.int p5), .val (.int (2 : Int32)), .val (.ref b101), .val (.ref b102), .val (.ref b103), .unset, .unset, .unset, .unset, .unset, .unset, .unset] [(.ref b105)])) _
    refine XS.astore X105.here hx rfl (hb hby at_53) rfl rfl (l' := #[.val (.int p0), .val (.int p1), .val (.int p2), .val (.int p3), .val (.int p4), .val (.int p5), .val (.int (2 : Int32)), .val (.ref b101), .val (.ref b102), .val (.ref b103), .val (.ref b105), .unset, .unset, .unset, .unset, .unset, .unset]) rfl ?_
    show Steps p.tables e below (T105.setTop (mkF m 55 #[.val (.int p0), .val (.int p1), .val (.int p2), .val (.int p3), .val (.int p4), .val (.int p5), .val (.int (2 : Int32)), .val (.ref b101), .val (.ref b102), .val (.ref b103), .val (.ref b105), .unset, .unset, .unset, .unset, .unset, .unset] [])) _
    refine XS.iload X105.here hx rfl (hb hby at_55) rfl ?_
    show Steps p.tables e below (T105.setTop (mkF m 57 #[.val (.int p0), .val (.int p1), .val (.int p2), .val (.int p3), .val (.int p4), .val (.int p5), .val (.int (2 : Int32)), .val (.ref b101), .val (.ref b102), .val (.ref b103), .val (.ref b105), .unset, .unset, .unset, .unset, .unset, .unset] [(.int p5)])) _
    refine XS.sipush X105.here hx rfl (hb hby at_57) ?_
    show Steps p.tables e below (T105.setTop (mkF m 60 #[.val (.int p0), .val (.int p1), .val (.int p2), .val (.int p3), .val (.int p4), .val (.int p5), .val (.int (2 : Int32)), .val (.ref b101), .val (.ref b102), .val (.ref b103), .val (.ref b105), .unset, .unset, .unset, .unset, .unset, .unset] [(.int (255 : Int32)), (.int p5)])) _
    refine XS.iand X105.here hx rfl (hb hby at_60) rfl ?_
    show Steps p.tables e below (T105.setTop (mkF m 61 #[.val (.int p0), .val (.int p1), .val (.int p2), .val (.int p3), .val (.int p4), .val (.int p5), .val (.int (2 : Int32)), .val (.ref b101), .val (.ref b102), .val (.ref b103), .val (.ref b105), .unset, .unset, .unset, .unset, .unset, .unset] [(.int (p5 &&& (255 : Int32)))])) _
    refine XS.i2c X105.here hx rfl (hb hby at_61) rfl ?_
    show Steps p.tables e below (T105.setTop (mkF m 62 #[.val (.int p0), .val (.int p1), .val (.int p2), .val (.int p3), .val (.int p4), .val (.int p5), .val (.int (2 : Int32)), .val (.ref b101), .val (.ref b102), .val (.ref b103), .val (.ref b105), .unset, .unset, .unset, .unset, .unset, .unset] [(.int ((p5 &&& (255 : Int32)).toUInt32.toUInt16.toUInt32.toInt32))])) _
    refine st108 _ ?_
    show Steps p.tables e below (T108.setTop (mkF m 65 #[.val (.int p0), .val (.int p1), .val (.int p2), .val (.int p3), .val (.int p4), .val (.int p5), .val (.int (2 : Int32)), .val (.ref b101), .val (.ref b102), .val (.ref b103), .val (.ref b105), .unset, .unset, .unset, .unset, .unset, .unset] [(.ref b108)])) _
    refine XS.astore X108.here hx rfl (hb hby at_65) rfl rfl (l' := #[.val (.int p0), .val (.int p1), .val (.int p2), .val (.int p3), .val (.int p4), .val (.int p5), .val (.int (2 : Int32)), .val (.ref b101), .val (.ref b102), .val (.ref b103), .val (.ref b105), .val (.ref b108), .unset, .unset, .unset, .unset, .unset]) rfl ?_
    show Steps p.tables e below (T108.setTop (mkF m 67 #[.val (.int p0), .val (.int p1), .val (.int p2), .val (.int p3), .val (.int p4), .val (.int p5), .val (.int (2 : Int32)), .val (.ref b101), .val (.ref b102), .val (.ref b103), .val (.ref b105), .val (.ref b108), .unset, .unset, .unset, .unset, .unset] [])) _
    refine XS.iload X108.here hx rfl (hb hby at_67) rfl ?_
    show Steps p.tables e below (T108.setTop (mkF m 69 #[.val (.int p0), .val (.int p1), .val (.int p2), .val (.int p3), .val (.int p4), .val (.int p5), .val (.int (2 : Int32)), .val (.ref b101), .val (.ref b102), .val (.ref b103), .val (.ref b105), .val (.ref b108), .unset, .unset, .unset, .unset, .unset] [(.int (2 : Int32))])) _
    refine XS.aload X108.here hx rfl (hb hby at_69) rfl rfl ?_
    show Steps p.tables e below (T108.setTop (mkF m 71 #[.val (.int p0), .val (.int p1), .val (.int p2), .val (.int p3), .val (.int p4), .val (.int p5), .val (.int (2 : Int32)), .val (.ref b101), .val (.ref b102), .val (.ref b103), .val (.ref b105), .val (.ref b108), .unset, .unset, .unset, .unset, .unset] [(.ref b101), (.int (2 : Int32))])) _
    refine XS.aload X108.here hx rfl (hb hby at_71) rfl rfl ?_
    show Steps p.tables e below (T108.setTop (mkF m 73 #[.val (.int p0), .val (.int p1), .val (.int p2), .val (.int p3), .val (.int p4), .val (.int p5), .val (.int (2 : Int32)), .val (.ref b101), .val (.ref b102), .val (.ref b103), .val (.ref b105), .val (.ref b108), .unset, .unset, .unset, .unset, .unset] [(.ref b102), (.ref b101), (.int (2 : Int32))])) _
    refine XS.aload X108.here hx rfl (hb hby at_73) rfl rfl ?_
    show Steps p.tables e below (T108.setTop (mkF m 75 #[.val (.int p0), .val (.int p1), .val (.int p2), .val (.int p3), .val (.int p4), .val (.int p5), .val (.int (2 : Int32)), .val (.ref b101), .val (.ref b102), .val (.ref b103), .val (.ref b105), .val (.ref b108), .unset, .unset, .unset, .unset, .unset] [(.ref b103), (.ref b102), (.ref b101), (.int (2 : Int32))])) _
    refine XS.aload X108.here hx rfl (hb hby at_75) rfl rfl ?_
    show Steps p.tables e below (T108.setTop (mkF m 77 #[.val (.int p0), .val (.int p1), .val (.int p2), .val (.int p3), .val (.int p4), .val (.int p5), .val (.int (2 : Int32)), .val (.ref b101), .val (.ref b102), .val (.ref b103), .val (.ref b105), .val (.ref b108), .unset, .unset, .unset, .unset, .unset] [(.ref b105), (.ref b103), (.ref b102), (.ref b101), (.int (2 : Int32))])) _
    refine XS.aload X108.here hx rfl (hb hby at_77) rfl rfl ?_
    show Steps p.tables e below (T108.setTop (mkF m 79 #[.val (.int p0), .val (.int p1), .val (.int p2), .val (.int p3), .val (.int p4), .val (.int p5), .val (.int (2 : Int32)), .val (.ref b101), .val (.ref b102), .val (.ref b103), .val (.ref b105), .val (.ref b108), .unset, .unset, .unset, .unset, .unset] [(.ref b108), (.ref b105), (.ref b103), (.ref b102), (.ref b101), (.int (2 : Int32))])) _
    refine st116 _ ?_
    show Steps p.tables e below (T116.setTop (mkF m 82 #[.val (.int p0), .val (.int p1), .val (.int p2), .val (.int p3), .val (.int p4), .val (.int p5), .val (.int (2 : Int32)), .val (.ref b101), .val (.ref b102), .val (.ref b103), .val (.ref b105), .val (.ref b108), .unset, .unset, .unset, .unset, .unset] [(.ref b116)])) _
    refine XS.astore X116.here hx rfl (hb hby at_82) rfl rfl (l' := #[.val (.int p0), .val (.int p1), .val (.int p2), .val (.int p3), .val (.int p4), .val (.int p5), .val (.int (2 : Int32)), .val (.ref b101), .val (.ref b102), .val (.ref b103), .val (.ref b105), .val (.ref b108), .val (.ref b116), .unset, .unset, .unset, .unset]) rfl ?_
    show Steps p.tables e below (T116.setTop (mkF m 84 #[.val (.int p0), .val (.int p1), .val (.int p2), .val (.int p3), .val (.int p4), .val (.int p5), .val (.int (2 : Int32)), .val (.ref b101), .val (.ref b102), .val (.ref b103), .val (.ref b105), .val (.ref b108), .val (.ref b116), .unset, .unset, .unset, .unset] [])) _
    refine st117 _ ?_
    show Steps p.tables e below (T117.setTop (mkF m 87 #[.val (.int p0), .val (.int p1), .val (.int p2), .val (.int p3), .val (.int p4), .val (.int p5), .val (.int (2 : Int32)), .val (.ref b101), .val (.ref b102), .val (.ref b103), .val (.ref b105), .val (.ref b108), .val (.ref b116), .unset, .unset, .unset, .unset] [(.ref b117)])) _
    refine XS.dup X117.here hx rfl (hb hby at_87) rfl rfl ?_
    show Steps p.tables e below (T117.setTop (mkF m 88 #[.val (.int p0), .val (.int p1), .val (.int p2), .val (.int p3), .val (.int p4), .val (.int p5), .val (.int (2 : Int32)), .val (.ref b101), .val (.ref b102), .val (.ref b103), .val (.ref b105), .val (.ref b108), .val (.ref b116), .unset, .unset, .unset, .unset] [(.ref b117), (.ref b117)])) _
    refine XS.aload X117.here hx rfl (hb hby at_88) rfl rfl ?_
    show Steps p.tables e below (T117.setTop (mkF m 90 #[.val (.int p0), .val (.int p1), .val (.int p2), .val (.int p3), .val (.int p4), .val (.int p5), .val (.int (2 : Int32)), .val (.ref b101), .val (.ref b102), .val (.ref b103), .val (.ref b105), .val (.ref b108), .val (.ref b116), .unset, .unset, .unset, .unset] [(.ref b116), (.ref b117), (.ref b117)])) _
    refine st123.trans ?_
    show Steps p.tables e below (T123.setTop (mkF m 93 #[.val (.int p0), .val (.int p1), .val (.int p2), .val (.int p3), .val (.int p4), .val (.int p5), .val (.int (2 : Int32)), .val (.ref b101), .val (.ref b102), .val (.ref b103), .val (.ref b105), .val (.ref b108), .val (.ref b116), .unset, .unset, .unset, .unset] [(.ref b117)])) _
    refine XS.astore X123.here hx rfl (hb hby at_93) rfl rfl (l' := #[.val (.int p0), .val (.int p1), .val (.int p2), .val (.int p3), .val (.int p4), .val (.int p5), .val (.int (2 : Int32)), .val (.ref b101), .val (.ref b102), .val (.ref b103), .val (.ref b105), .val (.ref b108), .val (.ref b116), .val (.ref b117), .unset, .unset, .unset]) rfl ?_
    show Steps p.tables e below (T123.setTop (mkF m 95 #[.val (.int p0), .val (.int p1), .val (.int p2), .val (.int p3), .val (.int p4), .val (.int p5), .val (.int (2 : Int32)), .val (.ref b101), .val (.ref b102), .val (.ref b103), .val (.ref b105), .val (.ref b108), .val (.ref b116), .val (.ref b117), .unset, .unset, .unset] [])) _
    refine XS.aload X123.here hx rfl (hb hby at_95) rfl rfl ?_
    show Steps p.tables e below (T123.setTop (mkF m 97 #[.val (.int p0), .val (.int p1), .val (.int p2), .val (.int p3), .val (.int p4), .val (.int p5), .val (.int (2 : Int32)), .val (.ref b101), .val (.ref b102), .val (.ref b103), .val (.ref b105), .val (.ref b108), .val (.ref b116), .val (.ref b117), .unset, .unset, .unset] [(.ref b117)])) _
    refine st125.trans ?_
    show Steps p.tables e below (T125.setTop (mkF m 100 #[.val (.int p0), .val (.int p1), .val (.int p2), .val (.int p3), .val (.int p4), .val (.int p5), .val (.int (2 : Int32)), .val (.ref b101), .val (.ref b102), .val (.ref b103), .val (.ref b105), .val (.ref b108), .val (.ref b116), .val (.ref b117), .unset, .unset, .unset] [(.int (1 : Int32))])) _
    refine XS.ifYes X125.here hx rfl (pc0 := 100) (pc' := 105) rfl (hb hby at_100) rfl ((if0 _ _).trans (feq (by decide : ¬ (1 : Int32) = (0 : Int32))).2) (by decide) (by decide) ?_
    show Steps p.tables e below (T125.setTop (mkF m 105 #[.val (.int p0), .val (.int p1), .val (.int p2), .val (.int p3), .val (.int p4), .val (.int p5), .val (.int (2 : Int32)), .val (.ref b101), .val (.ref b102), .val (.ref b103), .val (.ref b105), .val (.ref b108), .val (.ref b116), .val (.ref b117), .unset, .unset, .unset] [])) _
    refine XS.aload X125.here hx rfl (hb hby at_105) rfl rfl ?_
    show Steps p.tables e below (T125.setTop (mkF m 107 #[.val (.int p0), .val (.int p1), .val (.int p2), .val (.int p3), .val (.int p4), .val (.int p5), .val (.int (2 : Int32)), .val (.ref b101), .val (.ref b102), .val (.ref b103), .val (.ref b105), .val (.ref b108), .val (.ref b116), .val (.ref b117), .unset, .unset, .unset] [(.ref b117)])) _
    refine st126.trans ?_
    show Steps p.tables e below (T126.setTop (mkF m 110 #[.val (.int p0), .val (.int p1), .val (.int p2), .val (.int p3), .val (.int p4), .val (.int p5), .val (.int (2 : Int32)), .val (.ref b101), .val (.ref b102), .val (.ref b103), .val (.ref b105), .val (.ref b108), .val (.ref b116), .val (.ref b117), .unset, .unset, .unset] [(.ref b101)])) _
    refine XS.astore X126.here hx rfl (hb hby at_110) rfl rfl (l' := #[.val (.int p0), .val (.int p1), .val (.int p2), .val (.int p3), .val (.int p4), .val (.int p5), .val (.int (2 : Int32)), .val (.ref b101), .val (.ref b102), .val (.ref b103), .val (.ref b105), .val (.ref b108), .val (.ref b116), .val (.ref b117), .val (.ref b101), .unset, .unset]) rfl ?_
    show Steps p.tables e below (T126.setTop (mkF m 112 #[.val (.int p0), .val (.int p1), .val (.int p2), .val (.int p3), .val (.int p4), .val (.int p5), .val (.int (2 : Int32)), .val (.ref b101), .val (.ref b102), .val (.ref b103), .val (.ref b105), .val (.ref b108), .val (.ref b116), .val (.ref b117), .val (.ref b101), .unset, .unset] [])) _
    refine XS.aload X126.here hx rfl (hb hby at_112) rfl rfl ?_
    show Steps p.tables e below (T126.setTop (mkF m 114 #[.val (.int p0), .val (.int p1), .val (.int p2), .val (.int p3), .val (.int p4), .val (.int p5), .val (.int (2 : Int32)), .val (.ref b101), .val (.ref b102), .val (.ref b103), .val (.ref b105), .val (.ref b108), .val (.ref b116), .val (.ref b117), .val (.ref b101), .unset, .unset] [(.ref b101)])) _
    refine XS.aload X126.here hx rfl (hb hby at_114) rfl rfl ?_
    show Steps p.tables e below (T126.setTop (mkF m 116 #[.val (.int p0), .val (.int p1), .val (.int p2), .val (.int p3), .val (.int p4), .val (.int p5), .val (.int (2 : Int32)), .val (.ref b101), .val (.ref b102), .val (.ref b103), .val (.ref b105), .val (.ref b108), .val (.ref b116), .val (.ref b117), .val (.ref b101), .unset, .unset] [(.ref b101), (.ref b101)])) _
    refine st127.trans ?_
    show Steps p.tables e below (T127.setTop (mkF m 119 #[.val (.int p0), .val (.int p1), .val (.int p2), .val (.int p3), .val (.int p4), .val (.int p5), .val (.int (2 : Int32)), .val (.ref b101), .val (.ref b102), .val (.ref b103), .val (.ref b105), .val (.ref b108), .val (.ref b116), .val (.ref b117), .val (.ref b101), .unset, .unset] [(.int (1 : Int32))])) _
    refine XS.ifYes X127.here hx rfl (pc0 := 119) (pc' := 124) rfl (hb hby at_119) rfl ((if0 _ _).trans (feq (by decide : ¬ (1 : Int32) = (0 : Int32))).2) (by decide) (by decide) ?_
    show Steps p.tables e below (T127.setTop (mkF m 124 #[.val (.int p0), .val (.int p1), .val (.int p2), .val (.int p3), .val (.int p4), .val (.int p5), .val (.int (2 : Int32)), .val (.ref b101), .val (.ref b102), .val (.ref b103), .val (.ref b105), .val (.ref b108), .val (.ref b116), .val (.ref b117), .val (.ref b101), .unset, .unset] [])) _
    refine XS.aload X127.here hx rfl (hb hby at_124) rfl rfl ?_
    show Steps p.tables e below (T127.setTop (mkF m 126 #[.val (.int p0), .val (.int p1), .val (.int p2), .val (.int p3), .val (.int p4), .val (.int p5), .val (.int (2 : Int32)), .val (.ref b101), .val (.ref b102), .val (.ref b103), .val (.ref b105), .val (.ref b108), .val (.ref b116), .val (.ref b117), .val (.ref b101), .unset, .unset] [(.ref b117)])) _
    refine st130.trans ?_
    show Steps p.tables e below (T130.setTop (mkF m 129 #[.val (.int p0), .val (.int p1), .val (.int p2), .val (.int p3), .val (.int p4), .val (.int p5), .val (.int (2 : Int32)), .val (.ref b101), .val (.ref b102), .val (.ref b103), .val (.ref b105), .val (.ref b108), .val (.ref b116), .val (.ref b117), .val (.ref b101), .unset, .unset] [(.int (0 : Int32))])) _
    refine XS.iload X130.here hx rfl (hb hby at_129) rfl ?_
    show Steps p.tables e below (T130.setTop (mkF m 131 #[.val (.int p0), .val (.int p1), .val (.int p2), .val (.int p3), .val (.int p4), .val (.int p5), .val (.int (2 : Int32)), .val (.ref b101), .val (.ref b102), .val (.ref b103), .val (.ref b105), .val (.ref b108), .val (.ref b116), .val (.ref b117), .val (.ref b101), .unset, .unset] [(.int (2 : Int32)), (.int (0 : Int32))])) _
    refine XS.iconst X130.here hx rfl (hb hby at_131) ?_
    show Steps p.tables e below (T130.setTop (mkF m 132 #[.val (.int p0), .val (.int p1), .val (.int p2), .val (.int p3), .val (.int p4), .val (.int p5), .val (.int (2 : Int32)), .val (.ref b101), .val (.ref b102), .val (.ref b103), .val (.ref b105), .val (.ref b108), .val (.ref b116), .val (.ref b117), .val (.ref b101), .unset, .unset] [(.int (2 : Int32)), (.int (2 : Int32)), (.int (0 : Int32))])) _
    refine XS.icmpYes X130.here hx rfl (pc0 := 132) (pc' := 139) rfl (hb hby at_132) rfl (flt (by decide : ¬ (2 : Int32) < (2 : Int32))).2.2.2 (by decide) (by decide) ?_
    show Steps p.tables e below (T130.setTop (mkF m 139 #[.val (.int p0), .val (.int p1), .val (.int p2), .val (.int p3), .val (.int p4), .val (.int p5), .val (.int (2 : Int32)), .val (.ref b101), .val (.ref b102), .val (.ref b103), .val (.ref b105), .val (.ref b108), .val (.ref b116), .val (.ref b117), .val (.ref b101), .unset, .unset] [(.int (0 : Int32))])) _
    refine XS.iconst X130.here hx rfl (hb hby at_139) ?_
    show Steps p.tables e below (T130.setTop (mkF m 140 #[.val (.int p0), .val (.int p1), .val (.int p2), .val (.int p3), .val (.int p4), .val (.int p5), .val (.int (2 : Int32)), .val (.ref b101), .val (.ref b102), .val (.ref b103), .val (.ref b105), .val (.ref b108), .val (.ref b116), .val (.ref b117), .val (.ref b101), .unset, .unset] [(.int (0 : Int32)), (.int (0 : Int32))])) _
    refine XS.icmpYes X130.here hx rfl (pc0 := 140) (pc' := 145) rfl (hb hby at_140) rfl (teq rfl).1 (by decide) (by decide) ?_
    show Steps p.tables e below (T130.setTop (mkF m 145 #[.val (.int p0), .val (.int p1), .val (.int p2), .val (.int p3), .val (.int p4), .val (.int p5), .val (.int (2 : Int32)), .val (.ref b101), .val (.ref b102), .val (.ref b103), .val (.ref b105), .val (.ref b108), .val (.ref b116), .val (.ref b117), .val (.ref b101), .unset, .unset] [])) _
    refine XS.iload X130.here hx rfl (hb hby at_145) rfl ?_
    show Steps p.tables e below (T130.setTop (mkF m 147 #[.val (.int p0), .val (.int p1), .val (.int p2), .val (.int p3), .val (.int p4), .val (.int p5), .val (.int (2 : Int32)), .val (.ref b101), .val (.ref b102), .val (.ref b103), .val (.ref b105), .val (.ref b108), .val (.ref b116), .val (.ref b117), .val (.ref b101), .unset, .unset] [(.int (2 : Int32))])) _
    refine XS.iconst X130.here hx rfl (hb hby at_147) ?_
    show Steps p.tables e below (T130.setTop (mkF m 148 #[.val (.int p0), .val (.int p1), .val (.int p2), .val (.int p3), .val (.int p4), .val (.int p5), .val (.int (2 : Int32)), .val (.ref b101), .val (.ref b102), .val (.ref b103), .val (.ref b105), .val (.ref b108), .val (.ref b116), .val (.ref b117), .val (.ref b101), .unset, .unset] [(.int (2 : Int32)), (.int (2 : Int32))])) _
    refine XS.icmpNo X130.here hx rfl (hb hby at_148) rfl (flt (by decide : ¬ (2 : Int32) < (2 : Int32))).1 ?_
    show Steps p.tables e below (T130.setTop (mkF m 151 #[.val (.int p0), .val (.int p1), .val (.int p2), .val (.int p3), .val (.int p4), .val (.int p5), .val (.int (2 : Int32)), .val (.ref b101), .val (.ref b102), .val (.ref b103), .val (.ref b105), .val (.ref b108), .val (.ref b116), .val (.ref b117), .val (.ref b101), .unset, .unset] [])) _
    refine XS.aload X130.here hx rfl (hb hby at_151) rfl rfl ?_
    show Steps p.tables e below (T130.setTop (mkF m 153 #[.val (.int p0), .val (.int p1), .val (.int p2), .val (.int p3), .val (.int p4), .val (.int p5), .val (.int (2 : Int32)), .val (.ref b101), .val (.ref b102), .val (.ref b103), .val (.ref b105), .val (.ref b108), .val (.ref b116), .val (.ref b117), .val (.ref b101), .unset, .unset] [(.ref b117)])) _
    refine st131.trans ?_
    show Steps p.tables e below (T131.setTop (mkF m 156 #[.val (.int p0), .val (.int p1), .val (.int p2), .val (.int p3), .val (.int p4), .val (.int p5), .val (.int (2 : Int32)), .val (.ref b101), .val (.ref b102), .val (.ref b103), .val (.ref b105), .val (.ref b108), .val (.ref b116), .val (.ref b117), .val (.ref b101), .unset, .unset] [(.ref b102)])) _
    refine XS.aload X131.here hx rfl (hb hby at_156) rfl rfl ?_
    show Steps p.tables e below (T131.setTop (mkF m 158 #[.val (.int p0), .val (.int p1), .val (.int p2), .val (.int p3), .val (.int p4), .val (.int p5), .val (.int (2 : Int32)), .val (.ref b101), .val (.ref b102), .val (.ref b103), .val (.ref b105), .val (.ref b108), .val (.ref b116), .val (.ref b117), .val (.ref b101), .unset, .unset] [(.ref b102), (.ref b102)])) _
    refine st132.trans ?_
    show Steps p.tables e below (T132.setTop (mkF m 161 #[.val (.int p0), .val (.int p1), .val (.int p2), .val (.int p3), .val (.int p4), .val (.int p5), .val (.int (2 : Int32)), .val (.ref b101), .val (.ref b102), .val (.ref b103), .val (.ref b105), .val (.ref b108), .val (.ref b116), .val (.ref b117), .val (.ref b101), .unset, .unset] [(.int (1 : Int32))])) _
    refine XS.ifYes X132.here hx rfl (pc0 := 161) (pc' := 166) rfl (hb hby at_161) rfl ((if0 _ _).trans (feq (by decide : ¬ (1 : Int32) = (0 : Int32))).2) (by decide) (by decide) ?_
    show Steps p.tables e below (T132.setTop (mkF m 166 #[.val (.int p0), .val (.int p1), .val (.int p2), .val (.int p3), .val (.int p4), .val (.int p5), .val (.int (2 : Int32)), .val (.ref b101), .val (.ref b102), .val (.ref b103), .val (.ref b105), .val (.ref b108), .val (.ref b116), .val (.ref b117), .val (.ref b101), .unset, .unset] [])) _
    refine XS.iload X132.here hx rfl (hb hby at_166) rfl ?_
    show Steps p.tables e below (T132.setTop (mkF m 168 #[.val (.int p0), .val (.int p1), .val (.int p2), .val (.int p3), .val (.int p4), .val (.int p5), .val (.int (2 : Int32)), .val (.ref b101), .val (.ref b102), .val (.ref b103), .val (.ref b105), .val (.ref b108), .val (.ref b116), .val (.ref b117), .val (.ref b101), .unset, .unset] [(.int (2 : Int32))])) _
    refine XS.iconst X132.here hx rfl (hb hby at_168) ?_
    show Steps p.tables e below (T132.setTop (mkF m 169 #[.val (.int p0), .val (.int p1), .val (.int p2), .val (.int p3), .val (.int p4), .val (.int p5), .val (.int (2 : Int32)), .val (.ref b101), .val (.ref b102), .val (.ref b103), .val (.ref b105), .val (.ref b108), .val (.ref b116), .val (.ref b117), .val (.ref b101), .unset, .unset] [(.int (3 : Int32)), (.int (2 : Int32))])) _
    refine XS.icmpNo X132.here hx rfl (hb hby at_169) rfl (tlt (by decide : (2 : Int32) < (3 : Int32))).2.1 ?_
    show Steps p.tables e below (T132.setTop (mkF m 172 #[.val (.int p0), .val (.int p1), .val (.int p2), .val (.int p3), .val (.int p4), .val (.int p5), .val (.int (2 : Int32)), .val (.ref b101), .val (.ref b102), .val (.ref b103), .val (.ref b105), .val (.ref b108), .val (.ref b116), .val (.ref b117), .val (.ref b101), .unset, .unset] [])) _
    refine XS.iconst X132.here hx rfl (hb hby at_172) ?_
    show Steps p.tables e below (T132.setTop (mkF m 173 #[.val (.int p0), .val (.int p1), .val (.int p2), .val (.int p3), .val (.int p4), .val (.int p5), .val (.int (2 : Int32)), .val (.ref b101), .val (.ref b102), .val (.ref b103), .val (.ref b105), .val (.ref b108), .val (.ref b116), .val (.ref b117), .val (.ref b101), .unset, .unset] [(.int (1 : Int32))])) _
    exact retN X132 hx (t := .boolean) Bd.returns (by simp) (hb hby at_173) hr
  · show QLaw n0 _ T132.heap _
    rw [e132]
    exact ⟨rfl, N132⟩
set_option maxRecDepth 65536 in
set_option maxHeartbeats 40000000 in
theorem rm0_3 (l : Launch) (Z : State) (a0 : Array Value) (hw : ∀ d ∈ tables_1, d.before a0 Z = true) (ws : List Jvm.Cond) (p0 : Int32) (p1 : Int32) (p2 : Int32) (p3 : Int32) (p4 : Int32) (p5 : Int32) (cs : Int32) (h0 : Heap) (n0 : Nat) (Z0 : n0 ≤ h0.size) (Sc : Sta Z Z.heap "java/lang/String" "COMPACT_STRINGS" "Z" (.int cs)) (hcs : ¬ (cs = (0 : Int32))) (O0 : Old Z n0 h0) (hN : (((p0 &&& (2147483647 : Int32)) % (5 : Int32)) + (1 : Int32)) = (3 : Int32)) :
    MetFree l x (head1 (Jvm.Cond.code x code maxLocals ret :: ws) room_1) (fun a U => a = #[(.int p0), (.int p1), (.int p2), (.int p3), (.int p4), (.int p5)] ∧ Z.Warmed39 U.vm ∧ U.heap = h0) (fun _ _ _ _ _ => True) (fun _ U o U' => ∃ v L, o = .returned v ∧ QLaw n0 v U'.heap L ∧ FrameEnd U o U' L room_1.cells room_1.slots) := by
  refine MetFree.of_bodySF (plainFor_of_name own_pn2) hisR ?_
  intro p e s m args below meth c s₁ Bd hml0 hP hK
  obtain ⟨rfl, hZ, hh⟩ := hP
  have hx := Bd.exec
  have hby := Bd.bytes
  have hml : c.maxLocals = 17 := hml0
  have hown : s.vm.findClass "com/example/seglport/seglport/options/OptionReaderNextPinLaw" = some m.cls := findClass_of_methodNamed Bd.named
  have hnm := (name_of_methodNamed Bd.named Bd.method).1
  have X0 : Stand p l e room_1 s m #[(.int p0), (.int p1), (.int p2), (.int p3), (.int p4), (.int p5)] below meth c s₁ [] 0 0 := Stand.of_body Bd
  have e0 : s₁.heap = h0 := by rw [← hh, Bd.state]; rfl
  have N0 := Fr.nil n0
  have ef : entryFrame m #[(.int p0), (.int p1), (.int p2), (.int p3), (.int p4), (.int p5)] maxLocals = mkF m 0 #[.val (.int p0), .val (.int p1), .val (.int p2), .val (.int p3), .val (.int p4), .val (.int p5), .unset, .unset, .unset, .unset, .unset, .unset, .unset, .unset, .unset, .unset, .unset] [] := by first | (simp [entryFrame, mkF, argsToLocals, Value.category, maxLocals]; done) | rfl
  have pre0 : ∀ t, Steps p.tables e below (s₁.setTop (mkF m 0 #[.val (.int p0), .val (.int p1), .val (.int p2), .val (.int p3), .val (.int p4), .val (.int p5), .unset, .unset, .unset, .unset, .unset, .unset, .unset, .unset, .unset, .unset, .unset] [])) t → Steps p.tables e below (s₁.setTop (entryFrame m #[(.int p0), (.int p1), (.int p2), (.int p3), (.int p4), (.int p5)] maxLocals)) t := fun t k => castTop ef k
  obtain ⟨_, _, ⟨T101, L101, k101, n101⟩, -, X101, ⟨Lc101, hQ101, l101, y101, z101⟩, st101⟩ := Jvm.LawKit.callS X0 hx (y := (⟨"java/lang/String", "valueOf", "(C)Ljava/lang/String;"⟩ : MethodName)) hown (mvT hZ (hw _ (List.mem_of_getElem? (i := 1) rfl))) (mvT hZ (hw _ (List.mem_of_getElem? (i := 2) rfl))) (mvT hZ (hw _ (List.mem_of_getElem? (i := 3) rfl))) (mvT hZ (hw _ (List.mem_of_getElem? (i := 4) rfl))) (by decide) (backOf (W := 0) (rm_val l Z a0 hw [] ((p1 &&& (255 : Int32)).toUInt32.toUInt16.toUInt32.toInt32) cs h0 n0 Z0 Sc hcs O0 (own_c _)) hZ (hw _ (List.mem_of_getElem? (i := 4) rfl)) (hw _ (List.mem_of_getElem? (i := 3) rfl)) (by decide) (by decide)) (g := (mkF m 16 #[.val (.int p0), .val (.int p1), .val (.int p2), .val (.int p3), .val (.int p4), .val (.int p5), .val (.int (3 : Int32)), .unset, .unset, .unset, .unset, .unset, .unset, .unset, .unset, .unset, .unset] [(.int ((p1 &&& (255 : Int32)).toUInt32.toUInt16.toUInt32.toInt32))])) rfl (by rw [hml]; rfl) (argsL := [(.int ((p1 &&& (255 : Int32)).toUInt32.toUInt16.toUInt32.toInt32))]) (rest := []) (lenOf own_pd3 rfl) rfl (by show 2 * 0 + _ ≤ _; exact Nat.le_of_eq rfl) (hb hby at_16) (fun _ _ => ⟨rfl, e0, (by decide : 0 + 2 ≤ _), (by decide : 0 + 5 ≤ _)⟩)
  dsimp only [Pt.U, Pt.locs, Pt.cells, Pt.slots] at X101 l101 y101 z101 st101 hQ101
  subst l101 y101 z101
  obtain ⟨b101, rfl, Nq101, K101, by_b101, Ex101⟩ := hQ101
  have g_b101 : n0 ≤ b101 := Nat.le_trans Z0 by_b101
  have sz_b101 : h0.size ≤ b101 := Nat.le_trans (Keep.refl h0 []).1 by_b101
  have Z101 : n0 ≤ T101.heap.size := Nat.le_trans Z0 K101.1
  have KC101 : Keep h0 T101.heap [] := (Keep.refl h0 []).trans K101 all0
  have N101 := Fr.app N0 Nq101
  obtain ⟨_, _, ⟨T102, L102, k102, n102⟩, -, X102, ⟨Lc102, hQ102, l102, y102, z102⟩, st102⟩ := Jvm.LawKit.callS X101 hx (y := (⟨"java/lang/String", "valueOf", "(C)Ljava/lang/String;"⟩ : MethodName)) hown (mvT hZ (hw _ (List.mem_of_getElem? (i := 1) rfl))) (mvT hZ (hw _ (List.mem_of_getElem? (i := 2) rfl))) (mvT hZ (hw _ (List.mem_of_getElem? (i := 3) rfl))) (mvT hZ (hw _ (List.mem_of_getElem? (i := 4) rfl))) (by decide) (backOf (W := 0) (rm_val l Z a0 hw [] ((p2 &&& (255 : Int32)).toUInt32.toUInt16.toUInt32.toInt32) cs T101.heap n0 Z101 Sc hcs (O0.keep K101 all0) (own_c _)) hZ (hw _ (List.mem_of_getElem? (i := 4) rfl)) (hw _ (List.mem_of_getElem? (i := 3) rfl)) (by decide) (by decide)) (g := (mkF m 27 #[.val (.int p0), .val (.int p1), .val (.int p2), .val (.int p3), .val (.int p4), .val (.int p5), .val (.int (3 : Int32)), .val (.ref b101), .unset, .unset, .unset, .unset, .unset, .unset, .unset, .unset, .unset] [(.int ((p2 &&& (255 : Int32)).toUInt32.toUInt16.toUInt32.toInt32))])) rfl (by rw [hml]; rfl) (argsL := [(.int ((p2 &&& (255 : Int32)).toUInt32.toUInt16.toUInt32.toInt32))]) (rest := []) (lenOf own_pd3 rfl) rfl (by show 2 * 0 + _ ≤ _; exact Nat.le_of_eq rfl) (hb hby at_27) (fun _ _ => ⟨rfl, rfl, (by decide : 2 + 2 ≤ _), (by decide : 5 + 5 ≤ _)⟩)
  dsimp only [Pt.U, Pt.locs, Pt.cells, Pt.slots] at X102 l102 y102 z102 st102 hQ102
  subst l102 y102 z102
  obtain ⟨b102, rfl, Nq102, K102, by_b102, Ex102⟩ := hQ102
  have ne_b101_b102 : b101 ≠ b102 := Nat.ne_of_lt (Nat.lt_of_lt_of_le Ex101.lt by_b102)
  have g_b102 : n0 ≤ b102 := Nat.le_trans Z101 by_b102
  have sz_b102 : h0.size ≤ b102 := Nat.le_trans KC101.1 by_b102
  have Z102 : n0 ≤ T102.heap.size := Nat.le_trans Z101 K102.1
  have KC102 : Keep h0 T102.heap [] := KC101.trans K102 all0
  have N102 := Fr.app N101 Nq102
  obtain ⟨_, _, ⟨T103, L103, k103, n103⟩, -, X103, ⟨Lc103, hQ103, l103, y103, z103⟩, st103⟩ := Jvm.LawKit.callS X102 hx (y := (⟨"java/lang/String", "valueOf", "(C)Ljava/lang/String;"⟩ : MethodName)) hown (mvT hZ (hw _ (List.mem_of_getElem? (i := 1) rfl))) (mvT hZ (hw _ (List.mem_of_getElem? (i := 2) rfl))) (mvT hZ (hw _ (List.mem_of_getElem? (i := 3) rfl))) (mvT hZ (hw _ (List.mem_of_getElem? (i := 4) rfl))) (by decide) (backOf (W := 0) (rm_val l Z a0 hw [] ((p3 &&& (255 : Int32)).toUInt32.toUInt16.toUInt32.toInt32) cs T102.heap n0 Z102 Sc hcs ((O0.keep K101 all0).keep K102 all0) (own_c _)) hZ (hw _ (List.mem_of_getElem? (i := 4) rfl)) (hw _ (List.mem_of_getElem? (i := 3) rfl)) (by decide) (by decide)) (g := (mkF m 38 #[.val (.int p0), .val (.int p1), .val (.int p2), .val (.int p3), .val (.int p4), .val (.int p5), .val (.int (3 : Int32)), .val (.ref b101), .val (.ref b102), .unset, .unset, .unset, .unset, .unset, .unset, .unset, .unset] [(.int ((p3 &&& (255 : Int32)).toUInt32.toUInt16.toUInt32.toInt32))])) rfl (by rw [hml]; rfl) (argsL := [(.int ((p3 &&& (255 : Int32)).toUInt32.toUInt16.toUInt32.toInt32))]) (rest := []) (lenOf own_pd3 rfl) rfl (by show 2 * 0 + _ ≤ _; exact Nat.le_of_eq rfl) (hb hby at_38) (fun _ _ => ⟨rfl, rfl, (by decide : 4 + 2 ≤ _), (by decide : 10 + 5 ≤ _)⟩)
  dsimp only [Pt.U, Pt.locs, Pt.cells, Pt.slots] at X103 l103 y103 z103 st103 hQ103
  subst l103 y103 z103
  obtain ⟨b103, rfl, Nq103, K103, by_b103, Ex103⟩ := hQ103
  have f104 := (Ex101.keep K102)
  have ne_b101_b103 : b101 ≠ b103 := Nat.ne_of_lt (Nat.lt_of_lt_of_le f104.lt by_b103)
  have ne_b102_b103 : b102 ≠ b103 := Nat.ne_of_lt (Nat.lt_of_lt_of_le Ex102.lt by_b103)
  have g_b103 : n0 ≤ b103 := Nat.le_trans Z102 by_b103
  have sz_b103 : h0.size ≤ b103 := Nat.le_trans KC102.1 by_b103
  have Z103 : n0 ≤ T103.heap.size := Nat.le_trans Z102 K103.1
  have KC103 : Keep h0 T103.heap [] := KC102.trans K103 all0
  have N103 := Fr.app N102 Nq103
  obtain ⟨_, _, ⟨T105, L105, k105, n105⟩, -, X105, ⟨Lc105, hQ105, l105, y105, z105⟩, st105⟩ := Jvm.LawKit.callS X103 hx (y := (⟨"java/lang/String", "valueOf", "(C)Ljava/lang/String;"⟩ : MethodName)) hown (mvT hZ (hw _ (List.mem_of_getElem? (i := 1) rfl))) (mvT hZ (hw _ (List.mem_of_getElem? (i := 2) rfl))) (mvT hZ (hw _ (List.mem_of_getElem? (i := 3) rfl))) (mvT hZ (hw _ (List.mem_of_getElem? (i := 4) rfl))) (by decide) (backOf (W := 0) (rm_val l Z a0 hw [] ((p4 &&& (255 : Int32)).toUInt32.toUInt16.toUInt32.toInt32) cs T103.heap n0 Z103 Sc hcs (((O0.keep K101 all0).keep K102 all0).keep K103 all0) (own_c _)) hZ (hw _ (List.mem_of_getElem? (i := 4) rfl)) (hw _ (List.mem_of_getElem? (i := 3) rfl)) (by decide) (by decide)) (g := (mkF m 50 #[.val (.int p0), .val (.int p1), .val (.int p2), .val (.int p3), .val (.int p4), .val (.int p5), .val (.int (3 : Int32)), .val (.ref b101), .val (.ref b102), .val (.ref b103), .unset, .unset, .unset, .unset, .unset, .unset, .unset] [(.int ((p4 &&& (255 : Int32)).toUInt32.toUInt16.toUInt32.toInt32))])) rfl (by rw [hml]; rfl) (argsL := [(.int ((p4 &&& (255 : Int32)).toUInt32.toUInt16.toUInt32.toInt32))]) (rest := []) (lenOf own_pd3 rfl) rfl (by show 2 * 0 + _ ≤ _; exact Nat.le_of_eq rfl) (hb hby at_50) (fun _ _ => ⟨rfl, rfl, (by decide : 6 + 2 ≤ _), (by decide : 15 + 5 ≤ _)⟩)
  dsimp only [Pt.U, Pt.locs, Pt.cells, Pt.slots] at X105 l105 y105 z105 st105 hQ105
  subst l105 y105 z105
  obtain ⟨b105, rfl, Nq105, K105, by_b105, Ex105⟩ := hQ105
  have f106 := (f104.keep K103)
  have f107 := (Ex102.keep K103)
  have ne_b101_b105 : b101 ≠ b105 := Nat.ne_of_lt (Nat.lt_of_lt_of_le f106.lt by_b105)
  have ne_b102_b105 : b102 ≠ b105 := Nat.ne_of_lt (Nat.lt_of_lt_of_le f107.lt by_b105)
  have ne_b103_b105 : b103 ≠ b105 := Nat.ne_of_lt (Nat.lt_of_lt_of_le Ex103.lt by_b105)
  have g_b105 : n0 ≤ b105 := Nat.le_trans Z103 by_b105
  have sz_b105 : h0.size ≤ b105 := Nat.le_trans KC103.1 by_b105
  have Z105 : n0 ≤ T105.heap.size := Nat.le_trans Z103 K105.1
  have KC105 : Keep h0 T105.heap [] := KC103.trans K105 all0
  have N105 := Fr.app N103 Nq105
  obtain ⟨_, _, ⟨T108, L108, k108, n108⟩, -, X108, ⟨Lc108, hQ108, l108, y108, z108⟩, st108⟩ := Jvm.LawKit.callS X105 hx (y := (⟨"java/lang/String", "valueOf", "(C)Ljava/lang/String;"⟩ : MethodName)) hown (mvT hZ (hw _ (List.mem_of_getElem? (i := 1) rfl))) (mvT hZ (hw _ (List.mem_of_getElem? (i := 2) rfl))) (mvT hZ (hw _ (List.mem_of_getElem? (i := 3) rfl))) (mvT hZ (hw _ (List.mem_of_getElem? (i := 4) rfl))) (by decide) (backOf (W := 0) (rm_val l Z a0 hw [] ((p5 &&& (255 : Int32)).toUInt32.toUInt16.toUInt32.toInt32) cs T105.heap n0 Z105 Sc hcs ((((O0.keep K101 all0).keep K102 all0).keep K103 all0).keep K105 all0) (own_c _)) hZ (hw _ (List.mem_of_getElem? (i := 4) rfl)) (hw _ (List.mem_of_getElem? (i := 3) rfl)) (by decide) (by decide)) (g := (mkF m 62 #[.val (.int p0), .val (.int p1), .val (.int p2), .val (.int p3), .val (.int p4), .val (.int p5), .val (.int (3 : Int32)), .val (.ref b101), .val (.ref b102), .val (.ref b103), .val (.ref b105), .unset, .unset, .unset, .unset, .unset, .unset] [(.int ((p5 &&& (255 : Int32)).toUInt32.toUInt16.toUInt32.toInt32))])) rfl (by rw [hml]; rfl) (argsL := [(.int ((p5 &&& (255 : Int32)).toUInt32.toUInt16.toUInt32.toInt32))]) (rest := []) (lenOf own_pd3 rfl) rfl (by show 2 * 0 + _ ≤ _; exact Nat.le_of_eq rfl) (hb hby at_62) (fun _ _ => ⟨rfl, rfl, (by decide : 8 + 2 ≤ _), (by decide : 20 + 5 ≤ _)⟩)
  dsimp only [Pt.U, Pt.locs, Pt.cells, Pt.slots] at X108 l108 y108 z108 st108 hQ108
  subst l108 y108 z108
  obtain ⟨b108, rfl, Nq108, K108, by_b108, Ex108⟩ := hQ108
  have f109 := (f106.keep K105)
  have f110 := (f107.keep K105)
  have f111 := (Ex103.keep K105)
  have ne_b101_b108 : b101 ≠ b108 := Nat.ne_of_lt (Nat.lt_of_lt_of_le f109.lt by_b108)
  have ne_b102_b108 : b102 ≠ b108 := Nat.ne_of_lt (Nat.lt_of_lt_of_le f110.lt by_b108)
  have ne_b103_b108 : b103 ≠ b108 := Nat.ne_of_lt (Nat.lt_of_lt_of_le f111.lt by_b108)
  have ne_b105_b108 : b105 ≠ b108 := Nat.ne_of_lt (Nat.lt_of_lt_of_le Ex105.lt by_b108)
  have g_b108 : n0 ≤ b108 := Nat.le_trans Z105 by_b108
  have sz_b108 : h0.size ≤ b108 := Nat.le_trans KC105.1 by_b108
  have Z108 : n0 ≤ T108.heap.size := Nat.le_trans Z105 K108.1
  have KC108 : Keep h0 T108.heap [] := KC105.trans K108 all0
  have N108 := Fr.app N105 Nq108
  have f112 := (f109.keep K108)
  have f113 := (f110.keep K108)
  have f114 := (f111.keep K108)
  have f115 := (Ex105.keep K108)
  obtain ⟨_, _, ⟨T116, L116, k116, n116⟩, -, X116, ⟨Lc116, hQ116, l116, y116, z116⟩, st116⟩ := Jvm.LawKit.callS X108 hx (y := (⟨"com/example/seglport/seglport/options/OptionReaderNextPinLaw", "make", "(ILjava/lang/String;Ljava/lang/String;Ljava/lang/String;Ljava/lang/String;Ljava/lang/String;)[Ljava/lang/String;"⟩ : MethodName)) hown (mvT hZ (hw _ (List.mem_of_getElem? (i := 27) rfl))) (mvT hZ (hw _ (List.mem_of_getElem? (i := 28) rfl))) (mvT hZ (hw _ (List.mem_of_getElem? (i := 29) rfl))) (mvT hZ (hw _ (List.mem_of_getElem? (i := 30) rfl))) (by decide) (backOf (W := 0) (rm_make3 l Z a0 hw [] b101 b102 b103 b105 b108 T108.heap n0 Z108 f112 f113 f114 f115 Ex108) hZ (hw _ (List.mem_of_getElem? (i := 30) rfl)) (hw _ (List.mem_of_getElem? (i := 29) rfl)) (by decide) (by decide)) (g := (mkF m 79 #[.val (.int p0), .val (.int p1), .val (.int p2), .val (.int p3), .val (.int p4), .val (.int p5), .val (.int (3 : Int32)), .val (.ref b101), .val (.ref b102), .val (.ref b103), .val (.ref b105), .val (.ref b108), .unset, .unset, .unset, .unset, .unset] [(.ref b108), (.ref b105), (.ref b103), (.ref b102), (.ref b101), (.int (3 : Int32))])) rfl (by rw [hml]; rfl) (argsL := [(.int (3 : Int32)), (.ref b101), (.ref b102), (.ref b103), (.ref b105), (.ref b108)]) (rest := []) (lenOf own_pd4 rfl) rfl (by show 2 * 0 + _ ≤ _; exact Nat.le_of_eq rfl) (hb hby at_79) (fun _ _ => ⟨rfl, rfl, (by decide : 10 + 1 ≤ _), (by decide : 25 + 3 ≤ _)⟩)
  dsimp only [Pt.U, Pt.locs, Pt.cells, Pt.slots] at X116 l116 y116 z116 st116 hQ116
  subst l116 y116 z116
  obtain ⟨b116, rfl, Nq116, K116, by_b116, V116⟩ := hQ116
  have ne_b101_b116 : b101 ≠ b116 := Nat.ne_of_lt (Nat.lt_of_lt_of_le f112.lt by_b116)
  have ne_b102_b116 : b102 ≠ b116 := Nat.ne_of_lt (Nat.lt_of_lt_of_le f113.lt by_b116)
  have ne_b103_b116 : b103 ≠ b116 := Nat.ne_of_lt (Nat.lt_of_lt_of_le f114.lt by_b116)
  have ne_b105_b116 : b105 ≠ b116 := Nat.ne_of_lt (Nat.lt_of_lt_of_le f115.lt by_b116)
  have ne_b108_b116 : b108 ≠ b116 := Nat.ne_of_lt (Nat.lt_of_lt_of_le Ex108.lt by_b116)
  have g_b116 : n0 ≤ b116 := Nat.le_trans Z108 by_b116
  have sz_b116 : h0.size ≤ b116 := Nat.le_trans KC108.1 by_b116
  have Z116 : n0 ≤ T116.heap.size := Nat.le_trans Z108 K116.1
  have KC116 : Keep h0 T116.heap [] := KC108.trans K116 all0
  have N116 := Fr.app N108 Nq116
  obtain ⟨T117, h117, X117, e117, E117, A117, D117, -, st117⟩ := newO X116 hx hZ hown (hw _ (List.mem_of_getElem? (i := 33) rfl)) (hw _ (List.mem_of_getElem? (i := 34) rfl)) (hw _ (List.mem_of_getElem? (i := 35) rfl)) rfl (g := (mkF m 84 #[.val (.int p0), .val (.int p1), .val (.int p2), .val (.int p3), .val (.int p4), .val (.int p5), .val (.int (3 : Int32)), .val (.ref b101), .val (.ref b102), .val (.ref b103), .val (.ref b105), .val (.ref b108), .val (.ref b116), .unset, .unset, .unset, .unset] [])) rfl (hb hby at_84) (by decide) (by decide)
  obtain ⟨b117, g117⟩ : ∃ z, z = T116.heap.size := ⟨_, rfl⟩
  rw [← g117] at A117 D117 st117
  have f118 := (f112.keep K116)
  have f119 := (f113.keep K116)
  have f120 := (f114.keep K116)
  have f121 := (f115.keep K116)
  have f122 := (Ex108.keep K116)
  have ne_b101_b117 : b101 ≠ b117 := Nat.ne_of_lt (Nat.lt_of_lt_of_le f118.lt (Nat.le_of_eq g117.symm))
  have ne_b102_b117 : b102 ≠ b117 := Nat.ne_of_lt (Nat.lt_of_lt_of_le f119.lt (Nat.le_of_eq g117.symm))
  have ne_b103_b117 : b103 ≠ b117 := Nat.ne_of_lt (Nat.lt_of_lt_of_le f120.lt (Nat.le_of_eq g117.symm))
  have ne_b105_b117 : b105 ≠ b117 := Nat.ne_of_lt (Nat.lt_of_lt_of_le f121.lt (Nat.le_of_eq g117.symm))
  have ne_b108_b117 : b108 ≠ b117 := Nat.ne_of_lt (Nat.lt_of_lt_of_le f122.lt (Nat.le_of_eq g117.symm))
  have ne_b116_b117 : b116 ≠ b117 := Nat.ne_of_lt (Nat.lt_of_lt_of_le V116.lt (Nat.le_of_eq g117.symm))
  have g_b117 : n0 ≤ b117 := Nat.le_trans Z116 (Nat.le_of_eq g117.symm)
  have sz_b117 : h0.size ≤ b117 := Nat.le_trans KC116.1 (Nat.le_of_eq g117.symm)
  have Z117 : n0 ≤ h117.size := Nat.le_trans Z116 E117.1
  have KC117 : Keep h0 h117 [] := KC116.ext E117
  have F__args_b117 : Fld Z h117 b117 "com/example/seglport/seglport/options/OptionReader" "_args" "[Ljava/lang/String;" .null := D117 (Or.inr (hw _ (List.mem_of_getElem? (i := 41) rfl))) (ty := (.array (.object "java/lang/String"))) (by decide)
  have F__next_b117 : Fld Z h117 b117 "com/example/seglport/seglport/options/OptionReader" "_next" "I" (.int (0 : Int32)) := D117 (Or.inl (hw _ (List.mem_of_getElem? (i := 48) rfl))) (ty := .int) (by decide)
  have F__option_b117 : Fld Z h117 b117 "com/example/seglport/seglport/options/OptionReader" "_option" "Ljava/lang/String;" .null := D117 (Or.inl (hw _ (List.mem_of_getElem? (i := 55) rfl))) (ty := (.object "java/lang/String")) (by decide)
  obtain ⟨_, _, ⟨T123, L123, k123, n123⟩, -, X123, ⟨Lc123, hQ123, l123, y123, z123⟩, st123⟩ := X117.specialBack hx (y := (⟨"com/example/seglport/seglport/options/OptionReader", "<init>", "([Ljava/lang/String;)V"⟩ : MethodName)) rfl hown (mvT hZ (hw _ (List.mem_of_getElem? (i := 36) rfl))) (mvT hZ (hw _ (List.mem_of_getElem? (i := 37) rfl))) (mvT hZ (hw _ (List.mem_of_getElem? (i := 38) rfl))) (by decide) (backOf (W := 1) (rm_init l Z a0 hw [] b117 b116 h117 n0 Z117 A117 F__args_b117 F__next_b117 F__option_b117 g_b117) hZ (hw _ (List.mem_of_getElem? (i := 38) rfl)) (hw _ (List.mem_of_getElem? (i := 35) rfl)) (by decide) (by decide)) (g := (mkF m 90 #[.val (.int p0), .val (.int p1), .val (.int p2), .val (.int p3), .val (.int p4), .val (.int p5), .val (.int (3 : Int32)), .val (.ref b101), .val (.ref b102), .val (.ref b103), .val (.ref b105), .val (.ref b108), .val (.ref b116), .unset, .unset, .unset, .unset] [(.ref b116), (.ref b117), (.ref b117)])) rfl (by rw [hml]; rfl) (Steps.refl _) (a := b117) (argsL := [(.ref b116)]) (rest := [(.ref b117)]) (lenOf own_pd5 rfl) rfl (by show 2 * 0 + _ ≤ _; exact Nat.le_of_eq rfl) (hb hby at_90) (fun _ _ => ⟨rfl, e117, (by decide : 12 + 0 ≤ _), (by decide : 31 + 0 ≤ _)⟩)
  dsimp only [Pt.U, Pt.locs, Pt.cells, Pt.slots] at X123 l123 y123 z123 st123 hQ123
  subst l123 y123 z123
  obtain ⟨rfl, Nq123, K123, R123_0, R123_1, R123_2, R123_3⟩ := hQ123
  have Z123 : n0 ≤ T123.heap.size := Nat.le_trans Z117 K123.1
  have KC123 : Keep h0 T123.heap [] := KC117.trans K123 (allS (Or.inr sz_b117) all0)
  have N123 := Fr.app N116 Nq123
  have f124 := ((V116.ext E117).keep K123 (ninS ne_b116_b117 nin0))
  obtain ⟨cq125, kq125, q125a, q125b, q125c⟩ := isOf hZ rfl R123_0
  obtain ⟨_, _, ⟨T125, L125, k125, n125⟩, -, X125, ⟨Lc125, hQ125, l125, y125, z125⟩, st125⟩ := X123.virtualBack hx (y := (⟨"com/example/seglport/seglport/options/OptionReader", "hasNext", "()Z"⟩ : MethodName)) (z := (⟨"com/example/seglport/seglport/options/OptionReader", "hasNext", "()Z"⟩ : MethodName)) hown (mvT hZ (hw _ (List.mem_of_getElem? (i := 42) rfl))) (mvT hZ (hw _ (List.mem_of_getElem? (i := 43) rfl))) (notFace_of_selects (args := #[]) (mvT hZ (hw _ (List.mem_of_getElem? (i := 45) rfl)))) (mvT hZ (hw _ (List.mem_of_getElem? (i := 45) rfl))) (mvT hZ (hw _ (List.mem_of_getElem? (i := 44) rfl))) (by decide) (backOf (W := 0) (rm_hasT l Z a0 hw [] b117 b116 3 _ (3 : Int32) (0 : Int32) .null T123.heap n0 Z123 R123_0 R123_1 R123_2 R123_3 f124 rfl (by decide)) hZ (hw _ (List.mem_of_getElem? (i := 46) rfl)) (hw _ (List.mem_of_getElem? (i := 35) rfl)) (by decide) (by decide)) q125a q125c (g := (mkF m 97 #[.val (.int p0), .val (.int p1), .val (.int p2), .val (.int p3), .val (.int p4), .val (.int p5), .val (.int (3 : Int32)), .val (.ref b101), .val (.ref b102), .val (.ref b103), .val (.ref b105), .val (.ref b108), .val (.ref b116), .val (.ref b117), .unset, .unset, .unset] [(.ref b117)])) rfl (by rw [hml]; rfl) (Steps.refl _) (argsL := []) (rest := []) (lenOf own_pd6 rfl) rfl (by show 2 * 0 + _ ≤ _; exact Nat.le_of_eq rfl) (hb hby at_97) (fun _ _ => ⟨rfl, rfl, (by decide : 12 + 0 ≤ _), (by decide : 31 + 0 ≤ _)⟩)
  dsimp only [Pt.U, Pt.locs, Pt.cells, Pt.slots] at X125 l125 y125 z125 st125 hQ125
  subst l125 y125 z125
  obtain ⟨rfl, Nq125, e125⟩ := hQ125
  have N125 := Fr.app N123 Nq125
  obtain ⟨cq126, kq126, q126a, q126b, q126c⟩ := isOf hZ e125 R123_0
  obtain ⟨_, _, ⟨T126, L126, k126, n126⟩, -, X126, ⟨Lc126, hQ126, l126, y126, z126⟩, st126⟩ := X125.virtualBack hx (y := (⟨"com/example/seglport/seglport/options/OptionReader", "next", "()Ljava/lang/String;"⟩ : MethodName)) (z := (⟨"com/example/seglport/seglport/options/OptionReader", "next", "()Ljava/lang/String;"⟩ : MethodName)) hown (mvT hZ (hw _ (List.mem_of_getElem? (i := 49) rfl))) (mvT hZ (hw _ (List.mem_of_getElem? (i := 50) rfl))) (notFace_of_selects (args := #[]) (mvT hZ (hw _ (List.mem_of_getElem? (i := 52) rfl)))) (mvT hZ (hw _ (List.mem_of_getElem? (i := 52) rfl))) (mvT hZ (hw _ (List.mem_of_getElem? (i := 51) rfl))) (by decide) (backOf (W := 0) (rm_next l Z a0 hw [] b117 b116 3 _ (3 : Int32) (0 : Int32) .null 0 b101 (2 : Int32) T123.heap n0 Z123 R123_0 R123_1 R123_2 R123_3 f124 rfl g_b117 (by decide) rfl (by decide) rfl (by decide)) hZ (hw _ (List.mem_of_getElem? (i := 53) rfl)) (hw _ (List.mem_of_getElem? (i := 35) rfl)) (by decide) (by decide)) q126a q126c (g := (mkF m 107 #[.val (.int p0), .val (.int p1), .val (.int p2), .val (.int p3), .val (.int p4), .val (.int p5), .val (.int (3 : Int32)), .val (.ref b101), .val (.ref b102), .val (.ref b103), .val (.ref b105), .val (.ref b108), .val (.ref b116), .val (.ref b117), .unset, .unset, .unset] [(.ref b117)])) rfl (by rw [hml]; rfl) (Steps.refl _) (argsL := []) (rest := []) (lenOf own_pd7 rfl) rfl (by show 2 * 0 + _ ≤ _; exact Nat.le_of_eq rfl) (hb hby at_107) (fun _ _ => ⟨rfl, e125, (by decide : 12 + 0 ≤ _), (by decide : 31 + 0 ≤ _)⟩)
  dsimp only [Pt.U, Pt.locs, Pt.cells, Pt.slots] at X126 l126 y126 z126 st126 hQ126
  subst l126 y126 z126
  obtain ⟨rfl, Nq126, K126, R126_0, R126_1, R126_2, R126_3⟩ := hQ126
  have Z126 : n0 ≤ T126.heap.size := Nat.le_trans Z123 K126.1
  have KC126 : Keep h0 T126.heap [] := KC123.trans K126 (allS (Or.inr sz_b117) all0)
  have N126 := Fr.app N125 Nq126
  have f128 := (((f118.ext E117).keep K123).keep K126)
  obtain ⟨cq127, kq127, q127a, q127b, q127c⟩ := isOf hZ rfl f128
  obtain ⟨_, _, ⟨T127, L127, k127, n127⟩, -, X127, ⟨Lc127, hQ127, l127, y127, z127⟩, st127⟩ := X126.virtualBack hx (y := (⟨"java/lang/String", "equals", "(Ljava/lang/Object;)Z"⟩ : MethodName)) (z := (⟨"java/lang/String", "equals", "(Ljava/lang/Object;)Z"⟩ : MethodName)) hown (mvT hZ (hw _ (List.mem_of_getElem? (i := 56) rfl))) (mvT hZ (hw _ (List.mem_of_getElem? (i := 57) rfl))) (notFace_of_selects (args := #[]) (mvT hZ (hw _ (List.mem_of_getElem? (i := 59) rfl)))) (mvT hZ (hw _ (List.mem_of_getElem? (i := 59) rfl))) (mvT hZ (hw _ (List.mem_of_getElem? (i := 58) rfl))) (by decide) (backOf (W := 0) (rm_eq l Z a0 hw [] b101 T126.heap n0 Z126 ) hZ (hw _ (List.mem_of_getElem? (i := 60) rfl)) (hw _ (List.mem_of_getElem? (i := 3) rfl)) (by decide) (by decide)) q127a q127c (g := (mkF m 116 #[.val (.int p0), .val (.int p1), .val (.int p2), .val (.int p3), .val (.int p4), .val (.int p5), .val (.int (3 : Int32)), .val (.ref b101), .val (.ref b102), .val (.ref b103), .val (.ref b105), .val (.ref b108), .val (.ref b116), .val (.ref b117), .val (.ref b101), .unset, .unset] [(.ref b101), (.ref b101)])) rfl (by rw [hml]; rfl) (Steps.refl _) (argsL := [(.ref b101)]) (rest := []) (lenOf own_pd8 rfl) rfl (by show 2 * 0 + _ ≤ _; exact Nat.le_of_eq rfl) (hb hby at_116) (fun _ _ => ⟨rfl, rfl, (by decide : 12 + 0 ≤ _), (by decide : 31 + 0 ≤ _)⟩)
  dsimp only [Pt.U, Pt.locs, Pt.cells, Pt.slots] at X127 l127 y127 z127 st127 hQ127
  subst l127 y127 z127
  obtain ⟨rfl, Nq127, e127⟩ := hQ127
  have N127 := Fr.app N126 Nq127
  have f129 := (f124.keep K126 (ninS ne_b116_b117 nin0))
  obtain ⟨cq130, kq130, q130a, q130b, q130c⟩ := isOf hZ e127 R126_0
  obtain ⟨_, _, ⟨T130, L130, k130, n130⟩, -, X130, ⟨Lc130, hQ130, l130, y130, z130⟩, st130⟩ := X127.virtualBack hx (y := (⟨"com/example/seglport/seglport/options/OptionReader", "hasNext", "()Z"⟩ : MethodName)) (z := (⟨"com/example/seglport/seglport/options/OptionReader", "hasNext", "()Z"⟩ : MethodName)) hown (mvT hZ (hw _ (List.mem_of_getElem? (i := 42) rfl))) (mvT hZ (hw _ (List.mem_of_getElem? (i := 43) rfl))) (notFace_of_selects (args := #[]) (mvT hZ (hw _ (List.mem_of_getElem? (i := 45) rfl)))) (mvT hZ (hw _ (List.mem_of_getElem? (i := 45) rfl))) (mvT hZ (hw _ (List.mem_of_getElem? (i := 44) rfl))) (by decide) (backOf (W := 0) (rm_hasT l Z a0 hw [] b117 b116 3 _ (3 : Int32) (2 : Int32) (.ref b101) T126.heap n0 Z126 R126_0 R126_1 R126_2 R126_3 f129 rfl (by decide)) hZ (hw _ (List.mem_of_getElem? (i := 46) rfl)) (hw _ (List.mem_of_getElem? (i := 35) rfl)) (by decide) (by decide)) q130a q130c (g := (mkF m 126 #[.val (.int p0), .val (.int p1), .val (.int p2), .val (.int p3), .val (.int p4), .val (.int p5), .val (.int (3 : Int32)), .val (.ref b101), .val (.ref b102), .val (.ref b103), .val (.ref b105), .val (.ref b108), .val (.ref b116), .val (.ref b117), .val (.ref b101), .unset, .unset] [(.ref b117)])) rfl (by rw [hml]; rfl) (Steps.refl _) (argsL := []) (rest := []) (lenOf own_pd6 rfl) rfl (by show 2 * 0 + _ ≤ _; exact Nat.le_of_eq rfl) (hb hby at_126) (fun _ _ => ⟨rfl, e127, (by decide : 12 + 0 ≤ _), (by decide : 31 + 0 ≤ _)⟩)
  dsimp only [Pt.U, Pt.locs, Pt.cells, Pt.slots] at X130 l130 y130 z130 st130 hQ130
  subst l130 y130 z130
  obtain ⟨rfl, Nq130, e130⟩ := hQ130
  have N130 := Fr.app N127 Nq130
  obtain ⟨cq131, kq131, q131a, q131b, q131c⟩ := isOf hZ e130 R126_0
  obtain ⟨_, _, ⟨T131, L131, k131, n131⟩, -, X131, ⟨Lc131, hQ131, l131, y131, z131⟩, st131⟩ := X130.virtualBack hx (y := (⟨"com/example/seglport/seglport/options/OptionReader", "value", "()Ljava/lang/String;"⟩ : MethodName)) (z := (⟨"com/example/seglport/seglport/options/OptionReader", "value", "()Ljava/lang/String;"⟩ : MethodName)) hown (mvT hZ (hw _ (List.mem_of_getElem? (i := 61) rfl))) (mvT hZ (hw _ (List.mem_of_getElem? (i := 62) rfl))) (notFace_of_selects (args := #[]) (mvT hZ (hw _ (List.mem_of_getElem? (i := 64) rfl)))) (mvT hZ (hw _ (List.mem_of_getElem? (i := 64) rfl))) (mvT hZ (hw _ (List.mem_of_getElem? (i := 63) rfl))) (by decide) (backOf (W := 0) (rm_value l Z a0 hw [] b117 b116 3 _ (3 : Int32) (2 : Int32) (.ref b101) 1 b102 T126.heap n0 Z126 R126_0 R126_1 R126_2 R126_3 f129 rfl (by decide) rfl (by decide) rfl (by decide)) hZ (hw _ (List.mem_of_getElem? (i := 65) rfl)) (hw _ (List.mem_of_getElem? (i := 35) rfl)) (by decide) (by decide)) q131a q131c (g := (mkF m 153 #[.val (.int p0), .val (.int p1), .val (.int p2), .val (.int p3), .val (.int p4), .val (.int p5), .val (.int (3 : Int32)), .val (.ref b101), .val (.ref b102), .val (.ref b103), .val (.ref b105), .val (.ref b108), .val (.ref b116), .val (.ref b117), .val (.ref b101), .unset, .unset] [(.ref b117)])) rfl (by rw [hml]; rfl) (Steps.refl _) (argsL := []) (rest := []) (lenOf own_pd7 rfl) rfl (by show 2 * 0 + _ ≤ _; exact Nat.le_of_eq rfl) (hb hby at_153) (fun _ _ => ⟨rfl, e130, (by decide : 12 + 0 ≤ _), (by decide : 31 + 0 ≤ _)⟩)
  dsimp only [Pt.U, Pt.locs, Pt.cells, Pt.slots] at X131 l131 y131 z131 st131 hQ131
  subst l131 y131 z131
  obtain ⟨rfl, Nq131, e131⟩ := hQ131
  have N131 := Fr.app N130 Nq131
  have f133 := (((f119.ext E117).keep K123).keep K126)
  obtain ⟨cq132, kq132, q132a, q132b, q132c⟩ := isOf hZ e131 f133
  obtain ⟨_, _, ⟨T132, L132, k132, n132⟩, -, X132, ⟨Lc132, hQ132, l132, y132, z132⟩, st132⟩ := X131.virtualBack hx (y := (⟨"java/lang/String", "equals", "(Ljava/lang/Object;)Z"⟩ : MethodName)) (z := (⟨"java/lang/String", "equals", "(Ljava/lang/Object;)Z"⟩ : MethodName)) hown (mvT hZ (hw _ (List.mem_of_getElem? (i := 56) rfl))) (mvT hZ (hw _ (List.mem_of_getElem? (i := 57) rfl))) (notFace_of_selects (args := #[]) (mvT hZ (hw _ (List.mem_of_getElem? (i := 59) rfl)))) (mvT hZ (hw _ (List.mem_of_getElem? (i := 59) rfl))) (mvT hZ (hw _ (List.mem_of_getElem? (i := 58) rfl))) (by decide) (backOf (W := 0) (rm_eq l Z a0 hw [] b102 T126.heap n0 Z126 ) hZ (hw _ (List.mem_of_getElem? (i := 60) rfl)) (hw _ (List.mem_of_getElem? (i := 3) rfl)) (by decide) (by decide)) q132a q132c (g := (mkF m 158 #[.val (.int p0), .val (.int p1), .val (.int p2), .val (.int p3), .val (.int p4), .val (.int p5), .val (.int (3 : Int32)), .val (.ref b101), .val (.ref b102), .val (.ref b103), .val (.ref b105), .val (.ref b108), .val (.ref b116), .val (.ref b117), .val (.ref b101), .unset, .unset] [(.ref b102), (.ref b102)])) rfl (by rw [hml]; rfl) (Steps.refl _) (argsL := [(.ref b102)]) (rest := []) (lenOf own_pd8 rfl) rfl (by show 2 * 0 + _ ≤ _; exact Nat.le_of_eq rfl) (hb hby at_158) (fun _ _ => ⟨rfl, e131, (by decide : 12 + 0 ≤ _), (by decide : 31 + 0 ≤ _)⟩)
  dsimp only [Pt.U, Pt.locs, Pt.cells, Pt.slots] at X132 l132 y132 z132 st132 hQ132
  subst l132 y132 z132
  obtain ⟨rfl, Nq132, e132⟩ := hQ132
  have N132 := Fr.app N131 Nq132
  obtain ⟨cq134, kq134, q134a, q134b, q134c⟩ := isOf hZ e132 R126_0
  obtain ⟨_, _, ⟨T134, L134, k134, n134⟩, -, X134, ⟨Lc134, hQ134, l134, y134, z134⟩, st134⟩ := X132.virtualBack hx (y := (⟨"com/example/seglport/seglport/options/OptionReader", "next", "()Ljava/lang/String;"⟩ : MethodName)) (z := (⟨"com/example/seglport/seglport/options/OptionReader", "next", "()Ljava/lang/String;"⟩ : MethodName)) hown (mvT hZ (hw _ (List.mem_of_getElem? (i := 49) rfl))) (mvT hZ (hw _ (List.mem_of_getElem? (i := 50) rfl))) (notFace_of_selects (args := #[]) (mvT hZ (hw _ (List.mem_of_getElem? (i := 52) rfl)))) (mvT hZ (hw _ (List.mem_of_getElem? (i := 52) rfl))) (mvT hZ (hw _ (List.mem_of_getElem? (i := 51) rfl))) (by decide) (backOf (W := 0) (rm_next l Z a0 hw [] b117 b116 3 _ (3 : Int32) (2 : Int32) (.ref b101) 2 b103 (4 : Int32) T126.heap n0 Z126 R126_0 R126_1 R126_2 R126_3 f129 rfl g_b117 (by decide) rfl (by decide) rfl (by decide)) hZ (hw _ (List.mem_of_getElem? (i := 53) rfl)) (hw _ (List.mem_of_getElem? (i := 35) rfl)) (by decide) (by decide)) q134a q134c (g := (mkF m 176 #[.val (.int p0), .val (.int p1), .val (.int p2), .val (.int p3), .val (.int p4), .val (.int p5), .val (.int (3 : Int32)), .val (.ref b101), .val (.ref b102), .val (.ref b103), .val (.ref b105), .val (.ref b108), .val (.ref b116), .val (.ref b117), .val (.ref b101), .unset, .unset] [(.ref b117)])) rfl (by rw [hml]; rfl) (Steps.refl _) (argsL := []) (rest := []) (lenOf own_pd7 rfl) rfl (by show 2 * 0 + _ ≤ _; exact Nat.le_of_eq rfl) (hb hby at_176) (fun _ _ => ⟨rfl, e132, (by decide : 12 + 0 ≤ _), (by decide : 31 + 0 ≤ _)⟩)
  dsimp only [Pt.U, Pt.locs, Pt.cells, Pt.slots] at X134 l134 y134 z134 st134 hQ134
  subst l134 y134 z134
  obtain ⟨rfl, Nq134, K134, R134_0, R134_1, R134_2, R134_3⟩ := hQ134
  have Z134 : n0 ≤ T134.heap.size := Nat.le_trans Z126 K134.1
  have KC134 : Keep h0 T134.heap [] := KC126.trans K134 (allS (Or.inr sz_b117) all0)
  have N134 := Fr.app N132 Nq134
  have f136 := ((((f120.ext E117).keep K123).keep K126).keep K134)
  obtain ⟨cq135, kq135, q135a, q135b, q135c⟩ := isOf hZ rfl f136
  obtain ⟨_, _, ⟨T135, L135, k135, n135⟩, -, X135, ⟨Lc135, hQ135, l135, y135, z135⟩, st135⟩ := X134.virtualBack hx (y := (⟨"java/lang/String", "equals", "(Ljava/lang/Object;)Z"⟩ : MethodName)) (z := (⟨"java/lang/String", "equals", "(Ljava/lang/Object;)Z"⟩ : MethodName)) hown (mvT hZ (hw _ (List.mem_of_getElem? (i := 56) rfl))) (mvT hZ (hw _ (List.mem_of_getElem? (i := 57) rfl))) (notFace_of_selects (args := #[]) (mvT hZ (hw _ (List.mem_of_getElem? (i := 59) rfl)))) (mvT hZ (hw _ (List.mem_of_getElem? (i := 59) rfl))) (mvT hZ (hw _ (List.mem_of_getElem? (i := 58) rfl))) (by decide) (backOf (W := 0) (rm_eq l Z a0 hw [] b103 T134.heap n0 Z134 ) hZ (hw _ (List.mem_of_getElem? (i := 60) rfl)) (hw _ (List.mem_of_getElem? (i := 3) rfl)) (by decide) (by decide)) q135a q135c (g := (mkF m 185 #[.val (.int p0), .val (.int p1), .val (.int p2), .val (.int p3), .val (.int p4), .val (.int p5), .val (.int (3 : Int32)), .val (.ref b101), .val (.ref b102), .val (.ref b103), .val (.ref b105), .val (.ref b108), .val (.ref b116), .val (.ref b117), .val (.ref b101), .val (.ref b103), .unset] [(.ref b103), (.ref b103)])) rfl (by rw [hml]; rfl) (Steps.refl _) (argsL := [(.ref b103)]) (rest := []) (lenOf own_pd8 rfl) rfl (by show 2 * 0 + _ ≤ _; exact Nat.le_of_eq rfl) (hb hby at_185) (fun _ _ => ⟨rfl, rfl, (by decide : 12 + 0 ≤ _), (by decide : 31 + 0 ≤ _)⟩)
  dsimp only [Pt.U, Pt.locs, Pt.cells, Pt.slots] at X135 l135 y135 z135 st135 hQ135
  subst l135 y135 z135
  obtain ⟨rfl, Nq135, e135⟩ := hQ135
  have N135 := Fr.app N134 Nq135
  have f137 := (f129.keep K134 (ninS ne_b116_b117 nin0))
  obtain ⟨cq138, kq138, q138a, q138b, q138c⟩ := isOf hZ e135 R134_0
  obtain ⟨_, _, ⟨T138, L138, k138, n138⟩, -, X138, ⟨Lc138, hQ138, l138, y138, z138⟩, st138⟩ := X135.virtualBack hx (y := (⟨"com/example/seglport/seglport/options/OptionReader", "hasNext", "()Z"⟩ : MethodName)) (z := (⟨"com/example/seglport/seglport/options/OptionReader", "hasNext", "()Z"⟩ : MethodName)) hown (mvT hZ (hw _ (List.mem_of_getElem? (i := 42) rfl))) (mvT hZ (hw _ (List.mem_of_getElem? (i := 43) rfl))) (notFace_of_selects (args := #[]) (mvT hZ (hw _ (List.mem_of_getElem? (i := 45) rfl)))) (mvT hZ (hw _ (List.mem_of_getElem? (i := 45) rfl))) (mvT hZ (hw _ (List.mem_of_getElem? (i := 44) rfl))) (by decide) (backOf (W := 0) (rm_hasF l Z a0 hw [] b117 b116 3 _ (3 : Int32) (4 : Int32) (.ref b103) T134.heap n0 Z134 R134_0 R134_1 R134_2 R134_3 f137 rfl (by decide)) hZ (hw _ (List.mem_of_getElem? (i := 46) rfl)) (hw _ (List.mem_of_getElem? (i := 35) rfl)) (by decide) (by decide)) q138a q138c (g := (mkF m 195 #[.val (.int p0), .val (.int p1), .val (.int p2), .val (.int p3), .val (.int p4), .val (.int p5), .val (.int (3 : Int32)), .val (.ref b101), .val (.ref b102), .val (.ref b103), .val (.ref b105), .val (.ref b108), .val (.ref b116), .val (.ref b117), .val (.ref b101), .val (.ref b103), .unset] [(.ref b117)])) rfl (by rw [hml]; rfl) (Steps.refl _) (argsL := []) (rest := []) (lenOf own_pd6 rfl) rfl (by show 2 * 0 + _ ≤ _; exact Nat.le_of_eq rfl) (hb hby at_195) (fun _ _ => ⟨rfl, e135, (by decide : 12 + 0 ≤ _), (by decide : 31 + 0 ≤ _)⟩)
  dsimp only [Pt.U, Pt.locs, Pt.cells, Pt.slots] at X138 l138 y138 z138 st138 hQ138
  subst l138 y138 z138
  obtain ⟨rfl, Nq138, e138⟩ := hQ138
  have N138 := Fr.app N135 Nq138
  obtain ⟨fs, hr, hrun, hended, hW, hsame⟩ := X138.leave (v := some (.int (1 : Int32))) (fun h => by rw [Bd.returns] at h; cases h)
  refine ⟨_, _, pre0 _ ?_, hrun, hended, _, _, rfl, ?_, ⟨_, rfl⟩, hW, hsame.mono (by decide) (by decide)⟩
  · show Steps p.tables e below (s₁.setTop (mkF m 0 #[.val (.int p0), .val (.int p1), .val (.int p2), .val (.int p3), .val (.int p4), .val (.int p5), .unset, .unset, .unset, .unset, .unset, .unset, .unset, .unset, .unset, .unset, .unset] [])) _
    refine XS.iloadN X0.here hx rfl (hb hby at_0) rfl ?_
    show Steps p.tables e below (s₁.setTop (mkF m 1 #[.val (.int p0), .val (.int p1), .val (.int p2), .val (.int p3), .val (.int p4), .val (.int p5), .unset, .unset, .unset, .unset, .unset, .unset, .unset, .unset, .unset, .unset, .unset] [(.int p0)])) _
    refine X0.ldcInt hx hown (mvT hZ (hw _ (List.mem_of_getElem? (i := 0) rfl))) (g := (mkF m 1 #[.val (.int p0), .val (.int p1), .val (.int p2), .val (.int p3), .val (.int p4), .val (.int p5), .unset, .unset, .unset, .unset, .unset, .unset, .unset, .unset, .unset, .unset, .unset] [(.int p0)])) rfl (hb hby at_1) _ ?_
    show Steps p.tables e below (s₁.setTop (mkF m 3 #[.val (.int p0), .val (.int p1), .val (.int p2), .val (.int p3), .val (.int p4), .val (.int p5), .unset, .unset, .unset, .unset, .unset, .unset, .unset, .unset, .unset, .unset, .unset] [(.int (2147483647 : Int32)), (.int p0)])) _
    refine XS.iand X0.here hx rfl (hb hby at_3) rfl ?_
    show Steps p.tables e below (s₁.setTop (mkF m 4 #[.val (.int p0), .val (.int p1), .val (.int p2), .val (.int p3), .val (.int p4), .val (.int p5), .unset, .unset, .unset, .unset, .unset, .unset, .unset, .unset, .unset, .unset, .unset] [(.int (p0 &&& (2147483647 : Int32)))])) _
    refine XS.iconst X0.here hx rfl (hb hby at_4) ?_
    show Steps p.tables e below (s₁.setTop (mkF m 5 #[.val (.int p0), .val (.int p1), .val (.int p2), .val (.int p3), .val (.int p4), .val (.int p5), .unset, .unset, .unset, .unset, .unset, .unset, .unset, .unset, .unset, .unset, .unset] [(.int (5 : Int32)), (.int (p0 &&& (2147483647 : Int32)))])) _
    refine iremM X0 hx rfl (hb hby at_5) rfl (by decide) ?_
    show Steps p.tables e below (s₁.setTop (mkF m 6 #[.val (.int p0), .val (.int p1), .val (.int p2), .val (.int p3), .val (.int p4), .val (.int p5), .unset, .unset, .unset, .unset, .unset, .unset, .unset, .unset, .unset, .unset, .unset] [(.int ((p0 &&& (2147483647 : Int32)) % (5 : Int32)))])) _
    refine XS.iconst X0.here hx rfl (hb hby at_6) ?_
    show Steps p.tables e below (s₁.setTop (mkF m 7 #[.val (.int p0), .val (.int p1), .val (.int p2), .val (.int p3), .val (.int p4), .val (.int p5), .unset, .unset, .unset, .unset, .unset, .unset, .unset, .unset, .unset, .unset, .unset] [(.int (1 : Int32)), (.int ((p0 &&& (2147483647 : Int32)) % (5 : Int32)))])) _
    refine XS.iadd X0.here hx rfl (hb hby at_7) rfl ?_
    show Steps p.tables e below (s₁.setTop (mkF m 8 #[.val (.int p0), .val (.int p1), .val (.int p2), .val (.int p3), .val (.int p4), .val (.int p5), .unset, .unset, .unset, .unset, .unset, .unset, .unset, .unset, .unset, .unset, .unset] [(.int (((p0 &&& (2147483647 : Int32)) % (5 : Int32)) + (1 : Int32)))])) _
    rw [hN]
    show Steps p.tables e below (s₁.setTop (mkF m 8 #[.val (.int p0), .val (.int p1), .val (.int p2), .val (.int p3), .val (.int p4), .val (.int p5), .unset, .unset, .unset, .unset, .unset, .unset, .unset, .unset, .unset, .unset, .unset] [(.int (3 : Int32))])) _
    refine XS.istore X0.here hx rfl (hb hby at_8) rfl (l' := #[.val (.int p0), .val (.int p1), .val (.int p2), .val (.int p3), .val (.int p4), .val (.int p5), .val (.int (3 : Int32)), .unset, .unset, .unset, .unset, .unset, .unset, .unset, .unset, .unset, .unset]) rfl ?_
    show Steps p.tables e below (s₁.setTop (mkF m 10 #[.val (.int p0), .val (.int p1), .val (.int p2), .val (.int p3), .val (.int p4), .val (.int p5), .val (.int (3 : Int32)), .unset, .unset, .unset, .unset, .unset, .unset, .unset, .unset, .unset, .unset] [])) _
    refine XS.iloadN X0.here hx rfl (hb hby at_10) rfl ?_
    show Steps p.tables e below (s₁.setTop (mkF m 11 #[.val (.int p0), .val (.int p1), .val (.int p2), .val (.int p3), .val (.int p4), .val (.int p5), .val (.int (3 : Int32)), .unset, .unset, .unset, .unset, .unset, .unset, .unset, .unset, .unset, .unset] [(.int p1)])) _
    refine XS.sipush X0.here hx rfl (hb hby at_11) ?_
    show Steps p.tables e below (s₁.setTop (mkF m 14 #[.val (.int p0), .val (.int p1), .val (.int p2), .val (.int p3), .val (.int p4), .val (.int p5), .val (.int (3 : Int32)), .unset, .unset, .unset, .unset, .unset, .unset, .unset, .unset, .unset, .unset] [(.int (255 : Int32)), (.int p1)])) _
    refine XS.iand X0.here hx rfl (hb hby at_14) rfl ?_
    show Steps p.tables e below (s₁.setTop (mkF m 15 #[.val (.int p0), .val (.int p1), .val (.int p2), .val (.int p3), .val (.int p4), .val (.int p5), .val (.int (3 : Int32)), .unset, .unset, .unset, .unset, .unset, .unset, .unset, .unset, .unset, .unset] [(.int (p1 &&& (255 : Int32)))])) _
    refine XS.i2c X0.here hx rfl (hb hby at_15) rfl ?_
    show Steps p.tables e below (s₁.setTop (mkF m 16 #[.val (.int p0), .val (.int p1), .val (.int p2), .val (.int p3), .val (.int p4), .val (.int p5), .val (.int (3 : Int32)), .unset, .unset, .unset, .unset, .unset, .unset, .unset, .unset, .unset, .unset] [(.int ((p1 &&& (255 : Int32)).toUInt32.toUInt16.toUInt32.toInt32))])) _
    refine st101 _ ?_
    show Steps p.tables e below (T101.setTop (mkF m 19 #[.val (.int p0), .val (.int p1), .val (.int p2), .val (.int p3), .val (.int p4), .val (.int p5), .val (.int (3 : Int32)), .unset, .unset, .unset, .unset, .unset, .unset, .unset, .unset, .unset, .unset] [(.ref b101)])) _
    refine XS.astore X101.here hx rfl (hb hby at_19) rfl rfl (l' := #[.val (.int p0), .val (.int p1), .val (.int p2), .val (.int p3), .val (.int p4), .val (.int p5), .val (.int (3 : Int32)), .val (.ref b101), .unset, .unset, .unset, .unset, .unset, .unset, .unset, .unset, .unset]) rfl ?_
    show Steps p.tables e below (T101.setTop (mkF m 21 #[.val (.int p0), .val (.int p1), .val (.int p2), .val (.int p3), .val (.int p4), .val (.int p5), .val (.int (3 : Int32)), .val (.ref b101), .unset, .unset, .unset, .unset, .unset, .unset, .unset, .unset, .unset] [])) _
    refine XS.iloadN X101.here hx rfl (hb hby at_21) rfl ?_
    show Steps p.tables e below (T101.setTop (mkF m 22 #[.val (.int p0), .val (.int p1), .val (.int p2), .val (.int p3), .val (.int p4), .val (.int p5), .val (.int (3 : Int32)), .val (.ref b101), .unset, .unset, .unset, .unset, .unset, .unset, .unset, .unset, .unset] [(.int p2)])) _
    refine XS.sipush X101.here hx rfl (hb hby at_22) ?_
    show Steps p.tables e below (T101.setTop (mkF m 25 #[.val (.int p0), .val (.int p1), .val (.int p2), .val (.int p3), .val (.int p4), .val (.int p5), .val (.int (3 : Int32)), .val (.ref b101), .unset, .unset, .unset, .unset, .unset, .unset, .unset, .unset, .unset] [(.int (255 : Int32)), (.int p2)])) _
    refine XS.iand X101.here hx rfl (hb hby at_25) rfl ?_
    show Steps p.tables e below (T101.setTop (mkF m 26 #[.val (.int p0), .val (.int p1), .val (.int p2), .val (.int p3), .val (.int p4), .val (.int p5), .val (.int (3 : Int32)), .val (.ref b101), .unset, .unset, .unset, .unset, .unset, .unset, .unset, .unset, .unset] [(.int (p2 &&& (255 : Int32)))])) _
    refine XS.i2c X101.here hx rfl (hb hby at_26) rfl ?_
    show Steps p.tables e below (T101.setTop (mkF m 27 #[.val (.int p0), .val (.int p1), .val (.int p2), .val (.int p3), .val (.int p4), .val (.int p5), .val (.int (3 : Int32)), .val (.ref b101), .unset, .unset, .unset, .unset, .unset, .unset, .unset, .unset, .unset] [(.int ((p2 &&& (255 : Int32)).toUInt32.toUInt16.toUInt32.toInt32))])) _
    refine st102 _ ?_
    show Steps p.tables e below (T102.setTop (mkF m 30 #[.val (.int p0), .val (.int p1), .val (.int p2), .val (.int p3), .val (.int p4), .val (.int p5), .val (.int (3 : Int32)), .val (.ref b101), .unset, .unset, .unset, .unset, .unset, .unset, .unset, .unset, .unset] [(.ref b102)])) _
    refine XS.astore X102.here hx rfl (hb hby at_30) rfl rfl (l' := #[.val (.int p0), .val (.int p1), .val (.int p2), .val (.int p3), .val (.int p4), .val (.int p5), .val (.int (3 : Int32)), .val (.ref b101), .val (.ref b102), .unset, .unset, .unset, .unset, .unset, .unset, .unset, .unset]) rfl ?_
    show Steps p.tables e below (T102.setTop (mkF m 32 #[.val (.int p0), .val (.int p1), .val (.int p2), .val (.int p3), .val (.int p4), .val (.int p5), .val (.int (3 : Int32)), .val (.ref b101), .val (.ref b102), .unset, .unset, .unset, .unset, .unset, .unset, .unset, .unset] [])) _
    refine XS.iloadN X102.here hx rfl (hb hby at_32) rfl ?_
    show Steps p.tables e below (T102.setTop (mkF m 33 #[.val (.int p0), .val (.int p1), .val (.int p2), .val (.int p3), .val (.int p4), .val (.int p5), .val (.int (3 : Int32)), .val (.ref b101), .val (.ref b102), .unset, .unset, .unset, .unset, .unset, .unset, .unset, .unset] [(.int p3)])) _
    refine XS.sipush X102.here hx rfl (hb hby at_33) ?_
    show Steps p.tables e below (T102.setTop (mkF m 36 #[.val (.int p0), .val (.int p1), .val (.int p2), .val (.int p3), .val (.int p4), .val (.int p5), .val (.int (3 : Int32)), .val (.ref b101), .val (.ref b102), .unset, .unset, .unset, .unset, .unset, .unset, .unset, .unset] [(.int (255 : Int32)), (.int p3)])) _
    refine XS.iand X102.here hx rfl (hb hby at_36) rfl ?_
    show Steps p.tables e below (T102.setTop (mkF m 37 #[.val (.int p0), .val (.int p1), .val (.int p2), .val (.int p3), .val (.int p4), .val (.int p5), .val (.int (3 : Int32)), .val (.ref b101), .val (.ref b102), .unset, .unset, .unset, .unset, .unset, .unset, .unset, .unset] [(.int (p3 &&& (255 : Int32)))])) _
    refine XS.i2c X102.here hx rfl (hb hby at_37) rfl ?_
    show Steps p.tables e below (T102.setTop (mkF m 38 #[.val (.int p0), .val (.int p1), .val (.int p2), .val (.int p3), .val (.int p4), .val (.int p5), .val (.int (3 : Int32)), .val (.ref b101), .val (.ref b102), .unset, .unset, .unset, .unset, .unset, .unset, .unset, .unset] [(.int ((p3 &&& (255 : Int32)).toUInt32.toUInt16.toUInt32.toInt32))])) _
    refine st103 _ ?_
    show Steps p.tables e below (T103.setTop (mkF m 41 #[.val (.int p0), .val (.int p1), .val (.int p2), .val (.int p3), .val (.int p4), .val (.int p5), .val (.int (3 : Int32)), .val (.ref b101), .val (.ref b102), .unset, .unset, .unset, .unset, .unset, .unset, .unset, .unset] [(.ref b103)])) _
    refine XS.astore X103.here hx rfl (hb hby at_41) rfl rfl (l' := #[.val (.int p0), .val (.int p1), .val (.int p2), .val (.int p3), .val (.int p4), .val (.int p5), .val (.int (3 : Int32)), .val (.ref b101), .val (.ref b102), .val (.ref b103), .unset, .unset, .unset, .unset, .unset, .unset, .unset]) rfl ?_
    show Steps p.tables e below (T103.setTop (mkF m 43 #[.val (.int p0), .val (.int p1), .val (.int p2), .val (.int p3), .val (.int p4), .val (.int p5), .val (.int (3 : Int32)), .val (.ref b101), .val (.ref b102), .val (.ref b103), .unset, .unset, .unset, .unset, .unset, .unset, .unset] [])) _
    refine XS.iload X103.here hx rfl (hb hby at_43) rfl ?_
    show Steps p.tables e below (T103.setTop (mkF m 45 #[.val (.int p0), .val (.int p1), .val (.int p2), .val (.int p3), .val (.int p4), .val (.int p5), .val (.int (3 : Int32)), .val (.ref b101), .val (.ref b102), .val (.ref b103), .unset, .unset, .unset, .unset, .unset, .unset, .unset] [(.int p4)])) _
    refine XS.sipush X103.here hx rfl (hb hby at_45) ?_
    show Steps p.tables e below (T103.setTop (mkF m 48 #[.val (.int p0), .val (.int p1), .val (.int p2), .val (.int p3), .val (.int p4), .val (.int p5), .val (.int (3 : Int32)), .val (.ref b101), .val (.ref b102), .val (.ref b103), .unset, .unset, .unset, .unset, .unset, .unset, .unset] [(.int (255 : Int32)), (.int p4)])) _
    refine XS.iand X103.here hx rfl (hb hby at_48) rfl ?_
    show Steps p.tables e below (T103.setTop (mkF m 49 #[.val (.int p0), .val (.int p1), .val (.int p2), .val (.int p3), .val (.int p4), .val (.int p5), .val (.int (3 : Int32)), .val (.ref b101), .val (.ref b102), .val (.ref b103), .unset, .unset, .unset, .unset, .unset, .unset, .unset] [(.int (p4 &&& (255 : Int32)))])) _
    refine XS.i2c X103.here hx rfl (hb hby at_49) rfl ?_
    show Steps p.tables e below (T103.setTop (mkF m 50 #[.val (.int p0), .val (.int p1), .val (.int p2), .val (.int p3), .val (.int p4), .val (.int p5), .val (.int (3 : Int32)), .val (.ref b101), .val (.ref b102), .val (.ref b103), .unset, .unset, .unset, .unset, .unset, .unset, .unset] [(.int ((p4 &&& (255 : Int32)).toUInt32.toUInt16.toUInt32.toInt32))])) _
    refine st105 _ ?_
    show Steps p.tables e below (T105.setTop (mkF m 53 #[.val (.int p0), .val (.int p1), .val (.int p2), .val (.int p3), .val (.int p4), .val (.int p5), .val (.int (3 : Int32)), .val (.ref b101), .val (.ref b102), .val (.ref b103), .unset, .unset, .unset, .unset, .unset, .unset, .unset] [(.ref b105)])) _
    refine XS.astore X105.here hx rfl (hb hby at_53) rfl rfl (l' := #[.val (.int p0), .val (.int p1), .val (.int p2), .val (.int p3), .val (.int p4), .val (.int p5), .val (.int (3 : Int32)), .val (.ref b101), .val (.ref b102), .val (.ref b103), .val (.ref b105), .unset, .unset, .unset, .unset, .unset, .unset]) rfl ?_
    show Steps p.tables e below (T105.setTop (mkF m 55 #[.val (.int p0), .val (.int p1), .val (.int p2), .val (.int p3), .val (.int p4), .val (.int p5), .val (.int (3 : Int32)), .val (.ref b101), .val (.ref b102), .val (.ref b103), .val (.ref b105), .unset, .unset, .unset, .unset, .unset, .unset] [])) _
    refine XS.iload X105.here hx rfl (hb hby at_55) rfl ?_
    show Steps p.tables e below (T105.setTop (mkF m 57 #[.val (.int p0), .val (.int p1), .val (.int p2), .val (.int p3), .val (.int p4), .val (.int p5), .val (.int (3 : Int32)), .val (.ref b101), .val (.ref b102), .val (.ref b103), .val (.ref b105), .unset, .unset, .unset, .unset, .unset, .unset] [(.int p5)])) _
    refine XS.sipush X105.here hx rfl (hb hby at_57) ?_
    show Steps p.tables e below (T105.setTop (mkF m 60 #[.val (.int p0), .val (.int p1), .val (.int p2), .val (.int p3), .val (.int p4), .val (.int p5), .val (.int (3 : Int32)), .val (.ref b101), .val (.ref b102), .val (.ref b103), .val (.ref b105), .unset, .unset, .unset, .unset, .unset, .unset] [(.int (255 : Int32)), (.int p5)])) _
    refine XS.iand X105.here hx rfl (hb hby at_60) rfl ?_
    show Steps p.tables e below (T105.setTop (mkF m 61 #[.val (.int p0), .val (.int p1), .val (.int p2), .val (.int p3), .val (.int p4), .val (.int p5), .val (.int (3 : Int32)), .val (.ref b101), .val (.ref b102), .val (.ref b103), .val (.ref b105), .unset, .unset, .unset, .unset, .unset, .unset] [(.int (p5 &&& (255 : Int32)))])) _
    refine XS.i2c X105.here hx rfl (hb hby at_61) rfl ?_
    show Steps p.tables e below (T105.setTop (mkF m 62 #[.val (.int p0), .val (.int p1), .val (.int p2), .val (.int p3), .val (.int p4), .val (.int p5), .val (.int (3 : Int32)), .val (.ref b101), .val (.ref b102), .val (.ref b103), .val (.ref b105), .unset, .unset, .unset, .unset, .unset, .unset] [(.int ((p5 &&& (255 : Int32)).toUInt32.toUInt16.toUInt32.toInt32))])) _
    refine st108 _ ?_
    show Steps p.tables e below (T108.setTop (mkF m 65 #[.val (.int p0), .val (.int p1), .val (.int p2), .val (.int p3), .val (.int p4), .val (.int p5), .val (.int (3 : Int32)), .val (.ref b101), .val (.ref b102), .val (.ref b103), .val (.ref b105), .unset, .unset, .unset, .unset, .unset, .unset] [(.ref b108)])) _
    refine XS.astore X108.here hx rfl (hb hby at_65) rfl rfl (l' := #[.val (.int p0), .val (.int p1), .val (.int p2), .val (.int p3), .val (.int p4), .val (.int p5), .val (.int (3 : Int32)), .val (.ref b101), .val (.ref b102), .val (.ref b103), .val (.ref b105), .val (.ref b108), .unset, .unset, .unset, .unset, .unset]) rfl ?_
    show Steps p.tables e below (T108.setTop (mkF m 67 #[.val (.int p0), .val (.int p1), .val (.int p2), .val (.int p3), .val (.int p4), .val (.int p5), .val (.int (3 : Int32)), .val (.ref b101), .val (.ref b102), .val (.ref b103), .val (.ref b105), .val (.ref b108), .unset, .unset, .unset, .unset, .unset] [])) _
    refine XS.iload X108.here hx rfl (hb hby at_67) rfl ?_
    show Steps p.tables e below (T108.setTop (mkF m 69 #[.val (.int p0), .val (.int p1), .val (.int p2), .val (.int p3), .val (.int p4), .val (.int p5), .val (.int (3 : Int32)), .val (.ref b101), .val (.ref b102), .val (.ref b103), .val (.ref b105), .val (.ref b108), .unset, .unset, .unset, .unset, .unset] [(.int (3 : Int32))])) _
    refine XS.aload X108.here hx rfl (hb hby at_69) rfl rfl ?_
    show Steps p.tables e below (T108.setTop (mkF m 71 #[.val (.int p0), .val (.int p1), .val (.int p2), .val (.int p3), .val (.int p4), .val (.int p5), .val (.int (3 : Int32)), .val (.ref b101), .val (.ref b102), .val (.ref b103), .val (.ref b105), .val (.ref b108), .unset, .unset, .unset, .unset, .unset] [(.ref b101), (.int (3 : Int32))])) _
    refine XS.aload X108.here hx rfl (hb hby at_71) rfl rfl ?_
    show Steps p.tables e below (T108.setTop (mkF m 73 #[.val (.int p0), .val (.int p1), .val (.int p2), .val (.int p3), .val (.int p4), .val (.int p5), .val (.int (3 : Int32)), .val (.ref b101), .val (.ref b102), .val (.ref b103), .val (.ref b105), .val (.ref b108), .unset, .unset, .unset, .unset, .unset] [(.ref b102), (.ref b101), (.int (3 : Int32))])) _
    refine XS.aload X108.here hx rfl (hb hby at_73) rfl rfl ?_
    show Steps p.tables e below (T108.setTop (mkF m 75 #[.val (.int p0), .val (.int p1), .val (.int p2), .val (.int p3), .val (.int p4), .val (.int p5), .val (.int (3 : Int32)), .val (.ref b101), .val (.ref b102), .val (.ref b103), .val (.ref b105), .val (.ref b108), .unset, .unset, .unset, .unset, .unset] [(.ref b103), (.ref b102), (.ref b101), (.int (3 : Int32))])) _
    refine XS.aload X108.here hx rfl (hb hby at_75) rfl rfl ?_
    show Steps p.tables e below (T108.setTop (mkF m 77 #[.val (.int p0), .val (.int p1), .val (.int p2), .val (.int p3), .val (.int p4), .val (.int p5), .val (.int (3 : Int32)), .val (.ref b101), .val (.ref b102), .val (.ref b103), .val (.ref b105), .val (.ref b108), .unset, .unset, .unset, .unset, .unset] [(.ref b105), (.ref b103), (.ref b102), (.ref b101), (.int (3 : Int32))])) _
    refine XS.aload X108.here hx rfl (hb hby at_77) rfl rfl ?_
    show Steps p.tables e below (T108.setTop (mkF m 79 #[.val (.int p0), .val (.int p1), .val (.int p2), .val (.int p3), .val (.int p4), .val (.int p5), .val (.int (3 : Int32)), .val (.ref b101), .val (.ref b102), .val (.ref b103), .val (.ref b105), .val (.ref b108), .unset, .unset, .unset, .unset, .unset] [(.ref b108), (.ref b105), (.ref b103), (.ref b102), (.ref b101), (.int (3 : Int32))])) _
    refine st116 _ ?_
    show Steps p.tables e below (T116.setTop (mkF m 82 #[.val (.int p0), .val (.int p1), .val (.int p2), .val (.int p3), .val (.int p4), .val (.int p5), .val (.int (3 : Int32)), .val (.ref b101), .val (.ref b102), .val (.ref b103), .val (.ref b105), .val (.ref b108), .unset, .unset, .unset, .unset, .unset] [(.ref b116)])) _
    refine XS.astore X116.here hx rfl (hb hby at_82) rfl rfl (l' := #[.val (.int p0), .val (.int p1), .val (.int p2), .val (.int p3), .val (.int p4), .val (.int p5), .val (.int (3 : Int32)), .val (.ref b101), .val (.ref b102), .val (.ref b103), .val (.ref b105), .val (.ref b108), .val (.ref b116), .unset, .unset, .unset, .unset]) rfl ?_
    show Steps p.tables e below (T116.setTop (mkF m 84 #[.val (.int p0), .val (.int p1), .val (.int p2), .val (.int p3), .val (.int p4), .val (.int p5), .val (.int (3 : Int32)), .val (.ref b101), .val (.ref b102), .val (.ref b103), .val (.ref b105), .val (.ref b108), .val (.ref b116), .unset, .unset, .unset, .unset] [])) _
    refine st117 _ ?_
    show Steps p.tables e below (T117.setTop (mkF m 87 #[.val (.int p0), .val (.int p1), .val (.int p2), .val (.int p3), .val (.int p4), .val (.int p5), .val (.int (3 : Int32)), .val (.ref b101), .val (.ref b102), .val (.ref b103), .val (.ref b105), .val (.ref b108), .val (.ref b116), .unset, .unset, .unset, .unset] [(.ref b117)])) _
    refine XS.dup X117.here hx rfl (hb hby at_87) rfl rfl ?_
    show Steps p.tables e below (T117.setTop (mkF m 88 #[.val (.int p0), .val (.int p1), .val (.int p2), .val (.int p3), .val (.int p4), .val (.int p5), .val (.int (3 : Int32)), .val (.ref b101), .val (.ref b102), .val (.ref b103), .val (.ref b105), .val (.ref b108), .val (.ref b116), .unset, .unset, .unset, .unset] [(.ref b117), (.ref b117)])) _
    refine XS.aload X117.here hx rfl (hb hby at_88) rfl rfl ?_
    show Steps p.tables e below (T117.setTop (mkF m 90 #[.val (.int p0), .val (.int p1), .val (.int p2), .val (.int p3), .val (.int p4), .val (.int p5), .val (.int (3 : Int32)), .val (.ref b101), .val (.ref b102), .val (.ref b103), .val (.ref b105), .val (.ref b108), .val (.ref b116), .unset, .unset, .unset, .unset] [(.ref b116), (.ref b117), (.ref b117)])) _
    refine st123.trans ?_
    show Steps p.tables e below (T123.setTop (mkF m 93 #[.val (.int p0), .val (.int p1), .val (.int p2), .val (.int p3), .val (.int p4), .val (.int p5), .val (.int (3 : Int32)), .val (.ref b101), .val (.ref b102), .val (.ref b103), .val (.ref b105), .val (.ref b108), .val (.ref b116), .unset, .unset, .unset, .unset] [(.ref b117)])) _
    refine XS.astore X123.here hx rfl (hb hby at_93) rfl rfl (l' := #[.val (.int p0), .val (.int p1), .val (.int p2), .val (.int p3), .val (.int p4), .val (.int p5), .val (.int (3 : Int32)), .val (.ref b101), .val (.ref b102), .val (.ref b103), .val (.ref b105), .val (.ref b108), .val (.ref b116), .val (.ref b117), .unset, .unset, .unset]) rfl ?_
    show Steps p.tables e below (T123.setTop (mkF m 95 #[.val (.int p0), .val (.int p1), .val (.int p2), .val (.int p3), .val (.int p4), .val (.int p5), .val (.int (3 : Int32)), .val (.ref b101), .val (.ref b102), .val (.ref b103), .val (.ref b105), .val (.ref b108), .val (.ref b116), .val (.ref b117), .unset, .unset, .unset] [])) _
    refine XS.aload X123.here hx rfl (hb hby at_95) rfl rfl ?_
    show Steps p.tables e below (T123.setTop (mkF m 97 #[.val (.int p0), .val (.int p1), .val (.int p2), .val (.int p3), .val (.int p4), .val (.int p5), .val (.int (3 : Int32)), .val (.ref b101), .val (.ref b102), .val (.ref b103), .val (.ref b105), .val (.ref b108), .val (.ref b116), .val (.ref b117), .unset, .unset, .unset] [(.ref b117)])) _
    refine st125.trans ?_
    show Steps p.tables e below (T125.setTop (mkF m 100 #[.val (.int p0), .val (.int p1), .val (.int p2), .val (.int p3), .val (.int p4), .val (.int p5), .val (.int (3 : Int32)), .val (.ref b101), .val (.ref b102), .val (.ref b103), .val (.ref b105), .val (.ref b108), .val (.ref b116), .val (.ref b117), .unset, .unset, .unset] [(.int (1 : Int32))])) _
    refine XS.ifYes X125.here hx rfl (pc0 := 100) (pc' := 105) rfl (hb hby at_100) rfl ((if0 _ _).trans (feq (by decide : ¬ (1 : Int32) = (0 : Int32))).2) (by decide) (by decide) ?_
    show Steps p.tables e below (T125.setTop (mkF m 105 #[.val (.int p0), .val (.int p1), .val (.int p2), .val (.int p3), .val (.int p4), .val (.int p5), .val (.int (3 : Int32)), .val (.ref b101), .val (.ref b102), .val (.ref b103), .val (.ref b105), .val (.ref b108), .val (.ref b116), .val (.ref b117), .unset, .unset, .unset] [])) _
    refine XS.aload X125.here hx rfl (hb hby at_105) rfl rfl ?_
    show Steps p.tables e below (T125.setTop (mkF m 107 #[.val (.int p0), .val (.int p1), .val (.int p2), .val (.int p3), .val (.int p4), .val (.int p5), .val (.int (3 : Int32)), .val (.ref b101), .val (.ref b102), .val (.ref b103), .val (.ref b105), .val (.ref b108), .val (.ref b116), .val (.ref b117), .unset, .unset, .unset] [(.ref b117)])) _
    refine st126.trans ?_
    show Steps p.tables e below (T126.setTop (mkF m 110 #[.val (.int p0), .val (.int p1), .val (.int p2), .val (.int p3), .val (.int p4), .val (.int p5), .val (.int (3 : Int32)), .val (.ref b101), .val (.ref b102), .val (.ref b103), .val (.ref b105), .val (.ref b108), .val (.ref b116), .val (.ref b117), .unset, .unset, .unset] [(.ref b101)])) _
    refine XS.astore X126.here hx rfl (hb hby at_110) rfl rfl (l' := #[.val (.int p0), .val (.int p1), .val (.int p2), .val (.int p3), .val (.int p4), .val (.int p5), .val (.int (3 : Int32)), .val (.ref b101), .val (.ref b102), .val (.ref b103), .val (.ref b105), .val (.ref b108), .val (.ref b116), .val (.ref b117), .val (.ref b101), .unset, .unset]) rfl ?_
    show Steps p.tables e below (T126.setTop (mkF m 112 #[.val (.int p0), .val (.int p1), .val (.int p2), .val (.int p3), .val (.int p4), .val (.int p5), .val (.int (3 : Int32)), .val (.ref b101), .val (.ref b102), .val (.ref b103), .val (.ref b105), .val (.ref b108), .val (.ref b116), .val (.ref b117), .val (.ref b101), .unset, .unset] [])) _
    refine XS.aload X126.here hx rfl (hb hby at_112) rfl rfl ?_
    show Steps p.tables e below (T126.setTop (mkF m 114 #[.val (.int p0), .val (.int p1), .val (.int p2), .val (.int p3), .val (.int p4), .val (.int p5), .val (.int (3 : Int32)), .val (.ref b101), .val (.ref b102), .val (.ref b103), .val (.ref b105), .val (.ref b108), .val (.ref b116), .val (.ref b117), .val (.ref b101), .unset, .unset] [(.ref b101)])) _
    refine XS.aload X126.here hx rfl (hb hby at_114) rfl rfl ?_
    show Steps p.tables e below (T126.setTop (mkF m 116 #[.val (.int p0), .val (.int p1), .val (.int p2), .val (.int p3), .val (.int p4), .val (.int p5), .val (.int (3 : Int32)), .val (.ref b101), .val (.ref b102), .val (.ref b103), .val (.ref b105), .val (.ref b108), .val (.ref b116), .val (.ref b117), .val (.ref b101), .unset, .unset] [(.ref b101), (.ref b101)])) _
    refine st127.trans ?_
    show Steps p.tables e below (T127.setTop (mkF m 119 #[.val (.int p0), .val (.int p1), .val (.int p2), .val (.int p3), .val (.int p4), .val (.int p5), .val (.int (3 : Int32)), .val (.ref b101), .val (.ref b102), .val (.ref b103), .val (.ref b105), .val (.ref b108), .val (.ref b116), .val (.ref b117), .val (.ref b101), .unset, .unset] [(.int (1 : Int32))])) _
    refine XS.ifYes X127.here hx rfl (pc0 := 119) (pc' := 124) rfl (hb hby at_119) rfl ((if0 _ _).trans (feq (by decide : ¬ (1 : Int32) = (0 : Int32))).2) (by decide) (by decide) ?_
    show Steps p.tables e below (T127.setTop (mkF m 124 #[.val (.int p0), .val (.int p1), .val (.int p2), .val (.int p3), .val (.int p4), .val (.int p5), .val (.int (3 : Int32)), .val (.ref b101), .val (.ref b102), .val (.ref b103), .val (.ref b105), .val (.ref b108), .val (.ref b116), .val (.ref b117), .val (.ref b101), .unset, .unset] [])) _
    refine XS.aload X127.here hx rfl (hb hby at_124) rfl rfl ?_
    show Steps p.tables e below (T127.setTop (mkF m 126 #[.val (.int p0), .val (.int p1), .val (.int p2), .val (.int p3), .val (.int p4), .val (.int p5), .val (.int (3 : Int32)), .val (.ref b101), .val (.ref b102), .val (.ref b103), .val (.ref b105), .val (.ref b108), .val (.ref b116), .val (.ref b117), .val (.ref b101), .unset, .unset] [(.ref b117)])) _
    refine st130.trans ?_
    show Steps p.tables e below (T130.setTop (mkF m 129 #[.val (.int p0), .val (.int p1), .val (.int p2), .val (.int p3), .val (.int p4), .val (.int p5), .val (.int (3 : Int32)), .val (.ref b101), .val (.ref b102), .val (.ref b103), .val (.ref b105), .val (.ref b108), .val (.ref b116), .val (.ref b117), .val (.ref b101), .unset, .unset] [(.int (1 : Int32))])) _
    refine XS.iload X130.here hx rfl (hb hby at_129) rfl ?_
    show Steps p.tables e below (T130.setTop (mkF m 131 #[.val (.int p0), .val (.int p1), .val (.int p2), .val (.int p3), .val (.int p4), .val (.int p5), .val (.int (3 : Int32)), .val (.ref b101), .val (.ref b102), .val (.ref b103), .val (.ref b105), .val (.ref b108), .val (.ref b116), .val (.ref b117), .val (.ref b101), .unset, .unset] [(.int (3 : Int32)), (.int (1 : Int32))])) _
    refine XS.iconst X130.here hx rfl (hb hby at_131) ?_
    show Steps p.tables e below (T130.setTop (mkF m 132 #[.val (.int p0), .val (.int p1), .val (.int p2), .val (.int p3), .val (.int p4), .val (.int p5), .val (.int (3 : Int32)), .val (.ref b101), .val (.ref b102), .val (.ref b103), .val (.ref b105), .val (.ref b108), .val (.ref b116), .val (.ref b117), .val (.ref b101), .unset, .unset] [(.int (2 : Int32)), (.int (3 : Int32)), (.int (1 : Int32))])) _
    refine XS.icmpNo X130.here hx rfl (hb hby at_132) rfl (tlt (by decide : (2 : Int32) < (3 : Int32))).2.2.2 ?_
    show Steps p.tables e below (T130.setTop (mkF m 135 #[.val (.int p0), .val (.int p1), .val (.int p2), .val (.int p3), .val (.int p4), .val (.int p5), .val (.int (3 : Int32)), .val (.ref b101), .val (.ref b102), .val (.ref b103), .val (.ref b105), .val (.ref b108), .val (.ref b116), .val (.ref b117), .val (.ref b101), .unset, .unset] [(.int (1 : Int32))])) _
    refine XS.iconst X130.here hx rfl (hb hby at_135) ?_
    show Steps p.tables e below (T130.setTop (mkF m 136 #[.val (.int p0), .val (.int p1), .val (.int p2), .val (.int p3), .val (.int p4), .val (.int p5), .val (.int (3 : Int32)), .val (.ref b101), .val (.ref b102), .val (.ref b103), .val (.ref b105), .val (.ref b108), .val (.ref b116), .val (.ref b117), .val (.ref b101), .unset, .unset] [(.int (1 : Int32)), (.int (1 : Int32))])) _
    refine XS.goto X130.here hx rfl (pc0 := 136) (pc' := 140) rfl (hb hby at_136) (by decide) (by decide) ?_
    show Steps p.tables e below (T130.setTop (mkF m 140 #[.val (.int p0), .val (.int p1), .val (.int p2), .val (.int p3), .val (.int p4), .val (.int p5), .val (.int (3 : Int32)), .val (.ref b101), .val (.ref b102), .val (.ref b103), .val (.ref b105), .val (.ref b108), .val (.ref b116), .val (.ref b117), .val (.ref b101), .unset, .unset] [(.int (1 : Int32)), (.int (1 : Int32))])) _
    refine XS.icmpYes X130.here hx rfl (pc0 := 140) (pc' := 145) rfl (hb hby at_140) rfl (teq rfl).1 (by decide) (by decide) ?_
    show Steps p.tables e below (T130.setTop (mkF m 145 #[.val (.int p0), .val (.int p1), .val (.int p2), .val (.int p3), .val (.int p4), .val (.int p5), .val (.int (3 : Int32)), .val (.ref b101), .val (.ref b102), .val (.ref b103), .val (.ref b105), .val (.ref b108), .val (.ref b116), .val (.ref b117), .val (.ref b101), .unset, .unset] [])) _
    refine XS.iload X130.here hx rfl (hb hby at_145) rfl ?_
    show Steps p.tables e below (T130.setTop (mkF m 147 #[.val (.int p0), .val (.int p1), .val (.int p2), .val (.int p3), .val (.int p4), .val (.int p5), .val (.int (3 : Int32)), .val (.ref b101), .val (.ref b102), .val (.ref b103), .val (.ref b105), .val (.ref b108), .val (.ref b116), .val (.ref b117), .val (.ref b101), .unset, .unset] [(.int (3 : Int32))])) _
    refine XS.iconst X130.here hx rfl (hb hby at_147) ?_
    show Steps p.tables e below (T130.setTop (mkF m 148 #[.val (.int p0), .val (.int p1), .val (.int p2), .val (.int p3), .val (.int p4), .val (.int p5), .val (.int (3 : Int32)), .val (.ref b101), .val (.ref b102), .val (.ref b103), .val (.ref b105), .val (.ref b108), .val (.ref b116), .val (.ref b117), .val (.ref b101), .unset, .unset] [(.int (2 : Int32)), (.int (3 : Int32))])) _
    refine XS.icmpNo X130.here hx rfl (hb hby at_148) rfl (flt (by decide : ¬ (3 : Int32) < (2 : Int32))).1 ?_
    show Steps p.tables e below (T130.setTop (mkF m 151 #[.val (.int p0), .val (.int p1), .val (.int p2), .val (.int p3), .val (.int p4), .val (.int p5), .val (.int (3 : Int32)), .val (.ref b101), .val (.ref b102), .val (.ref b103), .val (.ref b105), .val (.ref b108), .val (.ref b116), .val (.ref b117), .val (.ref b101), .unset, .unset] [])) _
    refine XS.aload X130.here hx rfl (hb hby at_151) rfl rfl ?_
    show Steps p.tables e below (T130.setTop (mkF m 153 #[.val (.int p0), .val (.int p1), .val (.int p2), .val (.int p3), .val (.int p4), .val (.int p5), .val (.int (3 : Int32)), .val (.ref b101), .val (.ref b102), .val (.ref b103), .val (.ref b105), .val (.ref b108), .val (.ref b116), .val (.ref b117), .val (.ref b101), .unset, .unset] [(.ref b117)])) _
    refine st131.trans ?_
    show Steps p.tables e below (T131.setTop (mkF m 156 #[.val (.int p0), .val (.int p1), .val (.int p2), .val (.int p3), .val (.int p4), .val (.int p5), .val (.int (3 : Int32)), .val (.ref b101), .val (.ref b102), .val (.ref b103), .val (.ref b105), .val (.ref b108), .val (.ref b116), .val (.ref b117), .val (.ref b101), .unset, .unset] [(.ref b102)])) _
    refine XS.aload X131.here hx rfl (hb hby at_156) rfl rfl ?_
    show Steps p.tables e below (T131.setTop (mkF m 158 #[.val (.int p0), .val (.int p1), .val (.int p2), .val (.int p3), .val (.int p4), .val (.int p5), .val (.int (3 : Int32)), .val (.ref b101), .val (.ref b102), .val (.ref b103), .val (.ref b105), .val (.ref b108), .val (.ref b116), .val (.ref b117), .val (.ref b101), .unset, .unset] [(.ref b102), (.ref b102)])) _
    refine st132.trans ?_
    show Steps p.tables e below (T132.setTop (mkF m 161 #[.val (.int p0), .val (.int p1), .val (.int p2), .val (.int p3), .val (.int p4), .val (.int p5), .val (.int (3 : Int32)), .val (.ref b101), .val (.ref b102), .val (.ref b103), .val (.ref b105), .val (.ref b108), .val (.ref b116), .val (.ref b117), .val (.ref b101), .unset, .unset] [(.int (1 : Int32))])) _
    refine XS.ifYes X132.here hx rfl (pc0 := 161) (pc' := 166) rfl (hb hby at_161) rfl ((if0 _ _).trans (feq (by decide : ¬ (1 : Int32) = (0 : Int32))).2) (by decide) (by decide) ?_
    show Steps p.tables e below (T132.setTop (mkF m 166 #[.val (.int p0), .val (.int p1), .val (.int p2), .val (.int p3), .val (.int p4), .val (.int p5), .val (.int (3 : Int32)), .val (.ref b101), .val (.ref b102), .val (.ref b103), .val (.ref b105), .val (.ref b108), .val (.ref b116), .val (.ref b117), .val (.ref b101), .unset, .unset] [])) _
    refine XS.iload X132.here hx rfl (hb hby at_166) rfl ?_
    show Steps p.tables e below (T132.setTop (mkF m 168 #[.val (.int p0), .val (.int p1), .val (.int p2), .val (.int p3), .val (.int p4), .val (.int p5), .val (.int (3 : Int32)), .val (.ref b101), .val (.ref b102), .val (.ref b103), .val (.ref b105), .val (.ref b108), .val (.ref b116), .val (.ref b117), .val (.ref b101), .unset, .unset] [(.int (3 : Int32))])) _
    refine XS.iconst X132.here hx rfl (hb hby at_168) ?_
    show Steps p.tables e below (T132.setTop (mkF m 169 #[.val (.int p0), .val (.int p1), .val (.int p2), .val (.int p3), .val (.int p4), .val (.int p5), .val (.int (3 : Int32)), .val (.ref b101), .val (.ref b102), .val (.ref b103), .val (.ref b105), .val (.ref b108), .val (.ref b116), .val (.ref b117), .val (.ref b101), .unset, .unset] [(.int (3 : Int32)), (.int (3 : Int32))])) _
    refine XS.icmpYes X132.here hx rfl (pc0 := 169) (pc' := 174) rfl (hb hby at_169) rfl (flt (by decide : ¬ (3 : Int32) < (3 : Int32))).2.1 (by decide) (by decide) ?_
    show Steps p.tables e below (T132.setTop (mkF m 174 #[.val (.int p0), .val (.int p1), .val (.int p2), .val (.int p3), .val (.int p4), .val (.int p5), .val (.int (3 : Int32)), .val (.ref b101), .val (.ref b102), .val (.ref b103), .val (.ref b105), .val (.ref b108), .val (.ref b116), .val (.ref b117), .val (.ref b101), .unset, .unset] [])) _
    refine XS.aload X132.here hx rfl (hb hby at_174) rfl rfl ?_
    show Steps p.tables e below (T132.setTop (mkF m 176 #[.val (.int p0), .val (.int p1), .val (.int p2), .val (.int p3), .val (.int p4), .val (.int p5), .val (.int (3 : Int32)), .val (.ref b101), .val (.ref b102), .val (.ref b103), .val (.ref b105), .val (.ref b108), .val (.ref b116), .val (.ref b117), .val (.ref b101), .unset, .unset] [(.ref b117)])) _
    refine st134.trans ?_
    show Steps p.tables e below (T134.setTop (mkF m 179 #[.val (.int p0), .val (.int p1), .val (.int p2), .val (.int p3), .val (.int p4), .val (.int p5), .val (.int (3 : Int32)), .val (.ref b101), .val (.ref b102), .val (.ref b103), .val (.ref b105), .val (.ref b108), .val (.ref b116), .val (.ref b117), .val (.ref b101), .unset, .unset] [(.ref b103)])) _
    refine XS.astore X134.here hx rfl (hb hby at_179) rfl rfl (l' := #[.val (.int p0), .val (.int p1), .val (.int p2), .val (.int p3), .val (.int p4), .val (.int p5), .val (.int (3 : Int32)), .val (.ref b101), .val (.ref b102), .val (.ref b103), .val (.ref b105), .val (.ref b108), .val (.ref b116), .val (.ref b117), .val (.ref b101), .val (.ref b103), .unset]) rfl ?_
    show Steps p.tables e below (T134.setTop (mkF m 181 #[.val (.int p0), .val (.int p1), .val (.int p2), .val (.int p3), .val (.int p4), .val (.int p5), .val (.int (3 : Int32)), .val (.ref b101), .val (.ref b102), .val (.ref b103), .val (.ref b105), .val (.ref b108), .val (.ref b116), .val (.ref b117), .val (.ref b101), .val (.ref b103), .unset] [])) _
    refine XS.aload X134.here hx rfl (hb hby at_181) rfl rfl ?_
    show Steps p.tables e below (T134.setTop (mkF m 183 #[.val (.int p0), .val (.int p1), .val (.int p2), .val (.int p3), .val (.int p4), .val (.int p5), .val (.int (3 : Int32)), .val (.ref b101), .val (.ref b102), .val (.ref b103), .val (.ref b105), .val (.ref b108), .val (.ref b116), .val (.ref b117), .val (.ref b101), .val (.ref b103), .unset] [(.ref b103)])) _
    refine XS.aload X134.here hx rfl (hb hby at_183) rfl rfl ?_
    show Steps p.tables e below (T134.setTop (mkF m 185 #[.val (.int p0), .val (.int p1), .val (.int p2), .val (.int p3), .val (.int p4), .val (.int p5), .val (.int (3 : Int32)), .val (.ref b101), .val (.ref b102), .val (.ref b103), .val (.ref b105), .val (.ref b108), .val (.ref b116), .val (.ref b117), .val (.ref b101), .val (.ref b103), .unset] [(.ref b103), (.ref b103)])) _
    refine st135.trans ?_
    show Steps p.tables e below (T135.setTop (mkF m 188 #[.val (.int p0), .val (.int p1), .val (.int p2), .val (.int p3), .val (.int p4), .val (.int p5), .val (.int (3 : Int32)), .val (.ref b101), .val (.ref b102), .val (.ref b103), .val (.ref b105), .val (.ref b108), .val (.ref b116), .val (.ref b117), .val (.ref b101), .val (.ref b103), .unset] [(.int (1 : Int32))])) _
    refine XS.ifYes X135.here hx rfl (pc0 := 188) (pc' := 193) rfl (hb hby at_188) rfl ((if0 _ _).trans (feq (by decide : ¬ (1 : Int32) = (0 : Int32))).2) (by decide) (by decide) ?_
    show Steps p.tables e below (T135.setTop (mkF m 193 #[.val (.int p0), .val (.int p1), .val (.int p2), .val (.int p3), .val (.int p4), .val (.int p5), .val (.int (3 : Int32)), .val (.ref b101), .val (.ref b102), .val (.ref b103), .val (.ref b105), .val (.ref b108), .val (.ref b116), .val (.ref b117), .val (.ref b101), .val (.ref b103), .unset] [])) _
    refine XS.aload X135.here hx rfl (hb hby at_193) rfl rfl ?_
    show Steps p.tables e below (T135.setTop (mkF m 195 #[.val (.int p0), .val (.int p1), .val (.int p2), .val (.int p3), .val (.int p4), .val (.int p5), .val (.int (3 : Int32)), .val (.ref b101), .val (.ref b102), .val (.ref b103), .val (.ref b105), .val (.ref b108), .val (.ref b116), .val (.ref b117), .val (.ref b101), .val (.ref b103), .unset] [(.ref b117)])) _
    refine st138.trans ?_
    show Steps p.tables e below (T138.setTop (mkF m 198 #[.val (.int p0), .val (.int p1), .val (.int p2), .val (.int p3), .val (.int p4), .val (.int p5), .val (.int (3 : Int32)), .val (.ref b101), .val (.ref b102), .val (.ref b103), .val (.ref b105), .val (.ref b108), .val (.ref b116), .val (.ref b117), .val (.ref b101), .val (.ref b103), .unset] [(.int (0 : Int32))])) _
    refine XS.iload X138.here hx rfl (hb hby at_198) rfl ?_
    show Steps p.tables e below (T138.setTop (mkF m 200 #[.val (.int p0), .val (.int p1), .val (.int p2), .val (.int p3), .val (.int p4), .val (.int p5), .val (.int (3 : Int32)), .val (.ref b101), .val (.ref b102), .val (.ref b103), .val (.ref b105), .val (.ref b108), .val (.ref b116), .val (.ref b117), .val (.ref b101), .val (.ref b103), .unset] [(.int (3 : Int32)), (.int (0 : Int32))])) _
    refine XS.iconst X138.here hx rfl (hb hby at_200) ?_
    show Steps p.tables e below (T138.setTop (mkF m 201 #[.val (.int p0), .val (.int p1), .val (.int p2), .val (.int p3), .val (.int p4), .val (.int p5), .val (.int (3 : Int32)), .val (.ref b101), .val (.ref b102), .val (.ref b103), .val (.ref b105), .val (.ref b108), .val (.ref b116), .val (.ref b117), .val (.ref b101), .val (.ref b103), .unset] [(.int (4 : Int32)), (.int (3 : Int32)), (.int (0 : Int32))])) _
    refine XS.icmpYes X138.here hx rfl (pc0 := 201) (pc' := 208) rfl (hb hby at_201) rfl (flt (by decide : ¬ (4 : Int32) < (3 : Int32))).2.2.2 (by decide) (by decide) ?_
    show Steps p.tables e below (T138.setTop (mkF m 208 #[.val (.int p0), .val (.int p1), .val (.int p2), .val (.int p3), .val (.int p4), .val (.int p5), .val (.int (3 : Int32)), .val (.ref b101), .val (.ref b102), .val (.ref b103), .val (.ref b105), .val (.ref b108), .val (.ref b116), .val (.ref b117), .val (.ref b101), .val (.ref b103), .unset] [(.int (0 : Int32))])) _
    refine XS.iconst X138.here hx rfl (hb hby at_208) ?_
    show Steps p.tables e below (T138.setTop (mkF m 209 #[.val (.int p0), .val (.int p1), .val (.int p2), .val (.int p3), .val (.int p4), .val (.int p5), .val (.int (3 : Int32)), .val (.ref b101), .val (.ref b102), .val (.ref b103), .val (.ref b105), .val (.ref b108), .val (.ref b116), .val (.ref b117), .val (.ref b101), .val (.ref b103), .unset] [(.int (0 : Int32)), (.int (0 : Int32))])) _
    refine XS.icmpYes X138.here hx rfl (pc0 := 209) (pc' := 214) rfl (hb hby at_209) rfl (teq rfl).1 (by decide) (by decide) ?_
    show Steps p.tables e below (T138.setTop (mkF m 214 #[.val (.int p0), .val (.int p1), .val (.int p2), .val (.int p3), .val (.int p4), .val (.int p5), .val (.int (3 : Int32)), .val (.ref b101), .val (.ref b102), .val (.ref b103), .val (.ref b105), .val (.ref b108), .val (.ref b116), .val (.ref b117), .val (.ref b101), .val (.ref b103), .unset] [])) _
    refine XS.iload X138.here hx rfl (hb hby at_214) rfl ?_
    show Steps p.tables e below (T138.setTop (mkF m 216 #[.val (.int p0), .val (.int p1), .val (.int p2), .val (.int p3), .val (.int p4), .val (.int p5), .val (.int (3 : Int32)), .val (.ref b101), .val (.ref b102), .val (.ref b103), .val (.ref b105), .val (.ref b108), .val (.ref b116), .val (.ref b117), .val (.ref b101), .val (.ref b103), .unset] [(.int (3 : Int32))])) _
    refine XS.iconst X138.here hx rfl (hb hby at_216) ?_
    show Steps p.tables e below (T138.setTop (mkF m 217 #[.val (.int p0), .val (.int p1), .val (.int p2), .val (.int p3), .val (.int p4), .val (.int p5), .val (.int (3 : Int32)), .val (.ref b101), .val (.ref b102), .val (.ref b103), .val (.ref b105), .val (.ref b108), .val (.ref b116), .val (.ref b117), .val (.ref b101), .val (.ref b103), .unset] [(.int (4 : Int32)), (.int (3 : Int32))])) _
    refine XS.icmpYes X138.here hx rfl (pc0 := 217) (pc' := 235) rfl (hb hby at_217) rfl (tlt (by decide : (3 : Int32) < (4 : Int32))).1 (by decide) (by decide) ?_
    show Steps p.tables e below (T138.setTop (mkF m 235 #[.val (.int p0), .val (.int p1), .val (.int p2), .val (.int p3), .val (.int p4), .val (.int p5), .val (.int (3 : Int32)), .val (.ref b101), .val (.ref b102), .val (.ref b103), .val (.ref b105), .val (.ref b108), .val (.ref b116), .val (.ref b117), .val (.ref b101), .val (.ref b103), .unset] [])) _
    refine XS.iload X138.here hx rfl (hb hby at_235) rfl ?_
    show Steps p.tables e below (T138.setTop (mkF m 237 #[.val (.int p0), .val (.int p1), .val (.int p2), .val (.int p3), .val (.int p4), .val (.int p5), .val (.int (3 : Int32)), .val (.ref b101), .val (.ref b102), .val (.ref b103), .val (.ref b105), .val (.ref b108), .val (.ref b116), .val (.ref b117), .val (.ref b101), .val (.ref b103), .unset] [(.int (3 : Int32))])) _
    refine XS.iconst X138.here hx rfl (hb hby at_237) ?_
    show Steps p.tables e below (T138.setTop (mkF m 238 #[.val (.int p0), .val (.int p1), .val (.int p2), .val (.int p3), .val (.int p4), .val (.int p5), .val (.int (3 : Int32)), .val (.ref b101), .val (.ref b102), .val (.ref b103), .val (.ref b105), .val (.ref b108), .val (.ref b116), .val (.ref b117), .val (.ref b101), .val (.ref b103), .unset] [(.int (5 : Int32)), (.int (3 : Int32))])) _
    refine XS.icmpNo X138.here hx rfl (hb hby at_238) rfl (tlt (by decide : (3 : Int32) < (5 : Int32))).2.1 ?_
    show Steps p.tables e below (T138.setTop (mkF m 241 #[.val (.int p0), .val (.int p1), .val (.int p2), .val (.int p3), .val (.int p4), .val (.int p5), .val (.int (3 : Int32)), .val (.ref b101), .val (.ref b102), .val (.ref b103), .val (.ref b105), .val (.ref b108), .val (.ref b116), .val (.ref b117), .val (.ref b101), .val (.ref b103), .unset] [])) _
    refine XS.iconst X138.here hx rfl (hb hby at_241) ?_
    show Steps p.tables e below (T138.setTop (mkF m 242 #[.val (.int p0), .val (.int p1), .val (.int p2), .val (.int p3), .val (.int p4), .val (.int p5), .val (.int (3 : Int32)), .val (.ref b101), .val (.ref b102), .val (.ref b103), .val (.ref b105), .val (.ref b108), .val (.ref b116), .val (.ref b117), .val (.ref b101), .val (.ref b103), .unset] [(.int (1 : Int32))])) _
    exact retN X138 hx (t := .boolean) Bd.returns (by simp) (hb hby at_242) hr
  · show QLaw n0 _ T138.heap _
    rw [e138]
    exact ⟨rfl, N138⟩
set_option maxRecDepth 65536 in
set_option maxHeartbeats 40000000 in
theorem rm0_4 (l : Launch) (Z : State) (a0 : Array Value) (hw : ∀ d ∈ tables_1, d.before a0 Z = true) (ws : List Jvm.Cond) (p0 : Int32) (p1 : Int32) (p2 : Int32) (p3 : Int32) (p4 : Int32) (p5 : Int32) (cs : Int32) (h0 : Heap) (n0 : Nat) (Z0 : n0 ≤ h0.size) (Sc : Sta Z Z.heap "java/lang/String" "COMPACT_STRINGS" "Z" (.int cs)) (hcs : ¬ (cs = (0 : Int32))) (O0 : Old Z n0 h0) (hN : (((p0 &&& (2147483647 : Int32)) % (5 : Int32)) + (1 : Int32)) = (4 : Int32)) :
    MetFree l x (head1 (Jvm.Cond.code x code maxLocals ret :: ws) room_1) (fun a U => a = #[(.int p0), (.int p1), (.int p2), (.int p3), (.int p4), (.int p5)] ∧ Z.Warmed39 U.vm ∧ U.heap = h0) (fun _ _ _ _ _ => True) (fun _ U o U' => ∃ v L, o = .returned v ∧ QLaw n0 v U'.heap L ∧ FrameEnd U o U' L room_1.cells room_1.slots) := by
  refine MetFree.of_bodySF (plainFor_of_name own_pn2) hisR ?_
  intro p e s m args below meth c s₁ Bd hml0 hP hK
  obtain ⟨rfl, hZ, hh⟩ := hP
  have hx := Bd.exec
  have hby := Bd.bytes
  have hml : c.maxLocals = 17 := hml0
  have hown : s.vm.findClass "com/example/seglport/seglport/options/OptionReaderNextPinLaw" = some m.cls := findClass_of_methodNamed Bd.named
  have hnm := (name_of_methodNamed Bd.named Bd.method).1
  have X0 : Stand p l e room_1 s m #[(.int p0), (.int p1), (.int p2), (.int p3), (.int p4), (.int p5)] below meth c s₁ [] 0 0 := Stand.of_body Bd
  have e0 : s₁.heap = h0 := by rw [← hh, Bd.state]; rfl
  have N0 := Fr.nil n0
  have ef : entryFrame m #[(.int p0), (.int p1), (.int p2), (.int p3), (.int p4), (.int p5)] maxLocals = mkF m 0 #[.val (.int p0), .val (.int p1), .val (.int p2), .val (.int p3), .val (.int p4), .val (.int p5), .unset, .unset, .unset, .unset, .unset, .unset, .unset, .unset, .unset, .unset, .unset] [] := by first | (simp [entryFrame, mkF, argsToLocals, Value.category, maxLocals]; done) | rfl
  have pre0 : ∀ t, Steps p.tables e below (s₁.setTop (mkF m 0 #[.val (.int p0), .val (.int p1), .val (.int p2), .val (.int p3), .val (.int p4), .val (.int p5), .unset, .unset, .unset, .unset, .unset, .unset, .unset, .unset, .unset, .unset, .unset] [])) t → Steps p.tables e below (s₁.setTop (entryFrame m #[(.int p0), (.int p1), (.int p2), (.int p3), (.int p4), (.int p5)] maxLocals)) t := fun t k => castTop ef k
  obtain ⟨_, _, ⟨T101, L101, k101, n101⟩, -, X101, ⟨Lc101, hQ101, l101, y101, z101⟩, st101⟩ := Jvm.LawKit.callS X0 hx (y := (⟨"java/lang/String", "valueOf", "(C)Ljava/lang/String;"⟩ : MethodName)) hown (mvT hZ (hw _ (List.mem_of_getElem? (i := 1) rfl))) (mvT hZ (hw _ (List.mem_of_getElem? (i := 2) rfl))) (mvT hZ (hw _ (List.mem_of_getElem? (i := 3) rfl))) (mvT hZ (hw _ (List.mem_of_getElem? (i := 4) rfl))) (by decide) (backOf (W := 0) (rm_val l Z a0 hw [] ((p1 &&& (255 : Int32)).toUInt32.toUInt16.toUInt32.toInt32) cs h0 n0 Z0 Sc hcs O0 (own_c _)) hZ (hw _ (List.mem_of_getElem? (i := 4) rfl)) (hw _ (List.mem_of_getElem? (i := 3) rfl)) (by decide) (by decide)) (g := (mkF m 16 #[.val (.int p0), .val (.int p1), .val (.int p2), .val (.int p3), .val (.int p4), .val (.int p5), .val (.int (4 : Int32)), .unset, .unset, .unset, .unset, .unset, .unset, .unset, .unset, .unset, .unset] [(.int ((p1 &&& (255 : Int32)).toUInt32.toUInt16.toUInt32.toInt32))])) rfl (by rw [hml]; rfl) (argsL := [(.int ((p1 &&& (255 : Int32)).toUInt32.toUInt16.toUInt32.toInt32))]) (rest := []) (lenOf own_pd3 rfl) rfl (by show 2 * 0 + _ ≤ _; exact Nat.le_of_eq rfl) (hb hby at_16) (fun _ _ => ⟨rfl, e0, (by decide : 0 + 2 ≤ _), (by decide : 0 + 5 ≤ _)⟩)
  dsimp only [Pt.U, Pt.locs, Pt.cells, Pt.slots] at X101 l101 y101 z101 st101 hQ101
  subst l101 y101 z101
  obtain ⟨b101, rfl, Nq101, K101, by_b101, Ex101⟩ := hQ101
  have g_b101 : n0 ≤ b101 := Nat.le_trans Z0 by_b101
  have sz_b101 : h0.size ≤ b101 := Nat.le_trans (Keep.refl h0 []).1 by_b101
  have Z101 : n0 ≤ T101.heap.size := Nat.le_trans Z0 K101.1
  have KC101 : Keep h0 T101.heap [] := (Keep.refl h0 []).trans K101 all0
  have N101 := Fr.app N0 Nq101
  obtain ⟨_, _, ⟨T102, L102, k102, n102⟩, -, X102, ⟨Lc102, hQ102, l102, y102, z102⟩, st102⟩ := Jvm.LawKit.callS X101 hx (y := (⟨"java/lang/String", "valueOf", "(C)Ljava/lang/String;"⟩ : MethodName)) hown (mvT hZ (hw _ (List.mem_of_getElem? (i := 1) rfl))) (mvT hZ (hw _ (List.mem_of_getElem? (i := 2) rfl))) (mvT hZ (hw _ (List.mem_of_getElem? (i := 3) rfl))) (mvT hZ (hw _ (List.mem_of_getElem? (i := 4) rfl))) (by decide) (backOf (W := 0) (rm_val l Z a0 hw [] ((p2 &&& (255 : Int32)).toUInt32.toUInt16.toUInt32.toInt32) cs T101.heap n0 Z101 Sc hcs (O0.keep K101 all0) (own_c _)) hZ (hw _ (List.mem_of_getElem? (i := 4) rfl)) (hw _ (List.mem_of_getElem? (i := 3) rfl)) (by decide) (by decide)) (g := (mkF m 27 #[.val (.int p0), .val (.int p1), .val (.int p2), .val (.int p3), .val (.int p4), .val (.int p5), .val (.int (4 : Int32)), .val (.ref b101), .unset, .unset, .unset, .unset, .unset, .unset, .unset, .unset, .unset] [(.int ((p2 &&& (255 : Int32)).toUInt32.toUInt16.toUInt32.toInt32))])) rfl (by rw [hml]; rfl) (argsL := [(.int ((p2 &&& (255 : Int32)).toUInt32.toUInt16.toUInt32.toInt32))]) (rest := []) (lenOf own_pd3 rfl) rfl (by show 2 * 0 + _ ≤ _; exact Nat.le_of_eq rfl) (hb hby at_27) (fun _ _ => ⟨rfl, rfl, (by decide : 2 + 2 ≤ _), (by decide : 5 + 5 ≤ _)⟩)
  dsimp only [Pt.U, Pt.locs, Pt.cells, Pt.slots] at X102 l102 y102 z102 st102 hQ102
  subst l102 y102 z102
  obtain ⟨b102, rfl, Nq102, K102, by_b102, Ex102⟩ := hQ102
  have ne_b101_b102 : b101 ≠ b102 := Nat.ne_of_lt (Nat.lt_of_lt_of_le Ex101.lt by_b102)
  have g_b102 : n0 ≤ b102 := Nat.le_trans Z101 by_b102
  have sz_b102 : h0.size ≤ b102 := Nat.le_trans KC101.1 by_b102
  have Z102 : n0 ≤ T102.heap.size := Nat.le_trans Z101 K102.1
  have KC102 : Keep h0 T102.heap [] := KC101.trans K102 all0
  have N102 := Fr.app N101 Nq102
  obtain ⟨_, _, ⟨T103, L103, k103, n103⟩, -, X103, ⟨Lc103, hQ103, l103, y103, z103⟩, st103⟩ := Jvm.LawKit.callS X102 hx (y := (⟨"java/lang/String", "valueOf", "(C)Ljava/lang/String;"⟩ : MethodName)) hown (mvT hZ (hw _ (List.mem_of_getElem? (i := 1) rfl))) (mvT hZ (hw _ (List.mem_of_getElem? (i := 2) rfl))) (mvT hZ (hw _ (List.mem_of_getElem? (i := 3) rfl))) (mvT hZ (hw _ (List.mem_of_getElem? (i := 4) rfl))) (by decide) (backOf (W := 0) (rm_val l Z a0 hw [] ((p3 &&& (255 : Int32)).toUInt32.toUInt16.toUInt32.toInt32) cs T102.heap n0 Z102 Sc hcs ((O0.keep K101 all0).keep K102 all0) (own_c _)) hZ (hw _ (List.mem_of_getElem? (i := 4) rfl)) (hw _ (List.mem_of_getElem? (i := 3) rfl)) (by decide) (by decide)) (g := (mkF m 38 #[.val (.int p0), .val (.int p1), .val (.int p2), .val (.int p3), .val (.int p4), .val (.int p5), .val (.int (4 : Int32)), .val (.ref b101), .val (.ref b102), .unset, .unset, .unset, .unset, .unset, .unset, .unset, .unset] [(.int ((p3 &&& (255 : Int32)).toUInt32.toUInt16.toUInt32.toInt32))])) rfl (by rw [hml]; rfl) (argsL := [(.int ((p3 &&& (255 : Int32)).toUInt32.toUInt16.toUInt32.toInt32))]) (rest := []) (lenOf own_pd3 rfl) rfl (by show 2 * 0 + _ ≤ _; exact Nat.le_of_eq rfl) (hb hby at_38) (fun _ _ => ⟨rfl, rfl, (by decide : 4 + 2 ≤ _), (by decide : 10 + 5 ≤ _)⟩)
  dsimp only [Pt.U, Pt.locs, Pt.cells, Pt.slots] at X103 l103 y103 z103 st103 hQ103
  subst l103 y103 z103
  obtain ⟨b103, rfl, Nq103, K103, by_b103, Ex103⟩ := hQ103
  have f104 := (Ex101.keep K102)
  have ne_b101_b103 : b101 ≠ b103 := Nat.ne_of_lt (Nat.lt_of_lt_of_le f104.lt by_b103)
  have ne_b102_b103 : b102 ≠ b103 := Nat.ne_of_lt (Nat.lt_of_lt_of_le Ex102.lt by_b103)
  have g_b103 : n0 ≤ b103 := Nat.le_trans Z102 by_b103
  have sz_b103 : h0.size ≤ b103 := Nat.le_trans KC102.1 by_b103
  have Z103 : n0 ≤ T103.heap.size := Nat.le_trans Z102 K103.1
  have KC103 : Keep h0 T103.heap [] := KC102.trans K103 all0
  have N103 := Fr.app N102 Nq103
  obtain ⟨_, _, ⟨T105, L105, k105, n105⟩, -, X105, ⟨Lc105, hQ105, l105, y105, z105⟩, st105⟩ := Jvm.LawKit.callS X103 hx (y := (⟨"java/lang/String", "valueOf", "(C)Ljava/lang/String;"⟩ : MethodName)) hown (mvT hZ (hw _ (List.mem_of_getElem? (i := 1) rfl))) (mvT hZ (hw _ (List.mem_of_getElem? (i := 2) rfl))) (mvT hZ (hw _ (List.mem_of_getElem? (i := 3) rfl))) (mvT hZ (hw _ (List.mem_of_getElem? (i := 4) rfl))) (by decide) (backOf (W := 0) (rm_val l Z a0 hw [] ((p4 &&& (255 : Int32)).toUInt32.toUInt16.toUInt32.toInt32) cs T103.heap n0 Z103 Sc hcs (((O0.keep K101 all0).keep K102 all0).keep K103 all0) (own_c _)) hZ (hw _ (List.mem_of_getElem? (i := 4) rfl)) (hw _ (List.mem_of_getElem? (i := 3) rfl)) (by decide) (by decide)) (g := (mkF m 50 #[.val (.int p0), .val (.int p1), .val (.int p2), .val (.int p3), .val (.int p4), .val (.int p5), .val (.int (4 : Int32)), .val (.ref b101), .val (.ref b102), .val (.ref b103), .unset, .unset, .unset, .unset, .unset, .unset, .unset] [(.int ((p4 &&& (255 : Int32)).toUInt32.toUInt16.toUInt32.toInt32))])) rfl (by rw [hml]; rfl) (argsL := [(.int ((p4 &&& (255 : Int32)).toUInt32.toUInt16.toUInt32.toInt32))]) (rest := []) (lenOf own_pd3 rfl) rfl (by show 2 * 0 + _ ≤ _; exact Nat.le_of_eq rfl) (hb hby at_50) (fun _ _ => ⟨rfl, rfl, (by decide : 6 + 2 ≤ _), (by decide : 15 + 5 ≤ _)⟩)
  dsimp only [Pt.U, Pt.locs, Pt.cells, Pt.slots] at X105 l105 y105 z105 st105 hQ105
  subst l105 y105 z105
  obtain ⟨b105, rfl, Nq105, K105, by_b105, Ex105⟩ := hQ105
  have f106 := (f104.keep K103)
  have f107 := (Ex102.keep K103)
  have ne_b101_b105 : b101 ≠ b105 := Nat.ne_of_lt (Nat.lt_of_lt_of_le f106.lt by_b105)
  have ne_b102_b105 : b102 ≠ b105 := Nat.ne_of_lt (Nat.lt_of_lt_of_le f107.lt by_b105)
  have ne_b103_b105 : b103 ≠ b105 := Nat.ne_of_lt (Nat.lt_of_lt_of_le Ex103.lt by_b105)
  have g_b105 : n0 ≤ b105 := Nat.le_trans Z103 by_b105
  have sz_b105 : h0.size ≤ b105 := Nat.le_trans KC103.1 by_b105
  have Z105 : n0 ≤ T105.heap.size := Nat.le_trans Z103 K105.1
  have KC105 : Keep h0 T105.heap [] := KC103.trans K105 all0
  have N105 := Fr.app N103 Nq105
  obtain ⟨_, _, ⟨T108, L108, k108, n108⟩, -, X108, ⟨Lc108, hQ108, l108, y108, z108⟩, st108⟩ := Jvm.LawKit.callS X105 hx (y := (⟨"java/lang/String", "valueOf", "(C)Ljava/lang/String;"⟩ : MethodName)) hown (mvT hZ (hw _ (List.mem_of_getElem? (i := 1) rfl))) (mvT hZ (hw _ (List.mem_of_getElem? (i := 2) rfl))) (mvT hZ (hw _ (List.mem_of_getElem? (i := 3) rfl))) (mvT hZ (hw _ (List.mem_of_getElem? (i := 4) rfl))) (by decide) (backOf (W := 0) (rm_val l Z a0 hw [] ((p5 &&& (255 : Int32)).toUInt32.toUInt16.toUInt32.toInt32) cs T105.heap n0 Z105 Sc hcs ((((O0.keep K101 all0).keep K102 all0).keep K103 all0).keep K105 all0) (own_c _)) hZ (hw _ (List.mem_of_getElem? (i := 4) rfl)) (hw _ (List.mem_of_getElem? (i := 3) rfl)) (by decide) (by decide)) (g := (mkF m 62 #[.val (.int p0), .val (.int p1), .val (.int p2), .val (.int p3), .val (.int p4), .val (.int p5), .val (.int (4 : Int32)), .val (.ref b101), .val (.ref b102), .val (.ref b103), .val (.ref b105), .unset, .unset, .unset, .unset, .unset, .unset] [(.int ((p5 &&& (255 : Int32)).toUInt32.toUInt16.toUInt32.toInt32))])) rfl (by rw [hml]; rfl) (argsL := [(.int ((p5 &&& (255 : Int32)).toUInt32.toUInt16.toUInt32.toInt32))]) (rest := []) (lenOf own_pd3 rfl) rfl (by show 2 * 0 + _ ≤ _; exact Nat.le_of_eq rfl) (hb hby at_62) (fun _ _ => ⟨rfl, rfl, (by decide : 8 + 2 ≤ _), (by decide : 20 + 5 ≤ _)⟩)
  dsimp only [Pt.U, Pt.locs, Pt.cells, Pt.slots] at X108 l108 y108 z108 st108 hQ108
  subst l108 y108 z108
  obtain ⟨b108, rfl, Nq108, K108, by_b108, Ex108⟩ := hQ108
  have f109 := (f106.keep K105)
  have f110 := (f107.keep K105)
  have f111 := (Ex103.keep K105)
  have ne_b101_b108 : b101 ≠ b108 := Nat.ne_of_lt (Nat.lt_of_lt_of_le f109.lt by_b108)
  have ne_b102_b108 : b102 ≠ b108 := Nat.ne_of_lt (Nat.lt_of_lt_of_le f110.lt by_b108)
  have ne_b103_b108 : b103 ≠ b108 := Nat.ne_of_lt (Nat.lt_of_lt_of_le f111.lt by_b108)
  have ne_b105_b108 : b105 ≠ b108 := Nat.ne_of_lt (Nat.lt_of_lt_of_le Ex105.lt by_b108)
  have g_b108 : n0 ≤ b108 := Nat.le_trans Z105 by_b108
  have sz_b108 : h0.size ≤ b108 := Nat.le_trans KC105.1 by_b108
  have Z108 : n0 ≤ T108.heap.size := Nat.le_trans Z105 K108.1
  have KC108 : Keep h0 T108.heap [] := KC105.trans K108 all0
  have N108 := Fr.app N105 Nq108
  have f112 := (f109.keep K108)
  have f113 := (f110.keep K108)
  have f114 := (f111.keep K108)
  have f115 := (Ex105.keep K108)
  obtain ⟨_, _, ⟨T116, L116, k116, n116⟩, -, X116, ⟨Lc116, hQ116, l116, y116, z116⟩, st116⟩ := Jvm.LawKit.callS X108 hx (y := (⟨"com/example/seglport/seglport/options/OptionReaderNextPinLaw", "make", "(ILjava/lang/String;Ljava/lang/String;Ljava/lang/String;Ljava/lang/String;Ljava/lang/String;)[Ljava/lang/String;"⟩ : MethodName)) hown (mvT hZ (hw _ (List.mem_of_getElem? (i := 27) rfl))) (mvT hZ (hw _ (List.mem_of_getElem? (i := 28) rfl))) (mvT hZ (hw _ (List.mem_of_getElem? (i := 29) rfl))) (mvT hZ (hw _ (List.mem_of_getElem? (i := 30) rfl))) (by decide) (backOf (W := 0) (rm_make4 l Z a0 hw [] b101 b102 b103 b105 b108 T108.heap n0 Z108 f112 f113 f114 f115 Ex108) hZ (hw _ (List.mem_of_getElem? (i := 30) rfl)) (hw _ (List.mem_of_getElem? (i := 29) rfl)) (by decide) (by decide)) (g := (mkF m 79 #[.val (.int p0), .val (.int p1), .val (.int p2), .val (.int p3), .val (.int p4), .val (.int p5), .val (.int (4 : Int32)), .val (.ref b101), .val (.ref b102), .val (.ref b103), .val (.ref b105), .val (.ref b108), .unset, .unset, .unset, .unset, .unset] [(.ref b108), (.ref b105), (.ref b103), (.ref b102), (.ref b101), (.int (4 : Int32))])) rfl (by rw [hml]; rfl) (argsL := [(.int (4 : Int32)), (.ref b101), (.ref b102), (.ref b103), (.ref b105), (.ref b108)]) (rest := []) (lenOf own_pd4 rfl) rfl (by show 2 * 0 + _ ≤ _; exact Nat.le_of_eq rfl) (hb hby at_79) (fun _ _ => ⟨rfl, rfl, (by decide : 10 + 1 ≤ _), (by decide : 25 + 4 ≤ _)⟩)
  dsimp only [Pt.U, Pt.locs, Pt.cells, Pt.slots] at X116 l116 y116 z116 st116 hQ116
  subst l116 y116 z116
  obtain ⟨b116, rfl, Nq116, K116, by_b116, V116⟩ := hQ116
  have ne_b101_b116 : b101 ≠ b116 := Nat.ne_of_lt (Nat.lt_of_lt_of_le f112.lt by_b116)
  have ne_b102_b116 : b102 ≠ b116 := Nat.ne_of_lt (Nat.lt_of_lt_of_le f113.lt by_b116)
  have ne_b103_b116 : b103 ≠ b116 := Nat.ne_of_lt (Nat.lt_of_lt_of_le f114.lt by_b116)
  have ne_b105_b116 : b105 ≠ b116 := Nat.ne_of_lt (Nat.lt_of_lt_of_le f115.lt by_b116)
  have ne_b108_b116 : b108 ≠ b116 := Nat.ne_of_lt (Nat.lt_of_lt_of_le Ex108.lt by_b116)
  have g_b116 : n0 ≤ b116 := Nat.le_trans Z108 by_b116
  have sz_b116 : h0.size ≤ b116 := Nat.le_trans KC108.1 by_b116
  have Z116 : n0 ≤ T116.heap.size := Nat.le_trans Z108 K116.1
  have KC116 : Keep h0 T116.heap [] := KC108.trans K116 all0
  have N116 := Fr.app N108 Nq116
  obtain ⟨T117, h117, X117, e117, E117, A117, D117, -, st117⟩ := newO X116 hx hZ hown (hw _ (List.mem_of_getElem? (i := 33) rfl)) (hw _ (List.mem_of_getElem? (i := 34) rfl)) (hw _ (List.mem_of_getElem? (i := 35) rfl)) rfl (g := (mkF m 84 #[.val (.int p0), .val (.int p1), .val (.int p2), .val (.int p3), .val (.int p4), .val (.int p5), .val (.int (4 : Int32)), .val (.ref b101), .val (.ref b102), .val (.ref b103), .val (.ref b105), .val (.ref b108), .val (.ref b116), .unset, .unset, .unset, .unset] [])) rfl (hb hby at_84) (by decide) (by decide)
  obtain ⟨b117, g117⟩ : ∃ z, z = T116.heap.size := ⟨_, rfl⟩
  rw [← g117] at A117 D117 st117
  have f118 := (f112.keep K116)
  have f119 := (f113.keep K116)
  have f120 := (f114.keep K116)
  have f121 := (f115.keep K116)
  have f122 := (Ex108.keep K116)
  have ne_b101_b117 : b101 ≠ b117 := Nat.ne_of_lt (Nat.lt_of_lt_of_le f118.lt (Nat.le_of_eq g117.symm))
  have ne_b102_b117 : b102 ≠ b117 := Nat.ne_of_lt (Nat.lt_of_lt_of_le f119.lt (Nat.le_of_eq g117.symm))
  have ne_b103_b117 : b103 ≠ b117 := Nat.ne_of_lt (Nat.lt_of_lt_of_le f120.lt (Nat.le_of_eq g117.symm))
  have ne_b105_b117 : b105 ≠ b117 := Nat.ne_of_lt (Nat.lt_of_lt_of_le f121.lt (Nat.le_of_eq g117.symm))
  have ne_b108_b117 : b108 ≠ b117 := Nat.ne_of_lt (Nat.lt_of_lt_of_le f122.lt (Nat.le_of_eq g117.symm))
  have ne_b116_b117 : b116 ≠ b117 := Nat.ne_of_lt (Nat.lt_of_lt_of_le V116.lt (Nat.le_of_eq g117.symm))
  have g_b117 : n0 ≤ b117 := Nat.le_trans Z116 (Nat.le_of_eq g117.symm)
  have sz_b117 : h0.size ≤ b117 := Nat.le_trans KC116.1 (Nat.le_of_eq g117.symm)
  have Z117 : n0 ≤ h117.size := Nat.le_trans Z116 E117.1
  have KC117 : Keep h0 h117 [] := KC116.ext E117
  have F__args_b117 : Fld Z h117 b117 "com/example/seglport/seglport/options/OptionReader" "_args" "[Ljava/lang/String;" .null := D117 (Or.inr (hw _ (List.mem_of_getElem? (i := 41) rfl))) (ty := (.array (.object "java/lang/String"))) (by decide)
  have F__next_b117 : Fld Z h117 b117 "com/example/seglport/seglport/options/OptionReader" "_next" "I" (.int (0 : Int32)) := D117 (Or.inl (hw _ (List.mem_of_getElem? (i := 48) rfl))) (ty := .int) (by decide)
  have F__option_b117 : Fld Z h117 b117 "com/example/seglport/seglport/options/OptionReader" "_option" "Ljava/lang/String;" .null := D117 (Or.inl (hw _ (List.mem_of_getElem? (i := 55) rfl))) (ty := (.object "java/lang/String")) (by decide)
  obtain ⟨_, _, ⟨T123, L123, k123, n123⟩, -, X123, ⟨Lc123, hQ123, l123, y123, z123⟩, st123⟩ := X117.specialBack hx (y := (⟨"com/example/seglport/seglport/options/OptionReader", "<init>", "([Ljava/lang/String;)V"⟩ : MethodName)) rfl hown (mvT hZ (hw _ (List.mem_of_getElem? (i := 36) rfl))) (mvT hZ (hw _ (List.mem_of_getElem? (i := 37) rfl))) (mvT hZ (hw _ (List.mem_of_getElem? (i := 38) rfl))) (by decide) (backOf (W := 1) (rm_init l Z a0 hw [] b117 b116 h117 n0 Z117 A117 F__args_b117 F__next_b117 F__option_b117 g_b117) hZ (hw _ (List.mem_of_getElem? (i := 38) rfl)) (hw _ (List.mem_of_getElem? (i := 35) rfl)) (by decide) (by decide)) (g := (mkF m 90 #[.val (.int p0), .val (.int p1), .val (.int p2), .val (.int p3), .val (.int p4), .val (.int p5), .val (.int (4 : Int32)), .val (.ref b101), .val (.ref b102), .val (.ref b103), .val (.ref b105), .val (.ref b108), .val (.ref b116), .unset, .unset, .unset, .unset] [(.ref b116), (.ref b117), (.ref b117)])) rfl (by rw [hml]; rfl) (Steps.refl _) (a := b117) (argsL := [(.ref b116)]) (rest := [(.ref b117)]) (lenOf own_pd5 rfl) rfl (by show 2 * 0 + _ ≤ _; exact Nat.le_of_eq rfl) (hb hby at_90) (fun _ _ => ⟨rfl, e117, (by decide : 12 + 0 ≤ _), (by decide : 32 + 0 ≤ _)⟩)
  dsimp only [Pt.U, Pt.locs, Pt.cells, Pt.slots] at X123 l123 y123 z123 st123 hQ123
  subst l123 y123 z123
  obtain ⟨rfl, Nq123, K123, R123_0, R123_1, R123_2, R123_3⟩ := hQ123
  have Z123 : n0 ≤ T123.heap.size := Nat.le_trans Z117 K123.1
  have KC123 : Keep h0 T123.heap [] := KC117.trans K123 (allS (Or.inr sz_b117) all0)
  have N123 := Fr.app N116 Nq123
  have f124 := ((V116.ext E117).keep K123 (ninS ne_b116_b117 nin0))
  obtain ⟨cq125, kq125, q125a, q125b, q125c⟩ := isOf hZ rfl R123_0
  obtain ⟨_, _, ⟨T125, L125, k125, n125⟩, -, X125, ⟨Lc125, hQ125, l125, y125, z125⟩, st125⟩ := X123.virtualBack hx (y := (⟨"com/example/seglport/seglport/options/OptionReader", "hasNext", "()Z"⟩ : MethodName)) (z := (⟨"com/example/seglport/seglport/options/OptionReader", "hasNext", "()Z"⟩ : MethodName)) hown (mvT hZ (hw _ (List.mem_of_getElem? (i := 42) rfl))) (mvT hZ (hw _ (List.mem_of_getElem? (i := 43) rfl))) (notFace_of_selects (args := #[]) (mvT hZ (hw _ (List.mem_of_getElem? (i := 45) rfl)))) (mvT hZ (hw _ (List.mem_of_getElem? (i := 45) rfl))) (mvT hZ (hw _ (List.mem_of_getElem? (i := 44) rfl))) (by decide) (backOf (W := 0) (rm_hasT l Z a0 hw [] b117 b116 4 _ (4 : Int32) (0 : Int32) .null T123.heap n0 Z123 R123_0 R123_1 R123_2 R123_3 f124 rfl (by decide)) hZ (hw _ (List.mem_of_getElem? (i := 46) rfl)) (hw _ (List.mem_of_getElem? (i := 35) rfl)) (by decide) (by decide)) q125a q125c (g := (mkF m 97 #[.val (.int p0), .val (.int p1), .val (.int p2), .val (.int p3), .val (.int p4), .val (.int p5), .val (.int (4 : Int32)), .val (.ref b101), .val (.ref b102), .val (.ref b103), .val (.ref b105), .val (.ref b108), .val (.ref b116), .val (.ref b117), .unset, .unset, .unset] [(.ref b117)])) rfl (by rw [hml]; rfl) (Steps.refl _) (argsL := []) (rest := []) (lenOf own_pd6 rfl) rfl (by show 2 * 0 + _ ≤ _; exact Nat.le_of_eq rfl) (hb hby at_97) (fun _ _ => ⟨rfl, rfl, (by decide : 12 + 0 ≤ _), (by decide : 32 + 0 ≤ _)⟩)
  dsimp only [Pt.U, Pt.locs, Pt.cells, Pt.slots] at X125 l125 y125 z125 st125 hQ125
  subst l125 y125 z125
  obtain ⟨rfl, Nq125, e125⟩ := hQ125
  have N125 := Fr.app N123 Nq125
  obtain ⟨cq126, kq126, q126a, q126b, q126c⟩ := isOf hZ e125 R123_0
  obtain ⟨_, _, ⟨T126, L126, k126, n126⟩, -, X126, ⟨Lc126, hQ126, l126, y126, z126⟩, st126⟩ := X125.virtualBack hx (y := (⟨"com/example/seglport/seglport/options/OptionReader", "next", "()Ljava/lang/String;"⟩ : MethodName)) (z := (⟨"com/example/seglport/seglport/options/OptionReader", "next", "()Ljava/lang/String;"⟩ : MethodName)) hown (mvT hZ (hw _ (List.mem_of_getElem? (i := 49) rfl))) (mvT hZ (hw _ (List.mem_of_getElem? (i := 50) rfl))) (notFace_of_selects (args := #[]) (mvT hZ (hw _ (List.mem_of_getElem? (i := 52) rfl)))) (mvT hZ (hw _ (List.mem_of_getElem? (i := 52) rfl))) (mvT hZ (hw _ (List.mem_of_getElem? (i := 51) rfl))) (by decide) (backOf (W := 0) (rm_next l Z a0 hw [] b117 b116 4 _ (4 : Int32) (0 : Int32) .null 0 b101 (2 : Int32) T123.heap n0 Z123 R123_0 R123_1 R123_2 R123_3 f124 rfl g_b117 (by decide) rfl (by decide) rfl (by decide)) hZ (hw _ (List.mem_of_getElem? (i := 53) rfl)) (hw _ (List.mem_of_getElem? (i := 35) rfl)) (by decide) (by decide)) q126a q126c (g := (mkF m 107 #[.val (.int p0), .val (.int p1), .val (.int p2), .val (.int p3), .val (.int p4), .val (.int p5), .val (.int (4 : Int32)), .val (.ref b101), .val (.ref b102), .val (.ref b103), .val (.ref b105), .val (.ref b108), .val (.ref b116), .val (.ref b117), .unset, .unset, .unset] [(.ref b117)])) rfl (by rw [hml]; rfl) (Steps.refl _) (argsL := []) (rest := []) (lenOf own_pd7 rfl) rfl (by show 2 * 0 + _ ≤ _; exact Nat.le_of_eq rfl) (hb hby at_107) (fun _ _ => ⟨rfl, e125, (by decide : 12 + 0 ≤ _), (by decide : 32 + 0 ≤ _)⟩)
  dsimp only [Pt.U, Pt.locs, Pt.cells, Pt.slots] at X126 l126 y126 z126 st126 hQ126
  subst l126 y126 z126
  obtain ⟨rfl, Nq126, K126, R126_0, R126_1, R126_2, R126_3⟩ := hQ126
  have Z126 : n0 ≤ T126.heap.size := Nat.le_trans Z123 K126.1
  have KC126 : Keep h0 T126.heap [] := KC123.trans K126 (allS (Or.inr sz_b117) all0)
  have N126 := Fr.app N125 Nq126
  have f128 := (((f118.ext E117).keep K123).keep K126)
  obtain ⟨cq127, kq127, q127a, q127b, q127c⟩ := isOf hZ rfl f128
  obtain ⟨_, _, ⟨T127, L127, k127, n127⟩, -, X127, ⟨Lc127, hQ127, l127, y127, z127⟩, st127⟩ := X126.virtualBack hx (y := (⟨"java/lang/String", "equals", "(Ljava/lang/Object;)Z"⟩ : MethodName)) (z := (⟨"java/lang/String", "equals", "(Ljava/lang/Object;)Z"⟩ : MethodName)) hown (mvT hZ (hw _ (List.mem_of_getElem? (i := 56) rfl))) (mvT hZ (hw _ (List.mem_of_getElem? (i := 57) rfl))) (notFace_of_selects (args := #[]) (mvT hZ (hw _ (List.mem_of_getElem? (i := 59) rfl)))) (mvT hZ (hw _ (List.mem_of_getElem? (i := 59) rfl))) (mvT hZ (hw _ (List.mem_of_getElem? (i := 58) rfl))) (by decide) (backOf (W := 0) (rm_eq l Z a0 hw [] b101 T126.heap n0 Z126 ) hZ (hw _ (List.mem_of_getElem? (i := 60) rfl)) (hw _ (List.mem_of_getElem? (i := 3) rfl)) (by decide) (by decide)) q127a q127c (g := (mkF m 116 #[.val (.int p0), .val (.int p1), .val (.int p2), .val (.int p3), .val (.int p4), .val (.int p5), .val (.int (4 : Int32)), .val (.ref b101), .val (.ref b102), .val (.ref b103), .val (.ref b105), .val (.ref b108), .val (.ref b116), .val (.ref b117), .val (.ref b101), .unset, .unset] [(.ref b101), (.ref b101)])) rfl (by rw [hml]; rfl) (Steps.refl _) (argsL := [(.ref b101)]) (rest := []) (lenOf own_pd8 rfl) rfl (by show 2 * 0 + _ ≤ _; exact Nat.le_of_eq rfl) (hb hby at_116) (fun _ _ => ⟨rfl, rfl, (by decide : 12 + 0 ≤ _), (by decide : 32 + 0 ≤ _)⟩)
  dsimp only [Pt.U, Pt.locs, Pt.cells, Pt.slots] at X127 l127 y127 z127 st127 hQ127
  subst l127 y127 z127
  obtain ⟨rfl, Nq127, e127⟩ := hQ127
  have N127 := Fr.app N126 Nq127
  have f129 := (f124.keep K126 (ninS ne_b116_b117 nin0))
  obtain ⟨cq130, kq130, q130a, q130b, q130c⟩ := isOf hZ e127 R126_0
  obtain ⟨_, _, ⟨T130, L130, k130, n130⟩, -, X130, ⟨Lc130, hQ130, l130, y130, z130⟩, st130⟩ := X127.virtualBack hx (y := (⟨"com/example/seglport/seglport/options/OptionReader", "hasNext", "()Z"⟩ : MethodName)) (z := (⟨"com/example/seglport/seglport/options/OptionReader", "hasNext", "()Z"⟩ : MethodName)) hown (mvT hZ (hw _ (List.mem_of_getElem? (i := 42) rfl))) (mvT hZ (hw _ (List.mem_of_getElem? (i := 43) rfl))) (notFace_of_selects (args := #[]) (mvT hZ (hw _ (List.mem_of_getElem? (i := 45) rfl)))) (mvT hZ (hw _ (List.mem_of_getElem? (i := 45) rfl))) (mvT hZ (hw _ (List.mem_of_getElem? (i := 44) rfl))) (by decide) (backOf (W := 0) (rm_hasT l Z a0 hw [] b117 b116 4 _ (4 : Int32) (2 : Int32) (.ref b101) T126.heap n0 Z126 R126_0 R126_1 R126_2 R126_3 f129 rfl (by decide)) hZ (hw _ (List.mem_of_getElem? (i := 46) rfl)) (hw _ (List.mem_of_getElem? (i := 35) rfl)) (by decide) (by decide)) q130a q130c (g := (mkF m 126 #[.val (.int p0), .val (.int p1), .val (.int p2), .val (.int p3), .val (.int p4), .val (.int p5), .val (.int (4 : Int32)), .val (.ref b101), .val (.ref b102), .val (.ref b103), .val (.ref b105), .val (.ref b108), .val (.ref b116), .val (.ref b117), .val (.ref b101), .unset, .unset] [(.ref b117)])) rfl (by rw [hml]; rfl) (Steps.refl _) (argsL := []) (rest := []) (lenOf own_pd6 rfl) rfl (by show 2 * 0 + _ ≤ _; exact Nat.le_of_eq rfl) (hb hby at_126) (fun _ _ => ⟨rfl, e127, (by decide : 12 + 0 ≤ _), (by decide : 32 + 0 ≤ _)⟩)
  dsimp only [Pt.U, Pt.locs, Pt.cells, Pt.slots] at X130 l130 y130 z130 st130 hQ130
  subst l130 y130 z130
  obtain ⟨rfl, Nq130, e130⟩ := hQ130
  have N130 := Fr.app N127 Nq130
  obtain ⟨cq131, kq131, q131a, q131b, q131c⟩ := isOf hZ e130 R126_0
  obtain ⟨_, _, ⟨T131, L131, k131, n131⟩, -, X131, ⟨Lc131, hQ131, l131, y131, z131⟩, st131⟩ := X130.virtualBack hx (y := (⟨"com/example/seglport/seglport/options/OptionReader", "value", "()Ljava/lang/String;"⟩ : MethodName)) (z := (⟨"com/example/seglport/seglport/options/OptionReader", "value", "()Ljava/lang/String;"⟩ : MethodName)) hown (mvT hZ (hw _ (List.mem_of_getElem? (i := 61) rfl))) (mvT hZ (hw _ (List.mem_of_getElem? (i := 62) rfl))) (notFace_of_selects (args := #[]) (mvT hZ (hw _ (List.mem_of_getElem? (i := 64) rfl)))) (mvT hZ (hw _ (List.mem_of_getElem? (i := 64) rfl))) (mvT hZ (hw _ (List.mem_of_getElem? (i := 63) rfl))) (by decide) (backOf (W := 0) (rm_value l Z a0 hw [] b117 b116 4 _ (4 : Int32) (2 : Int32) (.ref b101) 1 b102 T126.heap n0 Z126 R126_0 R126_1 R126_2 R126_3 f129 rfl (by decide) rfl (by decide) rfl (by decide)) hZ (hw _ (List.mem_of_getElem? (i := 65) rfl)) (hw _ (List.mem_of_getElem? (i := 35) rfl)) (by decide) (by decide)) q131a q131c (g := (mkF m 153 #[.val (.int p0), .val (.int p1), .val (.int p2), .val (.int p3), .val (.int p4), .val (.int p5), .val (.int (4 : Int32)), .val (.ref b101), .val (.ref b102), .val (.ref b103), .val (.ref b105), .val (.ref b108), .val (.ref b116), .val (.ref b117), .val (.ref b101), .unset, .unset] [(.ref b117)])) rfl (by rw [hml]; rfl) (Steps.refl _) (argsL := []) (rest := []) (lenOf own_pd7 rfl) rfl (by show 2 * 0 + _ ≤ _; exact Nat.le_of_eq rfl) (hb hby at_153) (fun _ _ => ⟨rfl, e130, (by decide : 12 + 0 ≤ _), (by decide : 32 + 0 ≤ _)⟩)
  dsimp only [Pt.U, Pt.locs, Pt.cells, Pt.slots] at X131 l131 y131 z131 st131 hQ131
  subst l131 y131 z131
  obtain ⟨rfl, Nq131, e131⟩ := hQ131
  have N131 := Fr.app N130 Nq131
  have f133 := (((f119.ext E117).keep K123).keep K126)
  obtain ⟨cq132, kq132, q132a, q132b, q132c⟩ := isOf hZ e131 f133
  obtain ⟨_, _, ⟨T132, L132, k132, n132⟩, -, X132, ⟨Lc132, hQ132, l132, y132, z132⟩, st132⟩ := X131.virtualBack hx (y := (⟨"java/lang/String", "equals", "(Ljava/lang/Object;)Z"⟩ : MethodName)) (z := (⟨"java/lang/String", "equals", "(Ljava/lang/Object;)Z"⟩ : MethodName)) hown (mvT hZ (hw _ (List.mem_of_getElem? (i := 56) rfl))) (mvT hZ (hw _ (List.mem_of_getElem? (i := 57) rfl))) (notFace_of_selects (args := #[]) (mvT hZ (hw _ (List.mem_of_getElem? (i := 59) rfl)))) (mvT hZ (hw _ (List.mem_of_getElem? (i := 59) rfl))) (mvT hZ (hw _ (List.mem_of_getElem? (i := 58) rfl))) (by decide) (backOf (W := 0) (rm_eq l Z a0 hw [] b102 T126.heap n0 Z126 ) hZ (hw _ (List.mem_of_getElem? (i := 60) rfl)) (hw _ (List.mem_of_getElem? (i := 3) rfl)) (by decide) (by decide)) q132a q132c (g := (mkF m 158 #[.val (.int p0), .val (.int p1), .val (.int p2), .val (.int p3), .val (.int p4), .val (.int p5), .val (.int (4 : Int32)), .val (.ref b101), .val (.ref b102), .val (.ref b103), .val (.ref b105), .val (.ref b108), .val (.ref b116), .val (.ref b117), .val (.ref b101), .unset, .unset] [(.ref b102), (.ref b102)])) rfl (by rw [hml]; rfl) (Steps.refl _) (argsL := [(.ref b102)]) (rest := []) (lenOf own_pd8 rfl) rfl (by show 2 * 0 + _ ≤ _; exact Nat.le_of_eq rfl) (hb hby at_158) (fun _ _ => ⟨rfl, e131, (by decide : 12 + 0 ≤ _), (by decide : 32 + 0 ≤ _)⟩)
  dsimp only [Pt.U, Pt.locs, Pt.cells, Pt.slots] at X132 l132 y132 z132 st132 hQ132
  subst l132 y132 z132
  obtain ⟨rfl, Nq132, e132⟩ := hQ132
  have N132 := Fr.app N131 Nq132
  obtain ⟨cq134, kq134, q134a, q134b, q134c⟩ := isOf hZ e132 R126_0
  obtain ⟨_, _, ⟨T134, L134, k134, n134⟩, -, X134, ⟨Lc134, hQ134, l134, y134, z134⟩, st134⟩ := X132.virtualBack hx (y := (⟨"com/example/seglport/seglport/options/OptionReader", "next", "()Ljava/lang/String;"⟩ : MethodName)) (z := (⟨"com/example/seglport/seglport/options/OptionReader", "next", "()Ljava/lang/String;"⟩ : MethodName)) hown (mvT hZ (hw _ (List.mem_of_getElem? (i := 49) rfl))) (mvT hZ (hw _ (List.mem_of_getElem? (i := 50) rfl))) (notFace_of_selects (args := #[]) (mvT hZ (hw _ (List.mem_of_getElem? (i := 52) rfl)))) (mvT hZ (hw _ (List.mem_of_getElem? (i := 52) rfl))) (mvT hZ (hw _ (List.mem_of_getElem? (i := 51) rfl))) (by decide) (backOf (W := 0) (rm_next l Z a0 hw [] b117 b116 4 _ (4 : Int32) (2 : Int32) (.ref b101) 2 b103 (4 : Int32) T126.heap n0 Z126 R126_0 R126_1 R126_2 R126_3 f129 rfl g_b117 (by decide) rfl (by decide) rfl (by decide)) hZ (hw _ (List.mem_of_getElem? (i := 53) rfl)) (hw _ (List.mem_of_getElem? (i := 35) rfl)) (by decide) (by decide)) q134a q134c (g := (mkF m 176 #[.val (.int p0), .val (.int p1), .val (.int p2), .val (.int p3), .val (.int p4), .val (.int p5), .val (.int (4 : Int32)), .val (.ref b101), .val (.ref b102), .val (.ref b103), .val (.ref b105), .val (.ref b108), .val (.ref b116), .val (.ref b117), .val (.ref b101), .unset, .unset] [(.ref b117)])) rfl (by rw [hml]; rfl) (Steps.refl _) (argsL := []) (rest := []) (lenOf own_pd7 rfl) rfl (by show 2 * 0 + _ ≤ _; exact Nat.le_of_eq rfl) (hb hby at_176) (fun _ _ => ⟨rfl, e132, (by decide : 12 + 0 ≤ _), (by decide : 32 + 0 ≤ _)⟩)
  dsimp only [Pt.U, Pt.locs, Pt.cells, Pt.slots] at X134 l134 y134 z134 st134 hQ134
  subst l134 y134 z134
  obtain ⟨rfl, Nq134, K134, R134_0, R134_1, R134_2, R134_3⟩ := hQ134
  have Z134 : n0 ≤ T134.heap.size := Nat.le_trans Z126 K134.1
  have KC134 : Keep h0 T134.heap [] := KC126.trans K134 (allS (Or.inr sz_b117) all0)
  have N134 := Fr.app N132 Nq134
  have f136 := ((((f120.ext E117).keep K123).keep K126).keep K134)
  obtain ⟨cq135, kq135, q135a, q135b, q135c⟩ := isOf hZ rfl f136
  obtain ⟨_, _, ⟨T135, L135, k135, n135⟩, -, X135, ⟨Lc135, hQ135, l135, y135, z135⟩, st135⟩ := X134.virtualBack hx (y := (⟨"java/lang/String", "equals", "(Ljava/lang/Object;)Z"⟩ : MethodName)) (z := (⟨"java/lang/String", "equals", "(Ljava/lang/Object;)Z"⟩ : MethodName)) hown (mvT hZ (hw _ (List.mem_of_getElem? (i := 56) rfl))) (mvT hZ (hw _ (List.mem_of_getElem? (i := 57) rfl))) (notFace_of_selects (args := #[]) (mvT hZ (hw _ (List.mem_of_getElem? (i := 59) rfl)))) (mvT hZ (hw _ (List.mem_of_getElem? (i := 59) rfl))) (mvT hZ (hw _ (List.mem_of_getElem? (i := 58) rfl))) (by decide) (backOf (W := 0) (rm_eq l Z a0 hw [] b103 T134.heap n0 Z134 ) hZ (hw _ (List.mem_of_getElem? (i := 60) rfl)) (hw _ (List.mem_of_getElem? (i := 3) rfl)) (by decide) (by decide)) q135a q135c (g := (mkF m 185 #[.val (.int p0), .val (.int p1), .val (.int p2), .val (.int p3), .val (.int p4), .val (.int p5), .val (.int (4 : Int32)), .val (.ref b101), .val (.ref b102), .val (.ref b103), .val (.ref b105), .val (.ref b108), .val (.ref b116), .val (.ref b117), .val (.ref b101), .val (.ref b103), .unset] [(.ref b103), (.ref b103)])) rfl (by rw [hml]; rfl) (Steps.refl _) (argsL := [(.ref b103)]) (rest := []) (lenOf own_pd8 rfl) rfl (by show 2 * 0 + _ ≤ _; exact Nat.le_of_eq rfl) (hb hby at_185) (fun _ _ => ⟨rfl, rfl, (by decide : 12 + 0 ≤ _), (by decide : 32 + 0 ≤ _)⟩)
  dsimp only [Pt.U, Pt.locs, Pt.cells, Pt.slots] at X135 l135 y135 z135 st135 hQ135
  subst l135 y135 z135
  obtain ⟨rfl, Nq135, e135⟩ := hQ135
  have N135 := Fr.app N134 Nq135
  have f137 := (f129.keep K134 (ninS ne_b116_b117 nin0))
  obtain ⟨cq138, kq138, q138a, q138b, q138c⟩ := isOf hZ e135 R134_0
  obtain ⟨_, _, ⟨T138, L138, k138, n138⟩, -, X138, ⟨Lc138, hQ138, l138, y138, z138⟩, st138⟩ := X135.virtualBack hx (y := (⟨"com/example/seglport/seglport/options/OptionReader", "hasNext", "()Z"⟩ : MethodName)) (z := (⟨"com/example/seglport/seglport/options/OptionReader", "hasNext", "()Z"⟩ : MethodName)) hown (mvT hZ (hw _ (List.mem_of_getElem? (i := 42) rfl))) (mvT hZ (hw _ (List.mem_of_getElem? (i := 43) rfl))) (notFace_of_selects (args := #[]) (mvT hZ (hw _ (List.mem_of_getElem? (i := 45) rfl)))) (mvT hZ (hw _ (List.mem_of_getElem? (i := 45) rfl))) (mvT hZ (hw _ (List.mem_of_getElem? (i := 44) rfl))) (by decide) (backOf (W := 0) (rm_hasF l Z a0 hw [] b117 b116 4 _ (4 : Int32) (4 : Int32) (.ref b103) T134.heap n0 Z134 R134_0 R134_1 R134_2 R134_3 f137 rfl (by decide)) hZ (hw _ (List.mem_of_getElem? (i := 46) rfl)) (hw _ (List.mem_of_getElem? (i := 35) rfl)) (by decide) (by decide)) q138a q138c (g := (mkF m 195 #[.val (.int p0), .val (.int p1), .val (.int p2), .val (.int p3), .val (.int p4), .val (.int p5), .val (.int (4 : Int32)), .val (.ref b101), .val (.ref b102), .val (.ref b103), .val (.ref b105), .val (.ref b108), .val (.ref b116), .val (.ref b117), .val (.ref b101), .val (.ref b103), .unset] [(.ref b117)])) rfl (by rw [hml]; rfl) (Steps.refl _) (argsL := []) (rest := []) (lenOf own_pd6 rfl) rfl (by show 2 * 0 + _ ≤ _; exact Nat.le_of_eq rfl) (hb hby at_195) (fun _ _ => ⟨rfl, e135, (by decide : 12 + 0 ≤ _), (by decide : 32 + 0 ≤ _)⟩)
  dsimp only [Pt.U, Pt.locs, Pt.cells, Pt.slots] at X138 l138 y138 z138 st138 hQ138
  subst l138 y138 z138
  obtain ⟨rfl, Nq138, e138⟩ := hQ138
  have N138 := Fr.app N135 Nq138
  obtain ⟨cq139, kq139, q139a, q139b, q139c⟩ := isOf hZ e138 R134_0
  obtain ⟨_, _, ⟨T139, L139, k139, n139⟩, -, X139, ⟨Lc139, hQ139, l139, y139, z139⟩, st139⟩ := X138.virtualBack hx (y := (⟨"com/example/seglport/seglport/options/OptionReader", "value", "()Ljava/lang/String;"⟩ : MethodName)) (z := (⟨"com/example/seglport/seglport/options/OptionReader", "value", "()Ljava/lang/String;"⟩ : MethodName)) hown (mvT hZ (hw _ (List.mem_of_getElem? (i := 61) rfl))) (mvT hZ (hw _ (List.mem_of_getElem? (i := 62) rfl))) (notFace_of_selects (args := #[]) (mvT hZ (hw _ (List.mem_of_getElem? (i := 64) rfl)))) (mvT hZ (hw _ (List.mem_of_getElem? (i := 64) rfl))) (mvT hZ (hw _ (List.mem_of_getElem? (i := 63) rfl))) (by decide) (backOf (W := 0) (rm_value l Z a0 hw [] b117 b116 4 _ (4 : Int32) (4 : Int32) (.ref b103) 3 b105 T134.heap n0 Z134 R134_0 R134_1 R134_2 R134_3 f137 rfl (by decide) rfl (by decide) rfl (by decide)) hZ (hw _ (List.mem_of_getElem? (i := 65) rfl)) (hw _ (List.mem_of_getElem? (i := 35) rfl)) (by decide) (by decide)) q139a q139c (g := (mkF m 222 #[.val (.int p0), .val (.int p1), .val (.int p2), .val (.int p3), .val (.int p4), .val (.int p5), .val (.int (4 : Int32)), .val (.ref b101), .val (.ref b102), .val (.ref b103), .val (.ref b105), .val (.ref b108), .val (.ref b116), .val (.ref b117), .val (.ref b101), .val (.ref b103), .unset] [(.ref b117)])) rfl (by rw [hml]; rfl) (Steps.refl _) (argsL := []) (rest := []) (lenOf own_pd7 rfl) rfl (by show 2 * 0 + _ ≤ _; exact Nat.le_of_eq rfl) (hb hby at_222) (fun _ _ => ⟨rfl, e138, (by decide : 12 + 0 ≤ _), (by decide : 32 + 0 ≤ _)⟩)
  dsimp only [Pt.U, Pt.locs, Pt.cells, Pt.slots] at X139 l139 y139 z139 st139 hQ139
  subst l139 y139 z139
  obtain ⟨rfl, Nq139, e139⟩ := hQ139
  have N139 := Fr.app N138 Nq139
  have f141 := ((((f121.ext E117).keep K123).keep K126).keep K134)
  obtain ⟨cq140, kq140, q140a, q140b, q140c⟩ := isOf hZ e139 f141
  obtain ⟨_, _, ⟨T140, L140, k140, n140⟩, -, X140, ⟨Lc140, hQ140, l140, y140, z140⟩, st140⟩ := X139.virtualBack hx (y := (⟨"java/lang/String", "equals", "(Ljava/lang/Object;)Z"⟩ : MethodName)) (z := (⟨"java/lang/String", "equals", "(Ljava/lang/Object;)Z"⟩ : MethodName)) hown (mvT hZ (hw _ (List.mem_of_getElem? (i := 56) rfl))) (mvT hZ (hw _ (List.mem_of_getElem? (i := 57) rfl))) (notFace_of_selects (args := #[]) (mvT hZ (hw _ (List.mem_of_getElem? (i := 59) rfl)))) (mvT hZ (hw _ (List.mem_of_getElem? (i := 59) rfl))) (mvT hZ (hw _ (List.mem_of_getElem? (i := 58) rfl))) (by decide) (backOf (W := 0) (rm_eq l Z a0 hw [] b105 T134.heap n0 Z134 ) hZ (hw _ (List.mem_of_getElem? (i := 60) rfl)) (hw _ (List.mem_of_getElem? (i := 3) rfl)) (by decide) (by decide)) q140a q140c (g := (mkF m 227 #[.val (.int p0), .val (.int p1), .val (.int p2), .val (.int p3), .val (.int p4), .val (.int p5), .val (.int (4 : Int32)), .val (.ref b101), .val (.ref b102), .val (.ref b103), .val (.ref b105), .val (.ref b108), .val (.ref b116), .val (.ref b117), .val (.ref b101), .val (.ref b103), .unset] [(.ref b105), (.ref b105)])) rfl (by rw [hml]; rfl) (Steps.refl _) (argsL := [(.ref b105)]) (rest := []) (lenOf own_pd8 rfl) rfl (by show 2 * 0 + _ ≤ _; exact Nat.le_of_eq rfl) (hb hby at_227) (fun _ _ => ⟨rfl, e139, (by decide : 12 + 0 ≤ _), (by decide : 32 + 0 ≤ _)⟩)
  dsimp only [Pt.U, Pt.locs, Pt.cells, Pt.slots] at X140 l140 y140 z140 st140 hQ140
  subst l140 y140 z140
  obtain ⟨rfl, Nq140, e140⟩ := hQ140
  have N140 := Fr.app N139 Nq140
  obtain ⟨fs, hr, hrun, hended, hW, hsame⟩ := X140.leave (v := some (.int (1 : Int32))) (fun h => by rw [Bd.returns] at h; cases h)
  refine ⟨_, _, pre0 _ ?_, hrun, hended, _, _, rfl, ?_, ⟨_, rfl⟩, hW, hsame.mono (by decide) (by decide)⟩
  · show Steps p.tables e below (s₁.setTop (mkF m 0 #[.val (.int p0), .val (.int p1), .val (.int p2), .val (.int p3), .val (.int p4), .val (.int p5), .unset, .unset, .unset, .unset, .unset, .unset, .unset, .unset, .unset, .unset, .unset] [])) _
    refine XS.iloadN X0.here hx rfl (hb hby at_0) rfl ?_
    show Steps p.tables e below (s₁.setTop (mkF m 1 #[.val (.int p0), .val (.int p1), .val (.int p2), .val (.int p3), .val (.int p4), .val (.int p5), .unset, .unset, .unset, .unset, .unset, .unset, .unset, .unset, .unset, .unset, .unset] [(.int p0)])) _
    refine X0.ldcInt hx hown (mvT hZ (hw _ (List.mem_of_getElem? (i := 0) rfl))) (g := (mkF m 1 #[.val (.int p0), .val (.int p1), .val (.int p2), .val (.int p3), .val (.int p4), .val (.int p5), .unset, .unset, .unset, .unset, .unset, .unset, .unset, .unset, .unset, .unset, .unset] [(.int p0)])) rfl (hb hby at_1) _ ?_
    show Steps p.tables e below (s₁.setTop (mkF m 3 #[.val (.int p0), .val (.int p1), .val (.int p2), .val (.int p3), .val (.int p4), .val (.int p5), .unset, .unset, .unset, .unset, .unset, .unset, .unset, .unset, .unset, .unset, .unset] [(.int (2147483647 : Int32)), (.int p0)])) _
    refine XS.iand X0.here hx rfl (hb hby at_3) rfl ?_
    show Steps p.tables e below (s₁.setTop (mkF m 4 #[.val (.int p0), .val (.int p1), .val (.int p2), .val (.int p3), .val (.int p4), .val (.int p5), .unset, .unset, .unset, .unset, .unset, .unset, .unset, .unset, .unset, .unset, .unset] [(.int (p0 &&& (2147483647 : Int32)))])) _
    refine XS.iconst X0.here hx rfl (hb hby at_4) ?_
    show Steps p.tables e below (s₁.setTop (mkF m 5 #[.val (.int p0), .val (.int p1), .val (.int p2), .val (.int p3), .val (.int p4), .val (.int p5), .unset, .unset, .unset, .unset, .unset, .unset, .unset, .unset, .unset, .unset, .unset] [(.int (5 : Int32)), (.int (p0 &&& (2147483647 : Int32)))])) _
    refine iremM X0 hx rfl (hb hby at_5) rfl (by decide) ?_
    show Steps p.tables e below (s₁.setTop (mkF m 6 #[.val (.int p0), .val (.int p1), .val (.int p2), .val (.int p3), .val (.int p4), .val (.int p5), .unset, .unset, .unset, .unset, .unset, .unset, .unset, .unset, .unset, .unset, .unset] [(.int ((p0 &&& (2147483647 : Int32)) % (5 : Int32)))])) _
    refine XS.iconst X0.here hx rfl (hb hby at_6) ?_
    show Steps p.tables e below (s₁.setTop (mkF m 7 #[.val (.int p0), .val (.int p1), .val (.int p2), .val (.int p3), .val (.int p4), .val (.int p5), .unset, .unset, .unset, .unset, .unset, .unset, .unset, .unset, .unset, .unset, .unset] [(.int (1 : Int32)), (.int ((p0 &&& (2147483647 : Int32)) % (5 : Int32)))])) _
    refine XS.iadd X0.here hx rfl (hb hby at_7) rfl ?_
    show Steps p.tables e below (s₁.setTop (mkF m 8 #[.val (.int p0), .val (.int p1), .val (.int p2), .val (.int p3), .val (.int p4), .val (.int p5), .unset, .unset, .unset, .unset, .unset, .unset, .unset, .unset, .unset, .unset, .unset] [(.int (((p0 &&& (2147483647 : Int32)) % (5 : Int32)) + (1 : Int32)))])) _
    rw [hN]
    show Steps p.tables e below (s₁.setTop (mkF m 8 #[.val (.int p0), .val (.int p1), .val (.int p2), .val (.int p3), .val (.int p4), .val (.int p5), .unset, .unset, .unset, .unset, .unset, .unset, .unset, .unset, .unset, .unset, .unset] [(.int (4 : Int32))])) _
    refine XS.istore X0.here hx rfl (hb hby at_8) rfl (l' := #[.val (.int p0), .val (.int p1), .val (.int p2), .val (.int p3), .val (.int p4), .val (.int p5), .val (.int (4 : Int32)), .unset, .unset, .unset, .unset, .unset, .unset, .unset, .unset, .unset, .unset]) rfl ?_
    show Steps p.tables e below (s₁.setTop (mkF m 10 #[.val (.int p0), .val (.int p1), .val (.int p2), .val (.int p3), .val (.int p4), .val (.int p5), .val (.int (4 : Int32)), .unset, .unset, .unset, .unset, .unset, .unset, .unset, .unset, .unset, .unset] [])) _
    refine XS.iloadN X0.here hx rfl (hb hby at_10) rfl ?_
    show Steps p.tables e below (s₁.setTop (mkF m 11 #[.val (.int p0), .val (.int p1), .val (.int p2), .val (.int p3), .val (.int p4), .val (.int p5), .val (.int (4 : Int32)), .unset, .unset, .unset, .unset, .unset, .unset, .unset, .unset, .unset, .unset] [(.int p1)])) _
    refine XS.sipush X0.here hx rfl (hb hby at_11) ?_
    show Steps p.tables e below (s₁.setTop (mkF m 14 #[.val (.int p0), .val (.int p1), .val (.int p2), .val (.int p3), .val (.int p4), .val (.int p5), .val (.int (4 : Int32)), .unset, .unset, .unset, .unset, .unset, .unset, .unset, .unset, .unset, .unset] [(.int (255 : Int32)), (.int p1)])) _
    refine XS.iand X0.here hx rfl (hb hby at_14) rfl ?_
    show Steps p.tables e below (s₁.setTop (mkF m 15 #[.val (.int p0), .val (.int p1), .val (.int p2), .val (.int p3), .val (.int p4), .val (.int p5), .val (.int (4 : Int32)), .unset, .unset, .unset, .unset, .unset, .unset, .unset, .unset, .unset, .unset] [(.int (p1 &&& (255 : Int32)))])) _
    refine XS.i2c X0.here hx rfl (hb hby at_15) rfl ?_
    show Steps p.tables e below (s₁.setTop (mkF m 16 #[.val (.int p0), .val (.int p1), .val (.int p2), .val (.int p3), .val (.int p4), .val (.int p5), .val (.int (4 : Int32)), .unset, .unset, .unset, .unset, .unset, .unset, .unset, .unset, .unset, .unset] [(.int ((p1 &&& (255 : Int32)).toUInt32.toUInt16.toUInt32.toInt32))])) _
    refine st101 _ ?_
    show Steps p.tables e below (T101.setTop (mkF m 19 #[.val (.int p0), .val (.int p1), .val (.int p2), .val (.int p3), .val (.int p4), .val (.int p5), .val (.int (4 : Int32)), .unset, .unset, .unset, .unset, .unset, .unset, .unset, .unset, .unset, .unset] [(.ref b101)])) _
    refine XS.astore X101.here hx rfl (hb hby at_19) rfl rfl (l' := #[.val (.int p0), .val (.int p1), .val (.int p2), .val (.int p3), .val (.int p4), .val (.int p5), .val (.int (4 : Int32)), .val (.ref b101), .unset, .unset, .unset, .unset, .unset, .unset, .unset, .unset, .unset]) rfl ?_
    show Steps p.tables e below (T101.setTop (mkF m 21 #[.val (.int p0), .val (.int p1), .val (.int p2), .val (.int p3), .val (.int p4), .val (.int p5), .val (.int (4 : Int32)), .val (.ref b101), .unset, .unset, .unset, .unset, .unset, .unset, .unset, .unset, .unset] [])) _
    refine XS.iloadN X101.here hx rfl (hb hby at_21) rfl ?_
    show Steps p.tables e below (T101.setTop (mkF m 22 #[.val (.int p0), .val (.int p1), .val (.int p2), .val (.int p3), .val (.int p4), .val (.int p5), .val (.int (4 : Int32)), .val (.ref b101), .unset, .unset, .unset, .unset, .unset, .unset, .unset, .unset, .unset] [(.int p2)])) _
    refine XS.sipush X101.here hx rfl (hb hby at_22) ?_
    show Steps p.tables e below (T101.setTop (mkF m 25 #[.val (.int p0), .val (.int p1), .val (.int p2), .val (.int p3), .val (.int p4), .val (.int p5), .val (.int (4 : Int32)), .val (.ref b101), .unset, .unset, .unset, .unset, .unset, .unset, .unset, .unset, .unset] [(.int (255 : Int32)), (.int p2)])) _
    refine XS.iand X101.here hx rfl (hb hby at_25) rfl ?_
    show Steps p.tables e below (T101.setTop (mkF m 26 #[.val (.int p0), .val (.int p1), .val (.int p2), .val (.int p3), .val (.int p4), .val (.int p5), .val (.int (4 : Int32)), .val (.ref b101), .unset, .unset, .unset, .unset, .unset, .unset, .unset, .unset, .unset] [(.int (p2 &&& (255 : Int32)))])) _
    refine XS.i2c X101.here hx rfl (hb hby at_26) rfl ?_
    show Steps p.tables e below (T101.setTop (mkF m 27 #[.val (.int p0), .val (.int p1), .val (.int p2), .val (.int p3), .val (.int p4), .val (.int p5), .val (.int (4 : Int32)), .val (.ref b101), .unset, .unset, .unset, .unset, .unset, .unset, .unset, .unset, .unset] [(.int ((p2 &&& (255 : Int32)).toUInt32.toUInt16.toUInt32.toInt32))])) _
    refine st102 _ ?_
    show Steps p.tables e below (T102.setTop (mkF m 30 #[.val (.int p0), .val (.int p1), .val (.int p2), .val (.int p3), .val (.int p4), .val (.int p5), .val (.int (4 : Int32)), .val (.ref b101), .unset, .unset, .unset, .unset, .unset, .unset, .unset, .unset, .unset] [(.ref b102)])) _
    refine XS.astore X102.here hx rfl (hb hby at_30) rfl rfl (l' := #[.val (.int p0), .val (.int p1), .val (.int p2), .val (.int p3), .val (.int p4), .val (.int p5), .val (.int (4 : Int32)), .val (.ref b101), .val (.ref b102), .unset, .unset, .unset, .unset, .unset, .unset, .unset, .unset]) rfl ?_
    show Steps p.tables e below (T102.setTop (mkF m 32 #[.val (.int p0), .val (.int p1), .val (.int p2), .val (.int p3), .val (.int p4), .val (.int p5), .val (.int (4 : Int32)), .val (.ref b101), .val (.ref b102), .unset, .unset, .unset, .unset, .unset, .unset, .unset, .unset] [])) _
    refine XS.iloadN X102.here hx rfl (hb hby at_32) rfl ?_
    show Steps p.tables e below (T102.setTop (mkF m 33 #[.val (.int p0), .val (.int p1), .val (.int p2), .val (.int p3), .val (.int p4), .val (.int p5), .val (.int (4 : Int32)), .val (.ref b101), .val (.ref b102), .unset, .unset, .unset, .unset, .unset, .unset, .unset, .unset] [(.int p3)])) _
    refine XS.sipush X102.here hx rfl (hb hby at_33) ?_
    show Steps p.tables e below (T102.setTop (mkF m 36 #[.val (.int p0), .val (.int p1), .val (.int p2), .val (.int p3), .val (.int p4), .val (.int p5), .val (.int (4 : Int32)), .val (.ref b101), .val (.ref b102), .unset, .unset, .unset, .unset, .unset, .unset, .unset, .unset] [(.int (255 : Int32)), (.int p3)])) _
    refine XS.iand X102.here hx rfl (hb hby at_36) rfl ?_
    show Steps p.tables e below (T102.setTop (mkF m 37 #[.val (.int p0), .val (.int p1), .val (.int p2), .val (.int p3), .val (.int p4), .val (.int p5), .val (.int (4 : Int32)), .val (.ref b101), .val (.ref b102), .unset, .unset, .unset, .unset, .unset, .unset, .unset, .unset] [(.int (p3 &&& (255 : Int32)))])) _
    refine XS.i2c X102.here hx rfl (hb hby at_37) rfl ?_
    show Steps p.tables e below (T102.setTop (mkF m 38 #[.val (.int p0), .val (.int p1), .val (.int p2), .val (.int p3), .val (.int p4), .val (.int p5), .val (.int (4 : Int32)), .val (.ref b101), .val (.ref b102), .unset, .unset, .unset, .unset, .unset, .unset, .unset, .unset] [(.int ((p3 &&& (255 : Int32)).toUInt32.toUInt16.toUInt32.toInt32))])) _
    refine st103 _ ?_
    show Steps p.tables e below (T103.setTop (mkF m 41 #[.val (.int p0), .val (.int p1), .val (.int p2), .val (.int p3), .val (.int p4), .val (.int p5), .val (.int (4 : Int32)), .val (.ref b101), .val (.ref b102), .unset, .unset, .unset, .unset, .unset, .unset, .unset, .unset] [(.ref b103)])) _
    refine XS.astore X103.here hx rfl (hb hby at_41) rfl rfl (l' := #[.val (.int p0), .val (.int p1), .val (.int p2), .val (.int p3), .val (.int p4), .val (.int p5), .val (.int (4 : Int32)), .val (.ref b101), .val (.ref b102), .val (.ref b103), .unset, .unset, .unset, .unset, .unset, .unset, .unset]) rfl ?_
    show Steps p.tables e below (T103.setTop (mkF m 43 #[.val (.int p0), .val (.int p1), .val (.int p2), .val (.int p3), .val (.int p4), .val (.int p5), .val (.int (4 : Int32)), .val (.ref b101), .val (.ref b102), .val (.ref b103), .unset, .unset, .unset, .unset, .unset, .unset, .unset] [])) _
    refine XS.iload X103.here hx rfl (hb hby at_43) rfl ?_
    show Steps p.tables e below (T103.setTop (mkF m 45 #[.val (.int p0), .val (.int p1), .val (.int p2), .val (.int p3), .val (.int p4), .val (.int p5), .val (.int (4 : Int32)), .val (.ref b101), .val (.ref b102), .val (.ref b103), .unset, .unset, .unset, .unset, .unset, .unset, .unset] [(.int p4)])) _
    refine XS.sipush X103.here hx rfl (hb hby at_45) ?_
    show Steps p.tables e below (T103.setTop (mkF m 48 #[.val (.int p0), .val (.int p1), .val (.int p2), .val (.int p3), .val (.int p4), .val (.int p5), .val (.int (4 : Int32)), .val (.ref b101), .val (.ref b102), .val (.ref b103), .unset, .unset, .unset, .unset, .unset, .unset, .unset] [(.int (255 : Int32)), (.int p4)])) _
    refine XS.iand X103.here hx rfl (hb hby at_48) rfl ?_
    show Steps p.tables e below (T103.setTop (mkF m 49 #[.val (.int p0), .val (.int p1), .val (.int p2), .val (.int p3), .val (.int p4), .val (.int p5), .val (.int (4 : Int32)), .val (.ref b101), .val (.ref b102), .val (.ref b103), .unset, .unset, .unset, .unset, .unset, .unset, .unset] [(.int (p4 &&& (255 : Int32)))])) _
    refine XS.i2c X103.here hx rfl (hb hby at_49) rfl ?_
    show Steps p.tables e below (T103.setTop (mkF m 50 #[.val (.int p0), .val (.int p1), .val (.int p2), .val (.int p3), .val (.int p4), .val (.int p5), .val (.int (4 : Int32)), .val (.ref b101), .val (.ref b102), .val (.ref b103), .unset, .unset, .unset, .unset, .unset, .unset, .unset] [(.int ((p4 &&& (255 : Int32)).toUInt32.toUInt16.toUInt32.toInt32))])) _
    refine st105 _ ?_
    show Steps p.tables e below (T105.setTop (mkF m 53 #[.val (.int p0), .val (.int p1), .val (.int p2), .val (.int p3), .val (.int p4), .val (.int p5), .val (.int (4 : Int32)), .val (.ref b101), .val (.ref b102), .val (.ref b103), .unset, .unset, .unset, .unset, .unset, .unset, .unset] [(.ref b105)])) _
    refine XS.astore X105.here hx rfl (hb hby at_53) rfl rfl (l' := #[.val (.int p0), .val (.int p1), .val (.int p2), .val (.int p3), .val (.int p4), .val (.int p5), .val (.int (4 : Int32)), .val (.ref b101), .val (.ref b102), .val (.ref b103), .val (.ref b105), .unset, .unset, .unset, .unset, .unset, .unset]) rfl ?_
    show Steps p.tables e below (T105.setTop (mkF m 55 #[.val (.int p0), .val (.int p1), .val (.int p2), .val (.int p3), .val (.int p4), .val (.int p5), .val (.int (4 : Int32)), .val (.ref b101), .val (.ref b102), .val (.ref b103), .val (.ref b105), .unset, .unset, .unset, .unset, .unset, .unset] [])) _
    refine XS.iload X105.here hx rfl (hb hby at_55) rfl ?_
    show Steps p.tables e below (T105.setTop (mkF m 57 #[.val (.int p0), .val (.int p1), .val (.int p2), .val (.int p3), .val (.int p4), .val (.int p5), .val (.int (4 : Int32)), .val (.ref b101), .val (.ref b102), .val (.ref b103), .val (.ref b105), .unset, .unset, .unset, .unset, .unset, .unset] [(.int p5)])) _
    refine XS.sipush X105.here hx rfl (hb hby at_57) ?_
    show Steps p.tables e below (T105.setTop (mkF m 60 #[.val (.int p0), .val (.int p1), .val (.int p2), .val (.int p3), .val (.int p4), .val (.int p5), .val (.int (4 : Int32)), .val (.ref b101), .val (.ref b102), .val (.ref b103), .val (.ref b105), .unset, .unset, .unset, .unset, .unset, .unset] [(.int (255 : Int32)), (.int p5)])) _
    refine XS.iand X105.here hx rfl (hb hby at_60) rfl ?_
    show Steps p.tables e below (T105.setTop (mkF m 61 #[.val (.int p0), .val (.int p1), .val (.int p2), .val (.int p3), .val (.int p4), .val (.int p5), .val (.int (4 : Int32)), .val (.ref b101), .val (.ref b102), .val (.ref b103), .val (.ref b105), .unset, .unset, .unset, .unset, .unset, .unset] [(.int (p5 &&& (255 : Int32)))])) _
    refine XS.i2c X105.here hx rfl (hb hby at_61) rfl ?_
    show Steps p.tables e below (T105.setTop (mkF m 62 #[.val (.int p0), .val (.int p1), .val (.int p2), .val (.int p3), .val (.int p4), .val (.int p5), .val (.int (4 : Int32)), .val (.ref b101), .val (.ref b102), .val (.ref b103), .val (.ref b105), .unset, .unset, .unset, .unset, .unset, .unset] [(.int ((p5 &&& (255 : Int32)).toUInt32.toUInt16.toUInt32.toInt32))])) _
    refine st108 _ ?_
    show Steps p.tables e below (T108.setTop (mkF m 65 #[.val (.int p0), .val (.int p1), .val (.int p2), .val (.int p3), .val (.int p4), .val (.int p5), .val (.int (4 : Int32)), .val (.ref b101), .val (.ref b102), .val (.ref b103), .val (.ref b105), .unset, .unset, .unset, .unset, .unset, .unset] [(.ref b108)])) _
    refine XS.astore X108.here hx rfl (hb hby at_65) rfl rfl (l' := #[.val (.int p0), .val (.int p1), .val (.int p2), .val (.int p3), .val (.int p4), .val (.int p5), .val (.int (4 : Int32)), .val (.ref b101), .val (.ref b102), .val (.ref b103), .val (.ref b105), .val (.ref b108), .unset, .unset, .unset, .unset, .unset]) rfl ?_
    show Steps p.tables e below (T108.setTop (mkF m 67 #[.val (.int p0), .val (.int p1), .val (.int p2), .val (.int p3), .val (.int p4), .val (.int p5), .val (.int (4 : Int32)), .val (.ref b101), .val (.ref b102), .val (.ref b103), .val (.ref b105), .val (.ref b108), .unset, .unset, .unset, .unset, .unset] [])) _
    refine XS.iload X108.here hx rfl (hb hby at_67) rfl ?_
    show Steps p.tables e below (T108.setTop (mkF m 69 #[.val (.int p0), .val (.int p1), .val (.int p2), .val (.int p3), .val (.int p4), .val (.int p5), .val (.int (4 : Int32)), .val (.ref b101), .val (.ref b102), .val (.ref b103), .val (.ref b105), .val (.ref b108), .unset, .unset, .unset, .unset, .unset] [(.int (4 : Int32))])) _
    refine XS.aload X108.here hx rfl (hb hby at_69) rfl rfl ?_
    show Steps p.tables e below (T108.setTop (mkF m 71 #[.val (.int p0), .val (.int p1), .val (.int p2), .val (.int p3), .val (.int p4), .val (.int p5), .val (.int (4 : Int32)), .val (.ref b101), .val (.ref b102), .val (.ref b103), .val (.ref b105), .val (.ref b108), .unset, .unset, .unset, .unset, .unset] [(.ref b101), (.int (4 : Int32))])) _
    refine XS.aload X108.here hx rfl (hb hby at_71) rfl rfl ?_
    show Steps p.tables e below (T108.setTop (mkF m 73 #[.val (.int p0), .val (.int p1), .val (.int p2), .val (.int p3), .val (.int p4), .val (.int p5), .val (.int (4 : Int32)), .val (.ref b101), .val (.ref b102), .val (.ref b103), .val (.ref b105), .val (.ref b108), .unset, .unset, .unset, .unset, .unset] [(.ref b102), (.ref b101), (.int (4 : Int32))])) _
    refine XS.aload X108.here hx rfl (hb hby at_73) rfl rfl ?_
    show Steps p.tables e below (T108.setTop (mkF m 75 #[.val (.int p0), .val (.int p1), .val (.int p2), .val (.int p3), .val (.int p4), .val (.int p5), .val (.int (4 : Int32)), .val (.ref b101), .val (.ref b102), .val (.ref b103), .val (.ref b105), .val (.ref b108), .unset, .unset, .unset, .unset, .unset] [(.ref b103), (.ref b102), (.ref b101), (.int (4 : Int32))])) _
    refine XS.aload X108.here hx rfl (hb hby at_75) rfl rfl ?_
    show Steps p.tables e below (T108.setTop (mkF m 77 #[.val (.int p0), .val (.int p1), .val (.int p2), .val (.int p3), .val (.int p4), .val (.int p5), .val (.int (4 : Int32)), .val (.ref b101), .val (.ref b102), .val (.ref b103), .val (.ref b105), .val (.ref b108), .unset, .unset, .unset, .unset, .unset] [(.ref b105), (.ref b103), (.ref b102), (.ref b101), (.int (4 : Int32))])) _
    refine XS.aload X108.here hx rfl (hb hby at_77) rfl rfl ?_
    show Steps p.tables e below (T108.setTop (mkF m 79 #[.val (.int p0), .val (.int p1), .val (.int p2), .val (.int p3), .val (.int p4), .val (.int p5), .val (.int (4 : Int32)), .val (.ref b101), .val (.ref b102), .val (.ref b103), .val (.ref b105), .val (.ref b108), .unset, .unset, .unset, .unset, .unset] [(.ref b108), (.ref b105), (.ref b103), (.ref b102), (.ref b101), (.int (4 : Int32))])) _
    refine st116 _ ?_
    show Steps p.tables e below (T116.setTop (mkF m 82 #[.val (.int p0), .val (.int p1), .val (.int p2), .val (.int p3), .val (.int p4), .val (.int p5), .val (.int (4 : Int32)), .val (.ref b101), .val (.ref b102), .val (.ref b103), .val (.ref b105), .val (.ref b108), .unset, .unset, .unset, .unset, .unset] [(.ref b116)])) _
    refine XS.astore X116.here hx rfl (hb hby at_82) rfl rfl (l' := #[.val (.int p0), .val (.int p1), .val (.int p2), .val (.int p3), .val (.int p4), .val (.int p5), .val (.int (4 : Int32)), .val (.ref b101), .val (.ref b102), .val (.ref b103), .val (.ref b105), .val (.ref b108), .val (.ref b116), .unset, .unset, .unset, .unset]) rfl ?_
    show Steps p.tables e below (T116.setTop (mkF m 84 #[.val (.int p0), .val (.int p1), .val (.int p2), .val (.int p3), .val (.int p4), .val (.int p5), .val (.int (4 : Int32)), .val (.ref b101), .val (.ref b102), .val (.ref b103), .val (.ref b105), .val (.ref b108), .val (.ref b116), .unset, .unset, .unset, .unset] [])) _
    refine st117 _ ?_
    show Steps p.tables e below (T117.setTop (mkF m 87 #[.val (.int p0), .val (.int p1), .val (.int p2), .val (.int p3), .val (.int p4), .val (.int p5), .val (.int (4 : Int32)), .val (.ref b101), .val (.ref b102), .val (.ref b103), .val (.ref b105), .val (.ref b108), .val (.ref b116), .unset, .unset, .unset, .unset] [(.ref b117)])) _
    refine XS.dup X117.here hx rfl (hb hby at_87) rfl rfl ?_
    show Steps p.tables e below (T117.setTop (mkF m 88 #[.val (.int p0), .val (.int p1), .val (.int p2), .val (.int p3), .val (.int p4), .val (.int p5), .val (.int (4 : Int32)), .val (.ref b101), .val (.ref b102), .val (.ref b103), .val (.ref b105), .val (.ref b108), .val (.ref b116), .unset, .unset, .unset, .unset] [(.ref b117), (.ref b117)])) _
    refine XS.aload X117.here hx rfl (hb hby at_88) rfl rfl ?_
    show Steps p.tables e below (T117.setTop (mkF m 90 #[.val (.int p0), .val (.int p1), .val (.int p2), .val (.int p3), .val (.int p4), .val (.int p5), .val (.int (4 : Int32)), .val (.ref b101), .val (.ref b102), .val (.ref b103), .val (.ref b105), .val (.ref b108), .val (.ref b116), .unset, .unset, .unset, .unset] [(.ref b116), (.ref b117), (.ref b117)])) _
    refine st123.trans ?_
    show Steps p.tables e below (T123.setTop (mkF m 93 #[.val (.int p0), .val (.int p1), .val (.int p2), .val (.int p3), .val (.int p4), .val (.int p5), .val (.int (4 : Int32)), .val (.ref b101), .val (.ref b102), .val (.ref b103), .val (.ref b105), .val (.ref b108), .val (.ref b116), .unset, .unset, .unset, .unset] [(.ref b117)])) _
    refine XS.astore X123.here hx rfl (hb hby at_93) rfl rfl (l' := #[.val (.int p0), .val (.int p1), .val (.int p2), .val (.int p3), .val (.int p4), .val (.int p5), .val (.int (4 : Int32)), .val (.ref b101), .val (.ref b102), .val (.ref b103), .val (.ref b105), .val (.ref b108), .val (.ref b116), .val (.ref b117), .unset, .unset, .unset]) rfl ?_
    show Steps p.tables e below (T123.setTop (mkF m 95 #[.val (.int p0), .val (.int p1), .val (.int p2), .val (.int p3), .val (.int p4), .val (.int p5), .val (.int (4 : Int32)), .val (.ref b101), .val (.ref b102), .val (.ref b103), .val (.ref b105), .val (.ref b108), .val (.ref b116), .val (.ref b117), .unset, .unset, .unset] [])) _
    refine XS.aload X123.here hx rfl (hb hby at_95) rfl rfl ?_
    show Steps p.tables e below (T123.setTop (mkF m 97 #[.val (.int p0), .val (.int p1), .val (.int p2), .val (.int p3), .val (.int p4), .val (.int p5), .val (.int (4 : Int32)), .val (.ref b101), .val (.ref b102), .val (.ref b103), .val (.ref b105), .val (.ref b108), .val (.ref b116), .val (.ref b117), .unset, .unset, .unset] [(.ref b117)])) _
    refine st125.trans ?_
    show Steps p.tables e below (T125.setTop (mkF m 100 #[.val (.int p0), .val (.int p1), .val (.int p2), .val (.int p3), .val (.int p4), .val (.int p5), .val (.int (4 : Int32)), .val (.ref b101), .val (.ref b102), .val (.ref b103), .val (.ref b105), .val (.ref b108), .val (.ref b116), .val (.ref b117), .unset, .unset, .unset] [(.int (1 : Int32))])) _
    refine XS.ifYes X125.here hx rfl (pc0 := 100) (pc' := 105) rfl (hb hby at_100) rfl ((if0 _ _).trans (feq (by decide : ¬ (1 : Int32) = (0 : Int32))).2) (by decide) (by decide) ?_
    show Steps p.tables e below (T125.setTop (mkF m 105 #[.val (.int p0), .val (.int p1), .val (.int p2), .val (.int p3), .val (.int p4), .val (.int p5), .val (.int (4 : Int32)), .val (.ref b101), .val (.ref b102), .val (.ref b103), .val (.ref b105), .val (.ref b108), .val (.ref b116), .val (.ref b117), .unset, .unset, .unset] [])) _
    refine XS.aload X125.here hx rfl (hb hby at_105) rfl rfl ?_
    show Steps p.tables e below (T125.setTop (mkF m 107 #[.val (.int p0), .val (.int p1), .val (.int p2), .val (.int p3), .val (.int p4), .val (.int p5), .val (.int (4 : Int32)), .val (.ref b101), .val (.ref b102), .val (.ref b103), .val (.ref b105), .val (.ref b108), .val (.ref b116), .val (.ref b117), .unset, .unset, .unset] [(.ref b117)])) _
    refine st126.trans ?_
    show Steps p.tables e below (T126.setTop (mkF m 110 #[.val (.int p0), .val (.int p1), .val (.int p2), .val (.int p3), .val (.int p4), .val (.int p5), .val (.int (4 : Int32)), .val (.ref b101), .val (.ref b102), .val (.ref b103), .val (.ref b105), .val (.ref b108), .val (.ref b116), .val (.ref b117), .unset, .unset, .unset] [(.ref b101)])) _
    refine XS.astore X126.here hx rfl (hb hby at_110) rfl rfl (l' := #[.val (.int p0), .val (.int p1), .val (.int p2), .val (.int p3), .val (.int p4), .val (.int p5), .val (.int (4 : Int32)), .val (.ref b101), .val (.ref b102), .val (.ref b103), .val (.ref b105), .val (.ref b108), .val (.ref b116), .val (.ref b117), .val (.ref b101), .unset, .unset]) rfl ?_
    show Steps p.tables e below (T126.setTop (mkF m 112 #[.val (.int p0), .val (.int p1), .val (.int p2), .val (.int p3), .val (.int p4), .val (.int p5), .val (.int (4 : Int32)), .val (.ref b101), .val (.ref b102), .val (.ref b103), .val (.ref b105), .val (.ref b108), .val (.ref b116), .val (.ref b117), .val (.ref b101), .unset, .unset] [])) _
    refine XS.aload X126.here hx rfl (hb hby at_112) rfl rfl ?_
    show Steps p.tables e below (T126.setTop (mkF m 114 #[.val (.int p0), .val (.int p1), .val (.int p2), .val (.int p3), .val (.int p4), .val (.int p5), .val (.int (4 : Int32)), .val (.ref b101), .val (.ref b102), .val (.ref b103), .val (.ref b105), .val (.ref b108), .val (.ref b116), .val (.ref b117), .val (.ref b101), .unset, .unset] [(.ref b101)])) _
    refine XS.aload X126.here hx rfl (hb hby at_114) rfl rfl ?_
    show Steps p.tables e below (T126.setTop (mkF m 116 #[.val (.int p0), .val (.int p1), .val (.int p2), .val (.int p3), .val (.int p4), .val (.int p5), .val (.int (4 : Int32)), .val (.ref b101), .val (.ref b102), .val (.ref b103), .val (.ref b105), .val (.ref b108), .val (.ref b116), .val (.ref b117), .val (.ref b101), .unset, .unset] [(.ref b101), (.ref b101)])) _
    refine st127.trans ?_
    show Steps p.tables e below (T127.setTop (mkF m 119 #[.val (.int p0), .val (.int p1), .val (.int p2), .val (.int p3), .val (.int p4), .val (.int p5), .val (.int (4 : Int32)), .val (.ref b101), .val (.ref b102), .val (.ref b103), .val (.ref b105), .val (.ref b108), .val (.ref b116), .val (.ref b117), .val (.ref b101), .unset, .unset] [(.int (1 : Int32))])) _
    refine XS.ifYes X127.here hx rfl (pc0 := 119) (pc' := 124) rfl (hb hby at_119) rfl ((if0 _ _).trans (feq (by decide : ¬ (1 : Int32) = (0 : Int32))).2) (by decide) (by decide) ?_
    show Steps p.tables e below (T127.setTop (mkF m 124 #[.val (.int p0), .val (.int p1), .val (.int p2), .val (.int p3), .val (.int p4), .val (.int p5), .val (.int (4 : Int32)), .val (.ref b101), .val (.ref b102), .val (.ref b103), .val (.ref b105), .val (.ref b108), .val (.ref b116), .val (.ref b117), .val (.ref b101), .unset, .unset] [])) _
    refine XS.aload X127.here hx rfl (hb hby at_124) rfl rfl ?_
    show Steps p.tables e below (T127.setTop (mkF m 126 #[.val (.int p0), .val (.int p1), .val (.int p2), .val (.int p3), .val (.int p4), .val (.int p5), .val (.int (4 : Int32)), .val (.ref b101), .val (.ref b102), .val (.ref b103), .val (.ref b105), .val (.ref b108), .val (.ref b116), .val (.ref b117), .val (.ref b101), .unset, .unset] [(.ref b117)])) _
    refine st130.trans ?_
    show Steps p.tables e below (T130.setTop (mkF m 129 #[.val (.int p0), .val (.int p1), .val (.int p2), .val (.int p3), .val (.int p4), .val (.int p5), .val (.int (4 : Int32)), .val (.ref b101), .val (.ref b102), .val (.ref b103), .val (.ref b105), .val (.ref b108), .val (.ref b116), .val (.ref b117), .val (.ref b101), .unset, .unset] [(.int (1 : Int32))])) _
    refine XS.iload X130.here hx rfl (hb hby at_129) rfl ?_
    show Steps p.tables e below (T130.setTop (mkF m 131 #[.val (.int p0), .val (.int p1), .val (.int p2), .val (.int p3), .val (.int p4), .val (.int p5), .val (.int (4 : Int32)), .val (.ref b101), .val (.ref b102), .val (.ref b103), .val (.ref b105), .val (.ref b108), .val (.ref b116), .val (.ref b117), .val (.ref b101), .unset, .unset] [(.int (4 : Int32)), (.int (1 : Int32))])) _
    refine XS.iconst X130.here hx rfl (hb hby at_131) ?_
    show Steps p.tables e below (T130.setTop (mkF m 132 #[.val (.int p0), .val (.int p1), .val (.int p2), .val (.int p3), .val (.int p4), .val (.int p5), .val (.int (4 : Int32)), .val (.ref b101), .val (.ref b102), .val (.ref b103), .val (.ref b105), .val (.ref b108), .val (.ref b116), .val (.ref b117), .val (.ref b101), .unset, .unset] [(.int (2 : Int32)), (.int (4 : Int32)), (.int (1 : Int32))])) _
    refine XS.icmpNo X130.here hx rfl (hb hby at_132) rfl (tlt (by decide : (2 : Int32) < (4 : Int32))).2.2.2 ?_
    show Steps p.tables e below (T130.setTop (mkF m 135 #[.val (.int p0), .val (.int p1), .val (.int p2), .val (.int p3), .val (.int p4), .val (.int p5), .val (.int (4 : Int32)), .val (.ref b101), .val (.ref b102), .val (.ref b103), .val (.ref b105), .val (.ref b108), .val (.ref b116), .val (.ref b117), .val (.ref b101), .unset, .unset] [(.int (1 : Int32))])) _
    refine XS.iconst X130.here hx rfl (hb hby at_135) ?_
    show Steps p.tables e below (T130.setTop (mkF m 136 #[.val (.int p0), .val (.int p1), .val (.int p2), .val (.int p3), .val (.int p4), .val (.int p5), .val (.int (4 : Int32)), .val (.ref b101), .val (.ref b102), .val (.ref b103), .val (.ref b105), .val (.ref b108), .val (.ref b116), .val (.ref b117), .val (.ref b101), .unset, .unset] [(.int (1 : Int32)), (.int (1 : Int32))])) _
    refine XS.goto X130.here hx rfl (pc0 := 136) (pc' := 140) rfl (hb hby at_136) (by decide) (by decide) ?_
    show Steps p.tables e below (T130.setTop (mkF m 140 #[.val (.int p0), .val (.int p1), .val (.int p2), .val (.int p3), .val (.int p4), .val (.int p5), .val (.int (4 : Int32)), .val (.ref b101), .val (.ref b102), .val (.ref b103), .val (.ref b105), .val (.ref b108), .val (.ref b116), .val (.ref b117), .val (.ref b101), .unset, .unset] [(.int (1 : Int32)), (.int (1 : Int32))])) _
    refine XS.icmpYes X130.here hx rfl (pc0 := 140) (pc' := 145) rfl (hb hby at_140) rfl (teq rfl).1 (by decide) (by decide) ?_
    show Steps p.tables e below (T130.setTop (mkF m 145 #[.val (.int p0), .val (.int p1), .val (.int p2), .val (.int p3), .val (.int p4), .val (.int p5), .val (.int (4 : Int32)), .val (.ref b101), .val (.ref b102), .val (.ref b103), .val (.ref b105), .val (.ref b108), .val (.ref b116), .val (.ref b117), .val (.ref b101), .unset, .unset] [])) _
    refine XS.iload X130.here hx rfl (hb hby at_145) rfl ?_
    show Steps p.tables e below (T130.setTop (mkF m 147 #[.val (.int p0), .val (.int p1), .val (.int p2), .val (.int p3), .val (.int p4), .val (.int p5), .val (.int (4 : Int32)), .val (.ref b101), .val (.ref b102), .val (.ref b103), .val (.ref b105), .val (.ref b108), .val (.ref b116), .val (.ref b117), .val (.ref b101), .unset, .unset] [(.int (4 : Int32))])) _
    refine XS.iconst X130.here hx rfl (hb hby at_147) ?_
    show Steps p.tables e below (T130.setTop (mkF m 148 #[.val (.int p0), .val (.int p1), .val (.int p2), .val (.int p3), .val (.int p4), .val (.int p5), .val (.int (4 : Int32)), .val (.ref b101), .val (.ref b102), .val (.ref b103), .val (.ref b105), .val (.ref b108), .val (.ref b116), .val (.ref b117), .val (.ref b101), .unset, .unset] [(.int (2 : Int32)), (.int (4 : Int32))])) _
    refine XS.icmpNo X130.here hx rfl (hb hby at_148) rfl (flt (by decide : ¬ (4 : Int32) < (2 : Int32))).1 ?_
    show Steps p.tables e below (T130.setTop (mkF m 151 #[.val (.int p0), .val (.int p1), .val (.int p2), .val (.int p3), .val (.int p4), .val (.int p5), .val (.int (4 : Int32)), .val (.ref b101), .val (.ref b102), .val (.ref b103), .val (.ref b105), .val (.ref b108), .val (.ref b116), .val (.ref b117), .val (.ref b101), .unset, .unset] [])) _
    refine XS.aload X130.here hx rfl (hb hby at_151) rfl rfl ?_
    show Steps p.tables e below (T130.setTop (mkF m 153 #[.val (.int p0), .val (.int p1), .val (.int p2), .val (.int p3), .val (.int p4), .val (.int p5), .val (.int (4 : Int32)), .val (.ref b101), .val (.ref b102), .val (.ref b103), .val (.ref b105), .val (.ref b108), .val (.ref b116), .val (.ref b117), .val (.ref b101), .unset, .unset] [(.ref b117)])) _
    refine st131.trans ?_
    show Steps p.tables e below (T131.setTop (mkF m 156 #[.val (.int p0), .val (.int p1), .val (.int p2), .val (.int p3), .val (.int p4), .val (.int p5), .val (.int (4 : Int32)), .val (.ref b101), .val (.ref b102), .val (.ref b103), .val (.ref b105), .val (.ref b108), .val (.ref b116), .val (.ref b117), .val (.ref b101), .unset, .unset] [(.ref b102)])) _
    refine XS.aload X131.here hx rfl (hb hby at_156) rfl rfl ?_
    show Steps p.tables e below (T131.setTop (mkF m 158 #[.val (.int p0), .val (.int p1), .val (.int p2), .val (.int p3), .val (.int p4), .val (.int p5), .val (.int (4 : Int32)), .val (.ref b101), .val (.ref b102), .val (.ref b103), .val (.ref b105), .val (.ref b108), .val (.ref b116), .val (.ref b117), .val (.ref b101), .unset, .unset] [(.ref b102), (.ref b102)])) _
    refine st132.trans ?_
    show Steps p.tables e below (T132.setTop (mkF m 161 #[.val (.int p0), .val (.int p1), .val (.int p2), .val (.int p3), .val (.int p4), .val (.int p5), .val (.int (4 : Int32)), .val (.ref b101), .val (.ref b102), .val (.ref b103), .val (.ref b105), .val (.ref b108), .val (.ref b116), .val (.ref b117), .val (.ref b101), .unset, .unset] [(.int (1 : Int32))])) _
    refine XS.ifYes X132.here hx rfl (pc0 := 161) (pc' := 166) rfl (hb hby at_161) rfl ((if0 _ _).trans (feq (by decide : ¬ (1 : Int32) = (0 : Int32))).2) (by decide) (by decide) ?_
    show Steps p.tables e below (T132.setTop (mkF m 166 #[.val (.int p0), .val (.int p1), .val (.int p2), .val (.int p3), .val (.int p4), .val (.int p5), .val (.int (4 : Int32)), .val (.ref b101), .val (.ref b102), .val (.ref b103), .val (.ref b105), .val (.ref b108), .val (.ref b116), .val (.ref b117), .val (.ref b101), .unset, .unset] [])) _
    refine XS.iload X132.here hx rfl (hb hby at_166) rfl ?_
    show Steps p.tables e below (T132.setTop (mkF m 168 #[.val (.int p0), .val (.int p1), .val (.int p2), .val (.int p3), .val (.int p4), .val (.int p5), .val (.int (4 : Int32)), .val (.ref b101), .val (.ref b102), .val (.ref b103), .val (.ref b105), .val (.ref b108), .val (.ref b116), .val (.ref b117), .val (.ref b101), .unset, .unset] [(.int (4 : Int32))])) _
    refine XS.iconst X132.here hx rfl (hb hby at_168) ?_
    show Steps p.tables e below (T132.setTop (mkF m 169 #[.val (.int p0), .val (.int p1), .val (.int p2), .val (.int p3), .val (.int p4), .val (.int p5), .val (.int (4 : Int32)), .val (.ref b101), .val (.ref b102), .val (.ref b103), .val (.ref b105), .val (.ref b108), .val (.ref b116), .val (.ref b117), .val (.ref b101), .unset, .unset] [(.int (3 : Int32)), (.int (4 : Int32))])) _
    refine XS.icmpYes X132.here hx rfl (pc0 := 169) (pc' := 174) rfl (hb hby at_169) rfl (flt (by decide : ¬ (4 : Int32) < (3 : Int32))).2.1 (by decide) (by decide) ?_
    show Steps p.tables e below (T132.setTop (mkF m 174 #[.val (.int p0), .val (.int p1), .val (.int p2), .val (.int p3), .val (.int p4), .val (.int p5), .val (.int (4 : Int32)), .val (.ref b101), .val (.ref b102), .val (.ref b103), .val (.ref b105), .val (.ref b108), .val (.ref b116), .val (.ref b117), .val (.ref b101), .unset, .unset] [])) _
    refine XS.aload X132.here hx rfl (hb hby at_174) rfl rfl ?_
    show Steps p.tables e below (T132.setTop (mkF m 176 #[.val (.int p0), .val (.int p1), .val (.int p2), .val (.int p3), .val (.int p4), .val (.int p5), .val (.int (4 : Int32)), .val (.ref b101), .val (.ref b102), .val (.ref b103), .val (.ref b105), .val (.ref b108), .val (.ref b116), .val (.ref b117), .val (.ref b101), .unset, .unset] [(.ref b117)])) _
    refine st134.trans ?_
    show Steps p.tables e below (T134.setTop (mkF m 179 #[.val (.int p0), .val (.int p1), .val (.int p2), .val (.int p3), .val (.int p4), .val (.int p5), .val (.int (4 : Int32)), .val (.ref b101), .val (.ref b102), .val (.ref b103), .val (.ref b105), .val (.ref b108), .val (.ref b116), .val (.ref b117), .val (.ref b101), .unset, .unset] [(.ref b103)])) _
    refine XS.astore X134.here hx rfl (hb hby at_179) rfl rfl (l' := #[.val (.int p0), .val (.int p1), .val (.int p2), .val (.int p3), .val (.int p4), .val (.int p5), .val (.int (4 : Int32)), .val (.ref b101), .val (.ref b102), .val (.ref b103), .val (.ref b105), .val (.ref b108), .val (.ref b116), .val (.ref b117), .val (.ref b101), .val (.ref b103), .unset]) rfl ?_
    show Steps p.tables e below (T134.setTop (mkF m 181 #[.val (.int p0), .val (.int p1), .val (.int p2), .val (.int p3), .val (.int p4), .val (.int p5), .val (.int (4 : Int32)), .val (.ref b101), .val (.ref b102), .val (.ref b103), .val (.ref b105), .val (.ref b108), .val (.ref b116), .val (.ref b117), .val (.ref b101), .val (.ref b103), .unset] [])) _
    refine XS.aload X134.here hx rfl (hb hby at_181) rfl rfl ?_
    show Steps p.tables e below (T134.setTop (mkF m 183 #[.val (.int p0), .val (.int p1), .val (.int p2), .val (.int p3), .val (.int p4), .val (.int p5), .val (.int (4 : Int32)), .val (.ref b101), .val (.ref b102), .val (.ref b103), .val (.ref b105), .val (.ref b108), .val (.ref b116), .val (.ref b117), .val (.ref b101), .val (.ref b103), .unset] [(.ref b103)])) _
    refine XS.aload X134.here hx rfl (hb hby at_183) rfl rfl ?_
    show Steps p.tables e below (T134.setTop (mkF m 185 #[.val (.int p0), .val (.int p1), .val (.int p2), .val (.int p3), .val (.int p4), .val (.int p5), .val (.int (4 : Int32)), .val (.ref b101), .val (.ref b102), .val (.ref b103), .val (.ref b105), .val (.ref b108), .val (.ref b116), .val (.ref b117), .val (.ref b101), .val (.ref b103), .unset] [(.ref b103), (.ref b103)])) _
    refine st135.trans ?_
    show Steps p.tables e below (T135.setTop (mkF m 188 #[.val (.int p0), .val (.int p1), .val (.int p2), .val (.int p3), .val (.int p4), .val (.int p5), .val (.int (4 : Int32)), .val (.ref b101), .val (.ref b102), .val (.ref b103), .val (.ref b105), .val (.ref b108), .val (.ref b116), .val (.ref b117), .val (.ref b101), .val (.ref b103), .unset] [(.int (1 : Int32))])) _
    refine XS.ifYes X135.here hx rfl (pc0 := 188) (pc' := 193) rfl (hb hby at_188) rfl ((if0 _ _).trans (feq (by decide : ¬ (1 : Int32) = (0 : Int32))).2) (by decide) (by decide) ?_
    show Steps p.tables e below (T135.setTop (mkF m 193 #[.val (.int p0), .val (.int p1), .val (.int p2), .val (.int p3), .val (.int p4), .val (.int p5), .val (.int (4 : Int32)), .val (.ref b101), .val (.ref b102), .val (.ref b103), .val (.ref b105), .val (.ref b108), .val (.ref b116), .val (.ref b117), .val (.ref b101), .val (.ref b103), .unset] [])) _
    refine XS.aload X135.here hx rfl (hb hby at_193) rfl rfl ?_
    show Steps p.tables e below (T135.setTop (mkF m 195 #[.val (.int p0), .val (.int p1), .val (.int p2), .val (.int p3), .val (.int p4), .val (.int p5), .val (.int (4 : Int32)), .val (.ref b101), .val (.ref b102), .val (.ref b103), .val (.ref b105), .val (.ref b108), .val (.ref b116), .val (.ref b117), .val (.ref b101), .val (.ref b103), .unset] [(.ref b117)])) _
    refine st138.trans ?_
    show Steps p.tables e below (T138.setTop (mkF m 198 #[.val (.int p0), .val (.int p1), .val (.int p2), .val (.int p3), .val (.int p4), .val (.int p5), .val (.int (4 : Int32)), .val (.ref b101), .val (.ref b102), .val (.ref b103), .val (.ref b105), .val (.ref b108), .val (.ref b116), .val (.ref b117), .val (.ref b101), .val (.ref b103), .unset] [(.int (0 : Int32))])) _
    refine XS.iload X138.here hx rfl (hb hby at_198) rfl ?_
    show Steps p.tables e below (T138.setTop (mkF m 200 #[.val (.int p0), .val (.int p1), .val (.int p2), .val (.int p3), .val (.int p4), .val (.int p5), .val (.int (4 : Int32)), .val (.ref b101), .val (.ref b102), .val (.ref b103), .val (.ref b105), .val (.ref b108), .val (.ref b116), .val (.ref b117), .val (.ref b101), .val (.ref b103), .unset] [(.int (4 : Int32)), (.int (0 : Int32))])) _
    refine XS.iconst X138.here hx rfl (hb hby at_200) ?_
    show Steps p.tables e below (T138.setTop (mkF m 201 #[.val (.int p0), .val (.int p1), .val (.int p2), .val (.int p3), .val (.int p4), .val (.int p5), .val (.int (4 : Int32)), .val (.ref b101), .val (.ref b102), .val (.ref b103), .val (.ref b105), .val (.ref b108), .val (.ref b116), .val (.ref b117), .val (.ref b101), .val (.ref b103), .unset] [(.int (4 : Int32)), (.int (4 : Int32)), (.int (0 : Int32))])) _
    refine XS.icmpYes X138.here hx rfl (pc0 := 201) (pc' := 208) rfl (hb hby at_201) rfl (flt (by decide : ¬ (4 : Int32) < (4 : Int32))).2.2.2 (by decide) (by decide) ?_
    show Steps p.tables e below (T138.setTop (mkF m 208 #[.val (.int p0), .val (.int p1), .val (.int p2), .val (.int p3), .val (.int p4), .val (.int p5), .val (.int (4 : Int32)), .val (.ref b101), .val (.ref b102), .val (.ref b103), .val (.ref b105), .val (.ref b108), .val (.ref b116), .val (.ref b117), .val (.ref b101), .val (.ref b103), .unset] [(.int (0 : Int32))])) _
    refine XS.iconst X138.here hx rfl (hb hby at_208) ?_
    show Steps p.tables e below (T138.setTop (mkF m 209 #[.val (.int p0), .val (.int p1), .val (.int p2), .val (.int p3), .val (.int p4), .val (.int p5), .val (.int (4 : Int32)), .val (.ref b101), .val (.ref b102), .val (.ref b103), .val (.ref b105), .val (.ref b108), .val (.ref b116), .val (.ref b117), .val (.ref b101), .val (.ref b103), .unset] [(.int (0 : Int32)), (.int (0 : Int32))])) _
    refine XS.icmpYes X138.here hx rfl (pc0 := 209) (pc' := 214) rfl (hb hby at_209) rfl (teq rfl).1 (by decide) (by decide) ?_
    show Steps p.tables e below (T138.setTop (mkF m 214 #[.val (.int p0), .val (.int p1), .val (.int p2), .val (.int p3), .val (.int p4), .val (.int p5), .val (.int (4 : Int32)), .val (.ref b101), .val (.ref b102), .val (.ref b103), .val (.ref b105), .val (.ref b108), .val (.ref b116), .val (.ref b117), .val (.ref b101), .val (.ref b103), .unset] [])) _
    refine XS.iload X138.here hx rfl (hb hby at_214) rfl ?_
    show Steps p.tables e below (T138.setTop (mkF m 216 #[.val (.int p0), .val (.int p1), .val (.int p2), .val (.int p3), .val (.int p4), .val (.int p5), .val (.int (4 : Int32)), .val (.ref b101), .val (.ref b102), .val (.ref b103), .val (.ref b105), .val (.ref b108), .val (.ref b116), .val (.ref b117), .val (.ref b101), .val (.ref b103), .unset] [(.int (4 : Int32))])) _
    refine XS.iconst X138.here hx rfl (hb hby at_216) ?_
    show Steps p.tables e below (T138.setTop (mkF m 217 #[.val (.int p0), .val (.int p1), .val (.int p2), .val (.int p3), .val (.int p4), .val (.int p5), .val (.int (4 : Int32)), .val (.ref b101), .val (.ref b102), .val (.ref b103), .val (.ref b105), .val (.ref b108), .val (.ref b116), .val (.ref b117), .val (.ref b101), .val (.ref b103), .unset] [(.int (4 : Int32)), (.int (4 : Int32))])) _
    refine XS.icmpNo X138.here hx rfl (hb hby at_217) rfl (flt (by decide : ¬ (4 : Int32) < (4 : Int32))).1 ?_
    show Steps p.tables e below (T138.setTop (mkF m 220 #[.val (.int p0), .val (.int p1), .val (.int p2), .val (.int p3), .val (.int p4), .val (.int p5), .val (.int (4 : Int32)), .val (.ref b101), .val (.ref b102), .val (.ref b103), .val (.ref b105), .val (.ref b108), .val (.ref b116), .val (.ref b117), .val (.ref b101), .val (.ref b103), .unset] [])) _
    refine XS.aload X138.here hx rfl (hb hby at_220) rfl rfl ?_
    show Steps p.tables e below (T138.setTop (mkF m 222 #[.val (.int p0), .val (.int p1), .val (.int p2), .val (.int p3), .val (.int p4), .val (.int p5), .val (.int (4 : Int32)), .val (.ref b101), .val (.ref b102), .val (.ref b103), .val (.ref b105), .val (.ref b108), .val (.ref b116), .val (.ref b117), .val (.ref b101), .val (.ref b103), .unset] [(.ref b117)])) _
    refine st139.trans ?_
    show Steps p.tables e below (T139.setTop (mkF m 225 #[.val (.int p0), .val (.int p1), .val (.int p2), .val (.int p3), .val (.int p4), .val (.int p5), .val (.int (4 : Int32)), .val (.ref b101), .val (.ref b102), .val (.ref b103), .val (.ref b105), .val (.ref b108), .val (.ref b116), .val (.ref b117), .val (.ref b101), .val (.ref b103), .unset] [(.ref b105)])) _
    refine XS.aload X139.here hx rfl (hb hby at_225) rfl rfl ?_
    show Steps p.tables e below (T139.setTop (mkF m 227 #[.val (.int p0), .val (.int p1), .val (.int p2), .val (.int p3), .val (.int p4), .val (.int p5), .val (.int (4 : Int32)), .val (.ref b101), .val (.ref b102), .val (.ref b103), .val (.ref b105), .val (.ref b108), .val (.ref b116), .val (.ref b117), .val (.ref b101), .val (.ref b103), .unset] [(.ref b105), (.ref b105)])) _
    refine st140.trans ?_
    show Steps p.tables e below (T140.setTop (mkF m 230 #[.val (.int p0), .val (.int p1), .val (.int p2), .val (.int p3), .val (.int p4), .val (.int p5), .val (.int (4 : Int32)), .val (.ref b101), .val (.ref b102), .val (.ref b103), .val (.ref b105), .val (.ref b108), .val (.ref b116), .val (.ref b117), .val (.ref b101), .val (.ref b103), .unset] [(.int (1 : Int32))])) _
    refine XS.ifYes X140.here hx rfl (pc0 := 230) (pc' := 235) rfl (hb hby at_230) rfl ((if0 _ _).trans (feq (by decide : ¬ (1 : Int32) = (0 : Int32))).2) (by decide) (by decide) ?_
    show Steps p.tables e below (T140.setTop (mkF m 235 #[.val (.int p0), .val (.int p1), .val (.int p2), .val (.int p3), .val (.int p4), .val (.int p5), .val (.int (4 : Int32)), .val (.ref b101), .val (.ref b102), .val (.ref b103), .val (.ref b105), .val (.ref b108), .val (.ref b116), .val (.ref b117), .val (.ref b101), .val (.ref b103), .unset] [])) _
    refine XS.iload X140.here hx rfl (hb hby at_235) rfl ?_
    show Steps p.tables e below (T140.setTop (mkF m 237 #[.val (.int p0), .val (.int p1), .val (.int p2), .val (.int p3), .val (.int p4), .val (.int p5), .val (.int (4 : Int32)), .val (.ref b101), .val (.ref b102), .val (.ref b103), .val (.ref b105), .val (.ref b108), .val (.ref b116), .val (.ref b117), .val (.ref b101), .val (.ref b103), .unset] [(.int (4 : Int32))])) _
    refine XS.iconst X140.here hx rfl (hb hby at_237) ?_
    show Steps p.tables e below (T140.setTop (mkF m 238 #[.val (.int p0), .val (.int p1), .val (.int p2), .val (.int p3), .val (.int p4), .val (.int p5), .val (.int (4 : Int32)), .val (.ref b101), .val (.ref b102), .val (.ref b103), .val (.ref b105), .val (.ref b108), .val (.ref b116), .val (.ref b117), .val (.ref b101), .val (.ref b103), .unset] [(.int (5 : Int32)), (.int (4 : Int32))])) _
    refine XS.icmpNo X140.here hx rfl (hb hby at_238) rfl (tlt (by decide : (4 : Int32) < (5 : Int32))).2.1 ?_
    show Steps p.tables e below (T140.setTop (mkF m 241 #[.val (.int p0), .val (.int p1), .val (.int p2), .val (.int p3), .val (.int p4), .val (.int p5), .val (.int (4 : Int32)), .val (.ref b101), .val (.ref b102), .val (.ref b103), .val (.ref b105), .val (.ref b108), .val (.ref b116), .val (.ref b117), .val (.ref b101), .val (.ref b103), .unset] [])) _
    refine XS.iconst X140.here hx rfl (hb hby at_241) ?_
    show Steps p.tables e below (T140.setTop (mkF m 242 #[.val (.int p0), .val (.int p1), .val (.int p2), .val (.int p3), .val (.int p4), .val (.int p5), .val (.int (4 : Int32)), .val (.ref b101), .val (.ref b102), .val (.ref b103), .val (.ref b105), .val (.ref b108), .val (.ref b116), .val (.ref b117), .val (.ref b101), .val (.ref b103), .unset] [(.int (1 : Int32))])) _
    exact retN X140 hx (t := .boolean) Bd.returns (by simp) (hb hby at_242) hr
  · show QLaw n0 _ T140.heap _
    rw [e140]
    exact ⟨rfl, N140⟩
set_option maxRecDepth 65536 in
set_option maxHeartbeats 40000000 in
theorem rm0_5 (l : Launch) (Z : State) (a0 : Array Value) (hw : ∀ d ∈ tables_1, d.before a0 Z = true) (ws : List Jvm.Cond) (p0 : Int32) (p1 : Int32) (p2 : Int32) (p3 : Int32) (p4 : Int32) (p5 : Int32) (cs : Int32) (h0 : Heap) (n0 : Nat) (Z0 : n0 ≤ h0.size) (Sc : Sta Z Z.heap "java/lang/String" "COMPACT_STRINGS" "Z" (.int cs)) (hcs : ¬ (cs = (0 : Int32))) (O0 : Old Z n0 h0) (hN : (((p0 &&& (2147483647 : Int32)) % (5 : Int32)) + (1 : Int32)) = (5 : Int32)) :
    MetFree l x (head1 (Jvm.Cond.code x code maxLocals ret :: ws) room_1) (fun a U => a = #[(.int p0), (.int p1), (.int p2), (.int p3), (.int p4), (.int p5)] ∧ Z.Warmed39 U.vm ∧ U.heap = h0) (fun _ _ _ _ _ => True) (fun _ U o U' => ∃ v L, o = .returned v ∧ QLaw n0 v U'.heap L ∧ FrameEnd U o U' L room_1.cells room_1.slots) := by
  refine MetFree.of_bodySF (plainFor_of_name own_pn2) hisR ?_
  intro p e s m args below meth c s₁ Bd hml0 hP hK
  obtain ⟨rfl, hZ, hh⟩ := hP
  have hx := Bd.exec
  have hby := Bd.bytes
  have hml : c.maxLocals = 17 := hml0
  have hown : s.vm.findClass "com/example/seglport/seglport/options/OptionReaderNextPinLaw" = some m.cls := findClass_of_methodNamed Bd.named
  have hnm := (name_of_methodNamed Bd.named Bd.method).1
  have X0 : Stand p l e room_1 s m #[(.int p0), (.int p1), (.int p2), (.int p3), (.int p4), (.int p5)] below meth c s₁ [] 0 0 := Stand.of_body Bd
  have e0 : s₁.heap = h0 := by rw [← hh, Bd.state]; rfl
  have N0 := Fr.nil n0
  have ef : entryFrame m #[(.int p0), (.int p1), (.int p2), (.int p3), (.int p4), (.int p5)] maxLocals = mkF m 0 #[.val (.int p0), .val (.int p1), .val (.int p2), .val (.int p3), .val (.int p4), .val (.int p5), .unset, .unset, .unset, .unset, .unset, .unset, .unset, .unset, .unset, .unset, .unset] [] := by first | (simp [entryFrame, mkF, argsToLocals, Value.category, maxLocals]; done) | rfl
  have pre0 : ∀ t, Steps p.tables e below (s₁.setTop (mkF m 0 #[.val (.int p0), .val (.int p1), .val (.int p2), .val (.int p3), .val (.int p4), .val (.int p5), .unset, .unset, .unset, .unset, .unset, .unset, .unset, .unset, .unset, .unset, .unset] [])) t → Steps p.tables e below (s₁.setTop (entryFrame m #[(.int p0), (.int p1), (.int p2), (.int p3), (.int p4), (.int p5)] maxLocals)) t := fun t k => castTop ef k
  obtain ⟨_, _, ⟨T101, L101, k101, n101⟩, -, X101, ⟨Lc101, hQ101, l101, y101, z101⟩, st101⟩ := Jvm.LawKit.callS X0 hx (y := (⟨"java/lang/String", "valueOf", "(C)Ljava/lang/String;"⟩ : MethodName)) hown (mvT hZ (hw _ (List.mem_of_getElem? (i := 1) rfl))) (mvT hZ (hw _ (List.mem_of_getElem? (i := 2) rfl))) (mvT hZ (hw _ (List.mem_of_getElem? (i := 3) rfl))) (mvT hZ (hw _ (List.mem_of_getElem? (i := 4) rfl))) (by decide) (backOf (W := 0) (rm_val l Z a0 hw [] ((p1 &&& (255 : Int32)).toUInt32.toUInt16.toUInt32.toInt32) cs h0 n0 Z0 Sc hcs O0 (own_c _)) hZ (hw _ (List.mem_of_getElem? (i := 4) rfl)) (hw _ (List.mem_of_getElem? (i := 3) rfl)) (by decide) (by decide)) (g := (mkF m 16 #[.val (.int p0), .val (.int p1), .val (.int p2), .val (.int p3), .val (.int p4), .val (.int p5), .val (.int (5 : Int32)), .unset, .unset, .unset, .unset, .unset, .unset, .unset, .unset, .unset, .unset] [(.int ((p1 &&& (255 : Int32)).toUInt32.toUInt16.toUInt32.toInt32))])) rfl (by rw [hml]; rfl) (argsL := [(.int ((p1 &&& (255 : Int32)).toUInt32.toUInt16.toUInt32.toInt32))]) (rest := []) (lenOf own_pd3 rfl) rfl (by show 2 * 0 + _ ≤ _; exact Nat.le_of_eq rfl) (hb hby at_16) (fun _ _ => ⟨rfl, e0, (by decide : 0 + 2 ≤ _), (by decide : 0 + 5 ≤ _)⟩)
  dsimp only [Pt.U, Pt.locs, Pt.cells, Pt.slots] at X101 l101 y101 z101 st101 hQ101
  subst l101 y101 z101
  obtain ⟨b101, rfl, Nq101, K101, by_b101, Ex101⟩ := hQ101
  have g_b101 : n0 ≤ b101 := Nat.le_trans Z0 by_b101
  have sz_b101 : h0.size ≤ b101 := Nat.le_trans (Keep.refl h0 []).1 by_b101
  have Z101 : n0 ≤ T101.heap.size := Nat.le_trans Z0 K101.1
  have KC101 : Keep h0 T101.heap [] := (Keep.refl h0 []).trans K101 all0
  have N101 := Fr.app N0 Nq101
  obtain ⟨_, _, ⟨T102, L102, k102, n102⟩, -, X102, ⟨Lc102, hQ102, l102, y102, z102⟩, st102⟩ := Jvm.LawKit.callS X101 hx (y := (⟨"java/lang/String", "valueOf", "(C)Ljava/lang/String;"⟩ : MethodName)) hown (mvT hZ (hw _ (List.mem_of_getElem? (i := 1) rfl))) (mvT hZ (hw _ (List.mem_of_getElem? (i := 2) rfl))) (mvT hZ (hw _ (List.mem_of_getElem? (i := 3) rfl))) (mvT hZ (hw _ (List.mem_of_getElem? (i := 4) rfl))) (by decide) (backOf (W := 0) (rm_val l Z a0 hw [] ((p2 &&& (255 : Int32)).toUInt32.toUInt16.toUInt32.toInt32) cs T101.heap n0 Z101 Sc hcs (O0.keep K101 all0) (own_c _)) hZ (hw _ (List.mem_of_getElem? (i := 4) rfl)) (hw _ (List.mem_of_getElem? (i := 3) rfl)) (by decide) (by decide)) (g := (mkF m 27 #[.val (.int p0), .val (.int p1), .val (.int p2), .val (.int p3), .val (.int p4), .val (.int p5), .val (.int (5 : Int32)), .val (.ref b101), .unset, .unset, .unset, .unset, .unset, .unset, .unset, .unset, .unset] [(.int ((p2 &&& (255 : Int32)).toUInt32.toUInt16.toUInt32.toInt32))])) rfl (by rw [hml]; rfl) (argsL := [(.int ((p2 &&& (255 : Int32)).toUInt32.toUInt16.toUInt32.toInt32))]) (rest := []) (lenOf own_pd3 rfl) rfl (by show 2 * 0 + _ ≤ _; exact Nat.le_of_eq rfl) (hb hby at_27) (fun _ _ => ⟨rfl, rfl, (by decide : 2 + 2 ≤ _), (by decide : 5 + 5 ≤ _)⟩)
  dsimp only [Pt.U, Pt.locs, Pt.cells, Pt.slots] at X102 l102 y102 z102 st102 hQ102
  subst l102 y102 z102
  obtain ⟨b102, rfl, Nq102, K102, by_b102, Ex102⟩ := hQ102
  have ne_b101_b102 : b101 ≠ b102 := Nat.ne_of_lt (Nat.lt_of_lt_of_le Ex101.lt by_b102)
  have g_b102 : n0 ≤ b102 := Nat.le_trans Z101 by_b102
  have sz_b102 : h0.size ≤ b102 := Nat.le_trans KC101.1 by_b102
  have Z102 : n0 ≤ T102.heap.size := Nat.le_trans Z101 K102.1
  have KC102 : Keep h0 T102.heap [] := KC101.trans K102 all0
  have N102 := Fr.app N101 Nq102
  obtain ⟨_, _, ⟨T103, L103, k103, n103⟩, -, X103, ⟨Lc103, hQ103, l103, y103, z103⟩, st103⟩ := Jvm.LawKit.callS X102 hx (y := (⟨"java/lang/String", "valueOf", "(C)Ljava/lang/String;"⟩ : MethodName)) hown (mvT hZ (hw _ (List.mem_of_getElem? (i := 1) rfl))) (mvT hZ (hw _ (List.mem_of_getElem? (i := 2) rfl))) (mvT hZ (hw _ (List.mem_of_getElem? (i := 3) rfl))) (mvT hZ (hw _ (List.mem_of_getElem? (i := 4) rfl))) (by decide) (backOf (W := 0) (rm_val l Z a0 hw [] ((p3 &&& (255 : Int32)).toUInt32.toUInt16.toUInt32.toInt32) cs T102.heap n0 Z102 Sc hcs ((O0.keep K101 all0).keep K102 all0) (own_c _)) hZ (hw _ (List.mem_of_getElem? (i := 4) rfl)) (hw _ (List.mem_of_getElem? (i := 3) rfl)) (by decide) (by decide)) (g := (mkF m 38 #[.val (.int p0), .val (.int p1), .val (.int p2), .val (.int p3), .val (.int p4), .val (.int p5), .val (.int (5 : Int32)), .val (.ref b101), .val (.ref b102), .unset, .unset, .unset, .unset, .unset, .unset, .unset, .unset] [(.int ((p3 &&& (255 : Int32)).toUInt32.toUInt16.toUInt32.toInt32))])) rfl (by rw [hml]; rfl) (argsL := [(.int ((p3 &&& (255 : Int32)).toUInt32.toUInt16.toUInt32.toInt32))]) (rest := []) (lenOf own_pd3 rfl) rfl (by show 2 * 0 + _ ≤ _; exact Nat.le_of_eq rfl) (hb hby at_38) (fun _ _ => ⟨rfl, rfl, (by decide : 4 + 2 ≤ _), (by decide : 10 + 5 ≤ _)⟩)
  dsimp only [Pt.U, Pt.locs, Pt.cells, Pt.slots] at X103 l103 y103 z103 st103 hQ103
  subst l103 y103 z103
  obtain ⟨b103, rfl, Nq103, K103, by_b103, Ex103⟩ := hQ103
  have f104 := (Ex101.keep K102)
  have ne_b101_b103 : b101 ≠ b103 := Nat.ne_of_lt (Nat.lt_of_lt_of_le f104.lt by_b103)
  have ne_b102_b103 : b102 ≠ b103 := Nat.ne_of_lt (Nat.lt_of_lt_of_le Ex102.lt by_b103)
  have g_b103 : n0 ≤ b103 := Nat.le_trans Z102 by_b103
  have sz_b103 : h0.size ≤ b103 := Nat.le_trans KC102.1 by_b103
  have Z103 : n0 ≤ T103.heap.size := Nat.le_trans Z102 K103.1
  have KC103 : Keep h0 T103.heap [] := KC102.trans K103 all0
  have N103 := Fr.app N102 Nq103
  obtain ⟨_, _, ⟨T105, L105, k105, n105⟩, -, X105, ⟨Lc105, hQ105, l105, y105, z105⟩, st105⟩ := Jvm.LawKit.callS X103 hx (y := (⟨"java/lang/String", "valueOf", "(C)Ljava/lang/String;"⟩ : MethodName)) hown (mvT hZ (hw _ (List.mem_of_getElem? (i := 1) rfl))) (mvT hZ (hw _ (List.mem_of_getElem? (i := 2) rfl))) (mvT hZ (hw _ (List.mem_of_getElem? (i := 3) rfl))) (mvT hZ (hw _ (List.mem_of_getElem? (i := 4) rfl))) (by decide) (backOf (W := 0) (rm_val l Z a0 hw [] ((p4 &&& (255 : Int32)).toUInt32.toUInt16.toUInt32.toInt32) cs T103.heap n0 Z103 Sc hcs (((O0.keep K101 all0).keep K102 all0).keep K103 all0) (own_c _)) hZ (hw _ (List.mem_of_getElem? (i := 4) rfl)) (hw _ (List.mem_of_getElem? (i := 3) rfl)) (by decide) (by decide)) (g := (mkF m 50 #[.val (.int p0), .val (.int p1), .val (.int p2), .val (.int p3), .val (.int p4), .val (.int p5), .val (.int (5 : Int32)), .val (.ref b101), .val (.ref b102), .val (.ref b103), .unset, .unset, .unset, .unset, .unset, .unset, .unset] [(.int ((p4 &&& (255 : Int32)).toUInt32.toUInt16.toUInt32.toInt32))])) rfl (by rw [hml]; rfl) (argsL := [(.int ((p4 &&& (255 : Int32)).toUInt32.toUInt16.toUInt32.toInt32))]) (rest := []) (lenOf own_pd3 rfl) rfl (by show 2 * 0 + _ ≤ _; exact Nat.le_of_eq rfl) (hb hby at_50) (fun _ _ => ⟨rfl, rfl, (by decide : 6 + 2 ≤ _), (by decide : 15 + 5 ≤ _)⟩)
  dsimp only [Pt.U, Pt.locs, Pt.cells, Pt.slots] at X105 l105 y105 z105 st105 hQ105
  subst l105 y105 z105
  obtain ⟨b105, rfl, Nq105, K105, by_b105, Ex105⟩ := hQ105
  have f106 := (f104.keep K103)
  have f107 := (Ex102.keep K103)
  have ne_b101_b105 : b101 ≠ b105 := Nat.ne_of_lt (Nat.lt_of_lt_of_le f106.lt by_b105)
  have ne_b102_b105 : b102 ≠ b105 := Nat.ne_of_lt (Nat.lt_of_lt_of_le f107.lt by_b105)
  have ne_b103_b105 : b103 ≠ b105 := Nat.ne_of_lt (Nat.lt_of_lt_of_le Ex103.lt by_b105)
  have g_b105 : n0 ≤ b105 := Nat.le_trans Z103 by_b105
  have sz_b105 : h0.size ≤ b105 := Nat.le_trans KC103.1 by_b105
  have Z105 : n0 ≤ T105.heap.size := Nat.le_trans Z103 K105.1
  have KC105 : Keep h0 T105.heap [] := KC103.trans K105 all0
  have N105 := Fr.app N103 Nq105
  obtain ⟨_, _, ⟨T108, L108, k108, n108⟩, -, X108, ⟨Lc108, hQ108, l108, y108, z108⟩, st108⟩ := Jvm.LawKit.callS X105 hx (y := (⟨"java/lang/String", "valueOf", "(C)Ljava/lang/String;"⟩ : MethodName)) hown (mvT hZ (hw _ (List.mem_of_getElem? (i := 1) rfl))) (mvT hZ (hw _ (List.mem_of_getElem? (i := 2) rfl))) (mvT hZ (hw _ (List.mem_of_getElem? (i := 3) rfl))) (mvT hZ (hw _ (List.mem_of_getElem? (i := 4) rfl))) (by decide) (backOf (W := 0) (rm_val l Z a0 hw [] ((p5 &&& (255 : Int32)).toUInt32.toUInt16.toUInt32.toInt32) cs T105.heap n0 Z105 Sc hcs ((((O0.keep K101 all0).keep K102 all0).keep K103 all0).keep K105 all0) (own_c _)) hZ (hw _ (List.mem_of_getElem? (i := 4) rfl)) (hw _ (List.mem_of_getElem? (i := 3) rfl)) (by decide) (by decide)) (g := (mkF m 62 #[.val (.int p0), .val (.int p1), .val (.int p2), .val (.int p3), .val (.int p4), .val (.int p5), .val (.int (5 : Int32)), .val (.ref b101), .val (.ref b102), .val (.ref b103), .val (.ref b105), .unset, .unset, .unset, .unset, .unset, .unset] [(.int ((p5 &&& (255 : Int32)).toUInt32.toUInt16.toUInt32.toInt32))])) rfl (by rw [hml]; rfl) (argsL := [(.int ((p5 &&& (255 : Int32)).toUInt32.toUInt16.toUInt32.toInt32))]) (rest := []) (lenOf own_pd3 rfl) rfl (by show 2 * 0 + _ ≤ _; exact Nat.le_of_eq rfl) (hb hby at_62) (fun _ _ => ⟨rfl, rfl, (by decide : 8 + 2 ≤ _), (by decide : 20 + 5 ≤ _)⟩)
  dsimp only [Pt.U, Pt.locs, Pt.cells, Pt.slots] at X108 l108 y108 z108 st108 hQ108
  subst l108 y108 z108
  obtain ⟨b108, rfl, Nq108, K108, by_b108, Ex108⟩ := hQ108
  have f109 := (f106.keep K105)
  have f110 := (f107.keep K105)
  have f111 := (Ex103.keep K105)
  have ne_b101_b108 : b101 ≠ b108 := Nat.ne_of_lt (Nat.lt_of_lt_of_le f109.lt by_b108)
  have ne_b102_b108 : b102 ≠ b108 := Nat.ne_of_lt (Nat.lt_of_lt_of_le f110.lt by_b108)
  have ne_b103_b108 : b103 ≠ b108 := Nat.ne_of_lt (Nat.lt_of_lt_of_le f111.lt by_b108)
  have ne_b105_b108 : b105 ≠ b108 := Nat.ne_of_lt (Nat.lt_of_lt_of_le Ex105.lt by_b108)
  have g_b108 : n0 ≤ b108 := Nat.le_trans Z105 by_b108
  have sz_b108 : h0.size ≤ b108 := Nat.le_trans KC105.1 by_b108
  have Z108 : n0 ≤ T108.heap.size := Nat.le_trans Z105 K108.1
  have KC108 : Keep h0 T108.heap [] := KC105.trans K108 all0
  have N108 := Fr.app N105 Nq108
  have f112 := (f109.keep K108)
  have f113 := (f110.keep K108)
  have f114 := (f111.keep K108)
  have f115 := (Ex105.keep K108)
  obtain ⟨_, _, ⟨T116, L116, k116, n116⟩, -, X116, ⟨Lc116, hQ116, l116, y116, z116⟩, st116⟩ := Jvm.LawKit.callS X108 hx (y := (⟨"com/example/seglport/seglport/options/OptionReaderNextPinLaw", "make", "(ILjava/lang/String;Ljava/lang/String;Ljava/lang/String;Ljava/lang/String;Ljava/lang/String;)[Ljava/lang/String;"⟩ : MethodName)) hown (mvT hZ (hw _ (List.mem_of_getElem? (i := 27) rfl))) (mvT hZ (hw _ (List.mem_of_getElem? (i := 28) rfl))) (mvT hZ (hw _ (List.mem_of_getElem? (i := 29) rfl))) (mvT hZ (hw _ (List.mem_of_getElem? (i := 30) rfl))) (by decide) (backOf (W := 0) (rm_make5 l Z a0 hw [] b101 b102 b103 b105 b108 T108.heap n0 Z108 f112 f113 f114 f115 Ex108) hZ (hw _ (List.mem_of_getElem? (i := 30) rfl)) (hw _ (List.mem_of_getElem? (i := 29) rfl)) (by decide) (by decide)) (g := (mkF m 79 #[.val (.int p0), .val (.int p1), .val (.int p2), .val (.int p3), .val (.int p4), .val (.int p5), .val (.int (5 : Int32)), .val (.ref b101), .val (.ref b102), .val (.ref b103), .val (.ref b105), .val (.ref b108), .unset, .unset, .unset, .unset, .unset] [(.ref b108), (.ref b105), (.ref b103), (.ref b102), (.ref b101), (.int (5 : Int32))])) rfl (by rw [hml]; rfl) (argsL := [(.int (5 : Int32)), (.ref b101), (.ref b102), (.ref b103), (.ref b105), (.ref b108)]) (rest := []) (lenOf own_pd4 rfl) rfl (by show 2 * 0 + _ ≤ _; exact Nat.le_of_eq rfl) (hb hby at_79) (fun _ _ => ⟨rfl, rfl, (by decide : 10 + 1 ≤ _), (by decide : 25 + 5 ≤ _)⟩)
  dsimp only [Pt.U, Pt.locs, Pt.cells, Pt.slots] at X116 l116 y116 z116 st116 hQ116
  subst l116 y116 z116
  obtain ⟨b116, rfl, Nq116, K116, by_b116, V116⟩ := hQ116
  have ne_b101_b116 : b101 ≠ b116 := Nat.ne_of_lt (Nat.lt_of_lt_of_le f112.lt by_b116)
  have ne_b102_b116 : b102 ≠ b116 := Nat.ne_of_lt (Nat.lt_of_lt_of_le f113.lt by_b116)
  have ne_b103_b116 : b103 ≠ b116 := Nat.ne_of_lt (Nat.lt_of_lt_of_le f114.lt by_b116)
  have ne_b105_b116 : b105 ≠ b116 := Nat.ne_of_lt (Nat.lt_of_lt_of_le f115.lt by_b116)
  have ne_b108_b116 : b108 ≠ b116 := Nat.ne_of_lt (Nat.lt_of_lt_of_le Ex108.lt by_b116)
  have g_b116 : n0 ≤ b116 := Nat.le_trans Z108 by_b116
  have sz_b116 : h0.size ≤ b116 := Nat.le_trans KC108.1 by_b116
  have Z116 : n0 ≤ T116.heap.size := Nat.le_trans Z108 K116.1
  have KC116 : Keep h0 T116.heap [] := KC108.trans K116 all0
  have N116 := Fr.app N108 Nq116
  obtain ⟨T117, h117, X117, e117, E117, A117, D117, -, st117⟩ := newO X116 hx hZ hown (hw _ (List.mem_of_getElem? (i := 33) rfl)) (hw _ (List.mem_of_getElem? (i := 34) rfl)) (hw _ (List.mem_of_getElem? (i := 35) rfl)) rfl (g := (mkF m 84 #[.val (.int p0), .val (.int p1), .val (.int p2), .val (.int p3), .val (.int p4), .val (.int p5), .val (.int (5 : Int32)), .val (.ref b101), .val (.ref b102), .val (.ref b103), .val (.ref b105), .val (.ref b108), .val (.ref b116), .unset, .unset, .unset, .unset] [])) rfl (hb hby at_84) (by decide) (by decide)
  obtain ⟨b117, g117⟩ : ∃ z, z = T116.heap.size := ⟨_, rfl⟩
  rw [← g117] at A117 D117 st117
  have f118 := (f112.keep K116)
  have f119 := (f113.keep K116)
  have f120 := (f114.keep K116)
  have f121 := (f115.keep K116)
  have f122 := (Ex108.keep K116)
  have ne_b101_b117 : b101 ≠ b117 := Nat.ne_of_lt (Nat.lt_of_lt_of_le f118.lt (Nat.le_of_eq g117.symm))
  have ne_b102_b117 : b102 ≠ b117 := Nat.ne_of_lt (Nat.lt_of_lt_of_le f119.lt (Nat.le_of_eq g117.symm))
  have ne_b103_b117 : b103 ≠ b117 := Nat.ne_of_lt (Nat.lt_of_lt_of_le f120.lt (Nat.le_of_eq g117.symm))
  have ne_b105_b117 : b105 ≠ b117 := Nat.ne_of_lt (Nat.lt_of_lt_of_le f121.lt (Nat.le_of_eq g117.symm))
  have ne_b108_b117 : b108 ≠ b117 := Nat.ne_of_lt (Nat.lt_of_lt_of_le f122.lt (Nat.le_of_eq g117.symm))
  have ne_b116_b117 : b116 ≠ b117 := Nat.ne_of_lt (Nat.lt_of_lt_of_le V116.lt (Nat.le_of_eq g117.symm))
  have g_b117 : n0 ≤ b117 := Nat.le_trans Z116 (Nat.le_of_eq g117.symm)
  have sz_b117 : h0.size ≤ b117 := Nat.le_trans KC116.1 (Nat.le_of_eq g117.symm)
  have Z117 : n0 ≤ h117.size := Nat.le_trans Z116 E117.1
  have KC117 : Keep h0 h117 [] := KC116.ext E117
  have F__args_b117 : Fld Z h117 b117 "com/example/seglport/seglport/options/OptionReader" "_args" "[Ljava/lang/String;" .null := D117 (Or.inr (hw _ (List.mem_of_getElem? (i := 41) rfl))) (ty := (.array (.object "java/lang/String"))) (by decide)
  have F__next_b117 : Fld Z h117 b117 "com/example/seglport/seglport/options/OptionReader" "_next" "I" (.int (0 : Int32)) := D117 (Or.inl (hw _ (List.mem_of_getElem? (i := 48) rfl))) (ty := .int) (by decide)
  have F__option_b117 : Fld Z h117 b117 "com/example/seglport/seglport/options/OptionReader" "_option" "Ljava/lang/String;" .null := D117 (Or.inl (hw _ (List.mem_of_getElem? (i := 55) rfl))) (ty := (.object "java/lang/String")) (by decide)
  obtain ⟨_, _, ⟨T123, L123, k123, n123⟩, -, X123, ⟨Lc123, hQ123, l123, y123, z123⟩, st123⟩ := X117.specialBack hx (y := (⟨"com/example/seglport/seglport/options/OptionReader", "<init>", "([Ljava/lang/String;)V"⟩ : MethodName)) rfl hown (mvT hZ (hw _ (List.mem_of_getElem? (i := 36) rfl))) (mvT hZ (hw _ (List.mem_of_getElem? (i := 37) rfl))) (mvT hZ (hw _ (List.mem_of_getElem? (i := 38) rfl))) (by decide) (backOf (W := 1) (rm_init l Z a0 hw [] b117 b116 h117 n0 Z117 A117 F__args_b117 F__next_b117 F__option_b117 g_b117) hZ (hw _ (List.mem_of_getElem? (i := 38) rfl)) (hw _ (List.mem_of_getElem? (i := 35) rfl)) (by decide) (by decide)) (g := (mkF m 90 #[.val (.int p0), .val (.int p1), .val (.int p2), .val (.int p3), .val (.int p4), .val (.int p5), .val (.int (5 : Int32)), .val (.ref b101), .val (.ref b102), .val (.ref b103), .val (.ref b105), .val (.ref b108), .val (.ref b116), .unset, .unset, .unset, .unset] [(.ref b116), (.ref b117), (.ref b117)])) rfl (by rw [hml]; rfl) (Steps.refl _) (a := b117) (argsL := [(.ref b116)]) (rest := [(.ref b117)]) (lenOf own_pd5 rfl) rfl (by show 2 * 0 + _ ≤ _; exact Nat.le_of_eq rfl) (hb hby at_90) (fun _ _ => ⟨rfl, e117, (by decide : 12 + 0 ≤ _), (by decide : 33 + 0 ≤ _)⟩)
  dsimp only [Pt.U, Pt.locs, Pt.cells, Pt.slots] at X123 l123 y123 z123 st123 hQ123
  subst l123 y123 z123
  obtain ⟨rfl, Nq123, K123, R123_0, R123_1, R123_2, R123_3⟩ := hQ123
  have Z123 : n0 ≤ T123.heap.size := Nat.le_trans Z117 K123.1
  have KC123 : Keep h0 T123.heap [] := KC117.trans K123 (allS (Or.inr sz_b117) all0)
  have N123 := Fr.app N116 Nq123
  have f124 := ((V116.ext E117).keep K123 (ninS ne_b116_b117 nin0))
  obtain ⟨cq125, kq125, q125a, q125b, q125c⟩ := isOf hZ rfl R123_0
  obtain ⟨_, _, ⟨T125, L125, k125, n125⟩, -, X125, ⟨Lc125, hQ125, l125, y125, z125⟩, st125⟩ := X123.virtualBack hx (y := (⟨"com/example/seglport/seglport/options/OptionReader", "hasNext", "()Z"⟩ : MethodName)) (z := (⟨"com/example/seglport/seglport/options/OptionReader", "hasNext", "()Z"⟩ : MethodName)) hown (mvT hZ (hw _ (List.mem_of_getElem? (i := 42) rfl))) (mvT hZ (hw _ (List.mem_of_getElem? (i := 43) rfl))) (notFace_of_selects (args := #[]) (mvT hZ (hw _ (List.mem_of_getElem? (i := 45) rfl)))) (mvT hZ (hw _ (List.mem_of_getElem? (i := 45) rfl))) (mvT hZ (hw _ (List.mem_of_getElem? (i := 44) rfl))) (by decide) (backOf (W := 0) (rm_hasT l Z a0 hw [] b117 b116 5 _ (5 : Int32) (0 : Int32) .null T123.heap n0 Z123 R123_0 R123_1 R123_2 R123_3 f124 rfl (by decide)) hZ (hw _ (List.mem_of_getElem? (i := 46) rfl)) (hw _ (List.mem_of_getElem? (i := 35) rfl)) (by decide) (by decide)) q125a q125c (g := (mkF m 97 #[.val (.int p0), .val (.int p1), .val (.int p2), .val (.int p3), .val (.int p4), .val (.int p5), .val (.int (5 : Int32)), .val (.ref b101), .val (.ref b102), .val (.ref b103), .val (.ref b105), .val (.ref b108), .val (.ref b116), .val (.ref b117), .unset, .unset, .unset] [(.ref b117)])) rfl (by rw [hml]; rfl) (Steps.refl _) (argsL := []) (rest := []) (lenOf own_pd6 rfl) rfl (by show 2 * 0 + _ ≤ _; exact Nat.le_of_eq rfl) (hb hby at_97) (fun _ _ => ⟨rfl, rfl, (by decide : 12 + 0 ≤ _), (by decide : 33 + 0 ≤ _)⟩)
  dsimp only [Pt.U, Pt.locs, Pt.cells, Pt.slots] at X125 l125 y125 z125 st125 hQ125
  subst l125 y125 z125
  obtain ⟨rfl, Nq125, e125⟩ := hQ125
  have N125 := Fr.app N123 Nq125
  obtain ⟨cq126, kq126, q126a, q126b, q126c⟩ := isOf hZ e125 R123_0
  obtain ⟨_, _, ⟨T126, L126, k126, n126⟩, -, X126, ⟨Lc126, hQ126, l126, y126, z126⟩, st126⟩ := X125.virtualBack hx (y := (⟨"com/example/seglport/seglport/options/OptionReader", "next", "()Ljava/lang/String;"⟩ : MethodName)) (z := (⟨"com/example/seglport/seglport/options/OptionReader", "next", "()Ljava/lang/String;"⟩ : MethodName)) hown (mvT hZ (hw _ (List.mem_of_getElem? (i := 49) rfl))) (mvT hZ (hw _ (List.mem_of_getElem? (i := 50) rfl))) (notFace_of_selects (args := #[]) (mvT hZ (hw _ (List.mem_of_getElem? (i := 52) rfl)))) (mvT hZ (hw _ (List.mem_of_getElem? (i := 52) rfl))) (mvT hZ (hw _ (List.mem_of_getElem? (i := 51) rfl))) (by decide) (backOf (W := 0) (rm_next l Z a0 hw [] b117 b116 5 _ (5 : Int32) (0 : Int32) .null 0 b101 (2 : Int32) T123.heap n0 Z123 R123_0 R123_1 R123_2 R123_3 f124 rfl g_b117 (by decide) rfl (by decide) rfl (by decide)) hZ (hw _ (List.mem_of_getElem? (i := 53) rfl)) (hw _ (List.mem_of_getElem? (i := 35) rfl)) (by decide) (by decide)) q126a q126c (g := (mkF m 107 #[.val (.int p0), .val (.int p1), .val (.int p2), .val (.int p3), .val (.int p4), .val (.int p5), .val (.int (5 : Int32)), .val (.ref b101), .val (.ref b102), .val (.ref b103), .val (.ref b105), .val (.ref b108), .val (.ref b116), .val (.ref b117), .unset, .unset, .unset] [(.ref b117)])) rfl (by rw [hml]; rfl) (Steps.refl _) (argsL := []) (rest := []) (lenOf own_pd7 rfl) rfl (by show 2 * 0 + _ ≤ _; exact Nat.le_of_eq rfl) (hb hby at_107) (fun _ _ => ⟨rfl, e125, (by decide : 12 + 0 ≤ _), (by decide : 33 + 0 ≤ _)⟩)
  dsimp only [Pt.U, Pt.locs, Pt.cells, Pt.slots] at X126 l126 y126 z126 st126 hQ126
  subst l126 y126 z126
  obtain ⟨rfl, Nq126, K126, R126_0, R126_1, R126_2, R126_3⟩ := hQ126
  have Z126 : n0 ≤ T126.heap.size := Nat.le_trans Z123 K126.1
  have KC126 : Keep h0 T126.heap [] := KC123.trans K126 (allS (Or.inr sz_b117) all0)
  have N126 := Fr.app N125 Nq126
  have f128 := (((f118.ext E117).keep K123).keep K126)
  obtain ⟨cq127, kq127, q127a, q127b, q127c⟩ := isOf hZ rfl f128
  obtain ⟨_, _, ⟨T127, L127, k127, n127⟩, -, X127, ⟨Lc127, hQ127, l127, y127, z127⟩, st127⟩ := X126.virtualBack hx (y := (⟨"java/lang/String", "equals", "(Ljava/lang/Object;)Z"⟩ : MethodName)) (z := (⟨"java/lang/String", "equals", "(Ljava/lang/Object;)Z"⟩ : MethodName)) hown (mvT hZ (hw _ (List.mem_of_getElem? (i := 56) rfl))) (mvT hZ (hw _ (List.mem_of_getElem? (i := 57) rfl))) (notFace_of_selects (args := #[]) (mvT hZ (hw _ (List.mem_of_getElem? (i := 59) rfl)))) (mvT hZ (hw _ (List.mem_of_getElem? (i := 59) rfl))) (mvT hZ (hw _ (List.mem_of_getElem? (i := 58) rfl))) (by decide) (backOf (W := 0) (rm_eq l Z a0 hw [] b101 T126.heap n0 Z126 ) hZ (hw _ (List.mem_of_getElem? (i := 60) rfl)) (hw _ (List.mem_of_getElem? (i := 3) rfl)) (by decide) (by decide)) q127a q127c (g := (mkF m 116 #[.val (.int p0), .val (.int p1), .val (.int p2), .val (.int p3), .val (.int p4), .val (.int p5), .val (.int (5 : Int32)), .val (.ref b101), .val (.ref b102), .val (.ref b103), .val (.ref b105), .val (.ref b108), .val (.ref b116), .val (.ref b117), .val (.ref b101), .unset, .unset] [(.ref b101), (.ref b101)])) rfl (by rw [hml]; rfl) (Steps.refl _) (argsL := [(.ref b101)]) (rest := []) (lenOf own_pd8 rfl) rfl (by show 2 * 0 + _ ≤ _; exact Nat.le_of_eq rfl) (hb hby at_116) (fun _ _ => ⟨rfl, rfl, (by decide : 12 + 0 ≤ _), (by decide : 33 + 0 ≤ _)⟩)
  dsimp only [Pt.U, Pt.locs, Pt.cells, Pt.slots] at X127 l127 y127 z127 st127 hQ127
  subst l127 y127 z127
  obtain ⟨rfl, Nq127, e127⟩ := hQ127
  have N127 := Fr.app N126 Nq127
  have f129 := (f124.keep K126 (ninS ne_b116_b117 nin0))
  obtain ⟨cq130, kq130, q130a, q130b, q130c⟩ := isOf hZ e127 R126_0
  obtain ⟨_, _, ⟨T130, L130, k130, n130⟩, -, X130, ⟨Lc130, hQ130, l130, y130, z130⟩, st130⟩ := X127.virtualBack hx (y := (⟨"com/example/seglport/seglport/options/OptionReader", "hasNext", "()Z"⟩ : MethodName)) (z := (⟨"com/example/seglport/seglport/options/OptionReader", "hasNext", "()Z"⟩ : MethodName)) hown (mvT hZ (hw _ (List.mem_of_getElem? (i := 42) rfl))) (mvT hZ (hw _ (List.mem_of_getElem? (i := 43) rfl))) (notFace_of_selects (args := #[]) (mvT hZ (hw _ (List.mem_of_getElem? (i := 45) rfl)))) (mvT hZ (hw _ (List.mem_of_getElem? (i := 45) rfl))) (mvT hZ (hw _ (List.mem_of_getElem? (i := 44) rfl))) (by decide) (backOf (W := 0) (rm_hasT l Z a0 hw [] b117 b116 5 _ (5 : Int32) (2 : Int32) (.ref b101) T126.heap n0 Z126 R126_0 R126_1 R126_2 R126_3 f129 rfl (by decide)) hZ (hw _ (List.mem_of_getElem? (i := 46) rfl)) (hw _ (List.mem_of_getElem? (i := 35) rfl)) (by decide) (by decide)) q130a q130c (g := (mkF m 126 #[.val (.int p0), .val (.int p1), .val (.int p2), .val (.int p3), .val (.int p4), .val (.int p5), .val (.int (5 : Int32)), .val (.ref b101), .val (.ref b102), .val (.ref b103), .val (.ref b105), .val (.ref b108), .val (.ref b116), .val (.ref b117), .val (.ref b101), .unset, .unset] [(.ref b117)])) rfl (by rw [hml]; rfl) (Steps.refl _) (argsL := []) (rest := []) (lenOf own_pd6 rfl) rfl (by show 2 * 0 + _ ≤ _; exact Nat.le_of_eq rfl) (hb hby at_126) (fun _ _ => ⟨rfl, e127, (by decide : 12 + 0 ≤ _), (by decide : 33 + 0 ≤ _)⟩)
  dsimp only [Pt.U, Pt.locs, Pt.cells, Pt.slots] at X130 l130 y130 z130 st130 hQ130
  subst l130 y130 z130
  obtain ⟨rfl, Nq130, e130⟩ := hQ130
  have N130 := Fr.app N127 Nq130
  obtain ⟨cq131, kq131, q131a, q131b, q131c⟩ := isOf hZ e130 R126_0
  obtain ⟨_, _, ⟨T131, L131, k131, n131⟩, -, X131, ⟨Lc131, hQ131, l131, y131, z131⟩, st131⟩ := X130.virtualBack hx (y := (⟨"com/example/seglport/seglport/options/OptionReader", "value", "()Ljava/lang/String;"⟩ : MethodName)) (z := (⟨"com/example/seglport/seglport/options/OptionReader", "value", "()Ljava/lang/String;"⟩ : MethodName)) hown (mvT hZ (hw _ (List.mem_of_getElem? (i := 61) rfl))) (mvT hZ (hw _ (List.mem_of_getElem? (i := 62) rfl))) (notFace_of_selects (args := #[]) (mvT hZ (hw _ (List.mem_of_getElem? (i := 64) rfl)))) (mvT hZ (hw _ (List.mem_of_getElem? (i := 64) rfl))) (mvT hZ (hw _ (List.mem_of_getElem? (i := 63) rfl))) (by decide) (backOf (W := 0) (rm_value l Z a0 hw [] b117 b116 5 _ (5 : Int32) (2 : Int32) (.ref b101) 1 b102 T126.heap n0 Z126 R126_0 R126_1 R126_2 R126_3 f129 rfl (by decide) rfl (by decide) rfl (by decide)) hZ (hw _ (List.mem_of_getElem? (i := 65) rfl)) (hw _ (List.mem_of_getElem? (i := 35) rfl)) (by decide) (by decide)) q131a q131c (g := (mkF m 153 #[.val (.int p0), .val (.int p1), .val (.int p2), .val (.int p3), .val (.int p4), .val (.int p5), .val (.int (5 : Int32)), .val (.ref b101), .val (.ref b102), .val (.ref b103), .val (.ref b105), .val (.ref b108), .val (.ref b116), .val (.ref b117), .val (.ref b101), .unset, .unset] [(.ref b117)])) rfl (by rw [hml]; rfl) (Steps.refl _) (argsL := []) (rest := []) (lenOf own_pd7 rfl) rfl (by show 2 * 0 + _ ≤ _; exact Nat.le_of_eq rfl) (hb hby at_153) (fun _ _ => ⟨rfl, e130, (by decide : 12 + 0 ≤ _), (by decide : 33 + 0 ≤ _)⟩)
  dsimp only [Pt.U, Pt.locs, Pt.cells, Pt.slots] at X131 l131 y131 z131 st131 hQ131
  subst l131 y131 z131
  obtain ⟨rfl, Nq131, e131⟩ := hQ131
  have N131 := Fr.app N130 Nq131
  have f133 := (((f119.ext E117).keep K123).keep K126)
  obtain ⟨cq132, kq132, q132a, q132b, q132c⟩ := isOf hZ e131 f133
  obtain ⟨_, _, ⟨T132, L132, k132, n132⟩, -, X132, ⟨Lc132, hQ132, l132, y132, z132⟩, st132⟩ := X131.virtualBack hx (y := (⟨"java/lang/String", "equals", "(Ljava/lang/Object;)Z"⟩ : MethodName)) (z := (⟨"java/lang/String", "equals", "(Ljava/lang/Object;)Z"⟩ : MethodName)) hown (mvT hZ (hw _ (List.mem_of_getElem? (i := 56) rfl))) (mvT hZ (hw _ (List.mem_of_getElem? (i := 57) rfl))) (notFace_of_selects (args := #[]) (mvT hZ (hw _ (List.mem_of_getElem? (i := 59) rfl)))) (mvT hZ (hw _ (List.mem_of_getElem? (i := 59) rfl))) (mvT hZ (hw _ (List.mem_of_getElem? (i := 58) rfl))) (by decide) (backOf (W := 0) (rm_eq l Z a0 hw [] b102 T126.heap n0 Z126 ) hZ (hw _ (List.mem_of_getElem? (i := 60) rfl)) (hw _ (List.mem_of_getElem? (i := 3) rfl)) (by decide) (by decide)) q132a q132c (g := (mkF m 158 #[.val (.int p0), .val (.int p1), .val (.int p2), .val (.int p3), .val (.int p4), .val (.int p5), .val (.int (5 : Int32)), .val (.ref b101), .val (.ref b102), .val (.ref b103), .val (.ref b105), .val (.ref b108), .val (.ref b116), .val (.ref b117), .val (.ref b101), .unset, .unset] [(.ref b102), (.ref b102)])) rfl (by rw [hml]; rfl) (Steps.refl _) (argsL := [(.ref b102)]) (rest := []) (lenOf own_pd8 rfl) rfl (by show 2 * 0 + _ ≤ _; exact Nat.le_of_eq rfl) (hb hby at_158) (fun _ _ => ⟨rfl, e131, (by decide : 12 + 0 ≤ _), (by decide : 33 + 0 ≤ _)⟩)
  dsimp only [Pt.U, Pt.locs, Pt.cells, Pt.slots] at X132 l132 y132 z132 st132 hQ132
  subst l132 y132 z132
  obtain ⟨rfl, Nq132, e132⟩ := hQ132
  have N132 := Fr.app N131 Nq132
  obtain ⟨cq134, kq134, q134a, q134b, q134c⟩ := isOf hZ e132 R126_0
  obtain ⟨_, _, ⟨T134, L134, k134, n134⟩, -, X134, ⟨Lc134, hQ134, l134, y134, z134⟩, st134⟩ := X132.virtualBack hx (y := (⟨"com/example/seglport/seglport/options/OptionReader", "next", "()Ljava/lang/String;"⟩ : MethodName)) (z := (⟨"com/example/seglport/seglport/options/OptionReader", "next", "()Ljava/lang/String;"⟩ : MethodName)) hown (mvT hZ (hw _ (List.mem_of_getElem? (i := 49) rfl))) (mvT hZ (hw _ (List.mem_of_getElem? (i := 50) rfl))) (notFace_of_selects (args := #[]) (mvT hZ (hw _ (List.mem_of_getElem? (i := 52) rfl)))) (mvT hZ (hw _ (List.mem_of_getElem? (i := 52) rfl))) (mvT hZ (hw _ (List.mem_of_getElem? (i := 51) rfl))) (by decide) (backOf (W := 0) (rm_next l Z a0 hw [] b117 b116 5 _ (5 : Int32) (2 : Int32) (.ref b101) 2 b103 (4 : Int32) T126.heap n0 Z126 R126_0 R126_1 R126_2 R126_3 f129 rfl g_b117 (by decide) rfl (by decide) rfl (by decide)) hZ (hw _ (List.mem_of_getElem? (i := 53) rfl)) (hw _ (List.mem_of_getElem? (i := 35) rfl)) (by decide) (by decide)) q134a q134c (g := (mkF m 176 #[.val (.int p0), .val (.int p1), .val (.int p2), .val (.int p3), .val (.int p4), .val (.int p5), .val (.int (5 : Int32)), .val (.ref b101), .val (.ref b102), .val (.ref b103), .val (.ref b105), .val (.ref b108), .val (.ref b116), .val (.ref b117), .val (.ref b101), .unset, .unset] [(.ref b117)])) rfl (by rw [hml]; rfl) (Steps.refl _) (argsL := []) (rest := []) (lenOf own_pd7 rfl) rfl (by show 2 * 0 + _ ≤ _; exact Nat.le_of_eq rfl) (hb hby at_176) (fun _ _ => ⟨rfl, e132, (by decide : 12 + 0 ≤ _), (by decide : 33 + 0 ≤ _)⟩)
  dsimp only [Pt.U, Pt.locs, Pt.cells, Pt.slots] at X134 l134 y134 z134 st134 hQ134
  subst l134 y134 z134
  obtain ⟨rfl, Nq134, K134, R134_0, R134_1, R134_2, R134_3⟩ := hQ134
  have Z134 : n0 ≤ T134.heap.size := Nat.le_trans Z126 K134.1
  have KC134 : Keep h0 T134.heap [] := KC126.trans K134 (allS (Or.inr sz_b117) all0)
  have N134 := Fr.app N132 Nq134
  have f136 := ((((f120.ext E117).keep K123).keep K126).keep K134)
  obtain ⟨cq135, kq135, q135a, q135b, q135c⟩ := isOf hZ rfl f136
  obtain ⟨_, _, ⟨T135, L135, k135, n135⟩, -, X135, ⟨Lc135, hQ135, l135, y135, z135⟩, st135⟩ := X134.virtualBack hx (y := (⟨"java/lang/String", "equals", "(Ljava/lang/Object;)Z"⟩ : MethodName)) (z := (⟨"java/lang/String", "equals", "(Ljava/lang/Object;)Z"⟩ : MethodName)) hown (mvT hZ (hw _ (List.mem_of_getElem? (i := 56) rfl))) (mvT hZ (hw _ (List.mem_of_getElem? (i := 57) rfl))) (notFace_of_selects (args := #[]) (mvT hZ (hw _ (List.mem_of_getElem? (i := 59) rfl)))) (mvT hZ (hw _ (List.mem_of_getElem? (i := 59) rfl))) (mvT hZ (hw _ (List.mem_of_getElem? (i := 58) rfl))) (by decide) (backOf (W := 0) (rm_eq l Z a0 hw [] b103 T134.heap n0 Z134 ) hZ (hw _ (List.mem_of_getElem? (i := 60) rfl)) (hw _ (List.mem_of_getElem? (i := 3) rfl)) (by decide) (by decide)) q135a q135c (g := (mkF m 185 #[.val (.int p0), .val (.int p1), .val (.int p2), .val (.int p3), .val (.int p4), .val (.int p5), .val (.int (5 : Int32)), .val (.ref b101), .val (.ref b102), .val (.ref b103), .val (.ref b105), .val (.ref b108), .val (.ref b116), .val (.ref b117), .val (.ref b101), .val (.ref b103), .unset] [(.ref b103), (.ref b103)])) rfl (by rw [hml]; rfl) (Steps.refl _) (argsL := [(.ref b103)]) (rest := []) (lenOf own_pd8 rfl) rfl (by show 2 * 0 + _ ≤ _; exact Nat.le_of_eq rfl) (hb hby at_185) (fun _ _ => ⟨rfl, rfl, (by decide : 12 + 0 ≤ _), (by decide : 33 + 0 ≤ _)⟩)
  dsimp only [Pt.U, Pt.locs, Pt.cells, Pt.slots] at X135 l135 y135 z135 st135 hQ135
  subst l135 y135 z135
  obtain ⟨rfl, Nq135, e135⟩ := hQ135
  have N135 := Fr.app N134 Nq135
  have f137 := (f129.keep K134 (ninS ne_b116_b117 nin0))
  obtain ⟨cq138, kq138, q138a, q138b, q138c⟩ := isOf hZ e135 R134_0
  obtain ⟨_, _, ⟨T138, L138, k138, n138⟩, -, X138, ⟨Lc138, hQ138, l138, y138, z138⟩, st138⟩ := X135.virtualBack hx (y := (⟨"com/example/seglport/seglport/options/OptionReader", "hasNext", "()Z"⟩ : MethodName)) (z := (⟨"com/example/seglport/seglport/options/OptionReader", "hasNext", "()Z"⟩ : MethodName)) hown (mvT hZ (hw _ (List.mem_of_getElem? (i := 42) rfl))) (mvT hZ (hw _ (List.mem_of_getElem? (i := 43) rfl))) (notFace_of_selects (args := #[]) (mvT hZ (hw _ (List.mem_of_getElem? (i := 45) rfl)))) (mvT hZ (hw _ (List.mem_of_getElem? (i := 45) rfl))) (mvT hZ (hw _ (List.mem_of_getElem? (i := 44) rfl))) (by decide) (backOf (W := 0) (rm_hasT l Z a0 hw [] b117 b116 5 _ (5 : Int32) (4 : Int32) (.ref b103) T134.heap n0 Z134 R134_0 R134_1 R134_2 R134_3 f137 rfl (by decide)) hZ (hw _ (List.mem_of_getElem? (i := 46) rfl)) (hw _ (List.mem_of_getElem? (i := 35) rfl)) (by decide) (by decide)) q138a q138c (g := (mkF m 195 #[.val (.int p0), .val (.int p1), .val (.int p2), .val (.int p3), .val (.int p4), .val (.int p5), .val (.int (5 : Int32)), .val (.ref b101), .val (.ref b102), .val (.ref b103), .val (.ref b105), .val (.ref b108), .val (.ref b116), .val (.ref b117), .val (.ref b101), .val (.ref b103), .unset] [(.ref b117)])) rfl (by rw [hml]; rfl) (Steps.refl _) (argsL := []) (rest := []) (lenOf own_pd6 rfl) rfl (by show 2 * 0 + _ ≤ _; exact Nat.le_of_eq rfl) (hb hby at_195) (fun _ _ => ⟨rfl, e135, (by decide : 12 + 0 ≤ _), (by decide : 33 + 0 ≤ _)⟩)
  dsimp only [Pt.U, Pt.locs, Pt.cells, Pt.slots] at X138 l138 y138 z138 st138 hQ138
  subst l138 y138 z138
  obtain ⟨rfl, Nq138, e138⟩ := hQ138
  have N138 := Fr.app N135 Nq138
  obtain ⟨cq139, kq139, q139a, q139b, q139c⟩ := isOf hZ e138 R134_0
  obtain ⟨_, _, ⟨T139, L139, k139, n139⟩, -, X139, ⟨Lc139, hQ139, l139, y139, z139⟩, st139⟩ := X138.virtualBack hx (y := (⟨"com/example/seglport/seglport/options/OptionReader", "value", "()Ljava/lang/String;"⟩ : MethodName)) (z := (⟨"com/example/seglport/seglport/options/OptionReader", "value", "()Ljava/lang/String;"⟩ : MethodName)) hown (mvT hZ (hw _ (List.mem_of_getElem? (i := 61) rfl))) (mvT hZ (hw _ (List.mem_of_getElem? (i := 62) rfl))) (notFace_of_selects (args := #[]) (mvT hZ (hw _ (List.mem_of_getElem? (i := 64) rfl)))) (mvT hZ (hw _ (List.mem_of_getElem? (i := 64) rfl))) (mvT hZ (hw _ (List.mem_of_getElem? (i := 63) rfl))) (by decide) (backOf (W := 0) (rm_value l Z a0 hw [] b117 b116 5 _ (5 : Int32) (4 : Int32) (.ref b103) 3 b105 T134.heap n0 Z134 R134_0 R134_1 R134_2 R134_3 f137 rfl (by decide) rfl (by decide) rfl (by decide)) hZ (hw _ (List.mem_of_getElem? (i := 65) rfl)) (hw _ (List.mem_of_getElem? (i := 35) rfl)) (by decide) (by decide)) q139a q139c (g := (mkF m 222 #[.val (.int p0), .val (.int p1), .val (.int p2), .val (.int p3), .val (.int p4), .val (.int p5), .val (.int (5 : Int32)), .val (.ref b101), .val (.ref b102), .val (.ref b103), .val (.ref b105), .val (.ref b108), .val (.ref b116), .val (.ref b117), .val (.ref b101), .val (.ref b103), .unset] [(.ref b117)])) rfl (by rw [hml]; rfl) (Steps.refl _) (argsL := []) (rest := []) (lenOf own_pd7 rfl) rfl (by show 2 * 0 + _ ≤ _; exact Nat.le_of_eq rfl) (hb hby at_222) (fun _ _ => ⟨rfl, e138, (by decide : 12 + 0 ≤ _), (by decide : 33 + 0 ≤ _)⟩)
  dsimp only [Pt.U, Pt.locs, Pt.cells, Pt.slots] at X139 l139 y139 z139 st139 hQ139
  subst l139 y139 z139
  obtain ⟨rfl, Nq139, e139⟩ := hQ139
  have N139 := Fr.app N138 Nq139
  have f141 := ((((f121.ext E117).keep K123).keep K126).keep K134)
  obtain ⟨cq140, kq140, q140a, q140b, q140c⟩ := isOf hZ e139 f141
  obtain ⟨_, _, ⟨T140, L140, k140, n140⟩, -, X140, ⟨Lc140, hQ140, l140, y140, z140⟩, st140⟩ := X139.virtualBack hx (y := (⟨"java/lang/String", "equals", "(Ljava/lang/Object;)Z"⟩ : MethodName)) (z := (⟨"java/lang/String", "equals", "(Ljava/lang/Object;)Z"⟩ : MethodName)) hown (mvT hZ (hw _ (List.mem_of_getElem? (i := 56) rfl))) (mvT hZ (hw _ (List.mem_of_getElem? (i := 57) rfl))) (notFace_of_selects (args := #[]) (mvT hZ (hw _ (List.mem_of_getElem? (i := 59) rfl)))) (mvT hZ (hw _ (List.mem_of_getElem? (i := 59) rfl))) (mvT hZ (hw _ (List.mem_of_getElem? (i := 58) rfl))) (by decide) (backOf (W := 0) (rm_eq l Z a0 hw [] b105 T134.heap n0 Z134 ) hZ (hw _ (List.mem_of_getElem? (i := 60) rfl)) (hw _ (List.mem_of_getElem? (i := 3) rfl)) (by decide) (by decide)) q140a q140c (g := (mkF m 227 #[.val (.int p0), .val (.int p1), .val (.int p2), .val (.int p3), .val (.int p4), .val (.int p5), .val (.int (5 : Int32)), .val (.ref b101), .val (.ref b102), .val (.ref b103), .val (.ref b105), .val (.ref b108), .val (.ref b116), .val (.ref b117), .val (.ref b101), .val (.ref b103), .unset] [(.ref b105), (.ref b105)])) rfl (by rw [hml]; rfl) (Steps.refl _) (argsL := [(.ref b105)]) (rest := []) (lenOf own_pd8 rfl) rfl (by show 2 * 0 + _ ≤ _; exact Nat.le_of_eq rfl) (hb hby at_227) (fun _ _ => ⟨rfl, e139, (by decide : 12 + 0 ≤ _), (by decide : 33 + 0 ≤ _)⟩)
  dsimp only [Pt.U, Pt.locs, Pt.cells, Pt.slots] at X140 l140 y140 z140 st140 hQ140
  subst l140 y140 z140
  obtain ⟨rfl, Nq140, e140⟩ := hQ140
  have N140 := Fr.app N139 Nq140
  obtain ⟨cq142, kq142, q142a, q142b, q142c⟩ := isOf hZ e140 R134_0
  obtain ⟨_, _, ⟨T142, L142, k142, n142⟩, -, X142, ⟨Lc142, hQ142, l142, y142, z142⟩, st142⟩ := X140.virtualBack hx (y := (⟨"com/example/seglport/seglport/options/OptionReader", "next", "()Ljava/lang/String;"⟩ : MethodName)) (z := (⟨"com/example/seglport/seglport/options/OptionReader", "next", "()Ljava/lang/String;"⟩ : MethodName)) hown (mvT hZ (hw _ (List.mem_of_getElem? (i := 49) rfl))) (mvT hZ (hw _ (List.mem_of_getElem? (i := 50) rfl))) (notFace_of_selects (args := #[]) (mvT hZ (hw _ (List.mem_of_getElem? (i := 52) rfl)))) (mvT hZ (hw _ (List.mem_of_getElem? (i := 52) rfl))) (mvT hZ (hw _ (List.mem_of_getElem? (i := 51) rfl))) (by decide) (backOf (W := 0) (rm_next l Z a0 hw [] b117 b116 5 _ (5 : Int32) (4 : Int32) (.ref b103) 4 b108 (6 : Int32) T134.heap n0 Z134 R134_0 R134_1 R134_2 R134_3 f137 rfl g_b117 (by decide) rfl (by decide) rfl (by decide)) hZ (hw _ (List.mem_of_getElem? (i := 53) rfl)) (hw _ (List.mem_of_getElem? (i := 35) rfl)) (by decide) (by decide)) q142a q142c (g := (mkF m 245 #[.val (.int p0), .val (.int p1), .val (.int p2), .val (.int p3), .val (.int p4), .val (.int p5), .val (.int (5 : Int32)), .val (.ref b101), .val (.ref b102), .val (.ref b103), .val (.ref b105), .val (.ref b108), .val (.ref b116), .val (.ref b117), .val (.ref b101), .val (.ref b103), .unset] [(.ref b117)])) rfl (by rw [hml]; rfl) (Steps.refl _) (argsL := []) (rest := []) (lenOf own_pd7 rfl) rfl (by show 2 * 0 + _ ≤ _; exact Nat.le_of_eq rfl) (hb hby at_245) (fun _ _ => ⟨rfl, e140, (by decide : 12 + 0 ≤ _), (by decide : 33 + 0 ≤ _)⟩)
  dsimp only [Pt.U, Pt.locs, Pt.cells, Pt.slots] at X142 l142 y142 z142 st142 hQ142
  subst l142 y142 z142
  obtain ⟨rfl, Nq142, K142, R142_0, R142_1, R142_2, R142_3⟩ := hQ142
  have Z142 : n0 ≤ T142.heap.size := Nat.le_trans Z134 K142.1
  have KC142 : Keep h0 T142.heap [] := KC134.trans K142 (allS (Or.inr sz_b117) all0)
  have N142 := Fr.app N140 Nq142
  have f144 := (((((f122.ext E117).keep K123).keep K126).keep K134).keep K142)
  obtain ⟨cq143, kq143, q143a, q143b, q143c⟩ := isOf hZ rfl f144
  obtain ⟨_, _, ⟨T143, L143, k143, n143⟩, -, X143, ⟨Lc143, hQ143, l143, y143, z143⟩, st143⟩ := X142.virtualBack hx (y := (⟨"java/lang/String", "equals", "(Ljava/lang/Object;)Z"⟩ : MethodName)) (z := (⟨"java/lang/String", "equals", "(Ljava/lang/Object;)Z"⟩ : MethodName)) hown (mvT hZ (hw _ (List.mem_of_getElem? (i := 56) rfl))) (mvT hZ (hw _ (List.mem_of_getElem? (i := 57) rfl))) (notFace_of_selects (args := #[]) (mvT hZ (hw _ (List.mem_of_getElem? (i := 59) rfl)))) (mvT hZ (hw _ (List.mem_of_getElem? (i := 59) rfl))) (mvT hZ (hw _ (List.mem_of_getElem? (i := 58) rfl))) (by decide) (backOf (W := 0) (rm_eq l Z a0 hw [] b108 T142.heap n0 Z142 ) hZ (hw _ (List.mem_of_getElem? (i := 60) rfl)) (hw _ (List.mem_of_getElem? (i := 3) rfl)) (by decide) (by decide)) q143a q143c (g := (mkF m 254 #[.val (.int p0), .val (.int p1), .val (.int p2), .val (.int p3), .val (.int p4), .val (.int p5), .val (.int (5 : Int32)), .val (.ref b101), .val (.ref b102), .val (.ref b103), .val (.ref b105), .val (.ref b108), .val (.ref b116), .val (.ref b117), .val (.ref b101), .val (.ref b103), .val (.ref b108)] [(.ref b108), (.ref b108)])) rfl (by rw [hml]; rfl) (Steps.refl _) (argsL := [(.ref b108)]) (rest := []) (lenOf own_pd8 rfl) rfl (by show 2 * 0 + _ ≤ _; exact Nat.le_of_eq rfl) (hb hby at_254) (fun _ _ => ⟨rfl, rfl, (by decide : 12 + 0 ≤ _), (by decide : 33 + 0 ≤ _)⟩)
  dsimp only [Pt.U, Pt.locs, Pt.cells, Pt.slots] at X143 l143 y143 z143 st143 hQ143
  subst l143 y143 z143
  obtain ⟨rfl, Nq143, e143⟩ := hQ143
  have N143 := Fr.app N142 Nq143
  have f145 := (f137.keep K142 (ninS ne_b116_b117 nin0))
  obtain ⟨cq146, kq146, q146a, q146b, q146c⟩ := isOf hZ e143 R142_0
  obtain ⟨_, _, ⟨T146, L146, k146, n146⟩, -, X146, ⟨Lc146, hQ146, l146, y146, z146⟩, st146⟩ := X143.virtualBack hx (y := (⟨"com/example/seglport/seglport/options/OptionReader", "hasNext", "()Z"⟩ : MethodName)) (z := (⟨"com/example/seglport/seglport/options/OptionReader", "hasNext", "()Z"⟩ : MethodName)) hown (mvT hZ (hw _ (List.mem_of_getElem? (i := 42) rfl))) (mvT hZ (hw _ (List.mem_of_getElem? (i := 43) rfl))) (notFace_of_selects (args := #[]) (mvT hZ (hw _ (List.mem_of_getElem? (i := 45) rfl)))) (mvT hZ (hw _ (List.mem_of_getElem? (i := 45) rfl))) (mvT hZ (hw _ (List.mem_of_getElem? (i := 44) rfl))) (by decide) (backOf (W := 0) (rm_hasF l Z a0 hw [] b117 b116 5 _ (5 : Int32) (6 : Int32) (.ref b108) T142.heap n0 Z142 R142_0 R142_1 R142_2 R142_3 f145 rfl (by decide)) hZ (hw _ (List.mem_of_getElem? (i := 46) rfl)) (hw _ (List.mem_of_getElem? (i := 35) rfl)) (by decide) (by decide)) q146a q146c (g := (mkF m 264 #[.val (.int p0), .val (.int p1), .val (.int p2), .val (.int p3), .val (.int p4), .val (.int p5), .val (.int (5 : Int32)), .val (.ref b101), .val (.ref b102), .val (.ref b103), .val (.ref b105), .val (.ref b108), .val (.ref b116), .val (.ref b117), .val (.ref b101), .val (.ref b103), .val (.ref b108)] [(.ref b117)])) rfl (by rw [hml]; rfl) (Steps.refl _) (argsL := []) (rest := []) (lenOf own_pd6 rfl) rfl (by show 2 * 0 + _ ≤ _; exact Nat.le_of_eq rfl) (hb hby at_264) (fun _ _ => ⟨rfl, e143, (by decide : 12 + 0 ≤ _), (by decide : 33 + 0 ≤ _)⟩)
  dsimp only [Pt.U, Pt.locs, Pt.cells, Pt.slots] at X146 l146 y146 z146 st146 hQ146
  subst l146 y146 z146
  obtain ⟨rfl, Nq146, e146⟩ := hQ146
  have N146 := Fr.app N143 Nq146
  obtain ⟨fs, hr, hrun, hended, hW, hsame⟩ := X146.leave (v := some (.int (1 : Int32))) (fun h => by rw [Bd.returns] at h; cases h)
  refine ⟨_, _, pre0 _ ?_, hrun, hended, _, _, rfl, ?_, ⟨_, rfl⟩, hW, hsame.mono (by decide) (by decide)⟩
  · show Steps p.tables e below (s₁.setTop (mkF m 0 #[.val (.int p0), .val (.int p1), .val (.int p2), .val (.int p3), .val (.int p4), .val (.int p5), .unset, .unset, .unset, .unset, .unset, .unset, .unset, .unset, .unset, .unset, .unset] [])) _
    refine XS.iloadN X0.here hx rfl (hb hby at_0) rfl ?_
    show Steps p.tables e below (s₁.setTop (mkF m 1 #[.val (.int p0), .val (.int p1), .val (.int p2), .val (.int p3), .val (.int p4), .val (.int p5), .unset, .unset, .unset, .unset, .unset, .unset, .unset, .unset, .unset, .unset, .unset] [(.int p0)])) _
    refine X0.ldcInt hx hown (mvT hZ (hw _ (List.mem_of_getElem? (i := 0) rfl))) (g := (mkF m 1 #[.val (.int p0), .val (.int p1), .val (.int p2), .val (.int p3), .val (.int p4), .val (.int p5), .unset, .unset, .unset, .unset, .unset, .unset, .unset, .unset, .unset, .unset, .unset] [(.int p0)])) rfl (hb hby at_1) _ ?_
    show Steps p.tables e below (s₁.setTop (mkF m 3 #[.val (.int p0), .val (.int p1), .val (.int p2), .val (.int p3), .val (.int p4), .val (.int p5), .unset, .unset, .unset, .unset, .unset, .unset, .unset, .unset, .unset, .unset, .unset] [(.int (2147483647 : Int32)), (.int p0)])) _
    refine XS.iand X0.here hx rfl (hb hby at_3) rfl ?_
    show Steps p.tables e below (s₁.setTop (mkF m 4 #[.val (.int p0), .val (.int p1), .val (.int p2), .val (.int p3), .val (.int p4), .val (.int p5), .unset, .unset, .unset, .unset, .unset, .unset, .unset, .unset, .unset, .unset, .unset] [(.int (p0 &&& (2147483647 : Int32)))])) _
    refine XS.iconst X0.here hx rfl (hb hby at_4) ?_
    show Steps p.tables e below (s₁.setTop (mkF m 5 #[.val (.int p0), .val (.int p1), .val (.int p2), .val (.int p3), .val (.int p4), .val (.int p5), .unset, .unset, .unset, .unset, .unset, .unset, .unset, .unset, .unset, .unset, .unset] [(.int (5 : Int32)), (.int (p0 &&& (2147483647 : Int32)))])) _
    refine iremM X0 hx rfl (hb hby at_5) rfl (by decide) ?_
    show Steps p.tables e below (s₁.setTop (mkF m 6 #[.val (.int p0), .val (.int p1), .val (.int p2), .val (.int p3), .val (.int p4), .val (.int p5), .unset, .unset, .unset, .unset, .unset, .unset, .unset, .unset, .unset, .unset, .unset] [(.int ((p0 &&& (2147483647 : Int32)) % (5 : Int32)))])) _
    refine XS.iconst X0.here hx rfl (hb hby at_6) ?_
    show Steps p.tables e below (s₁.setTop (mkF m 7 #[.val (.int p0), .val (.int p1), .val (.int p2), .val (.int p3), .val (.int p4), .val (.int p5), .unset, .unset, .unset, .unset, .unset, .unset, .unset, .unset, .unset, .unset, .unset] [(.int (1 : Int32)), (.int ((p0 &&& (2147483647 : Int32)) % (5 : Int32)))])) _
    refine XS.iadd X0.here hx rfl (hb hby at_7) rfl ?_
    show Steps p.tables e below (s₁.setTop (mkF m 8 #[.val (.int p0), .val (.int p1), .val (.int p2), .val (.int p3), .val (.int p4), .val (.int p5), .unset, .unset, .unset, .unset, .unset, .unset, .unset, .unset, .unset, .unset, .unset] [(.int (((p0 &&& (2147483647 : Int32)) % (5 : Int32)) + (1 : Int32)))])) _
    rw [hN]
    show Steps p.tables e below (s₁.setTop (mkF m 8 #[.val (.int p0), .val (.int p1), .val (.int p2), .val (.int p3), .val (.int p4), .val (.int p5), .unset, .unset, .unset, .unset, .unset, .unset, .unset, .unset, .unset, .unset, .unset] [(.int (5 : Int32))])) _
    refine XS.istore X0.here hx rfl (hb hby at_8) rfl (l' := #[.val (.int p0), .val (.int p1), .val (.int p2), .val (.int p3), .val (.int p4), .val (.int p5), .val (.int (5 : Int32)), .unset, .unset, .unset, .unset, .unset, .unset, .unset, .unset, .unset, .unset]) rfl ?_
    show Steps p.tables e below (s₁.setTop (mkF m 10 #[.val (.int p0), .val (.int p1), .val (.int p2), .val (.int p3), .val (.int p4), .val (.int p5), .val (.int (5 : Int32)), .unset, .unset, .unset, .unset, .unset, .unset, .unset, .unset, .unset, .unset] [])) _
    refine XS.iloadN X0.here hx rfl (hb hby at_10) rfl ?_
    show Steps p.tables e below (s₁.setTop (mkF m 11 #[.val (.int p0), .val (.int p1), .val (.int p2), .val (.int p3), .val (.int p4), .val (.int p5), .val (.int (5 : Int32)), .unset, .unset, .unset, .unset, .unset, .unset, .unset, .unset, .unset, .unset] [(.int p1)])) _
    refine XS.sipush X0.here hx rfl (hb hby at_11) ?_
    show Steps p.tables e below (s₁.setTop (mkF m 14 #[.val (.int p0), .val (.int p1), .val (.int p2), .val (.int p3), .val (.int p4), .val (.int p5), .val (.int (5 : Int32)), .unset, .unset, .unset, .unset, .unset, .unset, .unset, .unset, .unset, .unset] [(.int (255 : Int32)), (.int p1)])) _
    refine XS.iand X0.here hx rfl (hb hby at_14) rfl ?_
    show Steps p.tables e below (s₁.setTop (mkF m 15 #[.val (.int p0), .val (.int p1), .val (.int p2), .val (.int p3), .val (.int p4), .val (.int p5), .val (.int (5 : Int32)), .unset, .unset, .unset, .unset, .unset, .unset, .unset, .unset, .unset, .unset] [(.int (p1 &&& (255 : Int32)))])) _
    refine XS.i2c X0.here hx rfl (hb hby at_15) rfl ?_
    show Steps p.tables e below (s₁.setTop (mkF m 16 #[.val (.int p0), .val (.int p1), .val (.int p2), .val (.int p3), .val (.int p4), .val (.int p5), .val (.int (5 : Int32)), .unset, .unset, .unset, .unset, .unset, .unset, .unset, .unset, .unset, .unset] [(.int ((p1 &&& (255 : Int32)).toUInt32.toUInt16.toUInt32.toInt32))])) _
    refine st101 _ ?_
    show Steps p.tables e below (T101.setTop (mkF m 19 #[.val (.int p0), .val (.int p1), .val (.int p2), .val (.int p3), .val (.int p4), .val (.int p5), .val (.int (5 : Int32)), .unset, .unset, .unset, .unset, .unset, .unset, .unset, .unset, .unset, .unset] [(.ref b101)])) _
    refine XS.astore X101.here hx rfl (hb hby at_19) rfl rfl (l' := #[.val (.int p0), .val (.int p1), .val (.int p2), .val (.int p3), .val (.int p4), .val (.int p5), .val (.int (5 : Int32)), .val (.ref b101), .unset, .unset, .unset, .unset, .unset, .unset, .unset, .unset, .unset]) rfl ?_
    show Steps p.tables e below (T101.setTop (mkF m 21 #[.val (.int p0), .val (.int p1), .val (.int p2), .val (.int p3), .val (.int p4), .val (.int p5), .val (.int (5 : Int32)), .val (.ref b101), .unset, .unset, .unset, .unset, .unset, .unset, .unset, .unset, .unset] [])) _
    refine XS.iloadN X101.here hx rfl (hb hby at_21) rfl ?_
    show Steps p.tables e below (T101.setTop (mkF m 22 #[.val (.int p0), .val (.int p1), .val (.int p2), .val (.int p3), .val (.int p4), .val (.int p5), .val (.int (5 : Int32)), .val (.ref b101), .unset, .unset, .unset, .unset, .unset, .unset, .unset, .unset, .unset] [(.int p2)])) _
    refine XS.sipush X101.here hx rfl (hb hby at_22) ?_
    show Steps p.tables e below (T101.setTop (mkF m 25 #[.val (.int p0), .val (.int p1), .val (.int p2), .val (.int p3), .val (.int p4), .val (.int p5), .val (.int (5 : Int32)), .val (.ref b101), .unset, .unset, .unset, .unset, .unset, .unset, .unset, .unset, .unset] [(.int (255 : Int32)), (.int p2)])) _
    refine XS.iand X101.here hx rfl (hb hby at_25) rfl ?_
    show Steps p.tables e below (T101.setTop (mkF m 26 #[.val (.int p0), .val (.int p1), .val (.int p2), .val (.int p3), .val (.int p4), .val (.int p5), .val (.int (5 : Int32)), .val (.ref b101), .unset, .unset, .unset, .unset, .unset, .unset, .unset, .unset, .unset] [(.int (p2 &&& (255 : Int32)))])) _
    refine XS.i2c X101.here hx rfl (hb hby at_26) rfl ?_
    show Steps p.tables e below (T101.setTop (mkF m 27 #[.val (.int p0), .val (.int p1), .val (.int p2), .val (.int p3), .val (.int p4), .val (.int p5), .val (.int (5 : Int32)), .val (.ref b101), .unset, .unset, .unset, .unset, .unset, .unset, .unset, .unset, .unset] [(.int ((p2 &&& (255 : Int32)).toUInt32.toUInt16.toUInt32.toInt32))])) _
    refine st102 _ ?_
    show Steps p.tables e below (T102.setTop (mkF m 30 #[.val (.int p0), .val (.int p1), .val (.int p2), .val (.int p3), .val (.int p4), .val (.int p5), .val (.int (5 : Int32)), .val (.ref b101), .unset, .unset, .unset, .unset, .unset, .unset, .unset, .unset, .unset] [(.ref b102)])) _
    refine XS.astore X102.here hx rfl (hb hby at_30) rfl rfl (l' := #[.val (.int p0), .val (.int p1), .val (.int p2), .val (.int p3), .val (.int p4), .val (.int p5), .val (.int (5 : Int32)), .val (.ref b101), .val (.ref b102), .unset, .unset, .unset, .unset, .unset, .unset, .unset, .unset]) rfl ?_
    show Steps p.tables e below (T102.setTop (mkF m 32 #[.val (.int p0), .val (.int p1), .val (.int p2), .val (.int p3), .val (.int p4), .val (.int p5), .val (.int (5 : Int32)), .val (.ref b101), .val (.ref b102), .unset, .unset, .unset, .unset, .unset, .unset, .unset, .unset] [])) _
    refine XS.iloadN X102.here hx rfl (hb hby at_32) rfl ?_
    show Steps p.tables e below (T102.setTop (mkF m 33 #[.val (.int p0), .val (.int p1), .val (.int p2), .val (.int p3), .val (.int p4), .val (.int p5), .val (.int (5 : Int32)), .val (.ref b101), .val (.ref b102), .unset, .unset, .unset, .unset, .unset, .unset, .unset, .unset] [(.int p3)])) _
    refine XS.sipush X102.here hx rfl (hb hby at_33) ?_
    show Steps p.tables e below (T102.setTop (mkF m 36 #[.val (.int p0), .val (.int p1), .val (.int p2), .val (.int p3), .val (.int p4), .val (.int p5), .val (.int (5 : Int32)), .val (.ref b101), .val (.ref b102), .unset, .unset, .unset, .unset, .unset, .unset, .unset, .unset] [(.int (255 : Int32)), (.int p3)])) _
    refine XS.iand X102.here hx rfl (hb hby at_36) rfl ?_
    show Steps p.tables e below (T102.setTop (mkF m 37 #[.val (.int p0), .val (.int p1), .val (.int p2), .val (.int p3), .val (.int p4), .val (.int p5), .val (.int (5 : Int32)), .val (.ref b101), .val (.ref b102), .unset, .unset, .unset, .unset, .unset, .unset, .unset, .unset] [(.int (p3 &&& (255 : Int32)))])) _
    refine XS.i2c X102.here hx rfl (hb hby at_37) rfl ?_
    show Steps p.tables e below (T102.setTop (mkF m 38 #[.val (.int p0), .val (.int p1), .val (.int p2), .val (.int p3), .val (.int p4), .val (.int p5), .val (.int (5 : Int32)), .val (.ref b101), .val (.ref b102), .unset, .unset, .unset, .unset, .unset, .unset, .unset, .unset] [(.int ((p3 &&& (255 : Int32)).toUInt32.toUInt16.toUInt32.toInt32))])) _
    refine st103 _ ?_
    show Steps p.tables e below (T103.setTop (mkF m 41 #[.val (.int p0), .val (.int p1), .val (.int p2), .val (.int p3), .val (.int p4), .val (.int p5), .val (.int (5 : Int32)), .val (.ref b101), .val (.ref b102), .unset, .unset, .unset, .unset, .unset, .unset, .unset, .unset] [(.ref b103)])) _
    refine XS.astore X103.here hx rfl (hb hby at_41) rfl rfl (l' := #[.val (.int p0), .val (.int p1), .val (.int p2), .val (.int p3), .val (.int p4), .val (.int p5), .val (.int (5 : Int32)), .val (.ref b101), .val (.ref b102), .val (.ref b103), .unset, .unset, .unset, .unset, .unset, .unset, .unset]) rfl ?_
    show Steps p.tables e below (T103.setTop (mkF m 43 #[.val (.int p0), .val (.int p1), .val (.int p2), .val (.int p3), .val (.int p4), .val (.int p5), .val (.int (5 : Int32)), .val (.ref b101), .val (.ref b102), .val (.ref b103), .unset, .unset, .unset, .unset, .unset, .unset, .unset] [])) _
    refine XS.iload X103.here hx rfl (hb hby at_43) rfl ?_
    show Steps p.tables e below (T103.setTop (mkF m 45 #[.val (.int p0), .val (.int p1), .val (.int p2), .val (.int p3), .val (.int p4), .val (.int p5), .val (.int (5 : Int32)), .val (.ref b101), .val (.ref b102), .val (.ref b103), .unset, .unset, .unset, .unset, .unset, .unset, .unset] [(.int p4)])) _
    refine XS.sipush X103.here hx rfl (hb hby at_45) ?_
    show Steps p.tables e below (T103.setTop (mkF m 48 #[.val (.int p0), .val (.int p1), .val (.int p2), .val (.int p3), .val (.int p4), .val (.int p5), .val (.int (5 : Int32)), .val (.ref b101), .val (.ref b102), .val (.ref b103), .unset, .unset, .unset, .unset, .unset, .unset, .unset] [(.int (255 : Int32)), (.int p4)])) _
    refine XS.iand X103.here hx rfl (hb hby at_48) rfl ?_
    show Steps p.tables e below (T103.setTop (mkF m 49 #[.val (.int p0), .val (.int p1), .val (.int p2), .val (.int p3), .val (.int p4), .val (.int p5), .val (.int (5 : Int32)), .val (.ref b101), .val (.ref b102), .val (.ref b103), .unset, .unset, .unset, .unset, .unset, .unset, .unset] [(.int (p4 &&& (255 : Int32)))])) _
    refine XS.i2c X103.here hx rfl (hb hby at_49) rfl ?_
    show Steps p.tables e below (T103.setTop (mkF m 50 #[.val (.int p0), .val (.int p1), .val (.int p2), .val (.int p3), .val (.int p4), .val (.int p5), .val (.int (5 : Int32)), .val (.ref b101), .val (.ref b102), .val (.ref b103), .unset, .unset, .unset, .unset, .unset, .unset, .unset] [(.int ((p4 &&& (255 : Int32)).toUInt32.toUInt16.toUInt32.toInt32))])) _
    refine st105 _ ?_
    show Steps p.tables e below (T105.setTop (mkF m 53 #[.val (.int p0), .val (.int p1), .val (.int p2), .val (.int p3), .val (.int p4), .val (.int p5), .val (.int (5 : Int32)), .val (.ref b101), .val (.ref b102), .val (.ref b103), .unset, .unset, .unset, .unset, .unset, .unset, .unset] [(.ref b105)])) _
    refine XS.astore X105.here hx rfl (hb hby at_53) rfl rfl (l' := #[.val (.int p0), .val (.int p1), .val (.int p2), .val (.int p3), .val (.int p4), .val (.int p5), .val (.int (5 : Int32)), .val (.ref b101), .val (.ref b102), .val (.ref b103), .val (.ref b105), .unset, .unset, .unset, .unset, .unset, .unset]) rfl ?_
    show Steps p.tables e below (T105.setTop (mkF m 55 #[.val (.int p0), .val (.int p1), .val (.int p2), .val (.int p3), .val (.int p4), .val (.int p5), .val (.int (5 : Int32)), .val (.ref b101), .val (.ref b102), .val (.ref b103), .val (.ref b105), .unset, .unset, .unset, .unset, .unset, .unset] [])) _
    refine XS.iload X105.here hx rfl (hb hby at_55) rfl ?_
    show Steps p.tables e below (T105.setTop (mkF m 57 #[.val (.int p0), .val (.int p1), .val (.int p2), .val (.int p3), .val (.int p4), .val (.int p5), .val (.int (5 : Int32)), .val (.ref b101), .val (.ref b102), .val (.ref b103), .val (.ref b105), .unset, .unset, .unset, .unset, .unset, .unset] [(.int p5)])) _
    refine XS.sipush X105.here hx rfl (hb hby at_57) ?_
    show Steps p.tables e below (T105.setTop (mkF m 60 #[.val (.int p0), .val (.int p1), .val (.int p2), .val (.int p3), .val (.int p4), .val (.int p5), .val (.int (5 : Int32)), .val (.ref b101), .val (.ref b102), .val (.ref b103), .val (.ref b105), .unset, .unset, .unset, .unset, .unset, .unset] [(.int (255 : Int32)), (.int p5)])) _
    refine XS.iand X105.here hx rfl (hb hby at_60) rfl ?_
    show Steps p.tables e below (T105.setTop (mkF m 61 #[.val (.int p0), .val (.int p1), .val (.int p2), .val (.int p3), .val (.int p4), .val (.int p5), .val (.int (5 : Int32)), .val (.ref b101), .val (.ref b102), .val (.ref b103), .val (.ref b105), .unset, .unset, .unset, .unset, .unset, .unset] [(.int (p5 &&& (255 : Int32)))])) _
    refine XS.i2c X105.here hx rfl (hb hby at_61) rfl ?_
    show Steps p.tables e below (T105.setTop (mkF m 62 #[.val (.int p0), .val (.int p1), .val (.int p2), .val (.int p3), .val (.int p4), .val (.int p5), .val (.int (5 : Int32)), .val (.ref b101), .val (.ref b102), .val (.ref b103), .val (.ref b105), .unset, .unset, .unset, .unset, .unset, .unset] [(.int ((p5 &&& (255 : Int32)).toUInt32.toUInt16.toUInt32.toInt32))])) _
    refine st108 _ ?_
    show Steps p.tables e below (T108.setTop (mkF m 65 #[.val (.int p0), .val (.int p1), .val (.int p2), .val (.int p3), .val (.int p4), .val (.int p5), .val (.int (5 : Int32)), .val (.ref b101), .val (.ref b102), .val (.ref b103), .val (.ref b105), .unset, .unset, .unset, .unset, .unset, .unset] [(.ref b108)])) _
    refine XS.astore X108.here hx rfl (hb hby at_65) rfl rfl (l' := #[.val (.int p0), .val (.int p1), .val (.int p2), .val (.int p3), .val (.int p4), .val (.int p5), .val (.int (5 : Int32)), .val (.ref b101), .val (.ref b102), .val (.ref b103), .val (.ref b105), .val (.ref b108), .unset, .unset, .unset, .unset, .unset]) rfl ?_
    show Steps p.tables e below (T108.setTop (mkF m 67 #[.val (.int p0), .val (.int p1), .val (.int p2), .val (.int p3), .val (.int p4), .val (.int p5), .val (.int (5 : Int32)), .val (.ref b101), .val (.ref b102), .val (.ref b103), .val (.ref b105), .val (.ref b108), .unset, .unset, .unset, .unset, .unset] [])) _
    refine XS.iload X108.here hx rfl (hb hby at_67) rfl ?_
    show Steps p.tables e below (T108.setTop (mkF m 69 #[.val (.int p0), .val (.int p1), .val (.int p2), .val (.int p3), .val (.int p4), .val (.int p5), .val (.int (5 : Int32)), .val (.ref b101), .val (.ref b102), .val (.ref b103), .val (.ref b105), .val (.ref b108), .unset, .unset, .unset, .unset, .unset] [(.int (5 : Int32))])) _
    refine XS.aload X108.here hx rfl (hb hby at_69) rfl rfl ?_
    show Steps p.tables e below (T108.setTop (mkF m 71 #[.val (.int p0), .val (.int p1), .val (.int p2), .val (.int p3), .val (.int p4), .val (.int p5), .val (.int (5 : Int32)), .val (.ref b101), .val (.ref b102), .val (.ref b103), .val (.ref b105), .val (.ref b108), .unset, .unset, .unset, .unset, .unset] [(.ref b101), (.int (5 : Int32))])) _
    refine XS.aload X108.here hx rfl (hb hby at_71) rfl rfl ?_
    show Steps p.tables e below (T108.setTop (mkF m 73 #[.val (.int p0), .val (.int p1), .val (.int p2), .val (.int p3), .val (.int p4), .val (.int p5), .val (.int (5 : Int32)), .val (.ref b101), .val (.ref b102), .val (.ref b103), .val (.ref b105), .val (.ref b108), .unset, .unset, .unset, .unset, .unset] [(.ref b102), (.ref b101), (.int (5 : Int32))])) _
    refine XS.aload X108.here hx rfl (hb hby at_73) rfl rfl ?_
    show Steps p.tables e below (T108.setTop (mkF m 75 #[.val (.int p0), .val (.int p1), .val (.int p2), .val (.int p3), .val (.int p4), .val (.int p5), .val (.int (5 : Int32)), .val (.ref b101), .val (.ref b102), .val (.ref b103), .val (.ref b105), .val (.ref b108), .unset, .unset, .unset, .unset, .unset] [(.ref b103), (.ref b102), (.ref b101), (.int (5 : Int32))])) _
    refine XS.aload X108.here hx rfl (hb hby at_75) rfl rfl ?_
    show Steps p.tables e below (T108.setTop (mkF m 77 #[.val (.int p0), .val (.int p1), .val (.int p2), .val (.int p3), .val (.int p4), .val (.int p5), .val (.int (5 : Int32)), .val (.ref b101), .val (.ref b102), .val (.ref b103), .val (.ref b105), .val (.ref b108), .unset, .unset, .unset, .unset, .unset] [(.ref b105), (.ref b103), (.ref b102), (.ref b101), (.int (5 : Int32))])) _
    refine XS.aload X108.here hx rfl (hb hby at_77) rfl rfl ?_
    show Steps p.tables e below (T108.setTop (mkF m 79 #[.val (.int p0), .val (.int p1), .val (.int p2), .val (.int p3), .val (.int p4), .val (.int p5), .val (.int (5 : Int32)), .val (.ref b101), .val (.ref b102), .val (.ref b103), .val (.ref b105), .val (.ref b108), .unset, .unset, .unset, .unset, .unset] [(.ref b108), (.ref b105), (.ref b103), (.ref b102), (.ref b101), (.int (5 : Int32))])) _
    refine st116 _ ?_
    show Steps p.tables e below (T116.setTop (mkF m 82 #[.val (.int p0), .val (.int p1), .val (.int p2), .val (.int p3), .val (.int p4), .val (.int p5), .val (.int (5 : Int32)), .val (.ref b101), .val (.ref b102), .val (.ref b103), .val (.ref b105), .val (.ref b108), .unset, .unset, .unset, .unset, .unset] [(.ref b116)])) _
    refine XS.astore X116.here hx rfl (hb hby at_82) rfl rfl (l' := #[.val (.int p0), .val (.int p1), .val (.int p2), .val (.int p3), .val (.int p4), .val (.int p5), .val (.int (5 : Int32)), .val (.ref b101), .val (.ref b102), .val (.ref b103), .val (.ref b105), .val (.ref b108), .val (.ref b116), .unset, .unset, .unset, .unset]) rfl ?_
    show Steps p.tables e below (T116.setTop (mkF m 84 #[.val (.int p0), .val (.int p1), .val (.int p2), .val (.int p3), .val (.int p4), .val (.int p5), .val (.int (5 : Int32)), .val (.ref b101), .val (.ref b102), .val (.ref b103), .val (.ref b105), .val (.ref b108), .val (.ref b116), .unset, .unset, .unset, .unset] [])) _
    refine st117 _ ?_
    show Steps p.tables e below (T117.setTop (mkF m 87 #[.val (.int p0), .val (.int p1), .val (.int p2), .val (.int p3), .val (.int p4), .val (.int p5), .val (.int (5 : Int32)), .val (.ref b101), .val (.ref b102), .val (.ref b103), .val (.ref b105), .val (.ref b108), .val (.ref b116), .unset, .unset, .unset, .unset] [(.ref b117)])) _
    refine XS.dup X117.here hx rfl (hb hby at_87) rfl rfl ?_
    show Steps p.tables e below (T117.setTop (mkF m 88 #[.val (.int p0), .val (.int p1), .val (.int p2), .val (.int p3), .val (.int p4), .val (.int p5), .val (.int (5 : Int32)), .val (.ref b101), .val (.ref b102), .val (.ref b103), .val (.ref b105), .val (.ref b108), .val (.ref b116), .unset, .unset, .unset, .unset] [(.ref b117), (.ref b117)])) _
    refine XS.aload X117.here hx rfl (hb hby at_88) rfl rfl ?_
    show Steps p.tables e below (T117.setTop (mkF m 90 #[.val (.int p0), .val (.int p1), .val (.int p2), .val (.int p3), .val (.int p4), .val (.int p5), .val (.int (5 : Int32)), .val (.ref b101), .val (.ref b102), .val (.ref b103), .val (.ref b105), .val (.ref b108), .val (.ref b116), .unset, .unset, .unset, .unset] [(.ref b116), (.ref b117), (.ref b117)])) _
    refine st123.trans ?_
    show Steps p.tables e below (T123.setTop (mkF m 93 #[.val (.int p0), .val (.int p1), .val (.int p2), .val (.int p3), .val (.int p4), .val (.int p5), .val (.int (5 : Int32)), .val (.ref b101), .val (.ref b102), .val (.ref b103), .val (.ref b105), .val (.ref b108), .val (.ref b116), .unset, .unset, .unset, .unset] [(.ref b117)])) _
    refine XS.astore X123.here hx rfl (hb hby at_93) rfl rfl (l' := #[.val (.int p0), .val (.int p1), .val (.int p2), .val (.int p3), .val (.int p4), .val (.int p5), .val (.int (5 : Int32)), .val (.ref b101), .val (.ref b102), .val (.ref b103), .val (.ref b105), .val (.ref b108), .val (.ref b116), .val (.ref b117), .unset, .unset, .unset]) rfl ?_
    show Steps p.tables e below (T123.setTop (mkF m 95 #[.val (.int p0), .val (.int p1), .val (.int p2), .val (.int p3), .val (.int p4), .val (.int p5), .val (.int (5 : Int32)), .val (.ref b101), .val (.ref b102), .val (.ref b103), .val (.ref b105), .val (.ref b108), .val (.ref b116), .val (.ref b117), .unset, .unset, .unset] [])) _
    refine XS.aload X123.here hx rfl (hb hby at_95) rfl rfl ?_
    show Steps p.tables e below (T123.setTop (mkF m 97 #[.val (.int p0), .val (.int p1), .val (.int p2), .val (.int p3), .val (.int p4), .val (.int p5), .val (.int (5 : Int32)), .val (.ref b101), .val (.ref b102), .val (.ref b103), .val (.ref b105), .val (.ref b108), .val (.ref b116), .val (.ref b117), .unset, .unset, .unset] [(.ref b117)])) _
    refine st125.trans ?_
    show Steps p.tables e below (T125.setTop (mkF m 100 #[.val (.int p0), .val (.int p1), .val (.int p2), .val (.int p3), .val (.int p4), .val (.int p5), .val (.int (5 : Int32)), .val (.ref b101), .val (.ref b102), .val (.ref b103), .val (.ref b105), .val (.ref b108), .val (.ref b116), .val (.ref b117), .unset, .unset, .unset] [(.int (1 : Int32))])) _
    refine XS.ifYes X125.here hx rfl (pc0 := 100) (pc' := 105) rfl (hb hby at_100) rfl ((if0 _ _).trans (feq (by decide : ¬ (1 : Int32) = (0 : Int32))).2) (by decide) (by decide) ?_
    show Steps p.tables e below (T125.setTop (mkF m 105 #[.val (.int p0), .val (.int p1), .val (.int p2), .val (.int p3), .val (.int p4), .val (.int p5), .val (.int (5 : Int32)), .val (.ref b101), .val (.ref b102), .val (.ref b103), .val (.ref b105), .val (.ref b108), .val (.ref b116), .val (.ref b117), .unset, .unset, .unset] [])) _
    refine XS.aload X125.here hx rfl (hb hby at_105) rfl rfl ?_
    show Steps p.tables e below (T125.setTop (mkF m 107 #[.val (.int p0), .val (.int p1), .val (.int p2), .val (.int p3), .val (.int p4), .val (.int p5), .val (.int (5 : Int32)), .val (.ref b101), .val (.ref b102), .val (.ref b103), .val (.ref b105), .val (.ref b108), .val (.ref b116), .val (.ref b117), .unset, .unset, .unset] [(.ref b117)])) _
    refine st126.trans ?_
    show Steps p.tables e below (T126.setTop (mkF m 110 #[.val (.int p0), .val (.int p1), .val (.int p2), .val (.int p3), .val (.int p4), .val (.int p5), .val (.int (5 : Int32)), .val (.ref b101), .val (.ref b102), .val (.ref b103), .val (.ref b105), .val (.ref b108), .val (.ref b116), .val (.ref b117), .unset, .unset, .unset] [(.ref b101)])) _
    refine XS.astore X126.here hx rfl (hb hby at_110) rfl rfl (l' := #[.val (.int p0), .val (.int p1), .val (.int p2), .val (.int p3), .val (.int p4), .val (.int p5), .val (.int (5 : Int32)), .val (.ref b101), .val (.ref b102), .val (.ref b103), .val (.ref b105), .val (.ref b108), .val (.ref b116), .val (.ref b117), .val (.ref b101), .unset, .unset]) rfl ?_
    show Steps p.tables e below (T126.setTop (mkF m 112 #[.val (.int p0), .val (.int p1), .val (.int p2), .val (.int p3), .val (.int p4), .val (.int p5), .val (.int (5 : Int32)), .val (.ref b101), .val (.ref b102), .val (.ref b103), .val (.ref b105), .val (.ref b108), .val (.ref b116), .val (.ref b117), .val (.ref b101), .unset, .unset] [])) _
    refine XS.aload X126.here hx rfl (hb hby at_112) rfl rfl ?_
    show Steps p.tables e below (T126.setTop (mkF m 114 #[.val (.int p0), .val (.int p1), .val (.int p2), .val (.int p3), .val (.int p4), .val (.int p5), .val (.int (5 : Int32)), .val (.ref b101), .val (.ref b102), .val (.ref b103), .val (.ref b105), .val (.ref b108), .val (.ref b116), .val (.ref b117), .val (.ref b101), .unset, .unset] [(.ref b101)])) _
    refine XS.aload X126.here hx rfl (hb hby at_114) rfl rfl ?_
    show Steps p.tables e below (T126.setTop (mkF m 116 #[.val (.int p0), .val (.int p1), .val (.int p2), .val (.int p3), .val (.int p4), .val (.int p5), .val (.int (5 : Int32)), .val (.ref b101), .val (.ref b102), .val (.ref b103), .val (.ref b105), .val (.ref b108), .val (.ref b116), .val (.ref b117), .val (.ref b101), .unset, .unset] [(.ref b101), (.ref b101)])) _
    refine st127.trans ?_
    show Steps p.tables e below (T127.setTop (mkF m 119 #[.val (.int p0), .val (.int p1), .val (.int p2), .val (.int p3), .val (.int p4), .val (.int p5), .val (.int (5 : Int32)), .val (.ref b101), .val (.ref b102), .val (.ref b103), .val (.ref b105), .val (.ref b108), .val (.ref b116), .val (.ref b117), .val (.ref b101), .unset, .unset] [(.int (1 : Int32))])) _
    refine XS.ifYes X127.here hx rfl (pc0 := 119) (pc' := 124) rfl (hb hby at_119) rfl ((if0 _ _).trans (feq (by decide : ¬ (1 : Int32) = (0 : Int32))).2) (by decide) (by decide) ?_
    show Steps p.tables e below (T127.setTop (mkF m 124 #[.val (.int p0), .val (.int p1), .val (.int p2), .val (.int p3), .val (.int p4), .val (.int p5), .val (.int (5 : Int32)), .val (.ref b101), .val (.ref b102), .val (.ref b103), .val (.ref b105), .val (.ref b108), .val (.ref b116), .val (.ref b117), .val (.ref b101), .unset, .unset] [])) _
    refine XS.aload X127.here hx rfl (hb hby at_124) rfl rfl ?_
    show Steps p.tables e below (T127.setTop (mkF m 126 #[.val (.int p0), .val (.int p1), .val (.int p2), .val (.int p3), .val (.int p4), .val (.int p5), .val (.int (5 : Int32)), .val (.ref b101), .val (.ref b102), .val (.ref b103), .val (.ref b105), .val (.ref b108), .val (.ref b116), .val (.ref b117), .val (.ref b101), .unset, .unset] [(.ref b117)])) _
    refine st130.trans ?_
    show Steps p.tables e below (T130.setTop (mkF m 129 #[.val (.int p0), .val (.int p1), .val (.int p2), .val (.int p3), .val (.int p4), .val (.int p5), .val (.int (5 : Int32)), .val (.ref b101), .val (.ref b102), .val (.ref b103), .val (.ref b105), .val (.ref b108), .val (.ref b116), .val (.ref b117), .val (.ref b101), .unset, .unset] [(.int (1 : Int32))])) _
    refine XS.iload X130.here hx rfl (hb hby at_129) rfl ?_
    show Steps p.tables e below (T130.setTop (mkF m 131 #[.val (.int p0), .val (.int p1), .val (.int p2), .val (.int p3), .val (.int p4), .val (.int p5), .val (.int (5 : Int32)), .val (.ref b101), .val (.ref b102), .val (.ref b103), .val (.ref b105), .val (.ref b108), .val (.ref b116), .val (.ref b117), .val (.ref b101), .unset, .unset] [(.int (5 : Int32)), (.int (1 : Int32))])) _
    refine XS.iconst X130.here hx rfl (hb hby at_131) ?_
    show Steps p.tables e below (T130.setTop (mkF m 132 #[.val (.int p0), .val (.int p1), .val (.int p2), .val (.int p3), .val (.int p4), .val (.int p5), .val (.int (5 : Int32)), .val (.ref b101), .val (.ref b102), .val (.ref b103), .val (.ref b105), .val (.ref b108), .val (.ref b116), .val (.ref b117), .val (.ref b101), .unset, .unset] [(.int (2 : Int32)), (.int (5 : Int32)), (.int (1 : Int32))])) _
    refine XS.icmpNo X130.here hx rfl (hb hby at_132) rfl (tlt (by decide : (2 : Int32) < (5 : Int32))).2.2.2 ?_
    show Steps p.tables e below (T130.setTop (mkF m 135 #[.val (.int p0), .val (.int p1), .val (.int p2), .val (.int p3), .val (.int p4), .val (.int p5), .val (.int (5 : Int32)), .val (.ref b101), .val (.ref b102), .val (.ref b103), .val (.ref b105), .val (.ref b108), .val (.ref b116), .val (.ref b117), .val (.ref b101), .unset, .unset] [(.int (1 : Int32))])) _
    refine XS.iconst X130.here hx rfl (hb hby at_135) ?_
    show Steps p.tables e below (T130.setTop (mkF m 136 #[.val (.int p0), .val (.int p1), .val (.int p2), .val (.int p3), .val (.int p4), .val (.int p5), .val (.int (5 : Int32)), .val (.ref b101), .val (.ref b102), .val (.ref b103), .val (.ref b105), .val (.ref b108), .val (.ref b116), .val (.ref b117), .val (.ref b101), .unset, .unset] [(.int (1 : Int32)), (.int (1 : Int32))])) _
    refine XS.goto X130.here hx rfl (pc0 := 136) (pc' := 140) rfl (hb hby at_136) (by decide) (by decide) ?_
    show Steps p.tables e below (T130.setTop (mkF m 140 #[.val (.int p0), .val (.int p1), .val (.int p2), .val (.int p3), .val (.int p4), .val (.int p5), .val (.int (5 : Int32)), .val (.ref b101), .val (.ref b102), .val (.ref b103), .val (.ref b105), .val (.ref b108), .val (.ref b116), .val (.ref b117), .val (.ref b101), .unset, .unset] [(.int (1 : Int32)), (.int (1 : Int32))])) _
    refine XS.icmpYes X130.here hx rfl (pc0 := 140) (pc' := 145) rfl (hb hby at_140) rfl (teq rfl).1 (by decide) (by decide) ?_
    show Steps p.tables e below (T130.setTop (mkF m 145 #[.val (.int p0), .val (.int p1), .val (.int p2), .val (.int p3), .val (.int p4), .val (.int p5), .val (.int (5 : Int32)), .val (.ref b101), .val (.ref b102), .val (.ref b103), .val (.ref b105), .val (.ref b108), .val (.ref b116), .val (.ref b117), .val (.ref b101), .unset, .unset] [])) _
    refine XS.iload X130.here hx rfl (hb hby at_145) rfl ?_
    show Steps p.tables e below (T130.setTop (mkF m 147 #[.val (.int p0), .val (.int p1), .val (.int p2), .val (.int p3), .val (.int p4), .val (.int p5), .val (.int (5 : Int32)), .val (.ref b101), .val (.ref b102), .val (.ref b103), .val (.ref b105), .val (.ref b108), .val (.ref b116), .val (.ref b117), .val (.ref b101), .unset, .unset] [(.int (5 : Int32))])) _
    refine XS.iconst X130.here hx rfl (hb hby at_147) ?_
    show Steps p.tables e below (T130.setTop (mkF m 148 #[.val (.int p0), .val (.int p1), .val (.int p2), .val (.int p3), .val (.int p4), .val (.int p5), .val (.int (5 : Int32)), .val (.ref b101), .val (.ref b102), .val (.ref b103), .val (.ref b105), .val (.ref b108), .val (.ref b116), .val (.ref b117), .val (.ref b101), .unset, .unset] [(.int (2 : Int32)), (.int (5 : Int32))])) _
    refine XS.icmpNo X130.here hx rfl (hb hby at_148) rfl (flt (by decide : ¬ (5 : Int32) < (2 : Int32))).1 ?_
    show Steps p.tables e below (T130.setTop (mkF m 151 #[.val (.int p0), .val (.int p1), .val (.int p2), .val (.int p3), .val (.int p4), .val (.int p5), .val (.int (5 : Int32)), .val (.ref b101), .val (.ref b102), .val (.ref b103), .val (.ref b105), .val (.ref b108), .val (.ref b116), .val (.ref b117), .val (.ref b101), .unset, .unset] [])) _
    refine XS.aload X130.here hx rfl (hb hby at_151) rfl rfl ?_
    show Steps p.tables e below (T130.setTop (mkF m 153 #[.val (.int p0), .val (.int p1), .val (.int p2), .val (.int p3), .val (.int p4), .val (.int p5), .val (.int (5 : Int32)), .val (.ref b101), .val (.ref b102), .val (.ref b103), .val (.ref b105), .val (.ref b108), .val (.ref b116), .val (.ref b117), .val (.ref b101), .unset, .unset] [(.ref b117)])) _
    refine st131.trans ?_
    show Steps p.tables e below (T131.setTop (mkF m 156 #[.val (.int p0), .val (.int p1), .val (.int p2), .val (.int p3), .val (.int p4), .val (.int p5), .val (.int (5 : Int32)), .val (.ref b101), .val (.ref b102), .val (.ref b103), .val (.ref b105), .val (.ref b108), .val (.ref b116), .val (.ref b117), .val (.ref b101), .unset, .unset] [(.ref b102)])) _
    refine XS.aload X131.here hx rfl (hb hby at_156) rfl rfl ?_
    show Steps p.tables e below (T131.setTop (mkF m 158 #[.val (.int p0), .val (.int p1), .val (.int p2), .val (.int p3), .val (.int p4), .val (.int p5), .val (.int (5 : Int32)), .val (.ref b101), .val (.ref b102), .val (.ref b103), .val (.ref b105), .val (.ref b108), .val (.ref b116), .val (.ref b117), .val (.ref b101), .unset, .unset] [(.ref b102), (.ref b102)])) _
    refine st132.trans ?_
    show Steps p.tables e below (T132.setTop (mkF m 161 #[.val (.int p0), .val (.int p1), .val (.int p2), .val (.int p3), .val (.int p4), .val (.int p5), .val (.int (5 : Int32)), .val (.ref b101), .val (.ref b102), .val (.ref b103), .val (.ref b105), .val (.ref b108), .val (.ref b116), .val (.ref b117), .val (.ref b101), .unset, .unset] [(.int (1 : Int32))])) _
    refine XS.ifYes X132.here hx rfl (pc0 := 161) (pc' := 166) rfl (hb hby at_161) rfl ((if0 _ _).trans (feq (by decide : ¬ (1 : Int32) = (0 : Int32))).2) (by decide) (by decide) ?_
    show Steps p.tables e below (T132.setTop (mkF m 166 #[.val (.int p0), .val (.int p1), .val (.int p2), .val (.int p3), .val (.int p4), .val (.int p5), .val (.int (5 : Int32)), .val (.ref b101), .val (.ref b102), .val (.ref b103), .val (.ref b105), .val (.ref b108), .val (.ref b116), .val (.ref b117), .val (.ref b101), .unset, .unset] [])) _
    refine XS.iload X132.here hx rfl (hb hby at_166) rfl ?_
    show Steps p.tables e below (T132.setTop (mkF m 168 #[.val (.int p0), .val (.int p1), .val (.int p2), .val (.int p3), .val (.int p4), .val (.int p5), .val (.int (5 : Int32)), .val (.ref b101), .val (.ref b102), .val (.ref b103), .val (.ref b105), .val (.ref b108), .val (.ref b116), .val (.ref b117), .val (.ref b101), .unset, .unset] [(.int (5 : Int32))])) _
    refine XS.iconst X132.here hx rfl (hb hby at_168) ?_
    show Steps p.tables e below (T132.setTop (mkF m 169 #[.val (.int p0), .val (.int p1), .val (.int p2), .val (.int p3), .val (.int p4), .val (.int p5), .val (.int (5 : Int32)), .val (.ref b101), .val (.ref b102), .val (.ref b103), .val (.ref b105), .val (.ref b108), .val (.ref b116), .val (.ref b117), .val (.ref b101), .unset, .unset] [(.int (3 : Int32)), (.int (5 : Int32))])) _
    refine XS.icmpYes X132.here hx rfl (pc0 := 169) (pc' := 174) rfl (hb hby at_169) rfl (flt (by decide : ¬ (5 : Int32) < (3 : Int32))).2.1 (by decide) (by decide) ?_
    show Steps p.tables e below (T132.setTop (mkF m 174 #[.val (.int p0), .val (.int p1), .val (.int p2), .val (.int p3), .val (.int p4), .val (.int p5), .val (.int (5 : Int32)), .val (.ref b101), .val (.ref b102), .val (.ref b103), .val (.ref b105), .val (.ref b108), .val (.ref b116), .val (.ref b117), .val (.ref b101), .unset, .unset] [])) _
    refine XS.aload X132.here hx rfl (hb hby at_174) rfl rfl ?_
    show Steps p.tables e below (T132.setTop (mkF m 176 #[.val (.int p0), .val (.int p1), .val (.int p2), .val (.int p3), .val (.int p4), .val (.int p5), .val (.int (5 : Int32)), .val (.ref b101), .val (.ref b102), .val (.ref b103), .val (.ref b105), .val (.ref b108), .val (.ref b116), .val (.ref b117), .val (.ref b101), .unset, .unset] [(.ref b117)])) _
    refine st134.trans ?_
    show Steps p.tables e below (T134.setTop (mkF m 179 #[.val (.int p0), .val (.int p1), .val (.int p2), .val (.int p3), .val (.int p4), .val (.int p5), .val (.int (5 : Int32)), .val (.ref b101), .val (.ref b102), .val (.ref b103), .val (.ref b105), .val (.ref b108), .val (.ref b116), .val (.ref b117), .val (.ref b101), .unset, .unset] [(.ref b103)])) _
    refine XS.astore X134.here hx rfl (hb hby at_179) rfl rfl (l' := #[.val (.int p0), .val (.int p1), .val (.int p2), .val (.int p3), .val (.int p4), .val (.int p5), .val (.int (5 : Int32)), .val (.ref b101), .val (.ref b102), .val (.ref b103), .val (.ref b105), .val (.ref b108), .val (.ref b116), .val (.ref b117), .val (.ref b101), .val (.ref b103), .unset]) rfl ?_
    show Steps p.tables e below (T134.setTop (mkF m 181 #[.val (.int p0), .val (.int p1), .val (.int p2), .val (.int p3), .val (.int p4), .val (.int p5), .val (.int (5 : Int32)), .val (.ref b101), .val (.ref b102), .val (.ref b103), .val (.ref b105), .val (.ref b108), .val (.ref b116), .val (.ref b117), .val (.ref b101), .val (.ref b103), .unset] [])) _
    refine XS.aload X134.here hx rfl (hb hby at_181) rfl rfl ?_
    show Steps p.tables e below (T134.setTop (mkF m 183 #[.val (.int p0), .val (.int p1), .val (.int p2), .val (.int p3), .val (.int p4), .val (.int p5), .val (.int (5 : Int32)), .val (.ref b101), .val (.ref b102), .val (.ref b103), .val (.ref b105), .val (.ref b108), .val (.ref b116), .val (.ref b117), .val (.ref b101), .val (.ref b103), .unset] [(.ref b103)])) _
    refine XS.aload X134.here hx rfl (hb hby at_183) rfl rfl ?_
    show Steps p.tables e below (T134.setTop (mkF m 185 #[.val (.int p0), .val (.int p1), .val (.int p2), .val (.int p3), .val (.int p4), .val (.int p5), .val (.int (5 : Int32)), .val (.ref b101), .val (.ref b102), .val (.ref b103), .val (.ref b105), .val (.ref b108), .val (.ref b116), .val (.ref b117), .val (.ref b101), .val (.ref b103), .unset] [(.ref b103), (.ref b103)])) _
    refine st135.trans ?_
    show Steps p.tables e below (T135.setTop (mkF m 188 #[.val (.int p0), .val (.int p1), .val (.int p2), .val (.int p3), .val (.int p4), .val (.int p5), .val (.int (5 : Int32)), .val (.ref b101), .val (.ref b102), .val (.ref b103), .val (.ref b105), .val (.ref b108), .val (.ref b116), .val (.ref b117), .val (.ref b101), .val (.ref b103), .unset] [(.int (1 : Int32))])) _
    refine XS.ifYes X135.here hx rfl (pc0 := 188) (pc' := 193) rfl (hb hby at_188) rfl ((if0 _ _).trans (feq (by decide : ¬ (1 : Int32) = (0 : Int32))).2) (by decide) (by decide) ?_
    show Steps p.tables e below (T135.setTop (mkF m 193 #[.val (.int p0), .val (.int p1), .val (.int p2), .val (.int p3), .val (.int p4), .val (.int p5), .val (.int (5 : Int32)), .val (.ref b101), .val (.ref b102), .val (.ref b103), .val (.ref b105), .val (.ref b108), .val (.ref b116), .val (.ref b117), .val (.ref b101), .val (.ref b103), .unset] [])) _
    refine XS.aload X135.here hx rfl (hb hby at_193) rfl rfl ?_
    show Steps p.tables e below (T135.setTop (mkF m 195 #[.val (.int p0), .val (.int p1), .val (.int p2), .val (.int p3), .val (.int p4), .val (.int p5), .val (.int (5 : Int32)), .val (.ref b101), .val (.ref b102), .val (.ref b103), .val (.ref b105), .val (.ref b108), .val (.ref b116), .val (.ref b117), .val (.ref b101), .val (.ref b103), .unset] [(.ref b117)])) _
    refine st138.trans ?_
    show Steps p.tables e below (T138.setTop (mkF m 198 #[.val (.int p0), .val (.int p1), .val (.int p2), .val (.int p3), .val (.int p4), .val (.int p5), .val (.int (5 : Int32)), .val (.ref b101), .val (.ref b102), .val (.ref b103), .val (.ref b105), .val (.ref b108), .val (.ref b116), .val (.ref b117), .val (.ref b101), .val (.ref b103), .unset] [(.int (1 : Int32))])) _
    refine XS.iload X138.here hx rfl (hb hby at_198) rfl ?_
    show Steps p.tables e below (T138.setTop (mkF m 200 #[.val (.int p0), .val (.int p1), .val (.int p2), .val (.int p3), .val (.int p4), .val (.int p5), .val (.int (5 : Int32)), .val (.ref b101), .val (.ref b102), .val (.ref b103), .val (.ref b105), .val (.ref b108), .val (.ref b116), .val (.ref b117), .val (.ref b101), .val (.ref b103), .unset] [(.int (5 : Int32)), (.int (1 : Int32))])) _
    refine XS.iconst X138.here hx rfl (hb hby at_200) ?_
    show Steps p.tables e below (T138.setTop (mkF m 201 #[.val (.int p0), .val (.int p1), .val (.int p2), .val (.int p3), .val (.int p4), .val (.int p5), .val (.int (5 : Int32)), .val (.ref b101), .val (.ref b102), .val (.ref b103), .val (.ref b105), .val (.ref b108), .val (.ref b116), .val (.ref b117), .val (.ref b101), .val (.ref b103), .unset] [(.int (4 : Int32)), (.int (5 : Int32)), (.int (1 : Int32))])) _
    refine XS.icmpNo X138.here hx rfl (hb hby at_201) rfl (tlt (by decide : (4 : Int32) < (5 : Int32))).2.2.2 ?_
    show Steps p.tables e below (T138.setTop (mkF m 204 #[.val (.int p0), .val (.int p1), .val (.int p2), .val (.int p3), .val (.int p4), .val (.int p5), .val (.int (5 : Int32)), .val (.ref b101), .val (.ref b102), .val (.ref b103), .val (.ref b105), .val (.ref b108), .val (.ref b116), .val (.ref b117), .val (.ref b101), .val (.ref b103), .unset] [(.int (1 : Int32))])) _
    refine XS.iconst X138.here hx rfl (hb hby at_204) ?_
    show Steps p.tables e below (T138.setTop (mkF m 205 #[.val (.int p0), .val (.int p1), .val (.int p2), .val (.int p3), .val (.int p4), .val (.int p5), .val (.int (5 : Int32)), .val (.ref b101), .val (.ref b102), .val (.ref b103), .val (.ref b105), .val (.ref b108), .val (.ref b116), .val (.ref b117), .val (.ref b101), .val (.ref b103), .unset] [(.int (1 : Int32)), (.int (1 : Int32))])) _
    refine XS.goto X138.here hx rfl (pc0 := 205) (pc' := 209) rfl (hb hby at_205) (by decide) (by decide) ?_
    show Steps p.tables e below (T138.setTop (mkF m 209 #[.val (.int p0), .val (.int p1), .val (.int p2), .val (.int p3), .val (.int p4), .val (.int p5), .val (.int (5 : Int32)), .val (.ref b101), .val (.ref b102), .val (.ref b103), .val (.ref b105), .val (.ref b108), .val (.ref b116), .val (.ref b117), .val (.ref b101), .val (.ref b103), .unset] [(.int (1 : Int32)), (.int (1 : Int32))])) _
    refine XS.icmpYes X138.here hx rfl (pc0 := 209) (pc' := 214) rfl (hb hby at_209) rfl (teq rfl).1 (by decide) (by decide) ?_
    show Steps p.tables e below (T138.setTop (mkF m 214 #[.val (.int p0), .val (.int p1), .val (.int p2), .val (.int p3), .val (.int p4), .val (.int p5), .val (.int (5 : Int32)), .val (.ref b101), .val (.ref b102), .val (.ref b103), .val (.ref b105), .val (.ref b108), .val (.ref b116), .val (.ref b117), .val (.ref b101), .val (.ref b103), .unset] [])) _
    refine XS.iload X138.here hx rfl (hb hby at_214) rfl ?_
    show Steps p.tables e below (T138.setTop (mkF m 216 #[.val (.int p0), .val (.int p1), .val (.int p2), .val (.int p3), .val (.int p4), .val (.int p5), .val (.int (5 : Int32)), .val (.ref b101), .val (.ref b102), .val (.ref b103), .val (.ref b105), .val (.ref b108), .val (.ref b116), .val (.ref b117), .val (.ref b101), .val (.ref b103), .unset] [(.int (5 : Int32))])) _
    refine XS.iconst X138.here hx rfl (hb hby at_216) ?_
    show Steps p.tables e below (T138.setTop (mkF m 217 #[.val (.int p0), .val (.int p1), .val (.int p2), .val (.int p3), .val (.int p4), .val (.int p5), .val (.int (5 : Int32)), .val (.ref b101), .val (.ref b102), .val (.ref b103), .val (.ref b105), .val (.ref b108), .val (.ref b116), .val (.ref b117), .val (.ref b101), .val (.ref b103), .unset] [(.int (4 : Int32)), (.int (5 : Int32))])) _
    refine XS.icmpNo X138.here hx rfl (hb hby at_217) rfl (flt (by decide : ¬ (5 : Int32) < (4 : Int32))).1 ?_
    show Steps p.tables e below (T138.setTop (mkF m 220 #[.val (.int p0), .val (.int p1), .val (.int p2), .val (.int p3), .val (.int p4), .val (.int p5), .val (.int (5 : Int32)), .val (.ref b101), .val (.ref b102), .val (.ref b103), .val (.ref b105), .val (.ref b108), .val (.ref b116), .val (.ref b117), .val (.ref b101), .val (.ref b103), .unset] [])) _
    refine XS.aload X138.here hx rfl (hb hby at_220) rfl rfl ?_
    show Steps p.tables e below (T138.setTop (mkF m 222 #[.val (.int p0), .val (.int p1), .val (.int p2), .val (.int p3), .val (.int p4), .val (.int p5), .val (.int (5 : Int32)), .val (.ref b101), .val (.ref b102), .val (.ref b103), .val (.ref b105), .val (.ref b108), .val (.ref b116), .val (.ref b117), .val (.ref b101), .val (.ref b103), .unset] [(.ref b117)])) _
    refine st139.trans ?_
    show Steps p.tables e below (T139.setTop (mkF m 225 #[.val (.int p0), .val (.int p1), .val (.int p2), .val (.int p3), .val (.int p4), .val (.int p5), .val (.int (5 : Int32)), .val (.ref b101), .val (.ref b102), .val (.ref b103), .val (.ref b105), .val (.ref b108), .val (.ref b116), .val (.ref b117), .val (.ref b101), .val (.ref b103), .unset] [(.ref b105)])) _
    refine XS.aload X139.here hx rfl (hb hby at_225) rfl rfl ?_
    show Steps p.tables e below (T139.setTop (mkF m 227 #[.val (.int p0), .val (.int p1), .val (.int p2), .val (.int p3), .val (.int p4), .val (.int p5), .val (.int (5 : Int32)), .val (.ref b101), .val (.ref b102), .val (.ref b103), .val (.ref b105), .val (.ref b108), .val (.ref b116), .val (.ref b117), .val (.ref b101), .val (.ref b103), .unset] [(.ref b105), (.ref b105)])) _
    refine st140.trans ?_
    show Steps p.tables e below (T140.setTop (mkF m 230 #[.val (.int p0), .val (.int p1), .val (.int p2), .val (.int p3), .val (.int p4), .val (.int p5), .val (.int (5 : Int32)), .val (.ref b101), .val (.ref b102), .val (.ref b103), .val (.ref b105), .val (.ref b108), .val (.ref b116), .val (.ref b117), .val (.ref b101), .val (.ref b103), .unset] [(.int (1 : Int32))])) _
    refine XS.ifYes X140.here hx rfl (pc0 := 230) (pc' := 235) rfl (hb hby at_230) rfl ((if0 _ _).trans (feq (by decide : ¬ (1 : Int32) = (0 : Int32))).2) (by decide) (by decide) ?_
    show Steps p.tables e below (T140.setTop (mkF m 235 #[.val (.int p0), .val (.int p1), .val (.int p2), .val (.int p3), .val (.int p4), .val (.int p5), .val (.int (5 : Int32)), .val (.ref b101), .val (.ref b102), .val (.ref b103), .val (.ref b105), .val (.ref b108), .val (.ref b116), .val (.ref b117), .val (.ref b101), .val (.ref b103), .unset] [])) _
    refine XS.iload X140.here hx rfl (hb hby at_235) rfl ?_
    show Steps p.tables e below (T140.setTop (mkF m 237 #[.val (.int p0), .val (.int p1), .val (.int p2), .val (.int p3), .val (.int p4), .val (.int p5), .val (.int (5 : Int32)), .val (.ref b101), .val (.ref b102), .val (.ref b103), .val (.ref b105), .val (.ref b108), .val (.ref b116), .val (.ref b117), .val (.ref b101), .val (.ref b103), .unset] [(.int (5 : Int32))])) _
    refine XS.iconst X140.here hx rfl (hb hby at_237) ?_
    show Steps p.tables e below (T140.setTop (mkF m 238 #[.val (.int p0), .val (.int p1), .val (.int p2), .val (.int p3), .val (.int p4), .val (.int p5), .val (.int (5 : Int32)), .val (.ref b101), .val (.ref b102), .val (.ref b103), .val (.ref b105), .val (.ref b108), .val (.ref b116), .val (.ref b117), .val (.ref b101), .val (.ref b103), .unset] [(.int (5 : Int32)), (.int (5 : Int32))])) _
    refine XS.icmpYes X140.here hx rfl (pc0 := 238) (pc' := 243) rfl (hb hby at_238) rfl (flt (by decide : ¬ (5 : Int32) < (5 : Int32))).2.1 (by decide) (by decide) ?_
    show Steps p.tables e below (T140.setTop (mkF m 243 #[.val (.int p0), .val (.int p1), .val (.int p2), .val (.int p3), .val (.int p4), .val (.int p5), .val (.int (5 : Int32)), .val (.ref b101), .val (.ref b102), .val (.ref b103), .val (.ref b105), .val (.ref b108), .val (.ref b116), .val (.ref b117), .val (.ref b101), .val (.ref b103), .unset] [])) _
    refine XS.aload X140.here hx rfl (hb hby at_243) rfl rfl ?_
    show Steps p.tables e below (T140.setTop (mkF m 245 #[.val (.int p0), .val (.int p1), .val (.int p2), .val (.int p3), .val (.int p4), .val (.int p5), .val (.int (5 : Int32)), .val (.ref b101), .val (.ref b102), .val (.ref b103), .val (.ref b105), .val (.ref b108), .val (.ref b116), .val (.ref b117), .val (.ref b101), .val (.ref b103), .unset] [(.ref b117)])) _
    refine st142.trans ?_
    show Steps p.tables e below (T142.setTop (mkF m 248 #[.val (.int p0), .val (.int p1), .val (.int p2), .val (.int p3), .val (.int p4), .val (.int p5), .val (.int (5 : Int32)), .val (.ref b101), .val (.ref b102), .val (.ref b103), .val (.ref b105), .val (.ref b108), .val (.ref b116), .val (.ref b117), .val (.ref b101), .val (.ref b103), .unset] [(.ref b108)])) _
    refine XS.astore X142.here hx rfl (hb hby at_248) rfl rfl (l' := #[.val (.int p0), .val (.int p1), .val (.int p2), .val (.int p3), .val (.int p4), .val (.int p5), .val (.int (5 : Int32)), .val (.ref b101), .val (.ref b102), .val (.ref b103), .val (.ref b105), .val (.ref b108), .val (.ref b116), .val (.ref b117), .val (.ref b101), .val (.ref b103), .val (.ref b108)]) rfl ?_
    show Steps p.tables e below (T142.setTop (mkF m 250 #[.val (.int p0), .val (.int p1), .val (.int p2), .val (.int p3), .val (.int p4), .val (.int p5), .val (.int (5 : Int32)), .val (.ref b101), .val (.ref b102), .val (.ref b103), .val (.ref b105), .val (.ref b108), .val (.ref b116), .val (.ref b117), .val (.ref b101), .val (.ref b103), .val (.ref b108)] [])) _
    refine XS.aload X142.here hx rfl (hb hby at_250) rfl rfl ?_
    show Steps p.tables e below (T142.setTop (mkF m 252 #[.val (.int p0), .val (.int p1), .val (.int p2), .val (.int p3), .val (.int p4), .val (.int p5), .val (.int (5 : Int32)), .val (.ref b101), .val (.ref b102), .val (.ref b103), .val (.ref b105), .val (.ref b108), .val (.ref b116), .val (.ref b117), .val (.ref b101), .val (.ref b103), .val (.ref b108)] [(.ref b108)])) _
    refine XS.aload X142.here hx rfl (hb hby at_252) rfl rfl ?_
    show Steps p.tables e below (T142.setTop (mkF m 254 #[.val (.int p0), .val (.int p1), .val (.int p2), .val (.int p3), .val (.int p4), .val (.int p5), .val (.int (5 : Int32)), .val (.ref b101), .val (.ref b102), .val (.ref b103), .val (.ref b105), .val (.ref b108), .val (.ref b116), .val (.ref b117), .val (.ref b101), .val (.ref b103), .val (.ref b108)] [(.ref b108), (.ref b108)])) _
    refine st143.trans ?_
    show Steps p.tables e below (T143.setTop (mkF m 257 #[.val (.int p0), .val (.int p1), .val (.int p2), .val (.int p3), .val (.int p4), .val (.int p5), .val (.int (5 : Int32)), .val (.ref b101), .val (.ref b102), .val (.ref b103), .val (.ref b105), .val (.ref b108), .val (.ref b116), .val (.ref b117), .val (.ref b101), .val (.ref b103), .val (.ref b108)] [(.int (1 : Int32))])) _
    refine XS.ifYes X143.here hx rfl (pc0 := 257) (pc' := 262) rfl (hb hby at_257) rfl ((if0 _ _).trans (feq (by decide : ¬ (1 : Int32) = (0 : Int32))).2) (by decide) (by decide) ?_
    show Steps p.tables e below (T143.setTop (mkF m 262 #[.val (.int p0), .val (.int p1), .val (.int p2), .val (.int p3), .val (.int p4), .val (.int p5), .val (.int (5 : Int32)), .val (.ref b101), .val (.ref b102), .val (.ref b103), .val (.ref b105), .val (.ref b108), .val (.ref b116), .val (.ref b117), .val (.ref b101), .val (.ref b103), .val (.ref b108)] [])) _
    refine XS.aload X143.here hx rfl (hb hby at_262) rfl rfl ?_
    show Steps p.tables e below (T143.setTop (mkF m 264 #[.val (.int p0), .val (.int p1), .val (.int p2), .val (.int p3), .val (.int p4), .val (.int p5), .val (.int (5 : Int32)), .val (.ref b101), .val (.ref b102), .val (.ref b103), .val (.ref b105), .val (.ref b108), .val (.ref b116), .val (.ref b117), .val (.ref b101), .val (.ref b103), .val (.ref b108)] [(.ref b117)])) _
    refine st146.trans ?_
    show Steps p.tables e below (T146.setTop (mkF m 267 #[.val (.int p0), .val (.int p1), .val (.int p2), .val (.int p3), .val (.int p4), .val (.int p5), .val (.int (5 : Int32)), .val (.ref b101), .val (.ref b102), .val (.ref b103), .val (.ref b105), .val (.ref b108), .val (.ref b116), .val (.ref b117), .val (.ref b101), .val (.ref b103), .val (.ref b108)] [(.int (0 : Int32))])) _
    refine XS.ifNo X146.here hx rfl (hb hby at_267) rfl ((if0 _ _).trans (teq rfl).2) ?_
    show Steps p.tables e below (T146.setTop (mkF m 270 #[.val (.int p0), .val (.int p1), .val (.int p2), .val (.int p3), .val (.int p4), .val (.int p5), .val (.int (5 : Int32)), .val (.ref b101), .val (.ref b102), .val (.ref b103), .val (.ref b105), .val (.ref b108), .val (.ref b116), .val (.ref b117), .val (.ref b101), .val (.ref b103), .val (.ref b108)] [])) _
    refine XS.iconst X146.here hx rfl (hb hby at_270) ?_
    show Steps p.tables e below (T146.setTop (mkF m 271 #[.val (.int p0), .val (.int p1), .val (.int p2), .val (.int p3), .val (.int p4), .val (.int p5), .val (.int (5 : Int32)), .val (.ref b101), .val (.ref b102), .val (.ref b103), .val (.ref b105), .val (.ref b108), .val (.ref b116), .val (.ref b117), .val (.ref b101), .val (.ref b103), .val (.ref b108)] [(.int (1 : Int32))])) _
    refine XS.goto X146.here hx rfl (pc0 := 271) (pc' := 275) rfl (hb hby at_271) (by decide) (by decide) ?_
    show Steps p.tables e below (T146.setTop (mkF m 275 #[.val (.int p0), .val (.int p1), .val (.int p2), .val (.int p3), .val (.int p4), .val (.int p5), .val (.int (5 : Int32)), .val (.ref b101), .val (.ref b102), .val (.ref b103), .val (.ref b105), .val (.ref b108), .val (.ref b116), .val (.ref b117), .val (.ref b101), .val (.ref b103), .val (.ref b108)] [(.int (1 : Int32))])) _
    exact retN X146 hx (t := .boolean) Bd.returns (by simp) (hb hby at_275) hr
  · show QLaw n0 _ T146.heap _
    rw [e146]
    exact ⟨rfl, N146⟩
set_option maxRecDepth 65536 in
set_option maxHeartbeats 40000000 in
theorem rm0 (l : Launch) (Z : State) (a0 : Array Value) (hw : ∀ d ∈ tables_1, d.before a0 Z = true) (ws : List Jvm.Cond) (p0 : Int32) (p1 : Int32) (p2 : Int32) (p3 : Int32) (p4 : Int32) (p5 : Int32) (cs : Int32) (h0 : Heap) (n0 : Nat) (Z0 : n0 ≤ h0.size) (Sc : Sta Z Z.heap "java/lang/String" "COMPACT_STRINGS" "Z" (.int cs)) (hcs : ¬ (cs = (0 : Int32))) (O0 : Old Z n0 h0) :
    MetFree l x (head1 (Jvm.Cond.code x code maxLocals ret :: ws) room_1) (fun a U => a = #[(.int p0), (.int p1), (.int p2), (.int p3), (.int p4), (.int p5)] ∧ Z.Warmed39 U.vm ∧ U.heap = h0) (fun _ _ _ _ _ => True) (fun _ U o U' => ∃ v L, o = .returned v ∧ QLaw n0 v U'.heap L ∧ FrameEnd U o U' L room_1.cells room_1.slots) := by
  rcases own_n5 p0 with hN | hN | hN | hN | hN
  · exact rm0_1 l Z a0 hw ws p0 p1 p2 p3 p4 p5 cs h0 n0 Z0 Sc hcs O0 hN
  · exact rm0_2 l Z a0 hw ws p0 p1 p2 p3 p4 p5 cs h0 n0 Z0 Sc hcs O0 hN
  · exact rm0_3 l Z a0 hw ws p0 p1 p2 p3 p4 p5 cs h0 n0 Z0 Sc hcs O0 hN
  · exact rm0_4 l Z a0 hw ws p0 p1 p2 p3 p4 p5 cs h0 n0 Z0 Sc hcs O0 hN
  · exact rm0_5 l Z a0 hw ws p0 p1 p2 p3 p4 p5 cs h0 n0 Z0 Sc hcs O0 hN
set_option maxRecDepth 65536 in
set_option maxHeartbeats 40000000 in
theorem comes_1 {Post : Tables → Env → Array Value → State → Outcome → State → Prop} (hpost : ∀ tb e args s v u, (limb_1_1.after args s (.returned v) u = true ∧ limb_1_2.after args s (.returned v) u = true ∧ True) → FrameEnd s (.returned v) u (Jvm.fieldLocs frame_1_writes args s ++ Jvm.arrayLocs frame_1_arrays args s ++ Jvm.staticLocs frame_1_statics s) 32 192 → Post tb e args s (.returned v) u) :
    ArmFor flags0 classFile x code maxLocals ret World_1 tables_1 room_1 Calls_1 rest_1 Pre_1 Post := by
  intro l hfl _ _ p e ha hc hk s m args below hf hA hF happ hP
  obtain ⟨hcalls, hrest, hpre⟩ := hP
  obtain ⟨-, -, -, hnamed, -, -, -, hat⟩ := (Spec.applies_iff hf).mp happ
  obtain ⟨hg, hn⟩ := and_e (Cond.before_iff.mp (show (Jvm.Cond.and given_1 narrow_1).before args s = true from hpre))
  obtain ⟨hcnt, hg0⟩ := and_e hg
  obtain ⟨ha0, hg1⟩ := and_e hg0
  obtain ⟨ha1, hg2⟩ := and_e hg1
  obtain ⟨ha2, hg3⟩ := and_e hg2
  obtain ⟨ha3, hg4⟩ := and_e hg3
  obtain ⟨ha4, hg5⟩ := and_e hg4
  have ha5 := hg5
  obtain ⟨w0, w1, w2, w3, w4, w5, rfl⟩ : ∃ w0 w1 w2 w3 w4 w5 : Value, args = #[w0, w1, w2, w3, w4, w5] := by
    have hs : args.size = 6 := by simpa [Cond.value, given_1] using hcnt
    obtain ⟨L⟩ := args
    match L, hs with
    | [w0, w1, w2, w3, w4, w5], _ => exact ⟨w0, w1, w2, w3, w4, w5, rfl⟩
  have hw := fun d (hd : d ∈ tables_1) => atoms_spec (ws := Jvm.Cond.code x code maxLocals ret :: tables_1) hat d (List.mem_cons_of_mem _ hd)
  have hfit : Fit s := fun {y c} hc i hi => by
    obtain ⟨ha, rfl⟩ := Array.getElem?_eq_some_iff.mp hc
    have q := List.all_eq_true.mp ((Array.all_eq_true_iff_forall_mem.mp hF) _ (Array.getElem_mem ha)) i (List.mem_range.mpr hi)
    simpa [Array.getElem?_eq_getElem hi] using q
  obtain ⟨hsets, hown0⟩ := atoms_of _ (rest_1_c_eq ▸ (show rest_1_c.before _ s = true from hrest))
  obtain ⟨i0, ei0⟩ := is_v ha0
  obtain rfl : w0 = (.int i0) := Option.some.inj ei0
  obtain ⟨i1, ei1⟩ := is_v ha1
  obtain rfl : w1 = (.int i1) := Option.some.inj ei1
  obtain ⟨i2, ei2⟩ := is_v ha2
  obtain rfl : w2 = (.int i2) := Option.some.inj ei2
  obtain ⟨i3, ei3⟩ := is_v ha3
  obtain rfl : w3 = (.int i3) := Option.some.inj ei3
  obtain ⟨i4, ei4⟩ := is_v ha4
  obtain rfl : w4 = (.int i4) := Option.some.inj ei4
  obtain ⟨i5, ei5⟩ := is_v ha5
  obtain rfl : w5 = (.int i5) := Option.some.inj ei5
  have nz := not_v (Cond.before_iff.mp (hsets _ (List.mem_of_getElem? (i := 2) rfl)))
  obtain ⟨cs, ecs⟩ := is_v (Cond.before_iff.mp (hsets _ (List.mem_of_getElem? (i := 1) rfl)))
  have Sc : Sta s s.heap "java/lang/String" "COMPACT_STRINGS" "Z" (.int cs) := Sta.start ecs (Or.inl (hsets _ (List.mem_of_getElem? (i := 0) rfl)))
  have hcs : ¬ (cs = (0 : Int32)) := gotF (Cond.eq_ints ecs (Term.int_eval (0))) nz
  obtain ⟨n, o, h1, h2, h3, _, L, rfl, ⟨rfl, N⟩, hq⟩ := rm0 l s _ hw tables_1 i0 i1 i2 i3 i4 i5 cs s.heap s.heap.size (Nat.le_refl _) Sc hcs (Old.start s) p e ha hc hk s m _ below hf ((Spec.applies_iff_loose hf).mp happ).1 ⟨rfl, State.Warmed39.refl s, rfl⟩ trivial
  refine ⟨n, _, h1, h2, h3, hpost _ _ _ _ _ _ ⟨Cond.after_iff.mpr rfl, Cond.after_iff.mpr (eq_i res_at (Term.int_eval (1)) rfl), trivial⟩ ⟨hq.1, hq.2.1, (hq.2.2.sift fun y hy => Or.inr (N y hy)).mono (by decide) (by decide)⟩⟩
theorem main_1_1 : Claimed_1_1 := comes_1 fun _ _ _ _ _ _ h hF => ⟨h.1, hF⟩
theorem main_1_2 : Claimed_1_2 := comes_1 fun _ _ _ _ _ _ h hF => ⟨h.2.1, hF⟩
end Jvm.Pilot.@@N@@
namespace Jvm.Pilot.@@N@@
open Jvm Jvm.ClassFile Sem Op Lib Jvm.Free Jvm.Stand Jvm.Pilot.@@N@@.Jvm.D
/-! MADE BY PROGRAM (witnessworld.py) out of the Statement's table words and the real class files: 18 classes; the members and pool entries that the words name. The judged class is class 1, her method 2. -/
namespace start1
open Jvm.ClassFile
def u (s : String) : CpInfo := .utf8 (stringToUtf16 s)
/-- a pool by its gaps: so many unusable entries, then the entry; so many at the end -/
def gap : Nat → List CpInfo → List CpInfo
  | 0, r => r
  | n + 1, r => .unusable :: gap n r
def poolList (es : List (Nat × CpInfo)) (last : Nat) : List CpInfo := es.foldr (fun e r => gap e.1 (e.2 :: r)) (gap last [])
def pool (es : List (Nat × CpInfo)) (last : Nat) : Array CpInfo := ⟨poolList es last⟩
def fileOf (pool : Array CpInfo) (this : Nat) (attrs : Array Attribute := #[]) (ms : Array MethodInfo := #[]) (fl : Nat := 33) (sup : Nat := 0) (ifs : Array Nat := #[]) (fds : Array FieldInfo := #[]) : ClassFile where
  minorVersion := 0
  majorVersion := 65
  constantPool := pool
  accessFlags := fl
  thisClass := this
  superClass := sup
  interfaces := ifs
  fields := fds
  methods := ms
  attributes := attrs
def plain (name : String) (sup : Option ClassId) : Class where
  name := name
  kind := .ordinary
  loader := none
  accessFlags := 33
  super := sup
  interfaces := #[]
  cf := none
  fields := #[]
  methods := #[]
  instanceTypes := #[]
  staticTypes := #[]
  resolved := #[]
  callSites := []
  init := .initialized
  statics := none
  mirror := none

def pool0 : Array CpInfo := pool [(5, u "<init>"), (0, u "()V"), (1, .class_ 10), (1, u "java/lang/Object")] 113

def k0c0 : Code := { maxStack := 0, maxLocals := 1, code := object_method_1_code, exceptionTable := #[], attributes := #[] }
def k0m0 : Method := { name := "<init>", desc := "()V", sig := { parameters := [], returnType := none }, accessFlags := 1, code := some k0c0 }
/-- java/lang/Object -/
def k0 : Class := { plain "java/lang/Object" none with
  accessFlags := 33
  interfaces := #[]
  cf := some (fileOf pool0 8 #[] #[{ accessFlags := 1, nameIndex := 5, descriptorIndex := 6, attributes := #[] }] 33 0 #[] #[])
  fields := #[]
  methods := #[k0m0]
  instanceTypes := #[]
  staticTypes := #[]
  resolved := Array.replicate 124 none
  statics := none }

def pool1 : Array CpInfo := pool [(2, .class_ 4), (1, u "java/lang/Object"), (0, u "<init>"), (0, u "()V"), (0, .class_ 8), (0, u "java/lang/String"), (0, .integer 2147483647), (0, .methodref 7 11), (0, .nameAndType 12 13), (0, u "valueOf"), (0, u "(C)Ljava/lang/String;"), (0, .methodref 15 16), (0, .class_ 17), (0, .nameAndType 18 19), (0, u "com/example/seglport/seglport/options/OptionReaderNextPinLaw"), (0, u "make"), (0, u "(ILjava/lang/String;Ljava/lang/String;Ljava/lang/String;Ljava/lang/String;Ljava/lang/String;)[Ljava/lang/String;"), (0, .class_ 21), (0, u "com/example/seglport/seglport/options/OptionReader"), (0, .methodref 20 23), (0, .nameAndType 5 24), (0, u "([Ljava/lang/String;)V"), (0, .methodref 20 26), (0, .nameAndType 27 28), (0, u "hasNext"), (0, u "()Z"), (0, .methodref 20 30), (0, .nameAndType 31 32), (0, u "next"), (0, u "()Ljava/lang/String;"), (0, .methodref 7 34), (0, .nameAndType 35 36), (0, u "equals"), (0, u "(Ljava/lang/Object;)Z"), (0, .methodref 20 38), (0, .nameAndType 39 32), (0, u "value"), (3, u "law"), (0, u "(IIIIII)Z")] 4

def k1m0 : Method := { name := "<init>", desc := "()V", sig := { parameters := [], returnType := none }, accessFlags := 1, code := none }
def k1c1 : Code := { maxStack := 4, maxLocals := 6, code := method_2_code, exceptionTable := #[], attributes := #[] }
def k1m1 : Method := { name := "make", desc := "(ILjava/lang/String;Ljava/lang/String;Ljava/lang/String;Ljava/lang/String;Ljava/lang/String;)[Ljava/lang/String;", sig := { parameters := [.int, (.object "java/lang/String"), (.object "java/lang/String"), (.object "java/lang/String"), (.object "java/lang/String"), (.object "java/lang/String")], returnType := some (.array (.object "java/lang/String")) }, accessFlags := 10, code := some k1c1 }
def k1c2 : Code := { maxStack := 6, maxLocals := 17, code := code, exceptionTable := #[], attributes := #[] }
def k1m2 : Method := { name := "law", desc := "(IIIIII)Z", sig := { parameters := [.int, .int, .int, .int, .int, .int], returnType := some .boolean }, accessFlags := 9, code := some k1c2 }
/-- com/example/seglport/seglport/options/OptionReaderNextPinLaw -/
def k1 : Class := { plain "com/example/seglport/seglport/options/OptionReaderNextPinLaw" (some 0) with
  accessFlags := 49
  interfaces := #[]
  cf := some (fileOf pool1 15 #[] #[{ accessFlags := 1, nameIndex := 5, descriptorIndex := 6, attributes := #[] }, { accessFlags := 10, nameIndex := 18, descriptorIndex := 19, attributes := #[] }, { accessFlags := 9, nameIndex := 43, descriptorIndex := 44, attributes := #[] }] 49 2 #[] #[])
  fields := #[]
  methods := #[k1m0, k1m1, k1m2]
  instanceTypes := #[]
  staticTypes := #[]
  resolved := Array.replicate 49 none
  statics := none }

def pool2 : Array CpInfo := pool [(1, .class_ 2), (0, u "java/io/Serializable"), (0, .class_ 4), (0, u "java/lang/Object")] 2

/-- java/io/Serializable -/
def k2 : Class := { plain "java/io/Serializable" (some 0) with
  accessFlags := 1537
  interfaces := #[]
  cf := some (fileOf pool2 1 #[] #[] 1537 3 #[] #[])
  fields := #[]
  methods := #[]
  instanceTypes := #[]
  staticTypes := #[]
  resolved := Array.replicate 7 none
  statics := none }

def pool3 : Array CpInfo := pool [(1, .class_ 2), (0, u "java/lang/Comparable"), (0, .class_ 4), (0, u "java/lang/Object")] 7

/-- java/lang/Comparable -/
def k3 : Class := { plain "java/lang/Comparable" (some 0) with
  accessFlags := 1537
  interfaces := #[]
  cf := some (fileOf pool3 1 #[] #[] 1537 3 #[] #[])
  fields := #[]
  methods := #[]
  instanceTypes := #[]
  staticTypes := #[]
  resolved := Array.replicate 12 none
  statics := none }

def pool4 : Array CpInfo := pool [(2, .class_ 4), (1, u "java/lang/CharSequence"), (42, .class_ 48), (0, u "java/lang/CharSequence$1CodePointIterator"), (10, .class_ 60), (0, u "java/lang/CharSequence$1CharIterator"), (5, .class_ 67), (0, u "java/lang/Object")] 63

/-- java/lang/CharSequence -/
def k4 : Class := { plain "java/lang/CharSequence" (some 0) with
  accessFlags := 1537
  interfaces := #[]
  cf := some (fileOf pool4 2 #[.nestMembers #[47, 59]] #[] 1537 66 #[] #[])
  fields := #[]
  methods := #[]
  instanceTypes := #[]
  staticTypes := #[]
  resolved := Array.replicate 131 none
  statics := none }

def pool5 : Array CpInfo := pool [(1, .class_ 2), (0, u "java/lang/constant/Constable"), (0, .class_ 4), (0, u "java/lang/Object")] 6

/-- java/lang/constant/Constable -/
def k5 : Class := { plain "java/lang/constant/Constable" (some 0) with
  accessFlags := 1537
  interfaces := #[]
  cf := some (fileOf pool5 1 #[] #[] 1537 3 #[] #[])
  fields := #[]
  methods := #[]
  instanceTypes := #[]
  staticTypes := #[]
  resolved := Array.replicate 11 none
  statics := none }

def pool6 : Array CpInfo := pool [(1, .class_ 2), (0, u "java/lang/constant/ConstantDesc"), (0, .class_ 4), (0, u "java/lang/Object")] 32

/-- java/lang/constant/ConstantDesc -/
def k6 : Class := { plain "java/lang/constant/ConstantDesc" (some 0) with
  accessFlags := 1537
  interfaces := #[]
  cf := some (fileOf pool6 1 #[] #[] 1537 3 #[] #[])
  fields := #[]
  methods := #[]
  instanceTypes := #[]
  staticTypes := #[]
  resolved := Array.replicate 37 none
  statics := none }

def pool7 : Array CpInfo := pool [(1, .methodref 2 3), (0, .class_ 4), (0, .nameAndType 5 6), (0, u "java/lang/Object"), (0, u "<init>"), (0, u "()V"), (2, .fieldref 10 11), (0, .class_ 12), (0, .nameAndType 13 14), (0, u "java/lang/String"), (0, u "value"), (0, u "[B"), (0, .fieldref 10 16), (0, .nameAndType 17 18), (0, u "coder"), (0, u "B"), (2, u "hash"), (0, u "I"), (2, u "hashIsZero"), (0, u "Z"), (11, .fieldref 10 39), (0, .nameAndType 40 26), (0, u "COMPACT_STRINGS"), (12, u "toBytes"), (53, .class_ 109), (1, u "java/lang/StringLatin1"), (99, .methodref 10 210), (0, .nameAndType 5 211), (0, u "([BB)V"), (157, u "(C)Z"), (173, u "equals"), (29, u "(Ljava/lang/Object;)Z"), (1, .class_ 576), (0, u "java/lang/CharSequence"), (22, u "CASE_INSENSITIVE_ORDER"), (0, u "Ljava/util/Comparator;"), (181, u "valueOf"), (0, u "(C)Ljava/lang/String;"), (231, .methodref 107 1016), (0, .nameAndType 1017 369), (0, u "canEncode"), (0, .methodref 107 1019), (0, .nameAndType 53 1020), (0, u "(C)[B"), (80, u "serialPersistentFields"), (0, u "[Ljava/io/ObjectStreamField;"), (0, .class_ 1104), (0, u "java/lang/String$CaseInsensitiveComparator"), (1, .class_ 1107), (0, u "java/io/Serializable"), (0, .class_ 1109), (0, u "java/lang/Comparable"), (0, .class_ 1111), (0, u "java/lang/constant/Constable"), (0, .class_ 1113), (0, u "java/lang/constant/ConstantDesc"), (2, u "serialVersionUID"), (0, u "J"), (3, u "REPL"), (0, u "C"), (2, u "LATIN1"), (1, u "UTF16")] 323

def k7m0 : Method := { name := "<init>", desc := "()V", sig := { parameters := [], returnType := none }, accessFlags := 1, code := none }
def k7c1 : Code := { maxStack := 2, maxLocals := 3, code := jdk_42_method_66_code, exceptionTable := #[], attributes := #[] }
def k7m1 : Method := { name := "equals", desc := "(Ljava/lang/Object;)Z", sig := { parameters := [(.object "java/lang/Object")], returnType := some .boolean }, accessFlags := 1, code := some k7c1 }
def k7c2 : Code := { maxStack := 4, maxLocals := 1, code := jdk_42_method_139_code, exceptionTable := #[], attributes := #[] }
def k7m2 : Method := { name := "valueOf", desc := "(C)Ljava/lang/String;", sig := { parameters := [.char], returnType := some (.object "java/lang/String") }, accessFlags := 9, code := some k7c2 }
def k7c3 : Code := { maxStack := 2, maxLocals := 3, code := jdk_42_method_151_code, exceptionTable := #[], attributes := #[] }
def k7m3 : Method := { name := "<init>", desc := "([BB)V", sig := { parameters := [(.array .byte), .byte], returnType := none }, accessFlags := 0, code := some k7c3 }
/-- java/lang/String -/
def k7 : Class := { plain "java/lang/String" (some 0) with
  accessFlags := 49
  interfaces := #[2, 3, 4, 5, 6]
  cf := some (fileOf pool7 10 #[.nestMembers #[1103]] #[{ accessFlags := 1, nameIndex := 5, descriptorIndex := 6, attributes := #[] }, { accessFlags := 1, nameIndex := 543, descriptorIndex := 573, attributes := #[] }, { accessFlags := 9, nameIndex := 782, descriptorIndex := 783, attributes := #[] }, { accessFlags := 0, nameIndex := 5, descriptorIndex := 211, attributes := #[] }] 49 2 #[1106, 1108, 575, 1110, 1112] #[{ accessFlags := 18, nameIndex := 13, descriptorIndex := 14, attributes := #[] }, { accessFlags := 18, nameIndex := 17, descriptorIndex := 18, attributes := #[] }, { accessFlags := 2, nameIndex := 21, descriptorIndex := 22, attributes := #[] }, { accessFlags := 2, nameIndex := 25, descriptorIndex := 26, attributes := #[] }, { accessFlags := 26, nameIndex := 1116, descriptorIndex := 1117, attributes := #[] }, { accessFlags := 24, nameIndex := 40, descriptorIndex := 26, attributes := #[] }, { accessFlags := 26, nameIndex := 1101, descriptorIndex := 1102, attributes := #[] }, { accessFlags := 26, nameIndex := 1121, descriptorIndex := 1122, attributes := #[] }, { accessFlags := 25, nameIndex := 599, descriptorIndex := 600, attributes := #[] }, { accessFlags := 24, nameIndex := 1125, descriptorIndex := 18, attributes := #[] }, { accessFlags := 24, nameIndex := 1127, descriptorIndex := 18, attributes := #[] }])
  fields := #[{ name := "value", type := (.array .byte), accessFlags := 18, slot := 0, constantValue := 0 }, { name := "coder", type := .byte, accessFlags := 18, slot := 1, constantValue := 0 }, { name := "hash", type := .int, accessFlags := 2, slot := 2, constantValue := 0 }, { name := "hashIsZero", type := .boolean, accessFlags := 2, slot := 3, constantValue := 0 }, { name := "serialVersionUID", type := .long, accessFlags := 26, slot := 0, constantValue := 0 }, { name := "COMPACT_STRINGS", type := .boolean, accessFlags := 24, slot := 1, constantValue := 0 }, { name := "serialPersistentFields", type := (.array (.object "java/io/ObjectStreamField")), accessFlags := 26, slot := 2, constantValue := 0 }, { name := "REPL", type := .char, accessFlags := 26, slot := 3, constantValue := 0 }, { name := "CASE_INSENSITIVE_ORDER", type := (.object "java/util/Comparator"), accessFlags := 25, slot := 4, constantValue := 0 }, { name := "LATIN1", type := .byte, accessFlags := 24, slot := 5, constantValue := 0 }, { name := "UTF16", type := .byte, accessFlags := 24, slot := 6, constantValue := 0 }]
  methods := #[k7m0, k7m1, k7m2, k7m3]
  instanceTypes := #[(.array .byte), .byte, .int, .boolean]
  staticTypes := #[.long, .boolean, (.array (.object "java/io/ObjectStreamField")), .char, (.object "java/util/Comparator"), .byte, .byte]
  resolved := Array.replicate 1451 none
  statics := some 0 }

def pool8 : Array CpInfo := pool [(4, .class_ 6), (1, u "java/lang/Object"), (0, u "<init>"), (0, u "()V"), (5, .class_ 16), (1, u "java/lang/StringLatin1"), (73, u "canEncode"), (14, u "(C)Z"), (15, u "$assertionsDisabled"), (0, u "Z"), (98, .class_ 223), (1, u "java/lang/StringLatin1$LinesSpliterator"), (156, u "toBytes"), (1, u "(C)[B"), (7, .class_ 391), (0, u "java/lang/StringLatin1$CharsSpliterator")] 3

def k8m0 : Method := { name := "<init>", desc := "()V", sig := { parameters := [], returnType := none }, accessFlags := 0, code := none }
def k8c1 : Code := { maxStack := 2, maxLocals := 1, code := jdk_43_method_3_code, exceptionTable := #[], attributes := #[] }
def k8m1 : Method := { name := "canEncode", desc := "(C)Z", sig := { parameters := [.char], returnType := some .boolean }, accessFlags := 9, code := some k8c1 }
def k8c2 : Code := { maxStack := 4, maxLocals := 1, code := jdk_43_method_46_code, exceptionTable := #[], attributes := #[] }
def k8m2 : Method := { name := "toBytes", desc := "(C)[B", sig := { parameters := [.char], returnType := some (.array .byte) }, accessFlags := 9, code := some k8c2 }
/-- java/lang/StringLatin1 -/
def k8 : Class := { plain "java/lang/StringLatin1" (some 0) with
  accessFlags := 48
  interfaces := #[]
  cf := some (fileOf pool8 14 #[.nestMembers #[390, 221]] #[{ accessFlags := 0, nameIndex := 7, descriptorIndex := 8, attributes := #[] }, { accessFlags := 9, nameIndex := 90, descriptorIndex := 105, attributes := #[] }, { accessFlags := 9, nameIndex := 380, descriptorIndex := 382, attributes := #[] }] 48 4 #[] #[{ accessFlags := 4120, nameIndex := 121, descriptorIndex := 122, attributes := #[] }])
  fields := #[{ name := "$assertionsDisabled", type := .boolean, accessFlags := 4120, slot := 0, constantValue := 0 }]
  methods := #[k8m0, k8m1, k8m2]
  instanceTypes := #[]
  staticTypes := #[.boolean]
  resolved := Array.replicate 395 none
  statics := none }

def pool9 : Array CpInfo := pool [(1, .methodref 2 3), (0, .class_ 4), (0, .nameAndType 5 6), (0, u "java/lang/Object"), (0, u "<init>"), (0, u "()V"), (0, .fieldref 8 9), (0, .class_ 10), (0, .nameAndType 11 12), (0, u "com/example/seglport/seglport/options/OptionReader"), (0, u "_args"), (0, u "[Ljava/lang/String;"), (0, .fieldref 8 14), (0, .nameAndType 15 16), (0, u "_next"), (0, u "I"), (0, .fieldref 8 18), (0, .nameAndType 19 20), (0, u "_option"), (0, u "Ljava/lang/String;"), (12, u "value"), (0, u "()Ljava/lang/String;"), (18, u "MAX_PORT"), (1, u "([Ljava/lang/String;)V"), (2, u "hasNext"), (0, u "()Z"), (1, u "next")] 34

def k9c0 : Code := { maxStack := 2, maxLocals := 2, code := prog_39_method_1_code, exceptionTable := #[], attributes := #[] }
def k9m0 : Method := { name := "<init>", desc := "([Ljava/lang/String;)V", sig := { parameters := [(.array (.object "java/lang/String"))], returnType := none }, accessFlags := 1, code := some k9c0 }
def k9c1 : Code := { maxStack := 2, maxLocals := 1, code := prog_39_method_2_code, exceptionTable := #[], attributes := #[] }
def k9m1 : Method := { name := "hasNext", desc := "()Z", sig := { parameters := [], returnType := some .boolean }, accessFlags := 1, code := some k9c1 }
def k9c2 : Code := { maxStack := 3, maxLocals := 1, code := prog_39_method_3_code, exceptionTable := #[], attributes := #[] }
def k9m2 : Method := { name := "next", desc := "()Ljava/lang/String;", sig := { parameters := [], returnType := some (.object "java/lang/String") }, accessFlags := 1, code := some k9c2 }
def k9c3 : Code := { maxStack := 3, maxLocals := 2, code := prog_39_method_4_code, exceptionTable := #[], attributes := #[] }
def k9m3 : Method := { name := "value", desc := "()Ljava/lang/String;", sig := { parameters := [], returnType := some (.object "java/lang/String") }, accessFlags := 1, code := some k9c3 }
/-- com/example/seglport/seglport/options/OptionReader -/
def k9 : Class := { plain "com/example/seglport/seglport/options/OptionReader" (some 0) with
  accessFlags := 49
  interfaces := #[]
  cf := some (fileOf pool9 8 #[] #[{ accessFlags := 1, nameIndex := 5, descriptorIndex := 55, attributes := #[] }, { accessFlags := 1, nameIndex := 58, descriptorIndex := 59, attributes := #[] }, { accessFlags := 1, nameIndex := 61, descriptorIndex := 34, attributes := #[] }, { accessFlags := 1, nameIndex := 33, descriptorIndex := 34, attributes := #[] }] 49 2 #[] #[{ accessFlags := 26, nameIndex := 53, descriptorIndex := 16, attributes := #[] }, { accessFlags := 18, nameIndex := 11, descriptorIndex := 12, attributes := #[] }, { accessFlags := 2, nameIndex := 15, descriptorIndex := 16, attributes := #[] }, { accessFlags := 2, nameIndex := 19, descriptorIndex := 20, attributes := #[] }])
  fields := #[{ name := "MAX_PORT", type := .int, accessFlags := 26, slot := 0, constantValue := 0 }, { name := "_args", type := (.array (.object "java/lang/String")), accessFlags := 18, slot := 0, constantValue := 0 }, { name := "_next", type := .int, accessFlags := 2, slot := 1, constantValue := 0 }, { name := "_option", type := (.object "java/lang/String"), accessFlags := 2, slot := 2, constantValue := 0 }]
  methods := #[k9m0, k9m1, k9m2, k9m3]
  instanceTypes := #[(.array (.object "java/lang/String")), .int, (.object "java/lang/String")]
  staticTypes := #[.int]
  resolved := Array.replicate 96 none
  statics := none }

def pool10 : Array CpInfo := pool [(2, .class_ 4), (1, u "java/lang/Object"), (0, u "<init>"), (0, u "()V"), (17, .class_ 26), (1, u "jdk/internal/util/Preconditions"), (28, .class_ 56), (0, u "jdk/internal/util/Preconditions$4"), (57, .class_ 115), (0, u "jdk/internal/util/Preconditions$1"), (7, u "SIOOBE_FORMATTER"), (0, u "Ljava/util/function/BiFunction;"), (0, .class_ 126), (0, u "jdk/internal/util/Preconditions$2"), (3, u "AIOOBE_FORMATTER"), (0, .class_ 132), (0, u "jdk/internal/util/Preconditions$3"), (3, u "IOOBE_FORMATTER")] 57

def k10m0 : Method := { name := "<init>", desc := "()V", sig := { parameters := [], returnType := none }, accessFlags := 1, code := none }
/-- jdk/internal/util/Preconditions -/
def k10 : Class := { plain "jdk/internal/util/Preconditions" (some 0) with
  accessFlags := 33
  interfaces := #[]
  cf := some (fileOf pool10 24 #[.nestMembers #[55, 131, 125, 114]] #[{ accessFlags := 1, nameIndex := 5, descriptorIndex := 6, attributes := #[] }] 33 2 #[] #[{ accessFlags := 25, nameIndex := 123, descriptorIndex := 124, attributes := #[] }, { accessFlags := 25, nameIndex := 130, descriptorIndex := 124, attributes := #[] }, { accessFlags := 25, nameIndex := 136, descriptorIndex := 124, attributes := #[] }])
  fields := #[{ name := "SIOOBE_FORMATTER", type := (.object "java/util/function/BiFunction"), accessFlags := 25, slot := 0, constantValue := 0 }, { name := "AIOOBE_FORMATTER", type := (.object "java/util/function/BiFunction"), accessFlags := 25, slot := 1, constantValue := 0 }, { name := "IOOBE_FORMATTER", type := (.object "java/util/function/BiFunction"), accessFlags := 25, slot := 2, constantValue := 0 }]
  methods := #[k10m0]
  instanceTypes := #[]
  staticTypes := #[(.object "java/util/function/BiFunction"), (.object "java/util/function/BiFunction"), (.object "java/util/function/BiFunction")]
  resolved := Array.replicate 194 none
  statics := some 1 }

def pool11 : Array CpInfo := pool [(9, u "<init>"), (6, .class_ 18), (1, u "java/lang/Object"), (0, u "()V"), (1, .class_ 23), (1, u "jdk/internal/util/ArraysSupport"), (0, u "LOG2_ARRAY_LONG_INDEX_SCALE"), (0, u "I"), (2, u "U"), (0, u "Ljdk/internal/misc/Unsafe;"), (8, u "BIG_ENDIAN"), (0, u "Z"), (8, u "LOG2_BYTE_BIT_SIZE"), (4, u "LOG2_ARRAY_INT_INDEX_SCALE"), (54, u "JLA"), (0, u "Ljdk/internal/access/JavaLangAccess;"), (11, u "LOG2_ARRAY_BOOLEAN_INDEX_SCALE"), (9, u "LOG2_ARRAY_BYTE_INDEX_SCALE"), (5, u "LOG2_ARRAY_CHAR_INDEX_SCALE"), (5, u "LOG2_ARRAY_SHORT_INDEX_SCALE"), (18, u "LOG2_ARRAY_FLOAT_INDEX_SCALE"), (24, u "LOG2_ARRAY_DOUBLE_INDEX_SCALE"), (89, u "T_BOOLEAN"), (2, u "T_CHAR"), (1, u "T_FLOAT"), (1, u "T_DOUBLE"), (1, u "T_BYTE"), (1, u "T_SHORT"), (1, u "T_INT"), (1, u "T_LONG"), (1, u "SOFT_MAX_ARRAY_LENGTH")] 83

def k11m0 : Method := { name := "<init>", desc := "()V", sig := { parameters := [], returnType := none }, accessFlags := 2, code := none }
/-- jdk/internal/util/ArraysSupport -/
def k11 : Class := { plain "jdk/internal/util/ArraysSupport" (some 0) with
  accessFlags := 33
  interfaces := #[]
  cf := some (fileOf pool11 21 #[] #[{ accessFlags := 2, nameIndex := 9, descriptorIndex := 19, attributes := #[] }] 33 16 #[] #[{ accessFlags := 24, nameIndex := 28, descriptorIndex := 29, attributes := #[] }, { accessFlags := 26, nameIndex := 38, descriptorIndex := 39, attributes := #[] }, { accessFlags := 25, nameIndex := 121, descriptorIndex := 25, attributes := #[] }, { accessFlags := 25, nameIndex := 131, descriptorIndex := 25, attributes := #[] }, { accessFlags := 25, nameIndex := 137, descriptorIndex := 25, attributes := #[] }, { accessFlags := 25, nameIndex := 143, descriptorIndex := 25, attributes := #[] }, { accessFlags := 25, nameIndex := 53, descriptorIndex := 25, attributes := #[] }, { accessFlags := 25, nameIndex := 24, descriptorIndex := 25, attributes := #[] }, { accessFlags := 25, nameIndex := 162, descriptorIndex := 25, attributes := #[] }, { accessFlags := 25, nameIndex := 187, descriptorIndex := 25, attributes := #[] }, { accessFlags := 26, nameIndex := 48, descriptorIndex := 25, attributes := #[] }, { accessFlags := 25, nameIndex := 277, descriptorIndex := 25, attributes := #[] }, { accessFlags := 25, nameIndex := 280, descriptorIndex := 25, attributes := #[] }, { accessFlags := 25, nameIndex := 282, descriptorIndex := 25, attributes := #[] }, { accessFlags := 25, nameIndex := 284, descriptorIndex := 25, attributes := #[] }, { accessFlags := 25, nameIndex := 286, descriptorIndex := 25, attributes := #[] }, { accessFlags := 25, nameIndex := 288, descriptorIndex := 25, attributes := #[] }, { accessFlags := 25, nameIndex := 290, descriptorIndex := 25, attributes := #[] }, { accessFlags := 25, nameIndex := 292, descriptorIndex := 25, attributes := #[] }, { accessFlags := 26, nameIndex := 108, descriptorIndex := 109, attributes := #[] }, { accessFlags := 25, nameIndex := 294, descriptorIndex := 25, attributes := #[] }])
  fields := #[{ name := "U", type := (.object "jdk/internal/misc/Unsafe"), accessFlags := 24, slot := 0, constantValue := 0 }, { name := "BIG_ENDIAN", type := .boolean, accessFlags := 26, slot := 1, constantValue := 0 }, { name := "LOG2_ARRAY_BOOLEAN_INDEX_SCALE", type := .int, accessFlags := 25, slot := 2, constantValue := 0 }, { name := "LOG2_ARRAY_BYTE_INDEX_SCALE", type := .int, accessFlags := 25, slot := 3, constantValue := 0 }, { name := "LOG2_ARRAY_CHAR_INDEX_SCALE", type := .int, accessFlags := 25, slot := 4, constantValue := 0 }, { name := "LOG2_ARRAY_SHORT_INDEX_SCALE", type := .int, accessFlags := 25, slot := 5, constantValue := 0 }, { name := "LOG2_ARRAY_INT_INDEX_SCALE", type := .int, accessFlags := 25, slot := 6, constantValue := 0 }, { name := "LOG2_ARRAY_LONG_INDEX_SCALE", type := .int, accessFlags := 25, slot := 7, constantValue := 0 }, { name := "LOG2_ARRAY_FLOAT_INDEX_SCALE", type := .int, accessFlags := 25, slot := 8, constantValue := 0 }, { name := "LOG2_ARRAY_DOUBLE_INDEX_SCALE", type := .int, accessFlags := 25, slot := 9, constantValue := 0 }, { name := "LOG2_BYTE_BIT_SIZE", type := .int, accessFlags := 26, slot := 10, constantValue := 0 }, { name := "T_BOOLEAN", type := .int, accessFlags := 25, slot := 11, constantValue := 0 }, { name := "T_CHAR", type := .int, accessFlags := 25, slot := 12, constantValue := 0 }, { name := "T_FLOAT", type := .int, accessFlags := 25, slot := 13, constantValue := 0 }, { name := "T_DOUBLE", type := .int, accessFlags := 25, slot := 14, constantValue := 0 }, { name := "T_BYTE", type := .int, accessFlags := 25, slot := 15, constantValue := 0 }, { name := "T_SHORT", type := .int, accessFlags := 25, slot := 16, constantValue := 0 }, { name := "T_INT", type := .int, accessFlags := 25, slot := 17, constantValue := 0 }, { name := "T_LONG", type := .int, accessFlags := 25, slot := 18, constantValue := 0 }, { name := "JLA", type := (.object "jdk/internal/access/JavaLangAccess"), accessFlags := 26, slot := 19, constantValue := 0 }, { name := "SOFT_MAX_ARRAY_LENGTH", type := .int, accessFlags := 25, slot := 20, constantValue := 0 }]
  methods := #[k11m0]
  instanceTypes := #[]
  staticTypes := #[(.object "jdk/internal/misc/Unsafe"), .boolean, .int, .int, .int, .int, .int, .int, .int, .int, .int, .int, .int, .int, .int, .int, .int, .int, .int, (.object "jdk/internal/access/JavaLangAccess"), .int]
  resolved := Array.replicate 378 none
  statics := none }

def pool12 : Array CpInfo := pool [(1, u "java/lang/Cloneable"), (0, .class_ 1), (0, u "java/lang/Object"), (0, .class_ 3)] 3

/-- java/lang/Cloneable -/
def k12 : Class := { plain "java/lang/Cloneable" (some 0) with
  accessFlags := 1537
  interfaces := #[]
  cf := some (fileOf pool12 2 #[] #[] 1537 4 #[] #[])
  fields := #[]
  methods := #[]
  instanceTypes := #[]
  staticTypes := #[]
  resolved := Array.replicate 8 none
  statics := none }

/-- the primitive byte -/
def k13 : Class := { plain "byte" none with kind := .primitive 'B', accessFlags := 0x411 }
/-- [B -/
def k14 : Class := { plain "[B" (some 0) with kind := .array 13 .byte, interfaces := #[12, 2], accessFlags := 1041 }

/-- the primitive int -/
def k15 : Class := { plain "int" none with kind := .primitive 'I', accessFlags := 0x411 }
/-- [I -/
def k16 : Class := { plain "[I" (some 0) with kind := .array 15 .int, interfaces := #[12, 2], accessFlags := 1041 }

/-- [Ljava/lang/String; -/
def k17 : Class := { plain "[Ljava/lang/String;" (some 0) with kind := .array 7 (.object "java/lang/String"), interfaces := #[12, 2], accessFlags := 1041 }

def heap : Heap := #[{ cls := 7, slots := #[.long 0, .int 1, .null, .int 0, .null, .int 0, .int 0], vm := .statics 7 },
  { cls := 10, slots := #[.null, .null, .null], vm := .statics 10 }]
def classes : Array Class := #[k0, k1, k2, k3, k4, k5, k6, k7, k8, k9, k10, k11, k12, k13, k14, k15, k16, k17]
def interned : List (Array UInt16 × Addr) := []
def slotsUsed : Nat := 10
def theMethod : MethodId := ⟨1, 2⟩
def args0 : Array Value := #[.int 5, .int 6, .int 7, .int 8, .int 9, .int 3]
def aboutOver (below : List Frame) : State where
  vm := { classes := classes, interned := interned.toArray }
  heap := heap
  slotsUsed := slotsUsed
  threads := #[{ frames := .invoking theMethod args0 :: below }]
def below0 : List Frame := [.native { method := ⟨0, 0⟩, args := #[] }]
def about1 : State := aboutOver below0
def p0 : Program := .bare "" "" ""
def e0 : Env := launch0.env 0 0 0
theorem w_frames : about1.frames = Frame.invoking theMethod args0 :: below0 := rfl
set_option maxRecDepth 65536 in
theorem w_args : argsFit about1.vm theMethod args0 = true := by decide +kernel
set_option maxRecDepth 65536 in
theorem w_heap : heapFits about1 = true := by decide +kernel
set_option maxRecDepth 65536 in
theorem w_runnable : about1.curStatus? = some .runnable := by decide +kernel
set_option maxRecDepth 65536 in
theorem w_alone : about1.alone = true := by decide +kernel
set_option maxRecDepth 65536 in
theorem w_named : about1.methodNamed? x = some theMethod := by decide +kernel
set_option maxRecDepth 65536 in
theorem w_hears : about1.hears theMethod below0 = true := by decide +kernel
set_option maxRecDepth 65536 in
theorem w_ripe : about1.ripe theMethod args0 below0 = true := by decide +kernel
theorem w_running : about1.status = .running := rfl
set_option maxRecDepth 65536 in
theorem w_room : about1.hasRoom e0.platform room_1 = true :=
  launch0.hasRoom_least _ room_1 (by decide +kernel) (by decide +kernel) (by decide +kernel) (by decide +kernel) (by decide +kernel) (by decide +kernel)
theorem allAtoms_all (ts : List Jvm.Cond) (a : Array Jvm.Value) (st : Jvm.State) : (allAtoms ts).before a st = ts.all (fun c => c.before a st) := by
  induction ts with
  | nil => rfl
  | cons c t ih =>
    show (Jvm.Cond.and c (allAtoms t)).before a st = _
    rw [Jvm.Cond.before_and, ih, List.all_cons]
def words1 : List Jvm.Cond := Jvm.Cond.code x code maxLocals ret :: tables_1
/-- a 'code' word, met by the world's own term for the bytes: nothing is compared byte by byte -/
theorem code_word {y : MethodName} {bytes : ByteArray} {mx : Nat} {rt : Option FieldType} {a : Array Value} {s : State} {m : MethodId} {meth : Method} {c : Code} (h1 : s.methodNamed? y = some m) (h2 : s.vm.method? m = some meth) (h3 : meth.code = some c) (h4 : c.code = bytes)
    (h5 : (c.maxLocals == mx && c.exceptionTable.isEmpty && decide (c.maxStack ≤ mostOperands) && decide (meth.sig.returnType = rt) && !meth.locks && decide (parseMethodDescriptor y.desc = some meth.sig)) = true) : (Jvm.Cond.code y bytes mx rt).before a s = true := by
  simp only [Bool.and_eq_true, beq_iff_eq, Bool.not_eq_true', decide_eq_true_eq] at h5
  obtain ⟨⟨⟨⟨⟨g1, g2⟩, g3⟩, g4⟩, g5⟩, g6⟩ := h5
  simp [Cond.before, Cond.holds, Cond.value, h1, h2, h3, h4, g1, g2, g3, g4, g5, g6]
def isCode : Jvm.Cond → Bool
  | .code _ _ _ _ => true
  | _ => false
theorem all_split {L : List Jvm.Cond} {P : Jvm.Cond → Bool} (h1 : L.all (fun c => isCode c || P c) = true) (h2 : ∀ c ∈ L.filter isCode, P c = true) : L.all P = true := by
  refine List.all_eq_true.mpr fun c hc => ?_
  have h := List.all_eq_true.mp h1 c hc
  rcases Bool.eq_false_or_eq_true (isCode c) with hi | hi
  · exact h2 c (List.mem_filter.mpr ⟨hc, hi⟩)
  · simpa [hi] using h
set_option maxRecDepth 65536 in
theorem w_c0 : (Jvm.Cond.code x code maxLocals ret).before args0 about1 = true := code_word (m := ⟨1, 2⟩) (meth := k1m2) (c := k1c2) (by decide +kernel) rfl rfl rfl (by decide +kernel)
set_option maxRecDepth 65536 in
theorem w_c1 : (Jvm.Cond.code ({ cls := "java/lang/String", name := "valueOf", desc := "(C)Ljava/lang/String;" } : Jvm.MethodName) jdk_42_method_139_code (1 : Nat) (Option.some (Jvm.ClassFile.FieldType.object "java/lang/String"))).before args0 about1 = true := code_word (m := ⟨7, 2⟩) (meth := k7m2) (c := k7c2) (by decide +kernel) rfl rfl rfl (by decide +kernel)
set_option maxRecDepth 65536 in
theorem w_c2 : (Jvm.Cond.code ({ cls := "java/lang/StringLatin1", name := "canEncode", desc := "(C)Z" } : Jvm.MethodName) jdk_43_method_3_code (1 : Nat) (Option.some Jvm.ClassFile.FieldType.boolean)).before args0 about1 = true := code_word (m := ⟨8, 1⟩) (meth := k8m1) (c := k8c1) (by decide +kernel) rfl rfl rfl (by decide +kernel)
set_option maxRecDepth 65536 in
theorem w_c3 : (Jvm.Cond.code ({ cls := "java/lang/StringLatin1", name := "toBytes", desc := "(C)[B" } : Jvm.MethodName) jdk_43_method_46_code (1 : Nat) (Option.some (Jvm.ClassFile.FieldType.array Jvm.ClassFile.FieldType.byte))).before args0 about1 = true := code_word (m := ⟨8, 2⟩) (meth := k8m2) (c := k8c2) (by decide +kernel) rfl rfl rfl (by decide +kernel)
set_option maxRecDepth 65536 in
theorem w_c4 : (Jvm.Cond.code ({ cls := "java/lang/String", name := "<init>", desc := "([BB)V" } : Jvm.MethodName) jdk_42_method_151_code (3 : Nat) (Option.none : Option Jvm.ClassFile.FieldType)).before args0 about1 = true := code_word (m := ⟨7, 3⟩) (meth := k7m3) (c := k7c3) (by decide +kernel) rfl rfl rfl (by decide +kernel)
set_option maxRecDepth 65536 in
theorem w_c5 : (Jvm.Cond.code ({ cls := "java/lang/Object", name := "<init>", desc := "()V" } : Jvm.MethodName) object_method_1_code (1 : Nat) (Option.none : Option Jvm.ClassFile.FieldType)).before args0 about1 = true := code_word (m := ⟨0, 0⟩) (meth := k0m0) (c := k0c0) (by decide +kernel) rfl rfl rfl (by decide +kernel)
set_option maxRecDepth 65536 in
theorem w_c6 : (Jvm.Cond.code ({ cls := "com/example/seglport/seglport/options/OptionReaderNextPinLaw", name := "make", desc := "(ILjava/lang/String;Ljava/lang/String;Ljava/lang/String;Ljava/lang/String;Ljava/lang/String;)[Ljava/lang/String;" } : Jvm.MethodName) method_2_code (6 : Nat) (Option.some (Jvm.ClassFile.FieldType.array (Jvm.ClassFile.FieldType.object "java/lang/String")))).before args0 about1 = true := code_word (m := ⟨1, 1⟩) (meth := k1m1) (c := k1c1) (by decide +kernel) rfl rfl rfl (by decide +kernel)
set_option maxRecDepth 65536 in
theorem w_c7 : (Jvm.Cond.code ({ cls := "com/example/seglport/seglport/options/OptionReader", name := "<init>", desc := "([Ljava/lang/String;)V" } : Jvm.MethodName) prog_39_method_1_code (2 : Nat) (Option.none : Option Jvm.ClassFile.FieldType)).before args0 about1 = true := code_word (m := ⟨9, 0⟩) (meth := k9m0) (c := k9c0) (by decide +kernel) rfl rfl rfl (by decide +kernel)
set_option maxRecDepth 65536 in
theorem w_c8 : (Jvm.Cond.code ({ cls := "com/example/seglport/seglport/options/OptionReader", name := "hasNext", desc := "()Z" } : Jvm.MethodName) prog_39_method_2_code (1 : Nat) (Option.some Jvm.ClassFile.FieldType.boolean)).before args0 about1 = true := code_word (m := ⟨9, 1⟩) (meth := k9m1) (c := k9c1) (by decide +kernel) rfl rfl rfl (by decide +kernel)
set_option maxRecDepth 65536 in
theorem w_c9 : (Jvm.Cond.code ({ cls := "com/example/seglport/seglport/options/OptionReader", name := "next", desc := "()Ljava/lang/String;" } : Jvm.MethodName) prog_39_method_3_code (1 : Nat) (Option.some (Jvm.ClassFile.FieldType.object "java/lang/String"))).before args0 about1 = true := code_word (m := ⟨9, 2⟩) (meth := k9m2) (c := k9c2) (by decide +kernel) rfl rfl rfl (by decide +kernel)
set_option maxRecDepth 65536 in
theorem w_c10 : (Jvm.Cond.code ({ cls := "java/lang/String", name := "equals", desc := "(Ljava/lang/Object;)Z" } : Jvm.MethodName) jdk_42_method_66_code (3 : Nat) (Option.some Jvm.ClassFile.FieldType.boolean)).before args0 about1 = true := code_word (m := ⟨7, 1⟩) (meth := k7m1) (c := k7c1) (by decide +kernel) rfl rfl rfl (by decide +kernel)
set_option maxRecDepth 65536 in
theorem w_c11 : (Jvm.Cond.code ({ cls := "com/example/seglport/seglport/options/OptionReader", name := "value", desc := "()Ljava/lang/String;" } : Jvm.MethodName) prog_39_method_4_code (2 : Nat) (Option.some (Jvm.ClassFile.FieldType.object "java/lang/String"))).before args0 about1 = true := code_word (m := ⟨9, 3⟩) (meth := k9m3) (c := k9c3) (by decide +kernel) rfl rfl rfl (by decide +kernel)
def codes1 : List Jvm.Cond := [Jvm.Cond.code x code maxLocals ret, Jvm.Cond.code ({ cls := "java/lang/String", name := "valueOf", desc := "(C)Ljava/lang/String;" } : Jvm.MethodName) jdk_42_method_139_code (1 : Nat) (Option.some (Jvm.ClassFile.FieldType.object "java/lang/String")), Jvm.Cond.code ({ cls := "java/lang/StringLatin1", name := "canEncode", desc := "(C)Z" } : Jvm.MethodName) jdk_43_method_3_code (1 : Nat) (Option.some Jvm.ClassFile.FieldType.boolean), Jvm.Cond.code ({ cls := "java/lang/StringLatin1", name := "toBytes", desc := "(C)[B" } : Jvm.MethodName) jdk_43_method_46_code (1 : Nat) (Option.some (Jvm.ClassFile.FieldType.array Jvm.ClassFile.FieldType.byte)), Jvm.Cond.code ({ cls := "java/lang/String", name := "<init>", desc := "([BB)V" } : Jvm.MethodName) jdk_42_method_151_code (3 : Nat) (Option.none : Option Jvm.ClassFile.FieldType), Jvm.Cond.code ({ cls := "java/lang/Object", name := "<init>", desc := "()V" } : Jvm.MethodName) object_method_1_code (1 : Nat) (Option.none : Option Jvm.ClassFile.FieldType), Jvm.Cond.code ({ cls := "com/example/seglport/seglport/options/OptionReaderNextPinLaw", name := "make", desc := "(ILjava/lang/String;Ljava/lang/String;Ljava/lang/String;Ljava/lang/String;Ljava/lang/String;)[Ljava/lang/String;" } : Jvm.MethodName) method_2_code (6 : Nat) (Option.some (Jvm.ClassFile.FieldType.array (Jvm.ClassFile.FieldType.object "java/lang/String"))), Jvm.Cond.code ({ cls := "com/example/seglport/seglport/options/OptionReader", name := "<init>", desc := "([Ljava/lang/String;)V" } : Jvm.MethodName) prog_39_method_1_code (2 : Nat) (Option.none : Option Jvm.ClassFile.FieldType), Jvm.Cond.code ({ cls := "com/example/seglport/seglport/options/OptionReader", name := "hasNext", desc := "()Z" } : Jvm.MethodName) prog_39_method_2_code (1 : Nat) (Option.some Jvm.ClassFile.FieldType.boolean), Jvm.Cond.code ({ cls := "com/example/seglport/seglport/options/OptionReader", name := "next", desc := "()Ljava/lang/String;" } : Jvm.MethodName) prog_39_method_3_code (1 : Nat) (Option.some (Jvm.ClassFile.FieldType.object "java/lang/String")), Jvm.Cond.code ({ cls := "java/lang/String", name := "equals", desc := "(Ljava/lang/Object;)Z" } : Jvm.MethodName) jdk_42_method_66_code (3 : Nat) (Option.some Jvm.ClassFile.FieldType.boolean), Jvm.Cond.code ({ cls := "com/example/seglport/seglport/options/OptionReader", name := "value", desc := "()Ljava/lang/String;" } : Jvm.MethodName) prog_39_method_4_code (2 : Nat) (Option.some (Jvm.ClassFile.FieldType.object "java/lang/String"))]
set_option maxRecDepth 65536 in
theorem codes_eq : words1.filter isCode = codes1 := rfl
theorem w_codes : ∀ c ∈ words1.filter isCode, c.before args0 about1 = true := by
  rw [codes_eq]
  intro c hc
  simp only [codes1, List.mem_cons, List.not_mem_nil, or_false] at hc
  rcases hc with rfl | rfl | rfl | rfl | rfl | rfl | rfl | rfl | rfl | rfl | rfl | rfl
  · exact w_c0
  · exact w_c1
  · exact w_c2
  · exact w_c3
  · exact w_c4
  · exact w_c5
  · exact w_c6
  · exact w_c7
  · exact w_c8
  · exact w_c9
  · exact w_c10
  · exact w_c11
set_option maxRecDepth 65536 in
theorem w_t1 : (words1.take 24).all (fun c => isCode c || c.before args0 about1) = true := by decide +kernel
set_option maxRecDepth 65536 in
theorem w_t2 : ((words1.drop 24).take 24).all (fun c => isCode c || c.before args0 about1) = true := by decide +kernel
set_option maxRecDepth 65536 in
theorem w_t3 : ((words1.drop 24).drop 24).all (fun c => isCode c || c.before args0 about1) = true := by decide +kernel
theorem w_tables : (allAtoms (Jvm.Cond.code x code maxLocals ret :: tables_1)).before args0 about1 = true := by
  rw [allAtoms_all]
  show words1.all (fun c => c.before args0 about1) = true
  refine all_split ?_ w_codes
  rw [← List.take_append_drop 24 words1, List.all_append, w_t1, ← List.take_append_drop 24 (words1.drop 24), List.all_append, w_t2, w_t3]
  rfl
set_option maxRecDepth 65536 in
theorem w_rest : rest_1_c.before args0 about1 = true := by decide +kernel
set_option maxRecDepth 65536 in
theorem w_case : (Jvm.Cond.and given_1 narrow_1).before args0 about1 = true := by decide +kernel
theorem w_applies : (headSpec (Jvm.Cond.code x code maxLocals ret :: tables_1) room_1).applies x e0.platform about1 = true :=
  (Spec.applies_iff w_frames).mpr ⟨w_running, w_runnable, w_alone, w_named, w_hears, w_ripe, w_room, w_tables⟩
theorem atStart : AtStart classFile x code maxLocals ret World_1 tables_1 room_1 Calls_1 rest_1 Pre_1 launch0 p0 e0 about1 theMethod args0 below0 :=
  ⟨lists_1, trivial, launch0.admits_env _ _ _, launch0.least_env, fairChoices_fair.cas, fairChoices_fair.clock, w_frames, w_args, w_heap, w_applies, trivial, w_rest, w_case⟩
end start1
theorem witness_1 : WitnessClaimed_1 := ⟨start1.p0, start1.e0, start1.about1, start1.theMethod, start1.args0, start1.below0, start1.atStart⟩
end Jvm.Pilot.@@N@@
