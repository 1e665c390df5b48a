import JvmDerived
import JvmDerived.Pilot.@@N@@Statement
import JvmDerived.Pilot.@@N@@Code
set_option linter.unusedVariables false
set_option linter.unusedSimpArgs false
@@BLOCK:NumsL.lean.txt@@
namespace Jvm.Pilot.@@N@@
open Jvm Jvm.ClassFile Sem Op Lib Jvm.Free Jvm.Stand Jvm.LawKit Jvm.RoadKit Bundle Jvm.Pilot.@@N@@.Jvm.D
section OwnKit
variable {p : Program} {l : Launch} {e : Env} {R : Room} {s : State} {m : MethodId} {args : Array Value} {below : List Frame} {meth : Method} {c : Code} {T : State} {locs : List Loc} {cells slots : Nat} {Z : State} {h h' : Heap} {a b : Addr} {ty : FieldType} {n sl : Nat} {f : Nat → Value} {v : Value} {ws : List Addr}
theorem own_retI (X : Stand p l e R s m args below meth c T locs cells slots) (hx : p.tables.exec = Jvm.exec) {pc : Nat} {Ls : Array Slot} {z : Int32} {rest : List Value} (hret : meth.sig.returnType = some .int) (hd : decode c.code pc = .ok (.ireturn, 1)) {fs : List Frame}
    (hl : ∀ (f : JFrame) (acts : List Action), f.method = m → f.locked = none → f.entered = [] → (doReturn e (T.setTop f) acts (some (.int z))).1 = T.setFrames fs) : Steps p.tables e below (T.setTop (mkF m pc Ls (.int z :: rest))) (T.setFrames fs) := by
  have hm' : T.vm.method? m = some meth := X.method'
  have hn : narrow .int (.int z) = .int z := rfl
  show Steps p.tables e below (T.setTop { method := m, pc := pc, locals := Ls, stack := _ :: rest, locked := none }) _
  jvm_step X.here [X.here.top, hx, hd, hm', hret, hn]
  first | (intro acts; rw [hl _ acts rfl rfl rfl]) | rw [hl _ _ rfl rfl rfl]
  exact Steps.refl _
theorem own_retA (X : Stand p l e R s m args below meth c T locs cells slots) (hx : p.tables.exec = Jvm.exec) {pc : Nat} {Ls : Array Slot} {w : Addr} {rest : List Value} {t : FieldType} (ht : t.isReference = true) (hret : meth.sig.returnType = some t) (hd : decode c.code pc = .ok (.areturn, 1)) {fs : List Frame}
    (hl : ∀ (f : JFrame) (acts : List Action), f.method = m → f.locked = none → f.entered = [] → (doReturn e (T.setTop f) acts (some (.ref w))).1 = T.setFrames fs) : Steps p.tables e below (T.setTop (mkF m pc Ls (.ref w :: rest))) (T.setFrames fs) := by
  have hm' : T.vm.method? m = some meth := X.method'
  show Steps p.tables e below (T.setTop { method := m, pc := pc, locals := Ls, stack := _ :: rest, locked := none }) _
  jvm_step X.here [X.here.top, hx, hd, hm', hret, ht, Value.isRef]
  first | (intro acts; rw [hl _ acts rfl rfl rfl]) | rw [hl _ _ rfl rfl rfl]
  exact Steps.refl _
theorem own_retL (X : Stand p l e R s m args below meth c T locs cells slots) (hx : p.tables.exec = Jvm.exec) {pc : Nat} {Ls : Array Slot} {w : Int64} {rest : List Value} (hret : meth.sig.returnType = some .long) (hd : decode c.code pc = .ok (.lreturn, 1)) {fs : List Frame}
    (hl : ∀ (f : JFrame) (acts : List Action), f.method = m → f.locked = none → f.entered = [] → (doReturn e (T.setTop f) acts (some (.long w))).1 = T.setFrames fs) : Steps p.tables e below (T.setTop (mkF m pc Ls (.long w :: rest))) (T.setFrames fs) := by
  have hm' : T.vm.method? m = some meth := X.method'
  show Steps p.tables e below (T.setTop { method := m, pc := pc, locals := Ls, stack := _ :: rest, locked := none }) _
  jvm_step X.here [X.here.top, hx, hd, hm', hret]
  first | (intro acts; rw [hl _ acts rfl rfl rfl]) | rw [hl _ _ rfl rfl rfl]
  exact Steps.refl _
/-- an array: its kind, its length, what lies at each place -/
def OwnA (Z : State) (h : Heap) (a : Addr) (ty : FieldType) (n : Nat) (f : Nat → Value) : Prop :=
  ∃ c : Cell, Arr Z h a c ty ∧ c.slots.size = n ∧ (∀ i, i < n → c.slots[i]? = some (f i)) ∧ ∀ i, i < n → fits ty (f i) = true
def own_upd (f : Nat → Value) (j : Nat) (v : Value) : Nat → Value := fun i => if i = j then v else f i
theorem own_at (f : Nat → Value) (j : Nat) (v : Value) : own_upd f j v j = v := if_pos rfl
theorem own_off (f : Nat → Value) {i j : Nat} (v : Value) (q : i ≠ j) : own_upd f j v i = f i := if_neg q
theorem OwnA.lt (F : OwnA Z h a ty n f) : a < h.size := by obtain ⟨c, A, -⟩ := F; exact A.lt
theorem OwnA.ext (F : OwnA Z h a ty n f) (E : Ext h h') : OwnA Z h' a ty n f := by obtain ⟨c, A, r⟩ := F; exact ⟨c, A.ext E, r⟩
theorem OwnA.other (F : OwnA Z h b ty n f) (W : Wr h h' a sl v) (q : b ≠ a) : OwnA Z h' b ty n f := by obtain ⟨c, A, r⟩ := F; exact ⟨c, A.other W q, r⟩
theorem OwnA.keep (F : OwnA Z h a ty n f) (K : Keep h h' ws) (q : a ∉ ws) : OwnA Z h' a ty n f := by obtain ⟨c, A, r⟩ := F; exact ⟨c, ⟨K.2.1 a c A.1 q, A.2⟩, r⟩
theorem OwnA.cast {f' : Nat → Value} (F : OwnA Z h a ty n f) (q : ∀ i, i < n → f i = f' i) : OwnA Z h a ty n f' := by
  obtain ⟨c, A, r1, r2, r3⟩ := F
  exact ⟨c, A, r1, fun i hi => by rw [← q i hi]; exact r2 i hi, fun i hi => by rw [← q i hi]; exact r3 i hi⟩
theorem OwnA.set {k : Nat} (F : OwnA Z h a ty n f) (W : Wr h h' a k v) (hv : fits ty v = true) : OwnA Z h' a ty n (own_upd f k v) := by
  obtain ⟨c, A, r1, r2, r3⟩ := F
  refine ⟨_, A.same W, by rw [sz_set]; exact r1, fun i hi => ?_, fun i hi => ?_⟩
  · by_cases q : i = k
    · subst q
      rw [own_at]
      have : i < c.slots.size := by rw [r1]; exact hi
      simp [Cell.setSlot, this]
    · rw [own_off _ _ q, ← r2 i hi]
      simp only [Cell.setSlot]
      rw [Array.getElem?_setIfInBounds_ne (Ne.symm q)]
  · by_cases q : i = k
    · subst q; rw [own_at]; exact hv
    · rw [own_off _ _ q]; exact r3 i hi
theorem OwnA.new {k : ClassId} {z : Int32} (A : Arr Z h a (newA k ty z) ty) (hz : z.toNatClampNeg = n) : OwnA Z h a ty n (fun _ => defaultValue ty) := by
  refine ⟨_, A, by rw [sz_new]; exact hz, fun i hi => ?_, fun i _ => by cases ty <;> rfl⟩
  subst hz; simp [newA, hi]
theorem own_in {c : Cell} {j : Int32} {k : Nat} (r1 : c.slots.size = n) (hj : ¬ j < 0) (hk : j.toNatClampNeg = k) (hn : k < n) : ¬ (j < 0 ∨ c.slots.size ≤ j.toNatClampNeg) := by
  rintro (q | q)
  · exact hj q
  · omega
theorem own_stB (X : Stand p l e R s m args below meth c T locs cells slots) (hx : p.tables.exec = Jvm.exec) (hZ : Z.Warmed39 s.vm) (eT : T.heap = h) (F : OwnA Z h a .byte n f) {j x : Int32} (k : Nat) (hj : ¬ j < 0) (hk : j.toNatClampNeg = k) (hn : k < n) {g : JFrame} (hg : g.method = m) {rest : List Value} (hs : g.stack = .int x :: .int j :: .ref a :: rest) (hd : decode c.code g.pc = .ok (.bastore, 1)) :
    ∃ T' h', Stand p l e R s m args below meth c T' (locs ++ [⟨a, k⟩]) cells slots ∧ T'.heap = h' ∧ Wr h h' a k (.int x.toInt8.toInt32) ∧ OwnA Z h' a .byte n (own_upd f k (.int x.toInt8.toInt32)) ∧ ∀ target, Steps p.tables e below (T'.setTop { g with pc := g.pc + 1, stack := rest }) target → Steps p.tables e below (T.setTop g) target := by
  obtain ⟨c0, A, r1, r2, r3⟩ := F
  obtain ⟨T', h', X', e', W', st⟩ := stB X hx hZ eT A (own_in r1 hj hk hn) hg hs hd
  subst hk
  exact ⟨T', h', X', e', W', OwnA.set ⟨c0, A, r1, r2, r3⟩ W' (fits_nar_byte _), st⟩
theorem own_stC (X : Stand p l e R s m args below meth c T locs cells slots) (hx : p.tables.exec = Jvm.exec) (hZ : Z.Warmed39 s.vm) (eT : T.heap = h) (F : OwnA Z h a .char n f) {j x : Int32} (k : Nat) (hj : ¬ j < 0) (hk : j.toNatClampNeg = k) (hn : k < n) {g : JFrame} (hg : g.method = m) {rest : List Value} (hs : g.stack = .int x :: .int j :: .ref a :: rest) (hd : decode c.code g.pc = .ok (.castore, 1)) :
    ∃ T' h', Stand p l e R s m args below meth c T' (locs ++ [⟨a, k⟩]) cells slots ∧ T'.heap = h' ∧ Wr h h' a k (.int x.toUInt32.toUInt16.toUInt32.toInt32) ∧ OwnA Z h' a .char n (own_upd f k (.int x.toUInt32.toUInt16.toUInt32.toInt32)) ∧ ∀ target, Steps p.tables e below (T'.setTop { g with pc := g.pc + 1, stack := rest }) target → Steps p.tables e below (T.setTop g) target := by
  obtain ⟨c0, A, r1, r2, r3⟩ := F
  obtain ⟨T', h', X', e', W', st⟩ := stC X hx hZ eT A (own_in r1 hj hk hn) hg hs hd
  subst hk
  exact ⟨T', h', X', e', W', OwnA.set ⟨c0, A, r1, r2, r3⟩ W' (fits_nar_char _), st⟩
theorem own_stJ (X : Stand p l e R s m args below meth c T locs cells slots) (hx : p.tables.exec = Jvm.exec) (hZ : Z.Warmed39 s.vm) (eT : T.heap = h) (F : OwnA Z h a .long n f) {j : Int32} {x : Int64} (k : Nat) (hj : ¬ j < 0) (hk : j.toNatClampNeg = k) (hn : k < n) {g : JFrame} (hg : g.method = m) {rest : List Value} (hs : g.stack = .long x :: .int j :: .ref a :: rest) (hd : decode c.code g.pc = .ok (.lastore, 1)) :
    ∃ T' h', Stand p l e R s m args below meth c T' (locs ++ [⟨a, k⟩]) cells slots ∧ T'.heap = h' ∧ Wr h h' a k (.long x) ∧ OwnA Z h' a .long n (own_upd f k (.long x)) ∧ ∀ target, Steps p.tables e below (T'.setTop { g with pc := g.pc + 1, stack := rest }) target → Steps p.tables e below (T.setTop g) target := by
  obtain ⟨c0, A, r1, r2, r3⟩ := F
  obtain ⟨T', h', X', e', W', st⟩ := stJ X hx hZ eT A (own_in r1 hj hk hn) hg hs hd
  subst hk
  exact ⟨T', h', X', e', W', OwnA.set ⟨c0, A, r1, r2, r3⟩ W' rfl, st⟩
theorem own_stR (X : Stand p l e R s m args below meth c T locs cells slots) (hx : p.tables.exec = Jvm.exec) (hZ : Z.Warmed39 s.vm) (eT : T.heap = h) (F : OwnA Z h a ty n f) (hty : ty.isReference = true) (So : Sto Z h a v) (hv : fits ty v = true) {j : Int32} (k : Nat) (hj : ¬ j < 0) (hk : j.toNatClampNeg = k) (hn : k < n) {g : JFrame} (hg : g.method = m) {rest : List Value} (hs : g.stack = v :: .int j :: .ref a :: rest) (hd : decode c.code g.pc = .ok (.aastore, 1)) :
    ∃ T' h', Stand p l e R s m args below meth c T' (locs ++ [⟨a, k⟩]) cells slots ∧ T'.heap = h' ∧ Wr h h' a k v ∧ OwnA Z h' a ty n (own_upd f k v) ∧ ∀ target, Steps p.tables e below (T'.setTop { g with pc := g.pc + 1, stack := rest }) target → Steps p.tables e below (T.setTop g) target := by
  obtain ⟨c0, A, r1, r2, r3⟩ := F
  obtain ⟨T', h', X', e', W', st⟩ := stR X hx hZ eT A (own_in r1 hj hk hn) hty So hg hs hd
  subst hk
  exact ⟨T', h', X', e', W', OwnA.set ⟨c0, A, r1, r2, r3⟩ W' hv, st⟩
theorem own_ldB (X : Stand p l e R s m args below meth c T locs cells slots) (hx : p.tables.exec = Jvm.exec) (hZ : Z.Warmed39 s.vm) (eT : T.heap = h) (F : OwnA Z h a .byte n f) {j : Int32} (k : Nat) (hj : ¬ j < 0) (hk : j.toNatClampNeg = k) (hn : k < n) (hv : f k = v) {g : JFrame} (hg : g.method = m) {rest : List Value} (hs : g.stack = .int j :: .ref a :: rest) (hd : decode c.code g.pc = .ok (.baload, 1)) :
    ∀ target, Steps p.tables e below (T.setTop { g with pc := g.pc + 1, stack := v :: rest }) target → Steps p.tables e below (T.setTop g) target := by
  obtain ⟨c0, A, r1, r2, r3⟩ := F
  subst hk hv
  exact X.baloadBytes hx (j := j) (by rw [eT]; exact A.1) (State.isArrayOf_alike hZ.alike A.2.1) A.2.2 (own_in r1 hj rfl hn) (r2 _ hn) hg hs hd
theorem own_ldC (X : Stand p l e R s m args below meth c T locs cells slots) (hx : p.tables.exec = Jvm.exec) (hZ : Z.Warmed39 s.vm) (eT : T.heap = h) (F : OwnA Z h a .char n f) {j : Int32} (k : Nat) (hj : ¬ j < 0) (hk : j.toNatClampNeg = k) (hn : k < n) (hv : f k = v) {g : JFrame} (hg : g.method = m) {rest : List Value} (hs : g.stack = .int j :: .ref a :: rest) (hd : decode c.code g.pc = .ok (.caload, 1)) :
    ∀ target, Steps p.tables e below (T.setTop { g with pc := g.pc + 1, stack := v :: rest }) target → Steps p.tables e below (T.setTop g) target := by
  obtain ⟨c0, A, r1, r2, r3⟩ := F
  subst hk hv
  exact X.caload hx (j := j) (by rw [eT]; exact A.1) (State.isArrayOf_alike hZ.alike A.2.1) A.2.2 (own_in r1 hj rfl hn) (r2 _ hn) hg hs hd
theorem own_ldJ (X : Stand p l e R s m args below meth c T locs cells slots) (hx : p.tables.exec = Jvm.exec) (hZ : Z.Warmed39 s.vm) (eT : T.heap = h) (F : OwnA Z h a .long n f) {j : Int32} (k : Nat) (hj : ¬ j < 0) (hk : j.toNatClampNeg = k) (hn : k < n) (hv : f k = v) {g : JFrame} (hg : g.method = m) {rest : List Value} (hs : g.stack = .int j :: .ref a :: rest) (hd : decode c.code g.pc = .ok (.laload, 1)) :
    ∀ target, Steps p.tables e below (T.setTop { g with pc := g.pc + 1, stack := v :: rest }) target → Steps p.tables e below (T.setTop g) target := by
  obtain ⟨c0, A, r1, r2, r3⟩ := F
  subst hk hv
  exact X.laload hx (j := j) (by rw [eT]; exact A.1) (State.isArrayOf_alike hZ.alike A.2.1) A.2.2 (own_in r1 hj rfl hn) (r2 _ hn) hg hs hd
theorem own_ldR (X : Stand p l e R s m args below meth c T locs cells slots) (hx : p.tables.exec = Jvm.exec) (hZ : Z.Warmed39 s.vm) (eT : T.heap = h) (F : OwnA Z h a ty n f) (hty : ty.isReference = true) {j : Int32} (k : Nat) (hj : ¬ j < 0) (hk : j.toNatClampNeg = k) (hn : k < n) (hv : f k = v) {g : JFrame} (hg : g.method = m) {rest : List Value} (hs : g.stack = .int j :: .ref a :: rest) (hd : decode c.code g.pc = .ok (.aaload, 1)) :
    ∀ target, Steps p.tables e below (T.setTop { g with pc := g.pc + 1, stack := v :: rest }) target → Steps p.tables e below (T.setTop g) target := by
  obtain ⟨c0, A, r1, r2, r3⟩ := F
  subst hk hv
  exact X.aaload hx (j := j) (by rw [eT]; exact A.1) (State.isArrayOf_alike hZ.alike A.2.1) hty A.2.2 (own_in r1 hj rfl hn) (r2 _ hn) hg hs hd
theorem own_len (X : Stand p l e R s m args below meth c T locs cells slots) (hx : p.tables.exec = Jvm.exec) (hZ : Z.Warmed39 s.vm) (eT : T.heap = h) (F : OwnA Z h a ty n f) {z : Int32} (hz : n.toInt32 = z) {g : JFrame} (hg : g.method = m) {rest : List Value} (hs : g.stack = .ref a :: rest) (hd : decode c.code g.pc = .ok (.arraylength, 1)) :
    ∀ target, Steps p.tables e below (T.setTop { g with pc := g.pc + 1, stack := .int z :: rest }) target → Steps p.tables e below (T.setTop g) target := by
  obtain ⟨c0, A, r1, r2, r3⟩ := F
  subst hz r1
  exact X.arraylength hx (by rw [eT]; exact A.1) (State.isArrayOf_alike hZ.alike A.2.1) hg hs hd
theorem own_clone (X : Stand p l e R s m args below meth c T locs cells slots) (hx : p.tables.exec = Jvm.exec) (hZ : Z.Warmed39 s.vm) {a0 : Array Value} {own ad : String} {index : Nat} (hown : s.vm.findClass own = some m.cls)
    (w1 : (Jvm.Cond.methodLink own index ⟨ad, "clone", "()Ljava/lang/Object;"⟩).before a0 Z = true) (w2 : (Jvm.Cond.sameMethod ad "java/lang/Object" "clone" "()Ljava/lang/Object;").before a0 Z = true) (w3 : (Jvm.Cond.native ⟨"java/lang/Object", "clone", "()Ljava/lang/Object;"⟩).before a0 Z = true)
    (w4 : (Jvm.Cond.instanceMethod ⟨"java/lang/Object", "clone", "()Ljava/lang/Object;"⟩).before a0 Z = true) (w5 : (Jvm.Cond.selects ad ⟨ad, "clone", "()Ljava/lang/Object;"⟩ ⟨"java/lang/Object", "clone", "()Ljava/lang/Object;"⟩).before a0 Z = true) (w6 : (Jvm.Cond.castable ad "java/lang/Cloneable").before a0 Z = true)
    (eT : T.heap = h) (F : OwnA Z h a ty n f) (E : Exa Z h a ad) {g : JFrame} (hg : g.method = m) (hsize : g.locals.size = c.maxLocals) {rest : List Value} (hs : g.stack = .ref a :: rest) (hd : decode c.code g.pc = .ok (.invokevirtual index, 3))
    (hf : 1 ≤ R.frames) {W cap : Nat} (hW : 2 * g.monitorRoom + (rest.map fun v => v.category).sum ≤ W) (hl : W + 14 ≤ R.locals) (hcap : n ≤ cap) (hc : cells + 1 ≤ R.cells) (hsl : slots + cap ≤ R.slots) :
    ∃ T' h', Stand p l e R s m args below meth c T' locs (cells + 1) (slots + cap) ∧ T'.heap = h' ∧ Ext h h' ∧ OwnA Z h' h.size ty n f ∧ Exa Z h' h.size ad ∧
      ∀ target, Steps p.tables e below (T'.setTop { g with pc := g.pc + 3, stack := .ref h.size :: rest }) target → Steps p.tables e below (T.setTop g) target := by
  obtain ⟨c0, A, r1, r2, r3⟩ := F
  have FC : FitC Z c0 := fitC_of A fun i hi v hv => by
    rw [r1] at hi; rw [r2 i hi] at hv; cases hv; exact r3 i hi
  obtain ⟨T', h', X', e', ex, A', E', st⟩ := cloneA X hx hZ hown w1 w2 w3 w4 w5 w6 eT A E FC hg hsize hs hd hf hW hl (by rw [r1]; exact hcap) hc hsl
  exact ⟨T', h', X', e', ex, ⟨cloneOf c0, A', r1, r2, r3⟩, E', st⟩
theorem own_selP {s : State} {args : Array Value} {y y' : MethodName} (hsel : (Jvm.Cond.selects y.cls y' y').before args s = true) (hc : y'.cls = y.cls) (hpriv : s.PrivateAt y) (hinst : (Jvm.Cond.instanceMethod y).before args s = true) (hy : y.cls ≠ "java/lang/invoke/MethodHandle" ∧ y.cls ≠ "java/lang/invoke/VarHandle") :
    (Jvm.Cond.selects y.cls y y).before args s = true := by
  obtain ⟨c2, r2, m2, a1, a2, q3, a4, kP, hkP, hkPi⟩ := Cond.selects_spec hsel
  have hf := findClass_of_methodNamed q3
  rw [hc] at hf
  exact Stand.selects_self_of_private hf hkP hkPi hpriv hinst hy
theorem own_fcast {C nm d : String} {x y : Int32} (F : Fld Z h a C nm d (.int x)) (q : x = y) : Fld Z h a C nm d (.int y) := q ▸ F
theorem own_ix {j d : Int32} {k i : Nat} (hj : ¬ j < 0) (hk : j.toNatClampNeg = k) (hd : d.toInt = (i : Int)) (hlt : k + i < 2147483648) : ¬ (j + d) < 0 ∧ (j + d).toNatClampNeg = k + i := by
  have e0 : (0 : Int32).toInt = 0 := rfl
  simp only [Int32.lt_iff_toInt_lt, e0, Int32.toNatClampNeg] at hj hk ⊢
  rw [Int32.toInt_add, hd]
  have : (j.toInt + (i : Int)).bmod (2 ^ 32) = j.toInt + (i : Int) := bmod32 (by omega) (by omega)
  rw [this]
  omega
theorem own_mask31 (x : Int32) : 0 ≤ (x &&& (2147483647 : Int32)).toInt := (c_andS x 2147483647).2.2 (by decide)
theorem own_rem {x y : Int32} (hx : 0 ≤ x.toInt) (hy : 0 < y.toInt) : 0 ≤ (x % y).toInt ∧ (x % y).toInt < y.toInt := by
  rw [Int32.toInt_mod]
  exact ⟨Int.tmod_nonneg _ hx, Int.tmod_lt_of_pos _ hy⟩
theorem own_lcEq {x y : Int64} (q : x = y) : lcmpW x y = 0 := by subst q; simp [lcmpW, Int64.lt_irrefl]
theorem own_lcNe {x y : Int64} (q : ¬ x = y) : ¬ lcmpW x y = 0 := by
  by_cases h : x > y
  · rw [lcmpW, if_pos h]; decide
  · rw [lcmpW, if_neg h, if_neg q]; decide
theorem own_lcGt {x y : Int64} (q : y < x) : (0 : Int32) < lcmpW x y := by rw [lcmpW, if_pos q]; decide
theorem own_lcLe {x y : Int64} (q : ¬ y < x) : ¬ (0 : Int32) < lcmpW x y := by
  rw [lcmpW, if_neg q]
  by_cases h : x = y
  · rw [if_pos h]; decide
  · rw [if_neg h]; decide
theorem own_lcLt {x y : Int64} (q : x < y) : lcmpW x y < 0 := by
  rw [lcmpW, if_neg (fun z => Int64.lt_irrefl (Int64.lt_trans z q)), if_neg (fun z => Int64.lt_irrefl (z ▸ q))]; decide
theorem own_lcGe {x y : Int64} (q : ¬ x < y) : ¬ lcmpW x y < 0 := by
  by_cases h : x > y
  · rw [lcmpW, if_pos h]; decide
  · rw [lcmpW, if_neg h, if_pos (Int64.le_antisymm (Int64.not_lt.mp h) (Int64.not_lt.mp q))]; decide
end OwnKit

theorem d1_0 : decode method_2_code 0 = .ok (.iload_n 0, 1) := by decide +kernel
theorem d1_1 : decode method_2_code 1 = .ok (.ifCond .ne 7, 3) := by decide +kernel
theorem d1_4 : decode method_2_code 4 = .ok (.iconst 0, 1) := by decide +kernel
theorem d1_5 : decode method_2_code 5 = .ok (.newarray .byte, 2) := by decide +kernel
theorem d1_7 : decode method_2_code 7 = .ok (.areturn, 1) := by decide +kernel
theorem d1_8 : decode method_2_code 8 = .ok (.iload_n 0, 1) := by decide +kernel
theorem d1_9 : decode method_2_code 9 = .ok (.iconst 1, 1) := by decide +kernel
theorem d1_10 : decode method_2_code 10 = .ok (.if_icmp .ne 7, 3) := by decide +kernel
theorem d1_13 : decode method_2_code 13 = .ok (.iconst 1, 1) := by decide +kernel
theorem d1_14 : decode method_2_code 14 = .ok (.newarray .byte, 2) := by decide +kernel
theorem d1_16 : decode method_2_code 16 = .ok (.areturn, 1) := by decide +kernel
theorem d1_17 : decode method_2_code 17 = .ok (.iload_n 0, 1) := by decide +kernel
theorem d1_18 : decode method_2_code 18 = .ok (.iconst 2, 1) := by decide +kernel
theorem d1_19 : decode method_2_code 19 = .ok (.if_icmp .ne 7, 3) := by decide +kernel
theorem d1_22 : decode method_2_code 22 = .ok (.iconst 2, 1) := by decide +kernel
theorem d1_23 : decode method_2_code 23 = .ok (.newarray .byte, 2) := by decide +kernel
theorem d1_25 : decode method_2_code 25 = .ok (.areturn, 1) := by decide +kernel
theorem d1_26 : decode method_2_code 26 = .ok (.iload_n 0, 1) := by decide +kernel
theorem d1_27 : decode method_2_code 27 = .ok (.iconst 3, 1) := by decide +kernel
theorem d1_28 : decode method_2_code 28 = .ok (.if_icmp .ne 7, 3) := by decide +kernel
theorem d1_31 : decode method_2_code 31 = .ok (.iconst 3, 1) := by decide +kernel
theorem d1_32 : decode method_2_code 32 = .ok (.newarray .byte, 2) := by decide +kernel
theorem d1_34 : decode method_2_code 34 = .ok (.areturn, 1) := by decide +kernel
theorem d1_35 : decode method_2_code 35 = .ok (.iload_n 0, 1) := by decide +kernel
theorem d1_36 : decode method_2_code 36 = .ok (.iconst 4, 1) := by decide +kernel
theorem d1_37 : decode method_2_code 37 = .ok (.if_icmp .ne 7, 3) := by decide +kernel
theorem d1_40 : decode method_2_code 40 = .ok (.iconst 4, 1) := by decide +kernel
theorem d1_41 : decode method_2_code 41 = .ok (.newarray .byte, 2) := by decide +kernel
theorem d1_43 : decode method_2_code 43 = .ok (.areturn, 1) := by decide +kernel
theorem d1_44 : decode method_2_code 44 = .ok (.iload_n 0, 1) := by decide +kernel
theorem d1_45 : decode method_2_code 45 = .ok (.iconst 5, 1) := by decide +kernel
theorem d1_46 : decode method_2_code 46 = .ok (.if_icmp .ne 7, 3) := by decide +kernel
theorem d1_49 : decode method_2_code 49 = .ok (.iconst 5, 1) := by decide +kernel
theorem d1_50 : decode method_2_code 50 = .ok (.newarray .byte, 2) := by decide +kernel
theorem d1_52 : decode method_2_code 52 = .ok (.areturn, 1) := by decide +kernel
theorem d1_53 : decode method_2_code 53 = .ok (.iload_n 0, 1) := by decide +kernel
theorem d1_54 : decode method_2_code 54 = .ok (.bipush 6, 2) := by decide +kernel
theorem d1_56 : decode method_2_code 56 = .ok (.if_icmp .ne 8, 3) := by decide +kernel
theorem d1_59 : decode method_2_code 59 = .ok (.bipush 6, 2) := by decide +kernel
theorem d1_61 : decode method_2_code 61 = .ok (.newarray .byte, 2) := by decide +kernel
theorem d1_63 : decode method_2_code 63 = .ok (.areturn, 1) := by decide +kernel
theorem d1_64 : decode method_2_code 64 = .ok (.bipush 7, 2) := by decide +kernel
theorem d1_66 : decode method_2_code 66 = .ok (.newarray .byte, 2) := by decide +kernel
theorem d1_68 : decode method_2_code 68 = .ok (.areturn, 1) := by decide +kernel
theorem d2_0 : decode prog_109_method_1_code 0 = .ok (.aload_n 0, 1) := by decide +kernel
theorem d2_1 : decode prog_109_method_1_code 1 = .ok (.invokespecial 1, 3) := by decide +kernel
theorem d2_4 : decode prog_109_method_1_code 4 = .ok (.aload_n 0, 1) := by decide +kernel
theorem d2_5 : decode prog_109_method_1_code 5 = .ok (.aload_n 1, 1) := by decide +kernel
theorem d2_6 : decode prog_109_method_1_code 6 = .ok (.putfield 7, 3) := by decide +kernel
theorem d2_9 : decode prog_109_method_1_code 9 = .ok (.aload_n 0, 1) := by decide +kernel
theorem d2_10 : decode prog_109_method_1_code 10 = .ok (.iload_n 2, 1) := by decide +kernel
theorem d2_11 : decode prog_109_method_1_code 11 = .ok (.putfield 13, 3) := by decide +kernel
theorem d2_14 : decode prog_109_method_1_code 14 = .ok (.aload_n 0, 1) := by decide +kernel
theorem d2_15 : decode prog_109_method_1_code 15 = .ok (.iload_n 3, 1) := by decide +kernel
theorem d2_16 : decode prog_109_method_1_code 16 = .ok (.putfield 17, 3) := by decide +kernel
theorem d2_19 : decode prog_109_method_1_code 19 = .ok (.aload_n 0, 1) := by decide +kernel
theorem d2_20 : decode prog_109_method_1_code 20 = .ok (.iload 4, 2) := by decide +kernel
theorem d2_22 : decode prog_109_method_1_code 22 = .ok (.putfield 20, 3) := by decide +kernel
theorem d2_25 : decode prog_109_method_1_code 25 = .ok (.aload_n 0, 1) := by decide +kernel
theorem d2_26 : decode prog_109_method_1_code 26 = .ok (.aload 5, 2) := by decide +kernel
theorem d2_28 : decode prog_109_method_1_code 28 = .ok (.putfield 23, 3) := by decide +kernel
theorem d2_31 : decode prog_109_method_1_code 31 = .ok (.return_, 1) := by decide +kernel
theorem d4_0 : decode prog_109_method_3_code 0 = .ok (.aload_n 0, 1) := by decide +kernel
theorem d4_1 : decode prog_109_method_3_code 1 = .ok (.getfield 13, 3) := by decide +kernel
theorem d4_4 : decode prog_109_method_3_code 4 = .ok (.aload_n 0, 1) := by decide +kernel
theorem d4_5 : decode prog_109_method_3_code 5 = .ok (.getfield 20, 3) := by decide +kernel
theorem d4_8 : decode prog_109_method_3_code 8 = .ok (.aload_n 0, 1) := by decide +kernel
theorem d4_9 : decode prog_109_method_3_code 9 = .ok (.getfield 17, 3) := by decide +kernel
theorem d4_12 : decode prog_109_method_3_code 12 = .ok (.isub, 1) := by decide +kernel
theorem d4_13 : decode prog_109_method_3_code 13 = .ok (.isub, 1) := by decide +kernel
theorem d4_14 : decode prog_109_method_3_code 14 = .ok (.aload_n 0, 1) := by decide +kernel
theorem d4_15 : decode prog_109_method_3_code 15 = .ok (.getfield 23, 3) := by decide +kernel
theorem d4_18 : decode prog_109_method_3_code 18 = .ok (.arraylength, 1) := by decide +kernel
theorem d4_19 : decode prog_109_method_3_code 19 = .ok (.iadd, 1) := by decide +kernel
theorem d4_20 : decode prog_109_method_3_code 20 = .ok (.ireturn, 1) := by decide +kernel
theorem own_pn0 : plainName "com/example/seglport/seglport/soap/SplicedMessageLengthPinLaw" = true := by first | (simp [plainName, overriddenIn]; done) | decide +kernel
theorem own_pn1 : plainName "com/example/seglport/seglport/soap/SplicedMessage" = true := by first | (simp [plainName, overriddenIn]; done) | decide +kernel
theorem own_pd0 : parseMethodDescriptor "(I)[B" = some ⟨[.int], some (.array .byte)⟩ := by decide +kernel
theorem own_pd1 : parseMethodDescriptor "([BIII[B)V" = some ⟨[(.array .byte), .int, .int, .int, (.array .byte)], none⟩ := by decide +kernel
theorem own_pd2 : parseMethodDescriptor "()I" = some ⟨[], some .int⟩ := by decide +kernel
def QB (Z : State) (N : Nat) (h0 : Heap) (n0 : Nat) (v : Option Value) (h : Heap) (L : List Loc) : Prop := ∃ b, v = some (.ref b) ∧ Fr n0 L ∧ Keep h0 h [] ∧ h0.size ≤ b ∧ OwnA Z h b .byte N (fun _ => .int (0 : Int32))
set_option maxRecDepth 65536 in
set_option maxHeartbeats 40000000 in
theorem rmB0 (l : Launch) (Z : State) (a0 : Array Value) (hw : ∀ d ∈ tables_1, d.before a0 Z = true) (ws : List Jvm.Cond)  (h0 : Heap) (n0 : Nat) (Z0 : n0 ≤ h0.size)  :
    MetFree l (⟨"com/example/seglport/seglport/soap/SplicedMessageLengthPinLaw", "bytes", "(I)[B"⟩ : MethodName) (head1 (Jvm.Cond.code (⟨"com/example/seglport/seglport/soap/SplicedMessageLengthPinLaw", "bytes", "(I)[B"⟩ : MethodName) method_2_code 1 (some (.array .byte)) :: ws) ({ frames := 0, cells := 1, slots := 7, locals := 0 } : Room)) (fun a U => a = #[(.int (0 : Int32))] ∧ Z.Warmed39 U.vm ∧ U.heap = h0) (fun _ _ _ _ _ => True) (fun _ U o U' => ∃ v L, o = .returned v ∧ QB Z 0 h0 n0 v U'.heap L ∧ FrameEnd U o U' L ({ frames := 0, cells := 1, slots := 7, locals := 0 } : Room).cells ({ frames := 0, cells := 1, slots := 7, locals := 0 } : Room).slots) := by
  refine MetFree.of_bodySF (plainFor_of_name own_pn0) hisR ?_
  intro p e s m args below meth c s₁ Bd hml0 hP hK
  obtain ⟨rfl, hZ, hh⟩ := hP
  have hx := Bd.exec
  have hby := Bd.bytes
  have hml : c.maxLocals = 1 := hml0
  have hown : s.vm.findClass "com/example/seglport/seglport/soap/SplicedMessageLengthPinLaw" = some m.cls := findClass_of_methodNamed Bd.named
  have hnm := (name_of_methodNamed Bd.named Bd.method).1
  have X0 : Stand p l e ({ frames := 0, cells := 1, slots := 7, locals := 0 } : Room) s m #[(.int (0 : Int32))] below meth c s₁ [] 0 0 := Stand.of_body Bd
  have e0 : s₁.heap = h0 := by rw [← hh, Bd.state]; rfl
  have N0 := Fr.nil n0
  have ef : entryFrame m #[(.int (0 : Int32))] 1 = mkF m 0 #[.val (.int (0 : Int32))] [] := by first | (simp [entryFrame, mkF, argsToLocals, Value.category]; done) | rfl
  have pre0 : ∀ t, Steps p.tables e below (s₁.setTop (mkF m 0 #[.val (.int (0 : Int32))] [])) t → Steps p.tables e below (s₁.setTop (entryFrame m #[(.int (0 : Int32))] 1)) t := fun t k => castTop ef k
  obtain ⟨T101, h101, k101, X101, e101, E101, A101, Ex101, st101⟩ := newPE X0 hx hZ (aty := .byte) (hw _ (List.mem_of_getElem? (i := 0) rfl)) e0 (g := (mkF m 5 #[.val (.int (0 : Int32))] [(.int (0 : Int32))])) rfl (hb hby d1_5) rfl (by decide) (cap := 0) (by decide) (by decide) (by decide) (by decide) (ad := "[B") (by decide)
  obtain ⟨b101, g101⟩ : ∃ z, z = h0.size := ⟨_, rfl⟩
  rw [← g101] at A101 Ex101 st101
  have g_b101 : n0 ≤ b101 := Nat.le_trans Z0 (Nat.le_of_eq g101.symm)
  have sz_b101 : h0.size ≤ b101 := Nat.le_trans (Keep.refl h0 []).1 (Nat.le_of_eq g101.symm)
  have Z101 : n0 ≤ h101.size := Nat.le_trans Z0 E101.1
  have KC101 : Keep h0 h101 [] := (Keep.refl h0 []).ext E101
  have V101 : OwnA Z h101 b101 .byte 0 (fun _ => (.int (0 : Int32))) := OwnA.new A101 rfl
  obtain ⟨fs, hr, hrun, hended, hW, hsame⟩ := X101.leave (v := some (.ref b101)) (fun h => by rw [Bd.returns] at h; cases h)
  refine ⟨_, _, pre0 _ ?_, hrun, hended, _, _, rfl, ?_, ⟨_, rfl⟩, hW, hsame.mono (by decide) (by decide)⟩
  · show Steps p.tables e below (s₁.setTop (mkF m 0 #[.val (.int (0 : Int32))] [])) _
    refine XS.iloadN X0.here hx rfl (hb hby d1_0) rfl ?_
    show Steps p.tables e below (s₁.setTop (mkF m 1 #[.val (.int (0 : Int32))] [(.int (0 : Int32))])) _
    refine XS.ifNo X0.here hx rfl (hb hby d1_1) rfl ((if0 _ _).trans (teq rfl).2) ?_
    show Steps p.tables e below (s₁.setTop (mkF m 4 #[.val (.int (0 : Int32))] [])) _
    refine XS.iconst X0.here hx rfl (hb hby d1_4) ?_
    show Steps p.tables e below (s₁.setTop (mkF m 5 #[.val (.int (0 : Int32))] [(.int (0 : Int32))])) _
    refine st101 _ ?_
    show Steps p.tables e below (T101.setTop (mkF m 7 #[.val (.int (0 : Int32))] [(.ref b101)])) _
    exact own_retA X101 hx (t := (.array .byte)) rfl Bd.returns (hb hby d1_7) hr
  · show QB Z 0 h0 n0 _ T101.heap _
    rw [e101]
    exact ⟨b101, rfl, N0, KC101, sz_b101, V101⟩
set_option maxRecDepth 65536 in
set_option maxHeartbeats 40000000 in
theorem rmB1 (l : Launch) (Z : State) (a0 : Array Value) (hw : ∀ d ∈ tables_1, d.before a0 Z = true) (ws : List Jvm.Cond)  (h0 : Heap) (n0 : Nat) (Z0 : n0 ≤ h0.size)  :
    MetFree l (⟨"com/example/seglport/seglport/soap/SplicedMessageLengthPinLaw", "bytes", "(I)[B"⟩ : MethodName) (head1 (Jvm.Cond.code (⟨"com/example/seglport/seglport/soap/SplicedMessageLengthPinLaw", "bytes", "(I)[B"⟩ : MethodName) method_2_code 1 (some (.array .byte)) :: ws) ({ frames := 0, cells := 1, slots := 7, locals := 0 } : Room)) (fun a U => a = #[(.int (1 : Int32))] ∧ Z.Warmed39 U.vm ∧ U.heap = h0) (fun _ _ _ _ _ => True) (fun _ U o U' => ∃ v L, o = .returned v ∧ QB Z 1 h0 n0 v U'.heap L ∧ FrameEnd U o U' L ({ frames := 0, cells := 1, slots := 7, locals := 0 } : Room).cells ({ frames := 0, cells := 1, slots := 7, locals := 0 } : Room).slots) := by
  refine MetFree.of_bodySF (plainFor_of_name own_pn0) hisR ?_
  intro p e s m args below meth c s₁ Bd hml0 hP hK
  obtain ⟨rfl, hZ, hh⟩ := hP
  have hx := Bd.exec
  have hby := Bd.bytes
  have hml : c.maxLocals = 1 := hml0
  have hown : s.vm.findClass "com/example/seglport/seglport/soap/SplicedMessageLengthPinLaw" = some m.cls := findClass_of_methodNamed Bd.named
  have hnm := (name_of_methodNamed Bd.named Bd.method).1
  have X0 : Stand p l e ({ frames := 0, cells := 1, slots := 7, locals := 0 } : Room) s m #[(.int (1 : Int32))] below meth c s₁ [] 0 0 := Stand.of_body Bd
  have e0 : s₁.heap = h0 := by rw [← hh, Bd.state]; rfl
  have N0 := Fr.nil n0
  have ef : entryFrame m #[(.int (1 : Int32))] 1 = mkF m 0 #[.val (.int (1 : Int32))] [] := by first | (simp [entryFrame, mkF, argsToLocals, Value.category]; done) | rfl
  have pre0 : ∀ t, Steps p.tables e below (s₁.setTop (mkF m 0 #[.val (.int (1 : Int32))] [])) t → Steps p.tables e below (s₁.setTop (entryFrame m #[(.int (1 : Int32))] 1)) t := fun t k => castTop ef k
  obtain ⟨T101, h101, k101, X101, e101, E101, A101, Ex101, st101⟩ := newPE X0 hx hZ (aty := .byte) (hw _ (List.mem_of_getElem? (i := 0) rfl)) e0 (g := (mkF m 14 #[.val (.int (1 : Int32))] [(.int (1 : Int32))])) rfl (hb hby d1_14) rfl (by decide) (cap := 1) (by decide) (by decide) (by decide) (by decide) (ad := "[B") (by decide)
  obtain ⟨b101, g101⟩ : ∃ z, z = h0.size := ⟨_, rfl⟩
  rw [← g101] at A101 Ex101 st101
  have g_b101 : n0 ≤ b101 := Nat.le_trans Z0 (Nat.le_of_eq g101.symm)
  have sz_b101 : h0.size ≤ b101 := Nat.le_trans (Keep.refl h0 []).1 (Nat.le_of_eq g101.symm)
  have Z101 : n0 ≤ h101.size := Nat.le_trans Z0 E101.1
  have KC101 : Keep h0 h101 [] := (Keep.refl h0 []).ext E101
  have V101 : OwnA Z h101 b101 .byte 1 (fun _ => (.int (0 : Int32))) := OwnA.new A101 rfl
  obtain ⟨fs, hr, hrun, hended, hW, hsame⟩ := X101.leave (v := some (.ref b101)) (fun h => by rw [Bd.returns] at h; cases h)
  refine ⟨_, _, pre0 _ ?_, hrun, hended, _, _, rfl, ?_, ⟨_, rfl⟩, hW, hsame.mono (by decide) (by decide)⟩
  · show Steps p.tables e below (s₁.setTop (mkF m 0 #[.val (.int (1 : Int32))] [])) _
    refine XS.iloadN X0.here hx rfl (hb hby d1_0) rfl ?_
    show Steps p.tables e below (s₁.setTop (mkF m 1 #[.val (.int (1 : Int32))] [(.int (1 : Int32))])) _
    refine XS.ifYes X0.here hx rfl (pc0 := 1) (pc' := 8) rfl (hb hby d1_1) rfl ((if0 _ _).trans (feq (by decide : ¬ (1 : Int32) = (0 : Int32))).2) (by decide) (by decide) ?_
    show Steps p.tables e below (s₁.setTop (mkF m 8 #[.val (.int (1 : Int32))] [])) _
    refine XS.iloadN X0.here hx rfl (hb hby d1_8) rfl ?_
    show Steps p.tables e below (s₁.setTop (mkF m 9 #[.val (.int (1 : Int32))] [(.int (1 : Int32))])) _
    refine XS.iconst X0.here hx rfl (hb hby d1_9) ?_
    show Steps p.tables e below (s₁.setTop (mkF m 10 #[.val (.int (1 : Int32))] [(.int (1 : Int32)), (.int (1 : Int32))])) _
    refine XS.icmpNo X0.here hx rfl (hb hby d1_10) rfl (teq rfl).2 ?_
    show Steps p.tables e below (s₁.setTop (mkF m 13 #[.val (.int (1 : Int32))] [])) _
    refine XS.iconst X0.here hx rfl (hb hby d1_13) ?_
    show Steps p.tables e below (s₁.setTop (mkF m 14 #[.val (.int (1 : Int32))] [(.int (1 : Int32))])) _
    refine st101 _ ?_
    show Steps p.tables e below (T101.setTop (mkF m 16 #[.val (.int (1 : Int32))] [(.ref b101)])) _
    exact own_retA X101 hx (t := (.array .byte)) rfl Bd.returns (hb hby d1_16) hr
  · show QB Z 1 h0 n0 _ T101.heap _
    rw [e101]
    exact ⟨b101, rfl, N0, KC101, sz_b101, V101⟩
set_option maxRecDepth 65536 in
set_option maxHeartbeats 40000000 in
theorem rmB2 (l : Launch) (Z : State) (a0 : Array Value) (hw : ∀ d ∈ tables_1, d.before a0 Z = true) (ws : List Jvm.Cond)  (h0 : Heap) (n0 : Nat) (Z0 : n0 ≤ h0.size)  :
    MetFree l (⟨"com/example/seglport/seglport/soap/SplicedMessageLengthPinLaw", "bytes", "(I)[B"⟩ : MethodName) (head1 (Jvm.Cond.code (⟨"com/example/seglport/seglport/soap/SplicedMessageLengthPinLaw", "bytes", "(I)[B"⟩ : MethodName) method_2_code 1 (some (.array .byte)) :: ws) ({ frames := 0, cells := 1, slots := 7, locals := 0 } : Room)) (fun a U => a = #[(.int (2 : Int32))] ∧ Z.Warmed39 U.vm ∧ U.heap = h0) (fun _ _ _ _ _ => True) (fun _ U o U' => ∃ v L, o = .returned v ∧ QB Z 2 h0 n0 v U'.heap L ∧ FrameEnd U o U' L ({ frames := 0, cells := 1, slots := 7, locals := 0 } : Room).cells ({ frames := 0, cells := 1, slots := 7, locals := 0 } : Room).slots) := by
  refine MetFree.of_bodySF (plainFor_of_name own_pn0) hisR ?_
  intro p e s m args below meth c s₁ Bd hml0 hP hK
  obtain ⟨rfl, hZ, hh⟩ := hP
  have hx := Bd.exec
  have hby := Bd.bytes
  have hml : c.maxLocals = 1 := hml0
  have hown : s.vm.findClass "com/example/seglport/seglport/soap/SplicedMessageLengthPinLaw" = some m.cls := findClass_of_methodNamed Bd.named
  have hnm := (name_of_methodNamed Bd.named Bd.method).1
  have X0 : Stand p l e ({ frames := 0, cells := 1, slots := 7, locals := 0 } : Room) s m #[(.int (2 : Int32))] below meth c s₁ [] 0 0 := Stand.of_body Bd
  have e0 : s₁.heap = h0 := by rw [← hh, Bd.state]; rfl
  have N0 := Fr.nil n0
  have ef : entryFrame m #[(.int (2 : Int32))] 1 = mkF m 0 #[.val (.int (2 : Int32))] [] := by first | (simp [entryFrame, mkF, argsToLocals, Value.category]; done) | rfl
  have pre0 : ∀ t, Steps p.tables e below (s₁.setTop (mkF m 0 #[.val (.int (2 : Int32))] [])) t → Steps p.tables e below (s₁.setTop (entryFrame m #[(.int (2 : Int32))] 1)) t := fun t k => castTop ef k
  obtain ⟨T101, h101, k101, X101, e101, E101, A101, Ex101, st101⟩ := newPE X0 hx hZ (aty := .byte) (hw _ (List.mem_of_getElem? (i := 0) rfl)) e0 (g := (mkF m 23 #[.val (.int (2 : Int32))] [(.int (2 : Int32))])) rfl (hb hby d1_23) rfl (by decide) (cap := 2) (by decide) (by decide) (by decide) (by decide) (ad := "[B") (by decide)
  obtain ⟨b101, g101⟩ : ∃ z, z = h0.size := ⟨_, rfl⟩
  rw [← g101] at A101 Ex101 st101
  have g_b101 : n0 ≤ b101 := Nat.le_trans Z0 (Nat.le_of_eq g101.symm)
  have sz_b101 : h0.size ≤ b101 := Nat.le_trans (Keep.refl h0 []).1 (Nat.le_of_eq g101.symm)
  have Z101 : n0 ≤ h101.size := Nat.le_trans Z0 E101.1
  have KC101 : Keep h0 h101 [] := (Keep.refl h0 []).ext E101
  have V101 : OwnA Z h101 b101 .byte 2 (fun _ => (.int (0 : Int32))) := OwnA.new A101 rfl
  obtain ⟨fs, hr, hrun, hended, hW, hsame⟩ := X101.leave (v := some (.ref b101)) (fun h => by rw [Bd.returns] at h; cases h)
  refine ⟨_, _, pre0 _ ?_, hrun, hended, _, _, rfl, ?_, ⟨_, rfl⟩, hW, hsame.mono (by decide) (by decide)⟩
  · show Steps p.tables e below (s₁.setTop (mkF m 0 #[.val (.int (2 : Int32))] [])) _
    refine XS.iloadN X0.here hx rfl (hb hby d1_0) rfl ?_
    show Steps p.tables e below (s₁.setTop (mkF m 1 #[.val (.int (2 : Int32))] [(.int (2 : Int32))])) _
    refine XS.ifYes X0.here hx rfl (pc0 := 1) (pc' := 8) rfl (hb hby d1_1) rfl ((if0 _ _).trans (feq (by decide : ¬ (2 : Int32) = (0 : Int32))).2) (by decide) (by decide) ?_
    show Steps p.tables e below (s₁.setTop (mkF m 8 #[.val (.int (2 : Int32))] [])) _
    refine XS.iloadN X0.here hx rfl (hb hby d1_8) rfl ?_
    show Steps p.tables e below (s₁.setTop (mkF m 9 #[.val (.int (2 : Int32))] [(.int (2 : Int32))])) _
    refine XS.iconst X0.here hx rfl (hb hby d1_9) ?_
    show Steps p.tables e below (s₁.setTop (mkF m 10 #[.val (.int (2 : Int32))] [(.int (1 : Int32)), (.int (2 : Int32))])) _
    refine XS.icmpYes X0.here hx rfl (pc0 := 10) (pc' := 17) rfl (hb hby d1_10) rfl (feq (by decide : ¬ (2 : Int32) = (1 : Int32))).2 (by decide) (by decide) ?_
    show Steps p.tables e below (s₁.setTop (mkF m 17 #[.val (.int (2 : Int32))] [])) _
    refine XS.iloadN X0.here hx rfl (hb hby d1_17) rfl ?_
    show Steps p.tables e below (s₁.setTop (mkF m 18 #[.val (.int (2 : Int32))] [(.int (2 : Int32))])) _
    refine XS.iconst X0.here hx rfl (hb hby d1_18) ?_
    show Steps p.tables e below (s₁.setTop (mkF m 19 #[.val (.int (2 : Int32))] [(.int (2 : Int32)), (.int (2 : Int32))])) _
    refine XS.icmpNo X0.here hx rfl (hb hby d1_19) rfl (teq rfl).2 ?_
    show Steps p.tables e below (s₁.setTop (mkF m 22 #[.val (.int (2 : Int32))] [])) _
    refine XS.iconst X0.here hx rfl (hb hby d1_22) ?_
    show Steps p.tables e below (s₁.setTop (mkF m 23 #[.val (.int (2 : Int32))] [(.int (2 : Int32))])) _
    refine st101 _ ?_
    show Steps p.tables e below (T101.setTop (mkF m 25 #[.val (.int (2 : Int32))] [(.ref b101)])) _
    exact own_retA X101 hx (t := (.array .byte)) rfl Bd.returns (hb hby d1_25) hr
  · show QB Z 2 h0 n0 _ T101.heap _
    rw [e101]
    exact ⟨b101, rfl, N0, KC101, sz_b101, V101⟩
set_option maxRecDepth 65536 in
set_option maxHeartbeats 40000000 in
theorem rmB3 (l : Launch) (Z : State) (a0 : Array Value) (hw : ∀ d ∈ tables_1, d.before a0 Z = true) (ws : List Jvm.Cond)  (h0 : Heap) (n0 : Nat) (Z0 : n0 ≤ h0.size)  :
    MetFree l (⟨"com/example/seglport/seglport/soap/SplicedMessageLengthPinLaw", "bytes", "(I)[B"⟩ : MethodName) (head1 (Jvm.Cond.code (⟨"com/example/seglport/seglport/soap/SplicedMessageLengthPinLaw", "bytes", "(I)[B"⟩ : MethodName) method_2_code 1 (some (.array .byte)) :: ws) ({ frames := 0, cells := 1, slots := 7, locals := 0 } : Room)) (fun a U => a = #[(.int (3 : Int32))] ∧ Z.Warmed39 U.vm ∧ U.heap = h0) (fun _ _ _ _ _ => True) (fun _ U o U' => ∃ v L, o = .returned v ∧ QB Z 3 h0 n0 v U'.heap L ∧ FrameEnd U o U' L ({ frames := 0, cells := 1, slots := 7, locals := 0 } : Room).cells ({ frames := 0, cells := 1, slots := 7, locals := 0 } : Room).slots) := by
  refine MetFree.of_bodySF (plainFor_of_name own_pn0) hisR ?_
  intro p e s m args below meth c s₁ Bd hml0 hP hK
  obtain ⟨rfl, hZ, hh⟩ := hP
  have hx := Bd.exec
  have hby := Bd.bytes
  have hml : c.maxLocals = 1 := hml0
  have hown : s.vm.findClass "com/example/seglport/seglport/soap/SplicedMessageLengthPinLaw" = some m.cls := findClass_of_methodNamed Bd.named
  have hnm := (name_of_methodNamed Bd.named Bd.method).1
  have X0 : Stand p l e ({ frames := 0, cells := 1, slots := 7, locals := 0 } : Room) s m #[(.int (3 : Int32))] below meth c s₁ [] 0 0 := Stand.of_body Bd
  have e0 : s₁.heap = h0 := by rw [← hh, Bd.state]; rfl
  have N0 := Fr.nil n0
  have ef : entryFrame m #[(.int (3 : Int32))] 1 = mkF m 0 #[.val (.int (3 : Int32))] [] := by first | (simp [entryFrame, mkF, argsToLocals, Value.category]; done) | rfl
  have pre0 : ∀ t, Steps p.tables e below (s₁.setTop (mkF m 0 #[.val (.int (3 : Int32))] [])) t → Steps p.tables e below (s₁.setTop (entryFrame m #[(.int (3 : Int32))] 1)) t := fun t k => castTop ef k
  obtain ⟨T101, h101, k101, X101, e101, E101, A101, Ex101, st101⟩ := newPE X0 hx hZ (aty := .byte) (hw _ (List.mem_of_getElem? (i := 0) rfl)) e0 (g := (mkF m 32 #[.val (.int (3 : Int32))] [(.int (3 : Int32))])) rfl (hb hby d1_32) rfl (by decide) (cap := 3) (by decide) (by decide) (by decide) (by decide) (ad := "[B") (by decide)
  obtain ⟨b101, g101⟩ : ∃ z, z = h0.size := ⟨_, rfl⟩
  rw [← g101] at A101 Ex101 st101
  have g_b101 : n0 ≤ b101 := Nat.le_trans Z0 (Nat.le_of_eq g101.symm)
  have sz_b101 : h0.size ≤ b101 := Nat.le_trans (Keep.refl h0 []).1 (Nat.le_of_eq g101.symm)
  have Z101 : n0 ≤ h101.size := Nat.le_trans Z0 E101.1
  have KC101 : Keep h0 h101 [] := (Keep.refl h0 []).ext E101
  have V101 : OwnA Z h101 b101 .byte 3 (fun _ => (.int (0 : Int32))) := OwnA.new A101 rfl
  obtain ⟨fs, hr, hrun, hended, hW, hsame⟩ := X101.leave (v := some (.ref b101)) (fun h => by rw [Bd.returns] at h; cases h)
  refine ⟨_, _, pre0 _ ?_, hrun, hended, _, _, rfl, ?_, ⟨_, rfl⟩, hW, hsame.mono (by decide) (by decide)⟩
  · show Steps p.tables e below (s₁.setTop (mkF m 0 #[.val (.int (3 : Int32))] [])) _
    refine XS.iloadN X0.here hx rfl (hb hby d1_0) rfl ?_
    show Steps p.tables e below (s₁.setTop (mkF m 1 #[.val (.int (3 : Int32))] [(.int (3 : Int32))])) _
    refine XS.ifYes X0.here hx rfl (pc0 := 1) (pc' := 8) rfl (hb hby d1_1) rfl ((if0 _ _).trans (feq (by decide : ¬ (3 : Int32) = (0 : Int32))).2) (by decide) (by decide) ?_
    show Steps p.tables e below (s₁.setTop (mkF m 8 #[.val (.int (3 : Int32))] [])) _
    refine XS.iloadN X0.here hx rfl (hb hby d1_8) rfl ?_
    show Steps p.tables e below (s₁.setTop (mkF m 9 #[.val (.int (3 : Int32))] [(.int (3 : Int32))])) _
    refine XS.iconst X0.here hx rfl (hb hby d1_9) ?_
    show Steps p.tables e below (s₁.setTop (mkF m 10 #[.val (.int (3 : Int32))] [(.int (1 : Int32)), (.int (3 : Int32))])) _
    refine XS.icmpYes X0.here hx rfl (pc0 := 10) (pc' := 17) rfl (hb hby d1_10) rfl (feq (by decide : ¬ (3 : Int32) = (1 : Int32))).2 (by decide) (by decide) ?_
    show Steps p.tables e below (s₁.setTop (mkF m 17 #[.val (.int (3 : Int32))] [])) _
    refine XS.iloadN X0.here hx rfl (hb hby d1_17) rfl ?_
    show Steps p.tables e below (s₁.setTop (mkF m 18 #[.val (.int (3 : Int32))] [(.int (3 : Int32))])) _
    refine XS.iconst X0.here hx rfl (hb hby d1_18) ?_
    show Steps p.tables e below (s₁.setTop (mkF m 19 #[.val (.int (3 : Int32))] [(.int (2 : Int32)), (.int (3 : Int32))])) _
    refine XS.icmpYes X0.here hx rfl (pc0 := 19) (pc' := 26) rfl (hb hby d1_19) rfl (feq (by decide : ¬ (3 : Int32) = (2 : Int32))).2 (by decide) (by decide) ?_
    show Steps p.tables e below (s₁.setTop (mkF m 26 #[.val (.int (3 : Int32))] [])) _
    refine XS.iloadN X0.here hx rfl (hb hby d1_26) rfl ?_
    show Steps p.tables e below (s₁.setTop (mkF m 27 #[.val (.int (3 : Int32))] [(.int (3 : Int32))])) _
    refine XS.iconst X0.here hx rfl (hb hby d1_27) ?_
    show Steps p.tables e below (s₁.setTop (mkF m 28 #[.val (.int (3 : Int32))] [(.int (3 : Int32)), (.int (3 : Int32))])) _
    refine XS.icmpNo X0.here hx rfl (hb hby d1_28) rfl (teq rfl).2 ?_
    show Steps p.tables e below (s₁.setTop (mkF m 31 #[.val (.int (3 : Int32))] [])) _
    refine XS.iconst X0.here hx rfl (hb hby d1_31) ?_
    show Steps p.tables e below (s₁.setTop (mkF m 32 #[.val (.int (3 : Int32))] [(.int (3 : Int32))])) _
    refine st101 _ ?_
    show Steps p.tables e below (T101.setTop (mkF m 34 #[.val (.int (3 : Int32))] [(.ref b101)])) _
    exact own_retA X101 hx (t := (.array .byte)) rfl Bd.returns (hb hby d1_34) hr
  · show QB Z 3 h0 n0 _ T101.heap _
    rw [e101]
    exact ⟨b101, rfl, N0, KC101, sz_b101, V101⟩
set_option maxRecDepth 65536 in
set_option maxHeartbeats 40000000 in
theorem rmB4 (l : Launch) (Z : State) (a0 : Array Value) (hw : ∀ d ∈ tables_1, d.before a0 Z = true) (ws : List Jvm.Cond)  (h0 : Heap) (n0 : Nat) (Z0 : n0 ≤ h0.size)  :
    MetFree l (⟨"com/example/seglport/seglport/soap/SplicedMessageLengthPinLaw", "bytes", "(I)[B"⟩ : MethodName) (head1 (Jvm.Cond.code (⟨"com/example/seglport/seglport/soap/SplicedMessageLengthPinLaw", "bytes", "(I)[B"⟩ : MethodName) method_2_code 1 (some (.array .byte)) :: ws) ({ frames := 0, cells := 1, slots := 7, locals := 0 } : Room)) (fun a U => a = #[(.int (4 : Int32))] ∧ Z.Warmed39 U.vm ∧ U.heap = h0) (fun _ _ _ _ _ => True) (fun _ U o U' => ∃ v L, o = .returned v ∧ QB Z 4 h0 n0 v U'.heap L ∧ FrameEnd U o U' L ({ frames := 0, cells := 1, slots := 7, locals := 0 } : Room).cells ({ frames := 0, cells := 1, slots := 7, locals := 0 } : Room).slots) := by
  refine MetFree.of_bodySF (plainFor_of_name own_pn0) hisR ?_
  intro p e s m args below meth c s₁ Bd hml0 hP hK
  obtain ⟨rfl, hZ, hh⟩ := hP
  have hx := Bd.exec
  have hby := Bd.bytes
  have hml : c.maxLocals = 1 := hml0
  have hown : s.vm.findClass "com/example/seglport/seglport/soap/SplicedMessageLengthPinLaw" = some m.cls := findClass_of_methodNamed Bd.named
  have hnm := (name_of_methodNamed Bd.named Bd.method).1
  have X0 : Stand p l e ({ frames := 0, cells := 1, slots := 7, locals := 0 } : Room) s m #[(.int (4 : Int32))] below meth c s₁ [] 0 0 := Stand.of_body Bd
  have e0 : s₁.heap = h0 := by rw [← hh, Bd.state]; rfl
  have N0 := Fr.nil n0
  have ef : entryFrame m #[(.int (4 : Int32))] 1 = mkF m 0 #[.val (.int (4 : Int32))] [] := by first | (simp [entryFrame, mkF, argsToLocals, Value.category]; done) | rfl
  have pre0 : ∀ t, Steps p.tables e below (s₁.setTop (mkF m 0 #[.val (.int (4 : Int32))] [])) t → Steps p.tables e below (s₁.setTop (entryFrame m #[(.int (4 : Int32))] 1)) t := fun t k => castTop ef k
  obtain ⟨T101, h101, k101, X101, e101, E101, A101, Ex101, st101⟩ := newPE X0 hx hZ (aty := .byte) (hw _ (List.mem_of_getElem? (i := 0) rfl)) e0 (g := (mkF m 41 #[.val (.int (4 : Int32))] [(.int (4 : Int32))])) rfl (hb hby d1_41) rfl (by decide) (cap := 4) (by decide) (by decide) (by decide) (by decide) (ad := "[B") (by decide)
  obtain ⟨b101, g101⟩ : ∃ z, z = h0.size := ⟨_, rfl⟩
  rw [← g101] at A101 Ex101 st101
  have g_b101 : n0 ≤ b101 := Nat.le_trans Z0 (Nat.le_of_eq g101.symm)
  have sz_b101 : h0.size ≤ b101 := Nat.le_trans (Keep.refl h0 []).1 (Nat.le_of_eq g101.symm)
  have Z101 : n0 ≤ h101.size := Nat.le_trans Z0 E101.1
  have KC101 : Keep h0 h101 [] := (Keep.refl h0 []).ext E101
  have V101 : OwnA Z h101 b101 .byte 4 (fun _ => (.int (0 : Int32))) := OwnA.new A101 rfl
  obtain ⟨fs, hr, hrun, hended, hW, hsame⟩ := X101.leave (v := some (.ref b101)) (fun h => by rw [Bd.returns] at h; cases h)
  refine ⟨_, _, pre0 _ ?_, hrun, hended, _, _, rfl, ?_, ⟨_, rfl⟩, hW, hsame.mono (by decide) (by decide)⟩
  · show Steps p.tables e below (s₁.setTop (mkF m 0 #[.val (.int (4 : Int32))] [])) _
    refine XS.iloadN X0.here hx rfl (hb hby d1_0) rfl ?_
    show Steps p.tables e below (s₁.setTop (mkF m 1 #[.val (.int (4 : Int32))] [(.int (4 : Int32))])) _
    refine XS.ifYes X0.here hx rfl (pc0 := 1) (pc' := 8) rfl (hb hby d1_1) rfl ((if0 _ _).trans (feq (by decide : ¬ (4 : Int32) = (0 : Int32))).2) (by decide) (by decide) ?_
    show Steps p.tables e below (s₁.setTop (mkF m 8 #[.val (.int (4 : Int32))] [])) _
    refine XS.iloadN X0.here hx rfl (hb hby d1_8) rfl ?_
    show Steps p.tables e below (s₁.setTop (mkF m 9 #[.val (.int (4 : Int32))] [(.int (4 : Int32))])) _
    refine XS.iconst X0.here hx rfl (hb hby d1_9) ?_
    show Steps p.tables e below (s₁.setTop (mkF m 10 #[.val (.int (4 : Int32))] [(.int (1 : Int32)), (.int (4 : Int32))])) _
    refine XS.icmpYes X0.here hx rfl (pc0 := 10) (pc' := 17) rfl (hb hby d1_10) rfl (feq (by decide : ¬ (4 : Int32) = (1 : Int32))).2 (by decide) (by decide) ?_
    show Steps p.tables e below (s₁.setTop (mkF m 17 #[.val (.int (4 : Int32))] [])) _
    refine XS.iloadN X0.here hx rfl (hb hby d1_17) rfl ?_
    show Steps p.tables e below (s₁.setTop (mkF m 18 #[.val (.int (4 : Int32))] [(.int (4 : Int32))])) _
    refine XS.iconst X0.here hx rfl (hb hby d1_18) ?_
    show Steps p.tables e below (s₁.setTop (mkF m 19 #[.val (.int (4 : Int32))] [(.int (2 : Int32)), (.int (4 : Int32))])) _
    refine XS.icmpYes X0.here hx rfl (pc0 := 19) (pc' := 26) rfl (hb hby d1_19) rfl (feq (by decide : ¬ (4 : Int32) = (2 : Int32))).2 (by decide) (by decide) ?_
    show Steps p.tables e below (s₁.setTop (mkF m 26 #[.val (.int (4 : Int32))] [])) _
    refine XS.iloadN X0.here hx rfl (hb hby d1_26) rfl ?_
    show Steps p.tables e below (s₁.setTop (mkF m 27 #[.val (.int (4 : Int32))] [(.int (4 : Int32))])) _
    refine XS.iconst X0.here hx rfl (hb hby d1_27) ?_
    show Steps p.tables e below (s₁.setTop (mkF m 28 #[.val (.int (4 : Int32))] [(.int (3 : Int32)), (.int (4 : Int32))])) _
    refine XS.icmpYes X0.here hx rfl (pc0 := 28) (pc' := 35) rfl (hb hby d1_28) rfl (feq (by decide : ¬ (4 : Int32) = (3 : Int32))).2 (by decide) (by decide) ?_
    show Steps p.tables e below (s₁.setTop (mkF m 35 #[.val (.int (4 : Int32))] [])) _
    refine XS.iloadN X0.here hx rfl (hb hby d1_35) rfl ?_
    show Steps p.tables e below (s₁.setTop (mkF m 36 #[.val (.int (4 : Int32))] [(.int (4 : Int32))])) _
    refine XS.iconst X0.here hx rfl (hb hby d1_36) ?_
    show Steps p.tables e below (s₁.setTop (mkF m 37 #[.val (.int (4 : Int32))] [(.int (4 : Int32)), (.int (4 : Int32))])) _
    refine XS.icmpNo X0.here hx rfl (hb hby d1_37) rfl (teq rfl).2 ?_
    show Steps p.tables e below (s₁.setTop (mkF m 40 #[.val (.int (4 : Int32))] [])) _
    refine XS.iconst X0.here hx rfl (hb hby d1_40) ?_
    show Steps p.tables e below (s₁.setTop (mkF m 41 #[.val (.int (4 : Int32))] [(.int (4 : Int32))])) _
    refine st101 _ ?_
    show Steps p.tables e below (T101.setTop (mkF m 43 #[.val (.int (4 : Int32))] [(.ref b101)])) _
    exact own_retA X101 hx (t := (.array .byte)) rfl Bd.returns (hb hby d1_43) hr
  · show QB Z 4 h0 n0 _ T101.heap _
    rw [e101]
    exact ⟨b101, rfl, N0, KC101, sz_b101, V101⟩
set_option maxRecDepth 65536 in
set_option maxHeartbeats 40000000 in
theorem rmB5 (l : Launch) (Z : State) (a0 : Array Value) (hw : ∀ d ∈ tables_1, d.before a0 Z = true) (ws : List Jvm.Cond)  (h0 : Heap) (n0 : Nat) (Z0 : n0 ≤ h0.size)  :
    MetFree l (⟨"com/example/seglport/seglport/soap/SplicedMessageLengthPinLaw", "bytes", "(I)[B"⟩ : MethodName) (head1 (Jvm.Cond.code (⟨"com/example/seglport/seglport/soap/SplicedMessageLengthPinLaw", "bytes", "(I)[B"⟩ : MethodName) method_2_code 1 (some (.array .byte)) :: ws) ({ frames := 0, cells := 1, slots := 7, locals := 0 } : Room)) (fun a U => a = #[(.int (5 : Int32))] ∧ Z.Warmed39 U.vm ∧ U.heap = h0) (fun _ _ _ _ _ => True) (fun _ U o U' => ∃ v L, o = .returned v ∧ QB Z 5 h0 n0 v U'.heap L ∧ FrameEnd U o U' L ({ frames := 0, cells := 1, slots := 7, locals := 0 } : Room).cells ({ frames := 0, cells := 1, slots := 7, locals := 0 } : Room).slots) := by
  refine MetFree.of_bodySF (plainFor_of_name own_pn0) hisR ?_
  intro p e s m args below meth c s₁ Bd hml0 hP hK
  obtain ⟨rfl, hZ, hh⟩ := hP
  have hx := Bd.exec
  have hby := Bd.bytes
  have hml : c.maxLocals = 1 := hml0
  have hown : s.vm.findClass "com/example/seglport/seglport/soap/SplicedMessageLengthPinLaw" = some m.cls := findClass_of_methodNamed Bd.named
  have hnm := (name_of_methodNamed Bd.named Bd.method).1
  have X0 : Stand p l e ({ frames := 0, cells := 1, slots := 7, locals := 0 } : Room) s m #[(.int (5 : Int32))] below meth c s₁ [] 0 0 := Stand.of_body Bd
  have e0 : s₁.heap = h0 := by rw [← hh, Bd.state]; rfl
  have N0 := Fr.nil n0
  have ef : entryFrame m #[(.int (5 : Int32))] 1 = mkF m 0 #[.val (.int (5 : Int32))] [] := by first | (simp [entryFrame, mkF, argsToLocals, Value.category]; done) | rfl
  have pre0 : ∀ t, Steps p.tables e below (s₁.setTop (mkF m 0 #[.val (.int (5 : Int32))] [])) t → Steps p.tables e below (s₁.setTop (entryFrame m #[(.int (5 : Int32))] 1)) t := fun t k => castTop ef k
  obtain ⟨T101, h101, k101, X101, e101, E101, A101, Ex101, st101⟩ := newPE X0 hx hZ (aty := .byte) (hw _ (List.mem_of_getElem? (i := 0) rfl)) e0 (g := (mkF m 50 #[.val (.int (5 : Int32))] [(.int (5 : Int32))])) rfl (hb hby d1_50) rfl (by decide) (cap := 5) (by decide) (by decide) (by decide) (by decide) (ad := "[B") (by decide)
  obtain ⟨b101, g101⟩ : ∃ z, z = h0.size := ⟨_, rfl⟩
  rw [← g101] at A101 Ex101 st101
  have g_b101 : n0 ≤ b101 := Nat.le_trans Z0 (Nat.le_of_eq g101.symm)
  have sz_b101 : h0.size ≤ b101 := Nat.le_trans (Keep.refl h0 []).1 (Nat.le_of_eq g101.symm)
  have Z101 : n0 ≤ h101.size := Nat.le_trans Z0 E101.1
  have KC101 : Keep h0 h101 [] := (Keep.refl h0 []).ext E101
  have V101 : OwnA Z h101 b101 .byte 5 (fun _ => (.int (0 : Int32))) := OwnA.new A101 rfl
  obtain ⟨fs, hr, hrun, hended, hW, hsame⟩ := X101.leave (v := some (.ref b101)) (fun h => by rw [Bd.returns] at h; cases h)
  refine ⟨_, _, pre0 _ ?_, hrun, hended, _, _, rfl, ?_, ⟨_, rfl⟩, hW, hsame.mono (by decide) (by decide)⟩
  · show Steps p.tables e below (s₁.setTop (mkF m 0 #[.val (.int (5 : Int32))] [])) _
    refine XS.iloadN X0.here hx rfl (hb hby d1_0) rfl ?_
    show Steps p.tables e below (s₁.setTop (mkF m 1 #[.val (.int (5 : Int32))] [(.int (5 : Int32))])) _
    refine XS.ifYes X0.here hx rfl (pc0 := 1) (pc' := 8) rfl (hb hby d1_1) rfl ((if0 _ _).trans (feq (by decide : ¬ (5 : Int32) = (0 : Int32))).2) (by decide) (by decide) ?_
    show Steps p.tables e below (s₁.setTop (mkF m 8 #[.val (.int (5 : Int32))] [])) _
    refine XS.iloadN X0.here hx rfl (hb hby d1_8) rfl ?_
    show Steps p.tables e below (s₁.setTop (mkF m 9 #[.val (.int (5 : Int32))] [(.int (5 : Int32))])) _
    refine XS.iconst X0.here hx rfl (hb hby d1_9) ?_
    show Steps p.tables e below (s₁.setTop (mkF m 10 #[.val (.int (5 : Int32))] [(.int (1 : Int32)), (.int (5 : Int32))])) _
    refine XS.icmpYes X0.here hx rfl (pc0 := 10) (pc' := 17) rfl (hb hby d1_10) rfl (feq (by decide : ¬ (5 : Int32) = (1 : Int32))).2 (by decide) (by decide) ?_
    show Steps p.tables e below (s₁.setTop (mkF m 17 #[.val (.int (5 : Int32))] [])) _
    refine XS.iloadN X0.here hx rfl (hb hby d1_17) rfl ?_
    show Steps p.tables e below (s₁.setTop (mkF m 18 #[.val (.int (5 : Int32))] [(.int (5 : Int32))])) _
    refine XS.iconst X0.here hx rfl (hb hby d1_18) ?_
    show Steps p.tables e below (s₁.setTop (mkF m 19 #[.val (.int (5 : Int32))] [(.int (2 : Int32)), (.int (5 : Int32))])) _
    refine XS.icmpYes X0.here hx rfl (pc0 := 19) (pc' := 26) rfl (hb hby d1_19) rfl (feq (by decide : ¬ (5 : Int32) = (2 : Int32))).2 (by decide) (by decide) ?_
    show Steps p.tables e below (s₁.setTop (mkF m 26 #[.val (.int (5 : Int32))] [])) _
    refine XS.iloadN X0.here hx rfl (hb hby d1_26) rfl ?_
    show Steps p.tables e below (s₁.setTop (mkF m 27 #[.val (.int (5 : Int32))] [(.int (5 : Int32))])) _
    refine XS.iconst X0.here hx rfl (hb hby d1_27) ?_
    show Steps p.tables e below (s₁.setTop (mkF m 28 #[.val (.int (5 : Int32))] [(.int (3 : Int32)), (.int (5 : Int32))])) _
    refine XS.icmpYes X0.here hx rfl (pc0 := 28) (pc' := 35) rfl (hb hby d1_28) rfl (feq (by decide : ¬ (5 : Int32) = (3 : Int32))).2 (by decide) (by decide) ?_
    show Steps p.tables e below (s₁.setTop (mkF m 35 #[.val (.int (5 : Int32))] [])) _
    refine XS.iloadN X0.here hx rfl (hb hby d1_35) rfl ?_
    show Steps p.tables e below (s₁.setTop (mkF m 36 #[.val (.int (5 : Int32))] [(.int (5 : Int32))])) _
    refine XS.iconst X0.here hx rfl (hb hby d1_36) ?_
    show Steps p.tables e below (s₁.setTop (mkF m 37 #[.val (.int (5 : Int32))] [(.int (4 : Int32)), (.int (5 : Int32))])) _
    refine XS.icmpYes X0.here hx rfl (pc0 := 37) (pc' := 44) rfl (hb hby d1_37) rfl (feq (by decide : ¬ (5 : Int32) = (4 : Int32))).2 (by decide) (by decide) ?_
    show Steps p.tables e below (s₁.setTop (mkF m 44 #[.val (.int (5 : Int32))] [])) _
    refine XS.iloadN X0.here hx rfl (hb hby d1_44) rfl ?_
    show Steps p.tables e below (s₁.setTop (mkF m 45 #[.val (.int (5 : Int32))] [(.int (5 : Int32))])) _
    refine XS.iconst X0.here hx rfl (hb hby d1_45) ?_
    show Steps p.tables e below (s₁.setTop (mkF m 46 #[.val (.int (5 : Int32))] [(.int (5 : Int32)), (.int (5 : Int32))])) _
    refine XS.icmpNo X0.here hx rfl (hb hby d1_46) rfl (teq rfl).2 ?_
    show Steps p.tables e below (s₁.setTop (mkF m 49 #[.val (.int (5 : Int32))] [])) _
    refine XS.iconst X0.here hx rfl (hb hby d1_49) ?_
    show Steps p.tables e below (s₁.setTop (mkF m 50 #[.val (.int (5 : Int32))] [(.int (5 : Int32))])) _
    refine st101 _ ?_
    show Steps p.tables e below (T101.setTop (mkF m 52 #[.val (.int (5 : Int32))] [(.ref b101)])) _
    exact own_retA X101 hx (t := (.array .byte)) rfl Bd.returns (hb hby d1_52) hr
  · show QB Z 5 h0 n0 _ T101.heap _
    rw [e101]
    exact ⟨b101, rfl, N0, KC101, sz_b101, V101⟩
set_option maxRecDepth 65536 in
set_option maxHeartbeats 40000000 in
theorem rmB6 (l : Launch) (Z : State) (a0 : Array Value) (hw : ∀ d ∈ tables_1, d.before a0 Z = true) (ws : List Jvm.Cond)  (h0 : Heap) (n0 : Nat) (Z0 : n0 ≤ h0.size)  :
    MetFree l (⟨"com/example/seglport/seglport/soap/SplicedMessageLengthPinLaw", "bytes", "(I)[B"⟩ : MethodName) (head1 (Jvm.Cond.code (⟨"com/example/seglport/seglport/soap/SplicedMessageLengthPinLaw", "bytes", "(I)[B"⟩ : MethodName) method_2_code 1 (some (.array .byte)) :: ws) ({ frames := 0, cells := 1, slots := 7, locals := 0 } : Room)) (fun a U => a = #[(.int (6 : Int32))] ∧ Z.Warmed39 U.vm ∧ U.heap = h0) (fun _ _ _ _ _ => True) (fun _ U o U' => ∃ v L, o = .returned v ∧ QB Z 6 h0 n0 v U'.heap L ∧ FrameEnd U o U' L ({ frames := 0, cells := 1, slots := 7, locals := 0 } : Room).cells ({ frames := 0, cells := 1, slots := 7, locals := 0 } : Room).slots) := by
  refine MetFree.of_bodySF (plainFor_of_name own_pn0) hisR ?_
  intro p e s m args below meth c s₁ Bd hml0 hP hK
  obtain ⟨rfl, hZ, hh⟩ := hP
  have hx := Bd.exec
  have hby := Bd.bytes
  have hml : c.maxLocals = 1 := hml0
  have hown : s.vm.findClass "com/example/seglport/seglport/soap/SplicedMessageLengthPinLaw" = some m.cls := findClass_of_methodNamed Bd.named
  have hnm := (name_of_methodNamed Bd.named Bd.method).1
  have X0 : Stand p l e ({ frames := 0, cells := 1, slots := 7, locals := 0 } : Room) s m #[(.int (6 : Int32))] below meth c s₁ [] 0 0 := Stand.of_body Bd
  have e0 : s₁.heap = h0 := by rw [← hh, Bd.state]; rfl
  have N0 := Fr.nil n0
  have ef : entryFrame m #[(.int (6 : Int32))] 1 = mkF m 0 #[.val (.int (6 : Int32))] [] := by first | (simp [entryFrame, mkF, argsToLocals, Value.category]; done) | rfl
  have pre0 : ∀ t, Steps p.tables e below (s₁.setTop (mkF m 0 #[.val (.int (6 : Int32))] [])) t → Steps p.tables e below (s₁.setTop (entryFrame m #[(.int (6 : Int32))] 1)) t := fun t k => castTop ef k
  obtain ⟨T101, h101, k101, X101, e101, E101, A101, Ex101, st101⟩ := newPE X0 hx hZ (aty := .byte) (hw _ (List.mem_of_getElem? (i := 0) rfl)) e0 (g := (mkF m 61 #[.val (.int (6 : Int32))] [(.int (6 : Int32))])) rfl (hb hby d1_61) rfl (by decide) (cap := 6) (by decide) (by decide) (by decide) (by decide) (ad := "[B") (by decide)
  obtain ⟨b101, g101⟩ : ∃ z, z = h0.size := ⟨_, rfl⟩
  rw [← g101] at A101 Ex101 st101
  have g_b101 : n0 ≤ b101 := Nat.le_trans Z0 (Nat.le_of_eq g101.symm)
  have sz_b101 : h0.size ≤ b101 := Nat.le_trans (Keep.refl h0 []).1 (Nat.le_of_eq g101.symm)
  have Z101 : n0 ≤ h101.size := Nat.le_trans Z0 E101.1
  have KC101 : Keep h0 h101 [] := (Keep.refl h0 []).ext E101
  have V101 : OwnA Z h101 b101 .byte 6 (fun _ => (.int (0 : Int32))) := OwnA.new A101 rfl
  obtain ⟨fs, hr, hrun, hended, hW, hsame⟩ := X101.leave (v := some (.ref b101)) (fun h => by rw [Bd.returns] at h; cases h)
  refine ⟨_, _, pre0 _ ?_, hrun, hended, _, _, rfl, ?_, ⟨_, rfl⟩, hW, hsame.mono (by decide) (by decide)⟩
  · show Steps p.tables e below (s₁.setTop (mkF m 0 #[.val (.int (6 : Int32))] [])) _
    refine XS.iloadN X0.here hx rfl (hb hby d1_0) rfl ?_
    show Steps p.tables e below (s₁.setTop (mkF m 1 #[.val (.int (6 : Int32))] [(.int (6 : Int32))])) _
    refine XS.ifYes X0.here hx rfl (pc0 := 1) (pc' := 8) rfl (hb hby d1_1) rfl ((if0 _ _).trans (feq (by decide : ¬ (6 : Int32) = (0 : Int32))).2) (by decide) (by decide) ?_
    show Steps p.tables e below (s₁.setTop (mkF m 8 #[.val (.int (6 : Int32))] [])) _
    refine XS.iloadN X0.here hx rfl (hb hby d1_8) rfl ?_
    show Steps p.tables e below (s₁.setTop (mkF m 9 #[.val (.int (6 : Int32))] [(.int (6 : Int32))])) _
    refine XS.iconst X0.here hx rfl (hb hby d1_9) ?_
    show Steps p.tables e below (s₁.setTop (mkF m 10 #[.val (.int (6 : Int32))] [(.int (1 : Int32)), (.int (6 : Int32))])) _
    refine XS.icmpYes X0.here hx rfl (pc0 := 10) (pc' := 17) rfl (hb hby d1_10) rfl (feq (by decide : ¬ (6 : Int32) = (1 : Int32))).2 (by decide) (by decide) ?_
    show Steps p.tables e below (s₁.setTop (mkF m 17 #[.val (.int (6 : Int32))] [])) _
    refine XS.iloadN X0.here hx rfl (hb hby d1_17) rfl ?_
    show Steps p.tables e below (s₁.setTop (mkF m 18 #[.val (.int (6 : Int32))] [(.int (6 : Int32))])) _
    refine XS.iconst X0.here hx rfl (hb hby d1_18) ?_
    show Steps p.tables e below (s₁.setTop (mkF m 19 #[.val (.int (6 : Int32))] [(.int (2 : Int32)), (.int (6 : Int32))])) _
    refine XS.icmpYes X0.here hx rfl (pc0 := 19) (pc' := 26) rfl (hb hby d1_19) rfl (feq (by decide : ¬ (6 : Int32) = (2 : Int32))).2 (by decide) (by decide) ?_
    show Steps p.tables e below (s₁.setTop (mkF m 26 #[.val (.int (6 : Int32))] [])) _
    refine XS.iloadN X0.here hx rfl (hb hby d1_26) rfl ?_
    show Steps p.tables e below (s₁.setTop (mkF m 27 #[.val (.int (6 : Int32))] [(.int (6 : Int32))])) _
    refine XS.iconst X0.here hx rfl (hb hby d1_27) ?_
    show Steps p.tables e below (s₁.setTop (mkF m 28 #[.val (.int (6 : Int32))] [(.int (3 : Int32)), (.int (6 : Int32))])) _
    refine XS.icmpYes X0.here hx rfl (pc0 := 28) (pc' := 35) rfl (hb hby d1_28) rfl (feq (by decide : ¬ (6 : Int32) = (3 : Int32))).2 (by decide) (by decide) ?_
    show Steps p.tables e below (s₁.setTop (mkF m 35 #[.val (.int (6 : Int32))] [])) _
    refine XS.iloadN X0.here hx rfl (hb hby d1_35) rfl ?_
    show Steps p.tables e below (s₁.setTop (mkF m 36 #[.val (.int (6 : Int32))] [(.int (6 : Int32))])) _
    refine XS.iconst X0.here hx rfl (hb hby d1_36) ?_
    show Steps p.tables e below (s₁.setTop (mkF m 37 #[.val (.int (6 : Int32))] [(.int (4 : Int32)), (.int (6 : Int32))])) _
    refine XS.icmpYes X0.here hx rfl (pc0 := 37) (pc' := 44) rfl (hb hby d1_37) rfl (feq (by decide : ¬ (6 : Int32) = (4 : Int32))).2 (by decide) (by decide) ?_
    show Steps p.tables e below (s₁.setTop (mkF m 44 #[.val (.int (6 : Int32))] [])) _
    refine XS.iloadN X0.here hx rfl (hb hby d1_44) rfl ?_
    show Steps p.tables e below (s₁.setTop (mkF m 45 #[.val (.int (6 : Int32))] [(.int (6 : Int32))])) _
    refine XS.iconst X0.here hx rfl (hb hby d1_45) ?_
    show Steps p.tables e below (s₁.setTop (mkF m 46 #[.val (.int (6 : Int32))] [(.int (5 : Int32)), (.int (6 : Int32))])) _
    refine XS.icmpYes X0.here hx rfl (pc0 := 46) (pc' := 53) rfl (hb hby d1_46) rfl (feq (by decide : ¬ (6 : Int32) = (5 : Int32))).2 (by decide) (by decide) ?_
    show Steps p.tables e below (s₁.setTop (mkF m 53 #[.val (.int (6 : Int32))] [])) _
    refine XS.iloadN X0.here hx rfl (hb hby d1_53) rfl ?_
    show Steps p.tables e below (s₁.setTop (mkF m 54 #[.val (.int (6 : Int32))] [(.int (6 : Int32))])) _
    refine XS.bipush X0.here hx rfl (hb hby d1_54) ?_
    show Steps p.tables e below (s₁.setTop (mkF m 56 #[.val (.int (6 : Int32))] [(.int (6 : Int32)), (.int (6 : Int32))])) _
    refine XS.icmpNo X0.here hx rfl (hb hby d1_56) rfl (teq rfl).2 ?_
    show Steps p.tables e below (s₁.setTop (mkF m 59 #[.val (.int (6 : Int32))] [])) _
    refine XS.bipush X0.here hx rfl (hb hby d1_59) ?_
    show Steps p.tables e below (s₁.setTop (mkF m 61 #[.val (.int (6 : Int32))] [(.int (6 : Int32))])) _
    refine st101 _ ?_
    show Steps p.tables e below (T101.setTop (mkF m 63 #[.val (.int (6 : Int32))] [(.ref b101)])) _
    exact own_retA X101 hx (t := (.array .byte)) rfl Bd.returns (hb hby d1_63) hr
  · show QB Z 6 h0 n0 _ T101.heap _
    rw [e101]
    exact ⟨b101, rfl, N0, KC101, sz_b101, V101⟩
set_option maxRecDepth 65536 in
set_option maxHeartbeats 40000000 in
theorem rmB7 (l : Launch) (Z : State) (a0 : Array Value) (hw : ∀ d ∈ tables_1, d.before a0 Z = true) (ws : List Jvm.Cond)  (h0 : Heap) (n0 : Nat) (Z0 : n0 ≤ h0.size)  :
    MetFree l (⟨"com/example/seglport/seglport/soap/SplicedMessageLengthPinLaw", "bytes", "(I)[B"⟩ : MethodName) (head1 (Jvm.Cond.code (⟨"com/example/seglport/seglport/soap/SplicedMessageLengthPinLaw", "bytes", "(I)[B"⟩ : MethodName) method_2_code 1 (some (.array .byte)) :: ws) ({ frames := 0, cells := 1, slots := 7, locals := 0 } : Room)) (fun a U => a = #[(.int (7 : Int32))] ∧ Z.Warmed39 U.vm ∧ U.heap = h0) (fun _ _ _ _ _ => True) (fun _ U o U' => ∃ v L, o = .returned v ∧ QB Z 7 h0 n0 v U'.heap L ∧ FrameEnd U o U' L ({ frames := 0, cells := 1, slots := 7, locals := 0 } : Room).cells ({ frames := 0, cells := 1, slots := 7, locals := 0 } : Room).slots) := by
  refine MetFree.of_bodySF (plainFor_of_name own_pn0) hisR ?_
  intro p e s m args below meth c s₁ Bd hml0 hP hK
  obtain ⟨rfl, hZ, hh⟩ := hP
  have hx := Bd.exec
  have hby := Bd.bytes
  have hml : c.maxLocals = 1 := hml0
  have hown : s.vm.findClass "com/example/seglport/seglport/soap/SplicedMessageLengthPinLaw" = some m.cls := findClass_of_methodNamed Bd.named
  have hnm := (name_of_methodNamed Bd.named Bd.method).1
  have X0 : Stand p l e ({ frames := 0, cells := 1, slots := 7, locals := 0 } : Room) s m #[(.int (7 : Int32))] below meth c s₁ [] 0 0 := Stand.of_body Bd
  have e0 : s₁.heap = h0 := by rw [← hh, Bd.state]; rfl
  have N0 := Fr.nil n0
  have ef : entryFrame m #[(.int (7 : Int32))] 1 = mkF m 0 #[.val (.int (7 : Int32))] [] := by first | (simp [entryFrame, mkF, argsToLocals, Value.category]; done) | rfl
  have pre0 : ∀ t, Steps p.tables e below (s₁.setTop (mkF m 0 #[.val (.int (7 : Int32))] [])) t → Steps p.tables e below (s₁.setTop (entryFrame m #[(.int (7 : Int32))] 1)) t := fun t k => castTop ef k
  obtain ⟨T101, h101, k101, X101, e101, E101, A101, Ex101, st101⟩ := newPE X0 hx hZ (aty := .byte) (hw _ (List.mem_of_getElem? (i := 0) rfl)) e0 (g := (mkF m 66 #[.val (.int (7 : Int32))] [(.int (7 : Int32))])) rfl (hb hby d1_66) rfl (by decide) (cap := 7) (by decide) (by decide) (by decide) (by decide) (ad := "[B") (by decide)
  obtain ⟨b101, g101⟩ : ∃ z, z = h0.size := ⟨_, rfl⟩
  rw [← g101] at A101 Ex101 st101
  have g_b101 : n0 ≤ b101 := Nat.le_trans Z0 (Nat.le_of_eq g101.symm)
  have sz_b101 : h0.size ≤ b101 := Nat.le_trans (Keep.refl h0 []).1 (Nat.le_of_eq g101.symm)
  have Z101 : n0 ≤ h101.size := Nat.le_trans Z0 E101.1
  have KC101 : Keep h0 h101 [] := (Keep.refl h0 []).ext E101
  have V101 : OwnA Z h101 b101 .byte 7 (fun _ => (.int (0 : Int32))) := OwnA.new A101 rfl
  obtain ⟨fs, hr, hrun, hended, hW, hsame⟩ := X101.leave (v := some (.ref b101)) (fun h => by rw [Bd.returns] at h; cases h)
  refine ⟨_, _, pre0 _ ?_, hrun, hended, _, _, rfl, ?_, ⟨_, rfl⟩, hW, hsame.mono (by decide) (by decide)⟩
  · show Steps p.tables e below (s₁.setTop (mkF m 0 #[.val (.int (7 : Int32))] [])) _
    refine XS.iloadN X0.here hx rfl (hb hby d1_0) rfl ?_
    show Steps p.tables e below (s₁.setTop (mkF m 1 #[.val (.int (7 : Int32))] [(.int (7 : Int32))])) _
    refine XS.ifYes X0.here hx rfl (pc0 := 1) (pc' := 8) rfl (hb hby d1_1) rfl ((if0 _ _).trans (feq (by decide : ¬ (7 : Int32) = (0 : Int32))).2) (by decide) (by decide) ?_
    show Steps p.tables e below (s₁.setTop (mkF m 8 #[.val (.int (7 : Int32))] [])) _
    refine XS.iloadN X0.here hx rfl (hb hby d1_8) rfl ?_
    show Steps p.tables e below (s₁.setTop (mkF m 9 #[.val (.int (7 : Int32))] [(.int (7 : Int32))])) _
    refine XS.iconst X0.here hx rfl (hb hby d1_9) ?_
    show Steps p.tables e below (s₁.setTop (mkF m 10 #[.val (.int (7 : Int32))] [(.int (1 : Int32)), (.int (7 : Int32))])) _
    refine XS.icmpYes X0.here hx rfl (pc0 := 10) (pc' := 17) rfl (hb hby d1_10) rfl (feq (by decide : ¬ (7 : Int32) = (1 : Int32))).2 (by decide) (by decide) ?_
    show Steps p.tables e below (s₁.setTop (mkF m 17 #[.val (.int (7 : Int32))] [])) _
    refine XS.iloadN X0.here hx rfl (hb hby d1_17) rfl ?_
    show Steps p.tables e below (s₁.setTop (mkF m 18 #[.val (.int (7 : Int32))] [(.int (7 : Int32))])) _
    refine XS.iconst X0.here hx rfl (hb hby d1_18) ?_
    show Steps p.tables e below (s₁.setTop (mkF m 19 #[.val (.int (7 : Int32))] [(.int (2 : Int32)), (.int (7 : Int32))])) _
    refine XS.icmpYes X0.here hx rfl (pc0 := 19) (pc' := 26) rfl (hb hby d1_19) rfl (feq (by decide : ¬ (7 : Int32) = (2 : Int32))).2 (by decide) (by decide) ?_
    show Steps p.tables e below (s₁.setTop (mkF m 26 #[.val (.int (7 : Int32))] [])) _
    refine XS.iloadN X0.here hx rfl (hb hby d1_26) rfl ?_
    show Steps p.tables e below (s₁.setTop (mkF m 27 #[.val (.int (7 : Int32))] [(.int (7 : Int32))])) _
    refine XS.iconst X0.here hx rfl (hb hby d1_27) ?_
    show Steps p.tables e below (s₁.setTop (mkF m 28 #[.val (.int (7 : Int32))] [(.int (3 : Int32)), (.int (7 : Int32))])) _
    refine XS.icmpYes X0.here hx rfl (pc0 := 28) (pc' := 35) rfl (hb hby d1_28) rfl (feq (by decide : ¬ (7 : Int32) = (3 : Int32))).2 (by decide) (by decide) ?_
    show Steps p.tables e below (s₁.setTop (mkF m 35 #[.val (.int (7 : Int32))] [])) _
    refine XS.iloadN X0.here hx rfl (hb hby d1_35) rfl ?_
    show Steps p.tables e below (s₁.setTop (mkF m 36 #[.val (.int (7 : Int32))] [(.int (7 : Int32))])) _
    refine XS.iconst X0.here hx rfl (hb hby d1_36) ?_
    show Steps p.tables e below (s₁.setTop (mkF m 37 #[.val (.int (7 : Int32))] [(.int (4 : Int32)), (.int (7 : Int32))])) _
    refine XS.icmpYes X0.here hx rfl (pc0 := 37) (pc' := 44) rfl (hb hby d1_37) rfl (feq (by decide : ¬ (7 : Int32) = (4 : Int32))).2 (by decide) (by decide) ?_
    show Steps p.tables e below (s₁.setTop (mkF m 44 #[.val (.int (7 : Int32))] [])) _
    refine XS.iloadN X0.here hx rfl (hb hby d1_44) rfl ?_
    show Steps p.tables e below (s₁.setTop (mkF m 45 #[.val (.int (7 : Int32))] [(.int (7 : Int32))])) _
    refine XS.iconst X0.here hx rfl (hb hby d1_45) ?_
    show Steps p.tables e below (s₁.setTop (mkF m 46 #[.val (.int (7 : Int32))] [(.int (5 : Int32)), (.int (7 : Int32))])) _
    refine XS.icmpYes X0.here hx rfl (pc0 := 46) (pc' := 53) rfl (hb hby d1_46) rfl (feq (by decide : ¬ (7 : Int32) = (5 : Int32))).2 (by decide) (by decide) ?_
    show Steps p.tables e below (s₁.setTop (mkF m 53 #[.val (.int (7 : Int32))] [])) _
    refine XS.iloadN X0.here hx rfl (hb hby d1_53) rfl ?_
    show Steps p.tables e below (s₁.setTop (mkF m 54 #[.val (.int (7 : Int32))] [(.int (7 : Int32))])) _
    refine XS.bipush X0.here hx rfl (hb hby d1_54) ?_
    show Steps p.tables e below (s₁.setTop (mkF m 56 #[.val (.int (7 : Int32))] [(.int (6 : Int32)), (.int (7 : Int32))])) _
    refine XS.icmpYes X0.here hx rfl (pc0 := 56) (pc' := 64) rfl (hb hby d1_56) rfl (feq (by decide : ¬ (7 : Int32) = (6 : Int32))).2 (by decide) (by decide) ?_
    show Steps p.tables e below (s₁.setTop (mkF m 64 #[.val (.int (7 : Int32))] [])) _
    refine XS.bipush X0.here hx rfl (hb hby d1_64) ?_
    show Steps p.tables e below (s₁.setTop (mkF m 66 #[.val (.int (7 : Int32))] [(.int (7 : Int32))])) _
    refine st101 _ ?_
    show Steps p.tables e below (T101.setTop (mkF m 68 #[.val (.int (7 : Int32))] [(.ref b101)])) _
    exact own_retA X101 hx (t := (.array .byte)) rfl Bd.returns (hb hby d1_68) hr
  · show QB Z 7 h0 n0 _ T101.heap _
    rw [e101]
    exact ⟨b101, rfl, N0, KC101, sz_b101, V101⟩
def own_small (p : Int32) (N : Nat) : Prop := (p = (0 : Int32) ∧ N = 0) ∨ (p = (1 : Int32) ∧ N = 1) ∨ (p = (2 : Int32) ∧ N = 2) ∨ (p = (3 : Int32) ∧ N = 3) ∨ (p = (4 : Int32) ∧ N = 4) ∨ (p = (5 : Int32) ∧ N = 5) ∨ (p = (6 : Int32) ∧ N = 6) ∨ (p = (7 : Int32) ∧ N = 7)
set_option maxRecDepth 65536 in
set_option maxHeartbeats 40000000 in
theorem rmB (l : Launch) (Z : State) (a0 : Array Value) (hw : ∀ d ∈ tables_1, d.before a0 Z = true) (ws : List Jvm.Cond) (p1 : Int32) (N : Nat) (h0 : Heap) (n0 : Nat) (Z0 : n0 ≤ h0.size) (hp : own_small p1 N) :
    MetFree l (⟨"com/example/seglport/seglport/soap/SplicedMessageLengthPinLaw", "bytes", "(I)[B"⟩ : MethodName) (head1 (Jvm.Cond.code (⟨"com/example/seglport/seglport/soap/SplicedMessageLengthPinLaw", "bytes", "(I)[B"⟩ : MethodName) method_2_code 1 (some (.array .byte)) :: ws) ({ frames := 0, cells := 1, slots := 7, locals := 0 } : Room)) (fun a U => a = #[(.int p1)] ∧ Z.Warmed39 U.vm ∧ U.heap = h0) (fun _ _ _ _ _ => True) (fun _ U o U' => ∃ v L, o = .returned v ∧ QB Z N h0 n0 v U'.heap L ∧ FrameEnd U o U' L ({ frames := 0, cells := 1, slots := 7, locals := 0 } : Room).cells ({ frames := 0, cells := 1, slots := 7, locals := 0 } : Room).slots) := by
  rcases hp with ⟨rfl, rfl⟩ | ⟨rfl, rfl⟩ | ⟨rfl, rfl⟩ | ⟨rfl, rfl⟩ | ⟨rfl, rfl⟩ | ⟨rfl, rfl⟩ | ⟨rfl, rfl⟩ | ⟨rfl, rfl⟩
  · exact rmB0 l Z a0 hw ws  h0 n0 Z0 
  · exact rmB1 l Z a0 hw ws  h0 n0 Z0 
  · exact rmB2 l Z a0 hw ws  h0 n0 Z0 
  · exact rmB3 l Z a0 hw ws  h0 n0 Z0 
  · exact rmB4 l Z a0 hw ws  h0 n0 Z0 
  · exact rmB5 l Z a0 hw ws  h0 n0 Z0 
  · exact rmB6 l Z a0 hw ws  h0 n0 Z0 
  · exact rmB7 l Z a0 hw ws  h0 n0 Z0 
def QI (Z : State) (a1 : Addr) (a2 : Addr) (p3 : Int32) (p4 : Int32) (p5 : Int32) (a6 : Addr) (h0 : Heap) (n0 : Nat) (v : Option Value) (h : Heap) (L : List Loc) : Prop := v = none ∧ Fr n0 L ∧ Keep h0 h [a1] ∧ Exa Z h a1 "com/example/seglport/seglport/soap/SplicedMessage" ∧ Fld Z h a1 "com/example/seglport/seglport/soap/SplicedMessage" "_message" "[B" (.ref a2) ∧ Fld Z h a1 "com/example/seglport/seglport/soap/SplicedMessage" "_length" "I" (.int p3) ∧ Fld Z h a1 "com/example/seglport/seglport/soap/SplicedMessage" "_start" "I" (.int p4) ∧ Fld Z h a1 "com/example/seglport/seglport/soap/SplicedMessage" "_end" "I" (.int p5) ∧ Fld Z h a1 "com/example/seglport/seglport/soap/SplicedMessage" "_inserted" "[B" (.ref a6)
set_option maxRecDepth 65536 in
set_option maxHeartbeats 40000000 in
theorem rmI (l : Launch) (Z : State) (a0 : Array Value) (hw : ∀ d ∈ tables_1, d.before a0 Z = true) (ws : List Jvm.Cond) (a1 : Addr) (a2 : Addr) (p3 : Int32) (p4 : Int32) (p5 : Int32) (a6 : Addr) (h0 : Heap) (n0 : Nat) (Z0 : n0 ≤ h0.size) (Ex : Exa Z h0 a1 "com/example/seglport/seglport/soap/SplicedMessage") (g_a1 : n0 ≤ a1) (F0 : Fld Z h0 a1 "com/example/seglport/seglport/soap/SplicedMessage" "_message" "[B" .null) (F1 : Fld Z h0 a1 "com/example/seglport/seglport/soap/SplicedMessage" "_length" "I" (.int (0 : Int32))) (F2 : Fld Z h0 a1 "com/example/seglport/seglport/soap/SplicedMessage" "_start" "I" (.int (0 : Int32))) (F3 : Fld Z h0 a1 "com/example/seglport/seglport/soap/SplicedMessage" "_end" "I" (.int (0 : Int32))) (F4 : Fld Z h0 a1 "com/example/seglport/seglport/soap/SplicedMessage" "_inserted" "[B" .null) :
    MetFree l (⟨"com/example/seglport/seglport/soap/SplicedMessage", "<init>", "([BIII[B)V"⟩ : MethodName) (head1 (Jvm.Cond.code (⟨"com/example/seglport/seglport/soap/SplicedMessage", "<init>", "([BIII[B)V"⟩ : MethodName) prog_109_method_1_code 6 none :: ws) ({ frames := 1, cells := 0, slots := 0, locals := 12 } : Room)) (fun a U => a = #[(.ref a1), (.ref a2), (.int p3), (.int p4), (.int p5), (.ref a6)] ∧ Z.Warmed39 U.vm ∧ U.heap = h0) (fun _ _ _ _ _ => True) (fun _ U o U' => ∃ v L, o = .returned v ∧ QI Z a1 a2 p3 p4 p5 a6 h0 n0 v U'.heap L ∧ FrameEnd U o U' L ({ frames := 1, cells := 0, slots := 0, locals := 12 } : Room).cells ({ frames := 1, cells := 0, slots := 0, locals := 12 } : Room).slots) := by
  refine MetFree.of_bodySF (plainFor_of_name own_pn1) hisR ?_
  intro p e s m args below meth c s₁ Bd hml0 hP hK
  obtain ⟨rfl, hZ, hh⟩ := hP
  have hx := Bd.exec
  have hby := Bd.bytes
  have hml : c.maxLocals = 6 := hml0
  have hown : s.vm.findClass "com/example/seglport/seglport/soap/SplicedMessage" = some m.cls := findClass_of_methodNamed Bd.named
  have hnm := (name_of_methodNamed Bd.named Bd.method).1
  have X0 : Stand p l e ({ frames := 1, cells := 0, slots := 0, locals := 12 } : Room) s m #[(.ref a1), (.ref a2), (.int p3), (.int p4), (.int p5), (.ref a6)] below meth c s₁ [] 0 0 := Stand.of_body Bd
  have e0 : s₁.heap = h0 := by rw [← hh, Bd.state]; rfl
  have N0 := Fr.nil n0
  have ef : entryFrame m #[(.ref a1), (.ref a2), (.int p3), (.int p4), (.int p5), (.ref a6)] 6 = mkF m 0 #[.val (.ref a1), .val (.ref a2), .val (.int p3), .val (.int p4), .val (.int p5), .val (.ref a6)] [] := by first | (simp [entryFrame, mkF, argsToLocals, Value.category]; done) | rfl
  have pre0 : ∀ t, Steps p.tables e below (s₁.setTop (mkF m 0 #[.val (.ref a1), .val (.ref a2), .val (.int p3), .val (.int p4), .val (.int p5), .val (.ref a6)] [])) t → Steps p.tables e below (s₁.setTop (entryFrame m #[(.ref a1), (.ref a2), (.int p3), (.int p4), (.int p5), (.ref a6)] 6)) t := fun t k => castTop ef k
  obtain ⟨T101, X101, e101, st101⟩ := initO X0 hx hZ hown (hw _ (List.mem_of_getElem? (i := 12) rfl)) (hw _ (List.mem_of_getElem? (i := 13) rfl)) (hw _ (List.mem_of_getElem? (i := 14) rfl)) e0 (g := (mkF m 1 #[.val (.ref a1), .val (.ref a2), .val (.int p3), .val (.int p4), .val (.int p5), .val (.ref a6)] [(.ref a1)])) rfl (by rw [hml]; rfl) rfl (hb hby d2_1) (by decide) (W := 0) (by show 2 * 0 + _ ≤ _; exact Nat.le_of_eq rfl) (by decide)
  obtain ⟨T102, h102, X102, e102, W102, st102⟩ := putF X101 hx hZ hown (host := "") (Or.inl (hw _ (List.mem_of_getElem? (i := 15) rfl))) Via.refl e101 F0 Ex (Or.inr ⟨(hw _ (List.mem_of_getElem? (i := 16) rfl)), rfl, hnm⟩) (hw _ (List.mem_of_getElem? (i := 7) rfl)) (ty := (.array .byte)) (by decide) rfl rfl (g := (mkF m 6 #[.val (.ref a1), .val (.ref a2), .val (.int p3), .val (.int p4), .val (.int p5), .val (.ref a6)] [(.ref a2), (.ref a1)])) rfl rfl (hb hby d2_6)
  have F102 := F0.same W102
  have Z102 : n0 ≤ h102.size := Nat.le_trans Z0 (Nat.le_of_eq W102.size.symm)
  have KC102 : Keep h0 h102 [a1] := (Keep.refl h0 [a1]).wr W102 (Or.inl (List.mem_of_getElem? (i := 0) rfl))
  have N102 := Fr.snoc X102 N0 g_a1
  have f103 := (Ex.wr W102)
  have f104 := (F1.other W102 (Or.inr (slot_ne (Or.inr (hw _ (List.mem_of_getElem? (i := 18) rfl))) (Or.inr (hw _ (List.mem_of_getElem? (i := 16) rfl))) (by decide) (t := .int) (t' := (.array .byte)) (by decide) (by decide))))
  obtain ⟨T105, h105, X105, e105, W105, st105⟩ := putF X102 hx hZ hown (host := "") (Or.inl (hw _ (List.mem_of_getElem? (i := 17) rfl))) Via.refl e102 f104 f103 (Or.inr ⟨(hw _ (List.mem_of_getElem? (i := 18) rfl)), rfl, hnm⟩) (hw _ (List.mem_of_getElem? (i := 7) rfl)) (ty := .int) (by decide) rfl rfl (g := (mkF m 11 #[.val (.ref a1), .val (.ref a2), .val (.int p3), .val (.int p4), .val (.int p5), .val (.ref a6)] [(.int p3), (.ref a1)])) rfl rfl (hb hby d2_11)
  have F105 := f104.same W105
  have Z105 : n0 ≤ h105.size := Nat.le_trans Z102 (Nat.le_of_eq W105.size.symm)
  have KC105 : Keep h0 h105 [a1] := KC102.wr W105 (Or.inl (List.mem_of_getElem? (i := 0) rfl))
  have N105 := Fr.snoc X105 N102 g_a1
  have f106 := (f103.wr W105)
  have f107 := ((F2.other W102 (Or.inr (slot_ne (Or.inr (hw _ (List.mem_of_getElem? (i := 20) rfl))) (Or.inr (hw _ (List.mem_of_getElem? (i := 16) rfl))) (by decide) (t := .int) (t' := (.array .byte)) (by decide) (by decide)))).other W105 (Or.inr (slot_ne (Or.inr (hw _ (List.mem_of_getElem? (i := 20) rfl))) (Or.inr (hw _ (List.mem_of_getElem? (i := 18) rfl))) (by decide) (t := .int) (t' := .int) (by decide) (by decide))))
  obtain ⟨T108, h108, X108, e108, W108, st108⟩ := putF X105 hx hZ hown (host := "") (Or.inl (hw _ (List.mem_of_getElem? (i := 19) rfl))) Via.refl e105 f107 f106 (Or.inr ⟨(hw _ (List.mem_of_getElem? (i := 20) rfl)), rfl, hnm⟩) (hw _ (List.mem_of_getElem? (i := 7) rfl)) (ty := .int) (by decide) rfl rfl (g := (mkF m 16 #[.val (.ref a1), .val (.ref a2), .val (.int p3), .val (.int p4), .val (.int p5), .val (.ref a6)] [(.int p4), (.ref a1)])) rfl rfl (hb hby d2_16)
  have F108 := f107.same W108
  have Z108 : n0 ≤ h108.size := Nat.le_trans Z105 (Nat.le_of_eq W108.size.symm)
  have KC108 : Keep h0 h108 [a1] := KC105.wr W108 (Or.inl (List.mem_of_getElem? (i := 0) rfl))
  have N108 := Fr.snoc X108 N105 g_a1
  have f109 := (f106.wr W108)
  have f110 := (((F3.other W102 (Or.inr (slot_ne (Or.inr (hw _ (List.mem_of_getElem? (i := 22) rfl))) (Or.inr (hw _ (List.mem_of_getElem? (i := 16) rfl))) (by decide) (t := .int) (t' := (.array .byte)) (by decide) (by decide)))).other W105 (Or.inr (slot_ne (Or.inr (hw _ (List.mem_of_getElem? (i := 22) rfl))) (Or.inr (hw _ (List.mem_of_getElem? (i := 18) rfl))) (by decide) (t := .int) (t' := .int) (by decide) (by decide)))).other W108 (Or.inr (slot_ne (Or.inr (hw _ (List.mem_of_getElem? (i := 22) rfl))) (Or.inr (hw _ (List.mem_of_getElem? (i := 20) rfl))) (by decide) (t := .int) (t' := .int) (by decide) (by decide))))
  obtain ⟨T111, h111, X111, e111, W111, st111⟩ := putF X108 hx hZ hown (host := "") (Or.inl (hw _ (List.mem_of_getElem? (i := 21) rfl))) Via.refl e108 f110 f109 (Or.inr ⟨(hw _ (List.mem_of_getElem? (i := 22) rfl)), rfl, hnm⟩) (hw _ (List.mem_of_getElem? (i := 7) rfl)) (ty := .int) (by decide) rfl rfl (g := (mkF m 22 #[.val (.ref a1), .val (.ref a2), .val (.int p3), .val (.int p4), .val (.int p5), .val (.ref a6)] [(.int p5), (.ref a1)])) rfl rfl (hb hby d2_22)
  have F111 := f110.same W111
  have Z111 : n0 ≤ h111.size := Nat.le_trans Z108 (Nat.le_of_eq W111.size.symm)
  have KC111 : Keep h0 h111 [a1] := KC108.wr W111 (Or.inl (List.mem_of_getElem? (i := 0) rfl))
  have N111 := Fr.snoc X111 N108 g_a1
  have f112 := (f109.wr W111)
  have f113 := ((((F4.other W102 (Or.inr (slot_ne (Or.inr (hw _ (List.mem_of_getElem? (i := 24) rfl))) (Or.inr (hw _ (List.mem_of_getElem? (i := 16) rfl))) (by decide) (t := (.array .byte)) (t' := (.array .byte)) (by decide) (by decide)))).other W105 (Or.inr (slot_ne (Or.inr (hw _ (List.mem_of_getElem? (i := 24) rfl))) (Or.inr (hw _ (List.mem_of_getElem? (i := 18) rfl))) (by decide) (t := (.array .byte)) (t' := .int) (by decide) (by decide)))).other W108 (Or.inr (slot_ne (Or.inr (hw _ (List.mem_of_getElem? (i := 24) rfl))) (Or.inr (hw _ (List.mem_of_getElem? (i := 20) rfl))) (by decide) (t := (.array .byte)) (t' := .int) (by decide) (by decide)))).other W111 (Or.inr (slot_ne (Or.inr (hw _ (List.mem_of_getElem? (i := 24) rfl))) (Or.inr (hw _ (List.mem_of_getElem? (i := 22) rfl))) (by decide) (t := (.array .byte)) (t' := .int) (by decide) (by decide))))
  obtain ⟨T114, h114, X114, e114, W114, st114⟩ := putF X111 hx hZ hown (host := "") (Or.inl (hw _ (List.mem_of_getElem? (i := 23) rfl))) Via.refl e111 f113 f112 (Or.inr ⟨(hw _ (List.mem_of_getElem? (i := 24) rfl)), rfl, hnm⟩) (hw _ (List.mem_of_getElem? (i := 7) rfl)) (ty := (.array .byte)) (by decide) rfl rfl (g := (mkF m 28 #[.val (.ref a1), .val (.ref a2), .val (.int p3), .val (.int p4), .val (.int p5), .val (.ref a6)] [(.ref a6), (.ref a1)])) rfl rfl (hb hby d2_28)
  have F114 := f113.same W114
  have Z114 : n0 ≤ h114.size := Nat.le_trans Z111 (Nat.le_of_eq W114.size.symm)
  have KC114 : Keep h0 h114 [a1] := KC111.wr W114 (Or.inl (List.mem_of_getElem? (i := 0) rfl))
  have N114 := Fr.snoc X114 N111 g_a1
  have f115 := (f112.wr W114)
  have f116 := ((((F102.other W105 (Or.inr (slot_ne (Or.inr (hw _ (List.mem_of_getElem? (i := 16) rfl))) (Or.inr (hw _ (List.mem_of_getElem? (i := 18) rfl))) (by decide) (t := (.array .byte)) (t' := .int) (by decide) (by decide)))).other W108 (Or.inr (slot_ne (Or.inr (hw _ (List.mem_of_getElem? (i := 16) rfl))) (Or.inr (hw _ (List.mem_of_getElem? (i := 20) rfl))) (by decide) (t := (.array .byte)) (t' := .int) (by decide) (by decide)))).other W111 (Or.inr (slot_ne (Or.inr (hw _ (List.mem_of_getElem? (i := 16) rfl))) (Or.inr (hw _ (List.mem_of_getElem? (i := 22) rfl))) (by decide) (t := (.array .byte)) (t' := .int) (by decide) (by decide)))).other W114 (Or.inr (slot_ne (Or.inr (hw _ (List.mem_of_getElem? (i := 16) rfl))) (Or.inr (hw _ (List.mem_of_getElem? (i := 24) rfl))) (by decide) (t := (.array .byte)) (t' := (.array .byte)) (by decide) (by decide))))
  have f117 := (((F105.other W108 (Or.inr (slot_ne (Or.inr (hw _ (List.mem_of_getElem? (i := 18) rfl))) (Or.inr (hw _ (List.mem_of_getElem? (i := 20) rfl))) (by decide) (t := .int) (t' := .int) (by decide) (by decide)))).other W111 (Or.inr (slot_ne (Or.inr (hw _ (List.mem_of_getElem? (i := 18) rfl))) (Or.inr (hw _ (List.mem_of_getElem? (i := 22) rfl))) (by decide) (t := .int) (t' := .int) (by decide) (by decide)))).other W114 (Or.inr (slot_ne (Or.inr (hw _ (List.mem_of_getElem? (i := 18) rfl))) (Or.inr (hw _ (List.mem_of_getElem? (i := 24) rfl))) (by decide) (t := .int) (t' := (.array .byte)) (by decide) (by decide))))
  have f118 := ((F108.other W111 (Or.inr (slot_ne (Or.inr (hw _ (List.mem_of_getElem? (i := 20) rfl))) (Or.inr (hw _ (List.mem_of_getElem? (i := 22) rfl))) (by decide) (t := .int) (t' := .int) (by decide) (by decide)))).other W114 (Or.inr (slot_ne (Or.inr (hw _ (List.mem_of_getElem? (i := 20) rfl))) (Or.inr (hw _ (List.mem_of_getElem? (i := 24) rfl))) (by decide) (t := .int) (t' := (.array .byte)) (by decide) (by decide))))
  have f119 := (F111.other W114 (Or.inr (slot_ne (Or.inr (hw _ (List.mem_of_getElem? (i := 22) rfl))) (Or.inr (hw _ (List.mem_of_getElem? (i := 24) rfl))) (by decide) (t := .int) (t' := (.array .byte)) (by decide) (by decide))))
  obtain ⟨fs, hr, hrun, hended, hW, hsame⟩ := X114.leave (v := none) (fun _ => rfl)
  refine ⟨_, _, pre0 _ ?_, hrun, hended, _, _, rfl, ?_, ⟨_, rfl⟩, hW, hsame.mono (by decide) (by decide)⟩
  · show Steps p.tables e below (s₁.setTop (mkF m 0 #[.val (.ref a1), .val (.ref a2), .val (.int p3), .val (.int p4), .val (.int p5), .val (.ref a6)] [])) _
    refine XS.aloadN X0.here hx rfl (hb hby d2_0) rfl rfl ?_
    show Steps p.tables e below (s₁.setTop (mkF m 1 #[.val (.ref a1), .val (.ref a2), .val (.int p3), .val (.int p4), .val (.int p5), .val (.ref a6)] [(.ref a1)])) _
    refine st101 _ ?_
    show Steps p.tables e below (T101.setTop (mkF m 4 #[.val (.ref a1), .val (.ref a2), .val (.int p3), .val (.int p4), .val (.int p5), .val (.ref a6)] [])) _
    refine XS.aloadN X101.here hx rfl (hb hby d2_4) rfl rfl ?_
    show Steps p.tables e below (T101.setTop (mkF m 5 #[.val (.ref a1), .val (.ref a2), .val (.int p3), .val (.int p4), .val (.int p5), .val (.ref a6)] [(.ref a1)])) _
    refine XS.aloadN X101.here hx rfl (hb hby d2_5) rfl rfl ?_
    show Steps p.tables e below (T101.setTop (mkF m 6 #[.val (.ref a1), .val (.ref a2), .val (.int p3), .val (.int p4), .val (.int p5), .val (.ref a6)] [(.ref a2), (.ref a1)])) _
    refine st102 _ ?_
    show Steps p.tables e below (T102.setTop (mkF m 9 #[.val (.ref a1), .val (.ref a2), .val (.int p3), .val (.int p4), .val (.int p5), .val (.ref a6)] [])) _
    refine XS.aloadN X102.here hx rfl (hb hby d2_9) rfl rfl ?_
    show Steps p.tables e below (T102.setTop (mkF m 10 #[.val (.ref a1), .val (.ref a2), .val (.int p3), .val (.int p4), .val (.int p5), .val (.ref a6)] [(.ref a1)])) _
    refine XS.iloadN X102.here hx rfl (hb hby d2_10) rfl ?_
    show Steps p.tables e below (T102.setTop (mkF m 11 #[.val (.ref a1), .val (.ref a2), .val (.int p3), .val (.int p4), .val (.int p5), .val (.ref a6)] [(.int p3), (.ref a1)])) _
    refine st105 _ ?_
    show Steps p.tables e below (T105.setTop (mkF m 14 #[.val (.ref a1), .val (.ref a2), .val (.int p3), .val (.int p4), .val (.int p5), .val (.ref a6)] [])) _
    refine XS.aloadN X105.here hx rfl (hb hby d2_14) rfl rfl ?_
    show Steps p.tables e below (T105.setTop (mkF m 15 #[.val (.ref a1), .val (.ref a2), .val (.int p3), .val (.int p4), .val (.int p5), .val (.ref a6)] [(.ref a1)])) _
    refine XS.iloadN X105.here hx rfl (hb hby d2_15) rfl ?_
    show Steps p.tables e below (T105.setTop (mkF m 16 #[.val (.ref a1), .val (.ref a2), .val (.int p3), .val (.int p4), .val (.int p5), .val (.ref a6)] [(.int p4), (.ref a1)])) _
    refine st108 _ ?_
    show Steps p.tables e below (T108.setTop (mkF m 19 #[.val (.ref a1), .val (.ref a2), .val (.int p3), .val (.int p4), .val (.int p5), .val (.ref a6)] [])) _
    refine XS.aloadN X108.here hx rfl (hb hby d2_19) rfl rfl ?_
    show Steps p.tables e below (T108.setTop (mkF m 20 #[.val (.ref a1), .val (.ref a2), .val (.int p3), .val (.int p4), .val (.int p5), .val (.ref a6)] [(.ref a1)])) _
    refine XS.iload X108.here hx rfl (hb hby d2_20) rfl ?_
    show Steps p.tables e below (T108.setTop (mkF m 22 #[.val (.ref a1), .val (.ref a2), .val (.int p3), .val (.int p4), .val (.int p5), .val (.ref a6)] [(.int p5), (.ref a1)])) _
    refine st111 _ ?_
    show Steps p.tables e below (T111.setTop (mkF m 25 #[.val (.ref a1), .val (.ref a2), .val (.int p3), .val (.int p4), .val (.int p5), .val (.ref a6)] [])) _
    refine XS.aloadN X111.here hx rfl (hb hby d2_25) rfl rfl ?_
    show Steps p.tables e below (T111.setTop (mkF m 26 #[.val (.ref a1), .val (.ref a2), .val (.int p3), .val (.int p4), .val (.int p5), .val (.ref a6)] [(.ref a1)])) _
    refine XS.aload X111.here hx rfl (hb hby d2_26) rfl rfl ?_
    show Steps p.tables e below (T111.setTop (mkF m 28 #[.val (.ref a1), .val (.ref a2), .val (.int p3), .val (.int p4), .val (.int p5), .val (.ref a6)] [(.ref a6), (.ref a1)])) _
    refine st114 _ ?_
    show Steps p.tables e below (T114.setTop (mkF m 31 #[.val (.ref a1), .val (.ref a2), .val (.int p3), .val (.int p4), .val (.int p5), .val (.ref a6)] [])) _
    exact X114.returnOut hx Bd.returns (hb hby d2_31) hr
  · show QI Z a1 a2 p3 p4 p5 a6 h0 n0 _ T114.heap _
    rw [e114]
    exact ⟨rfl, N114, KC114, f115, f116, f117, f118, f119, F114⟩
def QG (x : Value) (h0 : Heap) (n0 : Nat) (v : Option Value) (h : Heap) (L : List Loc) : Prop := v = some x ∧ Fr n0 L ∧ h = h0
set_option maxRecDepth 65536 in
set_option maxHeartbeats 40000000 in
theorem rmL (l : Launch) (Z : State) (a0 : Array Value) (hw : ∀ d ∈ tables_1, d.before a0 Z = true) (ws : List Jvm.Cond) (a1 : Addr) (p3 : Int32) (p4 : Int32) (p5 : Int32) (a6 : Addr) (N : Nat) (f : Nat → Value) (z : Int32) (h0 : Heap) (n0 : Nat) (Z0 : n0 ≤ h0.size) (F1 : Fld Z h0 a1 "com/example/seglport/seglport/soap/SplicedMessage" "_length" "I" (.int p3)) (F2 : Fld Z h0 a1 "com/example/seglport/seglport/soap/SplicedMessage" "_start" "I" (.int p4)) (F3 : Fld Z h0 a1 "com/example/seglport/seglport/soap/SplicedMessage" "_end" "I" (.int p5)) (F4 : Fld Z h0 a1 "com/example/seglport/seglport/soap/SplicedMessage" "_inserted" "[B" (.ref a6)) (FA : OwnA Z h0 a6 .byte N f) (hz : N.toInt32 = z) :
    MetFree l (⟨"com/example/seglport/seglport/soap/SplicedMessage", "length", "()I"⟩ : MethodName) (head1 (Jvm.Cond.code (⟨"com/example/seglport/seglport/soap/SplicedMessage", "length", "()I"⟩ : MethodName) prog_109_method_3_code 1 (some .int) :: ws) ({ frames := 0, cells := 0, slots := 0, locals := 0 } : Room)) (fun a U => a = #[(.ref a1)] ∧ Z.Warmed39 U.vm ∧ U.heap = h0) (fun _ _ _ _ _ => True) (fun _ U o U' => ∃ v L, o = .returned v ∧ QG (.int ((p3 - (p5 - p4)) + z)) h0 n0 v U'.heap L ∧ FrameEnd U o U' L ({ frames := 0, cells := 0, slots := 0, locals := 0 } : Room).cells ({ frames := 0, cells := 0, slots := 0, locals := 0 } : Room).slots) := by
  refine MetFree.of_bodySF (plainFor_of_name own_pn1) hisR ?_
  intro p e s m args below meth c s₁ Bd hml0 hP hK
  obtain ⟨rfl, hZ, hh⟩ := hP
  have hx := Bd.exec
  have hby := Bd.bytes
  have hml : c.maxLocals = 1 := hml0
  have hown : s.vm.findClass "com/example/seglport/seglport/soap/SplicedMessage" = some m.cls := findClass_of_methodNamed Bd.named
  have hnm := (name_of_methodNamed Bd.named Bd.method).1
  have X0 : Stand p l e ({ frames := 0, cells := 0, slots := 0, locals := 0 } : Room) s m #[(.ref a1)] below meth c s₁ [] 0 0 := Stand.of_body Bd
  have e0 : s₁.heap = h0 := by rw [← hh, Bd.state]; rfl
  have N0 := Fr.nil n0
  have ef : entryFrame m #[(.ref a1)] 1 = mkF m 0 #[.val (.ref a1)] [] := by first | (simp [entryFrame, mkF, argsToLocals, Value.category]; done) | rfl
  have pre0 : ∀ t, Steps p.tables e below (s₁.setTop (mkF m 0 #[.val (.ref a1)] [])) t → Steps p.tables e below (s₁.setTop (entryFrame m #[(.ref a1)] 1)) t := fun t k => castTop ef k
  obtain ⟨T101, X101, e101, st101⟩ := getF X0 hx hZ hown (host := "") (Or.inl (hw _ (List.mem_of_getElem? (i := 17) rfl))) Via.refl e0 F1 (g := (mkF m 1 #[.val (.ref a1)] [(.ref a1)])) rfl rfl (hb hby d4_1)
  obtain ⟨T102, X102, e102, st102⟩ := getF X101 hx hZ hown (host := "") (Or.inl (hw _ (List.mem_of_getElem? (i := 21) rfl))) Via.refl e101 F3 (g := (mkF m 5 #[.val (.ref a1)] [(.ref a1), (.int p3)])) rfl rfl (hb hby d4_5)
  obtain ⟨T103, X103, e103, st103⟩ := getF X102 hx hZ hown (host := "") (Or.inl (hw _ (List.mem_of_getElem? (i := 19) rfl))) Via.refl e102 F2 (g := (mkF m 9 #[.val (.ref a1)] [(.ref a1), (.int p5), (.int p3)])) rfl rfl (hb hby d4_9)
  obtain ⟨T104, X104, e104, st104⟩ := getF X103 hx hZ hown (host := "") (Or.inl (hw _ (List.mem_of_getElem? (i := 23) rfl))) Via.refl e103 F4 (g := (mkF m 15 #[.val (.ref a1)] [(.ref a1), (.int (p3 - (p5 - p4)))])) rfl rfl (hb hby d4_15)
  obtain ⟨fs, hr, hrun, hended, hW, hsame⟩ := X104.leave (v := some (.int ((p3 - (p5 - p4)) + z))) (fun h => by rw [Bd.returns] at h; cases h)
  refine ⟨_, _, pre0 _ ?_, hrun, hended, _, _, rfl, ?_, ⟨_, rfl⟩, hW, hsame.mono (by decide) (by decide)⟩
  · show Steps p.tables e below (s₁.setTop (mkF m 0 #[.val (.ref a1)] [])) _
    refine XS.aloadN X0.here hx rfl (hb hby d4_0) rfl rfl ?_
    show Steps p.tables e below (s₁.setTop (mkF m 1 #[.val (.ref a1)] [(.ref a1)])) _
    refine st101 _ ?_
    show Steps p.tables e below (T101.setTop (mkF m 4 #[.val (.ref a1)] [(.int p3)])) _
    refine XS.aloadN X101.here hx rfl (hb hby d4_4) rfl rfl ?_
    show Steps p.tables e below (T101.setTop (mkF m 5 #[.val (.ref a1)] [(.ref a1), (.int p3)])) _
    refine st102 _ ?_
    show Steps p.tables e below (T102.setTop (mkF m 8 #[.val (.ref a1)] [(.int p5), (.int p3)])) _
    refine XS.aloadN X102.here hx rfl (hb hby d4_8) rfl rfl ?_
    show Steps p.tables e below (T102.setTop (mkF m 9 #[.val (.ref a1)] [(.ref a1), (.int p5), (.int p3)])) _
    refine st103 _ ?_
    show Steps p.tables e below (T103.setTop (mkF m 12 #[.val (.ref a1)] [(.int p4), (.int p5), (.int p3)])) _
    refine XS.isub X103.here hx rfl (hb hby d4_12) rfl ?_
    show Steps p.tables e below (T103.setTop (mkF m 13 #[.val (.ref a1)] [(.int (p5 - p4)), (.int p3)])) _
    refine XS.isub X103.here hx rfl (hb hby d4_13) rfl ?_
    show Steps p.tables e below (T103.setTop (mkF m 14 #[.val (.ref a1)] [(.int (p3 - (p5 - p4)))])) _
    refine XS.aloadN X103.here hx rfl (hb hby d4_14) rfl rfl ?_
    show Steps p.tables e below (T103.setTop (mkF m 15 #[.val (.ref a1)] [(.ref a1), (.int (p3 - (p5 - p4)))])) _
    refine st104 _ ?_
    show Steps p.tables e below (T104.setTop (mkF m 18 #[.val (.ref a1)] [(.ref a6), (.int (p3 - (p5 - p4)))])) _
    refine own_len X104 hx hZ e104 FA (z := z) hz (g := (mkF m 18 #[.val (.ref a1)] [(.ref a6), (.int (p3 - (p5 - p4)))])) rfl rfl (hb hby d4_18) _ ?_
    show Steps p.tables e below (T104.setTop (mkF m 19 #[.val (.ref a1)] [(.int z), (.int (p3 - (p5 - p4)))])) _
    refine XS.iadd X104.here hx rfl (hb hby d4_19) rfl ?_
    show Steps p.tables e below (T104.setTop (mkF m 20 #[.val (.ref a1)] [(.int ((p3 - (p5 - p4)) + z))])) _
    exact own_retI X104 hx Bd.returns (hb hby d4_20) hr
  · show QG (.int ((p3 - (p5 - p4)) + z)) h0 n0 _ T104.heap _
    rw [e104]
    exact ⟨rfl, N0, rfl⟩
theorem own_ln {ln p : Int32} (h : ln = (p &&& (2147483647 : Int32)) % (17 : Int32)) : 0 ≤ ln.toInt ∧ ln.toInt < 17 := by
  obtain ⟨h1, h2⟩ := own_rem (y := 17) (own_mask31 p) (by decide)
  rw [← h] at h1 h2
  exact ⟨h1, h2⟩
theorem own_inc {ln : Int32} (h : 0 ≤ ln.toInt ∧ ln.toInt < 17) : (ln + (1 : Int32)).toInt = ln.toInt + 1 := by
  rw [Int32.toInt_add]
  exact bmod32 (by have : (1 : Int32).toInt = 1 := rfl; omega) (by have : (1 : Int32).toInt = 1 := rfl; omega)
theorem own_nz {ln : Int32} (h : 0 ≤ ln.toInt ∧ ln.toInt < 17) : (ln + (1 : Int32)) ≠ (0 : Int32) := fun q => by
  have e := own_inc h
  rw [q] at e
  have : (0 : Int32).toInt = 0 := rfl
  omega
theorem own_sa {ln sa p : Int32} (h : 0 ≤ ln.toInt ∧ ln.toInt < 17) (hs : sa = (p &&& (2147483647 : Int32)) % (ln + (1 : Int32))) : 0 ≤ sa.toInt ∧ sa.toInt ≤ ln.toInt := by
  have e := own_inc h
  obtain ⟨h1, h2⟩ := own_rem (y := ln + 1) (own_mask31 p) (by omega)
  rw [← hs] at h1 h2
  omega
theorem own_nz2 {ln sa : Int32} (h : 0 ≤ ln.toInt ∧ ln.toInt < 17) (hs : 0 ≤ sa.toInt ∧ sa.toInt ≤ ln.toInt) : ((ln - sa) + (1 : Int32)) ≠ (0 : Int32) := by
  have e1 : (ln - sa).toInt = ln.toInt - sa.toInt := by
    rw [Int32.toInt_sub]; exact bmod32 (by omega) (by omega)
  exact own_nz (ln := ln - sa) (by omega)
theorem own_kk {kk p : Int32} (h : kk = (p &&& (7 : Int32))) : ∃ N, own_small kk N ∧ N.toInt32 = kk := by
  have e : kk.toInt = p.toInt % 2 ^ 3 := by rw [h]; exact Jvm.Kit.i32_mask p 7 (by decide) (by decide)
  clear h
  have h8 : kk.toInt = (0 : Int32).toInt ∨ kk.toInt = (1 : Int32).toInt ∨ kk.toInt = (2 : Int32).toInt ∨ kk.toInt = (3 : Int32).toInt ∨ kk.toInt = (4 : Int32).toInt ∨ kk.toInt = (5 : Int32).toInt ∨ kk.toInt = (6 : Int32).toInt ∨ kk.toInt = (7 : Int32).toInt := by
    show kk.toInt = 0 ∨ kk.toInt = 1 ∨ kk.toInt = 2 ∨ kk.toInt = 3 ∨ kk.toInt = 4 ∨ kk.toInt = 5 ∨ kk.toInt = 6 ∨ kk.toInt = 7
    omega
  clear e
  rcases h8 with q | q | q | q | q | q | q | q <;> (cases Int32.toInt_inj.mp q)
  · exact ⟨0, by unfold own_small; decide, by decide⟩
  · exact ⟨1, by unfold own_small; decide, by decide⟩
  · exact ⟨2, by unfold own_small; decide, by decide⟩
  · exact ⟨3, by unfold own_small; decide, by decide⟩
  · exact ⟨4, by unfold own_small; decide, by decide⟩
  · exact ⟨5, by unfold own_small; decide, by decide⟩
  · exact ⟨6, by unfold own_small; decide, by decide⟩
  · exact ⟨7, by unfold own_small; decide, by decide⟩
theorem own_sum (a b c d : Int32) : (a - (c - b)) + d = (b + d) + (a - c) := by
  grind

def QLaw (n0 : Nat) (v : Option Value) (h : Heap) (L : List Loc) : Prop := v = some (.int 1) ∧ Fr n0 L
set_option maxRecDepth 65536 in
set_option maxHeartbeats 40000000 in
theorem rm0 (l : Launch) (Z : State) (a0 : Array Value) (hw : ∀ d ∈ tables_1, d.before a0 Z = true) (ws : List Jvm.Cond) (p0 : Int32) (p1 : Int32) (p2 : Int32) (p3 : Int32) (h0 : Heap) (n0 : Nat) (Z0 : n0 ≤ h0.size)  :
    MetFree l x (head1 (Jvm.Cond.code x code maxLocals ret :: ws) room_1) (fun a U => a = #[(.int p0), (.int p1), (.int p2), (.int p3)] ∧ Z.Warmed39 U.vm ∧ U.heap = h0) (fun _ _ _ _ _ => True) (fun _ U o U' => ∃ v L, o = .returned v ∧ QLaw n0 v U'.heap L ∧ FrameEnd U o U' L room_1.cells room_1.slots) := by
  refine MetFree.of_bodySF (plainFor_of_name own_pn0) hisR ?_
  intro p e s m args below meth c s₁ Bd hml0 hP hK
  obtain ⟨rfl, hZ, hh⟩ := hP
  have hx := Bd.exec
  have hby := Bd.bytes
  have hml : c.maxLocals = 14 := hml0
  have hown : s.vm.findClass "com/example/seglport/seglport/soap/SplicedMessageLengthPinLaw" = some m.cls := findClass_of_methodNamed Bd.named
  have hnm := (name_of_methodNamed Bd.named Bd.method).1
  have X0 : Stand p l e room_1 s m #[(.int p0), (.int p1), (.int p2), (.int p3)] below meth c s₁ [] 0 0 := Stand.of_body Bd
  have e0 : s₁.heap = h0 := by rw [← hh, Bd.state]; rfl
  have N0 := Fr.nil n0
  have ef : entryFrame m #[(.int p0), (.int p1), (.int p2), (.int p3)] maxLocals = mkF m 0 #[.val (.int p0), .val (.int p1), .val (.int p2), .val (.int p3), .unset, .unset, .unset, .unset, .unset, .unset, .unset, .unset, .unset, .unset] [] := by first | (simp [entryFrame, mkF, argsToLocals, Value.category, maxLocals]; done) | rfl
  have pre0 : ∀ t, Steps p.tables e below (s₁.setTop (mkF m 0 #[.val (.int p0), .val (.int p1), .val (.int p2), .val (.int p3), .unset, .unset, .unset, .unset, .unset, .unset, .unset, .unset, .unset, .unset] [])) t → Steps p.tables e below (s₁.setTop (entryFrame m #[(.int p0), (.int p1), (.int p2), (.int p3)] maxLocals)) t := fun t k => castTop ef k
  obtain ⟨T101, h101, k101, X101, e101, E101, A101, Ex101, st101⟩ := newPE X0 hx hZ (aty := .byte) (hw _ (List.mem_of_getElem? (i := 0) rfl)) e0 (g := (mkF m 2 #[.val (.int p0), .val (.int p1), .val (.int p2), .val (.int p3), .unset, .unset, .unset, .unset, .unset, .unset, .unset, .unset, .unset, .unset] [(.int (16 : Int32))])) rfl (hb hby at_2) rfl (by decide) (cap := 16) (by decide) (by decide) (by decide) (by decide) (ad := "[B") (by decide)
  obtain ⟨b101, g101⟩ : ∃ z, z = h0.size := ⟨_, rfl⟩
  rw [← g101] at A101 Ex101 st101
  have g_b101 : n0 ≤ b101 := Nat.le_trans Z0 (Nat.le_of_eq g101.symm)
  have sz_b101 : h0.size ≤ b101 := Nat.le_trans (Keep.refl h0 []).1 (Nat.le_of_eq g101.symm)
  have Z101 : n0 ≤ h101.size := Nat.le_trans Z0 E101.1
  have KC101 : Keep h0 h101 [] := (Keep.refl h0 []).ext E101
  have V101 : OwnA Z h101 b101 .byte 16 (fun _ => (.int (0 : Int32))) := OwnA.new A101 rfl
  obtain ⟨ln, hv_ln⟩ : ∃ z : Int32, z = ((p0 &&& (2147483647 : Int32)) % (17 : Int32)) := ⟨_, rfl⟩
  have hln := own_ln hv_ln
  obtain ⟨sa, hv_sa⟩ : ∃ z : Int32, z = ((p1 &&& (2147483647 : Int32)) % (ln + (1 : Int32))) := ⟨_, rfl⟩
  have hsa := own_sa hln hv_sa
  obtain ⟨en, hv_en⟩ : ∃ z : Int32, z = (sa + ((p2 &&& (2147483647 : Int32)) % ((ln - sa) + (1 : Int32)))) := ⟨_, rfl⟩
  obtain ⟨kk, hv_kk⟩ : ∃ z : Int32, z = (p3 &&& (7 : Int32)) := ⟨_, rfl⟩
  obtain ⟨N, hN, hNz⟩ := own_kk hv_kk
  obtain ⟨_, _, ⟨T102, L102, k102, n102⟩, -, X102, ⟨Lc102, hQ102, l102, y102, z102⟩, st102⟩ := Jvm.LawKit.callS X101 hx (y := (⟨"com/example/seglport/seglport/soap/SplicedMessageLengthPinLaw", "bytes", "(I)[B"⟩ : MethodName)) hown (mvT hZ (hw _ (List.mem_of_getElem? (i := 2) rfl))) (mvT hZ (hw _ (List.mem_of_getElem? (i := 3) rfl))) (mvT hZ (hw _ (List.mem_of_getElem? (i := 4) rfl))) (mvT hZ (hw _ (List.mem_of_getElem? (i := 5) rfl))) (by decide) (backOf (W := 0) (rmB l Z a0 hw [] kk N h101 n0 Z101 hN) hZ (hw _ (List.mem_of_getElem? (i := 5) rfl)) (hw _ (List.mem_of_getElem? (i := 4) rfl)) (by decide) (by decide)) (g := (mkF m 51 #[.val (.int p0), .val (.int p1), .val (.int p2), .val (.int p3), .val (.ref b101), .val (.int ln), .val (.int sa), .val (.int en), .val (.int kk), .unset, .unset, .unset, .unset, .unset] [(.int kk)])) rfl (by rw [hml]; rfl) (argsL := [(.int kk)]) (rest := []) (lenOf own_pd0 rfl) rfl (by show 2 * 0 + _ ≤ _; exact Nat.le_of_eq rfl) (hb hby at_51) (fun _ _ => ⟨rfl, e101, (by decide : 1 + 1 ≤ _), (by decide : 16 + 7 ≤ _)⟩)
  dsimp only [Pt.U, Pt.locs, Pt.cells, Pt.slots] at X102 l102 y102 z102 st102 hQ102
  subst l102 y102 z102
  obtain ⟨b102, rfl, Nq102, K102, by_b102, V102⟩ := hQ102
  have ne_b101_b102 : b101 ≠ b102 := Nat.ne_of_lt (Nat.lt_of_lt_of_le Ex101.lt by_b102)
  have g_b102 : n0 ≤ b102 := Nat.le_trans Z101 by_b102
  have sz_b102 : h0.size ≤ b102 := Nat.le_trans KC101.1 by_b102
  have Z102 : n0 ≤ T102.heap.size := Nat.le_trans Z101 K102.1
  have KC102 : Keep h0 T102.heap [] := KC101.trans K102 all0
  have N102 := Fr.app N0 Nq102
  obtain ⟨T103, h103, X103, e103, E103, A103, D103, -, st103⟩ := newO X102 hx hZ hown (hw _ (List.mem_of_getElem? (i := 6) rfl)) (hw _ (List.mem_of_getElem? (i := 7) rfl)) (hw _ (List.mem_of_getElem? (i := 8) rfl)) rfl (g := (mkF m 56 #[.val (.int p0), .val (.int p1), .val (.int p2), .val (.int p3), .val (.ref b101), .val (.int ln), .val (.int sa), .val (.int en), .val (.int kk), .val (.ref b102), .unset, .unset, .unset, .unset] [])) rfl (hb hby at_56) (by decide) (by decide)
  obtain ⟨b103, g103⟩ : ∃ z, z = T102.heap.size := ⟨_, rfl⟩
  rw [← g103] at A103 D103 st103
  have f104 := (Ex101.keep K102)
  have ne_b101_b103 : b101 ≠ b103 := Nat.ne_of_lt (Nat.lt_of_lt_of_le f104.lt (Nat.le_of_eq g103.symm))
  have ne_b102_b103 : b102 ≠ b103 := Nat.ne_of_lt (Nat.lt_of_lt_of_le V102.lt (Nat.le_of_eq g103.symm))
  have g_b103 : n0 ≤ b103 := Nat.le_trans Z102 (Nat.le_of_eq g103.symm)
  have sz_b103 : h0.size ≤ b103 := Nat.le_trans KC102.1 (Nat.le_of_eq g103.symm)
  have Z103 : n0 ≤ h103.size := Nat.le_trans Z102 E103.1
  have KC103 : Keep h0 h103 [] := KC102.ext E103
  have F__message_b103 : Fld Z h103 b103 "com/example/seglport/seglport/soap/SplicedMessage" "_message" "[B" .null := D103 (Or.inr (hw _ (List.mem_of_getElem? (i := 16) rfl))) (ty := (.array .byte)) (by decide)
  have F__length_b103 : Fld Z h103 b103 "com/example/seglport/seglport/soap/SplicedMessage" "_length" "I" (.int (0 : Int32)) := D103 (Or.inr (hw _ (List.mem_of_getElem? (i := 18) rfl))) (ty := .int) (by decide)
  have F__start_b103 : Fld Z h103 b103 "com/example/seglport/seglport/soap/SplicedMessage" "_start" "I" (.int (0 : Int32)) := D103 (Or.inr (hw _ (List.mem_of_getElem? (i := 20) rfl))) (ty := .int) (by decide)
  have F__end_b103 : Fld Z h103 b103 "com/example/seglport/seglport/soap/SplicedMessage" "_end" "I" (.int (0 : Int32)) := D103 (Or.inr (hw _ (List.mem_of_getElem? (i := 22) rfl))) (ty := .int) (by decide)
  have F__inserted_b103 : Fld Z h103 b103 "com/example/seglport/seglport/soap/SplicedMessage" "_inserted" "[B" .null := D103 (Or.inr (hw _ (List.mem_of_getElem? (i := 24) rfl))) (ty := (.array .byte)) (by decide)
  obtain ⟨_, _, ⟨T105, L105, k105, n105⟩, -, X105, ⟨Lc105, hQ105, l105, y105, z105⟩, st105⟩ := X103.specialBack hx (y := (⟨"com/example/seglport/seglport/soap/SplicedMessage", "<init>", "([BIII[B)V"⟩ : MethodName)) rfl hown (mvT hZ (hw _ (List.mem_of_getElem? (i := 9) rfl))) (mvT hZ (hw _ (List.mem_of_getElem? (i := 10) rfl))) (mvT hZ (hw _ (List.mem_of_getElem? (i := 11) rfl))) (by decide) (backOf (W := 1) (rmI l Z a0 hw [] b103 b101 ln sa en b102 h103 n0 Z103 A103 g_b103 F__message_b103 F__length_b103 F__start_b103 F__end_b103 F__inserted_b103) hZ (hw _ (List.mem_of_getElem? (i := 11) rfl)) (hw _ (List.mem_of_getElem? (i := 8) rfl)) (by decide) (by decide)) (g := (mkF m 70 #[.val (.int p0), .val (.int p1), .val (.int p2), .val (.int p3), .val (.ref b101), .val (.int ln), .val (.int sa), .val (.int en), .val (.int kk), .val (.ref b102), .unset, .unset, .unset, .unset] [(.ref b102), (.int en), (.int sa), (.int ln), (.ref b101), (.ref b103), (.ref b103)])) rfl (by rw [hml]; rfl) (Steps.refl _) (a := b103) (argsL := [(.ref b101), (.int ln), (.int sa), (.int en), (.ref b102)]) (rest := [(.ref b103)]) (lenOf own_pd1 rfl) rfl (by show 2 * 0 + _ ≤ _; exact Nat.le_of_eq rfl) (hb hby at_70) (fun _ _ => ⟨rfl, e103, (by decide : 3 + 0 ≤ _), (by decide : 28 + 0 ≤ _)⟩)
  dsimp only [Pt.U, Pt.locs, Pt.cells, Pt.slots] at X105 l105 y105 z105 st105 hQ105
  subst l105 y105 z105
  obtain ⟨rfl, Nq105, K105, Ex105, G105_0, G105_1, G105_2, G105_3, G105_4⟩ := hQ105
  have Z105 : n0 ≤ T105.heap.size := Nat.le_trans Z103 K105.1
  have KC105 : Keep h0 T105.heap [] := KC103.trans K105 (allS (Or.inr sz_b103) all0)
  have N105 := Fr.app N102 Nq105
  have f106 := ((V102.ext E103).keep K105 (ninS ne_b102_b103 nin0))
  obtain ⟨cq107, kq107, q107a, q107b, q107c⟩ := isOf hZ rfl Ex105
  obtain ⟨_, _, ⟨T107, L107, k107, n107⟩, -, X107, ⟨Lc107, hQ107, l107, y107, z107⟩, st107⟩ := X105.virtualBack hx (y := (⟨"com/example/seglport/seglport/soap/SplicedMessage", "length", "()I"⟩ : MethodName)) (z := (⟨"com/example/seglport/seglport/soap/SplicedMessage", "length", "()I"⟩ : MethodName)) hown (mvT hZ (hw _ (List.mem_of_getElem? (i := 25) rfl))) (mvT hZ (hw _ (List.mem_of_getElem? (i := 26) rfl))) (notFace_of_selects (args := #[]) (mvT hZ (hw _ (List.mem_of_getElem? (i := 28) rfl)))) (mvT hZ (hw _ (List.mem_of_getElem? (i := 28) rfl))) (mvT hZ (hw _ (List.mem_of_getElem? (i := 27) rfl))) (by decide) (backOf (W := 0) (rmL l Z a0 hw [] b103 ln sa en b102 N _ kk T105.heap n0 Z105 G105_1 G105_2 G105_3 G105_4 f106 hNz) hZ (hw _ (List.mem_of_getElem? (i := 29) rfl)) (hw _ (List.mem_of_getElem? (i := 8) rfl)) (by decide) (by decide)) q107a q107c (g := (mkF m 98 #[.val (.int p0), .val (.int p1), .val (.int p2), .val (.int p3), .val (.ref b101), .val (.int ln), .val (.int sa), .val (.int en), .val (.int kk), .val (.ref b102), .val (.ref b103), .val (.int sa), .val (.int (ln - en)), .val (.int ((sa + kk) + (ln - en)))] [(.ref b103)])) rfl (by rw [hml]; rfl) (Steps.refl _) (argsL := []) (rest := []) (lenOf own_pd2 rfl) rfl (by show 2 * 0 + _ ≤ _; exact Nat.le_of_eq rfl) (hb hby at_98) (fun _ _ => ⟨rfl, rfl, (by decide : 3 + 0 ≤ _), (by decide : 28 + 0 ≤ _)⟩)
  dsimp only [Pt.U, Pt.locs, Pt.cells, Pt.slots] at X107 l107 y107 z107 st107 hQ107
  subst l107 y107 z107
  obtain ⟨rfl, Nq107, e107⟩ := hQ107
  have N107 := Fr.app N105 Nq107
  obtain ⟨fs, hr, hrun, hended, hW, hsame⟩ := X107.leave (v := some (.int (1 : Int32))) (fun h => by rw [Bd.returns] at h; cases h)
  refine ⟨_, _, pre0 _ ?_, hrun, hended, _, _, rfl, ?_, ⟨_, rfl⟩, hW, hsame.mono (by decide) (by decide)⟩
  · show Steps p.tables e below (s₁.setTop (mkF m 0 #[.val (.int p0), .val (.int p1), .val (.int p2), .val (.int p3), .unset, .unset, .unset, .unset, .unset, .unset, .unset, .unset, .unset, .unset] [])) _
    refine XS.bipush X0.here hx rfl (hb hby at_0) ?_
    show Steps p.tables e below (s₁.setTop (mkF m 2 #[.val (.int p0), .val (.int p1), .val (.int p2), .val (.int p3), .unset, .unset, .unset, .unset, .unset, .unset, .unset, .unset, .unset, .unset] [(.int (16 : Int32))])) _
    refine st101 _ ?_
    show Steps p.tables e below (T101.setTop (mkF m 4 #[.val (.int p0), .val (.int p1), .val (.int p2), .val (.int p3), .unset, .unset, .unset, .unset, .unset, .unset, .unset, .unset, .unset, .unset] [(.ref b101)])) _
    refine XS.astore X101.here hx rfl (hb hby at_4) rfl rfl (l' := #[.val (.int p0), .val (.int p1), .val (.int p2), .val (.int p3), .val (.ref b101), .unset, .unset, .unset, .unset, .unset, .unset, .unset, .unset, .unset]) rfl ?_
    show Steps p.tables e below (T101.setTop (mkF m 6 #[.val (.int p0), .val (.int p1), .val (.int p2), .val (.int p3), .val (.ref b101), .unset, .unset, .unset, .unset, .unset, .unset, .unset, .unset, .unset] [])) _
    refine XS.iloadN X101.here hx rfl (hb hby at_6) rfl ?_
    show Steps p.tables e below (T101.setTop (mkF m 7 #[.val (.int p0), .val (.int p1), .val (.int p2), .val (.int p3), .val (.ref b101), .unset, .unset, .unset, .unset, .unset, .unset, .unset, .unset, .unset] [(.int p0)])) _
    refine X101.ldcInt hx hown (mvT hZ (hw _ (List.mem_of_getElem? (i := 1) rfl))) (g := (mkF m 7 #[.val (.int p0), .val (.int p1), .val (.int p2), .val (.int p3), .val (.ref b101), .unset, .unset, .unset, .unset, .unset, .unset, .unset, .unset, .unset] [(.int p0)])) rfl (hb hby at_7) _ ?_
    show Steps p.tables e below (T101.setTop (mkF m 9 #[.val (.int p0), .val (.int p1), .val (.int p2), .val (.int p3), .val (.ref b101), .unset, .unset, .unset, .unset, .unset, .unset, .unset, .unset, .unset] [(.int (2147483647 : Int32)), (.int p0)])) _
    refine XS.iand X101.here hx rfl (hb hby at_9) rfl ?_
    show Steps p.tables e below (T101.setTop (mkF m 10 #[.val (.int p0), .val (.int p1), .val (.int p2), .val (.int p3), .val (.ref b101), .unset, .unset, .unset, .unset, .unset, .unset, .unset, .unset, .unset] [(.int (p0 &&& (2147483647 : Int32)))])) _
    refine XS.bipush X101.here hx rfl (hb hby at_10) ?_
    show Steps p.tables e below (T101.setTop (mkF m 12 #[.val (.int p0), .val (.int p1), .val (.int p2), .val (.int p3), .val (.ref b101), .unset, .unset, .unset, .unset, .unset, .unset, .unset, .unset, .unset] [(.int (17 : Int32)), (.int (p0 &&& (2147483647 : Int32)))])) _
    refine iremM X101 hx rfl (hb hby at_12) rfl (by decide) ?_
    show Steps p.tables e below (T101.setTop (mkF m 13 #[.val (.int p0), .val (.int p1), .val (.int p2), .val (.int p3), .val (.ref b101), .unset, .unset, .unset, .unset, .unset, .unset, .unset, .unset, .unset] [(.int ((p0 &&& (2147483647 : Int32)) % (17 : Int32)))])) _
    rw [← hv_ln]
    show Steps p.tables e below (T101.setTop (mkF m 13 #[.val (.int p0), .val (.int p1), .val (.int p2), .val (.int p3), .val (.ref b101), .unset, .unset, .unset, .unset, .unset, .unset, .unset, .unset, .unset] [(.int ln)])) _
    refine XS.istore X101.here hx rfl (hb hby at_13) rfl (l' := #[.val (.int p0), .val (.int p1), .val (.int p2), .val (.int p3), .val (.ref b101), .val (.int ln), .unset, .unset, .unset, .unset, .unset, .unset, .unset, .unset]) rfl ?_
    show Steps p.tables e below (T101.setTop (mkF m 15 #[.val (.int p0), .val (.int p1), .val (.int p2), .val (.int p3), .val (.ref b101), .val (.int ln), .unset, .unset, .unset, .unset, .unset, .unset, .unset, .unset] [])) _
    refine XS.iloadN X101.here hx rfl (hb hby at_15) rfl ?_
    show Steps p.tables e below (T101.setTop (mkF m 16 #[.val (.int p0), .val (.int p1), .val (.int p2), .val (.int p3), .val (.ref b101), .val (.int ln), .unset, .unset, .unset, .unset, .unset, .unset, .unset, .unset] [(.int p1)])) _
    refine X101.ldcInt hx hown (mvT hZ (hw _ (List.mem_of_getElem? (i := 1) rfl))) (g := (mkF m 16 #[.val (.int p0), .val (.int p1), .val (.int p2), .val (.int p3), .val (.ref b101), .val (.int ln), .unset, .unset, .unset, .unset, .unset, .unset, .unset, .unset] [(.int p1)])) rfl (hb hby at_16) _ ?_
    show Steps p.tables e below (T101.setTop (mkF m 18 #[.val (.int p0), .val (.int p1), .val (.int p2), .val (.int p3), .val (.ref b101), .val (.int ln), .unset, .unset, .unset, .unset, .unset, .unset, .unset, .unset] [(.int (2147483647 : Int32)), (.int p1)])) _
    refine XS.iand X101.here hx rfl (hb hby at_18) rfl ?_
    show Steps p.tables e below (T101.setTop (mkF m 19 #[.val (.int p0), .val (.int p1), .val (.int p2), .val (.int p3), .val (.ref b101), .val (.int ln), .unset, .unset, .unset, .unset, .unset, .unset, .unset, .unset] [(.int (p1 &&& (2147483647 : Int32)))])) _
    refine XS.iload X101.here hx rfl (hb hby at_19) rfl ?_
    show Steps p.tables e below (T101.setTop (mkF m 21 #[.val (.int p0), .val (.int p1), .val (.int p2), .val (.int p3), .val (.ref b101), .val (.int ln), .unset, .unset, .unset, .unset, .unset, .unset, .unset, .unset] [(.int ln), (.int (p1 &&& (2147483647 : Int32)))])) _
    refine XS.iconst X101.here hx rfl (hb hby at_21) ?_
    show Steps p.tables e below (T101.setTop (mkF m 22 #[.val (.int p0), .val (.int p1), .val (.int p2), .val (.int p3), .val (.ref b101), .val (.int ln), .unset, .unset, .unset, .unset, .unset, .unset, .unset, .unset] [(.int (1 : Int32)), (.int ln), (.int (p1 &&& (2147483647 : Int32)))])) _
    refine XS.iadd X101.here hx rfl (hb hby at_22) rfl ?_
    show Steps p.tables e below (T101.setTop (mkF m 23 #[.val (.int p0), .val (.int p1), .val (.int p2), .val (.int p3), .val (.ref b101), .val (.int ln), .unset, .unset, .unset, .unset, .unset, .unset, .unset, .unset] [(.int (ln + (1 : Int32))), (.int (p1 &&& (2147483647 : Int32)))])) _
    refine iremM X101 hx rfl (hb hby at_23) rfl (own_nz hln) ?_
    show Steps p.tables e below (T101.setTop (mkF m 24 #[.val (.int p0), .val (.int p1), .val (.int p2), .val (.int p3), .val (.ref b101), .val (.int ln), .unset, .unset, .unset, .unset, .unset, .unset, .unset, .unset] [(.int ((p1 &&& (2147483647 : Int32)) % (ln + (1 : Int32))))])) _
    rw [← hv_sa]
    show Steps p.tables e below (T101.setTop (mkF m 24 #[.val (.int p0), .val (.int p1), .val (.int p2), .val (.int p3), .val (.ref b101), .val (.int ln), .unset, .unset, .unset, .unset, .unset, .unset, .unset, .unset] [(.int sa)])) _
    refine XS.istore X101.here hx rfl (hb hby at_24) rfl (l' := #[.val (.int p0), .val (.int p1), .val (.int p2), .val (.int p3), .val (.ref b101), .val (.int ln), .val (.int sa), .unset, .unset, .unset, .unset, .unset, .unset, .unset]) rfl ?_
    show Steps p.tables e below (T101.setTop (mkF m 26 #[.val (.int p0), .val (.int p1), .val (.int p2), .val (.int p3), .val (.ref b101), .val (.int ln), .val (.int sa), .unset, .unset, .unset, .unset, .unset, .unset, .unset] [])) _
    refine XS.iload X101.here hx rfl (hb hby at_26) rfl ?_
    show Steps p.tables e below (T101.setTop (mkF m 28 #[.val (.int p0), .val (.int p1), .val (.int p2), .val (.int p3), .val (.ref b101), .val (.int ln), .val (.int sa), .unset, .unset, .unset, .unset, .unset, .unset, .unset] [(.int sa)])) _
    refine XS.iloadN X101.here hx rfl (hb hby at_28) rfl ?_
    show Steps p.tables e below (T101.setTop (mkF m 29 #[.val (.int p0), .val (.int p1), .val (.int p2), .val (.int p3), .val (.ref b101), .val (.int ln), .val (.int sa), .unset, .unset, .unset, .unset, .unset, .unset, .unset] [(.int p2), (.int sa)])) _
    refine X101.ldcInt hx hown (mvT hZ (hw _ (List.mem_of_getElem? (i := 1) rfl))) (g := (mkF m 29 #[.val (.int p0), .val (.int p1), .val (.int p2), .val (.int p3), .val (.ref b101), .val (.int ln), .val (.int sa), .unset, .unset, .unset, .unset, .unset, .unset, .unset] [(.int p2), (.int sa)])) rfl (hb hby at_29) _ ?_
    show Steps p.tables e below (T101.setTop (mkF m 31 #[.val (.int p0), .val (.int p1), .val (.int p2), .val (.int p3), .val (.ref b101), .val (.int ln), .val (.int sa), .unset, .unset, .unset, .unset, .unset, .unset, .unset] [(.int (2147483647 : Int32)), (.int p2), (.int sa)])) _
    refine XS.iand X101.here hx rfl (hb hby at_31) rfl ?_
    show Steps p.tables e below (T101.setTop (mkF m 32 #[.val (.int p0), .val (.int p1), .val (.int p2), .val (.int p3), .val (.ref b101), .val (.int ln), .val (.int sa), .unset, .unset, .unset, .unset, .unset, .unset, .unset] [(.int (p2 &&& (2147483647 : Int32))), (.int sa)])) _
    refine XS.iload X101.here hx rfl (hb hby at_32) rfl ?_
    show Steps p.tables e below (T101.setTop (mkF m 34 #[.val (.int p0), .val (.int p1), .val (.int p2), .val (.int p3), .val (.ref b101), .val (.int ln), .val (.int sa), .unset, .unset, .unset, .unset, .unset, .unset, .unset] [(.int ln), (.int (p2 &&& (2147483647 : Int32))), (.int sa)])) _
    refine XS.iload X101.here hx rfl (hb hby at_34) rfl ?_
    show Steps p.tables e below (T101.setTop (mkF m 36 #[.val (.int p0), .val (.int p1), .val (.int p2), .val (.int p3), .val (.ref b101), .val (.int ln), .val (.int sa), .unset, .unset, .unset, .unset, .unset, .unset, .unset] [(.int sa), (.int ln), (.int (p2 &&& (2147483647 : Int32))), (.int sa)])) _
    refine XS.isub X101.here hx rfl (hb hby at_36) rfl ?_
    show Steps p.tables e below (T101.setTop (mkF m 37 #[.val (.int p0), .val (.int p1), .val (.int p2), .val (.int p3), .val (.ref b101), .val (.int ln), .val (.int sa), .unset, .unset, .unset, .unset, .unset, .unset, .unset] [(.int (ln - sa)), (.int (p2 &&& (2147483647 : Int32))), (.int sa)])) _
    refine XS.iconst X101.here hx rfl (hb hby at_37) ?_
    show Steps p.tables e below (T101.setTop (mkF m 38 #[.val (.int p0), .val (.int p1), .val (.int p2), .val (.int p3), .val (.ref b101), .val (.int ln), .val (.int sa), .unset, .unset, .unset, .unset, .unset, .unset, .unset] [(.int (1 : Int32)), (.int (ln - sa)), (.int (p2 &&& (2147483647 : Int32))), (.int sa)])) _
    refine XS.iadd X101.here hx rfl (hb hby at_38) rfl ?_
    show Steps p.tables e below (T101.setTop (mkF m 39 #[.val (.int p0), .val (.int p1), .val (.int p2), .val (.int p3), .val (.ref b101), .val (.int ln), .val (.int sa), .unset, .unset, .unset, .unset, .unset, .unset, .unset] [(.int ((ln - sa) + (1 : Int32))), (.int (p2 &&& (2147483647 : Int32))), (.int sa)])) _
    refine iremM X101 hx rfl (hb hby at_39) rfl (own_nz2 hln hsa) ?_
    show Steps p.tables e below (T101.setTop (mkF m 40 #[.val (.int p0), .val (.int p1), .val (.int p2), .val (.int p3), .val (.ref b101), .val (.int ln), .val (.int sa), .unset, .unset, .unset, .unset, .unset, .unset, .unset] [(.int ((p2 &&& (2147483647 : Int32)) % ((ln - sa) + (1 : Int32)))), (.int sa)])) _
    refine XS.iadd X101.here hx rfl (hb hby at_40) rfl ?_
    show Steps p.tables e below (T101.setTop (mkF m 41 #[.val (.int p0), .val (.int p1), .val (.int p2), .val (.int p3), .val (.ref b101), .val (.int ln), .val (.int sa), .unset, .unset, .unset, .unset, .unset, .unset, .unset] [(.int (sa + ((p2 &&& (2147483647 : Int32)) % ((ln - sa) + (1 : Int32)))))])) _
    rw [← hv_en]
    show Steps p.tables e below (T101.setTop (mkF m 41 #[.val (.int p0), .val (.int p1), .val (.int p2), .val (.int p3), .val (.ref b101), .val (.int ln), .val (.int sa), .unset, .unset, .unset, .unset, .unset, .unset, .unset] [(.int en)])) _
    refine XS.istore X101.here hx rfl (hb hby at_41) rfl (l' := #[.val (.int p0), .val (.int p1), .val (.int p2), .val (.int p3), .val (.ref b101), .val (.int ln), .val (.int sa), .val (.int en), .unset, .unset, .unset, .unset, .unset, .unset]) rfl ?_
    show Steps p.tables e below (T101.setTop (mkF m 43 #[.val (.int p0), .val (.int p1), .val (.int p2), .val (.int p3), .val (.ref b101), .val (.int ln), .val (.int sa), .val (.int en), .unset, .unset, .unset, .unset, .unset, .unset] [])) _
    refine XS.iloadN X101.here hx rfl (hb hby at_43) rfl ?_
    show Steps p.tables e below (T101.setTop (mkF m 44 #[.val (.int p0), .val (.int p1), .val (.int p2), .val (.int p3), .val (.ref b101), .val (.int ln), .val (.int sa), .val (.int en), .unset, .unset, .unset, .unset, .unset, .unset] [(.int p3)])) _
    refine XS.bipush X101.here hx rfl (hb hby at_44) ?_
    show Steps p.tables e below (T101.setTop (mkF m 46 #[.val (.int p0), .val (.int p1), .val (.int p2), .val (.int p3), .val (.ref b101), .val (.int ln), .val (.int sa), .val (.int en), .unset, .unset, .unset, .unset, .unset, .unset] [(.int (7 : Int32)), (.int p3)])) _
    refine XS.iand X101.here hx rfl (hb hby at_46) rfl ?_
    show Steps p.tables e below (T101.setTop (mkF m 47 #[.val (.int p0), .val (.int p1), .val (.int p2), .val (.int p3), .val (.ref b101), .val (.int ln), .val (.int sa), .val (.int en), .unset, .unset, .unset, .unset, .unset, .unset] [(.int (p3 &&& (7 : Int32)))])) _
    rw [← hv_kk]
    show Steps p.tables e below (T101.setTop (mkF m 47 #[.val (.int p0), .val (.int p1), .val (.int p2), .val (.int p3), .val (.ref b101), .val (.int ln), .val (.int sa), .val (.int en), .unset, .unset, .unset, .unset, .unset, .unset] [(.int kk)])) _
    refine XS.istore X101.here hx rfl (hb hby at_47) rfl (l' := #[.val (.int p0), .val (.int p1), .val (.int p2), .val (.int p3), .val (.ref b101), .val (.int ln), .val (.int sa), .val (.int en), .val (.int kk), .unset, .unset, .unset, .unset, .unset]) rfl ?_
    show Steps p.tables e below (T101.setTop (mkF m 49 #[.val (.int p0), .val (.int p1), .val (.int p2), .val (.int p3), .val (.ref b101), .val (.int ln), .val (.int sa), .val (.int en), .val (.int kk), .unset, .unset, .unset, .unset, .unset] [])) _
    refine XS.iload X101.here hx rfl (hb hby at_49) rfl ?_
    show Steps p.tables e below (T101.setTop (mkF m 51 #[.val (.int p0), .val (.int p1), .val (.int p2), .val (.int p3), .val (.ref b101), .val (.int ln), .val (.int sa), .val (.int en), .val (.int kk), .unset, .unset, .unset, .unset, .unset] [(.int kk)])) _
    refine st102 _ ?_
    show Steps p.tables e below (T102.setTop (mkF m 54 #[.val (.int p0), .val (.int p1), .val (.int p2), .val (.int p3), .val (.ref b101), .val (.int ln), .val (.int sa), .val (.int en), .val (.int kk), .unset, .unset, .unset, .unset, .unset] [(.ref b102)])) _
    refine XS.astore X102.here hx rfl (hb hby at_54) rfl rfl (l' := #[.val (.int p0), .val (.int p1), .val (.int p2), .val (.int p3), .val (.ref b101), .val (.int ln), .val (.int sa), .val (.int en), .val (.int kk), .val (.ref b102), .unset, .unset, .unset, .unset]) rfl ?_
    show Steps p.tables e below (T102.setTop (mkF m 56 #[.val (.int p0), .val (.int p1), .val (.int p2), .val (.int p3), .val (.ref b101), .val (.int ln), .val (.int sa), .val (.int en), .val (.int kk), .val (.ref b102), .unset, .unset, .unset, .unset] [])) _
    refine st103 _ ?_
    show Steps p.tables e below (T103.setTop (mkF m 59 #[.val (.int p0), .val (.int p1), .val (.int p2), .val (.int p3), .val (.ref b101), .val (.int ln), .val (.int sa), .val (.int en), .val (.int kk), .val (.ref b102), .unset, .unset, .unset, .unset] [(.ref b103)])) _
    refine XS.dup X103.here hx rfl (hb hby at_59) rfl rfl ?_
    show Steps p.tables e below (T103.setTop (mkF m 60 #[.val (.int p0), .val (.int p1), .val (.int p2), .val (.int p3), .val (.ref b101), .val (.int ln), .val (.int sa), .val (.int en), .val (.int kk), .val (.ref b102), .unset, .unset, .unset, .unset] [(.ref b103), (.ref b103)])) _
    refine XS.aload X103.here hx rfl (hb hby at_60) rfl rfl ?_
    show Steps p.tables e below (T103.setTop (mkF m 62 #[.val (.int p0), .val (.int p1), .val (.int p2), .val (.int p3), .val (.ref b101), .val (.int ln), .val (.int sa), .val (.int en), .val (.int kk), .val (.ref b102), .unset, .unset, .unset, .unset] [(.ref b101), (.ref b103), (.ref b103)])) _
    refine XS.iload X103.here hx rfl (hb hby at_62) rfl ?_
    show Steps p.tables e below (T103.setTop (mkF m 64 #[.val (.int p0), .val (.int p1), .val (.int p2), .val (.int p3), .val (.ref b101), .val (.int ln), .val (.int sa), .val (.int en), .val (.int kk), .val (.ref b102), .unset, .unset, .unset, .unset] [(.int ln), (.ref b101), (.ref b103), (.ref b103)])) _
    refine XS.iload X103.here hx rfl (hb hby at_64) rfl ?_
    show Steps p.tables e below (T103.setTop (mkF m 66 #[.val (.int p0), .val (.int p1), .val (.int p2), .val (.int p3), .val (.ref b101), .val (.int ln), .val (.int sa), .val (.int en), .val (.int kk), .val (.ref b102), .unset, .unset, .unset, .unset] [(.int sa), (.int ln), (.ref b101), (.ref b103), (.ref b103)])) _
    refine XS.iload X103.here hx rfl (hb hby at_66) rfl ?_
    show Steps p.tables e below (T103.setTop (mkF m 68 #[.val (.int p0), .val (.int p1), .val (.int p2), .val (.int p3), .val (.ref b101), .val (.int ln), .val (.int sa), .val (.int en), .val (.int kk), .val (.ref b102), .unset, .unset, .unset, .unset] [(.int en), (.int sa), (.int ln), (.ref b101), (.ref b103), (.ref b103)])) _
    refine XS.aload X103.here hx rfl (hb hby at_68) rfl rfl ?_
    show Steps p.tables e below (T103.setTop (mkF m 70 #[.val (.int p0), .val (.int p1), .val (.int p2), .val (.int p3), .val (.ref b101), .val (.int ln), .val (.int sa), .val (.int en), .val (.int kk), .val (.ref b102), .unset, .unset, .unset, .unset] [(.ref b102), (.int en), (.int sa), (.int ln), (.ref b101), (.ref b103), (.ref b103)])) _
    refine st105.trans ?_
    show Steps p.tables e below (T105.setTop (mkF m 73 #[.val (.int p0), .val (.int p1), .val (.int p2), .val (.int p3), .val (.ref b101), .val (.int ln), .val (.int sa), .val (.int en), .val (.int kk), .val (.ref b102), .unset, .unset, .unset, .unset] [(.ref b103)])) _
    refine XS.astore X105.here hx rfl (hb hby at_73) rfl rfl (l' := #[.val (.int p0), .val (.int p1), .val (.int p2), .val (.int p3), .val (.ref b101), .val (.int ln), .val (.int sa), .val (.int en), .val (.int kk), .val (.ref b102), .val (.ref b103), .unset, .unset, .unset]) rfl ?_
    show Steps p.tables e below (T105.setTop (mkF m 75 #[.val (.int p0), .val (.int p1), .val (.int p2), .val (.int p3), .val (.ref b101), .val (.int ln), .val (.int sa), .val (.int en), .val (.int kk), .val (.ref b102), .val (.ref b103), .unset, .unset, .unset] [])) _
    refine XS.iload X105.here hx rfl (hb hby at_75) rfl ?_
    show Steps p.tables e below (T105.setTop (mkF m 77 #[.val (.int p0), .val (.int p1), .val (.int p2), .val (.int p3), .val (.ref b101), .val (.int ln), .val (.int sa), .val (.int en), .val (.int kk), .val (.ref b102), .val (.ref b103), .unset, .unset, .unset] [(.int sa)])) _
    refine XS.istore X105.here hx rfl (hb hby at_77) rfl (l' := #[.val (.int p0), .val (.int p1), .val (.int p2), .val (.int p3), .val (.ref b101), .val (.int ln), .val (.int sa), .val (.int en), .val (.int kk), .val (.ref b102), .val (.ref b103), .val (.int sa), .unset, .unset]) rfl ?_
    show Steps p.tables e below (T105.setTop (mkF m 79 #[.val (.int p0), .val (.int p1), .val (.int p2), .val (.int p3), .val (.ref b101), .val (.int ln), .val (.int sa), .val (.int en), .val (.int kk), .val (.ref b102), .val (.ref b103), .val (.int sa), .unset, .unset] [])) _
    refine XS.iload X105.here hx rfl (hb hby at_79) rfl ?_
    show Steps p.tables e below (T105.setTop (mkF m 81 #[.val (.int p0), .val (.int p1), .val (.int p2), .val (.int p3), .val (.ref b101), .val (.int ln), .val (.int sa), .val (.int en), .val (.int kk), .val (.ref b102), .val (.ref b103), .val (.int sa), .unset, .unset] [(.int ln)])) _
    refine XS.iload X105.here hx rfl (hb hby at_81) rfl ?_
    show Steps p.tables e below (T105.setTop (mkF m 83 #[.val (.int p0), .val (.int p1), .val (.int p2), .val (.int p3), .val (.ref b101), .val (.int ln), .val (.int sa), .val (.int en), .val (.int kk), .val (.ref b102), .val (.ref b103), .val (.int sa), .unset, .unset] [(.int en), (.int ln)])) _
    refine XS.isub X105.here hx rfl (hb hby at_83) rfl ?_
    show Steps p.tables e below (T105.setTop (mkF m 84 #[.val (.int p0), .val (.int p1), .val (.int p2), .val (.int p3), .val (.ref b101), .val (.int ln), .val (.int sa), .val (.int en), .val (.int kk), .val (.ref b102), .val (.ref b103), .val (.int sa), .unset, .unset] [(.int (ln - en))])) _
    refine XS.istore X105.here hx rfl (hb hby at_84) rfl (l' := #[.val (.int p0), .val (.int p1), .val (.int p2), .val (.int p3), .val (.ref b101), .val (.int ln), .val (.int sa), .val (.int en), .val (.int kk), .val (.ref b102), .val (.ref b103), .val (.int sa), .val (.int (ln - en)), .unset]) rfl ?_
    show Steps p.tables e below (T105.setTop (mkF m 86 #[.val (.int p0), .val (.int p1), .val (.int p2), .val (.int p3), .val (.ref b101), .val (.int ln), .val (.int sa), .val (.int en), .val (.int kk), .val (.ref b102), .val (.ref b103), .val (.int sa), .val (.int (ln - en)), .unset] [])) _
    refine XS.iload X105.here hx rfl (hb hby at_86) rfl ?_
    show Steps p.tables e below (T105.setTop (mkF m 88 #[.val (.int p0), .val (.int p1), .val (.int p2), .val (.int p3), .val (.ref b101), .val (.int ln), .val (.int sa), .val (.int en), .val (.int kk), .val (.ref b102), .val (.ref b103), .val (.int sa), .val (.int (ln - en)), .unset] [(.int sa)])) _
    refine XS.iload X105.here hx rfl (hb hby at_88) rfl ?_
    show Steps p.tables e below (T105.setTop (mkF m 90 #[.val (.int p0), .val (.int p1), .val (.int p2), .val (.int p3), .val (.ref b101), .val (.int ln), .val (.int sa), .val (.int en), .val (.int kk), .val (.ref b102), .val (.ref b103), .val (.int sa), .val (.int (ln - en)), .unset] [(.int kk), (.int sa)])) _
    refine XS.iadd X105.here hx rfl (hb hby at_90) rfl ?_
    show Steps p.tables e below (T105.setTop (mkF m 91 #[.val (.int p0), .val (.int p1), .val (.int p2), .val (.int p3), .val (.ref b101), .val (.int ln), .val (.int sa), .val (.int en), .val (.int kk), .val (.ref b102), .val (.ref b103), .val (.int sa), .val (.int (ln - en)), .unset] [(.int (sa + kk))])) _
    refine XS.iload X105.here hx rfl (hb hby at_91) rfl ?_
    show Steps p.tables e below (T105.setTop (mkF m 93 #[.val (.int p0), .val (.int p1), .val (.int p2), .val (.int p3), .val (.ref b101), .val (.int ln), .val (.int sa), .val (.int en), .val (.int kk), .val (.ref b102), .val (.ref b103), .val (.int sa), .val (.int (ln - en)), .unset] [(.int (ln - en)), (.int (sa + kk))])) _
    refine XS.iadd X105.here hx rfl (hb hby at_93) rfl ?_
    show Steps p.tables e below (T105.setTop (mkF m 94 #[.val (.int p0), .val (.int p1), .val (.int p2), .val (.int p3), .val (.ref b101), .val (.int ln), .val (.int sa), .val (.int en), .val (.int kk), .val (.ref b102), .val (.ref b103), .val (.int sa), .val (.int (ln - en)), .unset] [(.int ((sa + kk) + (ln - en)))])) _
    refine XS.istore X105.here hx rfl (hb hby at_94) rfl (l' := #[.val (.int p0), .val (.int p1), .val (.int p2), .val (.int p3), .val (.ref b101), .val (.int ln), .val (.int sa), .val (.int en), .val (.int kk), .val (.ref b102), .val (.ref b103), .val (.int sa), .val (.int (ln - en)), .val (.int ((sa + kk) + (ln - en)))]) rfl ?_
    show Steps p.tables e below (T105.setTop (mkF m 96 #[.val (.int p0), .val (.int p1), .val (.int p2), .val (.int p3), .val (.ref b101), .val (.int ln), .val (.int sa), .val (.int en), .val (.int kk), .val (.ref b102), .val (.ref b103), .val (.int sa), .val (.int (ln - en)), .val (.int ((sa + kk) + (ln - en)))] [])) _
    refine XS.aload X105.here hx rfl (hb hby at_96) rfl rfl ?_
    show Steps p.tables e below (T105.setTop (mkF m 98 #[.val (.int p0), .val (.int p1), .val (.int p2), .val (.int p3), .val (.ref b101), .val (.int ln), .val (.int sa), .val (.int en), .val (.int kk), .val (.ref b102), .val (.ref b103), .val (.int sa), .val (.int (ln - en)), .val (.int ((sa + kk) + (ln - en)))] [(.ref b103)])) _
    refine st107.trans ?_
    show Steps p.tables e below (T107.setTop (mkF m 101 #[.val (.int p0), .val (.int p1), .val (.int p2), .val (.int p3), .val (.ref b101), .val (.int ln), .val (.int sa), .val (.int en), .val (.int kk), .val (.ref b102), .val (.ref b103), .val (.int sa), .val (.int (ln - en)), .val (.int ((sa + kk) + (ln - en)))] [(.int ((ln - (en - sa)) + kk))])) _
    refine XS.iload X107.here hx rfl (hb hby at_101) rfl ?_
    show Steps p.tables e below (T107.setTop (mkF m 103 #[.val (.int p0), .val (.int p1), .val (.int p2), .val (.int p3), .val (.ref b101), .val (.int ln), .val (.int sa), .val (.int en), .val (.int kk), .val (.ref b102), .val (.ref b103), .val (.int sa), .val (.int (ln - en)), .val (.int ((sa + kk) + (ln - en)))] [(.int ((sa + kk) + (ln - en))), (.int ((ln - (en - sa)) + kk))])) _
    refine XS.icmpNo X107.here hx rfl (hb hby at_103) rfl (teq (own_sum ln sa en kk)).2 ?_
    show Steps p.tables e below (T107.setTop (mkF m 106 #[.val (.int p0), .val (.int p1), .val (.int p2), .val (.int p3), .val (.ref b101), .val (.int ln), .val (.int sa), .val (.int en), .val (.int kk), .val (.ref b102), .val (.ref b103), .val (.int sa), .val (.int (ln - en)), .val (.int ((sa + kk) + (ln - en)))] [])) _
    refine XS.iconst X107.here hx rfl (hb hby at_106) ?_
    show Steps p.tables e below (T107.setTop (mkF m 107 #[.val (.int p0), .val (.int p1), .val (.int p2), .val (.int p3), .val (.ref b101), .val (.int ln), .val (.int sa), .val (.int en), .val (.int kk), .val (.ref b102), .val (.ref b103), .val (.int sa), .val (.int (ln - en)), .val (.int ((sa + kk) + (ln - en)))] [(.int (1 : Int32))])) _
    refine XS.goto X107.here hx rfl (pc0 := 107) (pc' := 111) rfl (hb hby at_107) (by decide) (by decide) ?_
    show Steps p.tables e below (T107.setTop (mkF m 111 #[.val (.int p0), .val (.int p1), .val (.int p2), .val (.int p3), .val (.ref b101), .val (.int ln), .val (.int sa), .val (.int en), .val (.int kk), .val (.ref b102), .val (.ref b103), .val (.int sa), .val (.int (ln - en)), .val (.int ((sa + kk) + (ln - en)))] [(.int (1 : Int32))])) _
    exact retN X107 hx (t := .boolean) Bd.returns (by simp) (hb hby at_111) hr
  · show QLaw n0 _ T107.heap _
    rw [e107]
    exact ⟨rfl, N107⟩
set_option maxRecDepth 65536 in
set_option maxHeartbeats 40000000 in
theorem comes_1 {Post : Tables → Env → Array Value → State → Outcome → State → Prop} (hpost : ∀ tb e args s v u, (limb_1_1.after args s (.returned v) u = true ∧ limb_1_2.after args s (.returned v) u = true ∧ True) → FrameEnd s (.returned v) u (Jvm.fieldLocs frame_1_writes args s ++ Jvm.arrayLocs frame_1_arrays args s ++ Jvm.staticLocs frame_1_statics s) 16 128 → Post tb e args s (.returned v) u) :
    ArmFor flags0 classFile x code maxLocals ret World_1 tables_1 room_1 Calls_1 rest_1 Pre_1 Post := by
  intro l hfl _ _ p e ha hc hk s m args below hf hA hF happ hP
  obtain ⟨hcalls, hrest, hpre⟩ := hP
  obtain ⟨-, -, -, hnamed, -, -, -, hat⟩ := (Spec.applies_iff hf).mp happ
  obtain ⟨hg, hn⟩ := and_e (Cond.before_iff.mp (show (Jvm.Cond.and given_1 narrow_1).before args s = true from hpre))
  obtain ⟨hcnt, hg0⟩ := and_e hg
  obtain ⟨ha0, hg1⟩ := and_e hg0
  obtain ⟨ha1, hg2⟩ := and_e hg1
  obtain ⟨ha2, hg3⟩ := and_e hg2
  have ha3 := hg3
  obtain ⟨w0, w1, w2, w3, rfl⟩ : ∃ w0 w1 w2 w3 : Value, args = #[w0, w1, w2, w3] := by
    have hs : args.size = 4 := by simpa [Cond.value, given_1] using hcnt
    obtain ⟨L⟩ := args
    match L, hs with
    | [w0, w1, w2, w3], _ => exact ⟨w0, w1, w2, w3, rfl⟩
  have hw := fun d (hd : d ∈ tables_1) => atoms_spec (ws := Jvm.Cond.code x code maxLocals ret :: tables_1) hat d (List.mem_cons_of_mem _ hd)
  have hfit : Fit s := fun {y c} hc i hi => by
    obtain ⟨ha, rfl⟩ := Array.getElem?_eq_some_iff.mp hc
    have q := List.all_eq_true.mp ((Array.all_eq_true_iff_forall_mem.mp hF) _ (Array.getElem_mem ha)) i (List.mem_range.mpr hi)
    simpa [Array.getElem?_eq_getElem hi] using q
  obtain ⟨i0, ei0⟩ := is_v ha0
  obtain rfl : w0 = (.int i0) := Option.some.inj ei0
  obtain ⟨i1, ei1⟩ := is_v ha1
  obtain rfl : w1 = (.int i1) := Option.some.inj ei1
  obtain ⟨i2, ei2⟩ := is_v ha2
  obtain rfl : w2 = (.int i2) := Option.some.inj ei2
  obtain ⟨i3, ei3⟩ := is_v ha3
  obtain rfl : w3 = (.int i3) := Option.some.inj ei3
  obtain ⟨n, o, h1, h2, h3, _, L, rfl, ⟨rfl, N⟩, hq⟩ := rm0 l s _ hw tables_1 i0 i1 i2 i3 s.heap s.heap.size (Nat.le_refl _)  p e ha hc hk s m _ below hf ((Spec.applies_iff_loose hf).mp happ).1 ⟨rfl, State.Warmed39.refl s, rfl⟩ trivial
  refine ⟨n, _, h1, h2, h3, hpost _ _ _ _ _ _ ⟨Cond.after_iff.mpr rfl, Cond.after_iff.mpr (eq_i res_at (Term.int_eval (1)) rfl), trivial⟩ ⟨hq.1, hq.2.1, (hq.2.2.sift fun y hy => Or.inr (N y hy)).mono (by decide) (by decide)⟩⟩
theorem main_1_1 : Claimed_1_1 := comes_1 fun _ _ _ _ _ _ h hF => ⟨h.1, hF⟩
theorem main_1_2 : Claimed_1_2 := comes_1 fun _ _ _ _ _ _ h hF => ⟨h.2.1, hF⟩
end Jvm.Pilot.@@N@@
namespace Jvm.Pilot.@@N@@
open Jvm Jvm.ClassFile Sem Op Lib Jvm.Free Jvm.Stand Jvm.Pilot.@@N@@.Jvm.D
/-! MADE BY PROGRAM (witnessworld.py) out of the Statement's table words and the real class files: 9 classes; the members and pool entries that the words name. The judged class is class 1, her method 2. -/
namespace start1
open Jvm.ClassFile
def u (s : String) : CpInfo := .utf8 (stringToUtf16 s)
/-- a pool by its gaps: so many unusable entries, then the entry; so many at the end -/
def gap : Nat → List CpInfo → List CpInfo
  | 0, r => r
  | n + 1, r => .unusable :: gap n r
def poolList (es : List (Nat × CpInfo)) (last : Nat) : List CpInfo := es.foldr (fun e r => gap e.1 (e.2 :: r)) (gap last [])
def pool (es : List (Nat × CpInfo)) (last : Nat) : Array CpInfo := ⟨poolList es last⟩
def fileOf (pool : Array CpInfo) (this : Nat) (attrs : Array Attribute := #[]) (ms : Array MethodInfo := #[]) (fl : Nat := 33) (sup : Nat := 0) (ifs : Array Nat := #[]) (fds : Array FieldInfo := #[]) : ClassFile where
  minorVersion := 0
  majorVersion := 65
  constantPool := pool
  accessFlags := fl
  thisClass := this
  superClass := sup
  interfaces := ifs
  fields := fds
  methods := ms
  attributes := attrs
def plain (name : String) (sup : Option ClassId) : Class where
  name := name
  kind := .ordinary
  loader := none
  accessFlags := 33
  super := sup
  interfaces := #[]
  cf := none
  fields := #[]
  methods := #[]
  instanceTypes := #[]
  staticTypes := #[]
  resolved := #[]
  callSites := []
  init := .initialized
  statics := none
  mirror := none

def pool0 : Array CpInfo := pool [(5, u "<init>"), (0, u "()V"), (1, .class_ 10), (1, u "java/lang/Object")] 113

def k0c0 : Code := { maxStack := 0, maxLocals := 1, code := object_method_1_code, exceptionTable := #[], attributes := #[] }
def k0m0 : Method := { name := "<init>", desc := "()V", sig := { parameters := [], returnType := none }, accessFlags := 1, code := some k0c0 }
/-- java/lang/Object -/
def k0 : Class := { plain "java/lang/Object" none with
  accessFlags := 33
  interfaces := #[]
  cf := some (fileOf pool0 8 #[] #[{ accessFlags := 1, nameIndex := 5, descriptorIndex := 6, attributes := #[] }] 33 0 #[] #[])
  fields := #[]
  methods := #[k0m0]
  instanceTypes := #[]
  staticTypes := #[]
  resolved := Array.replicate 124 none
  statics := none }

def pool1 : Array CpInfo := pool [(2, .class_ 4), (1, u "java/lang/Object"), (0, u "<init>"), (0, u "()V"), (0, .integer 2147483647), (0, .methodref 9 10), (0, .class_ 11), (0, .nameAndType 12 13), (0, u "com/example/seglport/seglport/soap/SplicedMessageLengthPinLaw"), (0, u "bytes"), (0, u "(I)[B"), (0, .class_ 15), (0, u "com/example/seglport/seglport/soap/SplicedMessage"), (0, .methodref 14 17), (0, .nameAndType 5 18), (0, u "([BIII[B)V"), (0, .methodref 14 20), (0, .nameAndType 21 22), (0, u "length"), (0, u "()I"), (3, u "law"), (0, u "(IIII)Z")] 4

def k1m0 : Method := { name := "<init>", desc := "()V", sig := { parameters := [], returnType := none }, accessFlags := 1, code := none }
def k1c1 : Code := { maxStack := 2, maxLocals := 1, code := method_2_code, exceptionTable := #[], attributes := #[] }
def k1m1 : Method := { name := "bytes", desc := "(I)[B", sig := { parameters := [.int], returnType := some (.array .byte) }, accessFlags := 10, code := some k1c1 }
def k1c2 : Code := { maxStack := 7, maxLocals := 14, code := code, exceptionTable := #[], attributes := #[] }
def k1m2 : Method := { name := "law", desc := "(IIII)Z", sig := { parameters := [.int, .int, .int, .int], returnType := some .boolean }, accessFlags := 9, code := some k1c2 }
/-- com/example/seglport/seglport/soap/SplicedMessageLengthPinLaw -/
def k1 : Class := { plain "com/example/seglport/seglport/soap/SplicedMessageLengthPinLaw" (some 0) with
  accessFlags := 49
  interfaces := #[]
  cf := some (fileOf pool1 9 #[] #[{ accessFlags := 1, nameIndex := 5, descriptorIndex := 6, attributes := #[] }, { accessFlags := 10, nameIndex := 12, descriptorIndex := 13, attributes := #[] }, { accessFlags := 9, nameIndex := 26, descriptorIndex := 27, attributes := #[] }] 49 2 #[] #[])
  fields := #[]
  methods := #[k1m0, k1m1, k1m2]
  instanceTypes := #[]
  staticTypes := #[]
  resolved := Array.replicate 32 none
  statics := none }

def pool2 : Array CpInfo := pool [(1, .methodref 2 3), (0, .class_ 4), (0, .nameAndType 5 6), (0, u "java/lang/Object"), (0, u "<init>"), (0, u "()V"), (0, .fieldref 8 9), (0, .class_ 10), (0, .nameAndType 11 12), (0, u "com/example/seglport/seglport/soap/SplicedMessage"), (0, u "_message"), (0, u "[B"), (0, .fieldref 8 14), (0, .nameAndType 15 16), (0, u "_length"), (0, u "I"), (0, .fieldref 8 18), (0, .nameAndType 19 16), (0, u "_start"), (0, .fieldref 8 21), (0, .nameAndType 22 16), (0, u "_end"), (0, .fieldref 8 24), (0, .nameAndType 25 12), (0, u "_inserted"), (9, u "([BIII[B)V"), (7, u "length"), (0, u "()I")] 2

def k2c0 : Code := { maxStack := 2, maxLocals := 6, code := prog_109_method_1_code, exceptionTable := #[], attributes := #[] }
def k2m0 : Method := { name := "<init>", desc := "([BIII[B)V", sig := { parameters := [(.array .byte), .int, .int, .int, (.array .byte)], returnType := none }, accessFlags := 0, code := some k2c0 }
def k2c1 : Code := { maxStack := 3, maxLocals := 1, code := prog_109_method_3_code, exceptionTable := #[], attributes := #[] }
def k2m1 : Method := { name := "length", desc := "()I", sig := { parameters := [], returnType := some .int }, accessFlags := 1, code := some k2c1 }
/-- com/example/seglport/seglport/soap/SplicedMessage -/
def k2 : Class := { plain "com/example/seglport/seglport/soap/SplicedMessage" (some 0) with
  accessFlags := 49
  interfaces := #[]
  cf := some (fileOf pool2 8 #[] #[{ accessFlags := 0, nameIndex := 5, descriptorIndex := 35, attributes := #[] }, { accessFlags := 1, nameIndex := 43, descriptorIndex := 44, attributes := #[] }] 49 2 #[] #[{ accessFlags := 18, nameIndex := 11, descriptorIndex := 12, attributes := #[] }, { accessFlags := 18, nameIndex := 15, descriptorIndex := 16, attributes := #[] }, { accessFlags := 18, nameIndex := 19, descriptorIndex := 16, attributes := #[] }, { accessFlags := 18, nameIndex := 22, descriptorIndex := 16, attributes := #[] }, { accessFlags := 18, nameIndex := 25, descriptorIndex := 12, attributes := #[] }])
  fields := #[{ name := "_message", type := (.array .byte), accessFlags := 18, slot := 0, constantValue := 0 }, { name := "_length", type := .int, accessFlags := 18, slot := 1, constantValue := 0 }, { name := "_start", type := .int, accessFlags := 18, slot := 2, constantValue := 0 }, { name := "_end", type := .int, accessFlags := 18, slot := 3, constantValue := 0 }, { name := "_inserted", type := (.array .byte), accessFlags := 18, slot := 4, constantValue := 0 }]
  methods := #[k2m0, k2m1]
  instanceTypes := #[(.array .byte), .int, .int, .int, (.array .byte)]
  staticTypes := #[]
  resolved := Array.replicate 47 none
  statics := none }

def pool3 : Array CpInfo := pool [(1, u "java/lang/Cloneable"), (0, .class_ 1), (0, u "java/lang/Object"), (0, .class_ 3)] 3

/-- java/lang/Cloneable -/
def k3 : Class := { plain "java/lang/Cloneable" (some 0) with
  accessFlags := 1537
  interfaces := #[]
  cf := some (fileOf pool3 2 #[] #[] 1537 4 #[] #[])
  fields := #[]
  methods := #[]
  instanceTypes := #[]
  staticTypes := #[]
  resolved := Array.replicate 8 none
  statics := none }

def pool4 : Array CpInfo := pool [(1, u "java/io/Serializable"), (0, .class_ 1), (0, u "java/lang/Object"), (0, .class_ 3)] 3

/-- java/io/Serializable -/
def k4 : Class := { plain "java/io/Serializable" (some 0) with
  accessFlags := 1537
  interfaces := #[]
  cf := some (fileOf pool4 2 #[] #[] 1537 4 #[] #[])
  fields := #[]
  methods := #[]
  instanceTypes := #[]
  staticTypes := #[]
  resolved := Array.replicate 8 none
  statics := none }

/-- the primitive byte -/
def k5 : Class := { plain "byte" none with kind := .primitive 'B', accessFlags := 0x411 }
/-- [B -/
def k6 : Class := { plain "[B" (some 0) with kind := .array 5 .byte, interfaces := #[3, 4], accessFlags := 1041 }

/-- the primitive int -/
def k7 : Class := { plain "int" none with kind := .primitive 'I', accessFlags := 0x411 }
/-- [I -/
def k8 : Class := { plain "[I" (some 0) with kind := .array 7 .int, interfaces := #[3, 4], accessFlags := 1041 }

def heap : Heap := #[]
def classes : Array Class := #[k0, k1, k2, k3, k4, k5, k6, k7, k8]
def interned : List (Array UInt16 × Addr) := []
def slotsUsed : Nat := 0
def theMethod : MethodId := ⟨1, 2⟩
def args0 : Array Value := #[.int 5, .int 6, .int 7, .int 8]
def aboutOver (below : List Frame) : State where
  vm := { classes := classes, interned := interned.toArray }
  heap := heap
  slotsUsed := slotsUsed
  threads := #[{ frames := .invoking theMethod args0 :: below }]
def below0 : List Frame := [.native { method := ⟨0, 0⟩, args := #[] }]
def about1 : State := aboutOver below0
def p0 : Program := .bare "" "" ""
def e0 : Env := launch0.env 0 0 0
theorem w_frames : about1.frames = Frame.invoking theMethod args0 :: below0 := rfl
set_option maxRecDepth 65536 in
theorem w_args : argsFit about1.vm theMethod args0 = true := by decide +kernel
set_option maxRecDepth 65536 in
theorem w_heap : heapFits about1 = true := by decide +kernel
set_option maxRecDepth 65536 in
theorem w_runnable : about1.curStatus? = some .runnable := by decide +kernel
set_option maxRecDepth 65536 in
theorem w_alone : about1.alone = true := by decide +kernel
set_option maxRecDepth 65536 in
theorem w_named : about1.methodNamed? x = some theMethod := by decide +kernel
set_option maxRecDepth 65536 in
theorem w_hears : about1.hears theMethod below0 = true := by decide +kernel
set_option maxRecDepth 65536 in
theorem w_ripe : about1.ripe theMethod args0 below0 = true := by decide +kernel
theorem w_running : about1.status = .running := rfl
set_option maxRecDepth 65536 in
theorem w_room : about1.hasRoom e0.platform room_1 = true :=
  launch0.hasRoom_least _ room_1 (by decide +kernel) (by decide +kernel) (by decide +kernel) (by decide +kernel) (by decide +kernel) (by decide +kernel)
theorem allAtoms_all (ts : List Jvm.Cond) (a : Array Jvm.Value) (st : Jvm.State) : (allAtoms ts).before a st = ts.all (fun c => c.before a st) := by
  induction ts with
  | nil => rfl
  | cons c t ih =>
    show (Jvm.Cond.and c (allAtoms t)).before a st = _
    rw [Jvm.Cond.before_and, ih, List.all_cons]
def words1 : List Jvm.Cond := Jvm.Cond.code x code maxLocals ret :: tables_1
/-- a 'code' word, met by the world's own term for the bytes: nothing is compared byte by byte -/
theorem code_word {y : MethodName} {bytes : ByteArray} {mx : Nat} {rt : Option FieldType} {a : Array Value} {s : State} {m : MethodId} {meth : Method} {c : Code} (h1 : s.methodNamed? y = some m) (h2 : s.vm.method? m = some meth) (h3 : meth.code = some c) (h4 : c.code = bytes)
    (h5 : (c.maxLocals == mx && c.exceptionTable.isEmpty && decide (c.maxStack ≤ mostOperands) && decide (meth.sig.returnType = rt) && !meth.locks && decide (parseMethodDescriptor y.desc = some meth.sig)) = true) : (Jvm.Cond.code y bytes mx rt).before a s = true := by
  simp only [Bool.and_eq_true, beq_iff_eq, Bool.not_eq_true', decide_eq_true_eq] at h5
  obtain ⟨⟨⟨⟨⟨g1, g2⟩, g3⟩, g4⟩, g5⟩, g6⟩ := h5
  simp [Cond.before, Cond.holds, Cond.value, h1, h2, h3, h4, g1, g2, g3, g4, g5, g6]
def isCode : Jvm.Cond → Bool
  | .code _ _ _ _ => true
  | _ => false
theorem all_split {L : List Jvm.Cond} {P : Jvm.Cond → Bool} (h1 : L.all (fun c => isCode c || P c) = true) (h2 : ∀ c ∈ L.filter isCode, P c = true) : L.all P = true := by
  refine List.all_eq_true.mpr fun c hc => ?_
  have h := List.all_eq_true.mp h1 c hc
  rcases Bool.eq_false_or_eq_true (isCode c) with hi | hi
  · exact h2 c (List.mem_filter.mpr ⟨hc, hi⟩)
  · simpa [hi] using h
set_option maxRecDepth 65536 in
theorem w_c0 : (Jvm.Cond.code x code maxLocals ret).before args0 about1 = true := code_word (m := ⟨1, 2⟩) (meth := k1m2) (c := k1c2) (by decide +kernel) rfl rfl rfl (by decide +kernel)
set_option maxRecDepth 65536 in
theorem w_c1 : (Jvm.Cond.code ({ cls := "com/example/seglport/seglport/soap/SplicedMessageLengthPinLaw", name := "bytes", desc := "(I)[B" } : Jvm.MethodName) method_2_code (1 : Nat) (Option.some (Jvm.ClassFile.FieldType.array Jvm.ClassFile.FieldType.byte))).before args0 about1 = true := code_word (m := ⟨1, 1⟩) (meth := k1m1) (c := k1c1) (by decide +kernel) rfl rfl rfl (by decide +kernel)
set_option maxRecDepth 65536 in
theorem w_c2 : (Jvm.Cond.code ({ cls := "com/example/seglport/seglport/soap/SplicedMessage", name := "<init>", desc := "([BIII[B)V" } : Jvm.MethodName) prog_109_method_1_code (6 : Nat) (Option.none : Option Jvm.ClassFile.FieldType)).before args0 about1 = true := code_word (m := ⟨2, 0⟩) (meth := k2m0) (c := k2c0) (by decide +kernel) rfl rfl rfl (by decide +kernel)
set_option maxRecDepth 65536 in
theorem w_c3 : (Jvm.Cond.code ({ cls := "java/lang/Object", name := "<init>", desc := "()V" } : Jvm.MethodName) object_method_1_code (1 : Nat) (Option.none : Option Jvm.ClassFile.FieldType)).before args0 about1 = true := code_word (m := ⟨0, 0⟩) (meth := k0m0) (c := k0c0) (by decide +kernel) rfl rfl rfl (by decide +kernel)
set_option maxRecDepth 65536 in
theorem w_c4 : (Jvm.Cond.code ({ cls := "com/example/seglport/seglport/soap/SplicedMessage", name := "length", desc := "()I" } : Jvm.MethodName) prog_109_method_3_code (1 : Nat) (Option.some Jvm.ClassFile.FieldType.int)).before args0 about1 = true := code_word (m := ⟨2, 1⟩) (meth := k2m1) (c := k2c1) (by decide +kernel) rfl rfl rfl (by decide +kernel)
def codes1 : List Jvm.Cond := [Jvm.Cond.code x code maxLocals ret, Jvm.Cond.code ({ cls := "com/example/seglport/seglport/soap/SplicedMessageLengthPinLaw", name := "bytes", desc := "(I)[B" } : Jvm.MethodName) method_2_code (1 : Nat) (Option.some (Jvm.ClassFile.FieldType.array Jvm.ClassFile.FieldType.byte)), Jvm.Cond.code ({ cls := "com/example/seglport/seglport/soap/SplicedMessage", name := "<init>", desc := "([BIII[B)V" } : Jvm.MethodName) prog_109_method_1_code (6 : Nat) (Option.none : Option Jvm.ClassFile.FieldType), Jvm.Cond.code ({ cls := "java/lang/Object", name := "<init>", desc := "()V" } : Jvm.MethodName) object_method_1_code (1 : Nat) (Option.none : Option Jvm.ClassFile.FieldType), Jvm.Cond.code ({ cls := "com/example/seglport/seglport/soap/SplicedMessage", name := "length", desc := "()I" } : Jvm.MethodName) prog_109_method_3_code (1 : Nat) (Option.some Jvm.ClassFile.FieldType.int)]
set_option maxRecDepth 65536 in
theorem codes_eq : words1.filter isCode = codes1 := rfl
theorem w_codes : ∀ c ∈ words1.filter isCode, c.before args0 about1 = true := by
  rw [codes_eq]
  intro c hc
  simp only [codes1, List.mem_cons, List.not_mem_nil, or_false] at hc
  rcases hc with rfl | rfl | rfl | rfl | rfl
  · exact w_c0
  · exact w_c1
  · exact w_c2
  · exact w_c3
  · exact w_c4
set_option maxRecDepth 65536 in
theorem w_t1 : (words1.take 24).all (fun c => isCode c || c.before args0 about1) = true := by decide +kernel
set_option maxRecDepth 65536 in
theorem w_t2 : (words1.drop 24).all (fun c => isCode c || c.before args0 about1) = true := by decide +kernel
theorem w_tables : (allAtoms (Jvm.Cond.code x code maxLocals ret :: tables_1)).before args0 about1 = true := by
  rw [allAtoms_all]
  show words1.all (fun c => c.before args0 about1) = true
  refine all_split ?_ w_codes
  rw [← List.take_append_drop 24 words1, List.all_append, w_t1, w_t2]
  rfl
set_option maxRecDepth 65536 in
theorem w_case : (Jvm.Cond.and given_1 narrow_1).before args0 about1 = true := by decide +kernel
theorem w_applies : (headSpec (Jvm.Cond.code x code maxLocals ret :: tables_1) room_1).applies x e0.platform about1 = true :=
  (Spec.applies_iff w_frames).mpr ⟨w_running, w_runnable, w_alone, w_named, w_hears, w_ripe, w_room, w_tables⟩
theorem atStart : AtStart classFile x code maxLocals ret World_1 tables_1 room_1 Calls_1 rest_1 Pre_1 launch0 p0 e0 about1 theMethod args0 below0 :=
  ⟨lists_1, trivial, launch0.admits_env _ _ _, launch0.least_env, fairChoices_fair.cas, fairChoices_fair.clock, w_frames, w_args, w_heap, w_applies, trivial, trivial, w_case⟩
end start1
theorem witness_1 : WitnessClaimed_1 := ⟨start1.p0, start1.e0, start1.about1, start1.theMethod, start1.args0, start1.below0, start1.atStart⟩
end Jvm.Pilot.@@N@@
