import JvmDerived
import JvmDerived.Pilot.@@N@@Statement
import JvmDerived.Pilot.@@N@@Code
set_option linter.unusedVariables false
set_option linter.unusedSimpArgs false
namespace Jvm.RoadKit
open Sem ClassFile Op Lib Jvm.Stand Jvm.Free Jvm.LawKit
section New
variable {p : Program} {l : Launch} {e : Env} {R : Room} {s : State} {m : MethodId} {args : Array Value} {below : List Frame} {meth : Method} {c : Code} {T : State} {locs : List Loc} {cells slots : Nat}
theorem retI (X : Stand p l e R s m args below meth c T locs cells slots) (hx : p.tables.exec = Jvm.exec) {pc : Nat} {Ls : Array Slot} {z : Int32} {rest : List Value} (hret : meth.sig.returnType = some .int) (hd : decode c.code pc = .ok (.ireturn, 1)) {fs : List Frame}
    (hl : ∀ (f : JFrame) (acts : List Action), f.method = m → f.locked = none → f.entered = [] → (doReturn e (T.setTop f) acts (some (.int z))).1 = T.setFrames fs) : Steps p.tables e below (T.setTop (mkF m pc Ls (.int z :: rest))) (T.setFrames fs) := by
  have hm' : T.vm.method? m = some meth := X.method'
  have hn : narrow .int (.int z) = .int z := rfl
  show Steps p.tables e below (T.setTop { method := m, pc := pc, locals := Ls, stack := _ :: rest, locked := none }) _
  jvm_step X.here [X.here.top, hx, hd, hm', hret, hn]
  first | (intro acts; rw [hl _ acts rfl rfl rfl]) | rw [hl _ _ rfl rfl rfl]
  exact Steps.refl _
end New
end Jvm.RoadKit
namespace Jvm.Pilot.@@N@@
open Jvm Jvm.ClassFile Sem Op Lib Jvm.Free Jvm.Stand Jvm.LawKit Jvm.RoadKit Bundle Jvm.Pilot.@@N@@.Jvm.D
section OwnKit
variable {p : Program} {l : Launch} {e : Env} {R : Room} {s : State} {m : MethodId} {args : Array Value} {below : List Frame} {meth : Method} {c : Code} {T : State} {locs : List Loc} {cells slots : Nat}
/-- from S the run comes to a return of which F holds -/
def Goes (tb : Tables) (e : Env) (below : List Frame) (s : State) (F : Option Value → Heap → List Loc → Prop) (k n : Nat) (S : State) : Prop :=
  ∃ s₂ o, Steps tb e below S s₂ ∧ s₂.status = .running ∧ Ended s₂ below o ∧ ∃ v L, o = .returned v ∧ F v s₂.heap L ∧ FrameEnd s o s₂ L k n
theorem Goes.of {tb : Tables} {F : Option Value → Heap → List Loc → Prop} {k n : Nat} {S S' : State} (h : ∀ t, Steps tb e below S' t → Steps tb e below S t) (g : Goes tb e below s F k n S') : Goes tb e below s F k n S := by
  obtain ⟨s₂, o, h1, r⟩ := g
  exact ⟨s₂, o, h _ h1, r⟩
theorem Goes.mono {tb : Tables} {F G : Option Value → Heap → List Loc → Prop} {k n : Nat} {S : State} (h : ∀ v h L, F v h L → G v h L) (g : Goes tb e below s F k n S) : Goes tb e below s G k n S := by
  obtain ⟨s₂, o, h1, h2, h3, v, L, h4, h5, h6⟩ := g
  exact ⟨s₂, o, h1, h2, h3, v, L, h4, h _ _ _ h5, h6⟩
theorem Goes.fin (X : Stand p l e R s m args below meth c T locs cells slots) (hlk : meth.locks = false) {v : Option Value} {F : Option Value → Heap → List Loc → Prop} {k n : Nat} {S : State} (hv : meth.sig.returnType = none → v = none)
    (step : ∀ fs, (∀ (f : JFrame) (acts : List Action), f.method = m → f.locked = none → f.entered = [] → (doReturn e (T.setTop f) acts v).1 = T.setFrames fs) → Steps p.tables e below S (T.setFrames fs)) (hF : F v T.heap locs) (hk : cells ≤ k) (hn : slots ≤ n) : Goes p.tables e below s F k n S := by
  obtain ⟨fs, hr, hrun, hended, hW, hsame⟩ := X.leave hv hlk
  exact ⟨_, _, step fs hr, hrun, hended, v, locs, rfl, hF, ⟨_, rfl⟩, hW, hsame.mono hk hn⟩
end OwnKit
section OwnArr
variable {p : Program} {l : Launch} {e : Env} {R : Room} {s : State} {m : MethodId} {args : Array Value} {below : List Frame} {meth : Method} {c : Code} {T : State} {locs : List Loc} {cells slots : Nat} {Z : State} {h h' : Heap} {a b : Addr} {ty : FieldType} {n i : Nat} {f : Nat → Int32} {ws : List Addr} {sl : Nat} {w : Value}
/-- at a stands an array of n places; place j holds f j -/
def AI (Z : State) (h : Heap) (a : Addr) (ty : FieldType) (n : Nat) (f : Nat → Int32) : Prop :=
  ∃ c : Cell, Arr Z h a c ty ∧ c.slots.size = n ∧ n < 2147483648 ∧ ∀ j, j < n → c.slots[j]? = some (.int (f j)) ∧ fits ty (.int (f j)) = true
def upd (f : Nat → Int32) (i : Nat) (v : Int32) : Nat → Int32 := fun j => if j = i then v else f j
theorem AI.lt (F : AI Z h a ty n f) : a < h.size := by obtain ⟨c, A, -⟩ := F; exact A.lt
theorem AI.ext (F : AI Z h a ty n f) (E : Ext h h') : AI Z h' a ty n f := by obtain ⟨c, A, r⟩ := F; exact ⟨c, A.ext E, r⟩
theorem AI.other (F : AI Z h a ty n f) (W : Wr h h' b sl w) (q : a ≠ b) : AI Z h' a ty n f := by obtain ⟨c, A, r⟩ := F; exact ⟨c, A.other W q, r⟩
theorem AI.keep (F : AI Z h a ty n f) (K : Keep h h' ws) (q : a ∉ ws) : AI Z h' a ty n f := by obtain ⟨c, A, r⟩ := F; exact ⟨c, ⟨K.2.1 a c A.1 q, A.2⟩, r⟩
theorem AI.congr {f' : Nat → Int32} (F : AI Z h a ty n f) (q : ∀ j, j < n → f j = f' j) : AI Z h a ty n f' := by
  obtain ⟨c, A, S, M, H⟩ := F
  exact ⟨c, A, S, M, fun j hj => by rw [← q j hj]; exact H j hj⟩
theorem AI.fits (F : AI Z h a ty n f) {j : Nat} (hj : j < n) : Jvm.fits ty (.int (f j)) = true := by
  obtain ⟨c, A, S, M, H⟩ := F
  exact (H j hj).2
theorem AI.new {cA : ClassId} {z : Int32} (hd : defaultValue ty = .int 0) (hf : Jvm.fits ty (.int 0) = true) (A : Arr Z h a (newA cA ty z) ty) (q : ¬ z < 0) (hn : z.toNatClampNeg = n) : AI Z h a ty n (fun _ => 0) := by
  subst hn
  refine ⟨_, A, sz_new _ _ _, (back32 q).2, fun j hj => ⟨?_, hf⟩⟩
  show (Array.replicate z.toNatClampNeg (defaultValue ty))[j]? = _
  rw [hd, Array.getElem?_replicate, if_pos hj]
theorem AI.set {v : Int32} (F : AI Z h a ty n f) (W : Wr h h' a i (.int v)) (hv : Jvm.fits ty (.int v) = true) : AI Z h' a ty n (upd f i v) := by
  obtain ⟨c, A, S, M, H⟩ := F
  refine ⟨c.setSlot i (.int v), A.same W, by rw [sz_set]; exact S, M, fun j hj => ?_⟩
  show (c.slots.setIfInBounds i (.int v))[j]? = _ ∧ _
  by_cases q : j = i
  · subst q
    rw [Array.getElem?_setIfInBounds_self_of_lt (by omega)]
    have e : upd f j v j = v := if_pos rfl
    rw [e]; exact ⟨rfl, hv⟩
  · rw [Array.getElem?_setIfInBounds_ne (Ne.symm q)]
    have e : upd f i v j = f j := if_neg q
    rw [e]; exact H j hj
theorem own_nn {j : Int32} (h : 0 ≤ j.toInt) : ¬ j < 0 := by
  rw [Int32.lt_iff_toInt_lt, show (0 : Int32).toInt = 0 from rfl]; omega
theorem own_ltn {j : Int32} {n : Nat} (h0 : 0 ≤ j.toInt) (h : j.toInt < n) : j.toNatClampNeg < n := by
  simp only [Int32.toNatClampNeg]; omega
theorem own_tn {z : Int32} {n : Nat} (h : z.toInt = n) : z.toNatClampNeg = n := by
  simp only [Int32.toNatClampNeg]; omega
theorem own_inc {i : Int32} (h : i.toInt < 2147483647) : (i + (1 : Int32)).toInt = i.toInt + 1 := by
  have a := c_iadd i 1
  have r := rng32 (i + 1)
  have r2 := rng32 i
  rw [show (1 : Int32).toInt = 1 from rfl] at a
  omega
theorem own_ilt {a b : Int32} (h : a.toInt < b.toInt) : a < b := by rw [Int32.lt_iff_toInt_lt]; exact h
theorem own_nlt {a b : Int32} (h : b.toInt ≤ a.toInt) : ¬ a < b := by rw [Int32.lt_iff_toInt_lt]; omega
theorem own_ltI {a b : Int32} (h : a < b) : a.toInt < b.toInt := Int32.lt_iff_toInt_lt.mp h
theorem own_geI {a b : Int32} (h : ¬ a < b) : b.toInt ≤ a.toInt := by rw [Int32.lt_iff_toInt_lt] at h; omega
theorem own_neI {a b : Int32} (h : ¬ a = b) : a.toInt ≠ b.toInt := fun q => h (Int32.toInt_inj.mp q)
theorem own_turn {G : Nat → Int32} {n k i : Nat} {w : Int32} (hi : i + (k + 1) = n) (hw : w = G i) : ∀ j, j < n → upd (fun j => if j + (k + 1) < n then G j else 0) i w j = if j + k < n then G j else 0 := by
  intro j hj
  by_cases q : j = i
  · subst q
    rw [if_pos (by omega)]
    exact (if_pos rfl).trans hw
  · refine (if_neg q).trans ?_
    by_cases r : j + (k + 1) < n
    · show (if _ then _ else _) = _
      rw [if_pos r, if_pos (by omega)]
    · show (if _ then _ else _) = _
      rw [if_neg r, if_neg (by omega)]
theorem own_turn2 {D : Nat → Int32} {n k i : Nat} {w : Int32} (hi : i + (k + 1) = n) : ∀ j, j < n → upd (fun j => if j + (k + 1) < n then w else D j) i w j = if j + k < n then w else D j := by
  intro j hj
  by_cases q : j = i
  · subst q
    rw [if_pos (by omega)]
    exact if_pos rfl
  · refine (if_neg q).trans ?_
    by_cases r : j + (k + 1) < n
    · show (if _ then _ else _) = _
      rw [if_pos r, if_pos (by omega)]
    · show (if _ then _ else _) = _
      rw [if_neg r, if_neg (by omega)]
theorem own_in {cl : Cell} {j : Int32} (S : cl.slots.size = n) (h0 : ¬ j < 0) (hi : j.toNatClampNeg = i) (hn : i < n) : ¬ (j < 0 ∨ cl.slots.size ≤ j.toNatClampNeg) := by
  rintro (q | q)
  · exact h0 q
  · omega
theorem ldI (X : Stand p l e R s m args below meth c T locs cells slots) (hx : p.tables.exec = Jvm.exec) (hZ : Z.Warmed39 s.vm) (eT : T.heap = h) (F : AI Z h a .int n f) {j v : Int32} (h0 : ¬ j < 0) (hi : j.toNatClampNeg = i) (hn : i < n) (hv : f i = v) {g : JFrame} (hg : g.method = m) {rest : List Value} (hs : g.stack = .int j :: .ref a :: rest) (hd : decode c.code g.pc = .ok (.iaload, 1)) (t : State)
    (k : Steps p.tables e below (T.setTop { g with pc := g.pc + 1, stack := .int v :: rest }) t) : Steps p.tables e below (T.setTop g) t := by
  obtain ⟨cl, A, S, M, H⟩ := F
  exact X.iaload hx (j := j) (v := .int v) (by rw [eT]; exact A.1) (State.isArrayOf_alike hZ.alike A.2.1) A.2.2 (own_in S h0 hi hn) (by rw [hi, (H i hn).1, hv]) hg hs hd t k
theorem ldB (X : Stand p l e R s m args below meth c T locs cells slots) (hx : p.tables.exec = Jvm.exec) (hZ : Z.Warmed39 s.vm) (eT : T.heap = h) (F : AI Z h a .byte n f) {j v : Int32} (h0 : ¬ j < 0) (hi : j.toNatClampNeg = i) (hn : i < n) (hv : f i = v) {g : JFrame} (hg : g.method = m) {rest : List Value} (hs : g.stack = .int j :: .ref a :: rest) (hd : decode c.code g.pc = .ok (.baload, 1)) (t : State)
    (k : Steps p.tables e below (T.setTop { g with pc := g.pc + 1, stack := .int v :: rest }) t) : Steps p.tables e below (T.setTop g) t := by
  obtain ⟨cl, A, S, M, H⟩ := F
  exact X.baloadBytes hx (j := j) (v := .int v) (by rw [eT]; exact A.1) (State.isArrayOf_alike hZ.alike A.2.1) A.2.2 (own_in S h0 hi hn) (by rw [hi, (H i hn).1, hv]) hg hs hd t k
theorem ldZ (X : Stand p l e R s m args below meth c T locs cells slots) (hx : p.tables.exec = Jvm.exec) (hZ : Z.Warmed39 s.vm) (eT : T.heap = h) (F : AI Z h a .boolean n f) {j v : Int32} (h0 : ¬ j < 0) (hi : j.toNatClampNeg = i) (hn : i < n) (hv : f i = v) {g : JFrame} (hg : g.method = m) {rest : List Value} (hs : g.stack = .int j :: .ref a :: rest) (hd : decode c.code g.pc = .ok (.baload, 1)) (t : State)
    (k : Steps p.tables e below (T.setTop { g with pc := g.pc + 1, stack := .int v :: rest }) t) : Steps p.tables e below (T.setTop g) t := by
  obtain ⟨cl, A, S, M, H⟩ := F
  exact X.baloadBooleans hx (j := j) (v := .int v) (by rw [eT]; exact A.1) (State.isArrayOf_alike hZ.alike A.2.1) A.2.2 (own_in S h0 hi hn) (by rw [hi, (H i hn).1, hv]) hg hs hd t k
theorem putI (X : Stand p l e R s m args below meth c T locs cells slots) (hx : p.tables.exec = Jvm.exec) (hZ : Z.Warmed39 s.vm) (eT : T.heap = h) (F : AI Z h a .int n f) {j x : Int32} (h0 : ¬ j < 0) (hi : j.toNatClampNeg = i) (hn : i < n) {g : JFrame} (hg : g.method = m) {rest : List Value} (hs : g.stack = .int x :: .int j :: .ref a :: rest) (hd : decode c.code g.pc = .ok (.iastore, 1)) :
    ∃ T' h', Stand p l e R s m args below meth c T' (locs ++ [⟨a, i⟩]) cells slots ∧ T'.heap = h' ∧ Wr h h' a i (.int x) ∧ AI Z h' a .int n (upd f i x) ∧ ∀ t, Steps p.tables e below (T'.setTop { g with pc := g.pc + 1, stack := rest }) t → Steps p.tables e below (T.setTop g) t := by
  have F0 := F
  obtain ⟨cl, A, S, M, H⟩ := F
  subst hi
  obtain ⟨T', h', X', e', W, st⟩ := stI X hx hZ eT A (own_in S h0 rfl hn) hg hs hd
  exact ⟨T', h', X', e', W, F0.set W rfl, st⟩
theorem putB (X : Stand p l e R s m args below meth c T locs cells slots) (hx : p.tables.exec = Jvm.exec) (hZ : Z.Warmed39 s.vm) (eT : T.heap = h) (F : AI Z h a .byte n f) {j x : Int32} (h0 : ¬ j < 0) (hi : j.toNatClampNeg = i) (hn : i < n) {g : JFrame} (hg : g.method = m) {rest : List Value} (hs : g.stack = .int x :: .int j :: .ref a :: rest) (hd : decode c.code g.pc = .ok (.bastore, 1)) :
    ∃ T' h', Stand p l e R s m args below meth c T' (locs ++ [⟨a, i⟩]) cells slots ∧ T'.heap = h' ∧ Wr h h' a i (.int x.toInt8.toInt32) ∧ AI Z h' a .byte n (upd f i x.toInt8.toInt32) ∧ ∀ t, Steps p.tables e below (T'.setTop { g with pc := g.pc + 1, stack := rest }) t → Steps p.tables e below (T.setTop g) t := by
  have F0 := F
  obtain ⟨cl, A, S, M, H⟩ := F
  subst hi
  obtain ⟨T', h', X', e', W, st⟩ := stB X hx hZ eT A (own_in S h0 rfl hn) hg hs hd
  exact ⟨T', h', X', e', W, F0.set W (fits_nar_byte x), st⟩
theorem putZ (X : Stand p l e R s m args below meth c T locs cells slots) (hx : p.tables.exec = Jvm.exec) (hZ : Z.Warmed39 s.vm) (eT : T.heap = h) (F : AI Z h a .boolean n f) {j x : Int32} (h0 : ¬ j < 0) (hi : j.toNatClampNeg = i) (hn : i < n) {g : JFrame} (hg : g.method = m) {rest : List Value} (hs : g.stack = .int x :: .int j :: .ref a :: rest) (hd : decode c.code g.pc = .ok (.bastore, 1)) :
    ∃ T' h', Stand p l e R s m args below meth c T' (locs ++ [⟨a, i⟩]) cells slots ∧ T'.heap = h' ∧ Wr h h' a i (.int (x &&& 1)) ∧ AI Z h' a .boolean n (upd f i (x &&& 1)) ∧ ∀ t, Steps p.tables e below (T'.setTop { g with pc := g.pc + 1, stack := rest }) t → Steps p.tables e below (T.setTop g) t := by
  have F0 := F
  obtain ⟨cl, A, S, M, H⟩ := F
  subst hi
  obtain ⟨T', h', X', e', W, st⟩ := stZ X hx hZ eT A (own_in S h0 rfl hn) hg hs hd
  exact ⟨T', h', X', e', W, F0.set W (fits_nar_bool x), st⟩
theorem lenA (X : Stand p l e R s m args below meth c T locs cells slots) (hx : p.tables.exec = Jvm.exec) (hZ : Z.Warmed39 s.vm) (eT : T.heap = h) (F : AI Z h a ty n f) {z : Int32} (hz : z.toInt = n) {g : JFrame} (hg : g.method = m) {rest : List Value} (hs : g.stack = .ref a :: rest) (hd : decode c.code g.pc = .ok (.arraylength, 1)) (t : State)
    (k : Steps p.tables e below (T.setTop { g with pc := g.pc + 1, stack := .int z :: rest }) t) : Steps p.tables e below (T.setTop g) t := by
  obtain ⟨cl, A, S, M, H⟩ := F
  have e1 : cl.slots.size.toInt32 = z := by rw [S]; exact Int32.toInt_inj.mp (by rw [len_toInt M, hz])
  exact X.arraylength hx (by rw [eT]; exact A.1) (State.isArrayOf_alike hZ.alike A.2.1) hg hs hd t (by rw [e1]; exact k)
end OwnArr
section OwnWide
variable {p : Program} {l : Launch} {e : Env} {R : Room} {s : State} {m : MethodId} {args : Array Value} {below : List Frame} {meth : Method} {c : Code} {T : State} {locs : List Loc} {cells slots : Nat}
def GoesW (tb : Tables) (e : Env) (below : List Frame) (s : State) (F : Option Value → Heap → List Loc → Prop) (k n : Nat) (S : State) : Prop :=
  ∃ s₂ o, Steps tb e below S s₂ ∧ s₂.status = .running ∧ Ended s₂ below o ∧ ∃ v L, o = .returned v ∧ F v s₂.heap L ∧ ReturnedEndW s o s₂ L k n
theorem GoesW.of {tb : Tables} {F : Option Value → Heap → List Loc → Prop} {k n : Nat} {S S' : State} (h : ∀ t, Steps tb e below S' t → Steps tb e below S t) (g : GoesW tb e below s F k n S') : GoesW tb e below s F k n S := by
  obtain ⟨s₂, o, h1, r⟩ := g
  exact ⟨s₂, o, h _ h1, r⟩
theorem GoesW.fin {vm₁ : Vm} {n1 : Nat} (X : Stand p l e R (s.setVm vm₁) m args below meth c T locs cells slots) (hlk : meth.locks = false) (hS : s.Since vm₁ n1) (hn1 : n1 ≤ T.heap.size) {v : Option Value} {F : Option Value → Heap → List Loc → Prop} {k n : Nat} {S : State} (hv : meth.sig.returnType = none → v = none)
    (step : ∀ fs, (∀ (f : JFrame) (acts : List Action), f.method = m → f.locked = none → f.entered = [] → (doReturn e (T.setTop f) acts v).1 = T.setFrames fs) → Steps p.tables e below S (T.setFrames fs)) (hF : F v T.heap locs) (hk : cells ≤ k) (hn : slots ≤ n) : GoesW p.tables e below s F k n S := by
  obtain ⟨fs, hr, hrun, hended, h1, h2, h3, h4⟩ := X.leaveW hS hn1 hv hlk
  exact ⟨_, _, step fs hr, hrun, hended, v, locs, rfl, hF, ⟨_, rfl⟩, h2, h3, h4.mono hk hn⟩
end OwnWide

theorem d2_0 : decode jdk_30_method_1_code 0 = .ok (.aload_n 0, 1) := by decide +kernel
theorem d2_1 : decode jdk_30_method_1_code 1 = .ok (.invokespecial 1, 3) := by decide +kernel
theorem d2_4 : decode jdk_30_method_1_code 4 = .ok (.return_, 1) := by decide +kernel
theorem pn_0 : plainName "java/lang/Record" = true := by first | (simp [plainName, overriddenIn]; done) | decide +kernel
theorem pd_0 : parseMethodDescriptor "()V" = some ⟨[], none⟩ := by decide +kernel
theorem ef_2 (m : MethodId) (o : Addr) : entryFrame m #[(.ref o)] 1 = mkF m 0 #[.val (.ref o)] [] := by first | (simp [entryFrame, mkF, argsToLocals, Value.category]; done) | rfl
def Q2 (h0 : Heap) (n0 : Nat) (v : Option Value) (h : Heap) (L : List Loc) : Prop := v = none ∧ Fr n0 L ∧ h = h0
set_option maxRecDepth 65536 in
set_option maxHeartbeats 40000000 in
theorem rm2 (l : Launch) (Z : State) (a0 : Array Value) (hw : ∀ d ∈ tables_1, d.before a0 Z = true) (ws : List Jvm.Cond) (o : Addr) (h0 : Heap) (n0 : Nat) (Z0 : n0 ≤ h0.size) :
    MetFree l (⟨"java/lang/Record", "<init>", "()V"⟩ : MethodName) (head1 (Jvm.Cond.code (⟨"java/lang/Record", "<init>", "()V"⟩ : MethodName) jdk_30_method_1_code 1 none :: ws) ({ frames := 1, cells := 0, slots := 0, locals := 12 } : Room)) (fun ar' Ur => ar' = #[(.ref o)] ∧ Z.Warmed39 Ur.vm ∧ Ur.heap = h0) (fun _ _ _ _ _ => True) (fun _ Ur or' Us => ∃ v L, or' = .returned v ∧ Q2 h0 n0 v Us.heap L ∧ FrameEnd Ur or' Us L 0 0) := by
  refine MetFree.of_bodySF (plainFor_of_name pn_0) hisR ?_
  intro p e s m args below meth c s₁ Bd hml0 hP hK
  obtain ⟨rfl, hZ, hh⟩ := hP
  have hx := Bd.exec
  have hby := Bd.bytes
  have hlk : meth.locks = false := BodyLoose.notSynchronized Bd
  have hml : c.maxLocals = 1 := hml0
  have hown : s.vm.findClass "java/lang/Record" = some m.cls := findClass_of_methodNamed Bd.named
  have hnm := (name_of_methodNamed Bd.named Bd.method).1
  have X0 : Stand p l e ({ frames := 1, cells := 0, slots := 0, locals := 12 } : Room) s m #[(.ref o)] below meth c s₁ [] 0 0 := Stand.of_body Bd
  have e0 : s₁.heap = h0 := by rw [← hh, Bd.state]; rfl
  have N0 := Fr.nil n0
  show Goes p.tables e below s (Q2 h0 n0) 0 0 (s₁.setTop (entryFrame m #[(.ref o)] 1))
  refine Goes.of (fun t k => castTop (ef_2 m o) k) ?_
  show Goes _ _ _ _ _ _ _ (s₁.setTop (mkF m 0 #[.val (.ref o)] []))
  refine Goes.of (fun t k => XS.aloadN X0.here hx rfl (hb hby d2_0) rfl rfl k) ?_
  show Goes _ _ _ _ _ _ _ (s₁.setTop (mkF m 1 #[.val (.ref o)] [(.ref o)]))
  obtain ⟨T1, X1, e1, st1⟩ := initO X0 hx hZ hown (hw _ (List.mem_of_getElem? (i := 21) rfl)) (hw _ (List.mem_of_getElem? (i := 22) rfl)) (hw _ (List.mem_of_getElem? (i := 23) rfl)) e0 (g := (mkF m 1 #[.val (.ref o)] [(.ref o)])) rfl (by rw [hml]; rfl) rfl (hb hby d2_1) (by decide) (W := 0) (by show 2 * 0 + _ ≤ _; exact Nat.le_of_eq rfl) (by decide)
  refine Goes.of st1 ?_
  show Goes _ _ _ _ _ _ _ (T1.setTop (mkF m 4 #[.val (.ref o)] []))
  exact Goes.fin X1 hlk (v := none) (fun _ => rfl) (fun fs hr => X1.returnOut hx Bd.returns (hb hby d2_4) hr) ⟨rfl, N0, e1⟩ (by decide) (by decide)
theorem d1_0 : decode prog_109_method_1_code 0 = .ok (.aload_n 0, 1) := by decide +kernel
theorem d1_1 : decode prog_109_method_1_code 1 = .ok (.invokespecial 5, 3) := by decide +kernel
theorem d1_4 : decode prog_109_method_1_code 4 = .ok (.aload_n 0, 1) := by decide +kernel
theorem d1_5 : decode prog_109_method_1_code 5 = .ok (.aload_n 1, 1) := by decide +kernel
theorem d1_6 : decode prog_109_method_1_code 6 = .ok (.putfield 11, 3) := by decide +kernel
theorem d1_9 : decode prog_109_method_1_code 9 = .ok (.aload_n 0, 1) := by decide +kernel
theorem d1_10 : decode prog_109_method_1_code 10 = .ok (.lload_n 2, 1) := by decide +kernel
theorem d1_11 : decode prog_109_method_1_code 11 = .ok (.putfield 15, 3) := by decide +kernel
theorem d1_14 : decode prog_109_method_1_code 14 = .ok (.aload_n 0, 1) := by decide +kernel
theorem d1_15 : decode prog_109_method_1_code 15 = .ok (.lload 4, 2) := by decide +kernel
theorem d1_17 : decode prog_109_method_1_code 17 = .ok (.putfield 19, 3) := by decide +kernel
theorem d1_20 : decode prog_109_method_1_code 20 = .ok (.aload_n 0, 1) := by decide +kernel
theorem d1_21 : decode prog_109_method_1_code 21 = .ok (.lload 6, 2) := by decide +kernel
theorem d1_23 : decode prog_109_method_1_code 23 = .ok (.putfield 22, 3) := by decide +kernel
theorem d1_26 : decode prog_109_method_1_code 26 = .ok (.return_, 1) := by decide +kernel
theorem pn_1 : plainName "com/example/preemptlens/preemptlens/ctf/Clock" = true := by first | (simp [plainName, overriddenIn]; done) | decide +kernel
theorem ef_1 (m : MethodId) (o : Addr) (nm : Addr) (fq : Int64) (os : Int64) (oc : Int64) : entryFrame m #[(.ref o), (.ref nm), (.long fq), (.long os), (.long oc)] 8 = mkF m 0 #[.val (.ref o), .val (.ref nm), .val (.long fq), .second, .val (.long os), .second, .val (.long oc), .second] [] := by first | (simp [entryFrame, mkF, argsToLocals, Value.category]; done) | rfl
def Q1 (Z : State) (o : Addr) (fq os oc : Int64) (h0 : Heap) (n0 : Nat) (v : Option Value) (h : Heap) (L : List Loc) : Prop := v = none ∧ Fr n0 L ∧ Keep h0 h [o] ∧ Fld Z h o "com/example/preemptlens/preemptlens/ctf/Clock" "frequency" "J" (.long fq) ∧ Fld Z h o "com/example/preemptlens/preemptlens/ctf/Clock" "offsetSeconds" "J" (.long os) ∧ Fld Z h o "com/example/preemptlens/preemptlens/ctf/Clock" "offsetCycles" "J" (.long oc)
set_option maxRecDepth 65536 in
set_option maxHeartbeats 40000000 in
theorem rm1 (l : Launch) (Z : State) (a0 : Array Value) (hw : ∀ d ∈ tables_1, d.before a0 Z = true) (ws : List Jvm.Cond) (o : Addr) (nm : Addr) (fq : Int64) (os : Int64) (oc : Int64) (h0 : Heap) (n0 : Nat) (Z0 : n0 ≤ h0.size) (E_o : Exa Z h0 o "com/example/preemptlens/preemptlens/ctf/Clock") (g_o : n0 ≤ o) (F_name : Fld Z h0 o "com/example/preemptlens/preemptlens/ctf/Clock" "name" "Ljava/lang/String;" .null) (F_frequency : Fld Z h0 o "com/example/preemptlens/preemptlens/ctf/Clock" "frequency" "J" (.long (0 : Int64))) (F_offsetSeconds : Fld Z h0 o "com/example/preemptlens/preemptlens/ctf/Clock" "offsetSeconds" "J" (.long (0 : Int64))) (F_offsetCycles : Fld Z h0 o "com/example/preemptlens/preemptlens/ctf/Clock" "offsetCycles" "J" (.long (0 : Int64))) :
    MetFree l (⟨"com/example/preemptlens/preemptlens/ctf/Clock", "<init>", "(Ljava/lang/String;JJJ)V"⟩ : MethodName) (head1 (Jvm.Cond.code (⟨"com/example/preemptlens/preemptlens/ctf/Clock", "<init>", "(Ljava/lang/String;JJJ)V"⟩ : MethodName) prog_109_method_1_code 8 none :: ws) ({ frames := 2, cells := 0, slots := 0, locals := 24 } : Room)) (fun ar' Ur => ar' = #[(.ref o), (.ref nm), (.long fq), (.long os), (.long oc)] ∧ Z.Warmed39 Ur.vm ∧ Ur.heap = h0) (fun _ _ _ _ _ => True) (fun _ Ur or' Us => ∃ v L, or' = .returned v ∧ Q1 Z o fq os oc h0 n0 v Us.heap L ∧ FrameEnd Ur or' Us L 0 0) := by
  refine MetFree.of_bodySF (plainFor_of_name pn_1) hisR ?_
  intro p e s m args below meth c s₁ Bd hml0 hP hK
  obtain ⟨rfl, hZ, hh⟩ := hP
  have hx := Bd.exec
  have hby := Bd.bytes
  have hlk : meth.locks = false := BodyLoose.notSynchronized Bd
  have hml : c.maxLocals = 8 := hml0
  have hown : s.vm.findClass "com/example/preemptlens/preemptlens/ctf/Clock" = some m.cls := findClass_of_methodNamed Bd.named
  have hnm := (name_of_methodNamed Bd.named Bd.method).1
  have X0 : Stand p l e ({ frames := 2, cells := 0, slots := 0, locals := 24 } : Room) s m #[(.ref o), (.ref nm), (.long fq), (.long os), (.long oc)] below meth c s₁ [] 0 0 := Stand.of_body Bd
  have e0 : s₁.heap = h0 := by rw [← hh, Bd.state]; rfl
  have N0 := Fr.nil n0
  show Goes p.tables e below s (Q1 Z o fq os oc h0 n0) 0 0 (s₁.setTop (entryFrame m #[(.ref o), (.ref nm), (.long fq), (.long os), (.long oc)] 8))
  refine Goes.of (fun t k => castTop (ef_1 m o nm fq os oc) k) ?_
  show Goes _ _ _ _ _ _ _ (s₁.setTop (mkF m 0 #[.val (.ref o), .val (.ref nm), .val (.long fq), .second, .val (.long os), .second, .val (.long oc), .second] []))
  refine Goes.of (fun t k => XS.aloadN X0.here hx rfl (hb hby d1_0) rfl rfl k) ?_
  show Goes _ _ _ _ _ _ _ (s₁.setTop (mkF m 1 #[.val (.ref o), .val (.ref nm), .val (.long fq), .second, .val (.long os), .second, .val (.long oc), .second] [(.ref o)]))
  obtain ⟨_, _, ⟨T2, L2, k2, n2⟩, -, X2, ⟨Lc2, hQ2, l2, y2, z2⟩, st2⟩ := X0.specialBack hx (y := (⟨"java/lang/Record", "<init>", "()V"⟩ : MethodName)) rfl hown (mvT hZ (hw _ (List.mem_of_getElem? (i := 16) rfl))) (mvT hZ (hw _ (List.mem_of_getElem? (i := 17) rfl))) (mvT hZ (hw _ (List.mem_of_getElem? (i := 20) rfl))) (by decide) (backOf (W := 0) (rm2 l Z a0 hw [] o  h0 n0 Z0) hZ (hw _ (List.mem_of_getElem? (i := 20) rfl)) (hw _ (List.mem_of_getElem? (i := 19) rfl)) (by decide) (by decide)) (g := (mkF m 1 #[.val (.ref o), .val (.ref nm), .val (.long fq), .second, .val (.long os), .second, .val (.long oc), .second] [(.ref o)])) rfl (by rw [hml]; rfl) (Steps.refl _) (a := o) (argsL := []) (rest := []) (lenOf pd_0 rfl) rfl (by show 2 * 0 + _ ≤ _; exact Nat.le_of_eq rfl) (hb hby d1_1) (fun _ _ => ⟨rfl, e0, (by decide : 0 + 0 ≤ _), (by decide : 0 + 0 ≤ _)⟩)
  dsimp only [Pt.U, Pt.locs, Pt.cells, Pt.slots] at X2 l2 y2 z2 st2 hQ2
  subst l2 y2 z2
  obtain ⟨rfl, N2q, e2⟩ := hQ2
  have N2 := Fr.app N0 N2q
  refine Goes.of (fun t k => st2.trans k) ?_
  show Goes _ _ _ _ _ _ _ (T2.setTop (mkF m 4 #[.val (.ref o), .val (.ref nm), .val (.long fq), .second, .val (.long os), .second, .val (.long oc), .second] []))
  refine Goes.of (fun t k => XS.aloadN X2.here hx rfl (hb hby d1_4) rfl rfl k) ?_
  show Goes _ _ _ _ _ _ _ (T2.setTop (mkF m 5 #[.val (.ref o), .val (.ref nm), .val (.long fq), .second, .val (.long os), .second, .val (.long oc), .second] [(.ref o)]))
  refine Goes.of (fun t k => XS.aloadN X2.here hx rfl (hb hby d1_5) rfl rfl k) ?_
  show Goes _ _ _ _ _ _ _ (T2.setTop (mkF m 6 #[.val (.ref o), .val (.ref nm), .val (.long fq), .second, .val (.long os), .second, .val (.long oc), .second] [(.ref nm), (.ref o)]))
  obtain ⟨T3, h3, X3, e3, W3, st3⟩ := putF X2 hx hZ hown (host := "") (Or.inl (hw _ (List.mem_of_getElem? (i := 24) rfl))) Via.refl e2 F_name E_o (Or.inr ⟨(hw _ (List.mem_of_getElem? (i := 25) rfl)), rfl, hnm⟩) (hw _ (List.mem_of_getElem? (i := 3) rfl)) (ty := (.object "java/lang/String")) (by decide) rfl rfl (g := (mkF m 6 #[.val (.ref o), .val (.ref nm), .val (.long fq), .second, .val (.long os), .second, .val (.long oc), .second] [(.ref nm), (.ref o)])) rfl rfl (hb hby d1_6)
  have Fw3 := Fld.same W3 F_name
  have F4 := Exa.wr W3 E_o
  have F5 := Fld.other W3 F_frequency (Or.inr (slot_ne (Or.inr (hw _ (List.mem_of_getElem? (i := 27) rfl))) (Or.inr (hw _ (List.mem_of_getElem? (i := 25) rfl))) (by decide) (t := .long) (t' := (.object "java/lang/String")) (by decide) (by decide)))
  have F6 := Fld.other W3 F_offsetSeconds (Or.inr (slot_ne (Or.inr (hw _ (List.mem_of_getElem? (i := 29) rfl))) (Or.inr (hw _ (List.mem_of_getElem? (i := 25) rfl))) (by decide) (t := .long) (t' := (.object "java/lang/String")) (by decide) (by decide)))
  have F7 := Fld.other W3 F_offsetCycles (Or.inr (slot_ne (Or.inr (hw _ (List.mem_of_getElem? (i := 31) rfl))) (Or.inr (hw _ (List.mem_of_getElem? (i := 25) rfl))) (by decide) (t := .long) (t' := (.object "java/lang/String")) (by decide) (by decide)))
  have Z3 : n0 ≤ h3.size := Nat.le_trans Z0 (Keep.of_wr W3).1
  have K3 : Keep h0 h3 [o] := (Keep.refl h0 [o]).wr W3 (Or.inl (List.mem_of_getElem? (i := 0) rfl))
  have N3 := Fr.snoc X3 N2 g_o
  refine Goes.of st3 ?_
  show Goes _ _ _ _ _ _ _ (T3.setTop (mkF m 9 #[.val (.ref o), .val (.ref nm), .val (.long fq), .second, .val (.long os), .second, .val (.long oc), .second] []))
  refine Goes.of (fun t k => XS.aloadN X3.here hx rfl (hb hby d1_9) rfl rfl k) ?_
  show Goes _ _ _ _ _ _ _ (T3.setTop (mkF m 10 #[.val (.ref o), .val (.ref nm), .val (.long fq), .second, .val (.long os), .second, .val (.long oc), .second] [(.ref o)]))
  refine Goes.of (fun t k => XS.lloadN X3.here hx rfl (hb hby d1_10) rfl k) ?_
  show Goes _ _ _ _ _ _ _ (T3.setTop (mkF m 11 #[.val (.ref o), .val (.ref nm), .val (.long fq), .second, .val (.long os), .second, .val (.long oc), .second] [(.long fq), (.ref o)]))
  obtain ⟨T8, h8, X8, e8, W8, st8⟩ := putF X3 hx hZ hown (host := "") (Or.inl (hw _ (List.mem_of_getElem? (i := 26) rfl))) Via.refl e3 F5 F4 (Or.inr ⟨(hw _ (List.mem_of_getElem? (i := 27) rfl)), rfl, hnm⟩) (hw _ (List.mem_of_getElem? (i := 3) rfl)) (ty := .long) (by decide) rfl rfl (g := (mkF m 11 #[.val (.ref o), .val (.ref nm), .val (.long fq), .second, .val (.long os), .second, .val (.long oc), .second] [(.long fq), (.ref o)])) rfl rfl (hb hby d1_11)
  have Fw8 := Fld.same W8 F5
  have F9 := Exa.wr W8 F4
  have F10 := Fld.other W8 Fw3 (Or.inr (slot_ne (Or.inr (hw _ (List.mem_of_getElem? (i := 25) rfl))) (Or.inr (hw _ (List.mem_of_getElem? (i := 27) rfl))) (by decide) (t := (.object "java/lang/String")) (t' := .long) (by decide) (by decide)))
  have F11 := Fld.other W8 F6 (Or.inr (slot_ne (Or.inr (hw _ (List.mem_of_getElem? (i := 29) rfl))) (Or.inr (hw _ (List.mem_of_getElem? (i := 27) rfl))) (by decide) (t := .long) (t' := .long) (by decide) (by decide)))
  have F12 := Fld.other W8 F7 (Or.inr (slot_ne (Or.inr (hw _ (List.mem_of_getElem? (i := 31) rfl))) (Or.inr (hw _ (List.mem_of_getElem? (i := 27) rfl))) (by decide) (t := .long) (t' := .long) (by decide) (by decide)))
  have Z8 : n0 ≤ h8.size := Nat.le_trans Z3 (Keep.of_wr W8).1
  have K8 : Keep h0 h8 [o] := K3.wr W8 (Or.inl (List.mem_of_getElem? (i := 0) rfl))
  have N8 := Fr.snoc X8 N3 g_o
  refine Goes.of st8 ?_
  show Goes _ _ _ _ _ _ _ (T8.setTop (mkF m 14 #[.val (.ref o), .val (.ref nm), .val (.long fq), .second, .val (.long os), .second, .val (.long oc), .second] []))
  refine Goes.of (fun t k => XS.aloadN X8.here hx rfl (hb hby d1_14) rfl rfl k) ?_
  show Goes _ _ _ _ _ _ _ (T8.setTop (mkF m 15 #[.val (.ref o), .val (.ref nm), .val (.long fq), .second, .val (.long os), .second, .val (.long oc), .second] [(.ref o)]))
  refine Goes.of (fun t k => XS.lload X8.here hx rfl (hb hby d1_15) rfl k) ?_
  show Goes _ _ _ _ _ _ _ (T8.setTop (mkF m 17 #[.val (.ref o), .val (.ref nm), .val (.long fq), .second, .val (.long os), .second, .val (.long oc), .second] [(.long os), (.ref o)]))
  obtain ⟨T13, h13, X13, e13, W13, st13⟩ := putF X8 hx hZ hown (host := "") (Or.inl (hw _ (List.mem_of_getElem? (i := 28) rfl))) Via.refl e8 F11 F9 (Or.inr ⟨(hw _ (List.mem_of_getElem? (i := 29) rfl)), rfl, hnm⟩) (hw _ (List.mem_of_getElem? (i := 3) rfl)) (ty := .long) (by decide) rfl rfl (g := (mkF m 17 #[.val (.ref o), .val (.ref nm), .val (.long fq), .second, .val (.long os), .second, .val (.long oc), .second] [(.long os), (.ref o)])) rfl rfl (hb hby d1_17)
  have Fw13 := Fld.same W13 F11
  have F14 := Exa.wr W13 F9
  have F15 := Fld.other W13 F10 (Or.inr (slot_ne (Or.inr (hw _ (List.mem_of_getElem? (i := 25) rfl))) (Or.inr (hw _ (List.mem_of_getElem? (i := 29) rfl))) (by decide) (t := (.object "java/lang/String")) (t' := .long) (by decide) (by decide)))
  have F16 := Fld.other W13 Fw8 (Or.inr (slot_ne (Or.inr (hw _ (List.mem_of_getElem? (i := 27) rfl))) (Or.inr (hw _ (List.mem_of_getElem? (i := 29) rfl))) (by decide) (t := .long) (t' := .long) (by decide) (by decide)))
  have F17 := Fld.other W13 F12 (Or.inr (slot_ne (Or.inr (hw _ (List.mem_of_getElem? (i := 31) rfl))) (Or.inr (hw _ (List.mem_of_getElem? (i := 29) rfl))) (by decide) (t := .long) (t' := .long) (by decide) (by decide)))
  have Z13 : n0 ≤ h13.size := Nat.le_trans Z8 (Keep.of_wr W13).1
  have K13 : Keep h0 h13 [o] := K8.wr W13 (Or.inl (List.mem_of_getElem? (i := 0) rfl))
  have N13 := Fr.snoc X13 N8 g_o
  refine Goes.of st13 ?_
  show Goes _ _ _ _ _ _ _ (T13.setTop (mkF m 20 #[.val (.ref o), .val (.ref nm), .val (.long fq), .second, .val (.long os), .second, .val (.long oc), .second] []))
  refine Goes.of (fun t k => XS.aloadN X13.here hx rfl (hb hby d1_20) rfl rfl k) ?_
  show Goes _ _ _ _ _ _ _ (T13.setTop (mkF m 21 #[.val (.ref o), .val (.ref nm), .val (.long fq), .second, .val (.long os), .second, .val (.long oc), .second] [(.ref o)]))
  refine Goes.of (fun t k => XS.lload X13.here hx rfl (hb hby d1_21) rfl k) ?_
  show Goes _ _ _ _ _ _ _ (T13.setTop (mkF m 23 #[.val (.ref o), .val (.ref nm), .val (.long fq), .second, .val (.long os), .second, .val (.long oc), .second] [(.long oc), (.ref o)]))
  obtain ⟨T18, h18, X18, e18, W18, st18⟩ := putF X13 hx hZ hown (host := "") (Or.inl (hw _ (List.mem_of_getElem? (i := 30) rfl))) Via.refl e13 F17 F14 (Or.inr ⟨(hw _ (List.mem_of_getElem? (i := 31) rfl)), rfl, hnm⟩) (hw _ (List.mem_of_getElem? (i := 3) rfl)) (ty := .long) (by decide) rfl rfl (g := (mkF m 23 #[.val (.ref o), .val (.ref nm), .val (.long fq), .second, .val (.long os), .second, .val (.long oc), .second] [(.long oc), (.ref o)])) rfl rfl (hb hby d1_23)
  have Fw18 := Fld.same W18 F17
  have F19 := Exa.wr W18 F14
  have F20 := Fld.other W18 F15 (Or.inr (slot_ne (Or.inr (hw _ (List.mem_of_getElem? (i := 25) rfl))) (Or.inr (hw _ (List.mem_of_getElem? (i := 31) rfl))) (by decide) (t := (.object "java/lang/String")) (t' := .long) (by decide) (by decide)))
  have F21 := Fld.other W18 F16 (Or.inr (slot_ne (Or.inr (hw _ (List.mem_of_getElem? (i := 27) rfl))) (Or.inr (hw _ (List.mem_of_getElem? (i := 31) rfl))) (by decide) (t := .long) (t' := .long) (by decide) (by decide)))
  have F22 := Fld.other W18 Fw13 (Or.inr (slot_ne (Or.inr (hw _ (List.mem_of_getElem? (i := 29) rfl))) (Or.inr (hw _ (List.mem_of_getElem? (i := 31) rfl))) (by decide) (t := .long) (t' := .long) (by decide) (by decide)))
  have Z18 : n0 ≤ h18.size := Nat.le_trans Z13 (Keep.of_wr W18).1
  have K18 : Keep h0 h18 [o] := K13.wr W18 (Or.inl (List.mem_of_getElem? (i := 0) rfl))
  have N18 := Fr.snoc X18 N13 g_o
  refine Goes.of st18 ?_
  show Goes _ _ _ _ _ _ _ (T18.setTop (mkF m 26 #[.val (.ref o), .val (.ref nm), .val (.long fq), .second, .val (.long os), .second, .val (.long oc), .second] []))
  exact Goes.fin X18 hlk (v := none) (fun _ => rfl) (fun fs hr => X18.returnOut hx Bd.returns (hb hby d1_26) hr) (by rw [e18]; exact ⟨rfl, N18, K18, F21, F22, Fw18⟩) (by decide) (by decide)
theorem d4_0 : decode prog_109_method_2_code 0 = .ok (.aload_n 0, 1) := by decide +kernel
theorem d4_1 : decode prog_109_method_2_code 1 = .ok (.getfield 15, 3) := by decide +kernel
theorem d4_4 : decode prog_109_method_2_code 4 = .ok (.ldc2_w 25, 3) := by decide +kernel
theorem d4_7 : decode prog_109_method_2_code 7 = .ok (.lcmp, 1) := by decide +kernel
theorem d4_8 : decode prog_109_method_2_code 8 = .ok (.ifCond .ne 22, 3) := by decide +kernel
theorem d4_11 : decode prog_109_method_2_code 11 = .ok (.aload_n 0, 1) := by decide +kernel
theorem d4_12 : decode prog_109_method_2_code 12 = .ok (.getfield 19, 3) := by decide +kernel
theorem d4_15 : decode prog_109_method_2_code 15 = .ok (.ldc2_w 25, 3) := by decide +kernel
theorem d4_18 : decode prog_109_method_2_code 18 = .ok (.lmul, 1) := by decide +kernel
theorem d4_19 : decode prog_109_method_2_code 19 = .ok (.aload_n 0, 1) := by decide +kernel
theorem d4_20 : decode prog_109_method_2_code 20 = .ok (.getfield 22, 3) := by decide +kernel
theorem d4_23 : decode prog_109_method_2_code 23 = .ok (.ladd, 1) := by decide +kernel
theorem d4_24 : decode prog_109_method_2_code 24 = .ok (.lload_n 1, 1) := by decide +kernel
theorem d4_25 : decode prog_109_method_2_code 25 = .ok (.ladd, 1) := by decide +kernel
theorem d4_26 : decode prog_109_method_2_code 26 = .ok (.lstore_n 3, 1) := by decide +kernel
theorem d4_27 : decode prog_109_method_2_code 27 = .ok (.goto 76, 3) := by decide +kernel
theorem d4_30 : decode prog_109_method_2_code 30 = .ok (.aload_n 0, 1) := by decide +kernel
theorem d4_31 : decode prog_109_method_2_code 31 = .ok (.getfield 22, 3) := by decide +kernel
theorem d4_34 : decode prog_109_method_2_code 34 = .ok (.aload_n 0, 1) := by decide +kernel
theorem d4_35 : decode prog_109_method_2_code 35 = .ok (.getfield 15, 3) := by decide +kernel
theorem d4_38 : decode prog_109_method_2_code 38 = .ok (.lrem, 1) := by decide +kernel
theorem d4_39 : decode prog_109_method_2_code 39 = .ok (.lload_n 1, 1) := by decide +kernel
theorem d4_40 : decode prog_109_method_2_code 40 = .ok (.aload_n 0, 1) := by decide +kernel
theorem d4_41 : decode prog_109_method_2_code 41 = .ok (.getfield 15, 3) := by decide +kernel
theorem d4_44 : decode prog_109_method_2_code 44 = .ok (.lrem, 1) := by decide +kernel
theorem d4_45 : decode prog_109_method_2_code 45 = .ok (.ladd, 1) := by decide +kernel
theorem d4_46 : decode prog_109_method_2_code 46 = .ok (.lstore 5, 2) := by decide +kernel
theorem d4_48 : decode prog_109_method_2_code 48 = .ok (.aload_n 0, 1) := by decide +kernel
theorem d4_49 : decode prog_109_method_2_code 49 = .ok (.getfield 19, 3) := by decide +kernel
theorem d4_52 : decode prog_109_method_2_code 52 = .ok (.aload_n 0, 1) := by decide +kernel
theorem d4_53 : decode prog_109_method_2_code 53 = .ok (.getfield 22, 3) := by decide +kernel
theorem d4_56 : decode prog_109_method_2_code 56 = .ok (.aload_n 0, 1) := by decide +kernel
theorem d4_57 : decode prog_109_method_2_code 57 = .ok (.getfield 15, 3) := by decide +kernel
theorem d4_60 : decode prog_109_method_2_code 60 = .ok (.ldiv, 1) := by decide +kernel
theorem d4_61 : decode prog_109_method_2_code 61 = .ok (.ladd, 1) := by decide +kernel
theorem d4_62 : decode prog_109_method_2_code 62 = .ok (.lload_n 1, 1) := by decide +kernel
theorem d4_63 : decode prog_109_method_2_code 63 = .ok (.aload_n 0, 1) := by decide +kernel
theorem d4_64 : decode prog_109_method_2_code 64 = .ok (.getfield 15, 3) := by decide +kernel
theorem d4_67 : decode prog_109_method_2_code 67 = .ok (.ldiv, 1) := by decide +kernel
theorem d4_68 : decode prog_109_method_2_code 68 = .ok (.ladd, 1) := by decide +kernel
theorem d4_69 : decode prog_109_method_2_code 69 = .ok (.lload 5, 2) := by decide +kernel
theorem d4_71 : decode prog_109_method_2_code 71 = .ok (.aload_n 0, 1) := by decide +kernel
theorem d4_72 : decode prog_109_method_2_code 72 = .ok (.getfield 15, 3) := by decide +kernel
theorem d4_75 : decode prog_109_method_2_code 75 = .ok (.ldiv, 1) := by decide +kernel
theorem d4_76 : decode prog_109_method_2_code 76 = .ok (.ladd, 1) := by decide +kernel
theorem d4_77 : decode prog_109_method_2_code 77 = .ok (.lstore 7, 2) := by decide +kernel
theorem d4_79 : decode prog_109_method_2_code 79 = .ok (.lload 7, 2) := by decide +kernel
theorem d4_81 : decode prog_109_method_2_code 81 = .ok (.ldc2_w 25, 3) := by decide +kernel
theorem d4_84 : decode prog_109_method_2_code 84 = .ok (.lmul, 1) := by decide +kernel
theorem d4_85 : decode prog_109_method_2_code 85 = .ok (.lload 5, 2) := by decide +kernel
theorem d4_87 : decode prog_109_method_2_code 87 = .ok (.aload_n 0, 1) := by decide +kernel
theorem d4_88 : decode prog_109_method_2_code 88 = .ok (.getfield 15, 3) := by decide +kernel
theorem d4_91 : decode prog_109_method_2_code 91 = .ok (.lrem, 1) := by decide +kernel
theorem d4_92 : decode prog_109_method_2_code 92 = .ok (.ldc2_w 25, 3) := by decide +kernel
theorem d4_95 : decode prog_109_method_2_code 95 = .ok (.lmul, 1) := by decide +kernel
theorem d4_96 : decode prog_109_method_2_code 96 = .ok (.aload_n 0, 1) := by decide +kernel
theorem d4_97 : decode prog_109_method_2_code 97 = .ok (.getfield 15, 3) := by decide +kernel
theorem d4_100 : decode prog_109_method_2_code 100 = .ok (.ldiv, 1) := by decide +kernel
theorem d4_101 : decode prog_109_method_2_code 101 = .ok (.ladd, 1) := by decide +kernel
theorem d4_102 : decode prog_109_method_2_code 102 = .ok (.lstore_n 3, 1) := by decide +kernel
theorem d4_103 : decode prog_109_method_2_code 103 = .ok (.lload_n 3, 1) := by decide +kernel
theorem d4_104 : decode prog_109_method_2_code 104 = .ok (.lreturn, 1) := by decide +kernel
theorem ef_4 (m : MethodId) (o : Addr) (v0 : Int64) : entryFrame m #[(.ref o), (.long v0)] 9 = mkF m 0 #[.val (.ref o), .val (.long v0), .second, .unset, .unset, .unset, .unset, .unset, .unset] [] := by first | (simp [entryFrame, mkF, argsToLocals, Value.category]; done) | rfl
def f4 (fq os oc v0 : Int64) : Int64 :=
  (if fq = (1000000000 : Int64) then (((os * (1000000000 : Int64)) + oc) + v0)
  else (((((os + (oc / fq)) + (v0 / fq)) + (((oc - oc / fq * fq) + (v0 - v0 / fq * fq)) / fq)) * (1000000000 : Int64)) + (((((oc - oc / fq * fq) + (v0 - v0 / fq * fq)) - ((oc - oc / fq * fq) + (v0 - v0 / fq * fq)) / fq * fq) * (1000000000 : Int64)) / fq)))
def Q4 (fq os oc v0 : Int64) (h0 : Heap) (n0 : Nat) (v : Option Value) (h : Heap) (L : List Loc) : Prop := v = some (.long (f4 fq os oc v0)) ∧ Fr n0 L ∧ h = h0
set_option maxRecDepth 65536 in
set_option maxHeartbeats 40000000 in
theorem rm4 (l : Launch) (Z : State) (a0 : Array Value) (hw : ∀ d ∈ tables_1, d.before a0 Z = true) (ws : List Jvm.Cond) (o : Addr) (v0 : Int64) (fq os oc : Int64) (h0 : Heap) (n0 : Nat) (Z0 : n0 ≤ h0.size) (F_frequency : Fld Z h0 o "com/example/preemptlens/preemptlens/ctf/Clock" "frequency" "J" (.long fq)) (F_offsetSeconds : Fld Z h0 o "com/example/preemptlens/preemptlens/ctf/Clock" "offsetSeconds" "J" (.long os)) (F_offsetCycles : Fld Z h0 o "com/example/preemptlens/preemptlens/ctf/Clock" "offsetCycles" "J" (.long oc)) (hfq : fq ≠ 0) :
    MetFree l (⟨"com/example/preemptlens/preemptlens/ctf/Clock", "toNanos", "(J)J"⟩ : MethodName) (head1 (Jvm.Cond.code (⟨"com/example/preemptlens/preemptlens/ctf/Clock", "toNanos", "(J)J"⟩ : MethodName) prog_109_method_2_code 9 (some .long) :: ws) ({ frames := 0, cells := 0, slots := 0, locals := 0 } : Room)) (fun ar' Ur => ar' = #[(.ref o), (.long v0)] ∧ Z.Warmed39 Ur.vm ∧ Ur.heap = h0) (fun _ _ _ _ _ => True) (fun _ Ur or' Us => ∃ v L, or' = .returned v ∧ Q4 fq os oc v0 h0 n0 v Us.heap L ∧ FrameEnd Ur or' Us L 0 0) := by
  refine MetFree.of_bodySF (plainFor_of_name pn_1) hisR ?_
  intro p e s m args below meth c s₁ Bd hml0 hP hK
  obtain ⟨rfl, hZ, hh⟩ := hP
  have hx := Bd.exec
  have hby := Bd.bytes
  have hlk : meth.locks = false := BodyLoose.notSynchronized Bd
  have hml : c.maxLocals = 9 := hml0
  have hown : s.vm.findClass "com/example/preemptlens/preemptlens/ctf/Clock" = some m.cls := findClass_of_methodNamed Bd.named
  have hnm := (name_of_methodNamed Bd.named Bd.method).1
  have X0 : Stand p l e ({ frames := 0, cells := 0, slots := 0, locals := 0 } : Room) s m #[(.ref o), (.long v0)] below meth c s₁ [] 0 0 := Stand.of_body Bd
  have e0 : s₁.heap = h0 := by rw [← hh, Bd.state]; rfl
  have N0 := Fr.nil n0
  show Goes p.tables e below s (Q4 fq os oc v0 h0 n0) 0 0 (s₁.setTop (entryFrame m #[(.ref o), (.long v0)] 9))
  refine Goes.of (fun t k => castTop (ef_4 m o v0) k) ?_
  show Goes _ _ _ _ _ _ _ (s₁.setTop (mkF m 0 #[.val (.ref o), .val (.long v0), .second, .unset, .unset, .unset, .unset, .unset, .unset] []))
  refine Goes.of (fun t k => XS.aloadN X0.here hx rfl (hb hby d4_0) rfl rfl k) ?_
  show Goes _ _ _ _ _ _ _ (s₁.setTop (mkF m 1 #[.val (.ref o), .val (.long v0), .second, .unset, .unset, .unset, .unset, .unset, .unset] [(.ref o)]))
  obtain ⟨T23, X23, e23, st23⟩ := getF X0 hx hZ hown (host := "") (Or.inl (hw _ (List.mem_of_getElem? (i := 26) rfl))) Via.refl e0 F_frequency (g := (mkF m 1 #[.val (.ref o), .val (.long v0), .second, .unset, .unset, .unset, .unset, .unset, .unset] [(.ref o)])) rfl rfl (hb hby d4_1)
  refine Goes.of st23 ?_
  show Goes _ _ _ _ _ _ _ (T23.setTop (mkF m 4 #[.val (.ref o), .val (.long v0), .second, .unset, .unset, .unset, .unset, .unset, .unset] [(.long fq)]))
  refine Goes.of (fun t k => X23.ldc2Long hx hown (mvT hZ (hw _ (List.mem_of_getElem? (i := 37) rfl))) (g := (mkF m 4 #[.val (.ref o), .val (.long v0), .second, .unset, .unset, .unset, .unset, .unset, .unset] [(.long fq)])) rfl (hb hby d4_4) t k) ?_
  show Goes _ _ _ _ _ _ _ (T23.setTop (mkF m 7 #[.val (.ref o), .val (.long v0), .second, .unset, .unset, .unset, .unset, .unset, .unset] [(.long (1000000000 : Int64)), (.long fq)]))
  refine Goes.of (fun t k => XS.lcmp X23.here hx rfl (hb hby d4_7) rfl k) ?_
  show Goes _ _ _ _ _ _ _ (T23.setTop (mkF m 8 #[.val (.ref o), .val (.long v0), .second, .unset, .unset, .unset, .unset, .unset, .unset] [(.int (lcmpW fq (1000000000 : Int64)))]))
  by_cases hc24 : fq = (1000000000 : Int64)
  · refine Goes.of (fun t k => XS.ifNo X23.here hx rfl (hb hby d4_8) rfl ((if0 _ _).trans (teq ((lw_eq _ _).mpr hc24)).2) k) ?_
    show Goes _ _ _ _ _ _ _ (T23.setTop (mkF m 11 #[.val (.ref o), .val (.long v0), .second, .unset, .unset, .unset, .unset, .unset, .unset] []))
    refine Goes.of (fun t k => XS.aloadN X23.here hx rfl (hb hby d4_11) rfl rfl k) ?_
    show Goes _ _ _ _ _ _ _ (T23.setTop (mkF m 12 #[.val (.ref o), .val (.long v0), .second, .unset, .unset, .unset, .unset, .unset, .unset] [(.ref o)]))
    obtain ⟨T25, X25, e25, st25⟩ := getF X23 hx hZ hown (host := "") (Or.inl (hw _ (List.mem_of_getElem? (i := 28) rfl))) Via.refl e23 F_offsetSeconds (g := (mkF m 12 #[.val (.ref o), .val (.long v0), .second, .unset, .unset, .unset, .unset, .unset, .unset] [(.ref o)])) rfl rfl (hb hby d4_12)
    refine Goes.of st25 ?_
    show Goes _ _ _ _ _ _ _ (T25.setTop (mkF m 15 #[.val (.ref o), .val (.long v0), .second, .unset, .unset, .unset, .unset, .unset, .unset] [(.long os)]))
    refine Goes.of (fun t k => X25.ldc2Long hx hown (mvT hZ (hw _ (List.mem_of_getElem? (i := 37) rfl))) (g := (mkF m 15 #[.val (.ref o), .val (.long v0), .second, .unset, .unset, .unset, .unset, .unset, .unset] [(.long os)])) rfl (hb hby d4_15) t k) ?_
    show Goes _ _ _ _ _ _ _ (T25.setTop (mkF m 18 #[.val (.ref o), .val (.long v0), .second, .unset, .unset, .unset, .unset, .unset, .unset] [(.long (1000000000 : Int64)), (.long os)]))
    refine Goes.of (fun t k => XS.lmul X25.here hx rfl (hb hby d4_18) rfl k) ?_
    show Goes _ _ _ _ _ _ _ (T25.setTop (mkF m 19 #[.val (.ref o), .val (.long v0), .second, .unset, .unset, .unset, .unset, .unset, .unset] [(.long (os * (1000000000 : Int64)))]))
    refine Goes.of (fun t k => XS.aloadN X25.here hx rfl (hb hby d4_19) rfl rfl k) ?_
    show Goes _ _ _ _ _ _ _ (T25.setTop (mkF m 20 #[.val (.ref o), .val (.long v0), .second, .unset, .unset, .unset, .unset, .unset, .unset] [(.ref o), (.long (os * (1000000000 : Int64)))]))
    obtain ⟨T26, X26, e26, st26⟩ := getF X25 hx hZ hown (host := "") (Or.inl (hw _ (List.mem_of_getElem? (i := 30) rfl))) Via.refl e25 F_offsetCycles (g := (mkF m 20 #[.val (.ref o), .val (.long v0), .second, .unset, .unset, .unset, .unset, .unset, .unset] [(.ref o), (.long (os * (1000000000 : Int64)))])) rfl rfl (hb hby d4_20)
    refine Goes.of st26 ?_
    show Goes _ _ _ _ _ _ _ (T26.setTop (mkF m 23 #[.val (.ref o), .val (.long v0), .second, .unset, .unset, .unset, .unset, .unset, .unset] [(.long oc), (.long (os * (1000000000 : Int64)))]))
    refine Goes.of (fun t k => XS.ladd X26.here hx rfl (hb hby d4_23) rfl k) ?_
    show Goes _ _ _ _ _ _ _ (T26.setTop (mkF m 24 #[.val (.ref o), .val (.long v0), .second, .unset, .unset, .unset, .unset, .unset, .unset] [(.long ((os * (1000000000 : Int64)) + oc))]))
    refine Goes.of (fun t k => XS.lloadN X26.here hx rfl (hb hby d4_24) rfl k) ?_
    show Goes _ _ _ _ _ _ _ (T26.setTop (mkF m 25 #[.val (.ref o), .val (.long v0), .second, .unset, .unset, .unset, .unset, .unset, .unset] [(.long v0), (.long ((os * (1000000000 : Int64)) + oc))]))
    refine Goes.of (fun t k => XS.ladd X26.here hx rfl (hb hby d4_25) rfl k) ?_
    show Goes _ _ _ _ _ _ _ (T26.setTop (mkF m 26 #[.val (.ref o), .val (.long v0), .second, .unset, .unset, .unset, .unset, .unset, .unset] [(.long (((os * (1000000000 : Int64)) + oc) + v0))]))
    refine Goes.of (fun t k => XS.lstoreN X26.here hx rfl (hb hby d4_26) rfl (l' := #[.val (.ref o), .val (.long v0), .second, .val (.long (((os * (1000000000 : Int64)) + oc) + v0)), .second, .unset, .unset, .unset, .unset]) rfl k) ?_
    show Goes _ _ _ _ _ _ _ (T26.setTop (mkF m 27 #[.val (.ref o), .val (.long v0), .second, .val (.long (((os * (1000000000 : Int64)) + oc) + v0)), .second, .unset, .unset, .unset, .unset] []))
    refine Goes.of (fun t k => XS.goto X26.here hx rfl (pc0 := 27) (pc' := 103) rfl (hb hby d4_27) (by decide) (by decide) k) ?_
    show Goes _ _ _ _ _ _ _ (T26.setTop (mkF m 103 #[.val (.ref o), .val (.long v0), .second, .val (.long (((os * (1000000000 : Int64)) + oc) + v0)), .second, .unset, .unset, .unset, .unset] []))
    refine Goes.of (fun t k => XS.lloadN X26.here hx rfl (hb hby d4_103) rfl k) ?_
    show Goes _ _ _ _ _ _ _ (T26.setTop (mkF m 104 #[.val (.ref o), .val (.long v0), .second, .val (.long (((os * (1000000000 : Int64)) + oc) + v0)), .second, .unset, .unset, .unset, .unset] [(.long (((os * (1000000000 : Int64)) + oc) + v0))]))
    exact Goes.fin X26 hlk (v := some (.long (((os * (1000000000 : Int64)) + oc) + v0))) (fun h => by rw [Bd.returns] at h; cases h) (fun fs hr => retOut X26 hx Bd.returns (by rfl) (Or.inr (Or.inl ⟨rfl, rfl, _, rfl⟩)) (hb hby d4_104) hr) ⟨congrArg (fun z => some (Value.long z)) (by rw [f4, if_pos hc24] : (((os * (1000000000 : Int64)) + oc) + v0) = f4 fq os oc v0), N0, e26⟩ (by decide) (by decide)
  · refine Goes.of (fun t k => XS.ifYes X23.here hx rfl (pc0 := 8) (pc' := 30) rfl (hb hby d4_8) rfl ((if0 _ _).trans (feq (fun q => hc24 ((lw_eq _ _).mp q))).2) (by decide) (by decide) k) ?_
    show Goes _ _ _ _ _ _ _ (T23.setTop (mkF m 30 #[.val (.ref o), .val (.long v0), .second, .unset, .unset, .unset, .unset, .unset, .unset] []))
    refine Goes.of (fun t k => XS.aloadN X23.here hx rfl (hb hby d4_30) rfl rfl k) ?_
    show Goes _ _ _ _ _ _ _ (T23.setTop (mkF m 31 #[.val (.ref o), .val (.long v0), .second, .unset, .unset, .unset, .unset, .unset, .unset] [(.ref o)]))
    obtain ⟨T27, X27, e27, st27⟩ := getF X23 hx hZ hown (host := "") (Or.inl (hw _ (List.mem_of_getElem? (i := 30) rfl))) Via.refl e23 F_offsetCycles (g := (mkF m 31 #[.val (.ref o), .val (.long v0), .second, .unset, .unset, .unset, .unset, .unset, .unset] [(.ref o)])) rfl rfl (hb hby d4_31)
    refine Goes.of st27 ?_
    show Goes _ _ _ _ _ _ _ (T27.setTop (mkF m 34 #[.val (.ref o), .val (.long v0), .second, .unset, .unset, .unset, .unset, .unset, .unset] [(.long oc)]))
    refine Goes.of (fun t k => XS.aloadN X27.here hx rfl (hb hby d4_34) rfl rfl k) ?_
    show Goes _ _ _ _ _ _ _ (T27.setTop (mkF m 35 #[.val (.ref o), .val (.long v0), .second, .unset, .unset, .unset, .unset, .unset, .unset] [(.ref o), (.long oc)]))
    obtain ⟨T28, X28, e28, st28⟩ := getF X27 hx hZ hown (host := "") (Or.inl (hw _ (List.mem_of_getElem? (i := 26) rfl))) Via.refl e27 F_frequency (g := (mkF m 35 #[.val (.ref o), .val (.long v0), .second, .unset, .unset, .unset, .unset, .unset, .unset] [(.ref o), (.long oc)])) rfl rfl (hb hby d4_35)
    refine Goes.of st28 ?_
    show Goes _ _ _ _ _ _ _ (T28.setTop (mkF m 38 #[.val (.ref o), .val (.long v0), .second, .unset, .unset, .unset, .unset, .unset, .unset] [(.long fq), (.long oc)]))
    refine Goes.of (fun t k => XS.lrem X28.here hx rfl (hb hby d4_38) rfl hfq k) ?_
    show Goes _ _ _ _ _ _ _ (T28.setTop (mkF m 39 #[.val (.ref o), .val (.long v0), .second, .unset, .unset, .unset, .unset, .unset, .unset] [(.long (oc - oc / fq * fq))]))
    refine Goes.of (fun t k => XS.lloadN X28.here hx rfl (hb hby d4_39) rfl k) ?_
    show Goes _ _ _ _ _ _ _ (T28.setTop (mkF m 40 #[.val (.ref o), .val (.long v0), .second, .unset, .unset, .unset, .unset, .unset, .unset] [(.long v0), (.long (oc - oc / fq * fq))]))
    refine Goes.of (fun t k => XS.aloadN X28.here hx rfl (hb hby d4_40) rfl rfl k) ?_
    show Goes _ _ _ _ _ _ _ (T28.setTop (mkF m 41 #[.val (.ref o), .val (.long v0), .second, .unset, .unset, .unset, .unset, .unset, .unset] [(.ref o), (.long v0), (.long (oc - oc / fq * fq))]))
    obtain ⟨T29, X29, e29, st29⟩ := getF X28 hx hZ hown (host := "") (Or.inl (hw _ (List.mem_of_getElem? (i := 26) rfl))) Via.refl e28 F_frequency (g := (mkF m 41 #[.val (.ref o), .val (.long v0), .second, .unset, .unset, .unset, .unset, .unset, .unset] [(.ref o), (.long v0), (.long (oc - oc / fq * fq))])) rfl rfl (hb hby d4_41)
    refine Goes.of st29 ?_
    show Goes _ _ _ _ _ _ _ (T29.setTop (mkF m 44 #[.val (.ref o), .val (.long v0), .second, .unset, .unset, .unset, .unset, .unset, .unset] [(.long fq), (.long v0), (.long (oc - oc / fq * fq))]))
    refine Goes.of (fun t k => XS.lrem X29.here hx rfl (hb hby d4_44) rfl hfq k) ?_
    show Goes _ _ _ _ _ _ _ (T29.setTop (mkF m 45 #[.val (.ref o), .val (.long v0), .second, .unset, .unset, .unset, .unset, .unset, .unset] [(.long (v0 - v0 / fq * fq)), (.long (oc - oc / fq * fq))]))
    refine Goes.of (fun t k => XS.ladd X29.here hx rfl (hb hby d4_45) rfl k) ?_
    show Goes _ _ _ _ _ _ _ (T29.setTop (mkF m 46 #[.val (.ref o), .val (.long v0), .second, .unset, .unset, .unset, .unset, .unset, .unset] [(.long ((oc - oc / fq * fq) + (v0 - v0 / fq * fq)))]))
    refine Goes.of (fun t k => XS.lstore X29.here hx rfl (hb hby d4_46) rfl (l' := #[.val (.ref o), .val (.long v0), .second, .unset, .unset, .val (.long ((oc - oc / fq * fq) + (v0 - v0 / fq * fq))), .second, .unset, .unset]) rfl k) ?_
    show Goes _ _ _ _ _ _ _ (T29.setTop (mkF m 48 #[.val (.ref o), .val (.long v0), .second, .unset, .unset, .val (.long ((oc - oc / fq * fq) + (v0 - v0 / fq * fq))), .second, .unset, .unset] []))
    refine Goes.of (fun t k => XS.aloadN X29.here hx rfl (hb hby d4_48) rfl rfl k) ?_
    show Goes _ _ _ _ _ _ _ (T29.setTop (mkF m 49 #[.val (.ref o), .val (.long v0), .second, .unset, .unset, .val (.long ((oc - oc / fq * fq) + (v0 - v0 / fq * fq))), .second, .unset, .unset] [(.ref o)]))
    obtain ⟨T30, X30, e30, st30⟩ := getF X29 hx hZ hown (host := "") (Or.inl (hw _ (List.mem_of_getElem? (i := 28) rfl))) Via.refl e29 F_offsetSeconds (g := (mkF m 49 #[.val (.ref o), .val (.long v0), .second, .unset, .unset, .val (.long ((oc - oc / fq * fq) + (v0 - v0 / fq * fq))), .second, .unset, .unset] [(.ref o)])) rfl rfl (hb hby d4_49)
    refine Goes.of st30 ?_
    show Goes _ _ _ _ _ _ _ (T30.setTop (mkF m 52 #[.val (.ref o), .val (.long v0), .second, .unset, .unset, .val (.long ((oc - oc / fq * fq) + (v0 - v0 / fq * fq))), .second, .unset, .unset] [(.long os)]))
    refine Goes.of (fun t k => XS.aloadN X30.here hx rfl (hb hby d4_52) rfl rfl k) ?_
    show Goes _ _ _ _ _ _ _ (T30.setTop (mkF m 53 #[.val (.ref o), .val (.long v0), .second, .unset, .unset, .val (.long ((oc - oc / fq * fq) + (v0 - v0 / fq * fq))), .second, .unset, .unset] [(.ref o), (.long os)]))
    obtain ⟨T31, X31, e31, st31⟩ := getF X30 hx hZ hown (host := "") (Or.inl (hw _ (List.mem_of_getElem? (i := 30) rfl))) Via.refl e30 F_offsetCycles (g := (mkF m 53 #[.val (.ref o), .val (.long v0), .second, .unset, .unset, .val (.long ((oc - oc / fq * fq) + (v0 - v0 / fq * fq))), .second, .unset, .unset] [(.ref o), (.long os)])) rfl rfl (hb hby d4_53)
    refine Goes.of st31 ?_
    show Goes _ _ _ _ _ _ _ (T31.setTop (mkF m 56 #[.val (.ref o), .val (.long v0), .second, .unset, .unset, .val (.long ((oc - oc / fq * fq) + (v0 - v0 / fq * fq))), .second, .unset, .unset] [(.long oc), (.long os)]))
    refine Goes.of (fun t k => XS.aloadN X31.here hx rfl (hb hby d4_56) rfl rfl k) ?_
    show Goes _ _ _ _ _ _ _ (T31.setTop (mkF m 57 #[.val (.ref o), .val (.long v0), .second, .unset, .unset, .val (.long ((oc - oc / fq * fq) + (v0 - v0 / fq * fq))), .second, .unset, .unset] [(.ref o), (.long oc), (.long os)]))
    obtain ⟨T32, X32, e32, st32⟩ := getF X31 hx hZ hown (host := "") (Or.inl (hw _ (List.mem_of_getElem? (i := 26) rfl))) Via.refl e31 F_frequency (g := (mkF m 57 #[.val (.ref o), .val (.long v0), .second, .unset, .unset, .val (.long ((oc - oc / fq * fq) + (v0 - v0 / fq * fq))), .second, .unset, .unset] [(.ref o), (.long oc), (.long os)])) rfl rfl (hb hby d4_57)
    refine Goes.of st32 ?_
    show Goes _ _ _ _ _ _ _ (T32.setTop (mkF m 60 #[.val (.ref o), .val (.long v0), .second, .unset, .unset, .val (.long ((oc - oc / fq * fq) + (v0 - v0 / fq * fq))), .second, .unset, .unset] [(.long fq), (.long oc), (.long os)]))
    refine Goes.of (fun t k => XS.ldiv X32.here hx rfl (hb hby d4_60) rfl hfq k) ?_
    show Goes _ _ _ _ _ _ _ (T32.setTop (mkF m 61 #[.val (.ref o), .val (.long v0), .second, .unset, .unset, .val (.long ((oc - oc / fq * fq) + (v0 - v0 / fq * fq))), .second, .unset, .unset] [(.long (oc / fq)), (.long os)]))
    refine Goes.of (fun t k => XS.ladd X32.here hx rfl (hb hby d4_61) rfl k) ?_
    show Goes _ _ _ _ _ _ _ (T32.setTop (mkF m 62 #[.val (.ref o), .val (.long v0), .second, .unset, .unset, .val (.long ((oc - oc / fq * fq) + (v0 - v0 / fq * fq))), .second, .unset, .unset] [(.long (os + (oc / fq)))]))
    refine Goes.of (fun t k => XS.lloadN X32.here hx rfl (hb hby d4_62) rfl k) ?_
    show Goes _ _ _ _ _ _ _ (T32.setTop (mkF m 63 #[.val (.ref o), .val (.long v0), .second, .unset, .unset, .val (.long ((oc - oc / fq * fq) + (v0 - v0 / fq * fq))), .second, .unset, .unset] [(.long v0), (.long (os + (oc / fq)))]))
    refine Goes.of (fun t k => XS.aloadN X32.here hx rfl (hb hby d4_63) rfl rfl k) ?_
    show Goes _ _ _ _ _ _ _ (T32.setTop (mkF m 64 #[.val (.ref o), .val (.long v0), .second, .unset, .unset, .val (.long ((oc - oc / fq * fq) + (v0 - v0 / fq * fq))), .second, .unset, .unset] [(.ref o), (.long v0), (.long (os + (oc / fq)))]))
    obtain ⟨T33, X33, e33, st33⟩ := getF X32 hx hZ hown (host := "") (Or.inl (hw _ (List.mem_of_getElem? (i := 26) rfl))) Via.refl e32 F_frequency (g := (mkF m 64 #[.val (.ref o), .val (.long v0), .second, .unset, .unset, .val (.long ((oc - oc / fq * fq) + (v0 - v0 / fq * fq))), .second, .unset, .unset] [(.ref o), (.long v0), (.long (os + (oc / fq)))])) rfl rfl (hb hby d4_64)
    refine Goes.of st33 ?_
    show Goes _ _ _ _ _ _ _ (T33.setTop (mkF m 67 #[.val (.ref o), .val (.long v0), .second, .unset, .unset, .val (.long ((oc - oc / fq * fq) + (v0 - v0 / fq * fq))), .second, .unset, .unset] [(.long fq), (.long v0), (.long (os + (oc / fq)))]))
    refine Goes.of (fun t k => XS.ldiv X33.here hx rfl (hb hby d4_67) rfl hfq k) ?_
    show Goes _ _ _ _ _ _ _ (T33.setTop (mkF m 68 #[.val (.ref o), .val (.long v0), .second, .unset, .unset, .val (.long ((oc - oc / fq * fq) + (v0 - v0 / fq * fq))), .second, .unset, .unset] [(.long (v0 / fq)), (.long (os + (oc / fq)))]))
    refine Goes.of (fun t k => XS.ladd X33.here hx rfl (hb hby d4_68) rfl k) ?_
    show Goes _ _ _ _ _ _ _ (T33.setTop (mkF m 69 #[.val (.ref o), .val (.long v0), .second, .unset, .unset, .val (.long ((oc - oc / fq * fq) + (v0 - v0 / fq * fq))), .second, .unset, .unset] [(.long ((os + (oc / fq)) + (v0 / fq)))]))
    refine Goes.of (fun t k => XS.lload X33.here hx rfl (hb hby d4_69) rfl k) ?_
    show Goes _ _ _ _ _ _ _ (T33.setTop (mkF m 71 #[.val (.ref o), .val (.long v0), .second, .unset, .unset, .val (.long ((oc - oc / fq * fq) + (v0 - v0 / fq * fq))), .second, .unset, .unset] [(.long ((oc - oc / fq * fq) + (v0 - v0 / fq * fq))), (.long ((os + (oc / fq)) + (v0 / fq)))]))
    refine Goes.of (fun t k => XS.aloadN X33.here hx rfl (hb hby d4_71) rfl rfl k) ?_
    show Goes _ _ _ _ _ _ _ (T33.setTop (mkF m 72 #[.val (.ref o), .val (.long v0), .second, .unset, .unset, .val (.long ((oc - oc / fq * fq) + (v0 - v0 / fq * fq))), .second, .unset, .unset] [(.ref o), (.long ((oc - oc / fq * fq) + (v0 - v0 / fq * fq))), (.long ((os + (oc / fq)) + (v0 / fq)))]))
    obtain ⟨T34, X34, e34, st34⟩ := getF X33 hx hZ hown (host := "") (Or.inl (hw _ (List.mem_of_getElem? (i := 26) rfl))) Via.refl e33 F_frequency (g := (mkF m 72 #[.val (.ref o), .val (.long v0), .second, .unset, .unset, .val (.long ((oc - oc / fq * fq) + (v0 - v0 / fq * fq))), .second, .unset, .unset] [(.ref o), (.long ((oc - oc / fq * fq) + (v0 - v0 / fq * fq))), (.long ((os + (oc / fq)) + (v0 / fq)))])) rfl rfl (hb hby d4_72)
    refine Goes.of st34 ?_
    show Goes _ _ _ _ _ _ _ (T34.setTop (mkF m 75 #[.val (.ref o), .val (.long v0), .second, .unset, .unset, .val (.long ((oc - oc / fq * fq) + (v0 - v0 / fq * fq))), .second, .unset, .unset] [(.long fq), (.long ((oc - oc / fq * fq) + (v0 - v0 / fq * fq))), (.long ((os + (oc / fq)) + (v0 / fq)))]))
    refine Goes.of (fun t k => XS.ldiv X34.here hx rfl (hb hby d4_75) rfl hfq k) ?_
    show Goes _ _ _ _ _ _ _ (T34.setTop (mkF m 76 #[.val (.ref o), .val (.long v0), .second, .unset, .unset, .val (.long ((oc - oc / fq * fq) + (v0 - v0 / fq * fq))), .second, .unset, .unset] [(.long (((oc - oc / fq * fq) + (v0 - v0 / fq * fq)) / fq)), (.long ((os + (oc / fq)) + (v0 / fq)))]))
    refine Goes.of (fun t k => XS.ladd X34.here hx rfl (hb hby d4_76) rfl k) ?_
    show Goes _ _ _ _ _ _ _ (T34.setTop (mkF m 77 #[.val (.ref o), .val (.long v0), .second, .unset, .unset, .val (.long ((oc - oc / fq * fq) + (v0 - v0 / fq * fq))), .second, .unset, .unset] [(.long (((os + (oc / fq)) + (v0 / fq)) + (((oc - oc / fq * fq) + (v0 - v0 / fq * fq)) / fq)))]))
    refine Goes.of (fun t k => XS.lstore X34.here hx rfl (hb hby d4_77) rfl (l' := #[.val (.ref o), .val (.long v0), .second, .unset, .unset, .val (.long ((oc - oc / fq * fq) + (v0 - v0 / fq * fq))), .second, .val (.long (((os + (oc / fq)) + (v0 / fq)) + (((oc - oc / fq * fq) + (v0 - v0 / fq * fq)) / fq))), .second]) rfl k) ?_
    show Goes _ _ _ _ _ _ _ (T34.setTop (mkF m 79 #[.val (.ref o), .val (.long v0), .second, .unset, .unset, .val (.long ((oc - oc / fq * fq) + (v0 - v0 / fq * fq))), .second, .val (.long (((os + (oc / fq)) + (v0 / fq)) + (((oc - oc / fq * fq) + (v0 - v0 / fq * fq)) / fq))), .second] []))
    refine Goes.of (fun t k => XS.lload X34.here hx rfl (hb hby d4_79) rfl k) ?_
    show Goes _ _ _ _ _ _ _ (T34.setTop (mkF m 81 #[.val (.ref o), .val (.long v0), .second, .unset, .unset, .val (.long ((oc - oc / fq * fq) + (v0 - v0 / fq * fq))), .second, .val (.long (((os + (oc / fq)) + (v0 / fq)) + (((oc - oc / fq * fq) + (v0 - v0 / fq * fq)) / fq))), .second] [(.long (((os + (oc / fq)) + (v0 / fq)) + (((oc - oc / fq * fq) + (v0 - v0 / fq * fq)) / fq)))]))
    refine Goes.of (fun t k => X34.ldc2Long hx hown (mvT hZ (hw _ (List.mem_of_getElem? (i := 37) rfl))) (g := (mkF m 81 #[.val (.ref o), .val (.long v0), .second, .unset, .unset, .val (.long ((oc - oc / fq * fq) + (v0 - v0 / fq * fq))), .second, .val (.long (((os + (oc / fq)) + (v0 / fq)) + (((oc - oc / fq * fq) + (v0 - v0 / fq * fq)) / fq))), .second] [(.long (((os + (oc / fq)) + (v0 / fq)) + (((oc - oc / fq * fq) + (v0 - v0 / fq * fq)) / fq)))])) rfl (hb hby d4_81) t k) ?_
    show Goes _ _ _ _ _ _ _ (T34.setTop (mkF m 84 #[.val (.ref o), .val (.long v0), .second, .unset, .unset, .val (.long ((oc - oc / fq * fq) + (v0 - v0 / fq * fq))), .second, .val (.long (((os + (oc / fq)) + (v0 / fq)) + (((oc - oc / fq * fq) + (v0 - v0 / fq * fq)) / fq))), .second] [(.long (1000000000 : Int64)), (.long (((os + (oc / fq)) + (v0 / fq)) + (((oc - oc / fq * fq) + (v0 - v0 / fq * fq)) / fq)))]))
    refine Goes.of (fun t k => XS.lmul X34.here hx rfl (hb hby d4_84) rfl k) ?_
    show Goes _ _ _ _ _ _ _ (T34.setTop (mkF m 85 #[.val (.ref o), .val (.long v0), .second, .unset, .unset, .val (.long ((oc - oc / fq * fq) + (v0 - v0 / fq * fq))), .second, .val (.long (((os + (oc / fq)) + (v0 / fq)) + (((oc - oc / fq * fq) + (v0 - v0 / fq * fq)) / fq))), .second] [(.long ((((os + (oc / fq)) + (v0 / fq)) + (((oc - oc / fq * fq) + (v0 - v0 / fq * fq)) / fq)) * (1000000000 : Int64)))]))
    refine Goes.of (fun t k => XS.lload X34.here hx rfl (hb hby d4_85) rfl k) ?_
    show Goes _ _ _ _ _ _ _ (T34.setTop (mkF m 87 #[.val (.ref o), .val (.long v0), .second, .unset, .unset, .val (.long ((oc - oc / fq * fq) + (v0 - v0 / fq * fq))), .second, .val (.long (((os + (oc / fq)) + (v0 / fq)) + (((oc - oc / fq * fq) + (v0 - v0 / fq * fq)) / fq))), .second] [(.long ((oc - oc / fq * fq) + (v0 - v0 / fq * fq))), (.long ((((os + (oc / fq)) + (v0 / fq)) + (((oc - oc / fq * fq) + (v0 - v0 / fq * fq)) / fq)) * (1000000000 : Int64)))]))
    refine Goes.of (fun t k => XS.aloadN X34.here hx rfl (hb hby d4_87) rfl rfl k) ?_
    show Goes _ _ _ _ _ _ _ (T34.setTop (mkF m 88 #[.val (.ref o), .val (.long v0), .second, .unset, .unset, .val (.long ((oc - oc / fq * fq) + (v0 - v0 / fq * fq))), .second, .val (.long (((os + (oc / fq)) + (v0 / fq)) + (((oc - oc / fq * fq) + (v0 - v0 / fq * fq)) / fq))), .second] [(.ref o), (.long ((oc - oc / fq * fq) + (v0 - v0 / fq * fq))), (.long ((((os + (oc / fq)) + (v0 / fq)) + (((oc - oc / fq * fq) + (v0 - v0 / fq * fq)) / fq)) * (1000000000 : Int64)))]))
    obtain ⟨T35, X35, e35, st35⟩ := getF X34 hx hZ hown (host := "") (Or.inl (hw _ (List.mem_of_getElem? (i := 26) rfl))) Via.refl e34 F_frequency (g := (mkF m 88 #[.val (.ref o), .val (.long v0), .second, .unset, .unset, .val (.long ((oc - oc / fq * fq) + (v0 - v0 / fq * fq))), .second, .val (.long (((os + (oc / fq)) + (v0 / fq)) + (((oc - oc / fq * fq) + (v0 - v0 / fq * fq)) / fq))), .second] [(.ref o), (.long ((oc - oc / fq * fq) + (v0 - v0 / fq * fq))), (.long ((((os + (oc / fq)) + (v0 / fq)) + (((oc - oc / fq * fq) + (v0 - v0 / fq * fq)) / fq)) * (1000000000 : Int64)))])) rfl rfl (hb hby d4_88)
    refine Goes.of st35 ?_
    show Goes _ _ _ _ _ _ _ (T35.setTop (mkF m 91 #[.val (.ref o), .val (.long v0), .second, .unset, .unset, .val (.long ((oc - oc / fq * fq) + (v0 - v0 / fq * fq))), .second, .val (.long (((os + (oc / fq)) + (v0 / fq)) + (((oc - oc / fq * fq) + (v0 - v0 / fq * fq)) / fq))), .second] [(.long fq), (.long ((oc - oc / fq * fq) + (v0 - v0 / fq * fq))), (.long ((((os + (oc / fq)) + (v0 / fq)) + (((oc - oc / fq * fq) + (v0 - v0 / fq * fq)) / fq)) * (1000000000 : Int64)))]))
    refine Goes.of (fun t k => XS.lrem X35.here hx rfl (hb hby d4_91) rfl hfq k) ?_
    show Goes _ _ _ _ _ _ _ (T35.setTop (mkF m 92 #[.val (.ref o), .val (.long v0), .second, .unset, .unset, .val (.long ((oc - oc / fq * fq) + (v0 - v0 / fq * fq))), .second, .val (.long (((os + (oc / fq)) + (v0 / fq)) + (((oc - oc / fq * fq) + (v0 - v0 / fq * fq)) / fq))), .second] [(.long (((oc - oc / fq * fq) + (v0 - v0 / fq * fq)) - ((oc - oc / fq * fq) + (v0 - v0 / fq * fq)) / fq * fq)), (.long ((((os + (oc / fq)) + (v0 / fq)) + (((oc - oc / fq * fq) + (v0 - v0 / fq * fq)) / fq)) * (1000000000 : Int64)))]))
    refine Goes.of (fun t k => X35.ldc2Long hx hown (mvT hZ (hw _ (List.mem_of_getElem? (i := 37) rfl))) (g := (mkF m 92 #[.val (.ref o), .val (.long v0), .second, .unset, .unset, .val (.long ((oc - oc / fq * fq) + (v0 - v0 / fq * fq))), .second, .val (.long (((os + (oc / fq)) + (v0 / fq)) + (((oc - oc / fq * fq) + (v0 - v0 / fq * fq)) / fq))), .second] [(.long (((oc - oc / fq * fq) + (v0 - v0 / fq * fq)) - ((oc - oc / fq * fq) + (v0 - v0 / fq * fq)) / fq * fq)), (.long ((((os + (oc / fq)) + (v0 / fq)) + (((oc - oc / fq * fq) + (v0 - v0 / fq * fq)) / fq)) * (1000000000 : Int64)))])) rfl (hb hby d4_92) t k) ?_
    show Goes _ _ _ _ _ _ _ (T35.setTop (mkF m 95 #[.val (.ref o), .val (.long v0), .second, .unset, .unset, .val (.long ((oc - oc / fq * fq) + (v0 - v0 / fq * fq))), .second, .val (.long (((os + (oc / fq)) + (v0 / fq)) + (((oc - oc / fq * fq) + (v0 - v0 / fq * fq)) / fq))), .second] [(.long (1000000000 : Int64)), (.long (((oc - oc / fq * fq) + (v0 - v0 / fq * fq)) - ((oc - oc / fq * fq) + (v0 - v0 / fq * fq)) / fq * fq)), (.long ((((os + (oc / fq)) + (v0 / fq)) + (((oc - oc / fq * fq) + (v0 - v0 / fq * fq)) / fq)) * (1000000000 : Int64)))]))
    refine Goes.of (fun t k => XS.lmul X35.here hx rfl (hb hby d4_95) rfl k) ?_
    show Goes _ _ _ _ _ _ _ (T35.setTop (mkF m 96 #[.val (.ref o), .val (.long v0), .second, .unset, .unset, .val (.long ((oc - oc / fq * fq) + (v0 - v0 / fq * fq))), .second, .val (.long (((os + (oc / fq)) + (v0 / fq)) + (((oc - oc / fq * fq) + (v0 - v0 / fq * fq)) / fq))), .second] [(.long ((((oc - oc / fq * fq) + (v0 - v0 / fq * fq)) - ((oc - oc / fq * fq) + (v0 - v0 / fq * fq)) / fq * fq) * (1000000000 : Int64))), (.long ((((os + (oc / fq)) + (v0 / fq)) + (((oc - oc / fq * fq) + (v0 - v0 / fq * fq)) / fq)) * (1000000000 : Int64)))]))
    refine Goes.of (fun t k => XS.aloadN X35.here hx rfl (hb hby d4_96) rfl rfl k) ?_
    show Goes _ _ _ _ _ _ _ (T35.setTop (mkF m 97 #[.val (.ref o), .val (.long v0), .second, .unset, .unset, .val (.long ((oc - oc / fq * fq) + (v0 - v0 / fq * fq))), .second, .val (.long (((os + (oc / fq)) + (v0 / fq)) + (((oc - oc / fq * fq) + (v0 - v0 / fq * fq)) / fq))), .second] [(.ref o), (.long ((((oc - oc / fq * fq) + (v0 - v0 / fq * fq)) - ((oc - oc / fq * fq) + (v0 - v0 / fq * fq)) / fq * fq) * (1000000000 : Int64))), (.long ((((os + (oc / fq)) + (v0 / fq)) + (((oc - oc / fq * fq) + (v0 - v0 / fq * fq)) / fq)) * (1000000000 : Int64)))]))
    obtain ⟨T36, X36, e36, st36⟩ := getF X35 hx hZ hown (host := "") (Or.inl (hw _ (List.mem_of_getElem? (i := 26) rfl))) Via.refl e35 F_frequency (g := (mkF m 97 #[.val (.ref o), .val (.long v0), .second, .unset, .unset, .val (.long ((oc - oc / fq * fq) + (v0 - v0 / fq * fq))), .second, .val (.long (((os + (oc / fq)) + (v0 / fq)) + (((oc - oc / fq * fq) + (v0 - v0 / fq * fq)) / fq))), .second] [(.ref o), (.long ((((oc - oc / fq * fq) + (v0 - v0 / fq * fq)) - ((oc - oc / fq * fq) + (v0 - v0 / fq * fq)) / fq * fq) * (1000000000 : Int64))), (.long ((((os + (oc / fq)) + (v0 / fq)) + (((oc - oc / fq * fq) + (v0 - v0 / fq * fq)) / fq)) * (1000000000 : Int64)))])) rfl rfl (hb hby d4_97)
    refine Goes.of st36 ?_
    show Goes _ _ _ _ _ _ _ (T36.setTop (mkF m 100 #[.val (.ref o), .val (.long v0), .second, .unset, .unset, .val (.long ((oc - oc / fq * fq) + (v0 - v0 / fq * fq))), .second, .val (.long (((os + (oc / fq)) + (v0 / fq)) + (((oc - oc / fq * fq) + (v0 - v0 / fq * fq)) / fq))), .second] [(.long fq), (.long ((((oc - oc / fq * fq) + (v0 - v0 / fq * fq)) - ((oc - oc / fq * fq) + (v0 - v0 / fq * fq)) / fq * fq) * (1000000000 : Int64))), (.long ((((os + (oc / fq)) + (v0 / fq)) + (((oc - oc / fq * fq) + (v0 - v0 / fq * fq)) / fq)) * (1000000000 : Int64)))]))
    refine Goes.of (fun t k => XS.ldiv X36.here hx rfl (hb hby d4_100) rfl hfq k) ?_
    show Goes _ _ _ _ _ _ _ (T36.setTop (mkF m 101 #[.val (.ref o), .val (.long v0), .second, .unset, .unset, .val (.long ((oc - oc / fq * fq) + (v0 - v0 / fq * fq))), .second, .val (.long (((os + (oc / fq)) + (v0 / fq)) + (((oc - oc / fq * fq) + (v0 - v0 / fq * fq)) / fq))), .second] [(.long (((((oc - oc / fq * fq) + (v0 - v0 / fq * fq)) - ((oc - oc / fq * fq) + (v0 - v0 / fq * fq)) / fq * fq) * (1000000000 : Int64)) / fq)), (.long ((((os + (oc / fq)) + (v0 / fq)) + (((oc - oc / fq * fq) + (v0 - v0 / fq * fq)) / fq)) * (1000000000 : Int64)))]))
    refine Goes.of (fun t k => XS.ladd X36.here hx rfl (hb hby d4_101) rfl k) ?_
    show Goes _ _ _ _ _ _ _ (T36.setTop (mkF m 102 #[.val (.ref o), .val (.long v0), .second, .unset, .unset, .val (.long ((oc - oc / fq * fq) + (v0 - v0 / fq * fq))), .second, .val (.long (((os + (oc / fq)) + (v0 / fq)) + (((oc - oc / fq * fq) + (v0 - v0 / fq * fq)) / fq))), .second] [(.long (((((os + (oc / fq)) + (v0 / fq)) + (((oc - oc / fq * fq) + (v0 - v0 / fq * fq)) / fq)) * (1000000000 : Int64)) + (((((oc - oc / fq * fq) + (v0 - v0 / fq * fq)) - ((oc - oc / fq * fq) + (v0 - v0 / fq * fq)) / fq * fq) * (1000000000 : Int64)) / fq)))]))
    refine Goes.of (fun t k => XS.lstoreN X36.here hx rfl (hb hby d4_102) rfl (l' := #[.val (.ref o), .val (.long v0), .second, .val (.long (((((os + (oc / fq)) + (v0 / fq)) + (((oc - oc / fq * fq) + (v0 - v0 / fq * fq)) / fq)) * (1000000000 : Int64)) + (((((oc - oc / fq * fq) + (v0 - v0 / fq * fq)) - ((oc - oc / fq * fq) + (v0 - v0 / fq * fq)) / fq * fq) * (1000000000 : Int64)) / fq))), .second, .val (.long ((oc - oc / fq * fq) + (v0 - v0 / fq * fq))), .second, .val (.long (((os + (oc / fq)) + (v0 / fq)) + (((oc - oc / fq * fq) + (v0 - v0 / fq * fq)) / fq))), .second]) rfl k) ?_
    show Goes _ _ _ _ _ _ _ (T36.setTop (mkF m 103 #[.val (.ref o), .val (.long v0), .second, .val (.long (((((os + (oc / fq)) + (v0 / fq)) + (((oc - oc / fq * fq) + (v0 - v0 / fq * fq)) / fq)) * (1000000000 : Int64)) + (((((oc - oc / fq * fq) + (v0 - v0 / fq * fq)) - ((oc - oc / fq * fq) + (v0 - v0 / fq * fq)) / fq * fq) * (1000000000 : Int64)) / fq))), .second, .val (.long ((oc - oc / fq * fq) + (v0 - v0 / fq * fq))), .second, .val (.long (((os + (oc / fq)) + (v0 / fq)) + (((oc - oc / fq * fq) + (v0 - v0 / fq * fq)) / fq))), .second] []))
    refine Goes.of (fun t k => XS.lloadN X36.here hx rfl (hb hby d4_103) rfl k) ?_
    show Goes _ _ _ _ _ _ _ (T36.setTop (mkF m 104 #[.val (.ref o), .val (.long v0), .second, .val (.long (((((os + (oc / fq)) + (v0 / fq)) + (((oc - oc / fq * fq) + (v0 - v0 / fq * fq)) / fq)) * (1000000000 : Int64)) + (((((oc - oc / fq * fq) + (v0 - v0 / fq * fq)) - ((oc - oc / fq * fq) + (v0 - v0 / fq * fq)) / fq * fq) * (1000000000 : Int64)) / fq))), .second, .val (.long ((oc - oc / fq * fq) + (v0 - v0 / fq * fq))), .second, .val (.long (((os + (oc / fq)) + (v0 / fq)) + (((oc - oc / fq * fq) + (v0 - v0 / fq * fq)) / fq))), .second] [(.long (((((os + (oc / fq)) + (v0 / fq)) + (((oc - oc / fq * fq) + (v0 - v0 / fq * fq)) / fq)) * (1000000000 : Int64)) + (((((oc - oc / fq * fq) + (v0 - v0 / fq * fq)) - ((oc - oc / fq * fq) + (v0 - v0 / fq * fq)) / fq * fq) * (1000000000 : Int64)) / fq)))]))
    exact Goes.fin X36 hlk (v := some (.long (((((os + (oc / fq)) + (v0 / fq)) + (((oc - oc / fq * fq) + (v0 - v0 / fq * fq)) / fq)) * (1000000000 : Int64)) + (((((oc - oc / fq * fq) + (v0 - v0 / fq * fq)) - ((oc - oc / fq * fq) + (v0 - v0 / fq * fq)) / fq * fq) * (1000000000 : Int64)) / fq)))) (fun h => by rw [Bd.returns] at h; cases h) (fun fs hr => retOut X36 hx Bd.returns (by rfl) (Or.inr (Or.inl ⟨rfl, rfl, _, rfl⟩)) (hb hby d4_104) hr) ⟨congrArg (fun z => some (Value.long z)) (by rw [f4, if_neg hc24] : (((((os + (oc / fq)) + (v0 / fq)) + (((oc - oc / fq * fq) + (v0 - v0 / fq * fq)) / fq)) * (1000000000 : Int64)) + (((((oc - oc / fq * fq) + (v0 - v0 / fq * fq)) - ((oc - oc / fq * fq) + (v0 - v0 / fq * fq)) / fq * fq) * (1000000000 : Int64)) / fq)) = f4 fq os oc v0), N0, e36⟩ (by decide) (by decide)
theorem own_wS {Z : State} {a0 : Array Value} (hw : ∀ d ∈ tables_1, d.before a0 Z = true) : ∀ c ∈ Bundle.stringAtoms, c.before a0 Z = true := fun c hc =>
  hw c (by simpa using (List.all_eq_true.mp (by decide +kernel : (Bundle.stringAtoms.all fun c => tables_1.contains c) = true)) c hc)
theorem own_f1 (u : Int64) : 1 ≤ ((1 : Int64) + (u &&& (1023 : Int64))).toInt ∧ ((1 : Int64) + (u &&& (1023 : Int64))).toInt ≤ 9223372036 := by
  have m := c_maskL u 1023 10 (by decide) (by decide)
  have a := c_ladd 1 (u &&& 1023)
  have r := rng64 (1 + (u &&& 1023))
  rw [show (1 : Int64).toInt = 1 from rfl] at a
  rw [show ((2 ^ 10 : Nat) : Int) = 1024 by decide] at m
  omega
theorem own_f2 (u : Int64) : 1 ≤ ((1 : Int64) + ((u &&& (9223372036854775807 : Int64)) - (u &&& (9223372036854775807 : Int64)) / (9223372036 : Int64) * (9223372036 : Int64))).toInt ∧ ((1 : Int64) + ((u &&& (9223372036854775807 : Int64)) - (u &&& (9223372036854775807 : Int64)) / (9223372036 : Int64) * (9223372036 : Int64))).toInt ≤ 9223372036 := by
  have m := c_maskL u 9223372036854775807 63 (by decide) (by decide)
  rw [show ((2 ^ 63 : Nat) : Int) = 9223372036854775808 by decide] at m
  have k := (c_lrem (u &&& 9223372036854775807) 9223372036 9223372036 rfl).1 (by omega)
  have a := c_ladd 1 ((u &&& 9223372036854775807) - (u &&& 9223372036854775807) / 9223372036 * 9223372036)
  have r := rng64 (1 + ((u &&& 9223372036854775807) - (u &&& 9223372036854775807) / 9223372036 * 9223372036))
  rw [show (1 : Int64).toInt = 1 from rfl] at a
  omega
theorem own_m62 (u : Int64) : 0 ≤ (u &&& (4611686018427387903 : Int64)).toInt ∧ (u &&& (4611686018427387903 : Int64)).toInt < 4611686018427387904 := by
  have m := c_maskL u 4611686018427387903 62 (by decide) (by decide)
  rw [show ((2 ^ 62 : Nat) : Int) = 4611686018427387904 by decide] at m
  omega
theorem own_m32 (u : Int64) : 0 ≤ (u &&& (4294967295 : Int64)).toInt ∧ (u &&& (4294967295 : Int64)).toInt < 4611686018427387904 := by
  have m := c_maskL u 4294967295 32 (by decide) (by decide)
  rw [show ((2 ^ 32 : Nat) : Int) = 4294967296 by decide] at m
  omega
theorem own_nz {f : Int64} (h : 1 ≤ f.toInt ∧ f.toInt ≤ 9223372036) : f ≠ 0 := fun q => by rw [q] at h; exact absurd h.1 (by decide)
theorem own_nm {f : Int64} (h : 1 ≤ f.toInt ∧ f.toInt ≤ 9223372036) : f ≠ -1 := fun q => by rw [q] at h; exact absurd h.1 (by decide)
theorem own_parts (O V F : Int) (hF : 0 < F) : (O % F + V % F) / F + O / F + V / F = (O + V) / F ∧ (O % F + V % F) % F = (O + V) % F := by
  refine ⟨?_, (Int.add_emod O V F).symm⟩
  have e : O + V = (O % F + V % F) + F * (O / F + V / F) := by
    have h1 := Int.emod_add_mul_ediv O F
    have h2 := Int.emod_add_mul_ediv V F
    rw [Int.mul_add]; omega
  rw [e, Int.add_mul_ediv_left _ _ (by omega)]
  omega
theorem own_cancel (A B C : Int64) : A + B + (C - B) = A + C := by
  apply Int64.toInt_inj.mp
  have a1 := c_ladd A B
  have a2 := c_lsub C B
  have a3 := c_ladd (A + B) (C - B)
  have a4 := c_ladd A C
  have b1 := rng64 (A + B + (C - B))
  have b2 := rng64 (A + C)
  omega
theorem own_law (fq os oc v0 : Int64) (hf : 1 ≤ fq.toInt ∧ fq.toInt ≤ 9223372036) (ho : 0 ≤ oc.toInt ∧ oc.toInt < 4611686018427387904) (hv : 0 ≤ v0.toInt ∧ v0.toInt < 4611686018427387904) :
    f4 fq os oc v0 = (((os + ((oc + v0) / fq)) * (1000000000 : Int64)) + ((((oc + v0) - (oc + v0) / fq * fq) * (1000000000 : Int64)) / fq)) := by
  have ec : (oc + v0).toInt = oc.toInt + v0.toInt := by
    have a := c_ladd oc v0
    have r := rng64 (oc + v0)
    omega
  have hF : 0 < fq.toInt := by omega
  have dc := (c_ldiv (oc + v0) fq fq.toInt rfl (own_nm hf)).1 (by omega)
  have mc := (c_lrem (oc + v0) fq fq.toInt rfl).1 (by omega)
  rw [ec] at dc mc
  by_cases h : fq = 1000000000
  · rw [f4, if_pos h]
    subst h
    have kG : (1000000000 : Int64).toInt = 1000000000 := rfl
    rw [kG] at dc mc
    generalize hq : (oc + v0) / 1000000000 = q at dc mc ⊢
    generalize hr : (oc + v0) - q * 1000000000 = r at mc ⊢
    have e1 := c_lmul r 1000000000
    have t1 := rng64 (r * 1000000000)
    rw [kG] at e1
    have e1' : (r * 1000000000).toInt = r.toInt * 1000000000 := by omega
    have e2 := (c_ldiv (r * 1000000000) 1000000000 1000000000 rfl (by decide)).1 (by omega)
    have e3 : r * 1000000000 / 1000000000 = r := by
      apply Int64.toInt_inj.mp
      rw [e2, e1', Int.mul_ediv_cancel _ (by decide)]
    clear e2 e1' e1 t1
    rw [e3, ← hr, Int64.add_mul]
    clear e3
    rw [own_cancel, Int64.add_assoc]
  · rw [f4, if_neg h]
    have d1 := (c_ldiv oc fq fq.toInt rfl (own_nm hf)).1 ho.1
    have d2 := (c_ldiv v0 fq fq.toInt rfl (own_nm hf)).1 hv.1
    have m1 := (c_lrem oc fq fq.toInt rfl).1 ho.1
    have m2 := (c_lrem v0 fq fq.toInt rfl).1 hv.1
    have n1 := Int.emod_nonneg oc.toInt (b := fq.toInt) (by omega)
    have n2 := Int.emod_lt_of_pos oc.toInt hF
    have n3 := Int.emod_nonneg v0.toInt (b := fq.toInt) (by omega)
    have n4 := Int.emod_lt_of_pos v0.toInt hF
    have et : ((oc - oc / fq * fq) + (v0 - v0 / fq * fq)).toInt = oc.toInt % fq.toInt + v0.toInt % fq.toInt := by
      have a := c_ladd (oc - oc / fq * fq) (v0 - v0 / fq * fq)
      have r := rng64 ((oc - oc / fq * fq) + (v0 - v0 / fq * fq))
      omega
    generalize ((oc - oc / fq * fq) + (v0 - v0 / fq * fq)) = tk at et ⊢
    have d3 := (c_ldiv tk fq fq.toInt rfl (own_nm hf)).1 (by omega)
    have m3 := (c_lrem tk fq fq.toInt rfl).1 (by omega)
    obtain ⟨p1, p2⟩ := own_parts oc.toInt v0.toInt fq.toInt hF
    rw [et] at d3 m3
    have em : tk - tk / fq * fq = (oc + v0) - (oc + v0) / fq * fq := Int64.toInt_inj.mp (by rw [m3, mc, p2])
    have es : ((os + (oc / fq)) + (v0 / fq)) + (tk / fq) = os + ((oc + v0) / fq) := by
      apply Int64.toInt_inj.mp
      have a1 := c_ladd os (oc / fq)
      have a2 := c_ladd (os + oc / fq) (v0 / fq)
      have a3 := c_ladd (os + oc / fq + v0 / fq) (tk / fq)
      have a4 := c_ladd os ((oc + v0) / fq)
      have b1 := rng64 (os + oc / fq + v0 / fq + tk / fq)
      have b2 := rng64 (os + (oc + v0) / fq)
      omega
    rw [em, es]
theorem pn_2 : plainName "com/example/preemptlens/preemptlens/ctf/ClockToNanosPinLaw" = true := by first | (simp [plainName, overriddenIn]; done) | decide +kernel
theorem pd_1 : parseMethodDescriptor "(Ljava/lang/String;JJJ)V" = some ⟨[(.object "java/lang/String"), .long, .long, .long], none⟩ := by decide +kernel
theorem pd_2 : parseMethodDescriptor "(J)J" = some ⟨[.long], some .long⟩ := by decide +kernel
theorem ef_0 (m : MethodId) (u0 : Int32) (u1 : Int64) (u2 : Int64) (u3 : Int64) (u4 : Int64) : entryFrame m #[(.int u0), (.long u1), (.long u2), (.long u3), (.long u4)] maxLocals = mkF m 0 #[.val (.int u0), .val (.long u1), .second, .val (.long u2), .second, .val (.long u3), .second, .val (.long u4), .second, .unset, .unset, .unset, .unset, .unset, .unset, .unset, .unset, .unset, .unset, .unset, .unset] [] := by first | (simp [entryFrame, mkF, argsToLocals, Value.category, maxLocals]; done) | rfl
def Q0 (n0 : Nat) (v : Option Value) (h : Heap) (L : List Loc) : Prop := v = some (.int 1) ∧ Fr n0 L
set_option maxRecDepth 65536 in
set_option maxHeartbeats 40000000 in
theorem rm0 (l : Launch) (Z : State) (a0 : Array Value) (hw : ∀ d ∈ tables_1, d.before a0 Z = true) (ws : List Jvm.Cond) (u0 : Int32) (u1 : Int64) (u2 : Int64) (u3 : Int64) (u4 : Int64) (h0 : Heap) (n0 : Nat) (Z0 : n0 ≤ h0.size) :
    MetFree l x (head1 (Jvm.Cond.code x code maxLocals ret :: ws) room_1) (fun ar' Ur => ar' = #[(.int u0), (.long u1), (.long u2), (.long u3), (.long u4)] ∧ Z.Warmed39 Ur.vm ∧ Ur.heap = h0) (fun _ _ _ _ _ => True) (fun _ Ur or' Us => ∃ v L, or' = .returned v ∧ Q0 n0 v Us.heap L ∧ ReturnedEndW Ur or' Us L room_1.cells room_1.slots) := by
  refine MetFree.of_bodySF (plainFor_of_name pn_2) hisR ?_
  intro p e s m args below meth c s₁ Bd hml0 hP hK
  obtain ⟨rfl, hZ, hh⟩ := hP
  have hx := Bd.exec
  have hby := Bd.bytes
  have hlk : meth.locks = false := BodyLoose.notSynchronized Bd
  have hml : c.maxLocals = 21 := hml0
  have hown : s.vm.findClass "com/example/preemptlens/preemptlens/ctf/ClockToNanosPinLaw" = some m.cls := findClass_of_methodNamed Bd.named
  have hnm := (name_of_methodNamed Bd.named Bd.method).1
  have X0 : Stand p l e room_1 s m #[(.int u0), (.long u1), (.long u2), (.long u3), (.long u4)] below meth c s₁ [] 0 0 := Stand.of_body Bd
  have e0 : s₁.heap = h0 := by rw [← hh, Bd.state]; rfl
  have N0 := Fr.nil n0
  show GoesW p.tables e below s (Q0 n0) room_1.cells room_1.slots (s₁.setTop (entryFrame m #[(.int u0), (.long u1), (.long u2), (.long u3), (.long u4)] maxLocals))
  refine GoesW.of (fun t k => castTop (ef_0 m u0 u1 u2 u3 u4) k) ?_
  show GoesW _ _ _ _ _ _ _ (s₁.setTop (mkF m 0 #[.val (.int u0), .val (.long u1), .second, .val (.long u2), .second, .val (.long u3), .second, .val (.long u4), .second, .unset, .unset, .unset, .unset, .unset, .unset, .unset, .unset, .unset, .unset, .unset, .unset] []))
  refine GoesW.of (fun t k => XS.iloadN X0.here hx rfl (hb hby at_0) rfl k) ?_
  show GoesW _ _ _ _ _ _ _ (s₁.setTop (mkF m 1 #[.val (.int u0), .val (.long u1), .second, .val (.long u2), .second, .val (.long u3), .second, .val (.long u4), .second, .unset, .unset, .unset, .unset, .unset, .unset, .unset, .unset, .unset, .unset, .unset, .unset] [(.int u0)]))
  refine GoesW.of (fun t k => XS.iconst X0.here hx rfl (hb hby at_1) k) ?_
  show GoesW _ _ _ _ _ _ _ (s₁.setTop (mkF m 2 #[.val (.int u0), .val (.long u1), .second, .val (.long u2), .second, .val (.long u3), .second, .val (.long u4), .second, .unset, .unset, .unset, .unset, .unset, .unset, .unset, .unset, .unset, .unset, .unset, .unset] [(.int (3 : Int32)), (.int u0)]))
  refine GoesW.of (fun t k => XS.iand X0.here hx rfl (hb hby at_2) rfl k) ?_
  show GoesW _ _ _ _ _ _ _ (s₁.setTop (mkF m 3 #[.val (.int u0), .val (.long u1), .second, .val (.long u2), .second, .val (.long u3), .second, .val (.long u4), .second, .unset, .unset, .unset, .unset, .unset, .unset, .unset, .unset, .unset, .unset, .unset, .unset] [(.int (u0 &&& (3 : Int32)))]))
  refine GoesW.of (fun t k => XS.istore X0.here hx rfl (hb hby at_3) rfl (l' := #[.val (.int u0), .val (.long u1), .second, .val (.long u2), .second, .val (.long u3), .second, .val (.long u4), .second, .unset, .unset, .val (.int (u0 &&& (3 : Int32))), .unset, .unset, .unset, .unset, .unset, .unset, .unset, .unset, .unset]) rfl k) ?_
  show GoesW _ _ _ _ _ _ _ (s₁.setTop (mkF m 5 #[.val (.int u0), .val (.long u1), .second, .val (.long u2), .second, .val (.long u3), .second, .val (.long u4), .second, .unset, .unset, .val (.int (u0 &&& (3 : Int32))), .unset, .unset, .unset, .unset, .unset, .unset, .unset, .unset, .unset] []))
  have j37 : ∀ (T37 : State) (lc37 : List Loc) (fq : Int64), Stand p l e room_1 s m #[(.int u0), (.long u1), (.long u2), (.long u3), (.long u4)] below meth c T37 lc37 0 0 → T37.heap = h0 → Fr n0 lc37 → (1 ≤ fq.toInt ∧ fq.toInt ≤ 9223372036) → GoesW p.tables e below s (Q0 n0) room_1.cells room_1.slots (T37.setTop (mkF m 49 #[.val (.int u0), .val (.long u1), .second, .val (.long u2), .second, .val (.long u3), .second, .val (.long u4), .second, .val (.long fq), .second, .val (.int (u0 &&& (3 : Int32))), .unset, .unset, .unset, .unset, .unset, .unset, .unset, .unset, .unset] [])) := by
    intro T37 lc37 fq X37 e37 N37 hg37_fq_0
    show GoesW _ _ _ _ _ _ _ (T37.setTop (mkF m 49 #[.val (.int u0), .val (.long u1), .second, .val (.long u2), .second, .val (.long u3), .second, .val (.long u4), .second, .val (.long fq), .second, .val (.int (u0 &&& (3 : Int32))), .unset, .unset, .unset, .unset, .unset, .unset, .unset, .unset, .unset] []))
    have hf := hg37_fq_0
    have hfq := own_nz hf
    refine GoesW.of (fun t k => XS.lload X37.here hx rfl (hb hby at_49) rfl k) ?_
    show GoesW _ _ _ _ _ _ _ (T37.setTop (mkF m 51 #[.val (.int u0), .val (.long u1), .second, .val (.long u2), .second, .val (.long u3), .second, .val (.long u4), .second, .val (.long fq), .second, .val (.int (u0 &&& (3 : Int32))), .unset, .unset, .unset, .unset, .unset, .unset, .unset, .unset, .unset] [(.long u3)]))
    refine GoesW.of (fun t k => X37.ldc2Long hx hown (mvT hZ (hw _ (List.mem_of_getElem? (i := 1) rfl))) (g := (mkF m 51 #[.val (.int u0), .val (.long u1), .second, .val (.long u2), .second, .val (.long u3), .second, .val (.long u4), .second, .val (.long fq), .second, .val (.int (u0 &&& (3 : Int32))), .unset, .unset, .unset, .unset, .unset, .unset, .unset, .unset, .unset] [(.long u3)])) rfl (hb hby at_51) t k) ?_
    show GoesW _ _ _ _ _ _ _ (T37.setTop (mkF m 54 #[.val (.int u0), .val (.long u1), .second, .val (.long u2), .second, .val (.long u3), .second, .val (.long u4), .second, .val (.long fq), .second, .val (.int (u0 &&& (3 : Int32))), .unset, .unset, .unset, .unset, .unset, .unset, .unset, .unset, .unset] [(.long (4611686018427387903 : Int64)), (.long u3)]))
    refine GoesW.of (fun t k => XS.land X37.here hx rfl (hb hby at_54) rfl k) ?_
    show GoesW _ _ _ _ _ _ _ (T37.setTop (mkF m 55 #[.val (.int u0), .val (.long u1), .second, .val (.long u2), .second, .val (.long u3), .second, .val (.long u4), .second, .val (.long fq), .second, .val (.int (u0 &&& (3 : Int32))), .unset, .unset, .unset, .unset, .unset, .unset, .unset, .unset, .unset] [(.long (u3 &&& (4611686018427387903 : Int64)))]))
    refine GoesW.of (fun t k => XS.lstore X37.here hx rfl (hb hby at_55) rfl (l' := #[.val (.int u0), .val (.long u1), .second, .val (.long u2), .second, .val (.long u3), .second, .val (.long u4), .second, .val (.long fq), .second, .val (.int (u0 &&& (3 : Int32))), .val (.long (u3 &&& (4611686018427387903 : Int64))), .second, .unset, .unset, .unset, .unset, .unset, .unset, .unset]) rfl k) ?_
    show GoesW _ _ _ _ _ _ _ (T37.setTop (mkF m 57 #[.val (.int u0), .val (.long u1), .second, .val (.long u2), .second, .val (.long u3), .second, .val (.long u4), .second, .val (.long fq), .second, .val (.int (u0 &&& (3 : Int32))), .val (.long (u3 &&& (4611686018427387903 : Int64))), .second, .unset, .unset, .unset, .unset, .unset, .unset, .unset] []))
    obtain ⟨oc, hy_oc⟩ : ∃ z, z = (u3 &&& (4611686018427387903 : Int64)) := ⟨_, rfl⟩
    rw [← hy_oc]
    show GoesW _ _ _ _ _ _ _ (T37.setTop (mkF m 57 #[.val (.int u0), .val (.long u1), .second, .val (.long u2), .second, .val (.long u3), .second, .val (.long u4), .second, .val (.long fq), .second, .val (.int (u0 &&& (3 : Int32))), .val (.long oc), .second, .unset, .unset, .unset, .unset, .unset, .unset, .unset] []))
    have ho := own_m62 u3
    rw [← hy_oc] at ho
    refine GoesW.of (fun t k => XS.lload X37.here hx rfl (hb hby at_57) rfl k) ?_
    show GoesW _ _ _ _ _ _ _ (T37.setTop (mkF m 59 #[.val (.int u0), .val (.long u1), .second, .val (.long u2), .second, .val (.long u3), .second, .val (.long u4), .second, .val (.long fq), .second, .val (.int (u0 &&& (3 : Int32))), .val (.long oc), .second, .unset, .unset, .unset, .unset, .unset, .unset, .unset] [(.long u4)]))
    refine GoesW.of (fun t k => X37.ldc2Long hx hown (mvT hZ (hw _ (List.mem_of_getElem? (i := 1) rfl))) (g := (mkF m 59 #[.val (.int u0), .val (.long u1), .second, .val (.long u2), .second, .val (.long u3), .second, .val (.long u4), .second, .val (.long fq), .second, .val (.int (u0 &&& (3 : Int32))), .val (.long oc), .second, .unset, .unset, .unset, .unset, .unset, .unset, .unset] [(.long u4)])) rfl (hb hby at_59) t k) ?_
    show GoesW _ _ _ _ _ _ _ (T37.setTop (mkF m 62 #[.val (.int u0), .val (.long u1), .second, .val (.long u2), .second, .val (.long u3), .second, .val (.long u4), .second, .val (.long fq), .second, .val (.int (u0 &&& (3 : Int32))), .val (.long oc), .second, .unset, .unset, .unset, .unset, .unset, .unset, .unset] [(.long (4611686018427387903 : Int64)), (.long u4)]))
    refine GoesW.of (fun t k => XS.land X37.here hx rfl (hb hby at_62) rfl k) ?_
    show GoesW _ _ _ _ _ _ _ (T37.setTop (mkF m 63 #[.val (.int u0), .val (.long u1), .second, .val (.long u2), .second, .val (.long u3), .second, .val (.long u4), .second, .val (.long fq), .second, .val (.int (u0 &&& (3 : Int32))), .val (.long oc), .second, .unset, .unset, .unset, .unset, .unset, .unset, .unset] [(.long (u4 &&& (4611686018427387903 : Int64)))]))
    refine GoesW.of (fun t k => XS.lstore X37.here hx rfl (hb hby at_63) rfl (l' := #[.val (.int u0), .val (.long u1), .second, .val (.long u2), .second, .val (.long u3), .second, .val (.long u4), .second, .val (.long fq), .second, .val (.int (u0 &&& (3 : Int32))), .val (.long oc), .second, .val (.long (u4 &&& (4611686018427387903 : Int64))), .second, .unset, .unset, .unset, .unset, .unset]) rfl k) ?_
    show GoesW _ _ _ _ _ _ _ (T37.setTop (mkF m 65 #[.val (.int u0), .val (.long u1), .second, .val (.long u2), .second, .val (.long u3), .second, .val (.long u4), .second, .val (.long fq), .second, .val (.int (u0 &&& (3 : Int32))), .val (.long oc), .second, .val (.long (u4 &&& (4611686018427387903 : Int64))), .second, .unset, .unset, .unset, .unset, .unset] []))
    obtain ⟨v1, hy_v1⟩ : ∃ z, z = (u4 &&& (4611686018427387903 : Int64)) := ⟨_, rfl⟩
    rw [← hy_v1]
    show GoesW _ _ _ _ _ _ _ (T37.setTop (mkF m 65 #[.val (.int u0), .val (.long u1), .second, .val (.long u2), .second, .val (.long u3), .second, .val (.long u4), .second, .val (.long fq), .second, .val (.int (u0 &&& (3 : Int32))), .val (.long oc), .second, .val (.long v1), .second, .unset, .unset, .unset, .unset, .unset] []))
    have hv1 := own_m62 u4
    rw [← hy_v1] at hv1
    have j38 : ∀ (T38 : State) (lc38 : List Loc) (vv : Int64), Stand p l e room_1 s m #[(.int u0), (.long u1), (.long u2), (.long u3), (.long u4)] below meth c T38 lc38 0 0 → T38.heap = h0 → Fr n0 lc38 → (0 ≤ vv.toInt ∧ vv.toInt < 4611686018427387904) → GoesW p.tables e below s (Q0 n0) room_1.cells room_1.slots (T38.setTop (mkF m 79 #[.val (.int u0), .val (.long u1), .second, .val (.long u2), .second, .val (.long u3), .second, .val (.long u4), .second, .val (.long fq), .second, .val (.int (u0 &&& (3 : Int32))), .val (.long oc), .second, .val (.long vv), .second, .unset, .unset, .unset, .unset, .unset] [])) := by
      intro T38 lc38 vv X38 e38 N38 hg38_vv_0
      show GoesW _ _ _ _ _ _ _ (T38.setTop (mkF m 79 #[.val (.int u0), .val (.long u1), .second, .val (.long u2), .second, .val (.long u3), .second, .val (.long u4), .second, .val (.long fq), .second, .val (.int (u0 &&& (3 : Int32))), .val (.long oc), .second, .val (.long vv), .second, .unset, .unset, .unset, .unset, .unset] []))
      have hv := hg38_vv_0
      obtain ⟨T39, h39, X39, e39, E39, A39, D39, -, st39⟩ := newO X38 hx hZ hown (hw _ (List.mem_of_getElem? (i := 2) rfl)) (hw _ (List.mem_of_getElem? (i := 3) rfl)) (hw _ (List.mem_of_getElem? (i := 4) rfl)) e38 (g := (mkF m 79 #[.val (.int u0), .val (.long u1), .second, .val (.long u2), .second, .val (.long u3), .second, .val (.long u4), .second, .val (.long fq), .second, .val (.int (u0 &&& (3 : Int32))), .val (.long oc), .second, .val (.long vv), .second, .unset, .unset, .unset, .unset, .unset] [])) rfl (hb hby at_79) (by decide) (by decide)
      obtain ⟨b39, g39⟩ : ∃ z, z = h0.size := ⟨_, rfl⟩
      rw [← g39] at A39 D39 st39
      have g_b39 : n0 ≤ b39 := Nat.le_trans Z0 (Nat.le_of_eq g39.symm)
      have Z39 : n0 ≤ h39.size := Nat.le_trans Z0 E39.1
      have F_name_b39 : Fld Z h39 b39 "com/example/preemptlens/preemptlens/ctf/Clock" "name" "Ljava/lang/String;" .null := D39 (Or.inr (hw _ (List.mem_of_getElem? (i := 25) rfl))) (ty := (.object "java/lang/String")) (by decide)
      have F_frequency_b39 : Fld Z h39 b39 "com/example/preemptlens/preemptlens/ctf/Clock" "frequency" "J" (.long (0 : Int64)) := D39 (Or.inr (hw _ (List.mem_of_getElem? (i := 27) rfl))) (ty := .long) (by decide)
      have F_offsetSeconds_b39 : Fld Z h39 b39 "com/example/preemptlens/preemptlens/ctf/Clock" "offsetSeconds" "J" (.long (0 : Int64)) := D39 (Or.inr (hw _ (List.mem_of_getElem? (i := 29) rfl))) (ty := .long) (by decide)
      have F_offsetCycles_b39 : Fld Z h39 b39 "com/example/preemptlens/preemptlens/ctf/Clock" "offsetCycles" "J" (.long (0 : Int64)) := D39 (Or.inr (hw _ (List.mem_of_getElem? (i := 31) rfl))) (ty := .long) (by decide)
      refine GoesW.of st39 ?_
      show GoesW _ _ _ _ _ _ _ (T39.setTop (mkF m 82 #[.val (.int u0), .val (.long u1), .second, .val (.long u2), .second, .val (.long u3), .second, .val (.long u4), .second, .val (.long fq), .second, .val (.int (u0 &&& (3 : Int32))), .val (.long oc), .second, .val (.long vv), .second, .unset, .unset, .unset, .unset, .unset] [(.ref b39)]))
      refine GoesW.of (fun t k => XS.dup X39.here hx rfl (hb hby at_82) rfl rfl k) ?_
      show GoesW _ _ _ _ _ _ _ (T39.setTop (mkF m 83 #[.val (.int u0), .val (.long u1), .second, .val (.long u2), .second, .val (.long u3), .second, .val (.long u4), .second, .val (.long fq), .second, .val (.int (u0 &&& (3 : Int32))), .val (.long oc), .second, .val (.long vv), .second, .unset, .unset, .unset, .unset, .unset] [(.ref b39), (.ref b39)]))
      obtain ⟨sa, T40, h40, k1, X40, e40, E40, hSw, hkw, hZ, hown, st40⟩ := ldcS (s := s) (vm0 := s.vm) X39 hx hZ hown (hw _ (List.mem_of_getElem? (i := 5) rfl)) (own_wS hw) e39 ((State.WarmedH.refl s).since n0) Z39 (g := (mkF m 83 #[.val (.int u0), .val (.long u1), .second, .val (.long u2), .second, .val (.long u3), .second, .val (.long u4), .second, .val (.long fq), .second, .val (.int (u0 &&& (3 : Int32))), .val (.long oc), .second, .val (.long vv), .second, .unset, .unset, .unset, .unset, .unset] [(.ref b39), (.ref b39)])) rfl (hb hby at_83) (n := 4) (by decide) (by decide) (by decide) (by decide)
      have F41 := Exa.ext E40 A39
      have F42 := Fld.ext E40 F_name_b39
      have F43 := Fld.ext E40 F_frequency_b39
      have F44 := Fld.ext E40 F_offsetSeconds_b39
      have F45 := Fld.ext E40 F_offsetCycles_b39
      have Z40 : n0 ≤ h40.size := Nat.le_trans Z39 E40.1
      refine GoesW.of st40 ?_
      show GoesW _ _ _ _ _ _ _ (T40.setTop (mkF m 85 #[.val (.int u0), .val (.long u1), .second, .val (.long u2), .second, .val (.long u3), .second, .val (.long u4), .second, .val (.long fq), .second, .val (.int (u0 &&& (3 : Int32))), .val (.long oc), .second, .val (.long vv), .second, .unset, .unset, .unset, .unset, .unset] [(.ref sa), (.ref b39), (.ref b39)]))
      refine GoesW.of (fun t k => XS.lload X40.here hx rfl (hb hby at_85) rfl k) ?_
      show GoesW _ _ _ _ _ _ _ (T40.setTop (mkF m 87 #[.val (.int u0), .val (.long u1), .second, .val (.long u2), .second, .val (.long u3), .second, .val (.long u4), .second, .val (.long fq), .second, .val (.int (u0 &&& (3 : Int32))), .val (.long oc), .second, .val (.long vv), .second, .unset, .unset, .unset, .unset, .unset] [(.long fq), (.ref sa), (.ref b39), (.ref b39)]))
      refine GoesW.of (fun t k => XS.lloadN X40.here hx rfl (hb hby at_87) rfl k) ?_
      show GoesW _ _ _ _ _ _ _ (T40.setTop (mkF m 88 #[.val (.int u0), .val (.long u1), .second, .val (.long u2), .second, .val (.long u3), .second, .val (.long u4), .second, .val (.long fq), .second, .val (.int (u0 &&& (3 : Int32))), .val (.long oc), .second, .val (.long vv), .second, .unset, .unset, .unset, .unset, .unset] [(.long u2), (.long fq), (.ref sa), (.ref b39), (.ref b39)]))
      refine GoesW.of (fun t k => XS.lload X40.here hx rfl (hb hby at_88) rfl k) ?_
      show GoesW _ _ _ _ _ _ _ (T40.setTop (mkF m 90 #[.val (.int u0), .val (.long u1), .second, .val (.long u2), .second, .val (.long u3), .second, .val (.long u4), .second, .val (.long fq), .second, .val (.int (u0 &&& (3 : Int32))), .val (.long oc), .second, .val (.long vv), .second, .unset, .unset, .unset, .unset, .unset] [(.long oc), (.long u2), (.long fq), (.ref sa), (.ref b39), (.ref b39)]))
      obtain ⟨_, _, ⟨T46, L46, k46, n46⟩, -, X46, ⟨Lc46, hQ46, l46, y46, z46⟩, st46⟩ := X40.specialBack hx (y := (⟨"com/example/preemptlens/preemptlens/ctf/Clock", "<init>", "(Ljava/lang/String;JJJ)V"⟩ : MethodName)) rfl hown (mvT hZ (hw _ (List.mem_of_getElem? (i := 13) rfl))) (mvT hZ (hw _ (List.mem_of_getElem? (i := 14) rfl))) (mvT hZ (hw _ (List.mem_of_getElem? (i := 15) rfl))) (by decide) (backOf (W := 1) (rm1 l Z a0 hw [] b39 sa fq u2 oc  h40 n0 Z40 F41 g_b39 F42 F43 F44 F45) hZ (hw _ (List.mem_of_getElem? (i := 15) rfl)) (hw _ (List.mem_of_getElem? (i := 4) rfl)) (by decide) (by decide)) (g := (mkF m 90 #[.val (.int u0), .val (.long u1), .second, .val (.long u2), .second, .val (.long u3), .second, .val (.long u4), .second, .val (.long fq), .second, .val (.int (u0 &&& (3 : Int32))), .val (.long oc), .second, .val (.long vv), .second, .unset, .unset, .unset, .unset, .unset] [(.long oc), (.long u2), (.long fq), (.ref sa), (.ref b39), (.ref b39)])) rfl (by rw [hml]; rfl) (Steps.refl _) (a := b39) (argsL := [(.ref sa), (.long fq), (.long u2), (.long oc)]) (rest := [(.ref b39)]) (lenOf pd_1 rfl) rfl (by show 2 * 0 + _ ≤ _; exact Nat.le_of_eq rfl) (hb hby at_90) (fun _ _ => ⟨rfl, e40, (by decide : 3 + 0 ≤ _), (by decide : 12 + 0 ≤ _)⟩)
      dsimp only [Pt.U, Pt.locs, Pt.cells, Pt.slots] at X46 l46 y46 z46 st46 hQ46
      subst l46 y46 z46
      obtain ⟨rfl, N46q, K46, F146, F246, F346⟩ := hQ46
      have F47 := F41.keep K46
      have Z46 : n0 ≤ T46.heap.size := Nat.le_trans Z40 K46.1
      have hkw := Nat.le_trans hkw K46.1
      have N46 := Fr.app N38 N46q
      refine GoesW.of (fun t k => st46.trans k) ?_
      show GoesW _ _ _ _ _ _ _ (T46.setTop (mkF m 93 #[.val (.int u0), .val (.long u1), .second, .val (.long u2), .second, .val (.long u3), .second, .val (.long u4), .second, .val (.long fq), .second, .val (.int (u0 &&& (3 : Int32))), .val (.long oc), .second, .val (.long vv), .second, .unset, .unset, .unset, .unset, .unset] [(.ref b39)]))
      refine GoesW.of (fun t k => XS.astore X46.here hx rfl (hb hby at_93) rfl rfl (l' := #[.val (.int u0), .val (.long u1), .second, .val (.long u2), .second, .val (.long u3), .second, .val (.long u4), .second, .val (.long fq), .second, .val (.int (u0 &&& (3 : Int32))), .val (.long oc), .second, .val (.long vv), .second, .val (.ref b39), .unset, .unset, .unset, .unset]) rfl k) ?_
      show GoesW _ _ _ _ _ _ _ (T46.setTop (mkF m 95 #[.val (.int u0), .val (.long u1), .second, .val (.long u2), .second, .val (.long u3), .second, .val (.long u4), .second, .val (.long fq), .second, .val (.int (u0 &&& (3 : Int32))), .val (.long oc), .second, .val (.long vv), .second, .val (.ref b39), .unset, .unset, .unset, .unset] []))
      refine GoesW.of (fun t k => XS.lload X46.here hx rfl (hb hby at_95) rfl k) ?_
      show GoesW _ _ _ _ _ _ _ (T46.setTop (mkF m 97 #[.val (.int u0), .val (.long u1), .second, .val (.long u2), .second, .val (.long u3), .second, .val (.long u4), .second, .val (.long fq), .second, .val (.int (u0 &&& (3 : Int32))), .val (.long oc), .second, .val (.long vv), .second, .val (.ref b39), .unset, .unset, .unset, .unset] [(.long oc)]))
      refine GoesW.of (fun t k => XS.lload X46.here hx rfl (hb hby at_97) rfl k) ?_
      show GoesW _ _ _ _ _ _ _ (T46.setTop (mkF m 99 #[.val (.int u0), .val (.long u1), .second, .val (.long u2), .second, .val (.long u3), .second, .val (.long u4), .second, .val (.long fq), .second, .val (.int (u0 &&& (3 : Int32))), .val (.long oc), .second, .val (.long vv), .second, .val (.ref b39), .unset, .unset, .unset, .unset] [(.long vv), (.long oc)]))
      refine GoesW.of (fun t k => XS.ladd X46.here hx rfl (hb hby at_99) rfl k) ?_
      show GoesW _ _ _ _ _ _ _ (T46.setTop (mkF m 100 #[.val (.int u0), .val (.long u1), .second, .val (.long u2), .second, .val (.long u3), .second, .val (.long u4), .second, .val (.long fq), .second, .val (.int (u0 &&& (3 : Int32))), .val (.long oc), .second, .val (.long vv), .second, .val (.ref b39), .unset, .unset, .unset, .unset] [(.long (oc + vv))]))
      refine GoesW.of (fun t k => XS.lstore X46.here hx rfl (hb hby at_100) rfl (l' := #[.val (.int u0), .val (.long u1), .second, .val (.long u2), .second, .val (.long u3), .second, .val (.long u4), .second, .val (.long fq), .second, .val (.int (u0 &&& (3 : Int32))), .val (.long oc), .second, .val (.long vv), .second, .val (.ref b39), .val (.long (oc + vv)), .second, .unset, .unset]) rfl k) ?_
      show GoesW _ _ _ _ _ _ _ (T46.setTop (mkF m 102 #[.val (.int u0), .val (.long u1), .second, .val (.long u2), .second, .val (.long u3), .second, .val (.long u4), .second, .val (.long fq), .second, .val (.int (u0 &&& (3 : Int32))), .val (.long oc), .second, .val (.long vv), .second, .val (.ref b39), .val (.long (oc + vv)), .second, .unset, .unset] []))
      refine GoesW.of (fun t k => XS.lloadN X46.here hx rfl (hb hby at_102) rfl k) ?_
      show GoesW _ _ _ _ _ _ _ (T46.setTop (mkF m 103 #[.val (.int u0), .val (.long u1), .second, .val (.long u2), .second, .val (.long u3), .second, .val (.long u4), .second, .val (.long fq), .second, .val (.int (u0 &&& (3 : Int32))), .val (.long oc), .second, .val (.long vv), .second, .val (.ref b39), .val (.long (oc + vv)), .second, .unset, .unset] [(.long u2)]))
      refine GoesW.of (fun t k => XS.lload X46.here hx rfl (hb hby at_103) rfl k) ?_
      show GoesW _ _ _ _ _ _ _ (T46.setTop (mkF m 105 #[.val (.int u0), .val (.long u1), .second, .val (.long u2), .second, .val (.long u3), .second, .val (.long u4), .second, .val (.long fq), .second, .val (.int (u0 &&& (3 : Int32))), .val (.long oc), .second, .val (.long vv), .second, .val (.ref b39), .val (.long (oc + vv)), .second, .unset, .unset] [(.long (oc + vv)), (.long u2)]))
      refine GoesW.of (fun t k => XS.lload X46.here hx rfl (hb hby at_105) rfl k) ?_
      show GoesW _ _ _ _ _ _ _ (T46.setTop (mkF m 107 #[.val (.int u0), .val (.long u1), .second, .val (.long u2), .second, .val (.long u3), .second, .val (.long u4), .second, .val (.long fq), .second, .val (.int (u0 &&& (3 : Int32))), .val (.long oc), .second, .val (.long vv), .second, .val (.ref b39), .val (.long (oc + vv)), .second, .unset, .unset] [(.long fq), (.long (oc + vv)), (.long u2)]))
      refine GoesW.of (fun t k => XS.ldiv X46.here hx rfl (hb hby at_107) rfl hfq k) ?_
      show GoesW _ _ _ _ _ _ _ (T46.setTop (mkF m 108 #[.val (.int u0), .val (.long u1), .second, .val (.long u2), .second, .val (.long u3), .second, .val (.long u4), .second, .val (.long fq), .second, .val (.int (u0 &&& (3 : Int32))), .val (.long oc), .second, .val (.long vv), .second, .val (.ref b39), .val (.long (oc + vv)), .second, .unset, .unset] [(.long ((oc + vv) / fq)), (.long u2)]))
      refine GoesW.of (fun t k => XS.ladd X46.here hx rfl (hb hby at_108) rfl k) ?_
      show GoesW _ _ _ _ _ _ _ (T46.setTop (mkF m 109 #[.val (.int u0), .val (.long u1), .second, .val (.long u2), .second, .val (.long u3), .second, .val (.long u4), .second, .val (.long fq), .second, .val (.int (u0 &&& (3 : Int32))), .val (.long oc), .second, .val (.long vv), .second, .val (.ref b39), .val (.long (oc + vv)), .second, .unset, .unset] [(.long (u2 + ((oc + vv) / fq)))]))
      refine GoesW.of (fun t k => X46.ldc2Long hx hown (mvT hZ (hw _ (List.mem_of_getElem? (i := 0) rfl))) (g := (mkF m 109 #[.val (.int u0), .val (.long u1), .second, .val (.long u2), .second, .val (.long u3), .second, .val (.long u4), .second, .val (.long fq), .second, .val (.int (u0 &&& (3 : Int32))), .val (.long oc), .second, .val (.long vv), .second, .val (.ref b39), .val (.long (oc + vv)), .second, .unset, .unset] [(.long (u2 + ((oc + vv) / fq)))])) rfl (hb hby at_109) t k) ?_
      show GoesW _ _ _ _ _ _ _ (T46.setTop (mkF m 112 #[.val (.int u0), .val (.long u1), .second, .val (.long u2), .second, .val (.long u3), .second, .val (.long u4), .second, .val (.long fq), .second, .val (.int (u0 &&& (3 : Int32))), .val (.long oc), .second, .val (.long vv), .second, .val (.ref b39), .val (.long (oc + vv)), .second, .unset, .unset] [(.long (1000000000 : Int64)), (.long (u2 + ((oc + vv) / fq)))]))
      refine GoesW.of (fun t k => XS.lmul X46.here hx rfl (hb hby at_112) rfl k) ?_
      show GoesW _ _ _ _ _ _ _ (T46.setTop (mkF m 113 #[.val (.int u0), .val (.long u1), .second, .val (.long u2), .second, .val (.long u3), .second, .val (.long u4), .second, .val (.long fq), .second, .val (.int (u0 &&& (3 : Int32))), .val (.long oc), .second, .val (.long vv), .second, .val (.ref b39), .val (.long (oc + vv)), .second, .unset, .unset] [(.long ((u2 + ((oc + vv) / fq)) * (1000000000 : Int64)))]))
      refine GoesW.of (fun t k => XS.lload X46.here hx rfl (hb hby at_113) rfl k) ?_
      show GoesW _ _ _ _ _ _ _ (T46.setTop (mkF m 115 #[.val (.int u0), .val (.long u1), .second, .val (.long u2), .second, .val (.long u3), .second, .val (.long u4), .second, .val (.long fq), .second, .val (.int (u0 &&& (3 : Int32))), .val (.long oc), .second, .val (.long vv), .second, .val (.ref b39), .val (.long (oc + vv)), .second, .unset, .unset] [(.long (oc + vv)), (.long ((u2 + ((oc + vv) / fq)) * (1000000000 : Int64)))]))
      refine GoesW.of (fun t k => XS.lload X46.here hx rfl (hb hby at_115) rfl k) ?_
      show GoesW _ _ _ _ _ _ _ (T46.setTop (mkF m 117 #[.val (.int u0), .val (.long u1), .second, .val (.long u2), .second, .val (.long u3), .second, .val (.long u4), .second, .val (.long fq), .second, .val (.int (u0 &&& (3 : Int32))), .val (.long oc), .second, .val (.long vv), .second, .val (.ref b39), .val (.long (oc + vv)), .second, .unset, .unset] [(.long fq), (.long (oc + vv)), (.long ((u2 + ((oc + vv) / fq)) * (1000000000 : Int64)))]))
      refine GoesW.of (fun t k => XS.lrem X46.here hx rfl (hb hby at_117) rfl hfq k) ?_
      show GoesW _ _ _ _ _ _ _ (T46.setTop (mkF m 118 #[.val (.int u0), .val (.long u1), .second, .val (.long u2), .second, .val (.long u3), .second, .val (.long u4), .second, .val (.long fq), .second, .val (.int (u0 &&& (3 : Int32))), .val (.long oc), .second, .val (.long vv), .second, .val (.ref b39), .val (.long (oc + vv)), .second, .unset, .unset] [(.long ((oc + vv) - (oc + vv) / fq * fq)), (.long ((u2 + ((oc + vv) / fq)) * (1000000000 : Int64)))]))
      refine GoesW.of (fun t k => X46.ldc2Long hx hown (mvT hZ (hw _ (List.mem_of_getElem? (i := 0) rfl))) (g := (mkF m 118 #[.val (.int u0), .val (.long u1), .second, .val (.long u2), .second, .val (.long u3), .second, .val (.long u4), .second, .val (.long fq), .second, .val (.int (u0 &&& (3 : Int32))), .val (.long oc), .second, .val (.long vv), .second, .val (.ref b39), .val (.long (oc + vv)), .second, .unset, .unset] [(.long ((oc + vv) - (oc + vv) / fq * fq)), (.long ((u2 + ((oc + vv) / fq)) * (1000000000 : Int64)))])) rfl (hb hby at_118) t k) ?_
      show GoesW _ _ _ _ _ _ _ (T46.setTop (mkF m 121 #[.val (.int u0), .val (.long u1), .second, .val (.long u2), .second, .val (.long u3), .second, .val (.long u4), .second, .val (.long fq), .second, .val (.int (u0 &&& (3 : Int32))), .val (.long oc), .second, .val (.long vv), .second, .val (.ref b39), .val (.long (oc + vv)), .second, .unset, .unset] [(.long (1000000000 : Int64)), (.long ((oc + vv) - (oc + vv) / fq * fq)), (.long ((u2 + ((oc + vv) / fq)) * (1000000000 : Int64)))]))
      refine GoesW.of (fun t k => XS.lmul X46.here hx rfl (hb hby at_121) rfl k) ?_
      show GoesW _ _ _ _ _ _ _ (T46.setTop (mkF m 122 #[.val (.int u0), .val (.long u1), .second, .val (.long u2), .second, .val (.long u3), .second, .val (.long u4), .second, .val (.long fq), .second, .val (.int (u0 &&& (3 : Int32))), .val (.long oc), .second, .val (.long vv), .second, .val (.ref b39), .val (.long (oc + vv)), .second, .unset, .unset] [(.long (((oc + vv) - (oc + vv) / fq * fq) * (1000000000 : Int64))), (.long ((u2 + ((oc + vv) / fq)) * (1000000000 : Int64)))]))
      refine GoesW.of (fun t k => XS.lload X46.here hx rfl (hb hby at_122) rfl k) ?_
      show GoesW _ _ _ _ _ _ _ (T46.setTop (mkF m 124 #[.val (.int u0), .val (.long u1), .second, .val (.long u2), .second, .val (.long u3), .second, .val (.long u4), .second, .val (.long fq), .second, .val (.int (u0 &&& (3 : Int32))), .val (.long oc), .second, .val (.long vv), .second, .val (.ref b39), .val (.long (oc + vv)), .second, .unset, .unset] [(.long fq), (.long (((oc + vv) - (oc + vv) / fq * fq) * (1000000000 : Int64))), (.long ((u2 + ((oc + vv) / fq)) * (1000000000 : Int64)))]))
      refine GoesW.of (fun t k => XS.ldiv X46.here hx rfl (hb hby at_124) rfl hfq k) ?_
      show GoesW _ _ _ _ _ _ _ (T46.setTop (mkF m 125 #[.val (.int u0), .val (.long u1), .second, .val (.long u2), .second, .val (.long u3), .second, .val (.long u4), .second, .val (.long fq), .second, .val (.int (u0 &&& (3 : Int32))), .val (.long oc), .second, .val (.long vv), .second, .val (.ref b39), .val (.long (oc + vv)), .second, .unset, .unset] [(.long ((((oc + vv) - (oc + vv) / fq * fq) * (1000000000 : Int64)) / fq)), (.long ((u2 + ((oc + vv) / fq)) * (1000000000 : Int64)))]))
      refine GoesW.of (fun t k => XS.ladd X46.here hx rfl (hb hby at_125) rfl k) ?_
      show GoesW _ _ _ _ _ _ _ (T46.setTop (mkF m 126 #[.val (.int u0), .val (.long u1), .second, .val (.long u2), .second, .val (.long u3), .second, .val (.long u4), .second, .val (.long fq), .second, .val (.int (u0 &&& (3 : Int32))), .val (.long oc), .second, .val (.long vv), .second, .val (.ref b39), .val (.long (oc + vv)), .second, .unset, .unset] [(.long (((u2 + ((oc + vv) / fq)) * (1000000000 : Int64)) + ((((oc + vv) - (oc + vv) / fq * fq) * (1000000000 : Int64)) / fq)))]))
      refine GoesW.of (fun t k => XS.lstore X46.here hx rfl (hb hby at_126) rfl (l' := #[.val (.int u0), .val (.long u1), .second, .val (.long u2), .second, .val (.long u3), .second, .val (.long u4), .second, .val (.long fq), .second, .val (.int (u0 &&& (3 : Int32))), .val (.long oc), .second, .val (.long vv), .second, .val (.ref b39), .val (.long (oc + vv)), .second, .val (.long (((u2 + ((oc + vv) / fq)) * (1000000000 : Int64)) + ((((oc + vv) - (oc + vv) / fq * fq) * (1000000000 : Int64)) / fq))), .second]) rfl k) ?_
      show GoesW _ _ _ _ _ _ _ (T46.setTop (mkF m 128 #[.val (.int u0), .val (.long u1), .second, .val (.long u2), .second, .val (.long u3), .second, .val (.long u4), .second, .val (.long fq), .second, .val (.int (u0 &&& (3 : Int32))), .val (.long oc), .second, .val (.long vv), .second, .val (.ref b39), .val (.long (oc + vv)), .second, .val (.long (((u2 + ((oc + vv) / fq)) * (1000000000 : Int64)) + ((((oc + vv) - (oc + vv) / fq * fq) * (1000000000 : Int64)) / fq))), .second] []))
      refine GoesW.of (fun t k => XS.aload X46.here hx rfl (hb hby at_128) rfl rfl k) ?_
      show GoesW _ _ _ _ _ _ _ (T46.setTop (mkF m 130 #[.val (.int u0), .val (.long u1), .second, .val (.long u2), .second, .val (.long u3), .second, .val (.long u4), .second, .val (.long fq), .second, .val (.int (u0 &&& (3 : Int32))), .val (.long oc), .second, .val (.long vv), .second, .val (.ref b39), .val (.long (oc + vv)), .second, .val (.long (((u2 + ((oc + vv) / fq)) * (1000000000 : Int64)) + ((((oc + vv) - (oc + vv) / fq * fq) * (1000000000 : Int64)) / fq))), .second] [(.ref b39)]))
      refine GoesW.of (fun t k => XS.lload X46.here hx rfl (hb hby at_130) rfl k) ?_
      show GoesW _ _ _ _ _ _ _ (T46.setTop (mkF m 132 #[.val (.int u0), .val (.long u1), .second, .val (.long u2), .second, .val (.long u3), .second, .val (.long u4), .second, .val (.long fq), .second, .val (.int (u0 &&& (3 : Int32))), .val (.long oc), .second, .val (.long vv), .second, .val (.ref b39), .val (.long (oc + vv)), .second, .val (.long (((u2 + ((oc + vv) / fq)) * (1000000000 : Int64)) + ((((oc + vv) - (oc + vv) / fq * fq) * (1000000000 : Int64)) / fq))), .second] [(.long vv), (.ref b39)]))
      obtain ⟨cq48, kq48, q48a, q48b, q48c⟩ := isOf hZ rfl F47
      obtain ⟨_, _, ⟨T48, L48, k48, n48⟩, -, X48, ⟨Lc48, hQ48, l48, y48, z48⟩, st48⟩ := X46.virtualBack hx (y := (⟨"com/example/preemptlens/preemptlens/ctf/Clock", "toNanos", "(J)J"⟩ : MethodName)) (z := (⟨"com/example/preemptlens/preemptlens/ctf/Clock", "toNanos", "(J)J"⟩ : MethodName)) hown (mvT hZ (hw _ (List.mem_of_getElem? (i := 32) rfl))) (mvT hZ (hw _ (List.mem_of_getElem? (i := 33) rfl))) (notFace_of_selects (args := #[]) (mvT hZ (hw _ (List.mem_of_getElem? (i := 35) rfl)))) (mvT hZ (hw _ (List.mem_of_getElem? (i := 35) rfl))) (mvT hZ (hw _ (List.mem_of_getElem? (i := 34) rfl))) (by decide) (backOf (W := 0) (rm4 l Z a0 hw [] b39 vv fq u2 oc T46.heap n0 Z46 F146 F246 F346 hfq) hZ (hw _ (List.mem_of_getElem? (i := 36) rfl)) (hw _ (List.mem_of_getElem? (i := 4) rfl)) (by decide) (by decide)) q48a q48c (g := (mkF m 132 #[.val (.int u0), .val (.long u1), .second, .val (.long u2), .second, .val (.long u3), .second, .val (.long u4), .second, .val (.long fq), .second, .val (.int (u0 &&& (3 : Int32))), .val (.long oc), .second, .val (.long vv), .second, .val (.ref b39), .val (.long (oc + vv)), .second, .val (.long (((u2 + ((oc + vv) / fq)) * (1000000000 : Int64)) + ((((oc + vv) - (oc + vv) / fq * fq) * (1000000000 : Int64)) / fq))), .second] [(.long vv), (.ref b39)])) rfl (by rw [hml]; rfl) (Steps.refl _) (argsL := [(.long vv)]) (rest := []) (lenOf pd_2 rfl) rfl (by show 2 * 0 + _ ≤ _; exact Nat.le_of_eq rfl) (hb hby at_132) (fun _ _ => ⟨rfl, rfl, (by decide : 3 + 0 ≤ _), (by decide : 12 + 0 ≤ _)⟩)
      dsimp only [Pt.U, Pt.locs, Pt.cells, Pt.slots] at X48 l48 y48 z48 st48 hQ48
      subst l48 y48 z48
      obtain ⟨rfl, N48q, e48⟩ := hQ48
      have N48 := Fr.app N46 N48q
      refine GoesW.of (fun t k => st48.trans k) ?_
      show GoesW _ _ _ _ _ _ _ (T48.setTop (mkF m 135 #[.val (.int u0), .val (.long u1), .second, .val (.long u2), .second, .val (.long u3), .second, .val (.long u4), .second, .val (.long fq), .second, .val (.int (u0 &&& (3 : Int32))), .val (.long oc), .second, .val (.long vv), .second, .val (.ref b39), .val (.long (oc + vv)), .second, .val (.long (((u2 + ((oc + vv) / fq)) * (1000000000 : Int64)) + ((((oc + vv) - (oc + vv) / fq * fq) * (1000000000 : Int64)) / fq))), .second] [(.long (f4 fq u2 oc vv))]))
      refine GoesW.of (fun t k => XS.lload X48.here hx rfl (hb hby at_135) rfl k) ?_
      show GoesW _ _ _ _ _ _ _ (T48.setTop (mkF m 137 #[.val (.int u0), .val (.long u1), .second, .val (.long u2), .second, .val (.long u3), .second, .val (.long u4), .second, .val (.long fq), .second, .val (.int (u0 &&& (3 : Int32))), .val (.long oc), .second, .val (.long vv), .second, .val (.ref b39), .val (.long (oc + vv)), .second, .val (.long (((u2 + ((oc + vv) / fq)) * (1000000000 : Int64)) + ((((oc + vv) - (oc + vv) / fq * fq) * (1000000000 : Int64)) / fq))), .second] [(.long (((u2 + ((oc + vv) / fq)) * (1000000000 : Int64)) + ((((oc + vv) - (oc + vv) / fq * fq) * (1000000000 : Int64)) / fq))), (.long (f4 fq u2 oc vv))]))
      refine GoesW.of (fun t k => XS.lcmp X48.here hx rfl (hb hby at_137) rfl k) ?_
      show GoesW _ _ _ _ _ _ _ (T48.setTop (mkF m 138 #[.val (.int u0), .val (.long u1), .second, .val (.long u2), .second, .val (.long u3), .second, .val (.long u4), .second, .val (.long fq), .second, .val (.int (u0 &&& (3 : Int32))), .val (.long oc), .second, .val (.long vv), .second, .val (.ref b39), .val (.long (oc + vv)), .second, .val (.long (((u2 + ((oc + vv) / fq)) * (1000000000 : Int64)) + ((((oc + vv) - (oc + vv) / fq * fq) * (1000000000 : Int64)) / fq))), .second] [(.int (lcmpW (f4 fq u2 oc vv) (((u2 + ((oc + vv) / fq)) * (1000000000 : Int64)) + ((((oc + vv) - (oc + vv) / fq * fq) * (1000000000 : Int64)) / fq))))]))
      refine GoesW.of (fun t k => XS.ifNo X48.here hx rfl (hb hby at_138) rfl ((if0 _ _).trans (teq ((lw_eq _ _).mpr (own_law _ _ _ _ hf ho hv))).2) k) ?_
      show GoesW _ _ _ _ _ _ _ (T48.setTop (mkF m 141 #[.val (.int u0), .val (.long u1), .second, .val (.long u2), .second, .val (.long u3), .second, .val (.long u4), .second, .val (.long fq), .second, .val (.int (u0 &&& (3 : Int32))), .val (.long oc), .second, .val (.long vv), .second, .val (.ref b39), .val (.long (oc + vv)), .second, .val (.long (((u2 + ((oc + vv) / fq)) * (1000000000 : Int64)) + ((((oc + vv) - (oc + vv) / fq * fq) * (1000000000 : Int64)) / fq))), .second] []))
      refine GoesW.of (fun t k => XS.iconst X48.here hx rfl (hb hby at_141) k) ?_
      show GoesW _ _ _ _ _ _ _ (T48.setTop (mkF m 142 #[.val (.int u0), .val (.long u1), .second, .val (.long u2), .second, .val (.long u3), .second, .val (.long u4), .second, .val (.long fq), .second, .val (.int (u0 &&& (3 : Int32))), .val (.long oc), .second, .val (.long vv), .second, .val (.ref b39), .val (.long (oc + vv)), .second, .val (.long (((u2 + ((oc + vv) / fq)) * (1000000000 : Int64)) + ((((oc + vv) - (oc + vv) / fq * fq) * (1000000000 : Int64)) / fq))), .second] [(.int (1 : Int32))]))
      refine GoesW.of (fun t k => XS.goto X48.here hx rfl (pc0 := 142) (pc' := 146) rfl (hb hby at_142) (by decide) (by decide) k) ?_
      show GoesW _ _ _ _ _ _ _ (T48.setTop (mkF m 146 #[.val (.int u0), .val (.long u1), .second, .val (.long u2), .second, .val (.long u3), .second, .val (.long u4), .second, .val (.long fq), .second, .val (.int (u0 &&& (3 : Int32))), .val (.long oc), .second, .val (.long vv), .second, .val (.ref b39), .val (.long (oc + vv)), .second, .val (.long (((u2 + ((oc + vv) / fq)) * (1000000000 : Int64)) + ((((oc + vv) - (oc + vv) / fq * fq) * (1000000000 : Int64)) / fq))), .second] [(.int (1 : Int32))]))
      exact GoesW.fin X48 hlk hSw (by rw [e48]; exact hkw) (v := some (.int (1 : Int32))) (fun h => by rw [Bd.returns] at h; cases h) (fun fs hr => retN X48 hx (t := .boolean) Bd.returns (by simp) (hb hby at_146) hr) ⟨rfl, N48⟩ (by decide) (by decide)
    refine GoesW.of (fun t k => XS.iloadN X37.here hx rfl (hb hby at_65) rfl k) ?_
    show GoesW _ _ _ _ _ _ _ (T37.setTop (mkF m 66 #[.val (.int u0), .val (.long u1), .second, .val (.long u2), .second, .val (.long u3), .second, .val (.long u4), .second, .val (.long fq), .second, .val (.int (u0 &&& (3 : Int32))), .val (.long oc), .second, .val (.long v1), .second, .unset, .unset, .unset, .unset, .unset] [(.int u0)]))
    refine GoesW.of (fun t k => XS.iconst X37.here hx rfl (hb hby at_66) k) ?_
    show GoesW _ _ _ _ _ _ _ (T37.setTop (mkF m 67 #[.val (.int u0), .val (.long u1), .second, .val (.long u2), .second, .val (.long u3), .second, .val (.long u4), .second, .val (.long fq), .second, .val (.int (u0 &&& (3 : Int32))), .val (.long oc), .second, .val (.long v1), .second, .unset, .unset, .unset, .unset, .unset] [(.int (4 : Int32)), (.int u0)]))
    refine GoesW.of (fun t k => XS.iand X37.here hx rfl (hb hby at_67) rfl k) ?_
    show GoesW _ _ _ _ _ _ _ (T37.setTop (mkF m 68 #[.val (.int u0), .val (.long u1), .second, .val (.long u2), .second, .val (.long u3), .second, .val (.long u4), .second, .val (.long fq), .second, .val (.int (u0 &&& (3 : Int32))), .val (.long oc), .second, .val (.long v1), .second, .unset, .unset, .unset, .unset, .unset] [(.int (u0 &&& (4 : Int32)))]))
    by_cases hc49 : (u0 &&& (4 : Int32)) = (0 : Int32)
    · refine GoesW.of (fun t k => XS.ifYes X37.here hx rfl (pc0 := 68) (pc' := 79) rfl (hb hby at_68) rfl ((if0 _ _).trans (teq hc49).1) (by decide) (by decide) k) ?_
      show GoesW _ _ _ _ _ _ _ (T37.setTop (mkF m 79 #[.val (.int u0), .val (.long u1), .second, .val (.long u2), .second, .val (.long u3), .second, .val (.long u4), .second, .val (.long fq), .second, .val (.int (u0 &&& (3 : Int32))), .val (.long oc), .second, .val (.long v1), .second, .unset, .unset, .unset, .unset, .unset] []))
      exact j38 _ _ v1 X37 e37 N37 hv1
    · refine GoesW.of (fun t k => XS.ifNo X37.here hx rfl (hb hby at_68) rfl ((if0 _ _).trans (feq hc49).1) k) ?_
      show GoesW _ _ _ _ _ _ _ (T37.setTop (mkF m 71 #[.val (.int u0), .val (.long u1), .second, .val (.long u2), .second, .val (.long u3), .second, .val (.long u4), .second, .val (.long fq), .second, .val (.int (u0 &&& (3 : Int32))), .val (.long oc), .second, .val (.long v1), .second, .unset, .unset, .unset, .unset, .unset] []))
      refine GoesW.of (fun t k => XS.lload X37.here hx rfl (hb hby at_71) rfl k) ?_
      show GoesW _ _ _ _ _ _ _ (T37.setTop (mkF m 73 #[.val (.int u0), .val (.long u1), .second, .val (.long u2), .second, .val (.long u3), .second, .val (.long u4), .second, .val (.long fq), .second, .val (.int (u0 &&& (3 : Int32))), .val (.long oc), .second, .val (.long v1), .second, .unset, .unset, .unset, .unset, .unset] [(.long v1)]))
      refine GoesW.of (fun t k => X37.ldc2Long hx hown (mvT hZ (hw _ (List.mem_of_getElem? (i := 39) rfl))) (g := (mkF m 73 #[.val (.int u0), .val (.long u1), .second, .val (.long u2), .second, .val (.long u3), .second, .val (.long u4), .second, .val (.long fq), .second, .val (.int (u0 &&& (3 : Int32))), .val (.long oc), .second, .val (.long v1), .second, .unset, .unset, .unset, .unset, .unset] [(.long v1)])) rfl (hb hby at_73) t k) ?_
      show GoesW _ _ _ _ _ _ _ (T37.setTop (mkF m 76 #[.val (.int u0), .val (.long u1), .second, .val (.long u2), .second, .val (.long u3), .second, .val (.long u4), .second, .val (.long fq), .second, .val (.int (u0 &&& (3 : Int32))), .val (.long oc), .second, .val (.long v1), .second, .unset, .unset, .unset, .unset, .unset] [(.long (4294967295 : Int64)), (.long v1)]))
      refine GoesW.of (fun t k => XS.land X37.here hx rfl (hb hby at_76) rfl k) ?_
      show GoesW _ _ _ _ _ _ _ (T37.setTop (mkF m 77 #[.val (.int u0), .val (.long u1), .second, .val (.long u2), .second, .val (.long u3), .second, .val (.long u4), .second, .val (.long fq), .second, .val (.int (u0 &&& (3 : Int32))), .val (.long oc), .second, .val (.long v1), .second, .unset, .unset, .unset, .unset, .unset] [(.long (v1 &&& (4294967295 : Int64)))]))
      refine GoesW.of (fun t k => XS.lstore X37.here hx rfl (hb hby at_77) rfl (l' := #[.val (.int u0), .val (.long u1), .second, .val (.long u2), .second, .val (.long u3), .second, .val (.long u4), .second, .val (.long fq), .second, .val (.int (u0 &&& (3 : Int32))), .val (.long oc), .second, .val (.long (v1 &&& (4294967295 : Int64))), .second, .unset, .unset, .unset, .unset, .unset]) rfl k) ?_
      show GoesW _ _ _ _ _ _ _ (T37.setTop (mkF m 79 #[.val (.int u0), .val (.long u1), .second, .val (.long u2), .second, .val (.long u3), .second, .val (.long u4), .second, .val (.long fq), .second, .val (.int (u0 &&& (3 : Int32))), .val (.long oc), .second, .val (.long (v1 &&& (4294967295 : Int64))), .second, .unset, .unset, .unset, .unset, .unset] []))
      exact j38 _ _ (v1 &&& (4294967295 : Int64)) X37 e37 N37 (own_m32 v1)
  refine GoesW.of (fun t k => XS.iload X0.here hx rfl (hb hby at_5) rfl k) ?_
  show GoesW _ _ _ _ _ _ _ (s₁.setTop (mkF m 7 #[.val (.int u0), .val (.long u1), .second, .val (.long u2), .second, .val (.long u3), .second, .val (.long u4), .second, .unset, .unset, .val (.int (u0 &&& (3 : Int32))), .unset, .unset, .unset, .unset, .unset, .unset, .unset, .unset, .unset] [(.int (u0 &&& (3 : Int32)))]))
  by_cases hc50 : (u0 &&& (3 : Int32)) = (0 : Int32)
  · refine GoesW.of (fun t k => XS.ifNo X0.here hx rfl (hb hby at_7) rfl ((if0 _ _).trans (teq hc50).2) k) ?_
    show GoesW _ _ _ _ _ _ _ (s₁.setTop (mkF m 10 #[.val (.int u0), .val (.long u1), .second, .val (.long u2), .second, .val (.long u3), .second, .val (.long u4), .second, .unset, .unset, .val (.int (u0 &&& (3 : Int32))), .unset, .unset, .unset, .unset, .unset, .unset, .unset, .unset, .unset] []))
    refine GoesW.of (fun t k => X0.ldc2Long hx hown (mvT hZ (hw _ (List.mem_of_getElem? (i := 0) rfl))) (g := (mkF m 10 #[.val (.int u0), .val (.long u1), .second, .val (.long u2), .second, .val (.long u3), .second, .val (.long u4), .second, .unset, .unset, .val (.int (u0 &&& (3 : Int32))), .unset, .unset, .unset, .unset, .unset, .unset, .unset, .unset, .unset] [])) rfl (hb hby at_10) t k) ?_
    show GoesW _ _ _ _ _ _ _ (s₁.setTop (mkF m 13 #[.val (.int u0), .val (.long u1), .second, .val (.long u2), .second, .val (.long u3), .second, .val (.long u4), .second, .unset, .unset, .val (.int (u0 &&& (3 : Int32))), .unset, .unset, .unset, .unset, .unset, .unset, .unset, .unset, .unset] [(.long (1000000000 : Int64))]))
    refine GoesW.of (fun t k => XS.lstore X0.here hx rfl (hb hby at_13) rfl (l' := #[.val (.int u0), .val (.long u1), .second, .val (.long u2), .second, .val (.long u3), .second, .val (.long u4), .second, .val (.long (1000000000 : Int64)), .second, .val (.int (u0 &&& (3 : Int32))), .unset, .unset, .unset, .unset, .unset, .unset, .unset, .unset, .unset]) rfl k) ?_
    show GoesW _ _ _ _ _ _ _ (s₁.setTop (mkF m 15 #[.val (.int u0), .val (.long u1), .second, .val (.long u2), .second, .val (.long u3), .second, .val (.long u4), .second, .val (.long (1000000000 : Int64)), .second, .val (.int (u0 &&& (3 : Int32))), .unset, .unset, .unset, .unset, .unset, .unset, .unset, .unset, .unset] []))
    refine GoesW.of (fun t k => XS.goto X0.here hx rfl (pc0 := 15) (pc' := 49) rfl (hb hby at_15) (by decide) (by decide) k) ?_
    show GoesW _ _ _ _ _ _ _ (s₁.setTop (mkF m 49 #[.val (.int u0), .val (.long u1), .second, .val (.long u2), .second, .val (.long u3), .second, .val (.long u4), .second, .val (.long (1000000000 : Int64)), .second, .val (.int (u0 &&& (3 : Int32))), .unset, .unset, .unset, .unset, .unset, .unset, .unset, .unset, .unset] []))
    exact j37 _ _ (1000000000 : Int64) X0 e0 N0 (by decide)
  · refine GoesW.of (fun t k => XS.ifYes X0.here hx rfl (pc0 := 7) (pc' := 18) rfl (hb hby at_7) rfl ((if0 _ _).trans (feq hc50).2) (by decide) (by decide) k) ?_
    show GoesW _ _ _ _ _ _ _ (s₁.setTop (mkF m 18 #[.val (.int u0), .val (.long u1), .second, .val (.long u2), .second, .val (.long u3), .second, .val (.long u4), .second, .unset, .unset, .val (.int (u0 &&& (3 : Int32))), .unset, .unset, .unset, .unset, .unset, .unset, .unset, .unset, .unset] []))
    refine GoesW.of (fun t k => XS.iload X0.here hx rfl (hb hby at_18) rfl k) ?_
    show GoesW _ _ _ _ _ _ _ (s₁.setTop (mkF m 20 #[.val (.int u0), .val (.long u1), .second, .val (.long u2), .second, .val (.long u3), .second, .val (.long u4), .second, .unset, .unset, .val (.int (u0 &&& (3 : Int32))), .unset, .unset, .unset, .unset, .unset, .unset, .unset, .unset, .unset] [(.int (u0 &&& (3 : Int32)))]))
    refine GoesW.of (fun t k => XS.iconst X0.here hx rfl (hb hby at_20) k) ?_
    show GoesW _ _ _ _ _ _ _ (s₁.setTop (mkF m 21 #[.val (.int u0), .val (.long u1), .second, .val (.long u2), .second, .val (.long u3), .second, .val (.long u4), .second, .unset, .unset, .val (.int (u0 &&& (3 : Int32))), .unset, .unset, .unset, .unset, .unset, .unset, .unset, .unset, .unset] [(.int (1 : Int32)), (.int (u0 &&& (3 : Int32)))]))
    by_cases hc51 : (u0 &&& (3 : Int32)) = (1 : Int32)
    · refine GoesW.of (fun t k => XS.icmpNo X0.here hx rfl (hb hby at_21) rfl (teq hc51).2 k) ?_
      show GoesW _ _ _ _ _ _ _ (s₁.setTop (mkF m 24 #[.val (.int u0), .val (.long u1), .second, .val (.long u2), .second, .val (.long u3), .second, .val (.long u4), .second, .unset, .unset, .val (.int (u0 &&& (3 : Int32))), .unset, .unset, .unset, .unset, .unset, .unset, .unset, .unset, .unset] []))
      refine GoesW.of (fun t k => XS.lconst X0.here hx rfl (hb hby at_24) k) ?_
      show GoesW _ _ _ _ _ _ _ (s₁.setTop (mkF m 25 #[.val (.int u0), .val (.long u1), .second, .val (.long u2), .second, .val (.long u3), .second, .val (.long u4), .second, .unset, .unset, .val (.int (u0 &&& (3 : Int32))), .unset, .unset, .unset, .unset, .unset, .unset, .unset, .unset, .unset] [(.long (1 : Int64))]))
      refine GoesW.of (fun t k => XS.lloadN X0.here hx rfl (hb hby at_25) rfl k) ?_
      show GoesW _ _ _ _ _ _ _ (s₁.setTop (mkF m 26 #[.val (.int u0), .val (.long u1), .second, .val (.long u2), .second, .val (.long u3), .second, .val (.long u4), .second, .unset, .unset, .val (.int (u0 &&& (3 : Int32))), .unset, .unset, .unset, .unset, .unset, .unset, .unset, .unset, .unset] [(.long u1), (.long (1 : Int64))]))
      refine GoesW.of (fun t k => X0.ldc2Long hx hown (mvT hZ (hw _ (List.mem_of_getElem? (i := 38) rfl))) (g := (mkF m 26 #[.val (.int u0), .val (.long u1), .second, .val (.long u2), .second, .val (.long u3), .second, .val (.long u4), .second, .unset, .unset, .val (.int (u0 &&& (3 : Int32))), .unset, .unset, .unset, .unset, .unset, .unset, .unset, .unset, .unset] [(.long u1), (.long (1 : Int64))])) rfl (hb hby at_26) t k) ?_
      show GoesW _ _ _ _ _ _ _ (s₁.setTop (mkF m 29 #[.val (.int u0), .val (.long u1), .second, .val (.long u2), .second, .val (.long u3), .second, .val (.long u4), .second, .unset, .unset, .val (.int (u0 &&& (3 : Int32))), .unset, .unset, .unset, .unset, .unset, .unset, .unset, .unset, .unset] [(.long (1023 : Int64)), (.long u1), (.long (1 : Int64))]))
      refine GoesW.of (fun t k => XS.land X0.here hx rfl (hb hby at_29) rfl k) ?_
      show GoesW _ _ _ _ _ _ _ (s₁.setTop (mkF m 30 #[.val (.int u0), .val (.long u1), .second, .val (.long u2), .second, .val (.long u3), .second, .val (.long u4), .second, .unset, .unset, .val (.int (u0 &&& (3 : Int32))), .unset, .unset, .unset, .unset, .unset, .unset, .unset, .unset, .unset] [(.long (u1 &&& (1023 : Int64))), (.long (1 : Int64))]))
      refine GoesW.of (fun t k => XS.ladd X0.here hx rfl (hb hby at_30) rfl k) ?_
      show GoesW _ _ _ _ _ _ _ (s₁.setTop (mkF m 31 #[.val (.int u0), .val (.long u1), .second, .val (.long u2), .second, .val (.long u3), .second, .val (.long u4), .second, .unset, .unset, .val (.int (u0 &&& (3 : Int32))), .unset, .unset, .unset, .unset, .unset, .unset, .unset, .unset, .unset] [(.long ((1 : Int64) + (u1 &&& (1023 : Int64))))]))
      refine GoesW.of (fun t k => XS.lstore X0.here hx rfl (hb hby at_31) rfl (l' := #[.val (.int u0), .val (.long u1), .second, .val (.long u2), .second, .val (.long u3), .second, .val (.long u4), .second, .val (.long ((1 : Int64) + (u1 &&& (1023 : Int64)))), .second, .val (.int (u0 &&& (3 : Int32))), .unset, .unset, .unset, .unset, .unset, .unset, .unset, .unset, .unset]) rfl k) ?_
      show GoesW _ _ _ _ _ _ _ (s₁.setTop (mkF m 33 #[.val (.int u0), .val (.long u1), .second, .val (.long u2), .second, .val (.long u3), .second, .val (.long u4), .second, .val (.long ((1 : Int64) + (u1 &&& (1023 : Int64)))), .second, .val (.int (u0 &&& (3 : Int32))), .unset, .unset, .unset, .unset, .unset, .unset, .unset, .unset, .unset] []))
      refine GoesW.of (fun t k => XS.goto X0.here hx rfl (pc0 := 33) (pc' := 49) rfl (hb hby at_33) (by decide) (by decide) k) ?_
      show GoesW _ _ _ _ _ _ _ (s₁.setTop (mkF m 49 #[.val (.int u0), .val (.long u1), .second, .val (.long u2), .second, .val (.long u3), .second, .val (.long u4), .second, .val (.long ((1 : Int64) + (u1 &&& (1023 : Int64)))), .second, .val (.int (u0 &&& (3 : Int32))), .unset, .unset, .unset, .unset, .unset, .unset, .unset, .unset, .unset] []))
      exact j37 _ _ ((1 : Int64) + (u1 &&& (1023 : Int64))) X0 e0 N0 (own_f1 u1)
    · refine GoesW.of (fun t k => XS.icmpYes X0.here hx rfl (pc0 := 21) (pc' := 36) rfl (hb hby at_21) rfl (feq hc51).2 (by decide) (by decide) k) ?_
      show GoesW _ _ _ _ _ _ _ (s₁.setTop (mkF m 36 #[.val (.int u0), .val (.long u1), .second, .val (.long u2), .second, .val (.long u3), .second, .val (.long u4), .second, .unset, .unset, .val (.int (u0 &&& (3 : Int32))), .unset, .unset, .unset, .unset, .unset, .unset, .unset, .unset, .unset] []))
      refine GoesW.of (fun t k => XS.lconst X0.here hx rfl (hb hby at_36) k) ?_
      show GoesW _ _ _ _ _ _ _ (s₁.setTop (mkF m 37 #[.val (.int u0), .val (.long u1), .second, .val (.long u2), .second, .val (.long u3), .second, .val (.long u4), .second, .unset, .unset, .val (.int (u0 &&& (3 : Int32))), .unset, .unset, .unset, .unset, .unset, .unset, .unset, .unset, .unset] [(.long (1 : Int64))]))
      refine GoesW.of (fun t k => XS.lloadN X0.here hx rfl (hb hby at_37) rfl k) ?_
      show GoesW _ _ _ _ _ _ _ (s₁.setTop (mkF m 38 #[.val (.int u0), .val (.long u1), .second, .val (.long u2), .second, .val (.long u3), .second, .val (.long u4), .second, .unset, .unset, .val (.int (u0 &&& (3 : Int32))), .unset, .unset, .unset, .unset, .unset, .unset, .unset, .unset, .unset] [(.long u1), (.long (1 : Int64))]))
      refine GoesW.of (fun t k => X0.ldc2Long hx hown (mvT hZ (hw _ (List.mem_of_getElem? (i := 40) rfl))) (g := (mkF m 38 #[.val (.int u0), .val (.long u1), .second, .val (.long u2), .second, .val (.long u3), .second, .val (.long u4), .second, .unset, .unset, .val (.int (u0 &&& (3 : Int32))), .unset, .unset, .unset, .unset, .unset, .unset, .unset, .unset, .unset] [(.long u1), (.long (1 : Int64))])) rfl (hb hby at_38) t k) ?_
      show GoesW _ _ _ _ _ _ _ (s₁.setTop (mkF m 41 #[.val (.int u0), .val (.long u1), .second, .val (.long u2), .second, .val (.long u3), .second, .val (.long u4), .second, .unset, .unset, .val (.int (u0 &&& (3 : Int32))), .unset, .unset, .unset, .unset, .unset, .unset, .unset, .unset, .unset] [(.long (9223372036854775807 : Int64)), (.long u1), (.long (1 : Int64))]))
      refine GoesW.of (fun t k => XS.land X0.here hx rfl (hb hby at_41) rfl k) ?_
      show GoesW _ _ _ _ _ _ _ (s₁.setTop (mkF m 42 #[.val (.int u0), .val (.long u1), .second, .val (.long u2), .second, .val (.long u3), .second, .val (.long u4), .second, .unset, .unset, .val (.int (u0 &&& (3 : Int32))), .unset, .unset, .unset, .unset, .unset, .unset, .unset, .unset, .unset] [(.long (u1 &&& (9223372036854775807 : Int64))), (.long (1 : Int64))]))
      refine GoesW.of (fun t k => X0.ldc2Long hx hown (mvT hZ (hw _ (List.mem_of_getElem? (i := 41) rfl))) (g := (mkF m 42 #[.val (.int u0), .val (.long u1), .second, .val (.long u2), .second, .val (.long u3), .second, .val (.long u4), .second, .unset, .unset, .val (.int (u0 &&& (3 : Int32))), .unset, .unset, .unset, .unset, .unset, .unset, .unset, .unset, .unset] [(.long (u1 &&& (9223372036854775807 : Int64))), (.long (1 : Int64))])) rfl (hb hby at_42) t k) ?_
      show GoesW _ _ _ _ _ _ _ (s₁.setTop (mkF m 45 #[.val (.int u0), .val (.long u1), .second, .val (.long u2), .second, .val (.long u3), .second, .val (.long u4), .second, .unset, .unset, .val (.int (u0 &&& (3 : Int32))), .unset, .unset, .unset, .unset, .unset, .unset, .unset, .unset, .unset] [(.long (9223372036 : Int64)), (.long (u1 &&& (9223372036854775807 : Int64))), (.long (1 : Int64))]))
      refine GoesW.of (fun t k => XS.lrem X0.here hx rfl (hb hby at_45) rfl (by decide) k) ?_
      show GoesW _ _ _ _ _ _ _ (s₁.setTop (mkF m 46 #[.val (.int u0), .val (.long u1), .second, .val (.long u2), .second, .val (.long u3), .second, .val (.long u4), .second, .unset, .unset, .val (.int (u0 &&& (3 : Int32))), .unset, .unset, .unset, .unset, .unset, .unset, .unset, .unset, .unset] [(.long ((u1 &&& (9223372036854775807 : Int64)) - (u1 &&& (9223372036854775807 : Int64)) / (9223372036 : Int64) * (9223372036 : Int64))), (.long (1 : Int64))]))
      refine GoesW.of (fun t k => XS.ladd X0.here hx rfl (hb hby at_46) rfl k) ?_
      show GoesW _ _ _ _ _ _ _ (s₁.setTop (mkF m 47 #[.val (.int u0), .val (.long u1), .second, .val (.long u2), .second, .val (.long u3), .second, .val (.long u4), .second, .unset, .unset, .val (.int (u0 &&& (3 : Int32))), .unset, .unset, .unset, .unset, .unset, .unset, .unset, .unset, .unset] [(.long ((1 : Int64) + ((u1 &&& (9223372036854775807 : Int64)) - (u1 &&& (9223372036854775807 : Int64)) / (9223372036 : Int64) * (9223372036 : Int64))))]))
      refine GoesW.of (fun t k => XS.lstore X0.here hx rfl (hb hby at_47) rfl (l' := #[.val (.int u0), .val (.long u1), .second, .val (.long u2), .second, .val (.long u3), .second, .val (.long u4), .second, .val (.long ((1 : Int64) + ((u1 &&& (9223372036854775807 : Int64)) - (u1 &&& (9223372036854775807 : Int64)) / (9223372036 : Int64) * (9223372036 : Int64)))), .second, .val (.int (u0 &&& (3 : Int32))), .unset, .unset, .unset, .unset, .unset, .unset, .unset, .unset, .unset]) rfl k) ?_
      show GoesW _ _ _ _ _ _ _ (s₁.setTop (mkF m 49 #[.val (.int u0), .val (.long u1), .second, .val (.long u2), .second, .val (.long u3), .second, .val (.long u4), .second, .val (.long ((1 : Int64) + ((u1 &&& (9223372036854775807 : Int64)) - (u1 &&& (9223372036854775807 : Int64)) / (9223372036 : Int64) * (9223372036 : Int64)))), .second, .val (.int (u0 &&& (3 : Int32))), .unset, .unset, .unset, .unset, .unset, .unset, .unset, .unset, .unset] []))
      exact j37 _ _ ((1 : Int64) + ((u1 &&& (9223372036854775807 : Int64)) - (u1 &&& (9223372036854775807 : Int64)) / (9223372036 : Int64) * (9223372036 : Int64))) X0 e0 N0 (own_f2 u1)
set_option maxRecDepth 65536 in
set_option maxHeartbeats 40000000 in
theorem comes_1 {Post : Tables → Env → Array Value → State → Outcome → State → Prop} (hpost : ∀ tb e args s v u, (limb_1_1.after args s (.returned v) u = true ∧ limb_1_2.after args s (.returned v) u = true ∧ True) → FramedW s (.returned v) u (Jvm.fieldLocs frame_1_writes args s ++ Jvm.arrayLocs frame_1_arrays args s ++ Jvm.staticLocs frame_1_statics s) 16 1152 → Post tb e args s (.returned v) u) :
    ArmFor flags0 classFile x code maxLocals ret World_1 tables_1 room_1 Calls_1 rest_1 Pre_1 Post := by
  intro l hfl _ _ p e ha hc hk s m args below hf hA hF happ hP
  obtain ⟨hcalls, hrest, hpre⟩ := hP
  obtain ⟨-, -, -, hnamed, -, -, -, hat⟩ := (Spec.applies_iff hf).mp happ
  obtain ⟨hg, hn⟩ := and_e (Cond.before_iff.mp (show (Jvm.Cond.and given_1 narrow_1).before args s = true from hpre))
  obtain ⟨g52, g53⟩ := and_e hg
  obtain ⟨g54, g55⟩ := and_e g53
  obtain ⟨g56, g57⟩ := and_e g55
  obtain ⟨g58, g59⟩ := and_e g57
  obtain ⟨g60, g61⟩ := and_e g59
  obtain ⟨w0, w1, w2, w3, w4, rfl⟩ : ∃ w0 w1 w2 w3 w4 : Value, args = #[w0, w1, w2, w3, w4] := by
    have hs : args.size = 5 := by simpa [Cond.value, given_1] using g52
    obtain ⟨L⟩ := args
    match L, hs with
    | [w0, w1, w2, w3, w4], _ => exact ⟨w0, w1, w2, w3, w4, rfl⟩
  have hw := fun d (hd : d ∈ tables_1) => atoms_spec (ws := Jvm.Cond.code x code maxLocals ret :: tables_1) hat d (List.mem_cons_of_mem _ hd)
  obtain ⟨i0, ei0⟩ := is_v g54
  obtain rfl : w0 = (.int i0) := Option.some.inj ei0
  obtain ⟨i1, ei1⟩ := isL_v g56
  obtain rfl : w1 = (.long i1) := Option.some.inj ei1
  obtain ⟨i2, ei2⟩ := isL_v g58
  obtain rfl : w2 = (.long i2) := Option.some.inj ei2
  obtain ⟨i3, ei3⟩ := isL_v g60
  obtain rfl : w3 = (.long i3) := Option.some.inj ei3
  obtain ⟨i4, ei4⟩ := isL_v g61
  obtain rfl : w4 = (.long i4) := Option.some.inj ei4
  obtain ⟨n, o, h1, h2, h3, _, L, rfl, ⟨rfl, N⟩, hq⟩ := rm0 l s _ hw tables_1 i0 i1 i2 i3 i4 s.heap s.heap.size (Nat.le_refl _) p e ha hc hk s m _ below hf ((Spec.applies_iff_loose hf).mp happ).1 ⟨rfl, State.Warmed39.refl s, rfl⟩ trivial
  exact ⟨n, _, h1, h2, h3, hpost _ _ _ _ _ _ ⟨Cond.after_iff.mpr rfl, Cond.after_iff.mpr (eq_i res_at (Term.int_eval (1)) rfl), trivial⟩ ⟨hq.1, hq.2.1, hq.2.2.1, (hq.2.2.2.sift fun y hy => Or.inr (N y hy)).mono (by decide) (by decide)⟩⟩
theorem main_1_1 : Claimed_1_1 := comes_1 fun _ _ _ _ _ _ h hF => ⟨h.1, hF⟩
theorem main_1_2 : Claimed_1_2 := comes_1 fun _ _ _ _ _ _ h hF => ⟨h.2.1, hF⟩
end Jvm.Pilot.@@N@@
namespace Jvm.Pilot.@@N@@
open Jvm Jvm.ClassFile Sem Op Lib Jvm.Free Jvm.Stand Jvm.Pilot.@@N@@.Jvm.D
/-! MADE BY PROGRAM (witnessworld.py) out of the Statement's table words and the real class files: 15 classes; the members and pool entries that the words name. The judged class is class 1, her method 1. -/
namespace start1
open Jvm.ClassFile
def u (s : String) : CpInfo := .utf8 (stringToUtf16 s)
/-- a pool by its gaps: so many unusable entries, then the entry; so many at the end -/
def gap : Nat → List CpInfo → List CpInfo
  | 0, r => r
  | n + 1, r => .unusable :: gap n r
def poolList (es : List (Nat × CpInfo)) (last : Nat) : List CpInfo := es.foldr (fun e r => gap e.1 (e.2 :: r)) (gap last [])
def pool (es : List (Nat × CpInfo)) (last : Nat) : Array CpInfo := ⟨poolList es last⟩
def fileOf (pool : Array CpInfo) (this : Nat) (attrs : Array Attribute := #[]) (ms : Array MethodInfo := #[]) (fl : Nat := 33) (sup : Nat := 0) (ifs : Array Nat := #[]) (fds : Array FieldInfo := #[]) : ClassFile where
  minorVersion := 0
  majorVersion := 65
  constantPool := pool
  accessFlags := fl
  thisClass := this
  superClass := sup
  interfaces := ifs
  fields := fds
  methods := ms
  attributes := attrs
def plain (name : String) (sup : Option ClassId) : Class where
  name := name
  kind := .ordinary
  loader := none
  accessFlags := 33
  super := sup
  interfaces := #[]
  cf := none
  fields := #[]
  methods := #[]
  instanceTypes := #[]
  staticTypes := #[]
  resolved := #[]
  callSites := []
  init := .initialized
  statics := none
  mirror := none

def pool0 : Array CpInfo := pool [(5, u "<init>"), (0, u "()V"), (1, .class_ 10), (1, u "java/lang/Object")] 113

def k0c0 : Code := { maxStack := 0, maxLocals := 1, code := object_method_1_code, exceptionTable := #[], attributes := #[] }
def k0m0 : Method := { name := "<init>", desc := "()V", sig := { parameters := [], returnType := none }, accessFlags := 1, code := some k0c0 }
/-- java/lang/Object -/
def k0 : Class := { plain "java/lang/Object" none with
  accessFlags := 33
  interfaces := #[]
  cf := some (fileOf pool0 8 #[] #[{ accessFlags := 1, nameIndex := 5, descriptorIndex := 6, attributes := #[] }] 33 0 #[] #[])
  fields := #[]
  methods := #[k0m0]
  instanceTypes := #[]
  staticTypes := #[]
  resolved := Array.replicate 124 none
  statics := none }

def pool1 : Array CpInfo := pool [(2, .class_ 4), (1, u "java/lang/Object"), (0, u "<init>"), (0, u "()V"), (0, .long 1000000000), (1, .long 1023), (3, .long 9223372036854775807), (1, .long 9223372036), (1, .long 4611686018427387903), (1, .long 4294967295), (1, .class_ 22), (0, u "com/example/preemptlens/preemptlens/ctf/Clock"), (0, .string 24), (0, u "c"), (0, .methodref 21 26), (0, .nameAndType 5 27), (0, u "(Ljava/lang/String;JJJ)V"), (0, .methodref 21 29), (0, .nameAndType 30 31), (0, u "toNanos"), (0, u "(J)J"), (0, .class_ 33), (0, u "com/example/preemptlens/preemptlens/ctf/ClockToNanosPinLaw"), (2, u "law"), (0, u "(IJJJJ)Z")] 3

def k1m0 : Method := { name := "<init>", desc := "()V", sig := { parameters := [], returnType := none }, accessFlags := 1, code := none }
def k1c1 : Code := { maxStack := 9, maxLocals := 21, code := code, exceptionTable := #[], attributes := #[] }
def k1m1 : Method := { name := "law", desc := "(IJJJJ)Z", sig := { parameters := [.int, .long, .long, .long, .long], returnType := some .boolean }, accessFlags := 9, code := some k1c1 }
/-- com/example/preemptlens/preemptlens/ctf/ClockToNanosPinLaw -/
def k1 : Class := { plain "com/example/preemptlens/preemptlens/ctf/ClockToNanosPinLaw" (some 0) with
  accessFlags := 49
  interfaces := #[]
  cf := some (fileOf pool1 32 #[] #[{ accessFlags := 1, nameIndex := 5, descriptorIndex := 6, attributes := #[] }, { accessFlags := 9, nameIndex := 36, descriptorIndex := 37, attributes := #[] }] 49 2 #[] #[])
  fields := #[]
  methods := #[k1m0, k1m1]
  instanceTypes := #[]
  staticTypes := #[]
  resolved := Array.replicate 41 none
  statics := none }

def pool2 : Array CpInfo := pool [(1, .methodref 2 3), (0, .class_ 4), (0, .nameAndType 5 6), (0, u "java/lang/Object"), (0, u "<init>"), (0, u "()V"), (0, .class_ 8), (0, u "java/lang/Record")] 13

def k2c0 : Code := { maxStack := 1, maxLocals := 1, code := jdk_30_method_1_code, exceptionTable := #[], attributes := #[] }
def k2m0 : Method := { name := "<init>", desc := "()V", sig := { parameters := [], returnType := none }, accessFlags := 4, code := some k2c0 }
/-- java/lang/Record -/
def k2 : Class := { plain "java/lang/Record" (some 0) with
  accessFlags := 1057
  interfaces := #[]
  cf := some (fileOf pool2 7 #[] #[{ accessFlags := 4, nameIndex := 5, descriptorIndex := 6, attributes := #[] }] 1057 2 #[] #[])
  fields := #[]
  methods := #[k2m0]
  instanceTypes := #[]
  staticTypes := #[]
  resolved := Array.replicate 22 none
  statics := none }

def pool3 : Array CpInfo := pool [(3, .class_ 4), (0, u "com/example/preemptlens/preemptlens/ctf/Clock"), (0, .methodref 6 7), (0, .class_ 8), (0, .nameAndType 9 10), (0, u "java/lang/Record"), (0, u "<init>"), (0, u "()V"), (0, .fieldref 3 12), (0, .nameAndType 13 14), (0, u "name"), (0, u "Ljava/lang/String;"), (0, .fieldref 3 16), (0, .nameAndType 17 18), (0, u "frequency"), (0, u "J"), (0, .fieldref 3 20), (0, .nameAndType 21 18), (0, u "offsetSeconds"), (0, .fieldref 3 23), (0, .nameAndType 24 18), (0, u "offsetCycles"), (0, .long 1000000000), (13, u "NANOS_PER_SECOND"), (1, u "MAX_FREQUENCY"), (2, u "(Ljava/lang/String;JJJ)V"), (3, u "toNanos"), (0, u "(J)J")] 28

def k3c0 : Code := { maxStack := 3, maxLocals := 8, code := prog_109_method_1_code, exceptionTable := #[], attributes := #[] }
def k3m0 : Method := { name := "<init>", desc := "(Ljava/lang/String;JJJ)V", sig := { parameters := [(.object "java/lang/String"), .long, .long, .long], returnType := none }, accessFlags := 1, code := some k3c0 }
def k3c1 : Code := { maxStack := 6, maxLocals := 9, code := prog_109_method_2_code, exceptionTable := #[], attributes := #[] }
def k3m1 : Method := { name := "toNanos", desc := "(J)J", sig := { parameters := [.long], returnType := some .long }, accessFlags := 1, code := some k3c1 }
/-- com/example/preemptlens/preemptlens/ctf/Clock -/
def k3 : Class := { plain "com/example/preemptlens/preemptlens/ctf/Clock" (some 2) with
  accessFlags := 49
  interfaces := #[]
  cf := some (fileOf pool3 3 #[] #[{ accessFlags := 1, nameIndex := 9, descriptorIndex := 44, attributes := #[] }, { accessFlags := 1, nameIndex := 48, descriptorIndex := 49, attributes := #[] }] 49 6 #[] #[{ accessFlags := 18, nameIndex := 13, descriptorIndex := 14, attributes := #[] }, { accessFlags := 18, nameIndex := 17, descriptorIndex := 18, attributes := #[] }, { accessFlags := 18, nameIndex := 21, descriptorIndex := 18, attributes := #[] }, { accessFlags := 18, nameIndex := 24, descriptorIndex := 18, attributes := #[] }, { accessFlags := 24, nameIndex := 39, descriptorIndex := 18, attributes := #[] }, { accessFlags := 24, nameIndex := 41, descriptorIndex := 18, attributes := #[] }])
  fields := #[{ name := "name", type := (.object "java/lang/String"), accessFlags := 18, slot := 0, constantValue := 0 }, { name := "frequency", type := .long, accessFlags := 18, slot := 1, constantValue := 0 }, { name := "offsetSeconds", type := .long, accessFlags := 18, slot := 2, constantValue := 0 }, { name := "offsetCycles", type := .long, accessFlags := 18, slot := 3, constantValue := 0 }, { name := "NANOS_PER_SECOND", type := .long, accessFlags := 24, slot := 0, constantValue := 0 }, { name := "MAX_FREQUENCY", type := .long, accessFlags := 24, slot := 1, constantValue := 0 }]
  methods := #[k3m0, k3m1]
  instanceTypes := #[(.object "java/lang/String"), .long, .long, .long]
  staticTypes := #[.long, .long]
  resolved := Array.replicate 78 none
  statics := none }

def pool4 : Array CpInfo := pool [(1, .class_ 2), (0, u "java/io/Serializable"), (0, .class_ 4), (0, u "java/lang/Object")] 2

/-- java/io/Serializable -/
def k4 : Class := { plain "java/io/Serializable" (some 0) with
  accessFlags := 1537
  interfaces := #[]
  cf := some (fileOf pool4 1 #[] #[] 1537 3 #[] #[])
  fields := #[]
  methods := #[]
  instanceTypes := #[]
  staticTypes := #[]
  resolved := Array.replicate 7 none
  statics := none }

def pool5 : Array CpInfo := pool [(1, .class_ 2), (0, u "java/lang/Comparable"), (0, .class_ 4), (0, u "java/lang/Object")] 7

/-- java/lang/Comparable -/
def k5 : Class := { plain "java/lang/Comparable" (some 0) with
  accessFlags := 1537
  interfaces := #[]
  cf := some (fileOf pool5 1 #[] #[] 1537 3 #[] #[])
  fields := #[]
  methods := #[]
  instanceTypes := #[]
  staticTypes := #[]
  resolved := Array.replicate 12 none
  statics := none }

def pool6 : Array CpInfo := pool [(2, .class_ 4), (1, u "java/lang/CharSequence"), (42, .class_ 48), (0, u "java/lang/CharSequence$1CodePointIterator"), (10, .class_ 60), (0, u "java/lang/CharSequence$1CharIterator"), (5, .class_ 67), (0, u "java/lang/Object")] 63

/-- java/lang/CharSequence -/
def k6 : Class := { plain "java/lang/CharSequence" (some 0) with
  accessFlags := 1537
  interfaces := #[]
  cf := some (fileOf pool6 2 #[.nestMembers #[47, 59]] #[] 1537 66 #[] #[])
  fields := #[]
  methods := #[]
  instanceTypes := #[]
  staticTypes := #[]
  resolved := Array.replicate 131 none
  statics := none }

def pool7 : Array CpInfo := pool [(1, .class_ 2), (0, u "java/lang/constant/Constable"), (0, .class_ 4), (0, u "java/lang/Object")] 6

/-- java/lang/constant/Constable -/
def k7 : Class := { plain "java/lang/constant/Constable" (some 0) with
  accessFlags := 1537
  interfaces := #[]
  cf := some (fileOf pool7 1 #[] #[] 1537 3 #[] #[])
  fields := #[]
  methods := #[]
  instanceTypes := #[]
  staticTypes := #[]
  resolved := Array.replicate 11 none
  statics := none }

def pool8 : Array CpInfo := pool [(1, .class_ 2), (0, u "java/lang/constant/ConstantDesc"), (0, .class_ 4), (0, u "java/lang/Object")] 32

/-- java/lang/constant/ConstantDesc -/
def k8 : Class := { plain "java/lang/constant/ConstantDesc" (some 0) with
  accessFlags := 1537
  interfaces := #[]
  cf := some (fileOf pool8 1 #[] #[] 1537 3 #[] #[])
  fields := #[]
  methods := #[]
  instanceTypes := #[]
  staticTypes := #[]
  resolved := Array.replicate 37 none
  statics := none }

def pool9 : Array CpInfo := pool [(2, .class_ 4), (1, u "java/lang/Object"), (0, u "<init>"), (0, u "()V"), (3, .class_ 12), (1, u "java/lang/String"), (0, u "value"), (0, u "[B"), (2, u "coder"), (0, u "B"), (2, u "hash"), (0, u "I"), (2, u "hashIsZero"), (0, u "Z"), (13, u "COMPACT_STRINGS"), (534, .class_ 576), (0, u "java/lang/CharSequence"), (22, u "CASE_INSENSITIVE_ORDER"), (0, u "Ljava/util/Comparator;"), (500, u "serialPersistentFields"), (0, u "[Ljava/io/ObjectStreamField;"), (0, .class_ 1104), (0, u "java/lang/String$CaseInsensitiveComparator"), (1, .class_ 1107), (0, u "java/io/Serializable"), (0, .class_ 1109), (0, u "java/lang/Comparable"), (0, .class_ 1111), (0, u "java/lang/constant/Constable"), (0, .class_ 1113), (0, u "java/lang/constant/ConstantDesc"), (2, u "serialVersionUID"), (0, u "J"), (3, u "REPL"), (0, u "C"), (2, u "LATIN1"), (1, u "UTF16")] 323

def k9m0 : Method := { name := "<init>", desc := "()V", sig := { parameters := [], returnType := none }, accessFlags := 1, code := none }
/-- java/lang/String -/
def k9 : Class := { plain "java/lang/String" (some 0) with
  accessFlags := 49
  interfaces := #[4, 5, 6, 7, 8]
  cf := some (fileOf pool9 10 #[.nestMembers #[1103]] #[{ accessFlags := 1, nameIndex := 5, descriptorIndex := 6, attributes := #[] }] 49 2 #[1106, 1108, 575, 1110, 1112] #[{ accessFlags := 18, nameIndex := 13, descriptorIndex := 14, attributes := #[] }, { accessFlags := 18, nameIndex := 17, descriptorIndex := 18, attributes := #[] }, { accessFlags := 2, nameIndex := 21, descriptorIndex := 22, attributes := #[] }, { accessFlags := 2, nameIndex := 25, descriptorIndex := 26, attributes := #[] }, { accessFlags := 26, nameIndex := 1116, descriptorIndex := 1117, attributes := #[] }, { accessFlags := 24, nameIndex := 40, descriptorIndex := 26, attributes := #[] }, { accessFlags := 26, nameIndex := 1101, descriptorIndex := 1102, attributes := #[] }, { accessFlags := 26, nameIndex := 1121, descriptorIndex := 1122, attributes := #[] }, { accessFlags := 25, nameIndex := 599, descriptorIndex := 600, attributes := #[] }, { accessFlags := 24, nameIndex := 1125, descriptorIndex := 18, attributes := #[] }, { accessFlags := 24, nameIndex := 1127, descriptorIndex := 18, attributes := #[] }])
  fields := #[{ name := "value", type := (.array .byte), accessFlags := 18, slot := 0, constantValue := 0 }, { name := "coder", type := .byte, accessFlags := 18, slot := 1, constantValue := 0 }, { name := "hash", type := .int, accessFlags := 2, slot := 2, constantValue := 0 }, { name := "hashIsZero", type := .boolean, accessFlags := 2, slot := 3, constantValue := 0 }, { name := "serialVersionUID", type := .long, accessFlags := 26, slot := 0, constantValue := 0 }, { name := "COMPACT_STRINGS", type := .boolean, accessFlags := 24, slot := 1, constantValue := 0 }, { name := "serialPersistentFields", type := (.array (.object "java/io/ObjectStreamField")), accessFlags := 26, slot := 2, constantValue := 0 }, { name := "REPL", type := .char, accessFlags := 26, slot := 3, constantValue := 0 }, { name := "CASE_INSENSITIVE_ORDER", type := (.object "java/util/Comparator"), accessFlags := 25, slot := 4, constantValue := 0 }, { name := "LATIN1", type := .byte, accessFlags := 24, slot := 5, constantValue := 0 }, { name := "UTF16", type := .byte, accessFlags := 24, slot := 6, constantValue := 0 }]
  methods := #[k9m0]
  instanceTypes := #[(.array .byte), .byte, .int, .boolean]
  staticTypes := #[.long, .boolean, (.array (.object "java/io/ObjectStreamField")), .char, (.object "java/util/Comparator"), .byte, .byte]
  resolved := Array.replicate 1451 none
  statics := none }

def pool10 : Array CpInfo := pool [(1, u "java/lang/Cloneable"), (0, .class_ 1), (0, u "java/lang/Object"), (0, .class_ 3)] 3

/-- java/lang/Cloneable -/
def k10 : Class := { plain "java/lang/Cloneable" (some 0) with
  accessFlags := 1537
  interfaces := #[]
  cf := some (fileOf pool10 2 #[] #[] 1537 4 #[] #[])
  fields := #[]
  methods := #[]
  instanceTypes := #[]
  staticTypes := #[]
  resolved := Array.replicate 8 none
  statics := none }

/-- the primitive byte -/
def k11 : Class := { plain "byte" none with kind := .primitive 'B', accessFlags := 0x411 }
/-- [B -/
def k12 : Class := { plain "[B" (some 0) with kind := .array 11 .byte, interfaces := #[10, 4], accessFlags := 1041 }

/-- the primitive int -/
def k13 : Class := { plain "int" none with kind := .primitive 'I', accessFlags := 0x411 }
/-- [I -/
def k14 : Class := { plain "[I" (some 0) with kind := .array 13 .int, interfaces := #[10, 4], accessFlags := 1041 }

def heap : Heap := #[]
def classes : Array Class := #[k0, k1, k2, k3, k4, k5, k6, k7, k8, k9, k10, k11, k12, k13, k14]
def interned : List (Array UInt16 × Addr) := []
def slotsUsed : Nat := 0
def theMethod : MethodId := ⟨1, 1⟩
def args0 : Array Value := #[.int 5, .long 7, .long 3, .long 4, .long 6]
def aboutOver (below : List Frame) : State where
  vm := { classes := classes, interned := interned.toArray }
  heap := heap
  slotsUsed := slotsUsed
  threads := #[{ frames := .invoking theMethod args0 :: below }]
def below0 : List Frame := [.native { method := ⟨0, 0⟩, args := #[] }]
def about1 : State := aboutOver below0
def p0 : Program := .bare "" "" ""
def e0 : Env := launch0.env 0 0 0
theorem w_frames : about1.frames = Frame.invoking theMethod args0 :: below0 := rfl
set_option maxRecDepth 65536 in
theorem w_args : argsFit about1.vm theMethod args0 = true := by decide +kernel
set_option maxRecDepth 65536 in
theorem w_heap : heapFits about1 = true := by decide +kernel
set_option maxRecDepth 65536 in
theorem w_runnable : about1.curStatus? = some .runnable := by decide +kernel
set_option maxRecDepth 65536 in
theorem w_alone : about1.alone = true := by decide +kernel
set_option maxRecDepth 65536 in
theorem w_named : about1.methodNamed? x = some theMethod := by decide +kernel
set_option maxRecDepth 65536 in
theorem w_hears : about1.hears theMethod below0 = true := by decide +kernel
set_option maxRecDepth 65536 in
theorem w_ripe : about1.ripe theMethod args0 below0 = true := by decide +kernel
theorem w_running : about1.status = .running := rfl
set_option maxRecDepth 65536 in
theorem w_room : about1.hasRoom e0.platform room_1 = true :=
  launch0.hasRoom_least _ room_1 (by decide +kernel) (by decide +kernel) (by decide +kernel) (by decide +kernel) (by decide +kernel) (by decide +kernel)
theorem allAtoms_all (ts : List Jvm.Cond) (a : Array Jvm.Value) (st : Jvm.State) : (allAtoms ts).before a st = ts.all (fun c => c.before a st) := by
  induction ts with
  | nil => rfl
  | cons c t ih =>
    show (Jvm.Cond.and c (allAtoms t)).before a st = _
    rw [Jvm.Cond.before_and, ih, List.all_cons]
def words1 : List Jvm.Cond := Jvm.Cond.code x code maxLocals ret :: tables_1
/-- a 'code' word, met by the world's own term for the bytes: nothing is compared byte by byte -/
theorem code_word {y : MethodName} {bytes : ByteArray} {mx : Nat} {rt : Option FieldType} {a : Array Value} {s : State} {m : MethodId} {meth : Method} {c : Code} (h1 : s.methodNamed? y = some m) (h2 : s.vm.method? m = some meth) (h3 : meth.code = some c) (h4 : c.code = bytes)
    (h5 : (c.maxLocals == mx && c.exceptionTable.isEmpty && decide (c.maxStack ≤ mostOperands) && decide (meth.sig.returnType = rt) && !meth.locks && decide (parseMethodDescriptor y.desc = some meth.sig)) = true) : (Jvm.Cond.code y bytes mx rt).before a s = true := by
  simp only [Bool.and_eq_true, beq_iff_eq, Bool.not_eq_true', decide_eq_true_eq] at h5
  obtain ⟨⟨⟨⟨⟨g1, g2⟩, g3⟩, g4⟩, g5⟩, g6⟩ := h5
  simp [Cond.before, Cond.holds, Cond.value, h1, h2, h3, h4, g1, g2, g3, g4, g5, g6]
def isCode : Jvm.Cond → Bool
  | .code _ _ _ _ => true
  | _ => false
theorem all_split {L : List Jvm.Cond} {P : Jvm.Cond → Bool} (h1 : L.all (fun c => isCode c || P c) = true) (h2 : ∀ c ∈ L.filter isCode, P c = true) : L.all P = true := by
  refine List.all_eq_true.mpr fun c hc => ?_
  have h := List.all_eq_true.mp h1 c hc
  rcases Bool.eq_false_or_eq_true (isCode c) with hi | hi
  · exact h2 c (List.mem_filter.mpr ⟨hc, hi⟩)
  · simpa [hi] using h
set_option maxRecDepth 65536 in
theorem w_c0 : (Jvm.Cond.code x code maxLocals ret).before args0 about1 = true := code_word (m := ⟨1, 1⟩) (meth := k1m1) (c := k1c1) (by decide +kernel) rfl rfl rfl (by decide +kernel)
set_option maxRecDepth 65536 in
theorem w_c1 : (Jvm.Cond.code ({ cls := "com/example/preemptlens/preemptlens/ctf/Clock", name := "<init>", desc := "(Ljava/lang/String;JJJ)V" } : Jvm.MethodName) prog_109_method_1_code (8 : Nat) (Option.none : Option Jvm.ClassFile.FieldType)).before args0 about1 = true := code_word (m := ⟨3, 0⟩) (meth := k3m0) (c := k3c0) (by decide +kernel) rfl rfl rfl (by decide +kernel)
set_option maxRecDepth 65536 in
theorem w_c2 : (Jvm.Cond.code ({ cls := "java/lang/Record", name := "<init>", desc := "()V" } : Jvm.MethodName) jdk_30_method_1_code (1 : Nat) (Option.none : Option Jvm.ClassFile.FieldType)).before args0 about1 = true := code_word (m := ⟨2, 0⟩) (meth := k2m0) (c := k2c0) (by decide +kernel) rfl rfl rfl (by decide +kernel)
set_option maxRecDepth 65536 in
theorem w_c3 : (Jvm.Cond.code ({ cls := "java/lang/Object", name := "<init>", desc := "()V" } : Jvm.MethodName) object_method_1_code (1 : Nat) (Option.none : Option Jvm.ClassFile.FieldType)).before args0 about1 = true := code_word (m := ⟨0, 0⟩) (meth := k0m0) (c := k0c0) (by decide +kernel) rfl rfl rfl (by decide +kernel)
set_option maxRecDepth 65536 in
theorem w_c4 : (Jvm.Cond.code ({ cls := "com/example/preemptlens/preemptlens/ctf/Clock", name := "toNanos", desc := "(J)J" } : Jvm.MethodName) prog_109_method_2_code (9 : Nat) (Option.some Jvm.ClassFile.FieldType.long)).before args0 about1 = true := code_word (m := ⟨3, 1⟩) (meth := k3m1) (c := k3c1) (by decide +kernel) rfl rfl rfl (by decide +kernel)
def codes1 : List Jvm.Cond := [Jvm.Cond.code x code maxLocals ret, Jvm.Cond.code ({ cls := "com/example/preemptlens/preemptlens/ctf/Clock", name := "<init>", desc := "(Ljava/lang/String;JJJ)V" } : Jvm.MethodName) prog_109_method_1_code (8 : Nat) (Option.none : Option Jvm.ClassFile.FieldType), Jvm.Cond.code ({ cls := "java/lang/Record", name := "<init>", desc := "()V" } : Jvm.MethodName) jdk_30_method_1_code (1 : Nat) (Option.none : Option Jvm.ClassFile.FieldType), Jvm.Cond.code ({ cls := "java/lang/Object", name := "<init>", desc := "()V" } : Jvm.MethodName) object_method_1_code (1 : Nat) (Option.none : Option Jvm.ClassFile.FieldType), Jvm.Cond.code ({ cls := "com/example/preemptlens/preemptlens/ctf/Clock", name := "toNanos", desc := "(J)J" } : Jvm.MethodName) prog_109_method_2_code (9 : Nat) (Option.some Jvm.ClassFile.FieldType.long)]
set_option maxRecDepth 65536 in
theorem codes_eq : words1.filter isCode = codes1 := rfl
theorem w_codes : ∀ c ∈ words1.filter isCode, c.before args0 about1 = true := by
  rw [codes_eq]
  intro c hc
  simp only [codes1, List.mem_cons, List.not_mem_nil, or_false] at hc
  rcases hc with rfl | rfl | rfl | rfl | rfl
  · exact w_c0
  · exact w_c1
  · exact w_c2
  · exact w_c3
  · exact w_c4
set_option maxRecDepth 65536 in
theorem w_t1 : (words1.take 24).all (fun c => isCode c || c.before args0 about1) = true := by decide +kernel
set_option maxRecDepth 65536 in
theorem w_t2 : (words1.drop 24).all (fun c => isCode c || c.before args0 about1) = true := by decide +kernel
theorem w_tables : (allAtoms (Jvm.Cond.code x code maxLocals ret :: tables_1)).before args0 about1 = true := by
  rw [allAtoms_all]
  show words1.all (fun c => c.before args0 about1) = true
  refine all_split ?_ w_codes
  rw [← List.take_append_drop 24 words1, List.all_append, w_t1, w_t2]
  rfl
set_option maxRecDepth 65536 in
theorem w_case : (Jvm.Cond.and given_1 narrow_1).before args0 about1 = true := by decide +kernel
theorem w_applies : (headSpec (Jvm.Cond.code x code maxLocals ret :: tables_1) room_1).applies x e0.platform about1 = true :=
  (Spec.applies_iff w_frames).mpr ⟨w_running, w_runnable, w_alone, w_named, w_hears, w_ripe, w_room, w_tables⟩
theorem atStart : AtStart classFile x code maxLocals ret World_1 tables_1 room_1 Calls_1 rest_1 Pre_1 launch0 p0 e0 about1 theMethod args0 below0 :=
  ⟨lists_1, trivial, launch0.admits_env _ _ _, launch0.least_env, fairChoices_fair.cas, fairChoices_fair.clock, w_frames, w_args, w_heap, w_applies, trivial, trivial, w_case⟩
end start1
theorem witness_1 : WitnessClaimed_1 := ⟨start1.p0, start1.e0, start1.about1, start1.theMethod, start1.args0, start1.below0, start1.atStart⟩
end Jvm.Pilot.@@N@@
