import JvmDerived
import JvmDerived.Pilot.@@N@@Statement
import JvmDerived.Pilot.@@N@@Code
set_option linter.unusedVariables false
set_option linter.unusedSimpArgs false
namespace Jvm.RoadKit
open Sem ClassFile Op Lib Jvm.Stand Jvm.Free Jvm.LawKit
section New
variable {p : Program} {l : Launch} {e : Env} {R : Room} {s : State} {m : MethodId} {args : Array Value} {below : List Frame} {meth : Method} {c : Code} {T : State} {locs : List Loc} {cells slots : Nat}
theorem retI (X : Stand p l e R s m args below meth c T locs cells slots) (hx : p.tables.exec = Jvm.exec) {pc : Nat} {Ls : Array Slot} {z : Int32} {rest : List Value} (hret : meth.sig.returnType = some .int) (hd : decode c.code pc = .ok (.ireturn, 1)) {fs : List Frame}
    (hl : ∀ (f : JFrame) (acts : List Action), f.method = m → f.locked = none → f.entered = [] → (doReturn e (T.setTop f) acts (some (.int z))).1 = T.setFrames fs) : Steps p.tables e below (T.setTop (mkF m pc Ls (.int z :: rest))) (T.setFrames fs) := by
  have hm' : T.vm.method? m = some meth := X.method'
  have hn : narrow .int (.int z) = .int z := rfl
  show Steps p.tables e below (T.setTop { method := m, pc := pc, locals := Ls, stack := _ :: rest, locked := none }) _
  jvm_step X.here [X.here.top, hx, hd, hm', hret, hn]
  first | (intro acts; rw [hl _ acts rfl rfl rfl]) | rw [hl _ _ rfl rfl rfl]
  exact Steps.refl _
end New
end Jvm.RoadKit
namespace Jvm.Pilot.@@N@@
open Jvm Jvm.ClassFile Sem Op Lib Jvm.Free Jvm.Stand Jvm.LawKit Jvm.RoadKit Bundle Jvm.Pilot.@@N@@.Jvm.D
section OwnKit
variable {p : Program} {l : Launch} {e : Env} {R : Room} {s : State} {m : MethodId} {args : Array Value} {below : List Frame} {meth : Method} {c : Code} {T : State} {locs : List Loc} {cells slots : Nat}
/-- from S the run comes to a return of which F holds -/
def Goes (tb : Tables) (e : Env) (below : List Frame) (s : State) (F : Option Value → Heap → List Loc → Prop) (k n : Nat) (S : State) : Prop :=
  ∃ s₂ o, Steps tb e below S s₂ ∧ s₂.status = .running ∧ Ended s₂ below o ∧ ∃ v L, o = .returned v ∧ F v s₂.heap L ∧ FrameEnd s o s₂ L k n
theorem Goes.of {tb : Tables} {F : Option Value → Heap → List Loc → Prop} {k n : Nat} {S S' : State} (h : ∀ t, Steps tb e below S' t → Steps tb e below S t) (g : Goes tb e below s F k n S') : Goes tb e below s F k n S := by
  obtain ⟨s₂, o, h1, r⟩ := g
  exact ⟨s₂, o, h _ h1, r⟩
theorem Goes.mono {tb : Tables} {F G : Option Value → Heap → List Loc → Prop} {k n : Nat} {S : State} (h : ∀ v h L, F v h L → G v h L) (g : Goes tb e below s F k n S) : Goes tb e below s G k n S := by
  obtain ⟨s₂, o, h1, h2, h3, v, L, h4, h5, h6⟩ := g
  exact ⟨s₂, o, h1, h2, h3, v, L, h4, h _ _ _ h5, h6⟩
theorem Goes.fin (X : Stand p l e R s m args below meth c T locs cells slots) (hlk : meth.locks = false) {v : Option Value} {F : Option Value → Heap → List Loc → Prop} {k n : Nat} {S : State} (hv : meth.sig.returnType = none → v = none)
    (step : ∀ fs, (∀ (f : JFrame) (acts : List Action), f.method = m → f.locked = none → f.entered = [] → (doReturn e (T.setTop f) acts v).1 = T.setFrames fs) → Steps p.tables e below S (T.setFrames fs)) (hF : F v T.heap locs) (hk : cells ≤ k) (hn : slots ≤ n) : Goes p.tables e below s F k n S := by
  obtain ⟨fs, hr, hrun, hended, hW, hsame⟩ := X.leave hv hlk
  exact ⟨_, _, step fs hr, hrun, hended, v, locs, rfl, hF, ⟨_, rfl⟩, hW, hsame.mono hk hn⟩
end OwnKit
section OwnArr
variable {p : Program} {l : Launch} {e : Env} {R : Room} {s : State} {m : MethodId} {args : Array Value} {below : List Frame} {meth : Method} {c : Code} {T : State} {locs : List Loc} {cells slots : Nat} {Z : State} {h h' : Heap} {a b : Addr} {ty : FieldType} {n i : Nat} {f : Nat → Int32} {ws : List Addr} {sl : Nat} {w : Value}
/-- at a stands an array of n places; place j holds f j -/
def AI (Z : State) (h : Heap) (a : Addr) (ty : FieldType) (n : Nat) (f : Nat → Int32) : Prop :=
  ∃ c : Cell, Arr Z h a c ty ∧ c.slots.size = n ∧ n < 2147483648 ∧ ∀ j, j < n → c.slots[j]? = some (.int (f j)) ∧ fits ty (.int (f j)) = true
def upd (f : Nat → Int32) (i : Nat) (v : Int32) : Nat → Int32 := fun j => if j = i then v else f j
theorem AI.lt (F : AI Z h a ty n f) : a < h.size := by obtain ⟨c, A, -⟩ := F; exact A.lt
theorem AI.ext (F : AI Z h a ty n f) (E : Ext h h') : AI Z h' a ty n f := by obtain ⟨c, A, r⟩ := F; exact ⟨c, A.ext E, r⟩
theorem AI.other (F : AI Z h a ty n f) (W : Wr h h' b sl w) (q : a ≠ b) : AI Z h' a ty n f := by obtain ⟨c, A, r⟩ := F; exact ⟨c, A.other W q, r⟩
theorem AI.keep (F : AI Z h a ty n f) (K : Keep h h' ws) (q : a ∉ ws) : AI Z h' a ty n f := by obtain ⟨c, A, r⟩ := F; exact ⟨c, ⟨K.2.1 a c A.1 q, A.2⟩, r⟩
theorem AI.congr {f' : Nat → Int32} (F : AI Z h a ty n f) (q : ∀ j, j < n → f j = f' j) : AI Z h a ty n f' := by
  obtain ⟨c, A, S, M, H⟩ := F
  exact ⟨c, A, S, M, fun j hj => by rw [← q j hj]; exact H j hj⟩
theorem AI.fits (F : AI Z h a ty n f) {j : Nat} (hj : j < n) : Jvm.fits ty (.int (f j)) = true := by
  obtain ⟨c, A, S, M, H⟩ := F
  exact (H j hj).2
theorem AI.new {cA : ClassId} {z : Int32} (hd : defaultValue ty = .int 0) (hf : Jvm.fits ty (.int 0) = true) (A : Arr Z h a (newA cA ty z) ty) (q : ¬ z < 0) (hn : z.toNatClampNeg = n) : AI Z h a ty n (fun _ => 0) := by
  subst hn
  refine ⟨_, A, sz_new _ _ _, (back32 q).2, fun j hj => ⟨?_, hf⟩⟩
  show (Array.replicate z.toNatClampNeg (defaultValue ty))[j]? = _
  rw [hd, Array.getElem?_replicate, if_pos hj]
theorem AI.set {v : Int32} (F : AI Z h a ty n f) (W : Wr h h' a i (.int v)) (hv : Jvm.fits ty (.int v) = true) : AI Z h' a ty n (upd f i v) := by
  obtain ⟨c, A, S, M, H⟩ := F
  refine ⟨c.setSlot i (.int v), A.same W, by rw [sz_set]; exact S, M, fun j hj => ?_⟩
  show (c.slots.setIfInBounds i (.int v))[j]? = _ ∧ _
  by_cases q : j = i
  · subst q
    rw [Array.getElem?_setIfInBounds_self_of_lt (by omega)]
    have e : upd f j v j = v := if_pos rfl
    rw [e]; exact ⟨rfl, hv⟩
  · rw [Array.getElem?_setIfInBounds_ne (Ne.symm q)]
    have e : upd f i v j = f j := if_neg q
    rw [e]; exact H j hj
theorem own_nn {j : Int32} (h : 0 ≤ j.toInt) : ¬ j < 0 := by
  rw [Int32.lt_iff_toInt_lt, show (0 : Int32).toInt = 0 from rfl]; omega
theorem own_ltn {j : Int32} {n : Nat} (h0 : 0 ≤ j.toInt) (h : j.toInt < n) : j.toNatClampNeg < n := by
  simp only [Int32.toNatClampNeg]; omega
theorem own_tn {z : Int32} {n : Nat} (h : z.toInt = n) : z.toNatClampNeg = n := by
  simp only [Int32.toNatClampNeg]; omega
theorem own_inc {i : Int32} (h : i.toInt < 2147483647) : (i + (1 : Int32)).toInt = i.toInt + 1 := by
  have a := c_iadd i 1
  have r := rng32 (i + 1)
  have r2 := rng32 i
  rw [show (1 : Int32).toInt = 1 from rfl] at a
  omega
theorem own_ilt {a b : Int32} (h : a.toInt < b.toInt) : a < b := by rw [Int32.lt_iff_toInt_lt]; exact h
theorem own_nlt {a b : Int32} (h : b.toInt ≤ a.toInt) : ¬ a < b := by rw [Int32.lt_iff_toInt_lt]; omega
theorem own_ltI {a b : Int32} (h : a < b) : a.toInt < b.toInt := Int32.lt_iff_toInt_lt.mp h
theorem own_geI {a b : Int32} (h : ¬ a < b) : b.toInt ≤ a.toInt := by rw [Int32.lt_iff_toInt_lt] at h; omega
theorem own_neI {a b : Int32} (h : ¬ a = b) : a.toInt ≠ b.toInt := fun q => h (Int32.toInt_inj.mp q)
theorem own_turn {G : Nat → Int32} {n k i : Nat} {w : Int32} (hi : i + (k + 1) = n) (hw : w = G i) : ∀ j, j < n → upd (fun j => if j + (k + 1) < n then G j else 0) i w j = if j + k < n then G j else 0 := by
  intro j hj
  by_cases q : j = i
  · subst q
    rw [if_pos (by omega)]
    exact (if_pos rfl).trans hw
  · refine (if_neg q).trans ?_
    by_cases r : j + (k + 1) < n
    · show (if _ then _ else _) = _
      rw [if_pos r, if_pos (by omega)]
    · show (if _ then _ else _) = _
      rw [if_neg r, if_neg (by omega)]
theorem own_turn2 {D : Nat → Int32} {n k i : Nat} {w : Int32} (hi : i + (k + 1) = n) : ∀ j, j < n → upd (fun j => if j + (k + 1) < n then w else D j) i w j = if j + k < n then w else D j := by
  intro j hj
  by_cases q : j = i
  · subst q
    rw [if_pos (by omega)]
    exact if_pos rfl
  · refine (if_neg q).trans ?_
    by_cases r : j + (k + 1) < n
    · show (if _ then _ else _) = _
      rw [if_pos r, if_pos (by omega)]
    · show (if _ then _ else _) = _
      rw [if_neg r, if_neg (by omega)]
theorem own_in {cl : Cell} {j : Int32} (S : cl.slots.size = n) (h0 : ¬ j < 0) (hi : j.toNatClampNeg = i) (hn : i < n) : ¬ (j < 0 ∨ cl.slots.size ≤ j.toNatClampNeg) := by
  rintro (q | q)
  · exact h0 q
  · omega
theorem ldI (X : Stand p l e R s m args below meth c T locs cells slots) (hx : p.tables.exec = Jvm.exec) (hZ : Z.Warmed39 s.vm) (eT : T.heap = h) (F : AI Z h a .int n f) {j v : Int32} (h0 : ¬ j < 0) (hi : j.toNatClampNeg = i) (hn : i < n) (hv : f i = v) {g : JFrame} (hg : g.method = m) {rest : List Value} (hs : g.stack = .int j :: .ref a :: rest) (hd : decode c.code g.pc = .ok (.iaload, 1)) (t : State)
    (k : Steps p.tables e below (T.setTop { g with pc := g.pc + 1, stack := .int v :: rest }) t) : Steps p.tables e below (T.setTop g) t := by
  obtain ⟨cl, A, S, M, H⟩ := F
  exact X.iaload hx (j := j) (v := .int v) (by rw [eT]; exact A.1) (State.isArrayOf_alike hZ.alike A.2.1) A.2.2 (own_in S h0 hi hn) (by rw [hi, (H i hn).1, hv]) hg hs hd t k
theorem ldB (X : Stand p l e R s m args below meth c T locs cells slots) (hx : p.tables.exec = Jvm.exec) (hZ : Z.Warmed39 s.vm) (eT : T.heap = h) (F : AI Z h a .byte n f) {j v : Int32} (h0 : ¬ j < 0) (hi : j.toNatClampNeg = i) (hn : i < n) (hv : f i = v) {g : JFrame} (hg : g.method = m) {rest : List Value} (hs : g.stack = .int j :: .ref a :: rest) (hd : decode c.code g.pc = .ok (.baload, 1)) (t : State)
    (k : Steps p.tables e below (T.setTop { g with pc := g.pc + 1, stack := .int v :: rest }) t) : Steps p.tables e below (T.setTop g) t := by
  obtain ⟨cl, A, S, M, H⟩ := F
  exact X.baloadBytes hx (j := j) (v := .int v) (by rw [eT]; exact A.1) (State.isArrayOf_alike hZ.alike A.2.1) A.2.2 (own_in S h0 hi hn) (by rw [hi, (H i hn).1, hv]) hg hs hd t k
theorem ldZ (X : Stand p l e R s m args below meth c T locs cells slots) (hx : p.tables.exec = Jvm.exec) (hZ : Z.Warmed39 s.vm) (eT : T.heap = h) (F : AI Z h a .boolean n f) {j v : Int32} (h0 : ¬ j < 0) (hi : j.toNatClampNeg = i) (hn : i < n) (hv : f i = v) {g : JFrame} (hg : g.method = m) {rest : List Value} (hs : g.stack = .int j :: .ref a :: rest) (hd : decode c.code g.pc = .ok (.baload, 1)) (t : State)
    (k : Steps p.tables e below (T.setTop { g with pc := g.pc + 1, stack := .int v :: rest }) t) : Steps p.tables e below (T.setTop g) t := by
  obtain ⟨cl, A, S, M, H⟩ := F
  exact X.baloadBooleans hx (j := j) (v := .int v) (by rw [eT]; exact A.1) (State.isArrayOf_alike hZ.alike A.2.1) A.2.2 (own_in S h0 hi hn) (by rw [hi, (H i hn).1, hv]) hg hs hd t k
theorem putI (X : Stand p l e R s m args below meth c T locs cells slots) (hx : p.tables.exec = Jvm.exec) (hZ : Z.Warmed39 s.vm) (eT : T.heap = h) (F : AI Z h a .int n f) {j x : Int32} (h0 : ¬ j < 0) (hi : j.toNatClampNeg = i) (hn : i < n) {g : JFrame} (hg : g.method = m) {rest : List Value} (hs : g.stack = .int x :: .int j :: .ref a :: rest) (hd : decode c.code g.pc = .ok (.iastore, 1)) :
    ∃ T' h', Stand p l e R s m args below meth c T' (locs ++ [⟨a, i⟩]) cells slots ∧ T'.heap = h' ∧ Wr h h' a i (.int x) ∧ AI Z h' a .int n (upd f i x) ∧ ∀ t, Steps p.tables e below (T'.setTop { g with pc := g.pc + 1, stack := rest }) t → Steps p.tables e below (T.setTop g) t := by
  have F0 := F
  obtain ⟨cl, A, S, M, H⟩ := F
  subst hi
  obtain ⟨T', h', X', e', W, st⟩ := stI X hx hZ eT A (own_in S h0 rfl hn) hg hs hd
  exact ⟨T', h', X', e', W, F0.set W rfl, st⟩
theorem putB (X : Stand p l e R s m args below meth c T locs cells slots) (hx : p.tables.exec = Jvm.exec) (hZ : Z.Warmed39 s.vm) (eT : T.heap = h) (F : AI Z h a .byte n f) {j x : Int32} (h0 : ¬ j < 0) (hi : j.toNatClampNeg = i) (hn : i < n) {g : JFrame} (hg : g.method = m) {rest : List Value} (hs : g.stack = .int x :: .int j :: .ref a :: rest) (hd : decode c.code g.pc = .ok (.bastore, 1)) :
    ∃ T' h', Stand p l e R s m args below meth c T' (locs ++ [⟨a, i⟩]) cells slots ∧ T'.heap = h' ∧ Wr h h' a i (.int x.toInt8.toInt32) ∧ AI Z h' a .byte n (upd f i x.toInt8.toInt32) ∧ ∀ t, Steps p.tables e below (T'.setTop { g with pc := g.pc + 1, stack := rest }) t → Steps p.tables e below (T.setTop g) t := by
  have F0 := F
  obtain ⟨cl, A, S, M, H⟩ := F
  subst hi
  obtain ⟨T', h', X', e', W, st⟩ := stB X hx hZ eT A (own_in S h0 rfl hn) hg hs hd
  exact ⟨T', h', X', e', W, F0.set W (fits_nar_byte x), st⟩
theorem putZ (X : Stand p l e R s m args below meth c T locs cells slots) (hx : p.tables.exec = Jvm.exec) (hZ : Z.Warmed39 s.vm) (eT : T.heap = h) (F : AI Z h a .boolean n f) {j x : Int32} (h0 : ¬ j < 0) (hi : j.toNatClampNeg = i) (hn : i < n) {g : JFrame} (hg : g.method = m) {rest : List Value} (hs : g.stack = .int x :: .int j :: .ref a :: rest) (hd : decode c.code g.pc = .ok (.bastore, 1)) :
    ∃ T' h', Stand p l e R s m args below meth c T' (locs ++ [⟨a, i⟩]) cells slots ∧ T'.heap = h' ∧ Wr h h' a i (.int (x &&& 1)) ∧ AI Z h' a .boolean n (upd f i (x &&& 1)) ∧ ∀ t, Steps p.tables e below (T'.setTop { g with pc := g.pc + 1, stack := rest }) t → Steps p.tables e below (T.setTop g) t := by
  have F0 := F
  obtain ⟨cl, A, S, M, H⟩ := F
  subst hi
  obtain ⟨T', h', X', e', W, st⟩ := stZ X hx hZ eT A (own_in S h0 rfl hn) hg hs hd
  exact ⟨T', h', X', e', W, F0.set W (fits_nar_bool x), st⟩
theorem lenA (X : Stand p l e R s m args below meth c T locs cells slots) (hx : p.tables.exec = Jvm.exec) (hZ : Z.Warmed39 s.vm) (eT : T.heap = h) (F : AI Z h a ty n f) {z : Int32} (hz : z.toInt = n) {g : JFrame} (hg : g.method = m) {rest : List Value} (hs : g.stack = .ref a :: rest) (hd : decode c.code g.pc = .ok (.arraylength, 1)) (t : State)
    (k : Steps p.tables e below (T.setTop { g with pc := g.pc + 1, stack := .int z :: rest }) t) : Steps p.tables e below (T.setTop g) t := by
  obtain ⟨cl, A, S, M, H⟩ := F
  have e1 : cl.slots.size.toInt32 = z := by rw [S]; exact Int32.toInt_inj.mp (by rw [len_toInt M, hz])
  exact X.arraylength hx (by rw [eT]; exact A.1) (State.isArrayOf_alike hZ.alike A.2.1) hg hs hd t (by rw [e1]; exact k)
end OwnArr
theorem d1_0 : decode method_3_code 0 = .ok (.aload_n 0, 1) := by decide +kernel
theorem d1_1 : decode method_3_code 1 = .ok (.iload_n 1, 1) := by decide +kernel
theorem d1_2 : decode method_3_code 2 = .ok (.iaload, 1) := by decide +kernel
theorem d1_3 : decode method_3_code 3 = .ok (.istore_n 3, 1) := by decide +kernel
theorem d1_4 : decode method_3_code 4 = .ok (.aload_n 0, 1) := by decide +kernel
theorem d1_5 : decode method_3_code 5 = .ok (.iload_n 1, 1) := by decide +kernel
theorem d1_6 : decode method_3_code 6 = .ok (.aload_n 0, 1) := by decide +kernel
theorem d1_7 : decode method_3_code 7 = .ok (.iload_n 2, 1) := by decide +kernel
theorem d1_8 : decode method_3_code 8 = .ok (.iaload, 1) := by decide +kernel
theorem d1_9 : decode method_3_code 9 = .ok (.iastore, 1) := by decide +kernel
theorem d1_10 : decode method_3_code 10 = .ok (.aload_n 0, 1) := by decide +kernel
theorem d1_11 : decode method_3_code 11 = .ok (.iload_n 2, 1) := by decide +kernel
theorem d1_12 : decode method_3_code 12 = .ok (.iload_n 3, 1) := by decide +kernel
theorem d1_13 : decode method_3_code 13 = .ok (.iastore, 1) := by decide +kernel
theorem d1_14 : decode method_3_code 14 = .ok (.return_, 1) := by decide +kernel
theorem pn_0 : plainName "com/example/slotwright/slotwright/problems/IndexSetRemovePinLaw" = true := by first | (simp [plainName, overriddenIn]; done) | decide +kernel
theorem ef_1 (m : MethodId) (a : Addr) (i : Int32) (j : Int32) : entryFrame m #[(.ref a), (.int i), (.int j)] 4 = mkF m 0 #[.val (.ref a), .val (.int i), .val (.int j), .unset] [] := by first | (simp [entryFrame, mkF, argsToLocals, Value.category]; done) | rfl
def Q1 (Z : State) (a : Addr) (i j : Int32) (n : Nat) (f : Nat → Int32) (h0 : Heap) (n0 : Nat) (v : Option Value) (h : Heap) (L : List Loc) : Prop := v = none ∧ Fr n0 L ∧ Keep h0 h [a] ∧ AI Z h a .int n (upd (upd f i.toNatClampNeg (f j.toNatClampNeg)) j.toNatClampNeg (f i.toNatClampNeg))
set_option maxRecDepth 65536 in
set_option maxHeartbeats 40000000 in
theorem rm1 (l : Launch) (Z : State) (a0 : Array Value) (hw : ∀ d ∈ tables_1, d.before a0 Z = true) (ws : List Jvm.Cond) (a : Addr) (i : Int32) (j : Int32) (n : Nat) (f : Nat → Int32) (h0 : Heap) (n0 : Nat) (Z0 : n0 ≤ h0.size) (V_a : AI Z h0 a .int n f) (g_a : n0 ≤ a) (hi : 0 ≤ i.toInt ∧ i.toInt < n) (hj : 0 ≤ j.toInt ∧ j.toInt < n) :
    MetFree l (⟨"com/example/slotwright/slotwright/problems/IndexSetRemovePinLaw", "swap", "([III)V"⟩ : MethodName) (head1 (Jvm.Cond.code (⟨"com/example/slotwright/slotwright/problems/IndexSetRemovePinLaw", "swap", "([III)V"⟩ : MethodName) method_3_code 4 none :: ws) ({ frames := 0, cells := 0, slots := 0, locals := 0 } : Room)) (fun ar' Ur => ar' = #[(.ref a), (.int i), (.int j)] ∧ Z.Warmed39 Ur.vm ∧ Ur.heap = h0) (fun _ _ _ _ _ => True) (fun _ Ur or' Us => ∃ v L, or' = .returned v ∧ Q1 Z a i j n f h0 n0 v Us.heap L ∧ FrameEnd Ur or' Us L 0 0) := by
  refine MetFree.of_bodySF (plainFor_of_name pn_0) hisR ?_
  intro p e s m args below meth c s₁ Bd hml0 hP hK
  obtain ⟨rfl, hZ, hh⟩ := hP
  have hx := Bd.exec
  have hby := Bd.bytes
  have hlk : meth.locks = false := BodyLoose.notSynchronized Bd
  have hml : c.maxLocals = 4 := hml0
  have hown : s.vm.findClass "com/example/slotwright/slotwright/problems/IndexSetRemovePinLaw" = some m.cls := findClass_of_methodNamed Bd.named
  have hnm := (name_of_methodNamed Bd.named Bd.method).1
  have X0 : Stand p l e ({ frames := 0, cells := 0, slots := 0, locals := 0 } : Room) s m #[(.ref a), (.int i), (.int j)] below meth c s₁ [] 0 0 := Stand.of_body Bd
  have e0 : s₁.heap = h0 := by rw [← hh, Bd.state]; rfl
  have N0 := Fr.nil n0
  show Goes p.tables e below s (Q1 Z a i j n f h0 n0) 0 0 (s₁.setTop (entryFrame m #[(.ref a), (.int i), (.int j)] 4))
  refine Goes.of (fun t k => castTop (ef_1 m a i j) k) ?_
  show Goes _ _ _ _ _ _ _ (s₁.setTop (mkF m 0 #[.val (.ref a), .val (.int i), .val (.int j), .unset] []))
  refine Goes.of (fun t k => XS.aloadN X0.here hx rfl (hb hby d1_0) rfl rfl k) ?_
  show Goes _ _ _ _ _ _ _ (s₁.setTop (mkF m 1 #[.val (.ref a), .val (.int i), .val (.int j), .unset] [(.ref a)]))
  refine Goes.of (fun t k => XS.iloadN X0.here hx rfl (hb hby d1_1) rfl k) ?_
  show Goes _ _ _ _ _ _ _ (s₁.setTop (mkF m 2 #[.val (.ref a), .val (.int i), .val (.int j), .unset] [(.int i), (.ref a)]))
  refine Goes.of (fun t k => ldI X0 hx hZ e0 V_a (j := i) (i := i.toNatClampNeg) (v := (f i.toNatClampNeg)) (own_nn (by omega)) rfl (own_ltn (by omega) (by omega)) rfl (g := (mkF m 2 #[.val (.ref a), .val (.int i), .val (.int j), .unset] [(.int i), (.ref a)])) rfl rfl (hb hby d1_2) t k) ?_
  show Goes _ _ _ _ _ _ _ (s₁.setTop (mkF m 3 #[.val (.ref a), .val (.int i), .val (.int j), .unset] [(.int (f i.toNatClampNeg))]))
  refine Goes.of (fun t k => XS.istoreN X0.here hx rfl (hb hby d1_3) rfl (l' := #[.val (.ref a), .val (.int i), .val (.int j), .val (.int (f i.toNatClampNeg))]) rfl k) ?_
  show Goes _ _ _ _ _ _ _ (s₁.setTop (mkF m 4 #[.val (.ref a), .val (.int i), .val (.int j), .val (.int (f i.toNatClampNeg))] []))
  refine Goes.of (fun t k => XS.aloadN X0.here hx rfl (hb hby d1_4) rfl rfl k) ?_
  show Goes _ _ _ _ _ _ _ (s₁.setTop (mkF m 5 #[.val (.ref a), .val (.int i), .val (.int j), .val (.int (f i.toNatClampNeg))] [(.ref a)]))
  refine Goes.of (fun t k => XS.iloadN X0.here hx rfl (hb hby d1_5) rfl k) ?_
  show Goes _ _ _ _ _ _ _ (s₁.setTop (mkF m 6 #[.val (.ref a), .val (.int i), .val (.int j), .val (.int (f i.toNatClampNeg))] [(.int i), (.ref a)]))
  refine Goes.of (fun t k => XS.aloadN X0.here hx rfl (hb hby d1_6) rfl rfl k) ?_
  show Goes _ _ _ _ _ _ _ (s₁.setTop (mkF m 7 #[.val (.ref a), .val (.int i), .val (.int j), .val (.int (f i.toNatClampNeg))] [(.ref a), (.int i), (.ref a)]))
  refine Goes.of (fun t k => XS.iloadN X0.here hx rfl (hb hby d1_7) rfl k) ?_
  show Goes _ _ _ _ _ _ _ (s₁.setTop (mkF m 8 #[.val (.ref a), .val (.int i), .val (.int j), .val (.int (f i.toNatClampNeg))] [(.int j), (.ref a), (.int i), (.ref a)]))
  refine Goes.of (fun t k => ldI X0 hx hZ e0 V_a (j := j) (i := j.toNatClampNeg) (v := (f j.toNatClampNeg)) (own_nn (by omega)) rfl (own_ltn (by omega) (by omega)) rfl (g := (mkF m 8 #[.val (.ref a), .val (.int i), .val (.int j), .val (.int (f i.toNatClampNeg))] [(.int j), (.ref a), (.int i), (.ref a)])) rfl rfl (hb hby d1_8) t k) ?_
  show Goes _ _ _ _ _ _ _ (s₁.setTop (mkF m 9 #[.val (.ref a), .val (.int i), .val (.int j), .val (.int (f i.toNatClampNeg))] [(.int (f j.toNatClampNeg)), (.int i), (.ref a)]))
  obtain ⟨T1, h1, X1, e1, W1, V1, st1⟩ := putI X0 hx hZ e0 V_a (j := i) (x := (f j.toNatClampNeg)) (i := i.toNatClampNeg) (own_nn (by omega)) rfl (own_ltn (by omega) (by omega)) (g := (mkF m 9 #[.val (.ref a), .val (.int i), .val (.int j), .val (.int (f i.toNatClampNeg))] [(.int (f j.toNatClampNeg)), (.int i), (.ref a)])) rfl rfl (hb hby d1_9)
  have Z1 : n0 ≤ h1.size := Nat.le_trans Z0 (Keep.of_wr W1).1
  have K1 : Keep h0 h1 [a] := (Keep.refl h0 [a]).wr W1 (Or.inl (List.mem_of_getElem? (i := 0) rfl))
  have N1 := Fr.snoc X1 N0 g_a
  refine Goes.of st1 ?_
  show Goes _ _ _ _ _ _ _ (T1.setTop (mkF m 10 #[.val (.ref a), .val (.int i), .val (.int j), .val (.int (f i.toNatClampNeg))] []))
  refine Goes.of (fun t k => XS.aloadN X1.here hx rfl (hb hby d1_10) rfl rfl k) ?_
  show Goes _ _ _ _ _ _ _ (T1.setTop (mkF m 11 #[.val (.ref a), .val (.int i), .val (.int j), .val (.int (f i.toNatClampNeg))] [(.ref a)]))
  refine Goes.of (fun t k => XS.iloadN X1.here hx rfl (hb hby d1_11) rfl k) ?_
  show Goes _ _ _ _ _ _ _ (T1.setTop (mkF m 12 #[.val (.ref a), .val (.int i), .val (.int j), .val (.int (f i.toNatClampNeg))] [(.int j), (.ref a)]))
  refine Goes.of (fun t k => XS.iloadN X1.here hx rfl (hb hby d1_12) rfl k) ?_
  show Goes _ _ _ _ _ _ _ (T1.setTop (mkF m 13 #[.val (.ref a), .val (.int i), .val (.int j), .val (.int (f i.toNatClampNeg))] [(.int (f i.toNatClampNeg)), (.int j), (.ref a)]))
  obtain ⟨T2, h2, X2, e2, W2, V2, st2⟩ := putI X1 hx hZ e1 V1 (j := j) (x := (f i.toNatClampNeg)) (i := j.toNatClampNeg) (own_nn (by omega)) rfl (own_ltn (by omega) (by omega)) (g := (mkF m 13 #[.val (.ref a), .val (.int i), .val (.int j), .val (.int (f i.toNatClampNeg))] [(.int (f i.toNatClampNeg)), (.int j), (.ref a)])) rfl rfl (hb hby d1_13)
  have Z2 : n0 ≤ h2.size := Nat.le_trans Z1 (Keep.of_wr W2).1
  have K2 : Keep h0 h2 [a] := K1.wr W2 (Or.inl (List.mem_of_getElem? (i := 0) rfl))
  have N2 := Fr.snoc X2 N1 g_a
  refine Goes.of st2 ?_
  show Goes _ _ _ _ _ _ _ (T2.setTop (mkF m 14 #[.val (.ref a), .val (.int i), .val (.int j), .val (.int (f i.toNatClampNeg))] []))
  exact Goes.fin X2 hlk (v := none) (fun _ => rfl) (fun fs hr => X2.returnOut hx Bd.returns (hb hby d1_14) hr) (by rw [e2]; exact ⟨rfl, N2, K2, V2⟩) (by decide) (by decide)
theorem d4_0 : decode jdk_65_method_103_code 0 = .ok (.iconst 0, 1) := by decide +kernel
theorem d4_1 : decode jdk_65_method_103_code 1 = .ok (.istore_n 2, 1) := by decide +kernel
theorem d4_2 : decode jdk_65_method_103_code 2 = .ok (.aload_n 0, 1) := by decide +kernel
theorem d4_3 : decode jdk_65_method_103_code 3 = .ok (.arraylength, 1) := by decide +kernel
theorem d4_4 : decode jdk_65_method_103_code 4 = .ok (.istore_n 3, 1) := by decide +kernel
theorem d4_5 : decode jdk_65_method_103_code 5 = .ok (.iload_n 2, 1) := by decide +kernel
theorem d4_6 : decode jdk_65_method_103_code 6 = .ok (.iload_n 3, 1) := by decide +kernel
theorem d4_7 : decode jdk_65_method_103_code 7 = .ok (.if_icmp .ge 13, 3) := by decide +kernel
theorem d4_10 : decode jdk_65_method_103_code 10 = .ok (.aload_n 0, 1) := by decide +kernel
theorem d4_11 : decode jdk_65_method_103_code 11 = .ok (.iload_n 2, 1) := by decide +kernel
theorem d4_12 : decode jdk_65_method_103_code 12 = .ok (.iload_n 1, 1) := by decide +kernel
theorem d4_13 : decode jdk_65_method_103_code 13 = .ok (.iastore, 1) := by decide +kernel
theorem d4_14 : decode jdk_65_method_103_code 14 = .ok (.iinc 2 1, 3) := by decide +kernel
theorem d4_17 : decode jdk_65_method_103_code 17 = .ok (.goto (-12), 3) := by decide +kernel
theorem d4_20 : decode jdk_65_method_103_code 20 = .ok (.return_, 1) := by decide +kernel
theorem pn_1 : plainName "java/util/Arrays" = true := by first | (simp [plainName, overriddenIn]; done) | decide +kernel
theorem ef_4 (m : MethodId) (a : Addr) (w0 : Int32) : entryFrame m #[(.ref a), (.int w0)] 4 = mkF m 0 #[.val (.ref a), .val (.int w0), .unset, .unset] [] := by first | (simp [entryFrame, mkF, argsToLocals, Value.category]; done) | rfl
def Q4 (Z : State) (a : Addr) (w0 : Int32) (n : Nat) (h0 : Heap) (n0 : Nat) (v : Option Value) (h : Heap) (L : List Loc) : Prop := v = none ∧ Fr n0 L ∧ Keep h0 h [a] ∧ AI Z h a .int n (fun _ => w0)
set_option maxRecDepth 65536 in
set_option maxHeartbeats 40000000 in
theorem rm4 (l : Launch) (Z : State) (a0 : Array Value) (hw : ∀ d ∈ tables_1, d.before a0 Z = true) (ws : List Jvm.Cond) (a : Addr) (w0 : Int32) (n : Nat) (z : Int32) (f : Nat → Int32) (h0 : Heap) (n0 : Nat) (Z0 : n0 ≤ h0.size) (V_a : AI Z h0 a .int n f) (hz : z.toInt = n) (g_a : n0 ≤ a) :
    MetFree l (⟨"java/util/Arrays", "fill", "([II)V"⟩ : MethodName) (head1 (Jvm.Cond.code (⟨"java/util/Arrays", "fill", "([II)V"⟩ : MethodName) jdk_65_method_103_code 4 none :: ws) ({ frames := 0, cells := 0, slots := 0, locals := 0 } : Room)) (fun ar' Ur => ar' = #[(.ref a), (.int w0)] ∧ Z.Warmed39 Ur.vm ∧ Ur.heap = h0) (fun _ _ _ _ _ => True) (fun _ Ur or' Us => ∃ v L, or' = .returned v ∧ Q4 Z a w0 n h0 n0 v Us.heap L ∧ FrameEnd Ur or' Us L 0 0) := by
  refine MetFree.of_bodySF (plainFor_of_name pn_1) hisR ?_
  intro p e s m args below meth c s₁ Bd hml0 hP hK
  obtain ⟨rfl, hZ, hh⟩ := hP
  have hx := Bd.exec
  have hby := Bd.bytes
  have hlk : meth.locks = false := BodyLoose.notSynchronized Bd
  have hml : c.maxLocals = 4 := hml0
  have hown : s.vm.findClass "java/util/Arrays" = some m.cls := findClass_of_methodNamed Bd.named
  have hnm := (name_of_methodNamed Bd.named Bd.method).1
  have X0 : Stand p l e ({ frames := 0, cells := 0, slots := 0, locals := 0 } : Room) s m #[(.ref a), (.int w0)] below meth c s₁ [] 0 0 := Stand.of_body Bd
  have e0 : s₁.heap = h0 := by rw [← hh, Bd.state]; rfl
  have N0 := Fr.nil n0
  show Goes p.tables e below s (Q4 Z a w0 n h0 n0) 0 0 (s₁.setTop (entryFrame m #[(.ref a), (.int w0)] 4))
  refine Goes.of (fun t k => castTop (ef_4 m a w0) k) ?_
  show Goes _ _ _ _ _ _ _ (s₁.setTop (mkF m 0 #[.val (.ref a), .val (.int w0), .unset, .unset] []))
  refine Goes.of (fun t k => XS.iconst X0.here hx rfl (hb hby d4_0) k) ?_
  show Goes _ _ _ _ _ _ _ (s₁.setTop (mkF m 1 #[.val (.ref a), .val (.int w0), .unset, .unset] [(.int (0 : Int32))]))
  refine Goes.of (fun t k => XS.istoreN X0.here hx rfl (hb hby d4_1) rfl (l' := #[.val (.ref a), .val (.int w0), .val (.int (0 : Int32)), .unset]) rfl k) ?_
  show Goes _ _ _ _ _ _ _ (s₁.setTop (mkF m 2 #[.val (.ref a), .val (.int w0), .val (.int (0 : Int32)), .unset] []))
  refine Goes.of (fun t k => XS.aloadN X0.here hx rfl (hb hby d4_2) rfl rfl k) ?_
  show Goes _ _ _ _ _ _ _ (s₁.setTop (mkF m 3 #[.val (.ref a), .val (.int w0), .val (.int (0 : Int32)), .unset] [(.ref a)]))
  refine Goes.of (fun t k => lenA X0 hx hZ e0 V_a (z := z) hz (g := (mkF m 3 #[.val (.ref a), .val (.int w0), .val (.int (0 : Int32)), .unset] [(.ref a)])) rfl rfl (hb hby d4_3) t k) ?_
  show Goes _ _ _ _ _ _ _ (s₁.setTop (mkF m 4 #[.val (.ref a), .val (.int w0), .val (.int (0 : Int32)), .unset] [(.int z)]))
  refine Goes.of (fun t k => XS.istoreN X0.here hx rfl (hb hby d4_4) rfl (l' := #[.val (.ref a), .val (.int w0), .val (.int (0 : Int32)), .val (.int z)]) rfl k) ?_
  show Goes _ _ _ _ _ _ _ (s₁.setTop (mkF m 5 #[.val (.ref a), .val (.int w0), .val (.int (0 : Int32)), .val (.int z)] []))
  have hn31 : n < 2147483648 := by obtain ⟨_, _, _, M, _⟩ := V_a; exact M
  have loop : ∀ (k : Nat), ∀ (i : Int32) (TT : State) (hp : Heap) (lc : List Loc), Stand p l e ({ frames := 0, cells := 0, slots := 0, locals := 0 } : Room) s m #[(.ref a), (.int w0)] below meth c TT lc 0 0 → TT.heap = hp → Fr n0 lc → Keep h0 hp [a] → AI Z hp a .int n (fun j => if j + k < n then w0 else f j) → i.toInt + (k : Nat) = n → 0 ≤ i.toInt → Goes p.tables e below s (Q4 Z a w0 n h0 n0) 0 0 (TT.setTop (mkF m 5 #[.val (.ref a), .val (.int w0), .val (.int i), .val (.int z)] [])) := by
    intro k
    induction k with
    | zero =>
      intro i TT hp lc XT eT NT KT VT hi hnn
      have ZT : n0 ≤ hp.size := Nat.le_trans Z0 KT.1
      have hlt : ¬ i < z := own_nlt (by omega)
      show Goes _ _ _ _ _ _ _ (TT.setTop (mkF m 5 #[.val (.ref a), .val (.int w0), .val (.int i), .val (.int z)] []))
      refine Goes.of (fun t k => XS.iloadN XT.here hx rfl (hb hby d4_5) rfl k) ?_
      show Goes _ _ _ _ _ _ _ (TT.setTop (mkF m 6 #[.val (.ref a), .val (.int w0), .val (.int i), .val (.int z)] [(.int i)]))
      refine Goes.of (fun t k => XS.iloadN XT.here hx rfl (hb hby d4_6) rfl k) ?_
      show Goes _ _ _ _ _ _ _ (TT.setTop (mkF m 7 #[.val (.ref a), .val (.int w0), .val (.int i), .val (.int z)] [(.int z), (.int i)]))
      refine Goes.of (fun t k => XS.icmpYes XT.here hx rfl (pc0 := 7) (pc' := 20) rfl (hb hby d4_7) rfl (flt hlt).2.1 (by decide) (by decide) k) ?_
      show Goes _ _ _ _ _ _ _ (TT.setTop (mkF m 20 #[.val (.ref a), .val (.int w0), .val (.int i), .val (.int z)] []))
      exact Goes.fin XT hlk (v := none) (fun _ => rfl) (fun fs hr => XT.returnOut hx Bd.returns (hb hby d4_20) hr) (by rw [eT]; exact ⟨rfl, NT, KT, VT.congr fun j hj => if_pos hj⟩) (by decide) (by decide)
    | succ k ih =>
      intro i TT hp lc XT eT NT KT VT hi hnn
      have ZT : n0 ≤ hp.size := Nat.le_trans Z0 KT.1
      have hlt : i < z := own_ilt (by omega)
      show Goes _ _ _ _ _ _ _ (TT.setTop (mkF m 5 #[.val (.ref a), .val (.int w0), .val (.int i), .val (.int z)] []))
      refine Goes.of (fun t k => XS.iloadN XT.here hx rfl (hb hby d4_5) rfl k) ?_
      show Goes _ _ _ _ _ _ _ (TT.setTop (mkF m 6 #[.val (.ref a), .val (.int w0), .val (.int i), .val (.int z)] [(.int i)]))
      refine Goes.of (fun t k => XS.iloadN XT.here hx rfl (hb hby d4_6) rfl k) ?_
      show Goes _ _ _ _ _ _ _ (TT.setTop (mkF m 7 #[.val (.ref a), .val (.int w0), .val (.int i), .val (.int z)] [(.int z), (.int i)]))
      refine Goes.of (fun t k => XS.icmpNo XT.here hx rfl (hb hby d4_7) rfl (tlt hlt).2.1 k) ?_
      show Goes _ _ _ _ _ _ _ (TT.setTop (mkF m 10 #[.val (.ref a), .val (.int w0), .val (.int i), .val (.int z)] []))
      refine Goes.of (fun t k => XS.aloadN XT.here hx rfl (hb hby d4_10) rfl rfl k) ?_
      show Goes _ _ _ _ _ _ _ (TT.setTop (mkF m 11 #[.val (.ref a), .val (.int w0), .val (.int i), .val (.int z)] [(.ref a)]))
      refine Goes.of (fun t k => XS.iloadN XT.here hx rfl (hb hby d4_11) rfl k) ?_
      show Goes _ _ _ _ _ _ _ (TT.setTop (mkF m 12 #[.val (.ref a), .val (.int w0), .val (.int i), .val (.int z)] [(.int i), (.ref a)]))
      refine Goes.of (fun t k => XS.iloadN XT.here hx rfl (hb hby d4_12) rfl k) ?_
      show Goes _ _ _ _ _ _ _ (TT.setTop (mkF m 13 #[.val (.ref a), .val (.int w0), .val (.int i), .val (.int z)] [(.int w0), (.int i), (.ref a)]))
      obtain ⟨T3, h3, X3, e3, W3, V3, st3⟩ := putI XT hx hZ eT VT (j := i) (x := w0) (i := i.toNatClampNeg) (own_nn (by omega)) rfl (own_ltn (by omega) (by omega)) (g := (mkF m 13 #[.val (.ref a), .val (.int w0), .val (.int i), .val (.int z)] [(.int w0), (.int i), (.ref a)])) rfl rfl (hb hby d4_13)
      have Z3 : n0 ≤ h3.size := Nat.le_trans ZT (Keep.of_wr W3).1
      have K3 : Keep h0 h3 [a] := KT.wr W3 (Or.inl (List.mem_of_getElem? (i := 0) rfl))
      have N3 := Fr.snoc X3 NT g_a
      refine Goes.of st3 ?_
      show Goes _ _ _ _ _ _ _ (T3.setTop (mkF m 14 #[.val (.ref a), .val (.int w0), .val (.int i), .val (.int z)] []))
      refine Goes.of (fun t k => XS.iinc X3.here hx rfl (hb hby d4_14) rfl (l' := #[.val (.ref a), .val (.int w0), .val (.int (i + (1 : Int32))), .val (.int z)]) rfl k) ?_
      show Goes _ _ _ _ _ _ _ (T3.setTop (mkF m 17 #[.val (.ref a), .val (.int w0), .val (.int (i + (1 : Int32))), .val (.int z)] []))
      refine Goes.of (fun t k => XS.goto X3.here hx rfl (pc0 := 17) (pc' := 5) rfl (hb hby d4_17) (by decide) (by decide) k) ?_
      show Goes _ _ _ _ _ _ _ (T3.setTop (mkF m 5 #[.val (.ref a), .val (.int w0), .val (.int (i + (1 : Int32))), .val (.int z)] []))
      exact ih _ _ _ _ X3 e3 N3 K3 (V3.congr (own_turn2 (by have := nat_of (own_nn (j := i) (by omega)); omega))) (by rw [own_inc (by omega)]; omega) (by rw [own_inc (by omega)]; omega)
  exact loop n _ _ _ _ X0 e0 N0 (Keep.refl h0 [a]) (V_a.congr fun j hj => (if_neg (by omega)).symm) (by rw [show (0 : Int32).toInt = 0 from rfl]; omega) (by decide)
theorem d2_0 : decode prog_12_method_1_code 0 = .ok (.aload_n 0, 1) := by decide +kernel
theorem d2_1 : decode prog_12_method_1_code 1 = .ok (.invokespecial 1, 3) := by decide +kernel
theorem d2_4 : decode prog_12_method_1_code 4 = .ok (.aload_n 0, 1) := by decide +kernel
theorem d2_5 : decode prog_12_method_1_code 5 = .ok (.iload_n 1, 1) := by decide +kernel
theorem d2_6 : decode prog_12_method_1_code 6 = .ok (.newarray .int, 2) := by decide +kernel
theorem d2_8 : decode prog_12_method_1_code 8 = .ok (.putfield 7, 3) := by decide +kernel
theorem d2_11 : decode prog_12_method_1_code 11 = .ok (.aload_n 0, 1) := by decide +kernel
theorem d2_12 : decode prog_12_method_1_code 12 = .ok (.iload_n 1, 1) := by decide +kernel
theorem d2_13 : decode prog_12_method_1_code 13 = .ok (.newarray .int, 2) := by decide +kernel
theorem d2_15 : decode prog_12_method_1_code 15 = .ok (.putfield 13, 3) := by decide +kernel
theorem d2_18 : decode prog_12_method_1_code 18 = .ok (.aload_n 0, 1) := by decide +kernel
theorem d2_19 : decode prog_12_method_1_code 19 = .ok (.getfield 13, 3) := by decide +kernel
theorem d2_22 : decode prog_12_method_1_code 22 = .ok (.iconst (-1), 1) := by decide +kernel
theorem d2_23 : decode prog_12_method_1_code 23 = .ok (.invokestatic 16, 3) := by decide +kernel
theorem d2_26 : decode prog_12_method_1_code 26 = .ok (.return_, 1) := by decide +kernel
theorem pn_2 : plainName "com/example/slotwright/slotwright/problems/IndexSet" = true := by first | (simp [plainName, overriddenIn]; done) | decide +kernel
theorem pd_0 : parseMethodDescriptor "()V" = some ⟨[], none⟩ := by decide +kernel
theorem pd_1 : parseMethodDescriptor "([II)V" = some ⟨[(.array .int), .int], none⟩ := by decide +kernel
theorem ef_2 (m : MethodId) (o : Addr) (z : Int32) : entryFrame m #[(.ref o), (.int z)] 2 = mkF m 0 #[.val (.ref o), .val (.int z)] [] := by first | (simp [entryFrame, mkF, argsToLocals, Value.category]; done) | rfl
def Q2 (Z : State) (o : Addr) (n : Nat) (h0 : Heap) (n0 : Nat) (v : Option Value) (h : Heap) (L : List Loc) : Prop := v = none ∧ Fr n0 L ∧ ∃ mm pp : Addr, Keep h0 h [o] ∧ h0.size ≤ mm ∧ h0.size ≤ pp ∧ mm ≠ pp ∧ Exa Z h o "com/example/slotwright/slotwright/problems/IndexSet" ∧ Fld Z h o "com/example/slotwright/slotwright/problems/IndexSet" "members" "[I" (.ref mm) ∧ Fld Z h o "com/example/slotwright/slotwright/problems/IndexSet" "positions" "[I" (.ref pp) ∧ Fld Z h o "com/example/slotwright/slotwright/problems/IndexSet" "size" "I" (.int (0 : Int32)) ∧ AI Z h mm .int n (fun _ => 0) ∧ AI Z h pp .int n (fun _ => (-1 : Int32))
set_option maxRecDepth 65536 in
set_option maxHeartbeats 40000000 in
theorem rm2 (l : Launch) (Z : State) (a0 : Array Value) (hw : ∀ d ∈ tables_1, d.before a0 Z = true) (ws : List Jvm.Cond) (o : Addr) (z : Int32) (n : Nat) (h0 : Heap) (n0 : Nat) (Z0 : n0 ≤ h0.size) (E_o : Exa Z h0 o "com/example/slotwright/slotwright/problems/IndexSet") (F_members : Fld Z h0 o "com/example/slotwright/slotwright/problems/IndexSet" "members" "[I" .null) (F_positions : Fld Z h0 o "com/example/slotwright/slotwright/problems/IndexSet" "positions" "[I" .null) (F_size : Fld Z h0 o "com/example/slotwright/slotwright/problems/IndexSet" "size" "I" (.int (0 : Int32))) (g_o : n0 ≤ o) (hz : z.toInt = n) (hcap : n ≤ 4) :
    MetFree l (⟨"com/example/slotwright/slotwright/problems/IndexSet", "<init>", "(I)V"⟩ : MethodName) (head1 (Jvm.Cond.code (⟨"com/example/slotwright/slotwright/problems/IndexSet", "<init>", "(I)V"⟩ : MethodName) prog_12_method_1_code 2 none :: ws) ({ frames := 1, cells := 2, slots := 8, locals := 15 } : Room)) (fun ar' Ur => ar' = #[(.ref o), (.int z)] ∧ Z.Warmed39 Ur.vm ∧ Ur.heap = h0) (fun _ _ _ _ _ => True) (fun _ Ur or' Us => ∃ v L, or' = .returned v ∧ Q2 Z o n h0 n0 v Us.heap L ∧ FrameEnd Ur or' Us L 2 8) := by
  refine MetFree.of_bodySF (plainFor_of_name pn_2) hisR ?_
  intro p e s m args below meth c s₁ Bd hml0 hP hK
  obtain ⟨rfl, hZ, hh⟩ := hP
  have hx := Bd.exec
  have hby := Bd.bytes
  have hlk : meth.locks = false := BodyLoose.notSynchronized Bd
  have hml : c.maxLocals = 2 := hml0
  have hown : s.vm.findClass "com/example/slotwright/slotwright/problems/IndexSet" = some m.cls := findClass_of_methodNamed Bd.named
  have hnm := (name_of_methodNamed Bd.named Bd.method).1
  have X0 : Stand p l e ({ frames := 1, cells := 2, slots := 8, locals := 15 } : Room) s m #[(.ref o), (.int z)] below meth c s₁ [] 0 0 := Stand.of_body Bd
  have e0 : s₁.heap = h0 := by rw [← hh, Bd.state]; rfl
  have N0 := Fr.nil n0
  show Goes p.tables e below s (Q2 Z o n h0 n0) 2 8 (s₁.setTop (entryFrame m #[(.ref o), (.int z)] 2))
  refine Goes.of (fun t k => castTop (ef_2 m o z) k) ?_
  show Goes _ _ _ _ _ _ _ (s₁.setTop (mkF m 0 #[.val (.ref o), .val (.int z)] []))
  refine Goes.of (fun t k => XS.aloadN X0.here hx rfl (hb hby d2_0) rfl rfl k) ?_
  show Goes _ _ _ _ _ _ _ (s₁.setTop (mkF m 1 #[.val (.ref o), .val (.int z)] [(.ref o)]))
  obtain ⟨T4, X4, e4, st4⟩ := initO X0 hx hZ hown (hw _ (List.mem_of_getElem? (i := 12) rfl)) (hw _ (List.mem_of_getElem? (i := 13) rfl)) (hw _ (List.mem_of_getElem? (i := 14) rfl)) e0 (g := (mkF m 1 #[.val (.ref o), .val (.int z)] [(.ref o)])) rfl (by rw [hml]; rfl) rfl (hb hby d2_1) (by decide) (W := 0) (by show 2 * 0 + _ ≤ _; exact Nat.le_of_eq rfl) (by decide)
  refine Goes.of st4 ?_
  show Goes _ _ _ _ _ _ _ (T4.setTop (mkF m 4 #[.val (.ref o), .val (.int z)] []))
  refine Goes.of (fun t k => XS.aloadN X4.here hx rfl (hb hby d2_4) rfl rfl k) ?_
  show Goes _ _ _ _ _ _ _ (T4.setTop (mkF m 5 #[.val (.ref o), .val (.int z)] [(.ref o)]))
  refine Goes.of (fun t k => XS.iloadN X4.here hx rfl (hb hby d2_5) rfl k) ?_
  show Goes _ _ _ _ _ _ _ (T4.setTop (mkF m 6 #[.val (.ref o), .val (.int z)] [(.int z), (.ref o)]))
  obtain ⟨T5, h5, k5, X5, e5, E5, A5, Ea5, st5⟩ := newPE X4 hx hZ (hw _ (List.mem_of_getElem? (i := 0) rfl)) e4 (g := (mkF m 6 #[.val (.ref o), .val (.int z)] [(.int z), (.ref o)])) rfl (hb hby d2_6) rfl (own_nn (by omega)) (cap := 4) (by rw [own_tn hz]; exact hcap) (by decide) (by decide) (by decide) (ad := "[I") (by decide)
  obtain ⟨b5, g5⟩ : ∃ z, z = h0.size := ⟨_, rfl⟩
  rw [← g5] at A5 Ea5 st5
  have V5 : AI Z h5 b5 .int n (fun _ => 0) := AI.new rfl rfl A5 (own_nn (by omega)) (own_tn hz)
  have ne_o_b5 : o ≠ b5 := Nat.ne_of_lt (Nat.lt_of_lt_of_le E_o.lt (Nat.le_of_eq g5.symm))
  have g_b5 : n0 ≤ b5 := Nat.le_trans Z0 (Nat.le_of_eq g5.symm)
  have sz_b5 : h0.size ≤ b5 := Nat.le_trans (Keep.refl h0 [o]).1 (Nat.le_of_eq g5.symm)
  have F6 := Exa.ext E5 E_o
  have F7 := Fld.ext E5 F_members
  have F8 := Fld.ext E5 F_positions
  have F9 := Fld.ext E5 F_size
  have Z5 : n0 ≤ h5.size := Nat.le_trans Z0 E5.1
  have K5 : Keep h0 h5 [o] := (Keep.refl h0 [o]).ext E5
  refine Goes.of st5 ?_
  show Goes _ _ _ _ _ _ _ (T5.setTop (mkF m 8 #[.val (.ref o), .val (.int z)] [(.ref b5), (.ref o)]))
  obtain ⟨T10, h10, X10, e10, W10, st10⟩ := putF X5 hx hZ hown (host := "") (Or.inl (hw _ (List.mem_of_getElem? (i := 15) rfl))) Via.refl e5 F7 F6 (Or.inr ⟨(hw _ (List.mem_of_getElem? (i := 16) rfl)), rfl, hnm⟩) (hw _ (List.mem_of_getElem? (i := 7) rfl)) (ty := (.array .int)) (by decide) rfl rfl (g := (mkF m 8 #[.val (.ref o), .val (.int z)] [(.ref b5), (.ref o)])) rfl rfl (hb hby d2_8)
  have Fw10 := Fld.same W10 F7
  have F11 := Exa.wr W10 F6
  have F12 := Fld.other W10 F8 (Or.inr (slot_ne (Or.inr (hw _ (List.mem_of_getElem? (i := 18) rfl))) (Or.inr (hw _ (List.mem_of_getElem? (i := 16) rfl))) (by decide) (t := (.array .int)) (t' := (.array .int)) (by decide) (by decide)))
  have F13 := Fld.other W10 F9 (Or.inr (slot_ne (Or.inl (hw _ (List.mem_of_getElem? (i := 29) rfl))) (Or.inr (hw _ (List.mem_of_getElem? (i := 16) rfl))) (by decide) (t := .int) (t' := (.array .int)) (by decide) (by decide)))
  have F14 := V5.other W10 (Ne.symm ne_o_b5)
  have Z10 : n0 ≤ h10.size := Nat.le_trans Z5 (Keep.of_wr W10).1
  have K10 : Keep h0 h10 [o] := K5.wr W10 (Or.inl (List.mem_of_getElem? (i := 0) rfl))
  have N10 := Fr.snoc X10 N0 g_o
  refine Goes.of st10 ?_
  show Goes _ _ _ _ _ _ _ (T10.setTop (mkF m 11 #[.val (.ref o), .val (.int z)] []))
  refine Goes.of (fun t k => XS.aloadN X10.here hx rfl (hb hby d2_11) rfl rfl k) ?_
  show Goes _ _ _ _ _ _ _ (T10.setTop (mkF m 12 #[.val (.ref o), .val (.int z)] [(.ref o)]))
  refine Goes.of (fun t k => XS.iloadN X10.here hx rfl (hb hby d2_12) rfl k) ?_
  show Goes _ _ _ _ _ _ _ (T10.setTop (mkF m 13 #[.val (.ref o), .val (.int z)] [(.int z), (.ref o)]))
  obtain ⟨T15, h15, k15, X15, e15, E15, A15, Ea15, st15⟩ := newPE X10 hx hZ (hw _ (List.mem_of_getElem? (i := 0) rfl)) e10 (g := (mkF m 13 #[.val (.ref o), .val (.int z)] [(.int z), (.ref o)])) rfl (hb hby d2_13) rfl (own_nn (by omega)) (cap := 4) (by rw [own_tn hz]; exact hcap) (by decide) (by decide) (by decide) (ad := "[I") (by decide)
  obtain ⟨b15, g15⟩ : ∃ z, z = h10.size := ⟨_, rfl⟩
  rw [← g15] at A15 Ea15 st15
  have V15 : AI Z h15 b15 .int n (fun _ => 0) := AI.new rfl rfl A15 (own_nn (by omega)) (own_tn hz)
  have ne_o_b15 : o ≠ b15 := Nat.ne_of_lt (Nat.lt_of_lt_of_le F11.lt (Nat.le_of_eq g15.symm))
  have ne_b5_b15 : b5 ≠ b15 := Nat.ne_of_lt (Nat.lt_of_lt_of_le F14.lt (Nat.le_of_eq g15.symm))
  have g_b15 : n0 ≤ b15 := Nat.le_trans Z10 (Nat.le_of_eq g15.symm)
  have sz_b15 : h0.size ≤ b15 := Nat.le_trans K10.1 (Nat.le_of_eq g15.symm)
  have F16 := Exa.ext E15 F11
  have F17 := Fld.ext E15 Fw10
  have F18 := Fld.ext E15 F12
  have F19 := Fld.ext E15 F13
  have F20 := F14.ext E15
  have Z15 : n0 ≤ h15.size := Nat.le_trans Z10 E15.1
  have K15 : Keep h0 h15 [o] := K10.ext E15
  refine Goes.of st15 ?_
  show Goes _ _ _ _ _ _ _ (T15.setTop (mkF m 15 #[.val (.ref o), .val (.int z)] [(.ref b15), (.ref o)]))
  obtain ⟨T21, h21, X21, e21, W21, st21⟩ := putF X15 hx hZ hown (host := "") (Or.inl (hw _ (List.mem_of_getElem? (i := 17) rfl))) Via.refl e15 F18 F16 (Or.inr ⟨(hw _ (List.mem_of_getElem? (i := 18) rfl)), rfl, hnm⟩) (hw _ (List.mem_of_getElem? (i := 7) rfl)) (ty := (.array .int)) (by decide) rfl rfl (g := (mkF m 15 #[.val (.ref o), .val (.int z)] [(.ref b15), (.ref o)])) rfl rfl (hb hby d2_15)
  have Fw21 := Fld.same W21 F18
  have F22 := Exa.wr W21 F16
  have F23 := Fld.other W21 F17 (Or.inr (slot_ne (Or.inr (hw _ (List.mem_of_getElem? (i := 16) rfl))) (Or.inr (hw _ (List.mem_of_getElem? (i := 18) rfl))) (by decide) (t := (.array .int)) (t' := (.array .int)) (by decide) (by decide)))
  have F24 := Fld.other W21 F19 (Or.inr (slot_ne (Or.inl (hw _ (List.mem_of_getElem? (i := 29) rfl))) (Or.inr (hw _ (List.mem_of_getElem? (i := 18) rfl))) (by decide) (t := .int) (t' := (.array .int)) (by decide) (by decide)))
  have F25 := F20.other W21 (Ne.symm ne_o_b5)
  have F26 := V15.other W21 (Ne.symm ne_o_b15)
  have Z21 : n0 ≤ h21.size := Nat.le_trans Z15 (Keep.of_wr W21).1
  have K21 : Keep h0 h21 [o] := K15.wr W21 (Or.inl (List.mem_of_getElem? (i := 0) rfl))
  have N21 := Fr.snoc X21 N10 g_o
  refine Goes.of st21 ?_
  show Goes _ _ _ _ _ _ _ (T21.setTop (mkF m 18 #[.val (.ref o), .val (.int z)] []))
  refine Goes.of (fun t k => XS.aloadN X21.here hx rfl (hb hby d2_18) rfl rfl k) ?_
  show Goes _ _ _ _ _ _ _ (T21.setTop (mkF m 19 #[.val (.ref o), .val (.int z)] [(.ref o)]))
  obtain ⟨T27, X27, e27, st27⟩ := getF X21 hx hZ hown (host := "") (Or.inl (hw _ (List.mem_of_getElem? (i := 17) rfl))) Via.refl e21 Fw21 (g := (mkF m 19 #[.val (.ref o), .val (.int z)] [(.ref o)])) rfl rfl (hb hby d2_19)
  refine Goes.of st27 ?_
  show Goes _ _ _ _ _ _ _ (T27.setTop (mkF m 22 #[.val (.ref o), .val (.int z)] [(.ref b15)]))
  refine Goes.of (fun t k => XS.iconst X27.here hx rfl (hb hby d2_22) k) ?_
  show Goes _ _ _ _ _ _ _ (T27.setTop (mkF m 23 #[.val (.ref o), .val (.int z)] [(.int (-1 : Int32)), (.ref b15)]))
  obtain ⟨_, _, ⟨T28, L28, k28, n28⟩, -, X28, ⟨Lc28, hQ28, l28, y28, z28⟩, st28⟩ := Jvm.LawKit.callS X27 hx (y := (⟨"java/util/Arrays", "fill", "([II)V"⟩ : MethodName)) hown (mvT hZ (hw _ (List.mem_of_getElem? (i := 19) rfl))) (mvT hZ (hw _ (List.mem_of_getElem? (i := 20) rfl))) (mvT hZ (hw _ (List.mem_of_getElem? (i := 21) rfl))) (mvT hZ (hw _ (List.mem_of_getElem? (i := 22) rfl))) (by decide) (backOf (W := 0) (rm4 l Z a0 hw [] b15 (-1 : Int32) n z (fun _ => 0) h21 n0 Z21 F26 hz g_b15) hZ (hw _ (List.mem_of_getElem? (i := 22) rfl)) (hw _ (List.mem_of_getElem? (i := 21) rfl)) (by decide) (by decide)) (g := (mkF m 23 #[.val (.ref o), .val (.int z)] [(.int (-1 : Int32)), (.ref b15)])) rfl (by rw [hml]; rfl) (argsL := [(.ref b15), (.int (-1 : Int32))]) (rest := []) (lenOf pd_1 rfl) rfl (by show 2 * 0 + _ ≤ _; exact Nat.le_of_eq rfl) (hb hby d2_23) (fun _ _ => ⟨rfl, e27, (by decide : 2 + 0 ≤ _), (by decide : 8 + 0 ≤ _)⟩)
  dsimp only [Pt.U, Pt.locs, Pt.cells, Pt.slots] at X28 l28 y28 z28 st28 hQ28
  replace l28 := l28.symm
  replace y28 := y28.symm
  replace z28 := z28.symm
  subst l28 y28 z28
  obtain ⟨rfl, N28q, K28, V28⟩ := hQ28
  have F29 := F22.keep K28
  have F30 := F23.keep K28 (ninS ne_o_b15 nin0)
  have F31 := Fw21.keep K28 (ninS ne_o_b15 nin0)
  have F32 := F24.keep K28 (ninS ne_o_b15 nin0)
  have F33 := F25.keep K28 (ninS ne_b5_b15 nin0)
  have Z28 : n0 ≤ T28.heap.size := Nat.le_trans Z21 K28.1
  have KK28 : Keep h0 T28.heap [o] := K21.trans K28 (allS (Or.inr sz_b15) all0)
  have N28 := Fr.app N21 N28q
  refine Goes.of st28 ?_
  show Goes _ _ _ _ _ _ _ (T28.setTop (mkF m 26 #[.val (.ref o), .val (.int z)] []))
  exact Goes.fin X28 hlk (v := none) (fun _ => rfl) (fun fs hr => X28.returnOut hx Bd.returns (hb hby d2_26) hr) (by rw [show T28.heap = T28.heap from rfl]; exact ⟨rfl, N28, b5, b15, KK28, sz_b5, sz_b15, ne_b5_b15, F29, F30, F31, F32, F33, V28⟩) (by decide) (by decide)
theorem d5_0 : decode prog_12_method_5_code 0 = .ok (.aload_n 0, 1) := by decide +kernel
theorem d5_1 : decode prog_12_method_5_code 1 = .ok (.getfield 7, 3) := by decide +kernel
theorem d5_4 : decode prog_12_method_5_code 4 = .ok (.aload_n 0, 1) := by decide +kernel
theorem d5_5 : decode prog_12_method_5_code 5 = .ok (.getfield 22, 3) := by decide +kernel
theorem d5_8 : decode prog_12_method_5_code 8 = .ok (.iload_n 1, 1) := by decide +kernel
theorem d5_9 : decode prog_12_method_5_code 9 = .ok (.iastore, 1) := by decide +kernel
theorem d5_10 : decode prog_12_method_5_code 10 = .ok (.aload_n 0, 1) := by decide +kernel
theorem d5_11 : decode prog_12_method_5_code 11 = .ok (.getfield 13, 3) := by decide +kernel
theorem d5_14 : decode prog_12_method_5_code 14 = .ok (.iload_n 1, 1) := by decide +kernel
theorem d5_15 : decode prog_12_method_5_code 15 = .ok (.aload_n 0, 1) := by decide +kernel
theorem d5_16 : decode prog_12_method_5_code 16 = .ok (.dup, 1) := by decide +kernel
theorem d5_17 : decode prog_12_method_5_code 17 = .ok (.getfield 22, 3) := by decide +kernel
theorem d5_20 : decode prog_12_method_5_code 20 = .ok (.dup_x1, 1) := by decide +kernel
theorem d5_21 : decode prog_12_method_5_code 21 = .ok (.iconst 1, 1) := by decide +kernel
theorem d5_22 : decode prog_12_method_5_code 22 = .ok (.iadd, 1) := by decide +kernel
theorem d5_23 : decode prog_12_method_5_code 23 = .ok (.putfield 22, 3) := by decide +kernel
theorem d5_26 : decode prog_12_method_5_code 26 = .ok (.iastore, 1) := by decide +kernel
theorem d5_27 : decode prog_12_method_5_code 27 = .ok (.return_, 1) := by decide +kernel
theorem ef_5 (m : MethodId) (o : Addr) (v0 : Int32) : entryFrame m #[(.ref o), (.int v0)] 2 = mkF m 0 #[.val (.ref o), .val (.int v0)] [] := by first | (simp [entryFrame, mkF, argsToLocals, Value.category]; done) | rfl
def Q5 (Z : State) (o mm pp : Addr) (n : Nat) (M P : Nat → Int32) (sz v0 : Int32) (h0 : Heap) (n0 : Nat) (v : Option Value) (h : Heap) (L : List Loc) : Prop := v = none ∧ Fr n0 L ∧ Keep h0 h [o, mm, pp] ∧ Exa Z h o "com/example/slotwright/slotwright/problems/IndexSet" ∧ Fld Z h o "com/example/slotwright/slotwright/problems/IndexSet" "members" "[I" (.ref mm) ∧ Fld Z h o "com/example/slotwright/slotwright/problems/IndexSet" "positions" "[I" (.ref pp) ∧ Fld Z h o "com/example/slotwright/slotwright/problems/IndexSet" "size" "I" (.int (sz + (1 : Int32))) ∧ AI Z h mm .int n (upd M sz.toNatClampNeg v0) ∧ AI Z h pp .int n (upd P v0.toNatClampNeg sz)
set_option maxRecDepth 65536 in
set_option maxHeartbeats 40000000 in
theorem rm5 (l : Launch) (Z : State) (a0 : Array Value) (hw : ∀ d ∈ tables_1, d.before a0 Z = true) (ws : List Jvm.Cond) (o : Addr) (v0 : Int32) (mm pp : Addr) (n : Nat) (M P : Nat → Int32) (sz : Int32) (h0 : Heap) (n0 : Nat) (Z0 : n0 ≤ h0.size) (E_o : Exa Z h0 o "com/example/slotwright/slotwright/problems/IndexSet") (F_members : Fld Z h0 o "com/example/slotwright/slotwright/problems/IndexSet" "members" "[I" (.ref mm)) (F_positions : Fld Z h0 o "com/example/slotwright/slotwright/problems/IndexSet" "positions" "[I" (.ref pp)) (F_size : Fld Z h0 o "com/example/slotwright/slotwright/problems/IndexSet" "size" "I" (.int sz)) (V_mm : AI Z h0 mm .int n M) (V_pp : AI Z h0 pp .int n P) (ne_om : o ≠ mm) (ne_op : o ≠ pp) (ne_mp : mm ≠ pp) (g_o : n0 ≤ o) (g_mm : n0 ≤ mm) (g_pp : n0 ≤ pp) (hsz : 0 ≤ sz.toInt ∧ sz.toInt < n) (hv : 0 ≤ v0.toInt ∧ v0.toInt < n) :
    MetFree l (⟨"com/example/slotwright/slotwright/problems/IndexSet", "add", "(I)V"⟩ : MethodName) (head1 (Jvm.Cond.code (⟨"com/example/slotwright/slotwright/problems/IndexSet", "add", "(I)V"⟩ : MethodName) prog_12_method_5_code 2 none :: ws) ({ frames := 0, cells := 0, slots := 0, locals := 0 } : Room)) (fun ar' Ur => ar' = #[(.ref o), (.int v0)] ∧ Z.Warmed39 Ur.vm ∧ Ur.heap = h0) (fun _ _ _ _ _ => True) (fun _ Ur or' Us => ∃ v L, or' = .returned v ∧ Q5 Z o mm pp n M P sz v0 h0 n0 v Us.heap L ∧ FrameEnd Ur or' Us L 0 0) := by
  refine MetFree.of_bodySF (plainFor_of_name pn_2) hisR ?_
  intro p e s m args below meth c s₁ Bd hml0 hP hK
  obtain ⟨rfl, hZ, hh⟩ := hP
  have hx := Bd.exec
  have hby := Bd.bytes
  have hlk : meth.locks = false := BodyLoose.notSynchronized Bd
  have hml : c.maxLocals = 2 := hml0
  have hown : s.vm.findClass "com/example/slotwright/slotwright/problems/IndexSet" = some m.cls := findClass_of_methodNamed Bd.named
  have hnm := (name_of_methodNamed Bd.named Bd.method).1
  have X0 : Stand p l e ({ frames := 0, cells := 0, slots := 0, locals := 0 } : Room) s m #[(.ref o), (.int v0)] below meth c s₁ [] 0 0 := Stand.of_body Bd
  have e0 : s₁.heap = h0 := by rw [← hh, Bd.state]; rfl
  have N0 := Fr.nil n0
  show Goes p.tables e below s (Q5 Z o mm pp n M P sz v0 h0 n0) 0 0 (s₁.setTop (entryFrame m #[(.ref o), (.int v0)] 2))
  refine Goes.of (fun t k => castTop (ef_5 m o v0) k) ?_
  show Goes _ _ _ _ _ _ _ (s₁.setTop (mkF m 0 #[.val (.ref o), .val (.int v0)] []))
  refine Goes.of (fun t k => XS.aloadN X0.here hx rfl (hb hby d5_0) rfl rfl k) ?_
  show Goes _ _ _ _ _ _ _ (s₁.setTop (mkF m 1 #[.val (.ref o), .val (.int v0)] [(.ref o)]))
  obtain ⟨T34, X34, e34, st34⟩ := getF X0 hx hZ hown (host := "") (Or.inl (hw _ (List.mem_of_getElem? (i := 15) rfl))) Via.refl e0 F_members (g := (mkF m 1 #[.val (.ref o), .val (.int v0)] [(.ref o)])) rfl rfl (hb hby d5_1)
  refine Goes.of st34 ?_
  show Goes _ _ _ _ _ _ _ (T34.setTop (mkF m 4 #[.val (.ref o), .val (.int v0)] [(.ref mm)]))
  refine Goes.of (fun t k => XS.aloadN X34.here hx rfl (hb hby d5_4) rfl rfl k) ?_
  show Goes _ _ _ _ _ _ _ (T34.setTop (mkF m 5 #[.val (.ref o), .val (.int v0)] [(.ref o), (.ref mm)]))
  obtain ⟨T35, X35, e35, st35⟩ := getF X34 hx hZ hown (host := "") (Or.inl (hw _ (List.mem_of_getElem? (i := 28) rfl))) Via.refl e34 F_size (g := (mkF m 5 #[.val (.ref o), .val (.int v0)] [(.ref o), (.ref mm)])) rfl rfl (hb hby d5_5)
  refine Goes.of st35 ?_
  show Goes _ _ _ _ _ _ _ (T35.setTop (mkF m 8 #[.val (.ref o), .val (.int v0)] [(.int sz), (.ref mm)]))
  refine Goes.of (fun t k => XS.iloadN X35.here hx rfl (hb hby d5_8) rfl k) ?_
  show Goes _ _ _ _ _ _ _ (T35.setTop (mkF m 9 #[.val (.ref o), .val (.int v0)] [(.int v0), (.int sz), (.ref mm)]))
  obtain ⟨T36, h36, X36, e36, W36, V36, st36⟩ := putI X35 hx hZ e35 V_mm (j := sz) (x := v0) (i := sz.toNatClampNeg) (own_nn (by omega)) rfl (own_ltn (by omega) (by omega)) (g := (mkF m 9 #[.val (.ref o), .val (.int v0)] [(.int v0), (.int sz), (.ref mm)])) rfl rfl (hb hby d5_9)
  have F37 := Exa.wr W36 E_o
  have F38 := Fld.other W36 F_members (Or.inl ne_om)
  have F39 := Fld.other W36 F_positions (Or.inl ne_om)
  have F40 := Fld.other W36 F_size (Or.inl ne_om)
  have F41 := V_pp.other W36 (Ne.symm ne_mp)
  have Z36 : n0 ≤ h36.size := Nat.le_trans Z0 (Keep.of_wr W36).1
  have K36 : Keep h0 h36 [o, mm, pp] := (Keep.refl h0 [o, mm, pp]).wr W36 (Or.inl (List.mem_of_getElem? (i := 1) rfl))
  have N36 := Fr.snoc X36 N0 g_mm
  refine Goes.of st36 ?_
  show Goes _ _ _ _ _ _ _ (T36.setTop (mkF m 10 #[.val (.ref o), .val (.int v0)] []))
  refine Goes.of (fun t k => XS.aloadN X36.here hx rfl (hb hby d5_10) rfl rfl k) ?_
  show Goes _ _ _ _ _ _ _ (T36.setTop (mkF m 11 #[.val (.ref o), .val (.int v0)] [(.ref o)]))
  obtain ⟨T42, X42, e42, st42⟩ := getF X36 hx hZ hown (host := "") (Or.inl (hw _ (List.mem_of_getElem? (i := 17) rfl))) Via.refl e36 F39 (g := (mkF m 11 #[.val (.ref o), .val (.int v0)] [(.ref o)])) rfl rfl (hb hby d5_11)
  refine Goes.of st42 ?_
  show Goes _ _ _ _ _ _ _ (T42.setTop (mkF m 14 #[.val (.ref o), .val (.int v0)] [(.ref pp)]))
  refine Goes.of (fun t k => XS.iloadN X42.here hx rfl (hb hby d5_14) rfl k) ?_
  show Goes _ _ _ _ _ _ _ (T42.setTop (mkF m 15 #[.val (.ref o), .val (.int v0)] [(.int v0), (.ref pp)]))
  refine Goes.of (fun t k => XS.aloadN X42.here hx rfl (hb hby d5_15) rfl rfl k) ?_
  show Goes _ _ _ _ _ _ _ (T42.setTop (mkF m 16 #[.val (.ref o), .val (.int v0)] [(.ref o), (.int v0), (.ref pp)]))
  refine Goes.of (fun t k => XS.dup X42.here hx rfl (hb hby d5_16) rfl rfl k) ?_
  show Goes _ _ _ _ _ _ _ (T42.setTop (mkF m 17 #[.val (.ref o), .val (.int v0)] [(.ref o), (.ref o), (.int v0), (.ref pp)]))
  obtain ⟨T43, X43, e43, st43⟩ := getF X42 hx hZ hown (host := "") (Or.inl (hw _ (List.mem_of_getElem? (i := 28) rfl))) Via.refl e42 F40 (g := (mkF m 17 #[.val (.ref o), .val (.int v0)] [(.ref o), (.ref o), (.int v0), (.ref pp)])) rfl rfl (hb hby d5_17)
  refine Goes.of st43 ?_
  show Goes _ _ _ _ _ _ _ (T43.setTop (mkF m 20 #[.val (.ref o), .val (.int v0)] [(.int sz), (.ref o), (.int v0), (.ref pp)]))
  refine Goes.of (fun t k => XS.dupX1 X43.here hx rfl (hb hby d5_20) rfl rfl rfl k) ?_
  show Goes _ _ _ _ _ _ _ (T43.setTop (mkF m 21 #[.val (.ref o), .val (.int v0)] [(.int sz), (.ref o), (.int sz), (.int v0), (.ref pp)]))
  refine Goes.of (fun t k => XS.iconst X43.here hx rfl (hb hby d5_21) k) ?_
  show Goes _ _ _ _ _ _ _ (T43.setTop (mkF m 22 #[.val (.ref o), .val (.int v0)] [(.int (1 : Int32)), (.int sz), (.ref o), (.int sz), (.int v0), (.ref pp)]))
  refine Goes.of (fun t k => XS.iadd X43.here hx rfl (hb hby d5_22) rfl k) ?_
  show Goes _ _ _ _ _ _ _ (T43.setTop (mkF m 23 #[.val (.ref o), .val (.int v0)] [(.int (sz + (1 : Int32))), (.ref o), (.int sz), (.int v0), (.ref pp)]))
  obtain ⟨T44, h44, X44, e44, W44, st44⟩ := putF X43 hx hZ hown (host := "") (Or.inl (hw _ (List.mem_of_getElem? (i := 28) rfl))) Via.refl e43 F40 F37 (Or.inl (hw _ (List.mem_of_getElem? (i := 29) rfl))) (hw _ (List.mem_of_getElem? (i := 7) rfl)) (ty := .int) (by decide) rfl rfl (g := (mkF m 23 #[.val (.ref o), .val (.int v0)] [(.int (sz + (1 : Int32))), (.ref o), (.int sz), (.int v0), (.ref pp)])) rfl rfl (hb hby d5_23)
  have Fw44 := Fld.same W44 F40
  have F45 := Exa.wr W44 F37
  have F46 := Fld.other W44 F38 (Or.inr (slot_ne (Or.inr (hw _ (List.mem_of_getElem? (i := 16) rfl))) (Or.inl (hw _ (List.mem_of_getElem? (i := 29) rfl))) (by decide) (t := (.array .int)) (t' := .int) (by decide) (by decide)))
  have F47 := Fld.other W44 F39 (Or.inr (slot_ne (Or.inr (hw _ (List.mem_of_getElem? (i := 18) rfl))) (Or.inl (hw _ (List.mem_of_getElem? (i := 29) rfl))) (by decide) (t := (.array .int)) (t' := .int) (by decide) (by decide)))
  have F48 := V36.other W44 (Ne.symm ne_om)
  have F49 := F41.other W44 (Ne.symm ne_op)
  have Z44 : n0 ≤ h44.size := Nat.le_trans Z36 (Keep.of_wr W44).1
  have K44 : Keep h0 h44 [o, mm, pp] := K36.wr W44 (Or.inl (List.mem_of_getElem? (i := 0) rfl))
  have N44 := Fr.snoc X44 N36 g_o
  refine Goes.of st44 ?_
  show Goes _ _ _ _ _ _ _ (T44.setTop (mkF m 26 #[.val (.ref o), .val (.int v0)] [(.int sz), (.int v0), (.ref pp)]))
  obtain ⟨T50, h50, X50, e50, W50, V50, st50⟩ := putI X44 hx hZ e44 F49 (j := v0) (x := sz) (i := v0.toNatClampNeg) (own_nn (by omega)) rfl (own_ltn (by omega) (by omega)) (g := (mkF m 26 #[.val (.ref o), .val (.int v0)] [(.int sz), (.int v0), (.ref pp)])) rfl rfl (hb hby d5_26)
  have F51 := Exa.wr W50 F45
  have F52 := Fld.other W50 F46 (Or.inl ne_op)
  have F53 := Fld.other W50 F47 (Or.inl ne_op)
  have F54 := Fld.other W50 Fw44 (Or.inl ne_op)
  have F55 := F48.other W50 ne_mp
  have Z50 : n0 ≤ h50.size := Nat.le_trans Z44 (Keep.of_wr W50).1
  have K50 : Keep h0 h50 [o, mm, pp] := K44.wr W50 (Or.inl (List.mem_of_getElem? (i := 2) rfl))
  have N50 := Fr.snoc X50 N44 g_pp
  refine Goes.of st50 ?_
  show Goes _ _ _ _ _ _ _ (T50.setTop (mkF m 27 #[.val (.ref o), .val (.int v0)] []))
  exact Goes.fin X50 hlk (v := none) (fun _ => rfl) (fun fs hr => X50.returnOut hx Bd.returns (hb hby d5_27) hr) (by rw [e50]; exact ⟨rfl, N50, K50, F51, F52, F53, F54, F55, V50⟩) (by decide) (by decide)
theorem d6_0 : decode prog_12_method_6_code 0 = .ok (.aload_n 0, 1) := by decide +kernel
theorem d6_1 : decode prog_12_method_6_code 1 = .ok (.getfield 13, 3) := by decide +kernel
theorem d6_4 : decode prog_12_method_6_code 4 = .ok (.iload_n 1, 1) := by decide +kernel
theorem d6_5 : decode prog_12_method_6_code 5 = .ok (.iaload, 1) := by decide +kernel
theorem d6_6 : decode prog_12_method_6_code 6 = .ok (.istore_n 2, 1) := by decide +kernel
theorem d6_7 : decode prog_12_method_6_code 7 = .ok (.aload_n 0, 1) := by decide +kernel
theorem d6_8 : decode prog_12_method_6_code 8 = .ok (.getfield 7, 3) := by decide +kernel
theorem d6_11 : decode prog_12_method_6_code 11 = .ok (.aload_n 0, 1) := by decide +kernel
theorem d6_12 : decode prog_12_method_6_code 12 = .ok (.dup, 1) := by decide +kernel
theorem d6_13 : decode prog_12_method_6_code 13 = .ok (.getfield 22, 3) := by decide +kernel
theorem d6_16 : decode prog_12_method_6_code 16 = .ok (.iconst 1, 1) := by decide +kernel
theorem d6_17 : decode prog_12_method_6_code 17 = .ok (.isub, 1) := by decide +kernel
theorem d6_18 : decode prog_12_method_6_code 18 = .ok (.dup_x1, 1) := by decide +kernel
theorem d6_19 : decode prog_12_method_6_code 19 = .ok (.putfield 22, 3) := by decide +kernel
theorem d6_22 : decode prog_12_method_6_code 22 = .ok (.iaload, 1) := by decide +kernel
theorem d6_23 : decode prog_12_method_6_code 23 = .ok (.istore_n 3, 1) := by decide +kernel
theorem d6_24 : decode prog_12_method_6_code 24 = .ok (.aload_n 0, 1) := by decide +kernel
theorem d6_25 : decode prog_12_method_6_code 25 = .ok (.getfield 7, 3) := by decide +kernel
theorem d6_28 : decode prog_12_method_6_code 28 = .ok (.iload_n 2, 1) := by decide +kernel
theorem d6_29 : decode prog_12_method_6_code 29 = .ok (.iload_n 3, 1) := by decide +kernel
theorem d6_30 : decode prog_12_method_6_code 30 = .ok (.iastore, 1) := by decide +kernel
theorem d6_31 : decode prog_12_method_6_code 31 = .ok (.aload_n 0, 1) := by decide +kernel
theorem d6_32 : decode prog_12_method_6_code 32 = .ok (.getfield 13, 3) := by decide +kernel
theorem d6_35 : decode prog_12_method_6_code 35 = .ok (.iload_n 3, 1) := by decide +kernel
theorem d6_36 : decode prog_12_method_6_code 36 = .ok (.iload_n 2, 1) := by decide +kernel
theorem d6_37 : decode prog_12_method_6_code 37 = .ok (.iastore, 1) := by decide +kernel
theorem d6_38 : decode prog_12_method_6_code 38 = .ok (.aload_n 0, 1) := by decide +kernel
theorem d6_39 : decode prog_12_method_6_code 39 = .ok (.getfield 13, 3) := by decide +kernel
theorem d6_42 : decode prog_12_method_6_code 42 = .ok (.iload_n 1, 1) := by decide +kernel
theorem d6_43 : decode prog_12_method_6_code 43 = .ok (.iconst (-1), 1) := by decide +kernel
theorem d6_44 : decode prog_12_method_6_code 44 = .ok (.iastore, 1) := by decide +kernel
theorem d6_45 : decode prog_12_method_6_code 45 = .ok (.return_, 1) := by decide +kernel
theorem ef_6 (m : MethodId) (o : Addr) (v0 : Int32) : entryFrame m #[(.ref o), (.int v0)] 4 = mkF m 0 #[.val (.ref o), .val (.int v0), .unset, .unset] [] := by first | (simp [entryFrame, mkF, argsToLocals, Value.category]; done) | rfl
def Q6 (Z : State) (o mm pp : Addr) (n : Nat) (M P : Nat → Int32) (sz v0 : Int32) (h0 : Heap) (n0 : Nat) (v : Option Value) (h : Heap) (L : List Loc) : Prop := v = none ∧ Fr n0 L ∧ Keep h0 h [o, mm, pp] ∧ Exa Z h o "com/example/slotwright/slotwright/problems/IndexSet" ∧ Fld Z h o "com/example/slotwright/slotwright/problems/IndexSet" "members" "[I" (.ref mm) ∧ Fld Z h o "com/example/slotwright/slotwright/problems/IndexSet" "positions" "[I" (.ref pp) ∧ Fld Z h o "com/example/slotwright/slotwright/problems/IndexSet" "size" "I" (.int (sz - (1 : Int32))) ∧ AI Z h mm .int n (upd M (P v0.toNatClampNeg).toNatClampNeg (M (sz - (1 : Int32)).toNatClampNeg)) ∧ AI Z h pp .int n (upd (upd P (M (sz - (1 : Int32)).toNatClampNeg).toNatClampNeg (P v0.toNatClampNeg)) v0.toNatClampNeg (-1 : Int32))
set_option maxRecDepth 65536 in
set_option maxHeartbeats 40000000 in
theorem rm6 (l : Launch) (Z : State) (a0 : Array Value) (hw : ∀ d ∈ tables_1, d.before a0 Z = true) (ws : List Jvm.Cond) (o : Addr) (v0 : Int32) (mm pp : Addr) (n : Nat) (M P : Nat → Int32) (sz : Int32) (h0 : Heap) (n0 : Nat) (Z0 : n0 ≤ h0.size) (E_o : Exa Z h0 o "com/example/slotwright/slotwright/problems/IndexSet") (F_members : Fld Z h0 o "com/example/slotwright/slotwright/problems/IndexSet" "members" "[I" (.ref mm)) (F_positions : Fld Z h0 o "com/example/slotwright/slotwright/problems/IndexSet" "positions" "[I" (.ref pp)) (F_size : Fld Z h0 o "com/example/slotwright/slotwright/problems/IndexSet" "size" "I" (.int sz)) (V_mm : AI Z h0 mm .int n M) (V_pp : AI Z h0 pp .int n P) (ne_om : o ≠ mm) (ne_op : o ≠ pp) (ne_mp : mm ≠ pp) (g_o : n0 ≤ o) (g_mm : n0 ≤ mm) (g_pp : n0 ≤ pp) (hsz : 0 ≤ (sz - (1 : Int32)).toInt ∧ (sz - (1 : Int32)).toInt < n) (hv : 0 ≤ v0.toInt ∧ v0.toInt < n) (hps : 0 ≤ (P v0.toNatClampNeg).toInt ∧ (P v0.toNatClampNeg).toInt < n) (hls : 0 ≤ (M (sz - (1 : Int32)).toNatClampNeg).toInt ∧ (M (sz - (1 : Int32)).toNatClampNeg).toInt < n) :
    MetFree l (⟨"com/example/slotwright/slotwright/problems/IndexSet", "remove", "(I)V"⟩ : MethodName) (head1 (Jvm.Cond.code (⟨"com/example/slotwright/slotwright/problems/IndexSet", "remove", "(I)V"⟩ : MethodName) prog_12_method_6_code 4 none :: ws) ({ frames := 0, cells := 0, slots := 0, locals := 0 } : Room)) (fun ar' Ur => ar' = #[(.ref o), (.int v0)] ∧ Z.Warmed39 Ur.vm ∧ Ur.heap = h0) (fun _ _ _ _ _ => True) (fun _ Ur or' Us => ∃ v L, or' = .returned v ∧ Q6 Z o mm pp n M P sz v0 h0 n0 v Us.heap L ∧ FrameEnd Ur or' Us L 0 0) := by
  refine MetFree.of_bodySF (plainFor_of_name pn_2) hisR ?_
  intro p e s m args below meth c s₁ Bd hml0 hP hK
  obtain ⟨rfl, hZ, hh⟩ := hP
  have hx := Bd.exec
  have hby := Bd.bytes
  have hlk : meth.locks = false := BodyLoose.notSynchronized Bd
  have hml : c.maxLocals = 4 := hml0
  have hown : s.vm.findClass "com/example/slotwright/slotwright/problems/IndexSet" = some m.cls := findClass_of_methodNamed Bd.named
  have hnm := (name_of_methodNamed Bd.named Bd.method).1
  have X0 : Stand p l e ({ frames := 0, cells := 0, slots := 0, locals := 0 } : Room) s m #[(.ref o), (.int v0)] below meth c s₁ [] 0 0 := Stand.of_body Bd
  have e0 : s₁.heap = h0 := by rw [← hh, Bd.state]; rfl
  have N0 := Fr.nil n0
  show Goes p.tables e below s (Q6 Z o mm pp n M P sz v0 h0 n0) 0 0 (s₁.setTop (entryFrame m #[(.ref o), (.int v0)] 4))
  refine Goes.of (fun t k => castTop (ef_6 m o v0) k) ?_
  show Goes _ _ _ _ _ _ _ (s₁.setTop (mkF m 0 #[.val (.ref o), .val (.int v0), .unset, .unset] []))
  refine Goes.of (fun t k => XS.aloadN X0.here hx rfl (hb hby d6_0) rfl rfl k) ?_
  show Goes _ _ _ _ _ _ _ (s₁.setTop (mkF m 1 #[.val (.ref o), .val (.int v0), .unset, .unset] [(.ref o)]))
  obtain ⟨T56, X56, e56, st56⟩ := getF X0 hx hZ hown (host := "") (Or.inl (hw _ (List.mem_of_getElem? (i := 17) rfl))) Via.refl e0 F_positions (g := (mkF m 1 #[.val (.ref o), .val (.int v0), .unset, .unset] [(.ref o)])) rfl rfl (hb hby d6_1)
  refine Goes.of st56 ?_
  show Goes _ _ _ _ _ _ _ (T56.setTop (mkF m 4 #[.val (.ref o), .val (.int v0), .unset, .unset] [(.ref pp)]))
  refine Goes.of (fun t k => XS.iloadN X56.here hx rfl (hb hby d6_4) rfl k) ?_
  show Goes _ _ _ _ _ _ _ (T56.setTop (mkF m 5 #[.val (.ref o), .val (.int v0), .unset, .unset] [(.int v0), (.ref pp)]))
  refine Goes.of (fun t k => ldI X56 hx hZ e56 V_pp (j := v0) (i := v0.toNatClampNeg) (v := (P v0.toNatClampNeg)) (own_nn (by omega)) rfl (own_ltn (by omega) (by omega)) rfl (g := (mkF m 5 #[.val (.ref o), .val (.int v0), .unset, .unset] [(.int v0), (.ref pp)])) rfl rfl (hb hby d6_5) t k) ?_
  show Goes _ _ _ _ _ _ _ (T56.setTop (mkF m 6 #[.val (.ref o), .val (.int v0), .unset, .unset] [(.int (P v0.toNatClampNeg))]))
  refine Goes.of (fun t k => XS.istoreN X56.here hx rfl (hb hby d6_6) rfl (l' := #[.val (.ref o), .val (.int v0), .val (.int (P v0.toNatClampNeg)), .unset]) rfl k) ?_
  show Goes _ _ _ _ _ _ _ (T56.setTop (mkF m 7 #[.val (.ref o), .val (.int v0), .val (.int (P v0.toNatClampNeg)), .unset] []))
  refine Goes.of (fun t k => XS.aloadN X56.here hx rfl (hb hby d6_7) rfl rfl k) ?_
  show Goes _ _ _ _ _ _ _ (T56.setTop (mkF m 8 #[.val (.ref o), .val (.int v0), .val (.int (P v0.toNatClampNeg)), .unset] [(.ref o)]))
  obtain ⟨T57, X57, e57, st57⟩ := getF X56 hx hZ hown (host := "") (Or.inl (hw _ (List.mem_of_getElem? (i := 15) rfl))) Via.refl e56 F_members (g := (mkF m 8 #[.val (.ref o), .val (.int v0), .val (.int (P v0.toNatClampNeg)), .unset] [(.ref o)])) rfl rfl (hb hby d6_8)
  refine Goes.of st57 ?_
  show Goes _ _ _ _ _ _ _ (T57.setTop (mkF m 11 #[.val (.ref o), .val (.int v0), .val (.int (P v0.toNatClampNeg)), .unset] [(.ref mm)]))
  refine Goes.of (fun t k => XS.aloadN X57.here hx rfl (hb hby d6_11) rfl rfl k) ?_
  show Goes _ _ _ _ _ _ _ (T57.setTop (mkF m 12 #[.val (.ref o), .val (.int v0), .val (.int (P v0.toNatClampNeg)), .unset] [(.ref o), (.ref mm)]))
  refine Goes.of (fun t k => XS.dup X57.here hx rfl (hb hby d6_12) rfl rfl k) ?_
  show Goes _ _ _ _ _ _ _ (T57.setTop (mkF m 13 #[.val (.ref o), .val (.int v0), .val (.int (P v0.toNatClampNeg)), .unset] [(.ref o), (.ref o), (.ref mm)]))
  obtain ⟨T58, X58, e58, st58⟩ := getF X57 hx hZ hown (host := "") (Or.inl (hw _ (List.mem_of_getElem? (i := 28) rfl))) Via.refl e57 F_size (g := (mkF m 13 #[.val (.ref o), .val (.int v0), .val (.int (P v0.toNatClampNeg)), .unset] [(.ref o), (.ref o), (.ref mm)])) rfl rfl (hb hby d6_13)
  refine Goes.of st58 ?_
  show Goes _ _ _ _ _ _ _ (T58.setTop (mkF m 16 #[.val (.ref o), .val (.int v0), .val (.int (P v0.toNatClampNeg)), .unset] [(.int sz), (.ref o), (.ref mm)]))
  refine Goes.of (fun t k => XS.iconst X58.here hx rfl (hb hby d6_16) k) ?_
  show Goes _ _ _ _ _ _ _ (T58.setTop (mkF m 17 #[.val (.ref o), .val (.int v0), .val (.int (P v0.toNatClampNeg)), .unset] [(.int (1 : Int32)), (.int sz), (.ref o), (.ref mm)]))
  refine Goes.of (fun t k => XS.isub X58.here hx rfl (hb hby d6_17) rfl k) ?_
  show Goes _ _ _ _ _ _ _ (T58.setTop (mkF m 18 #[.val (.ref o), .val (.int v0), .val (.int (P v0.toNatClampNeg)), .unset] [(.int (sz - (1 : Int32))), (.ref o), (.ref mm)]))
  refine Goes.of (fun t k => XS.dupX1 X58.here hx rfl (hb hby d6_18) rfl rfl rfl k) ?_
  show Goes _ _ _ _ _ _ _ (T58.setTop (mkF m 19 #[.val (.ref o), .val (.int v0), .val (.int (P v0.toNatClampNeg)), .unset] [(.int (sz - (1 : Int32))), (.ref o), (.int (sz - (1 : Int32))), (.ref mm)]))
  obtain ⟨T59, h59, X59, e59, W59, st59⟩ := putF X58 hx hZ hown (host := "") (Or.inl (hw _ (List.mem_of_getElem? (i := 28) rfl))) Via.refl e58 F_size E_o (Or.inl (hw _ (List.mem_of_getElem? (i := 29) rfl))) (hw _ (List.mem_of_getElem? (i := 7) rfl)) (ty := .int) (by decide) rfl rfl (g := (mkF m 19 #[.val (.ref o), .val (.int v0), .val (.int (P v0.toNatClampNeg)), .unset] [(.int (sz - (1 : Int32))), (.ref o), (.int (sz - (1 : Int32))), (.ref mm)])) rfl rfl (hb hby d6_19)
  have Fw59 := Fld.same W59 F_size
  have F60 := Exa.wr W59 E_o
  have F61 := Fld.other W59 F_members (Or.inr (slot_ne (Or.inr (hw _ (List.mem_of_getElem? (i := 16) rfl))) (Or.inl (hw _ (List.mem_of_getElem? (i := 29) rfl))) (by decide) (t := (.array .int)) (t' := .int) (by decide) (by decide)))
  have F62 := Fld.other W59 F_positions (Or.inr (slot_ne (Or.inr (hw _ (List.mem_of_getElem? (i := 18) rfl))) (Or.inl (hw _ (List.mem_of_getElem? (i := 29) rfl))) (by decide) (t := (.array .int)) (t' := .int) (by decide) (by decide)))
  have F63 := V_mm.other W59 (Ne.symm ne_om)
  have F64 := V_pp.other W59 (Ne.symm ne_op)
  have Z59 : n0 ≤ h59.size := Nat.le_trans Z0 (Keep.of_wr W59).1
  have K59 : Keep h0 h59 [o, mm, pp] := (Keep.refl h0 [o, mm, pp]).wr W59 (Or.inl (List.mem_of_getElem? (i := 0) rfl))
  have N59 := Fr.snoc X59 N0 g_o
  refine Goes.of st59 ?_
  show Goes _ _ _ _ _ _ _ (T59.setTop (mkF m 22 #[.val (.ref o), .val (.int v0), .val (.int (P v0.toNatClampNeg)), .unset] [(.int (sz - (1 : Int32))), (.ref mm)]))
  refine Goes.of (fun t k => ldI X59 hx hZ e59 F63 (j := (sz - (1 : Int32))) (i := (sz - (1 : Int32)).toNatClampNeg) (v := (M (sz - (1 : Int32)).toNatClampNeg)) (own_nn (by omega)) rfl (own_ltn (by omega) (by omega)) rfl (g := (mkF m 22 #[.val (.ref o), .val (.int v0), .val (.int (P v0.toNatClampNeg)), .unset] [(.int (sz - (1 : Int32))), (.ref mm)])) rfl rfl (hb hby d6_22) t k) ?_
  show Goes _ _ _ _ _ _ _ (T59.setTop (mkF m 23 #[.val (.ref o), .val (.int v0), .val (.int (P v0.toNatClampNeg)), .unset] [(.int (M (sz - (1 : Int32)).toNatClampNeg))]))
  refine Goes.of (fun t k => XS.istoreN X59.here hx rfl (hb hby d6_23) rfl (l' := #[.val (.ref o), .val (.int v0), .val (.int (P v0.toNatClampNeg)), .val (.int (M (sz - (1 : Int32)).toNatClampNeg))]) rfl k) ?_
  show Goes _ _ _ _ _ _ _ (T59.setTop (mkF m 24 #[.val (.ref o), .val (.int v0), .val (.int (P v0.toNatClampNeg)), .val (.int (M (sz - (1 : Int32)).toNatClampNeg))] []))
  refine Goes.of (fun t k => XS.aloadN X59.here hx rfl (hb hby d6_24) rfl rfl k) ?_
  show Goes _ _ _ _ _ _ _ (T59.setTop (mkF m 25 #[.val (.ref o), .val (.int v0), .val (.int (P v0.toNatClampNeg)), .val (.int (M (sz - (1 : Int32)).toNatClampNeg))] [(.ref o)]))
  obtain ⟨T65, X65, e65, st65⟩ := getF X59 hx hZ hown (host := "") (Or.inl (hw _ (List.mem_of_getElem? (i := 15) rfl))) Via.refl e59 F61 (g := (mkF m 25 #[.val (.ref o), .val (.int v0), .val (.int (P v0.toNatClampNeg)), .val (.int (M (sz - (1 : Int32)).toNatClampNeg))] [(.ref o)])) rfl rfl (hb hby d6_25)
  refine Goes.of st65 ?_
  show Goes _ _ _ _ _ _ _ (T65.setTop (mkF m 28 #[.val (.ref o), .val (.int v0), .val (.int (P v0.toNatClampNeg)), .val (.int (M (sz - (1 : Int32)).toNatClampNeg))] [(.ref mm)]))
  refine Goes.of (fun t k => XS.iloadN X65.here hx rfl (hb hby d6_28) rfl k) ?_
  show Goes _ _ _ _ _ _ _ (T65.setTop (mkF m 29 #[.val (.ref o), .val (.int v0), .val (.int (P v0.toNatClampNeg)), .val (.int (M (sz - (1 : Int32)).toNatClampNeg))] [(.int (P v0.toNatClampNeg)), (.ref mm)]))
  refine Goes.of (fun t k => XS.iloadN X65.here hx rfl (hb hby d6_29) rfl k) ?_
  show Goes _ _ _ _ _ _ _ (T65.setTop (mkF m 30 #[.val (.ref o), .val (.int v0), .val (.int (P v0.toNatClampNeg)), .val (.int (M (sz - (1 : Int32)).toNatClampNeg))] [(.int (M (sz - (1 : Int32)).toNatClampNeg)), (.int (P v0.toNatClampNeg)), (.ref mm)]))
  obtain ⟨T66, h66, X66, e66, W66, V66, st66⟩ := putI X65 hx hZ e65 F63 (j := (P v0.toNatClampNeg)) (x := (M (sz - (1 : Int32)).toNatClampNeg)) (i := (P v0.toNatClampNeg).toNatClampNeg) (own_nn (by omega)) rfl (own_ltn (by omega) (by omega)) (g := (mkF m 30 #[.val (.ref o), .val (.int v0), .val (.int (P v0.toNatClampNeg)), .val (.int (M (sz - (1 : Int32)).toNatClampNeg))] [(.int (M (sz - (1 : Int32)).toNatClampNeg)), (.int (P v0.toNatClampNeg)), (.ref mm)])) rfl rfl (hb hby d6_30)
  have F67 := Exa.wr W66 F60
  have F68 := Fld.other W66 F61 (Or.inl ne_om)
  have F69 := Fld.other W66 F62 (Or.inl ne_om)
  have F70 := Fld.other W66 Fw59 (Or.inl ne_om)
  have F71 := F64.other W66 (Ne.symm ne_mp)
  have Z66 : n0 ≤ h66.size := Nat.le_trans Z59 (Keep.of_wr W66).1
  have K66 : Keep h0 h66 [o, mm, pp] := K59.wr W66 (Or.inl (List.mem_of_getElem? (i := 1) rfl))
  have N66 := Fr.snoc X66 N59 g_mm
  refine Goes.of st66 ?_
  show Goes _ _ _ _ _ _ _ (T66.setTop (mkF m 31 #[.val (.ref o), .val (.int v0), .val (.int (P v0.toNatClampNeg)), .val (.int (M (sz - (1 : Int32)).toNatClampNeg))] []))
  refine Goes.of (fun t k => XS.aloadN X66.here hx rfl (hb hby d6_31) rfl rfl k) ?_
  show Goes _ _ _ _ _ _ _ (T66.setTop (mkF m 32 #[.val (.ref o), .val (.int v0), .val (.int (P v0.toNatClampNeg)), .val (.int (M (sz - (1 : Int32)).toNatClampNeg))] [(.ref o)]))
  obtain ⟨T72, X72, e72, st72⟩ := getF X66 hx hZ hown (host := "") (Or.inl (hw _ (List.mem_of_getElem? (i := 17) rfl))) Via.refl e66 F69 (g := (mkF m 32 #[.val (.ref o), .val (.int v0), .val (.int (P v0.toNatClampNeg)), .val (.int (M (sz - (1 : Int32)).toNatClampNeg))] [(.ref o)])) rfl rfl (hb hby d6_32)
  refine Goes.of st72 ?_
  show Goes _ _ _ _ _ _ _ (T72.setTop (mkF m 35 #[.val (.ref o), .val (.int v0), .val (.int (P v0.toNatClampNeg)), .val (.int (M (sz - (1 : Int32)).toNatClampNeg))] [(.ref pp)]))
  refine Goes.of (fun t k => XS.iloadN X72.here hx rfl (hb hby d6_35) rfl k) ?_
  show Goes _ _ _ _ _ _ _ (T72.setTop (mkF m 36 #[.val (.ref o), .val (.int v0), .val (.int (P v0.toNatClampNeg)), .val (.int (M (sz - (1 : Int32)).toNatClampNeg))] [(.int (M (sz - (1 : Int32)).toNatClampNeg)), (.ref pp)]))
  refine Goes.of (fun t k => XS.iloadN X72.here hx rfl (hb hby d6_36) rfl k) ?_
  show Goes _ _ _ _ _ _ _ (T72.setTop (mkF m 37 #[.val (.ref o), .val (.int v0), .val (.int (P v0.toNatClampNeg)), .val (.int (M (sz - (1 : Int32)).toNatClampNeg))] [(.int (P v0.toNatClampNeg)), (.int (M (sz - (1 : Int32)).toNatClampNeg)), (.ref pp)]))
  obtain ⟨T73, h73, X73, e73, W73, V73, st73⟩ := putI X72 hx hZ e72 F71 (j := (M (sz - (1 : Int32)).toNatClampNeg)) (x := (P v0.toNatClampNeg)) (i := (M (sz - (1 : Int32)).toNatClampNeg).toNatClampNeg) (own_nn (by omega)) rfl (own_ltn (by omega) (by omega)) (g := (mkF m 37 #[.val (.ref o), .val (.int v0), .val (.int (P v0.toNatClampNeg)), .val (.int (M (sz - (1 : Int32)).toNatClampNeg))] [(.int (P v0.toNatClampNeg)), (.int (M (sz - (1 : Int32)).toNatClampNeg)), (.ref pp)])) rfl rfl (hb hby d6_37)
  have F74 := Exa.wr W73 F67
  have F75 := Fld.other W73 F68 (Or.inl ne_op)
  have F76 := Fld.other W73 F69 (Or.inl ne_op)
  have F77 := Fld.other W73 F70 (Or.inl ne_op)
  have F78 := V66.other W73 ne_mp
  have Z73 : n0 ≤ h73.size := Nat.le_trans Z66 (Keep.of_wr W73).1
  have K73 : Keep h0 h73 [o, mm, pp] := K66.wr W73 (Or.inl (List.mem_of_getElem? (i := 2) rfl))
  have N73 := Fr.snoc X73 N66 g_pp
  refine Goes.of st73 ?_
  show Goes _ _ _ _ _ _ _ (T73.setTop (mkF m 38 #[.val (.ref o), .val (.int v0), .val (.int (P v0.toNatClampNeg)), .val (.int (M (sz - (1 : Int32)).toNatClampNeg))] []))
  refine Goes.of (fun t k => XS.aloadN X73.here hx rfl (hb hby d6_38) rfl rfl k) ?_
  show Goes _ _ _ _ _ _ _ (T73.setTop (mkF m 39 #[.val (.ref o), .val (.int v0), .val (.int (P v0.toNatClampNeg)), .val (.int (M (sz - (1 : Int32)).toNatClampNeg))] [(.ref o)]))
  obtain ⟨T79, X79, e79, st79⟩ := getF X73 hx hZ hown (host := "") (Or.inl (hw _ (List.mem_of_getElem? (i := 17) rfl))) Via.refl e73 F76 (g := (mkF m 39 #[.val (.ref o), .val (.int v0), .val (.int (P v0.toNatClampNeg)), .val (.int (M (sz - (1 : Int32)).toNatClampNeg))] [(.ref o)])) rfl rfl (hb hby d6_39)
  refine Goes.of st79 ?_
  show Goes _ _ _ _ _ _ _ (T79.setTop (mkF m 42 #[.val (.ref o), .val (.int v0), .val (.int (P v0.toNatClampNeg)), .val (.int (M (sz - (1 : Int32)).toNatClampNeg))] [(.ref pp)]))
  refine Goes.of (fun t k => XS.iloadN X79.here hx rfl (hb hby d6_42) rfl k) ?_
  show Goes _ _ _ _ _ _ _ (T79.setTop (mkF m 43 #[.val (.ref o), .val (.int v0), .val (.int (P v0.toNatClampNeg)), .val (.int (M (sz - (1 : Int32)).toNatClampNeg))] [(.int v0), (.ref pp)]))
  refine Goes.of (fun t k => XS.iconst X79.here hx rfl (hb hby d6_43) k) ?_
  show Goes _ _ _ _ _ _ _ (T79.setTop (mkF m 44 #[.val (.ref o), .val (.int v0), .val (.int (P v0.toNatClampNeg)), .val (.int (M (sz - (1 : Int32)).toNatClampNeg))] [(.int (-1 : Int32)), (.int v0), (.ref pp)]))
  obtain ⟨T80, h80, X80, e80, W80, V80, st80⟩ := putI X79 hx hZ e79 V73 (j := v0) (x := (-1 : Int32)) (i := v0.toNatClampNeg) (own_nn (by omega)) rfl (own_ltn (by omega) (by omega)) (g := (mkF m 44 #[.val (.ref o), .val (.int v0), .val (.int (P v0.toNatClampNeg)), .val (.int (M (sz - (1 : Int32)).toNatClampNeg))] [(.int (-1 : Int32)), (.int v0), (.ref pp)])) rfl rfl (hb hby d6_44)
  have F81 := Exa.wr W80 F74
  have F82 := Fld.other W80 F75 (Or.inl ne_op)
  have F83 := Fld.other W80 F76 (Or.inl ne_op)
  have F84 := Fld.other W80 F77 (Or.inl ne_op)
  have F85 := F78.other W80 ne_mp
  have Z80 : n0 ≤ h80.size := Nat.le_trans Z73 (Keep.of_wr W80).1
  have K80 : Keep h0 h80 [o, mm, pp] := K73.wr W80 (Or.inl (List.mem_of_getElem? (i := 2) rfl))
  have N80 := Fr.snoc X80 N73 g_pp
  refine Goes.of st80 ?_
  show Goes _ _ _ _ _ _ _ (T80.setTop (mkF m 45 #[.val (.ref o), .val (.int v0), .val (.int (P v0.toNatClampNeg)), .val (.int (M (sz - (1 : Int32)).toNatClampNeg))] []))
  exact Goes.fin X80 hlk (v := none) (fun _ => rfl) (fun fs hr => X80.returnOut hx Bd.returns (hb hby d6_45) hr) (by rw [e80]; exact ⟨rfl, N80, K80, F81, F82, F83, F84, F85, V80⟩) (by decide) (by decide)
theorem d7_0 : decode prog_12_method_2_code 0 = .ok (.aload_n 0, 1) := by decide +kernel
theorem d7_1 : decode prog_12_method_2_code 1 = .ok (.getfield 22, 3) := by decide +kernel
theorem d7_4 : decode prog_12_method_2_code 4 = .ok (.ireturn, 1) := by decide +kernel
theorem ef_7 (m : MethodId) (o : Addr) : entryFrame m #[(.ref o)] 1 = mkF m 0 #[.val (.ref o)] [] := by first | (simp [entryFrame, mkF, argsToLocals, Value.category]; done) | rfl
def Q7 (M P : Nat → Int32) (sz : Int32) (h0 : Heap) (n0 : Nat) (v : Option Value) (h : Heap) (L : List Loc) : Prop := v = some (.int sz) ∧ Fr n0 L ∧ h = h0
set_option maxRecDepth 65536 in
set_option maxHeartbeats 40000000 in
theorem rm7 (l : Launch) (Z : State) (a0 : Array Value) (hw : ∀ d ∈ tables_1, d.before a0 Z = true) (ws : List Jvm.Cond) (o : Addr) (mm pp : Addr) (n : Nat) (M P : Nat → Int32) (sz : Int32) (h0 : Heap) (n0 : Nat) (Z0 : n0 ≤ h0.size) (E_o : Exa Z h0 o "com/example/slotwright/slotwright/problems/IndexSet") (F_members : Fld Z h0 o "com/example/slotwright/slotwright/problems/IndexSet" "members" "[I" (.ref mm)) (F_positions : Fld Z h0 o "com/example/slotwright/slotwright/problems/IndexSet" "positions" "[I" (.ref pp)) (F_size : Fld Z h0 o "com/example/slotwright/slotwright/problems/IndexSet" "size" "I" (.int sz)) (V_mm : AI Z h0 mm .int n M) (V_pp : AI Z h0 pp .int n P) (ne_om : o ≠ mm) (ne_op : o ≠ pp) (ne_mp : mm ≠ pp) (g_o : n0 ≤ o) (g_mm : n0 ≤ mm) (g_pp : n0 ≤ pp)  :
    MetFree l (⟨"com/example/slotwright/slotwright/problems/IndexSet", "size", "()I"⟩ : MethodName) (head1 (Jvm.Cond.code (⟨"com/example/slotwright/slotwright/problems/IndexSet", "size", "()I"⟩ : MethodName) prog_12_method_2_code 1 (some .int) :: ws) ({ frames := 0, cells := 0, slots := 0, locals := 0 } : Room)) (fun ar' Ur => ar' = #[(.ref o)] ∧ Z.Warmed39 Ur.vm ∧ Ur.heap = h0) (fun _ _ _ _ _ => True) (fun _ Ur or' Us => ∃ v L, or' = .returned v ∧ Q7 M P sz h0 n0 v Us.heap L ∧ FrameEnd Ur or' Us L 0 0) := by
  refine MetFree.of_bodySF (plainFor_of_name pn_2) hisR ?_
  intro p e s m args below meth c s₁ Bd hml0 hP hK
  obtain ⟨rfl, hZ, hh⟩ := hP
  have hx := Bd.exec
  have hby := Bd.bytes
  have hlk : meth.locks = false := BodyLoose.notSynchronized Bd
  have hml : c.maxLocals = 1 := hml0
  have hown : s.vm.findClass "com/example/slotwright/slotwright/problems/IndexSet" = some m.cls := findClass_of_methodNamed Bd.named
  have hnm := (name_of_methodNamed Bd.named Bd.method).1
  have X0 : Stand p l e ({ frames := 0, cells := 0, slots := 0, locals := 0 } : Room) s m #[(.ref o)] below meth c s₁ [] 0 0 := Stand.of_body Bd
  have e0 : s₁.heap = h0 := by rw [← hh, Bd.state]; rfl
  have N0 := Fr.nil n0
  show Goes p.tables e below s (Q7 M P sz h0 n0) 0 0 (s₁.setTop (entryFrame m #[(.ref o)] 1))
  refine Goes.of (fun t k => castTop (ef_7 m o) k) ?_
  show Goes _ _ _ _ _ _ _ (s₁.setTop (mkF m 0 #[.val (.ref o)] []))
  refine Goes.of (fun t k => XS.aloadN X0.here hx rfl (hb hby d7_0) rfl rfl k) ?_
  show Goes _ _ _ _ _ _ _ (s₁.setTop (mkF m 1 #[.val (.ref o)] [(.ref o)]))
  obtain ⟨T86, X86, e86, st86⟩ := getF X0 hx hZ hown (host := "") (Or.inl (hw _ (List.mem_of_getElem? (i := 28) rfl))) Via.refl e0 F_size (g := (mkF m 1 #[.val (.ref o)] [(.ref o)])) rfl rfl (hb hby d7_1)
  refine Goes.of st86 ?_
  show Goes _ _ _ _ _ _ _ (T86.setTop (mkF m 4 #[.val (.ref o)] [(.int sz)]))
  exact Goes.fin X86 hlk (v := some (.int sz)) (fun h => by rw [Bd.returns] at h; cases h) (fun fs hr => retI X86 hx Bd.returns (hb hby d7_4) hr) ⟨congrArg (fun z => some (Value.int z)) (rfl), N0, e86⟩ (by decide) (by decide)
theorem d9_0 : decode prog_12_method_3_code 0 = .ok (.aload_n 0, 1) := by decide +kernel
theorem d9_1 : decode prog_12_method_3_code 1 = .ok (.getfield 7, 3) := by decide +kernel
theorem d9_4 : decode prog_12_method_3_code 4 = .ok (.iload_n 1, 1) := by decide +kernel
theorem d9_5 : decode prog_12_method_3_code 5 = .ok (.iaload, 1) := by decide +kernel
theorem d9_6 : decode prog_12_method_3_code 6 = .ok (.ireturn, 1) := by decide +kernel
theorem ef_9 (m : MethodId) (o : Addr) (v0 : Int32) : entryFrame m #[(.ref o), (.int v0)] 2 = mkF m 0 #[.val (.ref o), .val (.int v0)] [] := by first | (simp [entryFrame, mkF, argsToLocals, Value.category]; done) | rfl
def Q9 (M P : Nat → Int32) (sz : Int32) (v0 : Int32) (h0 : Heap) (n0 : Nat) (v : Option Value) (h : Heap) (L : List Loc) : Prop := v = some (.int (M v0.toNatClampNeg)) ∧ Fr n0 L ∧ h = h0
set_option maxRecDepth 65536 in
set_option maxHeartbeats 40000000 in
theorem rm9 (l : Launch) (Z : State) (a0 : Array Value) (hw : ∀ d ∈ tables_1, d.before a0 Z = true) (ws : List Jvm.Cond) (o : Addr) (v0 : Int32) (mm pp : Addr) (n : Nat) (M P : Nat → Int32) (sz : Int32) (h0 : Heap) (n0 : Nat) (Z0 : n0 ≤ h0.size) (E_o : Exa Z h0 o "com/example/slotwright/slotwright/problems/IndexSet") (F_members : Fld Z h0 o "com/example/slotwright/slotwright/problems/IndexSet" "members" "[I" (.ref mm)) (F_positions : Fld Z h0 o "com/example/slotwright/slotwright/problems/IndexSet" "positions" "[I" (.ref pp)) (F_size : Fld Z h0 o "com/example/slotwright/slotwright/problems/IndexSet" "size" "I" (.int sz)) (V_mm : AI Z h0 mm .int n M) (V_pp : AI Z h0 pp .int n P) (ne_om : o ≠ mm) (ne_op : o ≠ pp) (ne_mp : mm ≠ pp) (g_o : n0 ≤ o) (g_mm : n0 ≤ mm) (g_pp : n0 ≤ pp) (hv : 0 ≤ v0.toInt ∧ v0.toInt < n) :
    MetFree l (⟨"com/example/slotwright/slotwright/problems/IndexSet", "get", "(I)I"⟩ : MethodName) (head1 (Jvm.Cond.code (⟨"com/example/slotwright/slotwright/problems/IndexSet", "get", "(I)I"⟩ : MethodName) prog_12_method_3_code 2 (some .int) :: ws) ({ frames := 0, cells := 0, slots := 0, locals := 0 } : Room)) (fun ar' Ur => ar' = #[(.ref o), (.int v0)] ∧ Z.Warmed39 Ur.vm ∧ Ur.heap = h0) (fun _ _ _ _ _ => True) (fun _ Ur or' Us => ∃ v L, or' = .returned v ∧ Q9 M P sz v0 h0 n0 v Us.heap L ∧ FrameEnd Ur or' Us L 0 0) := by
  refine MetFree.of_bodySF (plainFor_of_name pn_2) hisR ?_
  intro p e s m args below meth c s₁ Bd hml0 hP hK
  obtain ⟨rfl, hZ, hh⟩ := hP
  have hx := Bd.exec
  have hby := Bd.bytes
  have hlk : meth.locks = false := BodyLoose.notSynchronized Bd
  have hml : c.maxLocals = 2 := hml0
  have hown : s.vm.findClass "com/example/slotwright/slotwright/problems/IndexSet" = some m.cls := findClass_of_methodNamed Bd.named
  have hnm := (name_of_methodNamed Bd.named Bd.method).1
  have X0 : Stand p l e ({ frames := 0, cells := 0, slots := 0, locals := 0 } : Room) s m #[(.ref o), (.int v0)] below meth c s₁ [] 0 0 := Stand.of_body Bd
  have e0 : s₁.heap = h0 := by rw [← hh, Bd.state]; rfl
  have N0 := Fr.nil n0
  show Goes p.tables e below s (Q9 M P sz v0 h0 n0) 0 0 (s₁.setTop (entryFrame m #[(.ref o), (.int v0)] 2))
  refine Goes.of (fun t k => castTop (ef_9 m o v0) k) ?_
  show Goes _ _ _ _ _ _ _ (s₁.setTop (mkF m 0 #[.val (.ref o), .val (.int v0)] []))
  refine Goes.of (fun t k => XS.aloadN X0.here hx rfl (hb hby d9_0) rfl rfl k) ?_
  show Goes _ _ _ _ _ _ _ (s₁.setTop (mkF m 1 #[.val (.ref o), .val (.int v0)] [(.ref o)]))
  obtain ⟨T87, X87, e87, st87⟩ := getF X0 hx hZ hown (host := "") (Or.inl (hw _ (List.mem_of_getElem? (i := 15) rfl))) Via.refl e0 F_members (g := (mkF m 1 #[.val (.ref o), .val (.int v0)] [(.ref o)])) rfl rfl (hb hby d9_1)
  refine Goes.of st87 ?_
  show Goes _ _ _ _ _ _ _ (T87.setTop (mkF m 4 #[.val (.ref o), .val (.int v0)] [(.ref mm)]))
  refine Goes.of (fun t k => XS.iloadN X87.here hx rfl (hb hby d9_4) rfl k) ?_
  show Goes _ _ _ _ _ _ _ (T87.setTop (mkF m 5 #[.val (.ref o), .val (.int v0)] [(.int v0), (.ref mm)]))
  refine Goes.of (fun t k => ldI X87 hx hZ e87 V_mm (j := v0) (i := v0.toNatClampNeg) (v := (M v0.toNatClampNeg)) (own_nn (by omega)) rfl (own_ltn (by omega) (by omega)) rfl (g := (mkF m 5 #[.val (.ref o), .val (.int v0)] [(.int v0), (.ref mm)])) rfl rfl (hb hby d9_5) t k) ?_
  show Goes _ _ _ _ _ _ _ (T87.setTop (mkF m 6 #[.val (.ref o), .val (.int v0)] [(.int (M v0.toNatClampNeg))]))
  exact Goes.fin X87 hlk (v := some (.int (M v0.toNatClampNeg))) (fun h => by rw [Bd.returns] at h; cases h) (fun fs hr => retI X87 hx Bd.returns (hb hby d9_6) hr) ⟨congrArg (fun z => some (Value.int z)) (rfl), N0, e87⟩ (by decide) (by decide)
theorem d11_0 : decode prog_12_method_4_code 0 = .ok (.aload_n 0, 1) := by decide +kernel
theorem d11_1 : decode prog_12_method_4_code 1 = .ok (.getfield 13, 3) := by decide +kernel
theorem d11_4 : decode prog_12_method_4_code 4 = .ok (.iload_n 1, 1) := by decide +kernel
theorem d11_5 : decode prog_12_method_4_code 5 = .ok (.iaload, 1) := by decide +kernel
theorem d11_6 : decode prog_12_method_4_code 6 = .ok (.ifCond .lt 7, 3) := by decide +kernel
theorem d11_9 : decode prog_12_method_4_code 9 = .ok (.iconst 1, 1) := by decide +kernel
theorem d11_10 : decode prog_12_method_4_code 10 = .ok (.goto 4, 3) := by decide +kernel
theorem d11_13 : decode prog_12_method_4_code 13 = .ok (.iconst 0, 1) := by decide +kernel
theorem d11_14 : decode prog_12_method_4_code 14 = .ok (.ireturn, 1) := by decide +kernel
theorem ef_11 (m : MethodId) (o : Addr) (v0 : Int32) : entryFrame m #[(.ref o), (.int v0)] 2 = mkF m 0 #[.val (.ref o), .val (.int v0)] [] := by first | (simp [entryFrame, mkF, argsToLocals, Value.category]; done) | rfl
def f11 (w : Int32) : Int32 :=
  (if w < (0 : Int32) then (0 : Int32)
  else (1 : Int32))
def Q11 (M P : Nat → Int32) (sz : Int32) (v0 : Int32) (h0 : Heap) (n0 : Nat) (v : Option Value) (h : Heap) (L : List Loc) : Prop := v = some (.int (f11 (P v0.toNatClampNeg))) ∧ Fr n0 L ∧ h = h0
set_option maxRecDepth 65536 in
set_option maxHeartbeats 40000000 in
theorem rm11 (l : Launch) (Z : State) (a0 : Array Value) (hw : ∀ d ∈ tables_1, d.before a0 Z = true) (ws : List Jvm.Cond) (o : Addr) (v0 : Int32) (mm pp : Addr) (n : Nat) (M P : Nat → Int32) (sz : Int32) (h0 : Heap) (n0 : Nat) (Z0 : n0 ≤ h0.size) (E_o : Exa Z h0 o "com/example/slotwright/slotwright/problems/IndexSet") (F_members : Fld Z h0 o "com/example/slotwright/slotwright/problems/IndexSet" "members" "[I" (.ref mm)) (F_positions : Fld Z h0 o "com/example/slotwright/slotwright/problems/IndexSet" "positions" "[I" (.ref pp)) (F_size : Fld Z h0 o "com/example/slotwright/slotwright/problems/IndexSet" "size" "I" (.int sz)) (V_mm : AI Z h0 mm .int n M) (V_pp : AI Z h0 pp .int n P) (ne_om : o ≠ mm) (ne_op : o ≠ pp) (ne_mp : mm ≠ pp) (g_o : n0 ≤ o) (g_mm : n0 ≤ mm) (g_pp : n0 ≤ pp) (hv : 0 ≤ v0.toInt ∧ v0.toInt < n) :
    MetFree l (⟨"com/example/slotwright/slotwright/problems/IndexSet", "contains", "(I)Z"⟩ : MethodName) (head1 (Jvm.Cond.code (⟨"com/example/slotwright/slotwright/problems/IndexSet", "contains", "(I)Z"⟩ : MethodName) prog_12_method_4_code 2 (some .boolean) :: ws) ({ frames := 0, cells := 0, slots := 0, locals := 0 } : Room)) (fun ar' Ur => ar' = #[(.ref o), (.int v0)] ∧ Z.Warmed39 Ur.vm ∧ Ur.heap = h0) (fun _ _ _ _ _ => True) (fun _ Ur or' Us => ∃ v L, or' = .returned v ∧ Q11 M P sz v0 h0 n0 v Us.heap L ∧ FrameEnd Ur or' Us L 0 0) := by
  refine MetFree.of_bodySF (plainFor_of_name pn_2) hisR ?_
  intro p e s m args below meth c s₁ Bd hml0 hP hK
  obtain ⟨rfl, hZ, hh⟩ := hP
  have hx := Bd.exec
  have hby := Bd.bytes
  have hlk : meth.locks = false := BodyLoose.notSynchronized Bd
  have hml : c.maxLocals = 2 := hml0
  have hown : s.vm.findClass "com/example/slotwright/slotwright/problems/IndexSet" = some m.cls := findClass_of_methodNamed Bd.named
  have hnm := (name_of_methodNamed Bd.named Bd.method).1
  have X0 : Stand p l e ({ frames := 0, cells := 0, slots := 0, locals := 0 } : Room) s m #[(.ref o), (.int v0)] below meth c s₁ [] 0 0 := Stand.of_body Bd
  have e0 : s₁.heap = h0 := by rw [← hh, Bd.state]; rfl
  have N0 := Fr.nil n0
  show Goes p.tables e below s (Q11 M P sz v0 h0 n0) 0 0 (s₁.setTop (entryFrame m #[(.ref o), (.int v0)] 2))
  refine Goes.of (fun t k => castTop (ef_11 m o v0) k) ?_
  show Goes _ _ _ _ _ _ _ (s₁.setTop (mkF m 0 #[.val (.ref o), .val (.int v0)] []))
  refine Goes.of (fun t k => XS.aloadN X0.here hx rfl (hb hby d11_0) rfl rfl k) ?_
  show Goes _ _ _ _ _ _ _ (s₁.setTop (mkF m 1 #[.val (.ref o), .val (.int v0)] [(.ref o)]))
  obtain ⟨T88, X88, e88, st88⟩ := getF X0 hx hZ hown (host := "") (Or.inl (hw _ (List.mem_of_getElem? (i := 17) rfl))) Via.refl e0 F_positions (g := (mkF m 1 #[.val (.ref o), .val (.int v0)] [(.ref o)])) rfl rfl (hb hby d11_1)
  refine Goes.of st88 ?_
  show Goes _ _ _ _ _ _ _ (T88.setTop (mkF m 4 #[.val (.ref o), .val (.int v0)] [(.ref pp)]))
  refine Goes.of (fun t k => XS.iloadN X88.here hx rfl (hb hby d11_4) rfl k) ?_
  show Goes _ _ _ _ _ _ _ (T88.setTop (mkF m 5 #[.val (.ref o), .val (.int v0)] [(.int v0), (.ref pp)]))
  refine Goes.of (fun t k => ldI X88 hx hZ e88 V_pp (j := v0) (i := v0.toNatClampNeg) (v := (P v0.toNatClampNeg)) (own_nn (by omega)) rfl (own_ltn (by omega) (by omega)) rfl (g := (mkF m 5 #[.val (.ref o), .val (.int v0)] [(.int v0), (.ref pp)])) rfl rfl (hb hby d11_5) t k) ?_
  show Goes _ _ _ _ _ _ _ (T88.setTop (mkF m 6 #[.val (.ref o), .val (.int v0)] [(.int (P v0.toNatClampNeg))]))
  by_cases hc89 : (P v0.toNatClampNeg) < (0 : Int32)
  · refine Goes.of (fun t k => XS.ifYes X88.here hx rfl (pc0 := 6) (pc' := 13) rfl (hb hby d11_6) rfl ((if0 _ _).trans (tlt hc89).1) (by decide) (by decide) k) ?_
    show Goes _ _ _ _ _ _ _ (T88.setTop (mkF m 13 #[.val (.ref o), .val (.int v0)] []))
    refine Goes.of (fun t k => XS.iconst X88.here hx rfl (hb hby d11_13) k) ?_
    show Goes _ _ _ _ _ _ _ (T88.setTop (mkF m 14 #[.val (.ref o), .val (.int v0)] [(.int (0 : Int32))]))
    exact Goes.fin X88 hlk (v := some (.int (0 : Int32))) (fun h => by rw [Bd.returns] at h; cases h) (fun fs hr => retN X88 hx (t := .boolean) Bd.returns (by simp) (hb hby d11_14) hr) ⟨congrArg (fun z => some (Value.int z)) (by rw [f11, if_pos hc89]), N0, e88⟩ (by decide) (by decide)
  · refine Goes.of (fun t k => XS.ifNo X88.here hx rfl (hb hby d11_6) rfl ((if0 _ _).trans (flt hc89).1) k) ?_
    show Goes _ _ _ _ _ _ _ (T88.setTop (mkF m 9 #[.val (.ref o), .val (.int v0)] []))
    refine Goes.of (fun t k => XS.iconst X88.here hx rfl (hb hby d11_9) k) ?_
    show Goes _ _ _ _ _ _ _ (T88.setTop (mkF m 10 #[.val (.ref o), .val (.int v0)] [(.int (1 : Int32))]))
    refine Goes.of (fun t k => XS.goto X88.here hx rfl (pc0 := 10) (pc' := 14) rfl (hb hby d11_10) (by decide) (by decide) k) ?_
    show Goes _ _ _ _ _ _ _ (T88.setTop (mkF m 14 #[.val (.ref o), .val (.int v0)] [(.int (1 : Int32))]))
    exact Goes.fin X88 hlk (v := some (.int (1 : Int32))) (fun h => by rw [Bd.returns] at h; cases h) (fun fs hr => retN X88 hx (t := .boolean) Bd.returns (by simp) (hb hby d11_14) hr) ⟨congrArg (fun z => some (Value.int z)) (by rw [f11, if_neg hc89]), N0, e88⟩ (by decide) (by decide)
theorem own_c1 {w : Int32} (h : ¬ w < 0) : f11 w = 1 := by rw [f11, if_neg h]
theorem own_c0 {w : Int32} (h : ¬ ¬ w < 0) : f11 w = 0 := by rw [f11, if_pos (Decidable.not_not.mp h)]
theorem d8_0 : decode method_4_code 0 = .ok (.iload_n 3, 1) := by decide +kernel
theorem d8_1 : decode method_4_code 1 = .ok (.iload_n 2, 1) := by decide +kernel
theorem d8_2 : decode method_4_code 2 = .ok (.if_icmp .ge 14, 3) := by decide +kernel
theorem d8_5 : decode method_4_code 5 = .ok (.aload_n 0, 1) := by decide +kernel
theorem d8_6 : decode method_4_code 6 = .ok (.iload_n 3, 1) := by decide +kernel
theorem d8_7 : decode method_4_code 7 = .ok (.invokevirtual 36, 3) := by decide +kernel
theorem d8_10 : decode method_4_code 10 = .ok (.aload_n 1, 1) := by decide +kernel
theorem d8_11 : decode method_4_code 11 = .ok (.iload_n 3, 1) := by decide +kernel
theorem d8_12 : decode method_4_code 12 = .ok (.iaload, 1) := by decide +kernel
theorem d8_13 : decode method_4_code 13 = .ok (.if_icmp .ne 7, 3) := by decide +kernel
theorem d8_16 : decode method_4_code 16 = .ok (.iconst 1, 1) := by decide +kernel
theorem d8_17 : decode method_4_code 17 = .ok (.goto 4, 3) := by decide +kernel
theorem d8_20 : decode method_4_code 20 = .ok (.iconst 0, 1) := by decide +kernel
theorem d8_21 : decode method_4_code 21 = .ok (.ireturn, 1) := by decide +kernel
theorem pd_2 : parseMethodDescriptor "(I)I" = some ⟨[.int], some .int⟩ := by decide +kernel
theorem ef_8 (m : MethodId) (o : Addr) (a : Addr) (kk : Int32) (ii : Int32) : entryFrame m #[(.ref o), (.ref a), (.int kk), (.int ii)] 4 = mkF m 0 #[.val (.ref o), .val (.ref a), .val (.int kk), .val (.int ii)] [] := by first | (simp [entryFrame, mkF, argsToLocals, Value.category]; done) | rfl
def Q8 (h0 : Heap) (n0 : Nat) (v : Option Value) (h : Heap) (L : List Loc) : Prop := v = some (.int 1) ∧ Fr n0 L ∧ h = h0
set_option maxRecDepth 65536 in
set_option maxHeartbeats 40000000 in
theorem rm8 (l : Launch) (Z : State) (a0 : Array Value) (hw : ∀ d ∈ tables_1, d.before a0 Z = true) (ws : List Jvm.Cond) (o : Addr) (a : Addr) (kk : Int32) (ii : Int32) (mm pp : Addr) (n : Nat) (M P : Nat → Int32) (sz : Int32) (mf : Nat → Int32) (h0 : Heap) (n0 : Nat) (Z0 : n0 ≤ h0.size) (E_o : Exa Z h0 o "com/example/slotwright/slotwright/problems/IndexSet") (F_members : Fld Z h0 o "com/example/slotwright/slotwright/problems/IndexSet" "members" "[I" (.ref mm)) (F_positions : Fld Z h0 o "com/example/slotwright/slotwright/problems/IndexSet" "positions" "[I" (.ref pp)) (F_size : Fld Z h0 o "com/example/slotwright/slotwright/problems/IndexSet" "size" "I" (.int sz)) (V_mm : AI Z h0 mm .int n M) (V_pp : AI Z h0 pp .int n P) (ne_om : o ≠ mm) (ne_op : o ≠ pp) (ne_mp : mm ≠ pp) (g_o : n0 ≤ o) (g_mm : n0 ≤ mm) (g_pp : n0 ≤ pp) (V_a : AI Z h0 a .int n mf) (hi0 : 0 ≤ ii.toInt) (hkn : kk.toInt ≤ n) (hget : ii < kk → M ii.toNatClampNeg = mf ii.toNatClampNeg) :
    MetFree l (⟨"com/example/slotwright/slotwright/problems/IndexSetRemovePinLaw", "at", "(Lcom/example/slotwright/slotwright/problems/IndexSet;[III)Z"⟩ : MethodName) (head1 (Jvm.Cond.code (⟨"com/example/slotwright/slotwright/problems/IndexSetRemovePinLaw", "at", "(Lcom/example/slotwright/slotwright/problems/IndexSet;[III)Z"⟩ : MethodName) method_4_code 4 (some .boolean) :: ws) ({ frames := 1, cells := 0, slots := 0, locals := 13 } : Room)) (fun ar' Ur => ar' = #[(.ref o), (.ref a), (.int kk), (.int ii)] ∧ Z.Warmed39 Ur.vm ∧ Ur.heap = h0) (fun _ _ _ _ _ => True) (fun _ Ur or' Us => ∃ v L, or' = .returned v ∧ Q8 h0 n0 v Us.heap L ∧ FrameEnd Ur or' Us L 0 0) := by
  refine MetFree.of_bodySF (plainFor_of_name pn_0) hisR ?_
  intro p e s m args below meth c s₁ Bd hml0 hP hK
  obtain ⟨rfl, hZ, hh⟩ := hP
  have hx := Bd.exec
  have hby := Bd.bytes
  have hlk : meth.locks = false := BodyLoose.notSynchronized Bd
  have hml : c.maxLocals = 4 := hml0
  have hown : s.vm.findClass "com/example/slotwright/slotwright/problems/IndexSetRemovePinLaw" = some m.cls := findClass_of_methodNamed Bd.named
  have hnm := (name_of_methodNamed Bd.named Bd.method).1
  have X0 : Stand p l e ({ frames := 1, cells := 0, slots := 0, locals := 13 } : Room) s m #[(.ref o), (.ref a), (.int kk), (.int ii)] below meth c s₁ [] 0 0 := Stand.of_body Bd
  have e0 : s₁.heap = h0 := by rw [← hh, Bd.state]; rfl
  have N0 := Fr.nil n0
  show Goes p.tables e below s (Q8 h0 n0) 0 0 (s₁.setTop (entryFrame m #[(.ref o), (.ref a), (.int kk), (.int ii)] 4))
  refine Goes.of (fun t k => castTop (ef_8 m o a kk ii) k) ?_
  show Goes _ _ _ _ _ _ _ (s₁.setTop (mkF m 0 #[.val (.ref o), .val (.ref a), .val (.int kk), .val (.int ii)] []))
  refine Goes.of (fun t k => XS.iloadN X0.here hx rfl (hb hby d8_0) rfl k) ?_
  show Goes _ _ _ _ _ _ _ (s₁.setTop (mkF m 1 #[.val (.ref o), .val (.ref a), .val (.int kk), .val (.int ii)] [(.int ii)]))
  refine Goes.of (fun t k => XS.iloadN X0.here hx rfl (hb hby d8_1) rfl k) ?_
  show Goes _ _ _ _ _ _ _ (s₁.setTop (mkF m 2 #[.val (.ref o), .val (.ref a), .val (.int kk), .val (.int ii)] [(.int kk), (.int ii)]))
  by_cases hc90 : ii < kk
  · refine Goes.of (fun t k => XS.icmpNo X0.here hx rfl (hb hby d8_2) rfl (tlt hc90).2.1 k) ?_
    show Goes _ _ _ _ _ _ _ (s₁.setTop (mkF m 5 #[.val (.ref o), .val (.ref a), .val (.int kk), .val (.int ii)] []))
    refine Goes.of (fun t k => XS.aloadN X0.here hx rfl (hb hby d8_5) rfl rfl k) ?_
    show Goes _ _ _ _ _ _ _ (s₁.setTop (mkF m 6 #[.val (.ref o), .val (.ref a), .val (.int kk), .val (.int ii)] [(.ref o)]))
    refine Goes.of (fun t k => XS.iloadN X0.here hx rfl (hb hby d8_6) rfl k) ?_
    show Goes _ _ _ _ _ _ _ (s₁.setTop (mkF m 7 #[.val (.ref o), .val (.ref a), .val (.int kk), .val (.int ii)] [(.int ii), (.ref o)]))
    obtain ⟨cq91, kq91, q91a, q91b, q91c⟩ := isOf hZ e0 E_o
    obtain ⟨_, _, ⟨T91, L91, k91, n91⟩, -, X91, ⟨Lc91, hQ91, l91, y91, z91⟩, st91⟩ := X0.virtualBack hx (y := (⟨"com/example/slotwright/slotwright/problems/IndexSet", "get", "(I)I"⟩ : MethodName)) (z := (⟨"com/example/slotwright/slotwright/problems/IndexSet", "get", "(I)I"⟩ : MethodName)) hown (mvT hZ (hw _ (List.mem_of_getElem? (i := 43) rfl))) (mvT hZ (hw _ (List.mem_of_getElem? (i := 44) rfl))) (notFace_of_selects (args := #[]) (mvT hZ (hw _ (List.mem_of_getElem? (i := 46) rfl)))) (mvT hZ (hw _ (List.mem_of_getElem? (i := 46) rfl))) (mvT hZ (hw _ (List.mem_of_getElem? (i := 45) rfl))) (by decide) (backOf (W := 0) (rm9 l Z a0 hw [] o ii mm pp n M P sz h0 n0 Z0 E_o F_members F_positions F_size V_mm V_pp ne_om ne_op ne_mp g_o g_mm g_pp ⟨hi0, by have := own_ltI hc90; omega⟩) hZ (hw _ (List.mem_of_getElem? (i := 47) rfl)) (hw _ (List.mem_of_getElem? (i := 8) rfl)) (by decide) (by decide)) q91a q91c (g := (mkF m 7 #[.val (.ref o), .val (.ref a), .val (.int kk), .val (.int ii)] [(.int ii), (.ref o)])) rfl (by rw [hml]; rfl) (Steps.refl _) (argsL := [(.int ii)]) (rest := []) (lenOf pd_2 rfl) rfl (by show 2 * 0 + _ ≤ _; exact Nat.le_of_eq rfl) (hb hby d8_7) (fun _ _ => ⟨rfl, e0, (by decide : 0 + 0 ≤ _), (by decide : 0 + 0 ≤ _)⟩)
    dsimp only [Pt.U, Pt.locs, Pt.cells, Pt.slots] at X91 l91 y91 z91 st91 hQ91
    replace l91 := l91.symm
    replace y91 := y91.symm
    replace z91 := z91.symm
    subst l91 y91 z91
    obtain ⟨rfl, N91q, e91⟩ := hQ91
    have N91 := Fr.app N0 N91q
    refine Goes.of (fun t k => st91.trans k) ?_
    show Goes _ _ _ _ _ _ _ (T91.setTop (mkF m 10 #[.val (.ref o), .val (.ref a), .val (.int kk), .val (.int ii)] [(.int (M ii.toNatClampNeg))]))
    refine Goes.of (fun t k => XS.aloadN X91.here hx rfl (hb hby d8_10) rfl rfl k) ?_
    show Goes _ _ _ _ _ _ _ (T91.setTop (mkF m 11 #[.val (.ref o), .val (.ref a), .val (.int kk), .val (.int ii)] [(.ref a), (.int (M ii.toNatClampNeg))]))
    refine Goes.of (fun t k => XS.iloadN X91.here hx rfl (hb hby d8_11) rfl k) ?_
    show Goes _ _ _ _ _ _ _ (T91.setTop (mkF m 12 #[.val (.ref o), .val (.ref a), .val (.int kk), .val (.int ii)] [(.int ii), (.ref a), (.int (M ii.toNatClampNeg))]))
    have hlk2 := own_ltI hc90
    refine Goes.of (fun t k => ldI X91 hx hZ e91 V_a (j := ii) (i := ii.toNatClampNeg) (v := (mf ii.toNatClampNeg)) (own_nn hi0) rfl (own_ltn hi0 (by omega)) rfl (g := (mkF m 12 #[.val (.ref o), .val (.ref a), .val (.int kk), .val (.int ii)] [(.int ii), (.ref a), (.int (M ii.toNatClampNeg))])) rfl rfl (hb hby d8_12) t k) ?_
    show Goes _ _ _ _ _ _ _ (T91.setTop (mkF m 13 #[.val (.ref o), .val (.ref a), .val (.int kk), .val (.int ii)] [(.int (mf ii.toNatClampNeg)), (.int (M ii.toNatClampNeg))]))
    refine Goes.of (fun t k => XS.icmpNo X91.here hx rfl (hb hby d8_13) rfl (teq (hget hc90)).2 k) ?_
    show Goes _ _ _ _ _ _ _ (T91.setTop (mkF m 16 #[.val (.ref o), .val (.ref a), .val (.int kk), .val (.int ii)] []))
    refine Goes.of (fun t k => XS.iconst X91.here hx rfl (hb hby d8_16) k) ?_
    show Goes _ _ _ _ _ _ _ (T91.setTop (mkF m 17 #[.val (.ref o), .val (.ref a), .val (.int kk), .val (.int ii)] [(.int (1 : Int32))]))
    refine Goes.of (fun t k => XS.goto X91.here hx rfl (pc0 := 17) (pc' := 21) rfl (hb hby d8_17) (by decide) (by decide) k) ?_
    show Goes _ _ _ _ _ _ _ (T91.setTop (mkF m 21 #[.val (.ref o), .val (.ref a), .val (.int kk), .val (.int ii)] [(.int (1 : Int32))]))
    exact Goes.fin X91 hlk (v := some (.int (1 : Int32))) (fun h => by rw [Bd.returns] at h; cases h) (fun fs hr => retN X91 hx (t := .boolean) Bd.returns (by simp) (hb hby d8_21) hr) ⟨rfl, N91, e91⟩ (by decide) (by decide)
  · refine Goes.of (fun t k => XS.icmpYes X0.here hx rfl (pc0 := 2) (pc' := 16) rfl (hb hby d8_2) rfl (flt hc90).2.1 (by decide) (by decide) k) ?_
    show Goes _ _ _ _ _ _ _ (s₁.setTop (mkF m 16 #[.val (.ref o), .val (.ref a), .val (.int kk), .val (.int ii)] []))
    refine Goes.of (fun t k => XS.iconst X0.here hx rfl (hb hby d8_16) k) ?_
    show Goes _ _ _ _ _ _ _ (s₁.setTop (mkF m 17 #[.val (.ref o), .val (.ref a), .val (.int kk), .val (.int ii)] [(.int (1 : Int32))]))
    refine Goes.of (fun t k => XS.goto X0.here hx rfl (pc0 := 17) (pc' := 21) rfl (hb hby d8_17) (by decide) (by decide) k) ?_
    show Goes _ _ _ _ _ _ _ (s₁.setTop (mkF m 21 #[.val (.ref o), .val (.ref a), .val (.int kk), .val (.int ii)] [(.int (1 : Int32))]))
    exact Goes.fin X0 hlk (v := some (.int (1 : Int32))) (fun h => by rw [Bd.returns] at h; cases h) (fun fs hr => retN X0 hx (t := .boolean) Bd.returns (by simp) (hb hby d8_21) hr) ⟨rfl, N0, e0⟩ (by decide) (by decide)
theorem d10_0 : decode method_5_code 0 = .ok (.iload_n 2, 1) := by decide +kernel
theorem d10_1 : decode method_5_code 1 = .ok (.ifCond .le 10, 3) := by decide +kernel
theorem d10_4 : decode method_5_code 4 = .ok (.aload_n 1, 1) := by decide +kernel
theorem d10_5 : decode method_5_code 5 = .ok (.iconst 0, 1) := by decide +kernel
theorem d10_6 : decode method_5_code 6 = .ok (.iaload, 1) := by decide +kernel
theorem d10_7 : decode method_5_code 7 = .ok (.iload_n 3, 1) := by decide +kernel
theorem d10_8 : decode method_5_code 8 = .ok (.if_icmp .eq 27, 3) := by decide +kernel
theorem d10_11 : decode method_5_code 11 = .ok (.iload_n 2, 1) := by decide +kernel
theorem d10_12 : decode method_5_code 12 = .ok (.iconst 1, 1) := by decide +kernel
theorem d10_13 : decode method_5_code 13 = .ok (.if_icmp .le 10, 3) := by decide +kernel
theorem d10_16 : decode method_5_code 16 = .ok (.aload_n 1, 1) := by decide +kernel
theorem d10_17 : decode method_5_code 17 = .ok (.iconst 1, 1) := by decide +kernel
theorem d10_18 : decode method_5_code 18 = .ok (.iaload, 1) := by decide +kernel
theorem d10_19 : decode method_5_code 19 = .ok (.iload_n 3, 1) := by decide +kernel
theorem d10_20 : decode method_5_code 20 = .ok (.if_icmp .eq 15, 3) := by decide +kernel
theorem d10_23 : decode method_5_code 23 = .ok (.iload_n 2, 1) := by decide +kernel
theorem d10_24 : decode method_5_code 24 = .ok (.iconst 2, 1) := by decide +kernel
theorem d10_25 : decode method_5_code 25 = .ok (.if_icmp .le 14, 3) := by decide +kernel
theorem d10_28 : decode method_5_code 28 = .ok (.aload_n 1, 1) := by decide +kernel
theorem d10_29 : decode method_5_code 29 = .ok (.iconst 2, 1) := by decide +kernel
theorem d10_30 : decode method_5_code 30 = .ok (.iaload, 1) := by decide +kernel
theorem d10_31 : decode method_5_code 31 = .ok (.iload_n 3, 1) := by decide +kernel
theorem d10_32 : decode method_5_code 32 = .ok (.if_icmp .ne 7, 3) := by decide +kernel
theorem d10_35 : decode method_5_code 35 = .ok (.iconst 1, 1) := by decide +kernel
theorem d10_36 : decode method_5_code 36 = .ok (.goto 4, 3) := by decide +kernel
theorem d10_39 : decode method_5_code 39 = .ok (.iconst 0, 1) := by decide +kernel
theorem d10_40 : decode method_5_code 40 = .ok (.istore 4, 2) := by decide +kernel
theorem d10_42 : decode method_5_code 42 = .ok (.aload_n 0, 1) := by decide +kernel
theorem d10_43 : decode method_5_code 43 = .ok (.iload_n 3, 1) := by decide +kernel
theorem d10_44 : decode method_5_code 44 = .ok (.invokevirtual 40, 3) := by decide +kernel
theorem d10_47 : decode method_5_code 47 = .ok (.iload 4, 2) := by decide +kernel
theorem d10_49 : decode method_5_code 49 = .ok (.if_icmp .ne 7, 3) := by decide +kernel
theorem d10_52 : decode method_5_code 52 = .ok (.iconst 1, 1) := by decide +kernel
theorem d10_53 : decode method_5_code 53 = .ok (.goto 4, 3) := by decide +kernel
theorem d10_56 : decode method_5_code 56 = .ok (.iconst 0, 1) := by decide +kernel
theorem d10_57 : decode method_5_code 57 = .ok (.ireturn, 1) := by decide +kernel
theorem pd_3 : parseMethodDescriptor "(I)Z" = some ⟨[.int], some .boolean⟩ := by decide +kernel
theorem ef_10 (m : MethodId) (o : Addr) (a : Addr) (kk : Int32) (vv : Int32) : entryFrame m #[(.ref o), (.ref a), (.int kk), (.int vv)] 5 = mkF m 0 #[.val (.ref o), .val (.ref a), .val (.int kk), .val (.int vv), .unset] [] := by first | (simp [entryFrame, mkF, argsToLocals, Value.category]; done) | rfl
def Q10 (h0 : Heap) (n0 : Nat) (v : Option Value) (h : Heap) (L : List Loc) : Prop := v = some (.int 1) ∧ Fr n0 L ∧ h = h0
set_option maxRecDepth 65536 in
set_option maxHeartbeats 40000000 in
theorem rm10 (l : Launch) (Z : State) (a0 : Array Value) (hw : ∀ d ∈ tables_1, d.before a0 Z = true) (ws : List Jvm.Cond) (o : Addr) (a : Addr) (kk : Int32) (vv : Int32) (mm pp : Addr) (n : Nat) (M P : Nat → Int32) (sz : Int32) (mf : Nat → Int32) (h0 : Heap) (n0 : Nat) (Z0 : n0 ≤ h0.size) (E_o : Exa Z h0 o "com/example/slotwright/slotwright/problems/IndexSet") (F_members : Fld Z h0 o "com/example/slotwright/slotwright/problems/IndexSet" "members" "[I" (.ref mm)) (F_positions : Fld Z h0 o "com/example/slotwright/slotwright/problems/IndexSet" "positions" "[I" (.ref pp)) (F_size : Fld Z h0 o "com/example/slotwright/slotwright/problems/IndexSet" "size" "I" (.int sz)) (V_mm : AI Z h0 mm .int n M) (V_pp : AI Z h0 pp .int n P) (ne_om : o ≠ mm) (ne_op : o ≠ pp) (ne_mp : mm ≠ pp) (g_o : n0 ≤ o) (g_mm : n0 ≤ mm) (g_pp : n0 ≤ pp) (V_a : AI Z h0 a .int n mf) (hv : 0 ≤ vv.toInt ∧ vv.toInt < n) (h3n : 3 ≤ n) (hin : (¬ P vv.toNatClampNeg < 0) ↔ ((0 : Int32) < kk ∧ mf 0 = vv) ∨ ((1 : Int32) < kk ∧ mf 1 = vv) ∨ ((2 : Int32) < kk ∧ mf 2 = vv)) :
    MetFree l (⟨"com/example/slotwright/slotwright/problems/IndexSetRemovePinLaw", "in", "(Lcom/example/slotwright/slotwright/problems/IndexSet;[III)Z"⟩ : MethodName) (head1 (Jvm.Cond.code (⟨"com/example/slotwright/slotwright/problems/IndexSetRemovePinLaw", "in", "(Lcom/example/slotwright/slotwright/problems/IndexSet;[III)Z"⟩ : MethodName) method_5_code 5 (some .boolean) :: ws) ({ frames := 1, cells := 0, slots := 0, locals := 13 } : Room)) (fun ar' Ur => ar' = #[(.ref o), (.ref a), (.int kk), (.int vv)] ∧ Z.Warmed39 Ur.vm ∧ Ur.heap = h0) (fun _ _ _ _ _ => True) (fun _ Ur or' Us => ∃ v L, or' = .returned v ∧ Q10 h0 n0 v Us.heap L ∧ FrameEnd Ur or' Us L 0 0) := by
  refine MetFree.of_bodySF (plainFor_of_name pn_0) hisR ?_
  intro p e s m args below meth c s₁ Bd hml0 hP hK
  obtain ⟨rfl, hZ, hh⟩ := hP
  have hx := Bd.exec
  have hby := Bd.bytes
  have hlk : meth.locks = false := BodyLoose.notSynchronized Bd
  have hml : c.maxLocals = 5 := hml0
  have hown : s.vm.findClass "com/example/slotwright/slotwright/problems/IndexSetRemovePinLaw" = some m.cls := findClass_of_methodNamed Bd.named
  have hnm := (name_of_methodNamed Bd.named Bd.method).1
  have X0 : Stand p l e ({ frames := 1, cells := 0, slots := 0, locals := 13 } : Room) s m #[(.ref o), (.ref a), (.int kk), (.int vv)] below meth c s₁ [] 0 0 := Stand.of_body Bd
  have e0 : s₁.heap = h0 := by rw [← hh, Bd.state]; rfl
  have N0 := Fr.nil n0
  show Goes p.tables e below s (Q10 h0 n0) 0 0 (s₁.setTop (entryFrame m #[(.ref o), (.ref a), (.int kk), (.int vv)] 5))
  refine Goes.of (fun t k => castTop (ef_10 m o a kk vv) k) ?_
  show Goes _ _ _ _ _ _ _ (s₁.setTop (mkF m 0 #[.val (.ref o), .val (.ref a), .val (.int kk), .val (.int vv), .unset] []))
  refine Goes.of (fun t k => XS.iloadN X0.here hx rfl (hb hby d10_0) rfl k) ?_
  show Goes _ _ _ _ _ _ _ (s₁.setTop (mkF m 1 #[.val (.ref o), .val (.ref a), .val (.int kk), .val (.int vv), .unset] [(.int kk)]))
  by_cases hc92 : (0 : Int32) < kk
  · refine Goes.of (fun t k => XS.ifNo X0.here hx rfl (hb hby d10_1) rfl ((if0 _ _).trans (tlt hc92).2.2.2) k) ?_
    show Goes _ _ _ _ _ _ _ (s₁.setTop (mkF m 4 #[.val (.ref o), .val (.ref a), .val (.int kk), .val (.int vv), .unset] []))
    refine Goes.of (fun t k => XS.aloadN X0.here hx rfl (hb hby d10_4) rfl rfl k) ?_
    show Goes _ _ _ _ _ _ _ (s₁.setTop (mkF m 5 #[.val (.ref o), .val (.ref a), .val (.int kk), .val (.int vv), .unset] [(.ref a)]))
    refine Goes.of (fun t k => XS.iconst X0.here hx rfl (hb hby d10_5) k) ?_
    show Goes _ _ _ _ _ _ _ (s₁.setTop (mkF m 6 #[.val (.ref o), .val (.ref a), .val (.int kk), .val (.int vv), .unset] [(.int (0 : Int32)), (.ref a)]))
    refine Goes.of (fun t k => ldI X0 hx hZ e0 V_a (j := (0 : Int32)) (i := 0) (v := (mf 0)) (by decide) (by decide) (by omega) rfl (g := (mkF m 6 #[.val (.ref o), .val (.ref a), .val (.int kk), .val (.int vv), .unset] [(.int (0 : Int32)), (.ref a)])) rfl rfl (hb hby d10_6) t k) ?_
    show Goes _ _ _ _ _ _ _ (s₁.setTop (mkF m 7 #[.val (.ref o), .val (.ref a), .val (.int kk), .val (.int vv), .unset] [(.int (mf 0))]))
    refine Goes.of (fun t k => XS.iloadN X0.here hx rfl (hb hby d10_7) rfl k) ?_
    show Goes _ _ _ _ _ _ _ (s₁.setTop (mkF m 8 #[.val (.ref o), .val (.ref a), .val (.int kk), .val (.int vv), .unset] [(.int vv), (.int (mf 0))]))
    by_cases hc93 : (mf 0) = vv
    · refine Goes.of (fun t k => XS.icmpYes X0.here hx rfl (pc0 := 8) (pc' := 35) rfl (hb hby d10_8) rfl (teq hc93).1 (by decide) (by decide) k) ?_
      show Goes _ _ _ _ _ _ _ (s₁.setTop (mkF m 35 #[.val (.ref o), .val (.ref a), .val (.int kk), .val (.int vv), .unset] []))
      refine Goes.of (fun t k => XS.iconst X0.here hx rfl (hb hby d10_35) k) ?_
      show Goes _ _ _ _ _ _ _ (s₁.setTop (mkF m 36 #[.val (.ref o), .val (.ref a), .val (.int kk), .val (.int vv), .unset] [(.int (1 : Int32))]))
      refine Goes.of (fun t k => XS.goto X0.here hx rfl (pc0 := 36) (pc' := 40) rfl (hb hby d10_36) (by decide) (by decide) k) ?_
      show Goes _ _ _ _ _ _ _ (s₁.setTop (mkF m 40 #[.val (.ref o), .val (.ref a), .val (.int kk), .val (.int vv), .unset] [(.int (1 : Int32))]))
      refine Goes.of (fun t k => XS.istore X0.here hx rfl (hb hby d10_40) rfl (l' := #[.val (.ref o), .val (.ref a), .val (.int kk), .val (.int vv), .val (.int (1 : Int32))]) rfl k) ?_
      show Goes _ _ _ _ _ _ _ (s₁.setTop (mkF m 42 #[.val (.ref o), .val (.ref a), .val (.int kk), .val (.int vv), .val (.int (1 : Int32))] []))
      refine Goes.of (fun t k => XS.aloadN X0.here hx rfl (hb hby d10_42) rfl rfl k) ?_
      show Goes _ _ _ _ _ _ _ (s₁.setTop (mkF m 43 #[.val (.ref o), .val (.ref a), .val (.int kk), .val (.int vv), .val (.int (1 : Int32))] [(.ref o)]))
      refine Goes.of (fun t k => XS.iloadN X0.here hx rfl (hb hby d10_43) rfl k) ?_
      show Goes _ _ _ _ _ _ _ (s₁.setTop (mkF m 44 #[.val (.ref o), .val (.ref a), .val (.int kk), .val (.int vv), .val (.int (1 : Int32))] [(.int vv), (.ref o)]))
      obtain ⟨cq94, kq94, q94a, q94b, q94c⟩ := isOf hZ e0 E_o
      obtain ⟨_, _, ⟨T94, L94, k94, n94⟩, -, X94, ⟨Lc94, hQ94, l94, y94, z94⟩, st94⟩ := X0.virtualBack hx (y := (⟨"com/example/slotwright/slotwright/problems/IndexSet", "contains", "(I)Z"⟩ : MethodName)) (z := (⟨"com/example/slotwright/slotwright/problems/IndexSet", "contains", "(I)Z"⟩ : MethodName)) hown (mvT hZ (hw _ (List.mem_of_getElem? (i := 51) rfl))) (mvT hZ (hw _ (List.mem_of_getElem? (i := 52) rfl))) (notFace_of_selects (args := #[]) (mvT hZ (hw _ (List.mem_of_getElem? (i := 54) rfl)))) (mvT hZ (hw _ (List.mem_of_getElem? (i := 54) rfl))) (mvT hZ (hw _ (List.mem_of_getElem? (i := 53) rfl))) (by decide) (backOf (W := 0) (rm11 l Z a0 hw [] o vv mm pp n M P sz h0 n0 Z0 E_o F_members F_positions F_size V_mm V_pp ne_om ne_op ne_mp g_o g_mm g_pp hv) hZ (hw _ (List.mem_of_getElem? (i := 55) rfl)) (hw _ (List.mem_of_getElem? (i := 8) rfl)) (by decide) (by decide)) q94a q94c (g := (mkF m 44 #[.val (.ref o), .val (.ref a), .val (.int kk), .val (.int vv), .val (.int (1 : Int32))] [(.int vv), (.ref o)])) rfl (by rw [hml]; rfl) (Steps.refl _) (argsL := [(.int vv)]) (rest := []) (lenOf pd_3 rfl) rfl (by show 2 * 0 + _ ≤ _; exact Nat.le_of_eq rfl) (hb hby d10_44) (fun _ _ => ⟨rfl, e0, (by decide : 0 + 0 ≤ _), (by decide : 0 + 0 ≤ _)⟩)
      dsimp only [Pt.U, Pt.locs, Pt.cells, Pt.slots] at X94 l94 y94 z94 st94 hQ94
      replace l94 := l94.symm
      replace y94 := y94.symm
      replace z94 := z94.symm
      subst l94 y94 z94
      obtain ⟨rfl, N94q, e94⟩ := hQ94
      have N94 := Fr.app N0 N94q
      refine Goes.of (fun t k => st94.trans k) ?_
      show Goes _ _ _ _ _ _ _ (T94.setTop (mkF m 47 #[.val (.ref o), .val (.ref a), .val (.int kk), .val (.int vv), .val (.int (1 : Int32))] [(.int (f11 (P vv.toNatClampNeg)))]))
      refine Goes.of (fun t k => XS.iload X94.here hx rfl (hb hby d10_47) rfl k) ?_
      show Goes _ _ _ _ _ _ _ (T94.setTop (mkF m 49 #[.val (.ref o), .val (.ref a), .val (.int kk), .val (.int vv), .val (.int (1 : Int32))] [(.int (1 : Int32)), (.int (f11 (P vv.toNatClampNeg)))]))
      refine Goes.of (fun t k => XS.icmpNo X94.here hx rfl (hb hby d10_49) rfl (teq (own_c1 (hin.mpr (Or.inl ⟨hc92, hc93⟩)))).2 k) ?_
      show Goes _ _ _ _ _ _ _ (T94.setTop (mkF m 52 #[.val (.ref o), .val (.ref a), .val (.int kk), .val (.int vv), .val (.int (1 : Int32))] []))
      refine Goes.of (fun t k => XS.iconst X94.here hx rfl (hb hby d10_52) k) ?_
      show Goes _ _ _ _ _ _ _ (T94.setTop (mkF m 53 #[.val (.ref o), .val (.ref a), .val (.int kk), .val (.int vv), .val (.int (1 : Int32))] [(.int (1 : Int32))]))
      refine Goes.of (fun t k => XS.goto X94.here hx rfl (pc0 := 53) (pc' := 57) rfl (hb hby d10_53) (by decide) (by decide) k) ?_
      show Goes _ _ _ _ _ _ _ (T94.setTop (mkF m 57 #[.val (.ref o), .val (.ref a), .val (.int kk), .val (.int vv), .val (.int (1 : Int32))] [(.int (1 : Int32))]))
      exact Goes.fin X94 hlk (v := some (.int (1 : Int32))) (fun h => by rw [Bd.returns] at h; cases h) (fun fs hr => retN X94 hx (t := .boolean) Bd.returns (by simp) (hb hby d10_57) hr) ⟨rfl, N94, e94⟩ (by decide) (by decide)
    · refine Goes.of (fun t k => XS.icmpNo X0.here hx rfl (hb hby d10_8) rfl (feq hc93).1 k) ?_
      show Goes _ _ _ _ _ _ _ (s₁.setTop (mkF m 11 #[.val (.ref o), .val (.ref a), .val (.int kk), .val (.int vv), .unset] []))
      refine Goes.of (fun t k => XS.iloadN X0.here hx rfl (hb hby d10_11) rfl k) ?_
      show Goes _ _ _ _ _ _ _ (s₁.setTop (mkF m 12 #[.val (.ref o), .val (.ref a), .val (.int kk), .val (.int vv), .unset] [(.int kk)]))
      refine Goes.of (fun t k => XS.iconst X0.here hx rfl (hb hby d10_12) k) ?_
      show Goes _ _ _ _ _ _ _ (s₁.setTop (mkF m 13 #[.val (.ref o), .val (.ref a), .val (.int kk), .val (.int vv), .unset] [(.int (1 : Int32)), (.int kk)]))
      by_cases hc95 : (1 : Int32) < kk
      · refine Goes.of (fun t k => XS.icmpNo X0.here hx rfl (hb hby d10_13) rfl (tlt hc95).2.2.2 k) ?_
        show Goes _ _ _ _ _ _ _ (s₁.setTop (mkF m 16 #[.val (.ref o), .val (.ref a), .val (.int kk), .val (.int vv), .unset] []))
        refine Goes.of (fun t k => XS.aloadN X0.here hx rfl (hb hby d10_16) rfl rfl k) ?_
        show Goes _ _ _ _ _ _ _ (s₁.setTop (mkF m 17 #[.val (.ref o), .val (.ref a), .val (.int kk), .val (.int vv), .unset] [(.ref a)]))
        refine Goes.of (fun t k => XS.iconst X0.here hx rfl (hb hby d10_17) k) ?_
        show Goes _ _ _ _ _ _ _ (s₁.setTop (mkF m 18 #[.val (.ref o), .val (.ref a), .val (.int kk), .val (.int vv), .unset] [(.int (1 : Int32)), (.ref a)]))
        refine Goes.of (fun t k => ldI X0 hx hZ e0 V_a (j := (1 : Int32)) (i := 1) (v := (mf 1)) (by decide) (by decide) (by omega) rfl (g := (mkF m 18 #[.val (.ref o), .val (.ref a), .val (.int kk), .val (.int vv), .unset] [(.int (1 : Int32)), (.ref a)])) rfl rfl (hb hby d10_18) t k) ?_
        show Goes _ _ _ _ _ _ _ (s₁.setTop (mkF m 19 #[.val (.ref o), .val (.ref a), .val (.int kk), .val (.int vv), .unset] [(.int (mf 1))]))
        refine Goes.of (fun t k => XS.iloadN X0.here hx rfl (hb hby d10_19) rfl k) ?_
        show Goes _ _ _ _ _ _ _ (s₁.setTop (mkF m 20 #[.val (.ref o), .val (.ref a), .val (.int kk), .val (.int vv), .unset] [(.int vv), (.int (mf 1))]))
        by_cases hc96 : (mf 1) = vv
        · refine Goes.of (fun t k => XS.icmpYes X0.here hx rfl (pc0 := 20) (pc' := 35) rfl (hb hby d10_20) rfl (teq hc96).1 (by decide) (by decide) k) ?_
          show Goes _ _ _ _ _ _ _ (s₁.setTop (mkF m 35 #[.val (.ref o), .val (.ref a), .val (.int kk), .val (.int vv), .unset] []))
          refine Goes.of (fun t k => XS.iconst X0.here hx rfl (hb hby d10_35) k) ?_
          show Goes _ _ _ _ _ _ _ (s₁.setTop (mkF m 36 #[.val (.ref o), .val (.ref a), .val (.int kk), .val (.int vv), .unset] [(.int (1 : Int32))]))
          refine Goes.of (fun t k => XS.goto X0.here hx rfl (pc0 := 36) (pc' := 40) rfl (hb hby d10_36) (by decide) (by decide) k) ?_
          show Goes _ _ _ _ _ _ _ (s₁.setTop (mkF m 40 #[.val (.ref o), .val (.ref a), .val (.int kk), .val (.int vv), .unset] [(.int (1 : Int32))]))
          refine Goes.of (fun t k => XS.istore X0.here hx rfl (hb hby d10_40) rfl (l' := #[.val (.ref o), .val (.ref a), .val (.int kk), .val (.int vv), .val (.int (1 : Int32))]) rfl k) ?_
          show Goes _ _ _ _ _ _ _ (s₁.setTop (mkF m 42 #[.val (.ref o), .val (.ref a), .val (.int kk), .val (.int vv), .val (.int (1 : Int32))] []))
          refine Goes.of (fun t k => XS.aloadN X0.here hx rfl (hb hby d10_42) rfl rfl k) ?_
          show Goes _ _ _ _ _ _ _ (s₁.setTop (mkF m 43 #[.val (.ref o), .val (.ref a), .val (.int kk), .val (.int vv), .val (.int (1 : Int32))] [(.ref o)]))
          refine Goes.of (fun t k => XS.iloadN X0.here hx rfl (hb hby d10_43) rfl k) ?_
          show Goes _ _ _ _ _ _ _ (s₁.setTop (mkF m 44 #[.val (.ref o), .val (.ref a), .val (.int kk), .val (.int vv), .val (.int (1 : Int32))] [(.int vv), (.ref o)]))
          obtain ⟨cq97, kq97, q97a, q97b, q97c⟩ := isOf hZ e0 E_o
          obtain ⟨_, _, ⟨T97, L97, k97, n97⟩, -, X97, ⟨Lc97, hQ97, l97, y97, z97⟩, st97⟩ := X0.virtualBack hx (y := (⟨"com/example/slotwright/slotwright/problems/IndexSet", "contains", "(I)Z"⟩ : MethodName)) (z := (⟨"com/example/slotwright/slotwright/problems/IndexSet", "contains", "(I)Z"⟩ : MethodName)) hown (mvT hZ (hw _ (List.mem_of_getElem? (i := 51) rfl))) (mvT hZ (hw _ (List.mem_of_getElem? (i := 52) rfl))) (notFace_of_selects (args := #[]) (mvT hZ (hw _ (List.mem_of_getElem? (i := 54) rfl)))) (mvT hZ (hw _ (List.mem_of_getElem? (i := 54) rfl))) (mvT hZ (hw _ (List.mem_of_getElem? (i := 53) rfl))) (by decide) (backOf (W := 0) (rm11 l Z a0 hw [] o vv mm pp n M P sz h0 n0 Z0 E_o F_members F_positions F_size V_mm V_pp ne_om ne_op ne_mp g_o g_mm g_pp hv) hZ (hw _ (List.mem_of_getElem? (i := 55) rfl)) (hw _ (List.mem_of_getElem? (i := 8) rfl)) (by decide) (by decide)) q97a q97c (g := (mkF m 44 #[.val (.ref o), .val (.ref a), .val (.int kk), .val (.int vv), .val (.int (1 : Int32))] [(.int vv), (.ref o)])) rfl (by rw [hml]; rfl) (Steps.refl _) (argsL := [(.int vv)]) (rest := []) (lenOf pd_3 rfl) rfl (by show 2 * 0 + _ ≤ _; exact Nat.le_of_eq rfl) (hb hby d10_44) (fun _ _ => ⟨rfl, e0, (by decide : 0 + 0 ≤ _), (by decide : 0 + 0 ≤ _)⟩)
          dsimp only [Pt.U, Pt.locs, Pt.cells, Pt.slots] at X97 l97 y97 z97 st97 hQ97
          replace l97 := l97.symm
          replace y97 := y97.symm
          replace z97 := z97.symm
          subst l97 y97 z97
          obtain ⟨rfl, N97q, e97⟩ := hQ97
          have N97 := Fr.app N0 N97q
          refine Goes.of (fun t k => st97.trans k) ?_
          show Goes _ _ _ _ _ _ _ (T97.setTop (mkF m 47 #[.val (.ref o), .val (.ref a), .val (.int kk), .val (.int vv), .val (.int (1 : Int32))] [(.int (f11 (P vv.toNatClampNeg)))]))
          refine Goes.of (fun t k => XS.iload X97.here hx rfl (hb hby d10_47) rfl k) ?_
          show Goes _ _ _ _ _ _ _ (T97.setTop (mkF m 49 #[.val (.ref o), .val (.ref a), .val (.int kk), .val (.int vv), .val (.int (1 : Int32))] [(.int (1 : Int32)), (.int (f11 (P vv.toNatClampNeg)))]))
          refine Goes.of (fun t k => XS.icmpNo X97.here hx rfl (hb hby d10_49) rfl (teq (own_c1 (hin.mpr (Or.inr (Or.inl ⟨hc95, hc96⟩))))).2 k) ?_
          show Goes _ _ _ _ _ _ _ (T97.setTop (mkF m 52 #[.val (.ref o), .val (.ref a), .val (.int kk), .val (.int vv), .val (.int (1 : Int32))] []))
          refine Goes.of (fun t k => XS.iconst X97.here hx rfl (hb hby d10_52) k) ?_
          show Goes _ _ _ _ _ _ _ (T97.setTop (mkF m 53 #[.val (.ref o), .val (.ref a), .val (.int kk), .val (.int vv), .val (.int (1 : Int32))] [(.int (1 : Int32))]))
          refine Goes.of (fun t k => XS.goto X97.here hx rfl (pc0 := 53) (pc' := 57) rfl (hb hby d10_53) (by decide) (by decide) k) ?_
          show Goes _ _ _ _ _ _ _ (T97.setTop (mkF m 57 #[.val (.ref o), .val (.ref a), .val (.int kk), .val (.int vv), .val (.int (1 : Int32))] [(.int (1 : Int32))]))
          exact Goes.fin X97 hlk (v := some (.int (1 : Int32))) (fun h => by rw [Bd.returns] at h; cases h) (fun fs hr => retN X97 hx (t := .boolean) Bd.returns (by simp) (hb hby d10_57) hr) ⟨rfl, N97, e97⟩ (by decide) (by decide)
        · refine Goes.of (fun t k => XS.icmpNo X0.here hx rfl (hb hby d10_20) rfl (feq hc96).1 k) ?_
          show Goes _ _ _ _ _ _ _ (s₁.setTop (mkF m 23 #[.val (.ref o), .val (.ref a), .val (.int kk), .val (.int vv), .unset] []))
          refine Goes.of (fun t k => XS.iloadN X0.here hx rfl (hb hby d10_23) rfl k) ?_
          show Goes _ _ _ _ _ _ _ (s₁.setTop (mkF m 24 #[.val (.ref o), .val (.ref a), .val (.int kk), .val (.int vv), .unset] [(.int kk)]))
          refine Goes.of (fun t k => XS.iconst X0.here hx rfl (hb hby d10_24) k) ?_
          show Goes _ _ _ _ _ _ _ (s₁.setTop (mkF m 25 #[.val (.ref o), .val (.ref a), .val (.int kk), .val (.int vv), .unset] [(.int (2 : Int32)), (.int kk)]))
          by_cases hc98 : (2 : Int32) < kk
          · refine Goes.of (fun t k => XS.icmpNo X0.here hx rfl (hb hby d10_25) rfl (tlt hc98).2.2.2 k) ?_
            show Goes _ _ _ _ _ _ _ (s₁.setTop (mkF m 28 #[.val (.ref o), .val (.ref a), .val (.int kk), .val (.int vv), .unset] []))
            refine Goes.of (fun t k => XS.aloadN X0.here hx rfl (hb hby d10_28) rfl rfl k) ?_
            show Goes _ _ _ _ _ _ _ (s₁.setTop (mkF m 29 #[.val (.ref o), .val (.ref a), .val (.int kk), .val (.int vv), .unset] [(.ref a)]))
            refine Goes.of (fun t k => XS.iconst X0.here hx rfl (hb hby d10_29) k) ?_
            show Goes _ _ _ _ _ _ _ (s₁.setTop (mkF m 30 #[.val (.ref o), .val (.ref a), .val (.int kk), .val (.int vv), .unset] [(.int (2 : Int32)), (.ref a)]))
            refine Goes.of (fun t k => ldI X0 hx hZ e0 V_a (j := (2 : Int32)) (i := 2) (v := (mf 2)) (by decide) (by decide) (by omega) rfl (g := (mkF m 30 #[.val (.ref o), .val (.ref a), .val (.int kk), .val (.int vv), .unset] [(.int (2 : Int32)), (.ref a)])) rfl rfl (hb hby d10_30) t k) ?_
            show Goes _ _ _ _ _ _ _ (s₁.setTop (mkF m 31 #[.val (.ref o), .val (.ref a), .val (.int kk), .val (.int vv), .unset] [(.int (mf 2))]))
            refine Goes.of (fun t k => XS.iloadN X0.here hx rfl (hb hby d10_31) rfl k) ?_
            show Goes _ _ _ _ _ _ _ (s₁.setTop (mkF m 32 #[.val (.ref o), .val (.ref a), .val (.int kk), .val (.int vv), .unset] [(.int vv), (.int (mf 2))]))
            by_cases hc99 : (mf 2) = vv
            · refine Goes.of (fun t k => XS.icmpNo X0.here hx rfl (hb hby d10_32) rfl (teq hc99).2 k) ?_
              show Goes _ _ _ _ _ _ _ (s₁.setTop (mkF m 35 #[.val (.ref o), .val (.ref a), .val (.int kk), .val (.int vv), .unset] []))
              refine Goes.of (fun t k => XS.iconst X0.here hx rfl (hb hby d10_35) k) ?_
              show Goes _ _ _ _ _ _ _ (s₁.setTop (mkF m 36 #[.val (.ref o), .val (.ref a), .val (.int kk), .val (.int vv), .unset] [(.int (1 : Int32))]))
              refine Goes.of (fun t k => XS.goto X0.here hx rfl (pc0 := 36) (pc' := 40) rfl (hb hby d10_36) (by decide) (by decide) k) ?_
              show Goes _ _ _ _ _ _ _ (s₁.setTop (mkF m 40 #[.val (.ref o), .val (.ref a), .val (.int kk), .val (.int vv), .unset] [(.int (1 : Int32))]))
              refine Goes.of (fun t k => XS.istore X0.here hx rfl (hb hby d10_40) rfl (l' := #[.val (.ref o), .val (.ref a), .val (.int kk), .val (.int vv), .val (.int (1 : Int32))]) rfl k) ?_
              show Goes _ _ _ _ _ _ _ (s₁.setTop (mkF m 42 #[.val (.ref o), .val (.ref a), .val (.int kk), .val (.int vv), .val (.int (1 : Int32))] []))
              refine Goes.of (fun t k => XS.aloadN X0.here hx rfl (hb hby d10_42) rfl rfl k) ?_
              show Goes _ _ _ _ _ _ _ (s₁.setTop (mkF m 43 #[.val (.ref o), .val (.ref a), .val (.int kk), .val (.int vv), .val (.int (1 : Int32))] [(.ref o)]))
              refine Goes.of (fun t k => XS.iloadN X0.here hx rfl (hb hby d10_43) rfl k) ?_
              show Goes _ _ _ _ _ _ _ (s₁.setTop (mkF m 44 #[.val (.ref o), .val (.ref a), .val (.int kk), .val (.int vv), .val (.int (1 : Int32))] [(.int vv), (.ref o)]))
              obtain ⟨cq100, kq100, q100a, q100b, q100c⟩ := isOf hZ e0 E_o
              obtain ⟨_, _, ⟨T100, L100, k100, n100⟩, -, X100, ⟨Lc100, hQ100, l100, y100, z100⟩, st100⟩ := X0.virtualBack hx (y := (⟨"com/example/slotwright/slotwright/problems/IndexSet", "contains", "(I)Z"⟩ : MethodName)) (z := (⟨"com/example/slotwright/slotwright/problems/IndexSet", "contains", "(I)Z"⟩ : MethodName)) hown (mvT hZ (hw _ (List.mem_of_getElem? (i := 51) rfl))) (mvT hZ (hw _ (List.mem_of_getElem? (i := 52) rfl))) (notFace_of_selects (args := #[]) (mvT hZ (hw _ (List.mem_of_getElem? (i := 54) rfl)))) (mvT hZ (hw _ (List.mem_of_getElem? (i := 54) rfl))) (mvT hZ (hw _ (List.mem_of_getElem? (i := 53) rfl))) (by decide) (backOf (W := 0) (rm11 l Z a0 hw [] o vv mm pp n M P sz h0 n0 Z0 E_o F_members F_positions F_size V_mm V_pp ne_om ne_op ne_mp g_o g_mm g_pp hv) hZ (hw _ (List.mem_of_getElem? (i := 55) rfl)) (hw _ (List.mem_of_getElem? (i := 8) rfl)) (by decide) (by decide)) q100a q100c (g := (mkF m 44 #[.val (.ref o), .val (.ref a), .val (.int kk), .val (.int vv), .val (.int (1 : Int32))] [(.int vv), (.ref o)])) rfl (by rw [hml]; rfl) (Steps.refl _) (argsL := [(.int vv)]) (rest := []) (lenOf pd_3 rfl) rfl (by show 2 * 0 + _ ≤ _; exact Nat.le_of_eq rfl) (hb hby d10_44) (fun _ _ => ⟨rfl, e0, (by decide : 0 + 0 ≤ _), (by decide : 0 + 0 ≤ _)⟩)
              dsimp only [Pt.U, Pt.locs, Pt.cells, Pt.slots] at X100 l100 y100 z100 st100 hQ100
              replace l100 := l100.symm
              replace y100 := y100.symm
              replace z100 := z100.symm
              subst l100 y100 z100
              obtain ⟨rfl, N100q, e100⟩ := hQ100
              have N100 := Fr.app N0 N100q
              refine Goes.of (fun t k => st100.trans k) ?_
              show Goes _ _ _ _ _ _ _ (T100.setTop (mkF m 47 #[.val (.ref o), .val (.ref a), .val (.int kk), .val (.int vv), .val (.int (1 : Int32))] [(.int (f11 (P vv.toNatClampNeg)))]))
              refine Goes.of (fun t k => XS.iload X100.here hx rfl (hb hby d10_47) rfl k) ?_
              show Goes _ _ _ _ _ _ _ (T100.setTop (mkF m 49 #[.val (.ref o), .val (.ref a), .val (.int kk), .val (.int vv), .val (.int (1 : Int32))] [(.int (1 : Int32)), (.int (f11 (P vv.toNatClampNeg)))]))
              refine Goes.of (fun t k => XS.icmpNo X100.here hx rfl (hb hby d10_49) rfl (teq (own_c1 (hin.mpr (Or.inr (Or.inr ⟨hc98, hc99⟩))))).2 k) ?_
              show Goes _ _ _ _ _ _ _ (T100.setTop (mkF m 52 #[.val (.ref o), .val (.ref a), .val (.int kk), .val (.int vv), .val (.int (1 : Int32))] []))
              refine Goes.of (fun t k => XS.iconst X100.here hx rfl (hb hby d10_52) k) ?_
              show Goes _ _ _ _ _ _ _ (T100.setTop (mkF m 53 #[.val (.ref o), .val (.ref a), .val (.int kk), .val (.int vv), .val (.int (1 : Int32))] [(.int (1 : Int32))]))
              refine Goes.of (fun t k => XS.goto X100.here hx rfl (pc0 := 53) (pc' := 57) rfl (hb hby d10_53) (by decide) (by decide) k) ?_
              show Goes _ _ _ _ _ _ _ (T100.setTop (mkF m 57 #[.val (.ref o), .val (.ref a), .val (.int kk), .val (.int vv), .val (.int (1 : Int32))] [(.int (1 : Int32))]))
              exact Goes.fin X100 hlk (v := some (.int (1 : Int32))) (fun h => by rw [Bd.returns] at h; cases h) (fun fs hr => retN X100 hx (t := .boolean) Bd.returns (by simp) (hb hby d10_57) hr) ⟨rfl, N100, e100⟩ (by decide) (by decide)
            · refine Goes.of (fun t k => XS.icmpYes X0.here hx rfl (pc0 := 32) (pc' := 39) rfl (hb hby d10_32) rfl (feq hc99).2 (by decide) (by decide) k) ?_
              show Goes _ _ _ _ _ _ _ (s₁.setTop (mkF m 39 #[.val (.ref o), .val (.ref a), .val (.int kk), .val (.int vv), .unset] []))
              refine Goes.of (fun t k => XS.iconst X0.here hx rfl (hb hby d10_39) k) ?_
              show Goes _ _ _ _ _ _ _ (s₁.setTop (mkF m 40 #[.val (.ref o), .val (.ref a), .val (.int kk), .val (.int vv), .unset] [(.int (0 : Int32))]))
              refine Goes.of (fun t k => XS.istore X0.here hx rfl (hb hby d10_40) rfl (l' := #[.val (.ref o), .val (.ref a), .val (.int kk), .val (.int vv), .val (.int (0 : Int32))]) rfl k) ?_
              show Goes _ _ _ _ _ _ _ (s₁.setTop (mkF m 42 #[.val (.ref o), .val (.ref a), .val (.int kk), .val (.int vv), .val (.int (0 : Int32))] []))
              refine Goes.of (fun t k => XS.aloadN X0.here hx rfl (hb hby d10_42) rfl rfl k) ?_
              show Goes _ _ _ _ _ _ _ (s₁.setTop (mkF m 43 #[.val (.ref o), .val (.ref a), .val (.int kk), .val (.int vv), .val (.int (0 : Int32))] [(.ref o)]))
              refine Goes.of (fun t k => XS.iloadN X0.here hx rfl (hb hby d10_43) rfl k) ?_
              show Goes _ _ _ _ _ _ _ (s₁.setTop (mkF m 44 #[.val (.ref o), .val (.ref a), .val (.int kk), .val (.int vv), .val (.int (0 : Int32))] [(.int vv), (.ref o)]))
              obtain ⟨cq101, kq101, q101a, q101b, q101c⟩ := isOf hZ e0 E_o
              obtain ⟨_, _, ⟨T101, L101, k101, n101⟩, -, X101, ⟨Lc101, hQ101, l101, y101, z101⟩, st101⟩ := X0.virtualBack hx (y := (⟨"com/example/slotwright/slotwright/problems/IndexSet", "contains", "(I)Z"⟩ : MethodName)) (z := (⟨"com/example/slotwright/slotwright/problems/IndexSet", "contains", "(I)Z"⟩ : MethodName)) hown (mvT hZ (hw _ (List.mem_of_getElem? (i := 51) rfl))) (mvT hZ (hw _ (List.mem_of_getElem? (i := 52) rfl))) (notFace_of_selects (args := #[]) (mvT hZ (hw _ (List.mem_of_getElem? (i := 54) rfl)))) (mvT hZ (hw _ (List.mem_of_getElem? (i := 54) rfl))) (mvT hZ (hw _ (List.mem_of_getElem? (i := 53) rfl))) (by decide) (backOf (W := 0) (rm11 l Z a0 hw [] o vv mm pp n M P sz h0 n0 Z0 E_o F_members F_positions F_size V_mm V_pp ne_om ne_op ne_mp g_o g_mm g_pp hv) hZ (hw _ (List.mem_of_getElem? (i := 55) rfl)) (hw _ (List.mem_of_getElem? (i := 8) rfl)) (by decide) (by decide)) q101a q101c (g := (mkF m 44 #[.val (.ref o), .val (.ref a), .val (.int kk), .val (.int vv), .val (.int (0 : Int32))] [(.int vv), (.ref o)])) rfl (by rw [hml]; rfl) (Steps.refl _) (argsL := [(.int vv)]) (rest := []) (lenOf pd_3 rfl) rfl (by show 2 * 0 + _ ≤ _; exact Nat.le_of_eq rfl) (hb hby d10_44) (fun _ _ => ⟨rfl, e0, (by decide : 0 + 0 ≤ _), (by decide : 0 + 0 ≤ _)⟩)
              dsimp only [Pt.U, Pt.locs, Pt.cells, Pt.slots] at X101 l101 y101 z101 st101 hQ101
              replace l101 := l101.symm
              replace y101 := y101.symm
              replace z101 := z101.symm
              subst l101 y101 z101
              obtain ⟨rfl, N101q, e101⟩ := hQ101
              have N101 := Fr.app N0 N101q
              refine Goes.of (fun t k => st101.trans k) ?_
              show Goes _ _ _ _ _ _ _ (T101.setTop (mkF m 47 #[.val (.ref o), .val (.ref a), .val (.int kk), .val (.int vv), .val (.int (0 : Int32))] [(.int (f11 (P vv.toNatClampNeg)))]))
              refine Goes.of (fun t k => XS.iload X101.here hx rfl (hb hby d10_47) rfl k) ?_
              show Goes _ _ _ _ _ _ _ (T101.setTop (mkF m 49 #[.val (.ref o), .val (.ref a), .val (.int kk), .val (.int vv), .val (.int (0 : Int32))] [(.int (0 : Int32)), (.int (f11 (P vv.toNatClampNeg)))]))
              refine Goes.of (fun t k => XS.icmpNo X101.here hx rfl (hb hby d10_49) rfl (teq (own_c0 (fun q => by rcases hin.mp q with ⟨x, y⟩ | ⟨x, y⟩ | ⟨x, y⟩ <;> first | exact absurd x (by assumption) | exact absurd y (by assumption)))).2 k) ?_
              show Goes _ _ _ _ _ _ _ (T101.setTop (mkF m 52 #[.val (.ref o), .val (.ref a), .val (.int kk), .val (.int vv), .val (.int (0 : Int32))] []))
              refine Goes.of (fun t k => XS.iconst X101.here hx rfl (hb hby d10_52) k) ?_
              show Goes _ _ _ _ _ _ _ (T101.setTop (mkF m 53 #[.val (.ref o), .val (.ref a), .val (.int kk), .val (.int vv), .val (.int (0 : Int32))] [(.int (1 : Int32))]))
              refine Goes.of (fun t k => XS.goto X101.here hx rfl (pc0 := 53) (pc' := 57) rfl (hb hby d10_53) (by decide) (by decide) k) ?_
              show Goes _ _ _ _ _ _ _ (T101.setTop (mkF m 57 #[.val (.ref o), .val (.ref a), .val (.int kk), .val (.int vv), .val (.int (0 : Int32))] [(.int (1 : Int32))]))
              exact Goes.fin X101 hlk (v := some (.int (1 : Int32))) (fun h => by rw [Bd.returns] at h; cases h) (fun fs hr => retN X101 hx (t := .boolean) Bd.returns (by simp) (hb hby d10_57) hr) ⟨rfl, N101, e101⟩ (by decide) (by decide)
          · refine Goes.of (fun t k => XS.icmpYes X0.here hx rfl (pc0 := 25) (pc' := 39) rfl (hb hby d10_25) rfl (flt hc98).2.2.2 (by decide) (by decide) k) ?_
            show Goes _ _ _ _ _ _ _ (s₁.setTop (mkF m 39 #[.val (.ref o), .val (.ref a), .val (.int kk), .val (.int vv), .unset] []))
            refine Goes.of (fun t k => XS.iconst X0.here hx rfl (hb hby d10_39) k) ?_
            show Goes _ _ _ _ _ _ _ (s₁.setTop (mkF m 40 #[.val (.ref o), .val (.ref a), .val (.int kk), .val (.int vv), .unset] [(.int (0 : Int32))]))
            refine Goes.of (fun t k => XS.istore X0.here hx rfl (hb hby d10_40) rfl (l' := #[.val (.ref o), .val (.ref a), .val (.int kk), .val (.int vv), .val (.int (0 : Int32))]) rfl k) ?_
            show Goes _ _ _ _ _ _ _ (s₁.setTop (mkF m 42 #[.val (.ref o), .val (.ref a), .val (.int kk), .val (.int vv), .val (.int (0 : Int32))] []))
            refine Goes.of (fun t k => XS.aloadN X0.here hx rfl (hb hby d10_42) rfl rfl k) ?_
            show Goes _ _ _ _ _ _ _ (s₁.setTop (mkF m 43 #[.val (.ref o), .val (.ref a), .val (.int kk), .val (.int vv), .val (.int (0 : Int32))] [(.ref o)]))
            refine Goes.of (fun t k => XS.iloadN X0.here hx rfl (hb hby d10_43) rfl k) ?_
            show Goes _ _ _ _ _ _ _ (s₁.setTop (mkF m 44 #[.val (.ref o), .val (.ref a), .val (.int kk), .val (.int vv), .val (.int (0 : Int32))] [(.int vv), (.ref o)]))
            obtain ⟨cq102, kq102, q102a, q102b, q102c⟩ := isOf hZ e0 E_o
            obtain ⟨_, _, ⟨T102, L102, k102, n102⟩, -, X102, ⟨Lc102, hQ102, l102, y102, z102⟩, st102⟩ := X0.virtualBack hx (y := (⟨"com/example/slotwright/slotwright/problems/IndexSet", "contains", "(I)Z"⟩ : MethodName)) (z := (⟨"com/example/slotwright/slotwright/problems/IndexSet", "contains", "(I)Z"⟩ : MethodName)) hown (mvT hZ (hw _ (List.mem_of_getElem? (i := 51) rfl))) (mvT hZ (hw _ (List.mem_of_getElem? (i := 52) rfl))) (notFace_of_selects (args := #[]) (mvT hZ (hw _ (List.mem_of_getElem? (i := 54) rfl)))) (mvT hZ (hw _ (List.mem_of_getElem? (i := 54) rfl))) (mvT hZ (hw _ (List.mem_of_getElem? (i := 53) rfl))) (by decide) (backOf (W := 0) (rm11 l Z a0 hw [] o vv mm pp n M P sz h0 n0 Z0 E_o F_members F_positions F_size V_mm V_pp ne_om ne_op ne_mp g_o g_mm g_pp hv) hZ (hw _ (List.mem_of_getElem? (i := 55) rfl)) (hw _ (List.mem_of_getElem? (i := 8) rfl)) (by decide) (by decide)) q102a q102c (g := (mkF m 44 #[.val (.ref o), .val (.ref a), .val (.int kk), .val (.int vv), .val (.int (0 : Int32))] [(.int vv), (.ref o)])) rfl (by rw [hml]; rfl) (Steps.refl _) (argsL := [(.int vv)]) (rest := []) (lenOf pd_3 rfl) rfl (by show 2 * 0 + _ ≤ _; exact Nat.le_of_eq rfl) (hb hby d10_44) (fun _ _ => ⟨rfl, e0, (by decide : 0 + 0 ≤ _), (by decide : 0 + 0 ≤ _)⟩)
            dsimp only [Pt.U, Pt.locs, Pt.cells, Pt.slots] at X102 l102 y102 z102 st102 hQ102
            replace l102 := l102.symm
            replace y102 := y102.symm
            replace z102 := z102.symm
            subst l102 y102 z102
            obtain ⟨rfl, N102q, e102⟩ := hQ102
            have N102 := Fr.app N0 N102q
            refine Goes.of (fun t k => st102.trans k) ?_
            show Goes _ _ _ _ _ _ _ (T102.setTop (mkF m 47 #[.val (.ref o), .val (.ref a), .val (.int kk), .val (.int vv), .val (.int (0 : Int32))] [(.int (f11 (P vv.toNatClampNeg)))]))
            refine Goes.of (fun t k => XS.iload X102.here hx rfl (hb hby d10_47) rfl k) ?_
            show Goes _ _ _ _ _ _ _ (T102.setTop (mkF m 49 #[.val (.ref o), .val (.ref a), .val (.int kk), .val (.int vv), .val (.int (0 : Int32))] [(.int (0 : Int32)), (.int (f11 (P vv.toNatClampNeg)))]))
            refine Goes.of (fun t k => XS.icmpNo X102.here hx rfl (hb hby d10_49) rfl (teq (own_c0 (fun q => by rcases hin.mp q with ⟨x, y⟩ | ⟨x, y⟩ | ⟨x, y⟩ <;> first | exact absurd x (by assumption) | exact absurd y (by assumption)))).2 k) ?_
            show Goes _ _ _ _ _ _ _ (T102.setTop (mkF m 52 #[.val (.ref o), .val (.ref a), .val (.int kk), .val (.int vv), .val (.int (0 : Int32))] []))
            refine Goes.of (fun t k => XS.iconst X102.here hx rfl (hb hby d10_52) k) ?_
            show Goes _ _ _ _ _ _ _ (T102.setTop (mkF m 53 #[.val (.ref o), .val (.ref a), .val (.int kk), .val (.int vv), .val (.int (0 : Int32))] [(.int (1 : Int32))]))
            refine Goes.of (fun t k => XS.goto X102.here hx rfl (pc0 := 53) (pc' := 57) rfl (hb hby d10_53) (by decide) (by decide) k) ?_
            show Goes _ _ _ _ _ _ _ (T102.setTop (mkF m 57 #[.val (.ref o), .val (.ref a), .val (.int kk), .val (.int vv), .val (.int (0 : Int32))] [(.int (1 : Int32))]))
            exact Goes.fin X102 hlk (v := some (.int (1 : Int32))) (fun h => by rw [Bd.returns] at h; cases h) (fun fs hr => retN X102 hx (t := .boolean) Bd.returns (by simp) (hb hby d10_57) hr) ⟨rfl, N102, e102⟩ (by decide) (by decide)
      · refine Goes.of (fun t k => XS.icmpYes X0.here hx rfl (pc0 := 13) (pc' := 23) rfl (hb hby d10_13) rfl (flt hc95).2.2.2 (by decide) (by decide) k) ?_
        show Goes _ _ _ _ _ _ _ (s₁.setTop (mkF m 23 #[.val (.ref o), .val (.ref a), .val (.int kk), .val (.int vv), .unset] []))
        refine Goes.of (fun t k => XS.iloadN X0.here hx rfl (hb hby d10_23) rfl k) ?_
        show Goes _ _ _ _ _ _ _ (s₁.setTop (mkF m 24 #[.val (.ref o), .val (.ref a), .val (.int kk), .val (.int vv), .unset] [(.int kk)]))
        refine Goes.of (fun t k => XS.iconst X0.here hx rfl (hb hby d10_24) k) ?_
        show Goes _ _ _ _ _ _ _ (s₁.setTop (mkF m 25 #[.val (.ref o), .val (.ref a), .val (.int kk), .val (.int vv), .unset] [(.int (2 : Int32)), (.int kk)]))
        by_cases hc103 : (2 : Int32) < kk
        · refine Goes.of (fun t k => XS.icmpNo X0.here hx rfl (hb hby d10_25) rfl (tlt hc103).2.2.2 k) ?_
          show Goes _ _ _ _ _ _ _ (s₁.setTop (mkF m 28 #[.val (.ref o), .val (.ref a), .val (.int kk), .val (.int vv), .unset] []))
          refine Goes.of (fun t k => XS.aloadN X0.here hx rfl (hb hby d10_28) rfl rfl k) ?_
          show Goes _ _ _ _ _ _ _ (s₁.setTop (mkF m 29 #[.val (.ref o), .val (.ref a), .val (.int kk), .val (.int vv), .unset] [(.ref a)]))
          refine Goes.of (fun t k => XS.iconst X0.here hx rfl (hb hby d10_29) k) ?_
          show Goes _ _ _ _ _ _ _ (s₁.setTop (mkF m 30 #[.val (.ref o), .val (.ref a), .val (.int kk), .val (.int vv), .unset] [(.int (2 : Int32)), (.ref a)]))
          refine Goes.of (fun t k => ldI X0 hx hZ e0 V_a (j := (2 : Int32)) (i := 2) (v := (mf 2)) (by decide) (by decide) (by omega) rfl (g := (mkF m 30 #[.val (.ref o), .val (.ref a), .val (.int kk), .val (.int vv), .unset] [(.int (2 : Int32)), (.ref a)])) rfl rfl (hb hby d10_30) t k) ?_
          show Goes _ _ _ _ _ _ _ (s₁.setTop (mkF m 31 #[.val (.ref o), .val (.ref a), .val (.int kk), .val (.int vv), .unset] [(.int (mf 2))]))
          refine Goes.of (fun t k => XS.iloadN X0.here hx rfl (hb hby d10_31) rfl k) ?_
          show Goes _ _ _ _ _ _ _ (s₁.setTop (mkF m 32 #[.val (.ref o), .val (.ref a), .val (.int kk), .val (.int vv), .unset] [(.int vv), (.int (mf 2))]))
          by_cases hc104 : (mf 2) = vv
          · refine Goes.of (fun t k => XS.icmpNo X0.here hx rfl (hb hby d10_32) rfl (teq hc104).2 k) ?_
            show Goes _ _ _ _ _ _ _ (s₁.setTop (mkF m 35 #[.val (.ref o), .val (.ref a), .val (.int kk), .val (.int vv), .unset] []))
            refine Goes.of (fun t k => XS.iconst X0.here hx rfl (hb hby d10_35) k) ?_
            show Goes _ _ _ _ _ _ _ (s₁.setTop (mkF m 36 #[.val (.ref o), .val (.ref a), .val (.int kk), .val (.int vv), .unset] [(.int (1 : Int32))]))
            refine Goes.of (fun t k => XS.goto X0.here hx rfl (pc0 := 36) (pc' := 40) rfl (hb hby d10_36) (by decide) (by decide) k) ?_
            show Goes _ _ _ _ _ _ _ (s₁.setTop (mkF m 40 #[.val (.ref o), .val (.ref a), .val (.int kk), .val (.int vv), .unset] [(.int (1 : Int32))]))
            refine Goes.of (fun t k => XS.istore X0.here hx rfl (hb hby d10_40) rfl (l' := #[.val (.ref o), .val (.ref a), .val (.int kk), .val (.int vv), .val (.int (1 : Int32))]) rfl k) ?_
            show Goes _ _ _ _ _ _ _ (s₁.setTop (mkF m 42 #[.val (.ref o), .val (.ref a), .val (.int kk), .val (.int vv), .val (.int (1 : Int32))] []))
            refine Goes.of (fun t k => XS.aloadN X0.here hx rfl (hb hby d10_42) rfl rfl k) ?_
            show Goes _ _ _ _ _ _ _ (s₁.setTop (mkF m 43 #[.val (.ref o), .val (.ref a), .val (.int kk), .val (.int vv), .val (.int (1 : Int32))] [(.ref o)]))
            refine Goes.of (fun t k => XS.iloadN X0.here hx rfl (hb hby d10_43) rfl k) ?_
            show Goes _ _ _ _ _ _ _ (s₁.setTop (mkF m 44 #[.val (.ref o), .val (.ref a), .val (.int kk), .val (.int vv), .val (.int (1 : Int32))] [(.int vv), (.ref o)]))
            obtain ⟨cq105, kq105, q105a, q105b, q105c⟩ := isOf hZ e0 E_o
            obtain ⟨_, _, ⟨T105, L105, k105, n105⟩, -, X105, ⟨Lc105, hQ105, l105, y105, z105⟩, st105⟩ := X0.virtualBack hx (y := (⟨"com/example/slotwright/slotwright/problems/IndexSet", "contains", "(I)Z"⟩ : MethodName)) (z := (⟨"com/example/slotwright/slotwright/problems/IndexSet", "contains", "(I)Z"⟩ : MethodName)) hown (mvT hZ (hw _ (List.mem_of_getElem? (i := 51) rfl))) (mvT hZ (hw _ (List.mem_of_getElem? (i := 52) rfl))) (notFace_of_selects (args := #[]) (mvT hZ (hw _ (List.mem_of_getElem? (i := 54) rfl)))) (mvT hZ (hw _ (List.mem_of_getElem? (i := 54) rfl))) (mvT hZ (hw _ (List.mem_of_getElem? (i := 53) rfl))) (by decide) (backOf (W := 0) (rm11 l Z a0 hw [] o vv mm pp n M P sz h0 n0 Z0 E_o F_members F_positions F_size V_mm V_pp ne_om ne_op ne_mp g_o g_mm g_pp hv) hZ (hw _ (List.mem_of_getElem? (i := 55) rfl)) (hw _ (List.mem_of_getElem? (i := 8) rfl)) (by decide) (by decide)) q105a q105c (g := (mkF m 44 #[.val (.ref o), .val (.ref a), .val (.int kk), .val (.int vv), .val (.int (1 : Int32))] [(.int vv), (.ref o)])) rfl (by rw [hml]; rfl) (Steps.refl _) (argsL := [(.int vv)]) (rest := []) (lenOf pd_3 rfl) rfl (by show 2 * 0 + _ ≤ _; exact Nat.le_of_eq rfl) (hb hby d10_44) (fun _ _ => ⟨rfl, e0, (by decide : 0 + 0 ≤ _), (by decide : 0 + 0 ≤ _)⟩)
            dsimp only [Pt.U, Pt.locs, Pt.cells, Pt.slots] at X105 l105 y105 z105 st105 hQ105
            replace l105 := l105.symm
            replace y105 := y105.symm
            replace z105 := z105.symm
            subst l105 y105 z105
            obtain ⟨rfl, N105q, e105⟩ := hQ105
            have N105 := Fr.app N0 N105q
            refine Goes.of (fun t k => st105.trans k) ?_
            show Goes _ _ _ _ _ _ _ (T105.setTop (mkF m 47 #[.val (.ref o), .val (.ref a), .val (.int kk), .val (.int vv), .val (.int (1 : Int32))] [(.int (f11 (P vv.toNatClampNeg)))]))
            refine Goes.of (fun t k => XS.iload X105.here hx rfl (hb hby d10_47) rfl k) ?_
            show Goes _ _ _ _ _ _ _ (T105.setTop (mkF m 49 #[.val (.ref o), .val (.ref a), .val (.int kk), .val (.int vv), .val (.int (1 : Int32))] [(.int (1 : Int32)), (.int (f11 (P vv.toNatClampNeg)))]))
            refine Goes.of (fun t k => XS.icmpNo X105.here hx rfl (hb hby d10_49) rfl (teq (own_c1 (hin.mpr (Or.inr (Or.inr ⟨hc103, hc104⟩))))).2 k) ?_
            show Goes _ _ _ _ _ _ _ (T105.setTop (mkF m 52 #[.val (.ref o), .val (.ref a), .val (.int kk), .val (.int vv), .val (.int (1 : Int32))] []))
            refine Goes.of (fun t k => XS.iconst X105.here hx rfl (hb hby d10_52) k) ?_
            show Goes _ _ _ _ _ _ _ (T105.setTop (mkF m 53 #[.val (.ref o), .val (.ref a), .val (.int kk), .val (.int vv), .val (.int (1 : Int32))] [(.int (1 : Int32))]))
            refine Goes.of (fun t k => XS.goto X105.here hx rfl (pc0 := 53) (pc' := 57) rfl (hb hby d10_53) (by decide) (by decide) k) ?_
            show Goes _ _ _ _ _ _ _ (T105.setTop (mkF m 57 #[.val (.ref o), .val (.ref a), .val (.int kk), .val (.int vv), .val (.int (1 : Int32))] [(.int (1 : Int32))]))
            exact Goes.fin X105 hlk (v := some (.int (1 : Int32))) (fun h => by rw [Bd.returns] at h; cases h) (fun fs hr => retN X105 hx (t := .boolean) Bd.returns (by simp) (hb hby d10_57) hr) ⟨rfl, N105, e105⟩ (by decide) (by decide)
          · refine Goes.of (fun t k => XS.icmpYes X0.here hx rfl (pc0 := 32) (pc' := 39) rfl (hb hby d10_32) rfl (feq hc104).2 (by decide) (by decide) k) ?_
            show Goes _ _ _ _ _ _ _ (s₁.setTop (mkF m 39 #[.val (.ref o), .val (.ref a), .val (.int kk), .val (.int vv), .unset] []))
            refine Goes.of (fun t k => XS.iconst X0.here hx rfl (hb hby d10_39) k) ?_
            show Goes _ _ _ _ _ _ _ (s₁.setTop (mkF m 40 #[.val (.ref o), .val (.ref a), .val (.int kk), .val (.int vv), .unset] [(.int (0 : Int32))]))
            refine Goes.of (fun t k => XS.istore X0.here hx rfl (hb hby d10_40) rfl (l' := #[.val (.ref o), .val (.ref a), .val (.int kk), .val (.int vv), .val (.int (0 : Int32))]) rfl k) ?_
            show Goes _ _ _ _ _ _ _ (s₁.setTop (mkF m 42 #[.val (.ref o), .val (.ref a), .val (.int kk), .val (.int vv), .val (.int (0 : Int32))] []))
            refine Goes.of (fun t k => XS.aloadN X0.here hx rfl (hb hby d10_42) rfl rfl k) ?_
            show Goes _ _ _ _ _ _ _ (s₁.setTop (mkF m 43 #[.val (.ref o), .val (.ref a), .val (.int kk), .val (.int vv), .val (.int (0 : Int32))] [(.ref o)]))
            refine Goes.of (fun t k => XS.iloadN X0.here hx rfl (hb hby d10_43) rfl k) ?_
            show Goes _ _ _ _ _ _ _ (s₁.setTop (mkF m 44 #[.val (.ref o), .val (.ref a), .val (.int kk), .val (.int vv), .val (.int (0 : Int32))] [(.int vv), (.ref o)]))
            obtain ⟨cq106, kq106, q106a, q106b, q106c⟩ := isOf hZ e0 E_o
            obtain ⟨_, _, ⟨T106, L106, k106, n106⟩, -, X106, ⟨Lc106, hQ106, l106, y106, z106⟩, st106⟩ := X0.virtualBack hx (y := (⟨"com/example/slotwright/slotwright/problems/IndexSet", "contains", "(I)Z"⟩ : MethodName)) (z := (⟨"com/example/slotwright/slotwright/problems/IndexSet", "contains", "(I)Z"⟩ : MethodName)) hown (mvT hZ (hw _ (List.mem_of_getElem? (i := 51) rfl))) (mvT hZ (hw _ (List.mem_of_getElem? (i := 52) rfl))) (notFace_of_selects (args := #[]) (mvT hZ (hw _ (List.mem_of_getElem? (i := 54) rfl)))) (mvT hZ (hw _ (List.mem_of_getElem? (i := 54) rfl))) (mvT hZ (hw _ (List.mem_of_getElem? (i := 53) rfl))) (by decide) (backOf (W := 0) (rm11 l Z a0 hw [] o vv mm pp n M P sz h0 n0 Z0 E_o F_members F_positions F_size V_mm V_pp ne_om ne_op ne_mp g_o g_mm g_pp hv) hZ (hw _ (List.mem_of_getElem? (i := 55) rfl)) (hw _ (List.mem_of_getElem? (i := 8) rfl)) (by decide) (by decide)) q106a q106c (g := (mkF m 44 #[.val (.ref o), .val (.ref a), .val (.int kk), .val (.int vv), .val (.int (0 : Int32))] [(.int vv), (.ref o)])) rfl (by rw [hml]; rfl) (Steps.refl _) (argsL := [(.int vv)]) (rest := []) (lenOf pd_3 rfl) rfl (by show 2 * 0 + _ ≤ _; exact Nat.le_of_eq rfl) (hb hby d10_44) (fun _ _ => ⟨rfl, e0, (by decide : 0 + 0 ≤ _), (by decide : 0 + 0 ≤ _)⟩)
            dsimp only [Pt.U, Pt.locs, Pt.cells, Pt.slots] at X106 l106 y106 z106 st106 hQ106
            replace l106 := l106.symm
            replace y106 := y106.symm
            replace z106 := z106.symm
            subst l106 y106 z106
            obtain ⟨rfl, N106q, e106⟩ := hQ106
            have N106 := Fr.app N0 N106q
            refine Goes.of (fun t k => st106.trans k) ?_
            show Goes _ _ _ _ _ _ _ (T106.setTop (mkF m 47 #[.val (.ref o), .val (.ref a), .val (.int kk), .val (.int vv), .val (.int (0 : Int32))] [(.int (f11 (P vv.toNatClampNeg)))]))
            refine Goes.of (fun t k => XS.iload X106.here hx rfl (hb hby d10_47) rfl k) ?_
            show Goes _ _ _ _ _ _ _ (T106.setTop (mkF m 49 #[.val (.ref o), .val (.ref a), .val (.int kk), .val (.int vv), .val (.int (0 : Int32))] [(.int (0 : Int32)), (.int (f11 (P vv.toNatClampNeg)))]))
            refine Goes.of (fun t k => XS.icmpNo X106.here hx rfl (hb hby d10_49) rfl (teq (own_c0 (fun q => by rcases hin.mp q with ⟨x, y⟩ | ⟨x, y⟩ | ⟨x, y⟩ <;> first | exact absurd x (by assumption) | exact absurd y (by assumption)))).2 k) ?_
            show Goes _ _ _ _ _ _ _ (T106.setTop (mkF m 52 #[.val (.ref o), .val (.ref a), .val (.int kk), .val (.int vv), .val (.int (0 : Int32))] []))
            refine Goes.of (fun t k => XS.iconst X106.here hx rfl (hb hby d10_52) k) ?_
            show Goes _ _ _ _ _ _ _ (T106.setTop (mkF m 53 #[.val (.ref o), .val (.ref a), .val (.int kk), .val (.int vv), .val (.int (0 : Int32))] [(.int (1 : Int32))]))
            refine Goes.of (fun t k => XS.goto X106.here hx rfl (pc0 := 53) (pc' := 57) rfl (hb hby d10_53) (by decide) (by decide) k) ?_
            show Goes _ _ _ _ _ _ _ (T106.setTop (mkF m 57 #[.val (.ref o), .val (.ref a), .val (.int kk), .val (.int vv), .val (.int (0 : Int32))] [(.int (1 : Int32))]))
            exact Goes.fin X106 hlk (v := some (.int (1 : Int32))) (fun h => by rw [Bd.returns] at h; cases h) (fun fs hr => retN X106 hx (t := .boolean) Bd.returns (by simp) (hb hby d10_57) hr) ⟨rfl, N106, e106⟩ (by decide) (by decide)
        · refine Goes.of (fun t k => XS.icmpYes X0.here hx rfl (pc0 := 25) (pc' := 39) rfl (hb hby d10_25) rfl (flt hc103).2.2.2 (by decide) (by decide) k) ?_
          show Goes _ _ _ _ _ _ _ (s₁.setTop (mkF m 39 #[.val (.ref o), .val (.ref a), .val (.int kk), .val (.int vv), .unset] []))
          refine Goes.of (fun t k => XS.iconst X0.here hx rfl (hb hby d10_39) k) ?_
          show Goes _ _ _ _ _ _ _ (s₁.setTop (mkF m 40 #[.val (.ref o), .val (.ref a), .val (.int kk), .val (.int vv), .unset] [(.int (0 : Int32))]))
          refine Goes.of (fun t k => XS.istore X0.here hx rfl (hb hby d10_40) rfl (l' := #[.val (.ref o), .val (.ref a), .val (.int kk), .val (.int vv), .val (.int (0 : Int32))]) rfl k) ?_
          show Goes _ _ _ _ _ _ _ (s₁.setTop (mkF m 42 #[.val (.ref o), .val (.ref a), .val (.int kk), .val (.int vv), .val (.int (0 : Int32))] []))
          refine Goes.of (fun t k => XS.aloadN X0.here hx rfl (hb hby d10_42) rfl rfl k) ?_
          show Goes _ _ _ _ _ _ _ (s₁.setTop (mkF m 43 #[.val (.ref o), .val (.ref a), .val (.int kk), .val (.int vv), .val (.int (0 : Int32))] [(.ref o)]))
          refine Goes.of (fun t k => XS.iloadN X0.here hx rfl (hb hby d10_43) rfl k) ?_
          show Goes _ _ _ _ _ _ _ (s₁.setTop (mkF m 44 #[.val (.ref o), .val (.ref a), .val (.int kk), .val (.int vv), .val (.int (0 : Int32))] [(.int vv), (.ref o)]))
          obtain ⟨cq107, kq107, q107a, q107b, q107c⟩ := isOf hZ e0 E_o
          obtain ⟨_, _, ⟨T107, L107, k107, n107⟩, -, X107, ⟨Lc107, hQ107, l107, y107, z107⟩, st107⟩ := X0.virtualBack hx (y := (⟨"com/example/slotwright/slotwright/problems/IndexSet", "contains", "(I)Z"⟩ : MethodName)) (z := (⟨"com/example/slotwright/slotwright/problems/IndexSet", "contains", "(I)Z"⟩ : MethodName)) hown (mvT hZ (hw _ (List.mem_of_getElem? (i := 51) rfl))) (mvT hZ (hw _ (List.mem_of_getElem? (i := 52) rfl))) (notFace_of_selects (args := #[]) (mvT hZ (hw _ (List.mem_of_getElem? (i := 54) rfl)))) (mvT hZ (hw _ (List.mem_of_getElem? (i := 54) rfl))) (mvT hZ (hw _ (List.mem_of_getElem? (i := 53) rfl))) (by decide) (backOf (W := 0) (rm11 l Z a0 hw [] o vv mm pp n M P sz h0 n0 Z0 E_o F_members F_positions F_size V_mm V_pp ne_om ne_op ne_mp g_o g_mm g_pp hv) hZ (hw _ (List.mem_of_getElem? (i := 55) rfl)) (hw _ (List.mem_of_getElem? (i := 8) rfl)) (by decide) (by decide)) q107a q107c (g := (mkF m 44 #[.val (.ref o), .val (.ref a), .val (.int kk), .val (.int vv), .val (.int (0 : Int32))] [(.int vv), (.ref o)])) rfl (by rw [hml]; rfl) (Steps.refl _) (argsL := [(.int vv)]) (rest := []) (lenOf pd_3 rfl) rfl (by show 2 * 0 + _ ≤ _; exact Nat.le_of_eq rfl) (hb hby d10_44) (fun _ _ => ⟨rfl, e0, (by decide : 0 + 0 ≤ _), (by decide : 0 + 0 ≤ _)⟩)
          dsimp only [Pt.U, Pt.locs, Pt.cells, Pt.slots] at X107 l107 y107 z107 st107 hQ107
          replace l107 := l107.symm
          replace y107 := y107.symm
          replace z107 := z107.symm
          subst l107 y107 z107
          obtain ⟨rfl, N107q, e107⟩ := hQ107
          have N107 := Fr.app N0 N107q
          refine Goes.of (fun t k => st107.trans k) ?_
          show Goes _ _ _ _ _ _ _ (T107.setTop (mkF m 47 #[.val (.ref o), .val (.ref a), .val (.int kk), .val (.int vv), .val (.int (0 : Int32))] [(.int (f11 (P vv.toNatClampNeg)))]))
          refine Goes.of (fun t k => XS.iload X107.here hx rfl (hb hby d10_47) rfl k) ?_
          show Goes _ _ _ _ _ _ _ (T107.setTop (mkF m 49 #[.val (.ref o), .val (.ref a), .val (.int kk), .val (.int vv), .val (.int (0 : Int32))] [(.int (0 : Int32)), (.int (f11 (P vv.toNatClampNeg)))]))
          refine Goes.of (fun t k => XS.icmpNo X107.here hx rfl (hb hby d10_49) rfl (teq (own_c0 (fun q => by rcases hin.mp q with ⟨x, y⟩ | ⟨x, y⟩ | ⟨x, y⟩ <;> first | exact absurd x (by assumption) | exact absurd y (by assumption)))).2 k) ?_
          show Goes _ _ _ _ _ _ _ (T107.setTop (mkF m 52 #[.val (.ref o), .val (.ref a), .val (.int kk), .val (.int vv), .val (.int (0 : Int32))] []))
          refine Goes.of (fun t k => XS.iconst X107.here hx rfl (hb hby d10_52) k) ?_
          show Goes _ _ _ _ _ _ _ (T107.setTop (mkF m 53 #[.val (.ref o), .val (.ref a), .val (.int kk), .val (.int vv), .val (.int (0 : Int32))] [(.int (1 : Int32))]))
          refine Goes.of (fun t k => XS.goto X107.here hx rfl (pc0 := 53) (pc' := 57) rfl (hb hby d10_53) (by decide) (by decide) k) ?_
          show Goes _ _ _ _ _ _ _ (T107.setTop (mkF m 57 #[.val (.ref o), .val (.ref a), .val (.int kk), .val (.int vv), .val (.int (0 : Int32))] [(.int (1 : Int32))]))
          exact Goes.fin X107 hlk (v := some (.int (1 : Int32))) (fun h => by rw [Bd.returns] at h; cases h) (fun fs hr => retN X107 hx (t := .boolean) Bd.returns (by simp) (hb hby d10_57) hr) ⟨rfl, N107, e107⟩ (by decide) (by decide)
  · refine Goes.of (fun t k => XS.ifYes X0.here hx rfl (pc0 := 1) (pc' := 11) rfl (hb hby d10_1) rfl ((if0 _ _).trans (flt hc92).2.2.2) (by decide) (by decide) k) ?_
    show Goes _ _ _ _ _ _ _ (s₁.setTop (mkF m 11 #[.val (.ref o), .val (.ref a), .val (.int kk), .val (.int vv), .unset] []))
    refine Goes.of (fun t k => XS.iloadN X0.here hx rfl (hb hby d10_11) rfl k) ?_
    show Goes _ _ _ _ _ _ _ (s₁.setTop (mkF m 12 #[.val (.ref o), .val (.ref a), .val (.int kk), .val (.int vv), .unset] [(.int kk)]))
    refine Goes.of (fun t k => XS.iconst X0.here hx rfl (hb hby d10_12) k) ?_
    show Goes _ _ _ _ _ _ _ (s₁.setTop (mkF m 13 #[.val (.ref o), .val (.ref a), .val (.int kk), .val (.int vv), .unset] [(.int (1 : Int32)), (.int kk)]))
    by_cases hc108 : (1 : Int32) < kk
    · refine Goes.of (fun t k => XS.icmpNo X0.here hx rfl (hb hby d10_13) rfl (tlt hc108).2.2.2 k) ?_
      show Goes _ _ _ _ _ _ _ (s₁.setTop (mkF m 16 #[.val (.ref o), .val (.ref a), .val (.int kk), .val (.int vv), .unset] []))
      refine Goes.of (fun t k => XS.aloadN X0.here hx rfl (hb hby d10_16) rfl rfl k) ?_
      show Goes _ _ _ _ _ _ _ (s₁.setTop (mkF m 17 #[.val (.ref o), .val (.ref a), .val (.int kk), .val (.int vv), .unset] [(.ref a)]))
      refine Goes.of (fun t k => XS.iconst X0.here hx rfl (hb hby d10_17) k) ?_
      show Goes _ _ _ _ _ _ _ (s₁.setTop (mkF m 18 #[.val (.ref o), .val (.ref a), .val (.int kk), .val (.int vv), .unset] [(.int (1 : Int32)), (.ref a)]))
      refine Goes.of (fun t k => ldI X0 hx hZ e0 V_a (j := (1 : Int32)) (i := 1) (v := (mf 1)) (by decide) (by decide) (by omega) rfl (g := (mkF m 18 #[.val (.ref o), .val (.ref a), .val (.int kk), .val (.int vv), .unset] [(.int (1 : Int32)), (.ref a)])) rfl rfl (hb hby d10_18) t k) ?_
      show Goes _ _ _ _ _ _ _ (s₁.setTop (mkF m 19 #[.val (.ref o), .val (.ref a), .val (.int kk), .val (.int vv), .unset] [(.int (mf 1))]))
      refine Goes.of (fun t k => XS.iloadN X0.here hx rfl (hb hby d10_19) rfl k) ?_
      show Goes _ _ _ _ _ _ _ (s₁.setTop (mkF m 20 #[.val (.ref o), .val (.ref a), .val (.int kk), .val (.int vv), .unset] [(.int vv), (.int (mf 1))]))
      by_cases hc109 : (mf 1) = vv
      · refine Goes.of (fun t k => XS.icmpYes X0.here hx rfl (pc0 := 20) (pc' := 35) rfl (hb hby d10_20) rfl (teq hc109).1 (by decide) (by decide) k) ?_
        show Goes _ _ _ _ _ _ _ (s₁.setTop (mkF m 35 #[.val (.ref o), .val (.ref a), .val (.int kk), .val (.int vv), .unset] []))
        refine Goes.of (fun t k => XS.iconst X0.here hx rfl (hb hby d10_35) k) ?_
        show Goes _ _ _ _ _ _ _ (s₁.setTop (mkF m 36 #[.val (.ref o), .val (.ref a), .val (.int kk), .val (.int vv), .unset] [(.int (1 : Int32))]))
        refine Goes.of (fun t k => XS.goto X0.here hx rfl (pc0 := 36) (pc' := 40) rfl (hb hby d10_36) (by decide) (by decide) k) ?_
        show Goes _ _ _ _ _ _ _ (s₁.setTop (mkF m 40 #[.val (.ref o), .val (.ref a), .val (.int kk), .val (.int vv), .unset] [(.int (1 : Int32))]))
        refine Goes.of (fun t k => XS.istore X0.here hx rfl (hb hby d10_40) rfl (l' := #[.val (.ref o), .val (.ref a), .val (.int kk), .val (.int vv), .val (.int (1 : Int32))]) rfl k) ?_
        show Goes _ _ _ _ _ _ _ (s₁.setTop (mkF m 42 #[.val (.ref o), .val (.ref a), .val (.int kk), .val (.int vv), .val (.int (1 : Int32))] []))
        refine Goes.of (fun t k => XS.aloadN X0.here hx rfl (hb hby d10_42) rfl rfl k) ?_
        show Goes _ _ _ _ _ _ _ (s₁.setTop (mkF m 43 #[.val (.ref o), .val (.ref a), .val (.int kk), .val (.int vv), .val (.int (1 : Int32))] [(.ref o)]))
        refine Goes.of (fun t k => XS.iloadN X0.here hx rfl (hb hby d10_43) rfl k) ?_
        show Goes _ _ _ _ _ _ _ (s₁.setTop (mkF m 44 #[.val (.ref o), .val (.ref a), .val (.int kk), .val (.int vv), .val (.int (1 : Int32))] [(.int vv), (.ref o)]))
        obtain ⟨cq110, kq110, q110a, q110b, q110c⟩ := isOf hZ e0 E_o
        obtain ⟨_, _, ⟨T110, L110, k110, n110⟩, -, X110, ⟨Lc110, hQ110, l110, y110, z110⟩, st110⟩ := X0.virtualBack hx (y := (⟨"com/example/slotwright/slotwright/problems/IndexSet", "contains", "(I)Z"⟩ : MethodName)) (z := (⟨"com/example/slotwright/slotwright/problems/IndexSet", "contains", "(I)Z"⟩ : MethodName)) hown (mvT hZ (hw _ (List.mem_of_getElem? (i := 51) rfl))) (mvT hZ (hw _ (List.mem_of_getElem? (i := 52) rfl))) (notFace_of_selects (args := #[]) (mvT hZ (hw _ (List.mem_of_getElem? (i := 54) rfl)))) (mvT hZ (hw _ (List.mem_of_getElem? (i := 54) rfl))) (mvT hZ (hw _ (List.mem_of_getElem? (i := 53) rfl))) (by decide) (backOf (W := 0) (rm11 l Z a0 hw [] o vv mm pp n M P sz h0 n0 Z0 E_o F_members F_positions F_size V_mm V_pp ne_om ne_op ne_mp g_o g_mm g_pp hv) hZ (hw _ (List.mem_of_getElem? (i := 55) rfl)) (hw _ (List.mem_of_getElem? (i := 8) rfl)) (by decide) (by decide)) q110a q110c (g := (mkF m 44 #[.val (.ref o), .val (.ref a), .val (.int kk), .val (.int vv), .val (.int (1 : Int32))] [(.int vv), (.ref o)])) rfl (by rw [hml]; rfl) (Steps.refl _) (argsL := [(.int vv)]) (rest := []) (lenOf pd_3 rfl) rfl (by show 2 * 0 + _ ≤ _; exact Nat.le_of_eq rfl) (hb hby d10_44) (fun _ _ => ⟨rfl, e0, (by decide : 0 + 0 ≤ _), (by decide : 0 + 0 ≤ _)⟩)
        dsimp only [Pt.U, Pt.locs, Pt.cells, Pt.slots] at X110 l110 y110 z110 st110 hQ110
        replace l110 := l110.symm
        replace y110 := y110.symm
        replace z110 := z110.symm
        subst l110 y110 z110
        obtain ⟨rfl, N110q, e110⟩ := hQ110
        have N110 := Fr.app N0 N110q
        refine Goes.of (fun t k => st110.trans k) ?_
        show Goes _ _ _ _ _ _ _ (T110.setTop (mkF m 47 #[.val (.ref o), .val (.ref a), .val (.int kk), .val (.int vv), .val (.int (1 : Int32))] [(.int (f11 (P vv.toNatClampNeg)))]))
        refine Goes.of (fun t k => XS.iload X110.here hx rfl (hb hby d10_47) rfl k) ?_
        show Goes _ _ _ _ _ _ _ (T110.setTop (mkF m 49 #[.val (.ref o), .val (.ref a), .val (.int kk), .val (.int vv), .val (.int (1 : Int32))] [(.int (1 : Int32)), (.int (f11 (P vv.toNatClampNeg)))]))
        refine Goes.of (fun t k => XS.icmpNo X110.here hx rfl (hb hby d10_49) rfl (teq (own_c1 (hin.mpr (Or.inr (Or.inl ⟨hc108, hc109⟩))))).2 k) ?_
        show Goes _ _ _ _ _ _ _ (T110.setTop (mkF m 52 #[.val (.ref o), .val (.ref a), .val (.int kk), .val (.int vv), .val (.int (1 : Int32))] []))
        refine Goes.of (fun t k => XS.iconst X110.here hx rfl (hb hby d10_52) k) ?_
        show Goes _ _ _ _ _ _ _ (T110.setTop (mkF m 53 #[.val (.ref o), .val (.ref a), .val (.int kk), .val (.int vv), .val (.int (1 : Int32))] [(.int (1 : Int32))]))
        refine Goes.of (fun t k => XS.goto X110.here hx rfl (pc0 := 53) (pc' := 57) rfl (hb hby d10_53) (by decide) (by decide) k) ?_
        show Goes _ _ _ _ _ _ _ (T110.setTop (mkF m 57 #[.val (.ref o), .val (.ref a), .val (.int kk), .val (.int vv), .val (.int (1 : Int32))] [(.int (1 : Int32))]))
        exact Goes.fin X110 hlk (v := some (.int (1 : Int32))) (fun h => by rw [Bd.returns] at h; cases h) (fun fs hr => retN X110 hx (t := .boolean) Bd.returns (by simp) (hb hby d10_57) hr) ⟨rfl, N110, e110⟩ (by decide) (by decide)
      · refine Goes.of (fun t k => XS.icmpNo X0.here hx rfl (hb hby d10_20) rfl (feq hc109).1 k) ?_
        show Goes _ _ _ _ _ _ _ (s₁.setTop (mkF m 23 #[.val (.ref o), .val (.ref a), .val (.int kk), .val (.int vv), .unset] []))
        refine Goes.of (fun t k => XS.iloadN X0.here hx rfl (hb hby d10_23) rfl k) ?_
        show Goes _ _ _ _ _ _ _ (s₁.setTop (mkF m 24 #[.val (.ref o), .val (.ref a), .val (.int kk), .val (.int vv), .unset] [(.int kk)]))
        refine Goes.of (fun t k => XS.iconst X0.here hx rfl (hb hby d10_24) k) ?_
        show Goes _ _ _ _ _ _ _ (s₁.setTop (mkF m 25 #[.val (.ref o), .val (.ref a), .val (.int kk), .val (.int vv), .unset] [(.int (2 : Int32)), (.int kk)]))
        by_cases hc111 : (2 : Int32) < kk
        · refine Goes.of (fun t k => XS.icmpNo X0.here hx rfl (hb hby d10_25) rfl (tlt hc111).2.2.2 k) ?_
          show Goes _ _ _ _ _ _ _ (s₁.setTop (mkF m 28 #[.val (.ref o), .val (.ref a), .val (.int kk), .val (.int vv), .unset] []))
          refine Goes.of (fun t k => XS.aloadN X0.here hx rfl (hb hby d10_28) rfl rfl k) ?_
          show Goes _ _ _ _ _ _ _ (s₁.setTop (mkF m 29 #[.val (.ref o), .val (.ref a), .val (.int kk), .val (.int vv), .unset] [(.ref a)]))
          refine Goes.of (fun t k => XS.iconst X0.here hx rfl (hb hby d10_29) k) ?_
          show Goes _ _ _ _ _ _ _ (s₁.setTop (mkF m 30 #[.val (.ref o), .val (.ref a), .val (.int kk), .val (.int vv), .unset] [(.int (2 : Int32)), (.ref a)]))
          refine Goes.of (fun t k => ldI X0 hx hZ e0 V_a (j := (2 : Int32)) (i := 2) (v := (mf 2)) (by decide) (by decide) (by omega) rfl (g := (mkF m 30 #[.val (.ref o), .val (.ref a), .val (.int kk), .val (.int vv), .unset] [(.int (2 : Int32)), (.ref a)])) rfl rfl (hb hby d10_30) t k) ?_
          show Goes _ _ _ _ _ _ _ (s₁.setTop (mkF m 31 #[.val (.ref o), .val (.ref a), .val (.int kk), .val (.int vv), .unset] [(.int (mf 2))]))
          refine Goes.of (fun t k => XS.iloadN X0.here hx rfl (hb hby d10_31) rfl k) ?_
          show Goes _ _ _ _ _ _ _ (s₁.setTop (mkF m 32 #[.val (.ref o), .val (.ref a), .val (.int kk), .val (.int vv), .unset] [(.int vv), (.int (mf 2))]))
          by_cases hc112 : (mf 2) = vv
          · refine Goes.of (fun t k => XS.icmpNo X0.here hx rfl (hb hby d10_32) rfl (teq hc112).2 k) ?_
            show Goes _ _ _ _ _ _ _ (s₁.setTop (mkF m 35 #[.val (.ref o), .val (.ref a), .val (.int kk), .val (.int vv), .unset] []))
            refine Goes.of (fun t k => XS.iconst X0.here hx rfl (hb hby d10_35) k) ?_
            show Goes _ _ _ _ _ _ _ (s₁.setTop (mkF m 36 #[.val (.ref o), .val (.ref a), .val (.int kk), .val (.int vv), .unset] [(.int (1 : Int32))]))
            refine Goes.of (fun t k => XS.goto X0.here hx rfl (pc0 := 36) (pc' := 40) rfl (hb hby d10_36) (by decide) (by decide) k) ?_
            show Goes _ _ _ _ _ _ _ (s₁.setTop (mkF m 40 #[.val (.ref o), .val (.ref a), .val (.int kk), .val (.int vv), .unset] [(.int (1 : Int32))]))
            refine Goes.of (fun t k => XS.istore X0.here hx rfl (hb hby d10_40) rfl (l' := #[.val (.ref o), .val (.ref a), .val (.int kk), .val (.int vv), .val (.int (1 : Int32))]) rfl k) ?_
            show Goes _ _ _ _ _ _ _ (s₁.setTop (mkF m 42 #[.val (.ref o), .val (.ref a), .val (.int kk), .val (.int vv), .val (.int (1 : Int32))] []))
            refine Goes.of (fun t k => XS.aloadN X0.here hx rfl (hb hby d10_42) rfl rfl k) ?_
            show Goes _ _ _ _ _ _ _ (s₁.setTop (mkF m 43 #[.val (.ref o), .val (.ref a), .val (.int kk), .val (.int vv), .val (.int (1 : Int32))] [(.ref o)]))
            refine Goes.of (fun t k => XS.iloadN X0.here hx rfl (hb hby d10_43) rfl k) ?_
            show Goes _ _ _ _ _ _ _ (s₁.setTop (mkF m 44 #[.val (.ref o), .val (.ref a), .val (.int kk), .val (.int vv), .val (.int (1 : Int32))] [(.int vv), (.ref o)]))
            obtain ⟨cq113, kq113, q113a, q113b, q113c⟩ := isOf hZ e0 E_o
            obtain ⟨_, _, ⟨T113, L113, k113, n113⟩, -, X113, ⟨Lc113, hQ113, l113, y113, z113⟩, st113⟩ := X0.virtualBack hx (y := (⟨"com/example/slotwright/slotwright/problems/IndexSet", "contains", "(I)Z"⟩ : MethodName)) (z := (⟨"com/example/slotwright/slotwright/problems/IndexSet", "contains", "(I)Z"⟩ : MethodName)) hown (mvT hZ (hw _ (List.mem_of_getElem? (i := 51) rfl))) (mvT hZ (hw _ (List.mem_of_getElem? (i := 52) rfl))) (notFace_of_selects (args := #[]) (mvT hZ (hw _ (List.mem_of_getElem? (i := 54) rfl)))) (mvT hZ (hw _ (List.mem_of_getElem? (i := 54) rfl))) (mvT hZ (hw _ (List.mem_of_getElem? (i := 53) rfl))) (by decide) (backOf (W := 0) (rm11 l Z a0 hw [] o vv mm pp n M P sz h0 n0 Z0 E_o F_members F_positions F_size V_mm V_pp ne_om ne_op ne_mp g_o g_mm g_pp hv) hZ (hw _ (List.mem_of_getElem? (i := 55) rfl)) (hw _ (List.mem_of_getElem? (i := 8) rfl)) (by decide) (by decide)) q113a q113c (g := (mkF m 44 #[.val (.ref o), .val (.ref a), .val (.int kk), .val (.int vv), .val (.int (1 : Int32))] [(.int vv), (.ref o)])) rfl (by rw [hml]; rfl) (Steps.refl _) (argsL := [(.int vv)]) (rest := []) (lenOf pd_3 rfl) rfl (by show 2 * 0 + _ ≤ _; exact Nat.le_of_eq rfl) (hb hby d10_44) (fun _ _ => ⟨rfl, e0, (by decide : 0 + 0 ≤ _), (by decide : 0 + 0 ≤ _)⟩)
            dsimp only [Pt.U, Pt.locs, Pt.cells, Pt.slots] at X113 l113 y113 z113 st113 hQ113
            replace l113 := l113.symm
            replace y113 := y113.symm
            replace z113 := z113.symm
            subst l113 y113 z113
            obtain ⟨rfl, N113q, e113⟩ := hQ113
            have N113 := Fr.app N0 N113q
            refine Goes.of (fun t k => st113.trans k) ?_
            show Goes _ _ _ _ _ _ _ (T113.setTop (mkF m 47 #[.val (.ref o), .val (.ref a), .val (.int kk), .val (.int vv), .val (.int (1 : Int32))] [(.int (f11 (P vv.toNatClampNeg)))]))
            refine Goes.of (fun t k => XS.iload X113.here hx rfl (hb hby d10_47) rfl k) ?_
            show Goes _ _ _ _ _ _ _ (T113.setTop (mkF m 49 #[.val (.ref o), .val (.ref a), .val (.int kk), .val (.int vv), .val (.int (1 : Int32))] [(.int (1 : Int32)), (.int (f11 (P vv.toNatClampNeg)))]))
            refine Goes.of (fun t k => XS.icmpNo X113.here hx rfl (hb hby d10_49) rfl (teq (own_c1 (hin.mpr (Or.inr (Or.inr ⟨hc111, hc112⟩))))).2 k) ?_
            show Goes _ _ _ _ _ _ _ (T113.setTop (mkF m 52 #[.val (.ref o), .val (.ref a), .val (.int kk), .val (.int vv), .val (.int (1 : Int32))] []))
            refine Goes.of (fun t k => XS.iconst X113.here hx rfl (hb hby d10_52) k) ?_
            show Goes _ _ _ _ _ _ _ (T113.setTop (mkF m 53 #[.val (.ref o), .val (.ref a), .val (.int kk), .val (.int vv), .val (.int (1 : Int32))] [(.int (1 : Int32))]))
            refine Goes.of (fun t k => XS.goto X113.here hx rfl (pc0 := 53) (pc' := 57) rfl (hb hby d10_53) (by decide) (by decide) k) ?_
            show Goes _ _ _ _ _ _ _ (T113.setTop (mkF m 57 #[.val (.ref o), .val (.ref a), .val (.int kk), .val (.int vv), .val (.int (1 : Int32))] [(.int (1 : Int32))]))
            exact Goes.fin X113 hlk (v := some (.int (1 : Int32))) (fun h => by rw [Bd.returns] at h; cases h) (fun fs hr => retN X113 hx (t := .boolean) Bd.returns (by simp) (hb hby d10_57) hr) ⟨rfl, N113, e113⟩ (by decide) (by decide)
          · refine Goes.of (fun t k => XS.icmpYes X0.here hx rfl (pc0 := 32) (pc' := 39) rfl (hb hby d10_32) rfl (feq hc112).2 (by decide) (by decide) k) ?_
            show Goes _ _ _ _ _ _ _ (s₁.setTop (mkF m 39 #[.val (.ref o), .val (.ref a), .val (.int kk), .val (.int vv), .unset] []))
            refine Goes.of (fun t k => XS.iconst X0.here hx rfl (hb hby d10_39) k) ?_
            show Goes _ _ _ _ _ _ _ (s₁.setTop (mkF m 40 #[.val (.ref o), .val (.ref a), .val (.int kk), .val (.int vv), .unset] [(.int (0 : Int32))]))
            refine Goes.of (fun t k => XS.istore X0.here hx rfl (hb hby d10_40) rfl (l' := #[.val (.ref o), .val (.ref a), .val (.int kk), .val (.int vv), .val (.int (0 : Int32))]) rfl k) ?_
            show Goes _ _ _ _ _ _ _ (s₁.setTop (mkF m 42 #[.val (.ref o), .val (.ref a), .val (.int kk), .val (.int vv), .val (.int (0 : Int32))] []))
            refine Goes.of (fun t k => XS.aloadN X0.here hx rfl (hb hby d10_42) rfl rfl k) ?_
            show Goes _ _ _ _ _ _ _ (s₁.setTop (mkF m 43 #[.val (.ref o), .val (.ref a), .val (.int kk), .val (.int vv), .val (.int (0 : Int32))] [(.ref o)]))
            refine Goes.of (fun t k => XS.iloadN X0.here hx rfl (hb hby d10_43) rfl k) ?_
            show Goes _ _ _ _ _ _ _ (s₁.setTop (mkF m 44 #[.val (.ref o), .val (.ref a), .val (.int kk), .val (.int vv), .val (.int (0 : Int32))] [(.int vv), (.ref o)]))
            obtain ⟨cq114, kq114, q114a, q114b, q114c⟩ := isOf hZ e0 E_o
            obtain ⟨_, _, ⟨T114, L114, k114, n114⟩, -, X114, ⟨Lc114, hQ114, l114, y114, z114⟩, st114⟩ := X0.virtualBack hx (y := (⟨"com/example/slotwright/slotwright/problems/IndexSet", "contains", "(I)Z"⟩ : MethodName)) (z := (⟨"com/example/slotwright/slotwright/problems/IndexSet", "contains", "(I)Z"⟩ : MethodName)) hown (mvT hZ (hw _ (List.mem_of_getElem? (i := 51) rfl))) (mvT hZ (hw _ (List.mem_of_getElem? (i := 52) rfl))) (notFace_of_selects (args := #[]) (mvT hZ (hw _ (List.mem_of_getElem? (i := 54) rfl)))) (mvT hZ (hw _ (List.mem_of_getElem? (i := 54) rfl))) (mvT hZ (hw _ (List.mem_of_getElem? (i := 53) rfl))) (by decide) (backOf (W := 0) (rm11 l Z a0 hw [] o vv mm pp n M P sz h0 n0 Z0 E_o F_members F_positions F_size V_mm V_pp ne_om ne_op ne_mp g_o g_mm g_pp hv) hZ (hw _ (List.mem_of_getElem? (i := 55) rfl)) (hw _ (List.mem_of_getElem? (i := 8) rfl)) (by decide) (by decide)) q114a q114c (g := (mkF m 44 #[.val (.ref o), .val (.ref a), .val (.int kk), .val (.int vv), .val (.int (0 : Int32))] [(.int vv), (.ref o)])) rfl (by rw [hml]; rfl) (Steps.refl _) (argsL := [(.int vv)]) (rest := []) (lenOf pd_3 rfl) rfl (by show 2 * 0 + _ ≤ _; exact Nat.le_of_eq rfl) (hb hby d10_44) (fun _ _ => ⟨rfl, e0, (by decide : 0 + 0 ≤ _), (by decide : 0 + 0 ≤ _)⟩)
            dsimp only [Pt.U, Pt.locs, Pt.cells, Pt.slots] at X114 l114 y114 z114 st114 hQ114
            replace l114 := l114.symm
            replace y114 := y114.symm
            replace z114 := z114.symm
            subst l114 y114 z114
            obtain ⟨rfl, N114q, e114⟩ := hQ114
            have N114 := Fr.app N0 N114q
            refine Goes.of (fun t k => st114.trans k) ?_
            show Goes _ _ _ _ _ _ _ (T114.setTop (mkF m 47 #[.val (.ref o), .val (.ref a), .val (.int kk), .val (.int vv), .val (.int (0 : Int32))] [(.int (f11 (P vv.toNatClampNeg)))]))
            refine Goes.of (fun t k => XS.iload X114.here hx rfl (hb hby d10_47) rfl k) ?_
            show Goes _ _ _ _ _ _ _ (T114.setTop (mkF m 49 #[.val (.ref o), .val (.ref a), .val (.int kk), .val (.int vv), .val (.int (0 : Int32))] [(.int (0 : Int32)), (.int (f11 (P vv.toNatClampNeg)))]))
            refine Goes.of (fun t k => XS.icmpNo X114.here hx rfl (hb hby d10_49) rfl (teq (own_c0 (fun q => by rcases hin.mp q with ⟨x, y⟩ | ⟨x, y⟩ | ⟨x, y⟩ <;> first | exact absurd x (by assumption) | exact absurd y (by assumption)))).2 k) ?_
            show Goes _ _ _ _ _ _ _ (T114.setTop (mkF m 52 #[.val (.ref o), .val (.ref a), .val (.int kk), .val (.int vv), .val (.int (0 : Int32))] []))
            refine Goes.of (fun t k => XS.iconst X114.here hx rfl (hb hby d10_52) k) ?_
            show Goes _ _ _ _ _ _ _ (T114.setTop (mkF m 53 #[.val (.ref o), .val (.ref a), .val (.int kk), .val (.int vv), .val (.int (0 : Int32))] [(.int (1 : Int32))]))
            refine Goes.of (fun t k => XS.goto X114.here hx rfl (pc0 := 53) (pc' := 57) rfl (hb hby d10_53) (by decide) (by decide) k) ?_
            show Goes _ _ _ _ _ _ _ (T114.setTop (mkF m 57 #[.val (.ref o), .val (.ref a), .val (.int kk), .val (.int vv), .val (.int (0 : Int32))] [(.int (1 : Int32))]))
            exact Goes.fin X114 hlk (v := some (.int (1 : Int32))) (fun h => by rw [Bd.returns] at h; cases h) (fun fs hr => retN X114 hx (t := .boolean) Bd.returns (by simp) (hb hby d10_57) hr) ⟨rfl, N114, e114⟩ (by decide) (by decide)
        · refine Goes.of (fun t k => XS.icmpYes X0.here hx rfl (pc0 := 25) (pc' := 39) rfl (hb hby d10_25) rfl (flt hc111).2.2.2 (by decide) (by decide) k) ?_
          show Goes _ _ _ _ _ _ _ (s₁.setTop (mkF m 39 #[.val (.ref o), .val (.ref a), .val (.int kk), .val (.int vv), .unset] []))
          refine Goes.of (fun t k => XS.iconst X0.here hx rfl (hb hby d10_39) k) ?_
          show Goes _ _ _ _ _ _ _ (s₁.setTop (mkF m 40 #[.val (.ref o), .val (.ref a), .val (.int kk), .val (.int vv), .unset] [(.int (0 : Int32))]))
          refine Goes.of (fun t k => XS.istore X0.here hx rfl (hb hby d10_40) rfl (l' := #[.val (.ref o), .val (.ref a), .val (.int kk), .val (.int vv), .val (.int (0 : Int32))]) rfl k) ?_
          show Goes _ _ _ _ _ _ _ (s₁.setTop (mkF m 42 #[.val (.ref o), .val (.ref a), .val (.int kk), .val (.int vv), .val (.int (0 : Int32))] []))
          refine Goes.of (fun t k => XS.aloadN X0.here hx rfl (hb hby d10_42) rfl rfl k) ?_
          show Goes _ _ _ _ _ _ _ (s₁.setTop (mkF m 43 #[.val (.ref o), .val (.ref a), .val (.int kk), .val (.int vv), .val (.int (0 : Int32))] [(.ref o)]))
          refine Goes.of (fun t k => XS.iloadN X0.here hx rfl (hb hby d10_43) rfl k) ?_
          show Goes _ _ _ _ _ _ _ (s₁.setTop (mkF m 44 #[.val (.ref o), .val (.ref a), .val (.int kk), .val (.int vv), .val (.int (0 : Int32))] [(.int vv), (.ref o)]))
          obtain ⟨cq115, kq115, q115a, q115b, q115c⟩ := isOf hZ e0 E_o
          obtain ⟨_, _, ⟨T115, L115, k115, n115⟩, -, X115, ⟨Lc115, hQ115, l115, y115, z115⟩, st115⟩ := X0.virtualBack hx (y := (⟨"com/example/slotwright/slotwright/problems/IndexSet", "contains", "(I)Z"⟩ : MethodName)) (z := (⟨"com/example/slotwright/slotwright/problems/IndexSet", "contains", "(I)Z"⟩ : MethodName)) hown (mvT hZ (hw _ (List.mem_of_getElem? (i := 51) rfl))) (mvT hZ (hw _ (List.mem_of_getElem? (i := 52) rfl))) (notFace_of_selects (args := #[]) (mvT hZ (hw _ (List.mem_of_getElem? (i := 54) rfl)))) (mvT hZ (hw _ (List.mem_of_getElem? (i := 54) rfl))) (mvT hZ (hw _ (List.mem_of_getElem? (i := 53) rfl))) (by decide) (backOf (W := 0) (rm11 l Z a0 hw [] o vv mm pp n M P sz h0 n0 Z0 E_o F_members F_positions F_size V_mm V_pp ne_om ne_op ne_mp g_o g_mm g_pp hv) hZ (hw _ (List.mem_of_getElem? (i := 55) rfl)) (hw _ (List.mem_of_getElem? (i := 8) rfl)) (by decide) (by decide)) q115a q115c (g := (mkF m 44 #[.val (.ref o), .val (.ref a), .val (.int kk), .val (.int vv), .val (.int (0 : Int32))] [(.int vv), (.ref o)])) rfl (by rw [hml]; rfl) (Steps.refl _) (argsL := [(.int vv)]) (rest := []) (lenOf pd_3 rfl) rfl (by show 2 * 0 + _ ≤ _; exact Nat.le_of_eq rfl) (hb hby d10_44) (fun _ _ => ⟨rfl, e0, (by decide : 0 + 0 ≤ _), (by decide : 0 + 0 ≤ _)⟩)
          dsimp only [Pt.U, Pt.locs, Pt.cells, Pt.slots] at X115 l115 y115 z115 st115 hQ115
          replace l115 := l115.symm
          replace y115 := y115.symm
          replace z115 := z115.symm
          subst l115 y115 z115
          obtain ⟨rfl, N115q, e115⟩ := hQ115
          have N115 := Fr.app N0 N115q
          refine Goes.of (fun t k => st115.trans k) ?_
          show Goes _ _ _ _ _ _ _ (T115.setTop (mkF m 47 #[.val (.ref o), .val (.ref a), .val (.int kk), .val (.int vv), .val (.int (0 : Int32))] [(.int (f11 (P vv.toNatClampNeg)))]))
          refine Goes.of (fun t k => XS.iload X115.here hx rfl (hb hby d10_47) rfl k) ?_
          show Goes _ _ _ _ _ _ _ (T115.setTop (mkF m 49 #[.val (.ref o), .val (.ref a), .val (.int kk), .val (.int vv), .val (.int (0 : Int32))] [(.int (0 : Int32)), (.int (f11 (P vv.toNatClampNeg)))]))
          refine Goes.of (fun t k => XS.icmpNo X115.here hx rfl (hb hby d10_49) rfl (teq (own_c0 (fun q => by rcases hin.mp q with ⟨x, y⟩ | ⟨x, y⟩ | ⟨x, y⟩ <;> first | exact absurd x (by assumption) | exact absurd y (by assumption)))).2 k) ?_
          show Goes _ _ _ _ _ _ _ (T115.setTop (mkF m 52 #[.val (.ref o), .val (.ref a), .val (.int kk), .val (.int vv), .val (.int (0 : Int32))] []))
          refine Goes.of (fun t k => XS.iconst X115.here hx rfl (hb hby d10_52) k) ?_
          show Goes _ _ _ _ _ _ _ (T115.setTop (mkF m 53 #[.val (.ref o), .val (.ref a), .val (.int kk), .val (.int vv), .val (.int (0 : Int32))] [(.int (1 : Int32))]))
          refine Goes.of (fun t k => XS.goto X115.here hx rfl (pc0 := 53) (pc' := 57) rfl (hb hby d10_53) (by decide) (by decide) k) ?_
          show Goes _ _ _ _ _ _ _ (T115.setTop (mkF m 57 #[.val (.ref o), .val (.ref a), .val (.int kk), .val (.int vv), .val (.int (0 : Int32))] [(.int (1 : Int32))]))
          exact Goes.fin X115 hlk (v := some (.int (1 : Int32))) (fun h => by rw [Bd.returns] at h; cases h) (fun fs hr => retN X115 hx (t := .boolean) Bd.returns (by simp) (hb hby d10_57) hr) ⟨rfl, N115, e115⟩ (by decide) (by decide)
    · refine Goes.of (fun t k => XS.icmpYes X0.here hx rfl (pc0 := 13) (pc' := 23) rfl (hb hby d10_13) rfl (flt hc108).2.2.2 (by decide) (by decide) k) ?_
      show Goes _ _ _ _ _ _ _ (s₁.setTop (mkF m 23 #[.val (.ref o), .val (.ref a), .val (.int kk), .val (.int vv), .unset] []))
      refine Goes.of (fun t k => XS.iloadN X0.here hx rfl (hb hby d10_23) rfl k) ?_
      show Goes _ _ _ _ _ _ _ (s₁.setTop (mkF m 24 #[.val (.ref o), .val (.ref a), .val (.int kk), .val (.int vv), .unset] [(.int kk)]))
      refine Goes.of (fun t k => XS.iconst X0.here hx rfl (hb hby d10_24) k) ?_
      show Goes _ _ _ _ _ _ _ (s₁.setTop (mkF m 25 #[.val (.ref o), .val (.ref a), .val (.int kk), .val (.int vv), .unset] [(.int (2 : Int32)), (.int kk)]))
      by_cases hc116 : (2 : Int32) < kk
      · refine Goes.of (fun t k => XS.icmpNo X0.here hx rfl (hb hby d10_25) rfl (tlt hc116).2.2.2 k) ?_
        show Goes _ _ _ _ _ _ _ (s₁.setTop (mkF m 28 #[.val (.ref o), .val (.ref a), .val (.int kk), .val (.int vv), .unset] []))
        refine Goes.of (fun t k => XS.aloadN X0.here hx rfl (hb hby d10_28) rfl rfl k) ?_
        show Goes _ _ _ _ _ _ _ (s₁.setTop (mkF m 29 #[.val (.ref o), .val (.ref a), .val (.int kk), .val (.int vv), .unset] [(.ref a)]))
        refine Goes.of (fun t k => XS.iconst X0.here hx rfl (hb hby d10_29) k) ?_
        show Goes _ _ _ _ _ _ _ (s₁.setTop (mkF m 30 #[.val (.ref o), .val (.ref a), .val (.int kk), .val (.int vv), .unset] [(.int (2 : Int32)), (.ref a)]))
        refine Goes.of (fun t k => ldI X0 hx hZ e0 V_a (j := (2 : Int32)) (i := 2) (v := (mf 2)) (by decide) (by decide) (by omega) rfl (g := (mkF m 30 #[.val (.ref o), .val (.ref a), .val (.int kk), .val (.int vv), .unset] [(.int (2 : Int32)), (.ref a)])) rfl rfl (hb hby d10_30) t k) ?_
        show Goes _ _ _ _ _ _ _ (s₁.setTop (mkF m 31 #[.val (.ref o), .val (.ref a), .val (.int kk), .val (.int vv), .unset] [(.int (mf 2))]))
        refine Goes.of (fun t k => XS.iloadN X0.here hx rfl (hb hby d10_31) rfl k) ?_
        show Goes _ _ _ _ _ _ _ (s₁.setTop (mkF m 32 #[.val (.ref o), .val (.ref a), .val (.int kk), .val (.int vv), .unset] [(.int vv), (.int (mf 2))]))
        by_cases hc117 : (mf 2) = vv
        · refine Goes.of (fun t k => XS.icmpNo X0.here hx rfl (hb hby d10_32) rfl (teq hc117).2 k) ?_
          show Goes _ _ _ _ _ _ _ (s₁.setTop (mkF m 35 #[.val (.ref o), .val (.ref a), .val (.int kk), .val (.int vv), .unset] []))
          refine Goes.of (fun t k => XS.iconst X0.here hx rfl (hb hby d10_35) k) ?_
          show Goes _ _ _ _ _ _ _ (s₁.setTop (mkF m 36 #[.val (.ref o), .val (.ref a), .val (.int kk), .val (.int vv), .unset] [(.int (1 : Int32))]))
          refine Goes.of (fun t k => XS.goto X0.here hx rfl (pc0 := 36) (pc' := 40) rfl (hb hby d10_36) (by decide) (by decide) k) ?_
          show Goes _ _ _ _ _ _ _ (s₁.setTop (mkF m 40 #[.val (.ref o), .val (.ref a), .val (.int kk), .val (.int vv), .unset] [(.int (1 : Int32))]))
          refine Goes.of (fun t k => XS.istore X0.here hx rfl (hb hby d10_40) rfl (l' := #[.val (.ref o), .val (.ref a), .val (.int kk), .val (.int vv), .val (.int (1 : Int32))]) rfl k) ?_
          show Goes _ _ _ _ _ _ _ (s₁.setTop (mkF m 42 #[.val (.ref o), .val (.ref a), .val (.int kk), .val (.int vv), .val (.int (1 : Int32))] []))
          refine Goes.of (fun t k => XS.aloadN X0.here hx rfl (hb hby d10_42) rfl rfl k) ?_
          show Goes _ _ _ _ _ _ _ (s₁.setTop (mkF m 43 #[.val (.ref o), .val (.ref a), .val (.int kk), .val (.int vv), .val (.int (1 : Int32))] [(.ref o)]))
          refine Goes.of (fun t k => XS.iloadN X0.here hx rfl (hb hby d10_43) rfl k) ?_
          show Goes _ _ _ _ _ _ _ (s₁.setTop (mkF m 44 #[.val (.ref o), .val (.ref a), .val (.int kk), .val (.int vv), .val (.int (1 : Int32))] [(.int vv), (.ref o)]))
          obtain ⟨cq118, kq118, q118a, q118b, q118c⟩ := isOf hZ e0 E_o
          obtain ⟨_, _, ⟨T118, L118, k118, n118⟩, -, X118, ⟨Lc118, hQ118, l118, y118, z118⟩, st118⟩ := X0.virtualBack hx (y := (⟨"com/example/slotwright/slotwright/problems/IndexSet", "contains", "(I)Z"⟩ : MethodName)) (z := (⟨"com/example/slotwright/slotwright/problems/IndexSet", "contains", "(I)Z"⟩ : MethodName)) hown (mvT hZ (hw _ (List.mem_of_getElem? (i := 51) rfl))) (mvT hZ (hw _ (List.mem_of_getElem? (i := 52) rfl))) (notFace_of_selects (args := #[]) (mvT hZ (hw _ (List.mem_of_getElem? (i := 54) rfl)))) (mvT hZ (hw _ (List.mem_of_getElem? (i := 54) rfl))) (mvT hZ (hw _ (List.mem_of_getElem? (i := 53) rfl))) (by decide) (backOf (W := 0) (rm11 l Z a0 hw [] o vv mm pp n M P sz h0 n0 Z0 E_o F_members F_positions F_size V_mm V_pp ne_om ne_op ne_mp g_o g_mm g_pp hv) hZ (hw _ (List.mem_of_getElem? (i := 55) rfl)) (hw _ (List.mem_of_getElem? (i := 8) rfl)) (by decide) (by decide)) q118a q118c (g := (mkF m 44 #[.val (.ref o), .val (.ref a), .val (.int kk), .val (.int vv), .val (.int (1 : Int32))] [(.int vv), (.ref o)])) rfl (by rw [hml]; rfl) (Steps.refl _) (argsL := [(.int vv)]) (rest := []) (lenOf pd_3 rfl) rfl (by show 2 * 0 + _ ≤ _; exact Nat.le_of_eq rfl) (hb hby d10_44) (fun _ _ => ⟨rfl, e0, (by decide : 0 + 0 ≤ _), (by decide : 0 + 0 ≤ _)⟩)
          dsimp only [Pt.U, Pt.locs, Pt.cells, Pt.slots] at X118 l118 y118 z118 st118 hQ118
          replace l118 := l118.symm
          replace y118 := y118.symm
          replace z118 := z118.symm
          subst l118 y118 z118
          obtain ⟨rfl, N118q, e118⟩ := hQ118
          have N118 := Fr.app N0 N118q
          refine Goes.of (fun t k => st118.trans k) ?_
          show Goes _ _ _ _ _ _ _ (T118.setTop (mkF m 47 #[.val (.ref o), .val (.ref a), .val (.int kk), .val (.int vv), .val (.int (1 : Int32))] [(.int (f11 (P vv.toNatClampNeg)))]))
          refine Goes.of (fun t k => XS.iload X118.here hx rfl (hb hby d10_47) rfl k) ?_
          show Goes _ _ _ _ _ _ _ (T118.setTop (mkF m 49 #[.val (.ref o), .val (.ref a), .val (.int kk), .val (.int vv), .val (.int (1 : Int32))] [(.int (1 : Int32)), (.int (f11 (P vv.toNatClampNeg)))]))
          refine Goes.of (fun t k => XS.icmpNo X118.here hx rfl (hb hby d10_49) rfl (teq (own_c1 (hin.mpr (Or.inr (Or.inr ⟨hc116, hc117⟩))))).2 k) ?_
          show Goes _ _ _ _ _ _ _ (T118.setTop (mkF m 52 #[.val (.ref o), .val (.ref a), .val (.int kk), .val (.int vv), .val (.int (1 : Int32))] []))
          refine Goes.of (fun t k => XS.iconst X118.here hx rfl (hb hby d10_52) k) ?_
          show Goes _ _ _ _ _ _ _ (T118.setTop (mkF m 53 #[.val (.ref o), .val (.ref a), .val (.int kk), .val (.int vv), .val (.int (1 : Int32))] [(.int (1 : Int32))]))
          refine Goes.of (fun t k => XS.goto X118.here hx rfl (pc0 := 53) (pc' := 57) rfl (hb hby d10_53) (by decide) (by decide) k) ?_
          show Goes _ _ _ _ _ _ _ (T118.setTop (mkF m 57 #[.val (.ref o), .val (.ref a), .val (.int kk), .val (.int vv), .val (.int (1 : Int32))] [(.int (1 : Int32))]))
          exact Goes.fin X118 hlk (v := some (.int (1 : Int32))) (fun h => by rw [Bd.returns] at h; cases h) (fun fs hr => retN X118 hx (t := .boolean) Bd.returns (by simp) (hb hby d10_57) hr) ⟨rfl, N118, e118⟩ (by decide) (by decide)
        · refine Goes.of (fun t k => XS.icmpYes X0.here hx rfl (pc0 := 32) (pc' := 39) rfl (hb hby d10_32) rfl (feq hc117).2 (by decide) (by decide) k) ?_
          show Goes _ _ _ _ _ _ _ (s₁.setTop (mkF m 39 #[.val (.ref o), .val (.ref a), .val (.int kk), .val (.int vv), .unset] []))
          refine Goes.of (fun t k => XS.iconst X0.here hx rfl (hb hby d10_39) k) ?_
          show Goes _ _ _ _ _ _ _ (s₁.setTop (mkF m 40 #[.val (.ref o), .val (.ref a), .val (.int kk), .val (.int vv), .unset] [(.int (0 : Int32))]))
          refine Goes.of (fun t k => XS.istore X0.here hx rfl (hb hby d10_40) rfl (l' := #[.val (.ref o), .val (.ref a), .val (.int kk), .val (.int vv), .val (.int (0 : Int32))]) rfl k) ?_
          show Goes _ _ _ _ _ _ _ (s₁.setTop (mkF m 42 #[.val (.ref o), .val (.ref a), .val (.int kk), .val (.int vv), .val (.int (0 : Int32))] []))
          refine Goes.of (fun t k => XS.aloadN X0.here hx rfl (hb hby d10_42) rfl rfl k) ?_
          show Goes _ _ _ _ _ _ _ (s₁.setTop (mkF m 43 #[.val (.ref o), .val (.ref a), .val (.int kk), .val (.int vv), .val (.int (0 : Int32))] [(.ref o)]))
          refine Goes.of (fun t k => XS.iloadN X0.here hx rfl (hb hby d10_43) rfl k) ?_
          show Goes _ _ _ _ _ _ _ (s₁.setTop (mkF m 44 #[.val (.ref o), .val (.ref a), .val (.int kk), .val (.int vv), .val (.int (0 : Int32))] [(.int vv), (.ref o)]))
          obtain ⟨cq119, kq119, q119a, q119b, q119c⟩ := isOf hZ e0 E_o
          obtain ⟨_, _, ⟨T119, L119, k119, n119⟩, -, X119, ⟨Lc119, hQ119, l119, y119, z119⟩, st119⟩ := X0.virtualBack hx (y := (⟨"com/example/slotwright/slotwright/problems/IndexSet", "contains", "(I)Z"⟩ : MethodName)) (z := (⟨"com/example/slotwright/slotwright/problems/IndexSet", "contains", "(I)Z"⟩ : MethodName)) hown (mvT hZ (hw _ (List.mem_of_getElem? (i := 51) rfl))) (mvT hZ (hw _ (List.mem_of_getElem? (i := 52) rfl))) (notFace_of_selects (args := #[]) (mvT hZ (hw _ (List.mem_of_getElem? (i := 54) rfl)))) (mvT hZ (hw _ (List.mem_of_getElem? (i := 54) rfl))) (mvT hZ (hw _ (List.mem_of_getElem? (i := 53) rfl))) (by decide) (backOf (W := 0) (rm11 l Z a0 hw [] o vv mm pp n M P sz h0 n0 Z0 E_o F_members F_positions F_size V_mm V_pp ne_om ne_op ne_mp g_o g_mm g_pp hv) hZ (hw _ (List.mem_of_getElem? (i := 55) rfl)) (hw _ (List.mem_of_getElem? (i := 8) rfl)) (by decide) (by decide)) q119a q119c (g := (mkF m 44 #[.val (.ref o), .val (.ref a), .val (.int kk), .val (.int vv), .val (.int (0 : Int32))] [(.int vv), (.ref o)])) rfl (by rw [hml]; rfl) (Steps.refl _) (argsL := [(.int vv)]) (rest := []) (lenOf pd_3 rfl) rfl (by show 2 * 0 + _ ≤ _; exact Nat.le_of_eq rfl) (hb hby d10_44) (fun _ _ => ⟨rfl, e0, (by decide : 0 + 0 ≤ _), (by decide : 0 + 0 ≤ _)⟩)
          dsimp only [Pt.U, Pt.locs, Pt.cells, Pt.slots] at X119 l119 y119 z119 st119 hQ119
          replace l119 := l119.symm
          replace y119 := y119.symm
          replace z119 := z119.symm
          subst l119 y119 z119
          obtain ⟨rfl, N119q, e119⟩ := hQ119
          have N119 := Fr.app N0 N119q
          refine Goes.of (fun t k => st119.trans k) ?_
          show Goes _ _ _ _ _ _ _ (T119.setTop (mkF m 47 #[.val (.ref o), .val (.ref a), .val (.int kk), .val (.int vv), .val (.int (0 : Int32))] [(.int (f11 (P vv.toNatClampNeg)))]))
          refine Goes.of (fun t k => XS.iload X119.here hx rfl (hb hby d10_47) rfl k) ?_
          show Goes _ _ _ _ _ _ _ (T119.setTop (mkF m 49 #[.val (.ref o), .val (.ref a), .val (.int kk), .val (.int vv), .val (.int (0 : Int32))] [(.int (0 : Int32)), (.int (f11 (P vv.toNatClampNeg)))]))
          refine Goes.of (fun t k => XS.icmpNo X119.here hx rfl (hb hby d10_49) rfl (teq (own_c0 (fun q => by rcases hin.mp q with ⟨x, y⟩ | ⟨x, y⟩ | ⟨x, y⟩ <;> first | exact absurd x (by assumption) | exact absurd y (by assumption)))).2 k) ?_
          show Goes _ _ _ _ _ _ _ (T119.setTop (mkF m 52 #[.val (.ref o), .val (.ref a), .val (.int kk), .val (.int vv), .val (.int (0 : Int32))] []))
          refine Goes.of (fun t k => XS.iconst X119.here hx rfl (hb hby d10_52) k) ?_
          show Goes _ _ _ _ _ _ _ (T119.setTop (mkF m 53 #[.val (.ref o), .val (.ref a), .val (.int kk), .val (.int vv), .val (.int (0 : Int32))] [(.int (1 : Int32))]))
          refine Goes.of (fun t k => XS.goto X119.here hx rfl (pc0 := 53) (pc' := 57) rfl (hb hby d10_53) (by decide) (by decide) k) ?_
          show Goes _ _ _ _ _ _ _ (T119.setTop (mkF m 57 #[.val (.ref o), .val (.ref a), .val (.int kk), .val (.int vv), .val (.int (0 : Int32))] [(.int (1 : Int32))]))
          exact Goes.fin X119 hlk (v := some (.int (1 : Int32))) (fun h => by rw [Bd.returns] at h; cases h) (fun fs hr => retN X119 hx (t := .boolean) Bd.returns (by simp) (hb hby d10_57) hr) ⟨rfl, N119, e119⟩ (by decide) (by decide)
      · refine Goes.of (fun t k => XS.icmpYes X0.here hx rfl (pc0 := 25) (pc' := 39) rfl (hb hby d10_25) rfl (flt hc116).2.2.2 (by decide) (by decide) k) ?_
        show Goes _ _ _ _ _ _ _ (s₁.setTop (mkF m 39 #[.val (.ref o), .val (.ref a), .val (.int kk), .val (.int vv), .unset] []))
        refine Goes.of (fun t k => XS.iconst X0.here hx rfl (hb hby d10_39) k) ?_
        show Goes _ _ _ _ _ _ _ (s₁.setTop (mkF m 40 #[.val (.ref o), .val (.ref a), .val (.int kk), .val (.int vv), .unset] [(.int (0 : Int32))]))
        refine Goes.of (fun t k => XS.istore X0.here hx rfl (hb hby d10_40) rfl (l' := #[.val (.ref o), .val (.ref a), .val (.int kk), .val (.int vv), .val (.int (0 : Int32))]) rfl k) ?_
        show Goes _ _ _ _ _ _ _ (s₁.setTop (mkF m 42 #[.val (.ref o), .val (.ref a), .val (.int kk), .val (.int vv), .val (.int (0 : Int32))] []))
        refine Goes.of (fun t k => XS.aloadN X0.here hx rfl (hb hby d10_42) rfl rfl k) ?_
        show Goes _ _ _ _ _ _ _ (s₁.setTop (mkF m 43 #[.val (.ref o), .val (.ref a), .val (.int kk), .val (.int vv), .val (.int (0 : Int32))] [(.ref o)]))
        refine Goes.of (fun t k => XS.iloadN X0.here hx rfl (hb hby d10_43) rfl k) ?_
        show Goes _ _ _ _ _ _ _ (s₁.setTop (mkF m 44 #[.val (.ref o), .val (.ref a), .val (.int kk), .val (.int vv), .val (.int (0 : Int32))] [(.int vv), (.ref o)]))
        obtain ⟨cq120, kq120, q120a, q120b, q120c⟩ := isOf hZ e0 E_o
        obtain ⟨_, _, ⟨T120, L120, k120, n120⟩, -, X120, ⟨Lc120, hQ120, l120, y120, z120⟩, st120⟩ := X0.virtualBack hx (y := (⟨"com/example/slotwright/slotwright/problems/IndexSet", "contains", "(I)Z"⟩ : MethodName)) (z := (⟨"com/example/slotwright/slotwright/problems/IndexSet", "contains", "(I)Z"⟩ : MethodName)) hown (mvT hZ (hw _ (List.mem_of_getElem? (i := 51) rfl))) (mvT hZ (hw _ (List.mem_of_getElem? (i := 52) rfl))) (notFace_of_selects (args := #[]) (mvT hZ (hw _ (List.mem_of_getElem? (i := 54) rfl)))) (mvT hZ (hw _ (List.mem_of_getElem? (i := 54) rfl))) (mvT hZ (hw _ (List.mem_of_getElem? (i := 53) rfl))) (by decide) (backOf (W := 0) (rm11 l Z a0 hw [] o vv mm pp n M P sz h0 n0 Z0 E_o F_members F_positions F_size V_mm V_pp ne_om ne_op ne_mp g_o g_mm g_pp hv) hZ (hw _ (List.mem_of_getElem? (i := 55) rfl)) (hw _ (List.mem_of_getElem? (i := 8) rfl)) (by decide) (by decide)) q120a q120c (g := (mkF m 44 #[.val (.ref o), .val (.ref a), .val (.int kk), .val (.int vv), .val (.int (0 : Int32))] [(.int vv), (.ref o)])) rfl (by rw [hml]; rfl) (Steps.refl _) (argsL := [(.int vv)]) (rest := []) (lenOf pd_3 rfl) rfl (by show 2 * 0 + _ ≤ _; exact Nat.le_of_eq rfl) (hb hby d10_44) (fun _ _ => ⟨rfl, e0, (by decide : 0 + 0 ≤ _), (by decide : 0 + 0 ≤ _)⟩)
        dsimp only [Pt.U, Pt.locs, Pt.cells, Pt.slots] at X120 l120 y120 z120 st120 hQ120
        replace l120 := l120.symm
        replace y120 := y120.symm
        replace z120 := z120.symm
        subst l120 y120 z120
        obtain ⟨rfl, N120q, e120⟩ := hQ120
        have N120 := Fr.app N0 N120q
        refine Goes.of (fun t k => st120.trans k) ?_
        show Goes _ _ _ _ _ _ _ (T120.setTop (mkF m 47 #[.val (.ref o), .val (.ref a), .val (.int kk), .val (.int vv), .val (.int (0 : Int32))] [(.int (f11 (P vv.toNatClampNeg)))]))
        refine Goes.of (fun t k => XS.iload X120.here hx rfl (hb hby d10_47) rfl k) ?_
        show Goes _ _ _ _ _ _ _ (T120.setTop (mkF m 49 #[.val (.ref o), .val (.ref a), .val (.int kk), .val (.int vv), .val (.int (0 : Int32))] [(.int (0 : Int32)), (.int (f11 (P vv.toNatClampNeg)))]))
        refine Goes.of (fun t k => XS.icmpNo X120.here hx rfl (hb hby d10_49) rfl (teq (own_c0 (fun q => by rcases hin.mp q with ⟨x, y⟩ | ⟨x, y⟩ | ⟨x, y⟩ <;> first | exact absurd x (by assumption) | exact absurd y (by assumption)))).2 k) ?_
        show Goes _ _ _ _ _ _ _ (T120.setTop (mkF m 52 #[.val (.ref o), .val (.ref a), .val (.int kk), .val (.int vv), .val (.int (0 : Int32))] []))
        refine Goes.of (fun t k => XS.iconst X120.here hx rfl (hb hby d10_52) k) ?_
        show Goes _ _ _ _ _ _ _ (T120.setTop (mkF m 53 #[.val (.ref o), .val (.ref a), .val (.int kk), .val (.int vv), .val (.int (0 : Int32))] [(.int (1 : Int32))]))
        refine Goes.of (fun t k => XS.goto X120.here hx rfl (pc0 := 53) (pc' := 57) rfl (hb hby d10_53) (by decide) (by decide) k) ?_
        show Goes _ _ _ _ _ _ _ (T120.setTop (mkF m 57 #[.val (.ref o), .val (.ref a), .val (.int kk), .val (.int vv), .val (.int (0 : Int32))] [(.int (1 : Int32))]))
        exact Goes.fin X120 hlk (v := some (.int (1 : Int32))) (fun h => by rw [Bd.returns] at h; cases h) (fun fs hr => retN X120 hx (t := .boolean) Bd.returns (by simp) (hb hby d10_57) hr) ⟨rfl, N120, e120⟩ (by decide) (by decide)
def own_Perm (m : Nat → Int32) : Prop := (∀ i, i < 4 → 0 ≤ (m i).toInt ∧ (m i).toInt < 4) ∧ ∀ i j, i < 4 → j < 4 → m i = m j → i = j
def own_Inv (m M P : Nat → Int32) (k : Nat) : Prop := (∀ i, i < 4 → 0 ≤ (m i).toInt ∧ (m i).toInt < 4) ∧ (∀ i j, i < k → j < k → m i = m j → i = j) ∧ (∀ i, i < k → M i = m i) ∧ (∀ i, i < k → P (m i).toNatClampNeg = i.toInt32) ∧
  ∀ v, v < 4 → (∀ i, i < k → (m i).toNatClampNeg ≠ v) → P v = -1
theorem own_upd_eq {f : Nat → Int32} {i : Nat} {v : Int32} : upd f i v i = v := if_pos rfl
theorem own_upd_ne {f : Nat → Int32} {i j : Nat} {v : Int32} (h : j ≠ i) : upd f i v j = f j := if_neg h
theorem own_nat_inj {a b : Int32} (ha : 0 ≤ a.toInt) (hb : 0 ≤ b.toInt) (h : a.toNatClampNeg = b.toNatClampNeg) : a = b := by
  have := nat_of (own_nn ha); have := nat_of (own_nn hb)
  exact Int32.toInt_inj.mp (by omega)
theorem own_swap {f : Nat → Int32} (h : own_Perm f) {i j : Nat} (hi : i < 4) (hj : j < 4) : own_Perm (upd (upd f i (f j)) j (f i)) := by
  obtain ⟨R, J⟩ := h
  have val : ∀ x, x < 4 → ∃ y, y < 4 ∧ upd (upd f i (f j)) j (f i) x = f y ∧ (x = j → y = i) ∧ (x ≠ j → x = i → y = j) ∧ (x ≠ j → x ≠ i → y = x) := by
    intro x hx
    by_cases q : x = j
    · subst q; exact ⟨i, hi, own_upd_eq, fun _ => rfl, fun r => absurd rfl r, fun r => absurd rfl r⟩
    · by_cases r : x = i
      · subst r; exact ⟨j, hj, (own_upd_ne q).trans own_upd_eq, fun z => absurd z q, fun _ _ => rfl, fun _ z => absurd rfl z⟩
      · exact ⟨x, hx, (own_upd_ne q).trans (own_upd_ne r), fun z => absurd z q, fun _ z => absurd z r, fun _ _ => rfl⟩
  refine ⟨fun x hx => ?_, fun x y hx hy e => ?_⟩
  · obtain ⟨z, hz, e, -⟩ := val x hx
    rw [e]; exact R z hz
  · obtain ⟨a, ha, ea, a1, a2, a3⟩ := val x hx
    obtain ⟨b, hb, eb, b1, b2, b3⟩ := val y hy
    have ab := J a b ha hb (by rw [← ea, ← eb, e])
    omega
theorem own_add {m M P : Nat → Int32} {k : Nat} (p : own_Perm m) (I : own_Inv m M P k) (hk : k < 4) : own_Inv m (upd M k (m k)) (upd P (m k).toNatClampNeg k.toInt32) (k + 1) := by
  obtain ⟨R, J, A, B, D⟩ := I
  have nn : ∀ i, i < k → (m i).toNatClampNeg ≠ (m k).toNatClampNeg := fun i hi q => by
    have := p.2 i k (by omega) hk (own_nat_inj (R i (by omega)).1 (R k hk).1 q); omega
  refine ⟨R, fun i j hi hj e => p.2 i j (by omega) (by omega) e, fun i hi => ?_, fun i hi => ?_, fun v hv hn => ?_⟩
  · by_cases q : i = k
    · subst q; exact own_upd_eq
    · rw [own_upd_ne q]; exact A i (by omega)
  · by_cases q : i = k
    · subst q; exact own_upd_eq
    · rw [own_upd_ne (nn i (by omega))]; exact B i (by omega)
  · rw [own_upd_ne (fun q => hn k (by omega) q.symm)]
    exact D v hv fun i hi => hn i (by omega)
theorem own_rm {m M P : Nat → Int32} {k r : Nat} {ps ls : Int32} (I : own_Inv m M P (k + 1)) (hk : k < 4) (hr : r < k + 1) (hps : ps = P (m r).toNatClampNeg) (hls : ls = M k) :
    own_Inv (upd m r (m k)) (upd M ps.toNatClampNeg ls) (upd (upd P ls.toNatClampNeg ps) (m r).toNatClampNeg (-1)) k := by
  obtain ⟨R, J, A, B, D⟩ := I
  rw [A k (by omega)] at hls
  rw [B r hr] at hps
  have hpn : ps.toNatClampNeg = r := by rw [hps]; exact own_tn (len_toInt (by omega))
  rw [hpn, hls, hps]
  have inj : ∀ i j, i < k + 1 → j < k + 1 → i ≠ j → (m i).toNatClampNeg ≠ (m j).toNatClampNeg := fun i j hi hj hn q => hn (J i j hi hj (own_nat_inj (R i (by omega)).1 (R j (by omega)).1 q))
  refine ⟨fun i hi => ?_, fun i j hi hj e => ?_, fun i hi => ?_, fun i hi => ?_, fun v hv hn => ?_⟩
  · by_cases q : i = r
    · subst q; rw [own_upd_eq]; exact R k hk
    · rw [own_upd_ne q]; exact R i hi
  · by_cases q : i = r
    · subst q
      by_cases q2 : j = i
      · exact q2.symm
      · rw [own_upd_eq, own_upd_ne q2] at e
        have := J k j (by omega) (by omega) e; omega
    · rw [own_upd_ne q] at e
      by_cases q2 : j = r
      · subst q2; rw [own_upd_eq] at e
        have := J i k (by omega) (by omega) e; omega
      · rw [own_upd_ne q2] at e
        exact J i j (by omega) (by omega) e
  · by_cases q : i = r
    · subst q; rw [own_upd_eq, own_upd_eq]
    · rw [own_upd_ne q, own_upd_ne q]; exact A i (by omega)
  · by_cases q : i = r
    · subst q
      rw [own_upd_eq, own_upd_ne (inj k i (by omega) (by omega) (by omega)), own_upd_eq]
    · rw [own_upd_ne q, own_upd_ne (inj i r (by omega) hr q), own_upd_ne (inj i k (by omega) (by omega) (by omega))]
      exact B i (by omega)
  · by_cases q : v = (m r).toNatClampNeg
    · subst q; exact own_upd_eq
    · rw [own_upd_ne q]
      by_cases q2 : v = (m k).toNatClampNeg
      · exfalso
        by_cases q3 : r = k
        · subst q3; exact q q2
        · exact hn r (by omega) (by rw [own_upd_eq]; exact q2.symm)
      · rw [own_upd_ne q2]
        refine D v hv fun i hi z => ?_
        by_cases q3 : i = r
        · subst q3; exact q z.symm
        · by_cases q4 : i = k
          · subst q4; exact q2 z.symm
          · exact hn i (by omega) (by rw [own_upd_ne q3]; exact z)
theorem own_chk {m M P : Nat → Int32} {k : Nat} (I : own_Inv m M P k) (hk : k ≤ 3) {kk vv : Int32} (hkk : kk.toInt = k) (hv : 0 ≤ vv.toInt ∧ vv.toInt < 4) :
    (¬ P vv.toNatClampNeg < 0) ↔ ((0 : Int32) < kk ∧ m 0 = vv) ∨ ((1 : Int32) < kk ∧ m 1 = vv) ∨ ((2 : Int32) < kk ∧ m 2 = vv) := by
  obtain ⟨R, J, A, B, D⟩ := I
  have k0 : (0 : Int32).toInt = 0 := rfl
  have k1 : (1 : Int32).toInt = 1 := rfl
  have k2 : (2 : Int32).toInt = 2 := rfl
  have key : ∀ i, i < k → m i = vv → ¬ P vv.toNatClampNeg < 0 := fun i hi e => by
    have b := B i hi
    rw [e] at b
    rw [b]
    exact own_nn (by rw [len_toInt (by omega)]; omega)
  constructor
  · intro h
    by_cases a0 : 0 < k ∧ m 0 = vv
    · exact Or.inl ⟨own_ilt (by omega), a0.2⟩
    by_cases a1 : 1 < k ∧ m 1 = vv
    · exact Or.inr (Or.inl ⟨own_ilt (by omega), a1.2⟩)
    by_cases a2 : 2 < k ∧ m 2 = vv
    · exact Or.inr (Or.inr ⟨own_ilt (by omega), a2.2⟩)
    refine absurd ?_ h
    rw [D vv.toNatClampNeg (own_ltn hv.1 hv.2) (fun i hi q => ?_)]
    · decide
    · have e := own_nat_inj (R i (by omega)).1 hv.1 q
      have c : i = 0 ∨ i = 1 ∨ i = 2 := by omega
      rcases c with rfl | rfl | rfl
      · exact a0 ⟨hi, e⟩
      · exact a1 ⟨hi, e⟩
      · exact a2 ⟨hi, e⟩
  · rintro (⟨a, e⟩ | ⟨a, e⟩ | ⟨a, e⟩)
    · exact key 0 (by have := own_ltI a; omega) e
    · exact key 1 (by have := own_ltI a; omega) e
    · exact key 2 (by have := own_ltI a; omega) e
theorem own_n4 (u : Int32) : (1 : Int32) + (u &&& (3 : Int32)) = 1 ∨ (1 : Int32) + (u &&& (3 : Int32)) = 2 ∨ (1 : Int32) + (u &&& (3 : Int32)) = 3 ∨ (1 : Int32) + (u &&& (3 : Int32)) = 4 := by
  have m := c_and u 3 (by decide)
  have a := c_iadd 1 (u &&& 3)
  have r := rng32 (1 + (u &&& 3))
  rw [show (1 : Int32).toInt = 1 from rfl] at a
  rw [show (3 : Int32).toInt = 3 from rfl] at m
  simp only [← Int32.toInt_inj, Int32.reduceToInt]
  omega
theorem own_rem (u y : Int32) (hy : 0 < y.toInt) : 0 ≤ ((u &&& (2147483647 : Int32)) % y).toInt ∧ ((u &&& (2147483647 : Int32)) % y).toInt < y.toInt := by
  have m := c_and u 2147483647 (by decide)
  have k := (c_iremV (u &&& 2147483647) y).1 m.1 hy
  exact ⟨k.1, k.2.1⟩
theorem own_md (q : Int32) (k : Int32) (K : Int) (hk : k.toInt = K) (h0 : 0 ≤ q.toInt) (hK : 0 < K) : 0 ≤ (q % k).toInt ∧ (q % k).toInt < K := by
  rw [(c_irem q k K hk).1 h0]
  exact ⟨Int.emod_nonneg _ (by omega), Int.emod_lt_of_pos _ hK⟩
theorem own_dv (q : Int32) (k : Int32) (hk : 0 < k.toInt) (h1 : k ≠ -1) (h0 : 0 ≤ q.toInt) : 0 ≤ (q / k).toInt := by
  rw [(c_idiv q k k.toInt rfl h1).1 h0]
  exact Int.ediv_nonneg h0 (by omega)
theorem pd_4 : parseMethodDescriptor "([III)V" = some ⟨[(.array .int), .int, .int], none⟩ := by decide +kernel
theorem pd_5 : parseMethodDescriptor "(I)V" = some ⟨[.int], none⟩ := by decide +kernel
theorem pd_6 : parseMethodDescriptor "()I" = some ⟨[], some .int⟩ := by decide +kernel
theorem pd_7 : parseMethodDescriptor "(Lcom/example/slotwright/slotwright/problems/IndexSet;[III)Z" = some ⟨[(.object "com/example/slotwright/slotwright/problems/IndexSet"), (.array .int), .int, .int], some .boolean⟩ := by decide +kernel
theorem ef_0 (m : MethodId) (u0 : Int32) (u1 : Int32) (u2 : Int32) (u3 : Int32) (u4 : Int32) : entryFrame m #[(.int u0), (.int u1), (.int u2), (.int u3), (.int u4)] maxLocals = mkF m 0 #[.val (.int u0), .val (.int u1), .val (.int u2), .val (.int u3), .val (.int u4), .unset, .unset, .unset, .unset, .unset, .unset, .unset] [] := by first | (simp [entryFrame, mkF, argsToLocals, Value.category, maxLocals]; done) | rfl
def Q0 (n0 : Nat) (v : Option Value) (h : Heap) (L : List Loc) : Prop := v = some (.int 1) ∧ Fr n0 L
set_option maxRecDepth 65536 in
set_option maxHeartbeats 40000000 in
theorem rm0 (l : Launch) (Z : State) (a0 : Array Value) (hw : ∀ d ∈ tables_1, d.before a0 Z = true) (ws : List Jvm.Cond) (u0 : Int32) (u1 : Int32) (u2 : Int32) (u3 : Int32) (u4 : Int32) (h0 : Heap) (n0 : Nat) (Z0 : n0 ≤ h0.size) :
    MetFree l x (head1 (Jvm.Cond.code x code maxLocals ret :: ws) room_1) (fun ar' Ur => ar' = #[(.int u0), (.int u1), (.int u2), (.int u3), (.int u4)] ∧ Z.Warmed39 Ur.vm ∧ Ur.heap = h0) (fun _ _ _ _ _ => True) (fun _ Ur or' Us => ∃ v L, or' = .returned v ∧ Q0 n0 v Us.heap L ∧ FrameEnd Ur or' Us L room_1.cells room_1.slots) := by
  refine MetFree.of_bodySF (plainFor_of_name pn_0) hisR ?_
  intro p e s m args below meth c s₁ Bd hml0 hP hK
  obtain ⟨rfl, hZ, hh⟩ := hP
  have hx := Bd.exec
  have hby := Bd.bytes
  have hlk : meth.locks = false := BodyLoose.notSynchronized Bd
  have hml : c.maxLocals = 12 := hml0
  have hown : s.vm.findClass "com/example/slotwright/slotwright/problems/IndexSetRemovePinLaw" = some m.cls := findClass_of_methodNamed Bd.named
  have hnm := (name_of_methodNamed Bd.named Bd.method).1
  have X0 : Stand p l e room_1 s m #[(.int u0), (.int u1), (.int u2), (.int u3), (.int u4)] below meth c s₁ [] 0 0 := Stand.of_body Bd
  have e0 : s₁.heap = h0 := by rw [← hh, Bd.state]; rfl
  have N0 := Fr.nil n0
  show Goes p.tables e below s (Q0 n0) room_1.cells room_1.slots (s₁.setTop (entryFrame m #[(.int u0), (.int u1), (.int u2), (.int u3), (.int u4)] maxLocals))
  refine Goes.of (fun t k => castTop (ef_0 m u0 u1 u2 u3 u4) k) ?_
  show Goes _ _ _ _ _ _ _ (s₁.setTop (mkF m 0 #[.val (.int u0), .val (.int u1), .val (.int u2), .val (.int u3), .val (.int u4), .unset, .unset, .unset, .unset, .unset, .unset, .unset] []))
  refine Goes.of (fun t k => XS.iconst X0.here hx rfl (hb hby at_0) k) ?_
  show Goes _ _ _ _ _ _ _ (s₁.setTop (mkF m 1 #[.val (.int u0), .val (.int u1), .val (.int u2), .val (.int u3), .val (.int u4), .unset, .unset, .unset, .unset, .unset, .unset, .unset] [(.int (4 : Int32))]))
  obtain ⟨T121, h121, k121, X121, e121, E121, A121, Ea121, st121⟩ := newPE X0 hx hZ (hw _ (List.mem_of_getElem? (i := 0) rfl)) e0 (g := (mkF m 1 #[.val (.int u0), .val (.int u1), .val (.int u2), .val (.int u3), .val (.int u4), .unset, .unset, .unset, .unset, .unset, .unset, .unset] [(.int (4 : Int32))])) rfl (hb hby at_1) rfl (by decide) (cap := 4) (by decide) (by decide) (by decide) (by decide) (ad := "[I") (by decide)
  obtain ⟨b121, g121⟩ : ∃ z, z = h0.size := ⟨_, rfl⟩
  rw [← g121] at A121 Ea121 st121
  have V121 : AI Z h121 b121 .int 4 (fun _ => 0) := AI.new rfl rfl A121 (by decide) (by decide)
  have g_b121 : n0 ≤ b121 := Nat.le_trans Z0 (Nat.le_of_eq g121.symm)
  have Z121 : n0 ≤ h121.size := Nat.le_trans Z0 E121.1
  refine Goes.of st121 ?_
  show Goes _ _ _ _ _ _ _ (T121.setTop (mkF m 3 #[.val (.int u0), .val (.int u1), .val (.int u2), .val (.int u3), .val (.int u4), .unset, .unset, .unset, .unset, .unset, .unset, .unset] [(.ref b121)]))
  refine Goes.of (fun t k => XS.dup X121.here hx rfl (hb hby at_3) rfl rfl k) ?_
  show Goes _ _ _ _ _ _ _ (T121.setTop (mkF m 4 #[.val (.int u0), .val (.int u1), .val (.int u2), .val (.int u3), .val (.int u4), .unset, .unset, .unset, .unset, .unset, .unset, .unset] [(.ref b121), (.ref b121)]))
  refine Goes.of (fun t k => XS.iconst X121.here hx rfl (hb hby at_4) k) ?_
  show Goes _ _ _ _ _ _ _ (T121.setTop (mkF m 5 #[.val (.int u0), .val (.int u1), .val (.int u2), .val (.int u3), .val (.int u4), .unset, .unset, .unset, .unset, .unset, .unset, .unset] [(.int (0 : Int32)), (.ref b121), (.ref b121)]))
  refine Goes.of (fun t k => XS.iconst X121.here hx rfl (hb hby at_5) k) ?_
  show Goes _ _ _ _ _ _ _ (T121.setTop (mkF m 6 #[.val (.int u0), .val (.int u1), .val (.int u2), .val (.int u3), .val (.int u4), .unset, .unset, .unset, .unset, .unset, .unset, .unset] [(.int (0 : Int32)), (.int (0 : Int32)), (.ref b121), (.ref b121)]))
  obtain ⟨T122, h122, X122, e122, W122, V122, st122⟩ := putI X121 hx hZ e121 V121 (j := (0 : Int32)) (x := (0 : Int32)) (i := 0) (by decide) (by decide) (by decide) (g := (mkF m 6 #[.val (.int u0), .val (.int u1), .val (.int u2), .val (.int u3), .val (.int u4), .unset, .unset, .unset, .unset, .unset, .unset, .unset] [(.int (0 : Int32)), (.int (0 : Int32)), (.ref b121), (.ref b121)])) rfl rfl (hb hby at_6)
  have Z122 : n0 ≤ h122.size := Nat.le_trans Z121 (Keep.of_wr W122).1
  have N122 := Fr.snoc X122 N0 g_b121
  refine Goes.of st122 ?_
  show Goes _ _ _ _ _ _ _ (T122.setTop (mkF m 7 #[.val (.int u0), .val (.int u1), .val (.int u2), .val (.int u3), .val (.int u4), .unset, .unset, .unset, .unset, .unset, .unset, .unset] [(.ref b121)]))
  refine Goes.of (fun t k => XS.dup X122.here hx rfl (hb hby at_7) rfl rfl k) ?_
  show Goes _ _ _ _ _ _ _ (T122.setTop (mkF m 8 #[.val (.int u0), .val (.int u1), .val (.int u2), .val (.int u3), .val (.int u4), .unset, .unset, .unset, .unset, .unset, .unset, .unset] [(.ref b121), (.ref b121)]))
  refine Goes.of (fun t k => XS.iconst X122.here hx rfl (hb hby at_8) k) ?_
  show Goes _ _ _ _ _ _ _ (T122.setTop (mkF m 9 #[.val (.int u0), .val (.int u1), .val (.int u2), .val (.int u3), .val (.int u4), .unset, .unset, .unset, .unset, .unset, .unset, .unset] [(.int (1 : Int32)), (.ref b121), (.ref b121)]))
  refine Goes.of (fun t k => XS.iconst X122.here hx rfl (hb hby at_9) k) ?_
  show Goes _ _ _ _ _ _ _ (T122.setTop (mkF m 10 #[.val (.int u0), .val (.int u1), .val (.int u2), .val (.int u3), .val (.int u4), .unset, .unset, .unset, .unset, .unset, .unset, .unset] [(.int (1 : Int32)), (.int (1 : Int32)), (.ref b121), (.ref b121)]))
  obtain ⟨T123, h123, X123, e123, W123, V123, st123⟩ := putI X122 hx hZ e122 V122 (j := (1 : Int32)) (x := (1 : Int32)) (i := 1) (by decide) (by decide) (by decide) (g := (mkF m 10 #[.val (.int u0), .val (.int u1), .val (.int u2), .val (.int u3), .val (.int u4), .unset, .unset, .unset, .unset, .unset, .unset, .unset] [(.int (1 : Int32)), (.int (1 : Int32)), (.ref b121), (.ref b121)])) rfl rfl (hb hby at_10)
  have Z123 : n0 ≤ h123.size := Nat.le_trans Z122 (Keep.of_wr W123).1
  have N123 := Fr.snoc X123 N122 g_b121
  refine Goes.of st123 ?_
  show Goes _ _ _ _ _ _ _ (T123.setTop (mkF m 11 #[.val (.int u0), .val (.int u1), .val (.int u2), .val (.int u3), .val (.int u4), .unset, .unset, .unset, .unset, .unset, .unset, .unset] [(.ref b121)]))
  refine Goes.of (fun t k => XS.dup X123.here hx rfl (hb hby at_11) rfl rfl k) ?_
  show Goes _ _ _ _ _ _ _ (T123.setTop (mkF m 12 #[.val (.int u0), .val (.int u1), .val (.int u2), .val (.int u3), .val (.int u4), .unset, .unset, .unset, .unset, .unset, .unset, .unset] [(.ref b121), (.ref b121)]))
  refine Goes.of (fun t k => XS.iconst X123.here hx rfl (hb hby at_12) k) ?_
  show Goes _ _ _ _ _ _ _ (T123.setTop (mkF m 13 #[.val (.int u0), .val (.int u1), .val (.int u2), .val (.int u3), .val (.int u4), .unset, .unset, .unset, .unset, .unset, .unset, .unset] [(.int (2 : Int32)), (.ref b121), (.ref b121)]))
  refine Goes.of (fun t k => XS.iconst X123.here hx rfl (hb hby at_13) k) ?_
  show Goes _ _ _ _ _ _ _ (T123.setTop (mkF m 14 #[.val (.int u0), .val (.int u1), .val (.int u2), .val (.int u3), .val (.int u4), .unset, .unset, .unset, .unset, .unset, .unset, .unset] [(.int (2 : Int32)), (.int (2 : Int32)), (.ref b121), (.ref b121)]))
  obtain ⟨T124, h124, X124, e124, W124, V124, st124⟩ := putI X123 hx hZ e123 V123 (j := (2 : Int32)) (x := (2 : Int32)) (i := 2) (by decide) (by decide) (by decide) (g := (mkF m 14 #[.val (.int u0), .val (.int u1), .val (.int u2), .val (.int u3), .val (.int u4), .unset, .unset, .unset, .unset, .unset, .unset, .unset] [(.int (2 : Int32)), (.int (2 : Int32)), (.ref b121), (.ref b121)])) rfl rfl (hb hby at_14)
  have Z124 : n0 ≤ h124.size := Nat.le_trans Z123 (Keep.of_wr W124).1
  have N124 := Fr.snoc X124 N123 g_b121
  refine Goes.of st124 ?_
  show Goes _ _ _ _ _ _ _ (T124.setTop (mkF m 15 #[.val (.int u0), .val (.int u1), .val (.int u2), .val (.int u3), .val (.int u4), .unset, .unset, .unset, .unset, .unset, .unset, .unset] [(.ref b121)]))
  refine Goes.of (fun t k => XS.dup X124.here hx rfl (hb hby at_15) rfl rfl k) ?_
  show Goes _ _ _ _ _ _ _ (T124.setTop (mkF m 16 #[.val (.int u0), .val (.int u1), .val (.int u2), .val (.int u3), .val (.int u4), .unset, .unset, .unset, .unset, .unset, .unset, .unset] [(.ref b121), (.ref b121)]))
  refine Goes.of (fun t k => XS.iconst X124.here hx rfl (hb hby at_16) k) ?_
  show Goes _ _ _ _ _ _ _ (T124.setTop (mkF m 17 #[.val (.int u0), .val (.int u1), .val (.int u2), .val (.int u3), .val (.int u4), .unset, .unset, .unset, .unset, .unset, .unset, .unset] [(.int (3 : Int32)), (.ref b121), (.ref b121)]))
  refine Goes.of (fun t k => XS.iconst X124.here hx rfl (hb hby at_17) k) ?_
  show Goes _ _ _ _ _ _ _ (T124.setTop (mkF m 18 #[.val (.int u0), .val (.int u1), .val (.int u2), .val (.int u3), .val (.int u4), .unset, .unset, .unset, .unset, .unset, .unset, .unset] [(.int (3 : Int32)), (.int (3 : Int32)), (.ref b121), (.ref b121)]))
  obtain ⟨T125, h125, X125, e125, W125, V125, st125⟩ := putI X124 hx hZ e124 V124 (j := (3 : Int32)) (x := (3 : Int32)) (i := 3) (by decide) (by decide) (by decide) (g := (mkF m 18 #[.val (.int u0), .val (.int u1), .val (.int u2), .val (.int u3), .val (.int u4), .unset, .unset, .unset, .unset, .unset, .unset, .unset] [(.int (3 : Int32)), (.int (3 : Int32)), (.ref b121), (.ref b121)])) rfl rfl (hb hby at_18)
  have Z125 : n0 ≤ h125.size := Nat.le_trans Z124 (Keep.of_wr W125).1
  have N125 := Fr.snoc X125 N124 g_b121
  refine Goes.of st125 ?_
  show Goes _ _ _ _ _ _ _ (T125.setTop (mkF m 19 #[.val (.int u0), .val (.int u1), .val (.int u2), .val (.int u3), .val (.int u4), .unset, .unset, .unset, .unset, .unset, .unset, .unset] [(.ref b121)]))
  refine Goes.of (fun t k => XS.astore X125.here hx rfl (hb hby at_19) rfl rfl (l' := #[.val (.int u0), .val (.int u1), .val (.int u2), .val (.int u3), .val (.int u4), .val (.ref b121), .unset, .unset, .unset, .unset, .unset, .unset]) rfl k) ?_
  show Goes _ _ _ _ _ _ _ (T125.setTop (mkF m 21 #[.val (.int u0), .val (.int u1), .val (.int u2), .val (.int u3), .val (.int u4), .val (.ref b121), .unset, .unset, .unset, .unset, .unset, .unset] []))
  refine Goes.of (fun t k => XS.iloadN X125.here hx rfl (hb hby at_21) rfl k) ?_
  show Goes _ _ _ _ _ _ _ (T125.setTop (mkF m 22 #[.val (.int u0), .val (.int u1), .val (.int u2), .val (.int u3), .val (.int u4), .val (.ref b121), .unset, .unset, .unset, .unset, .unset, .unset] [(.int u0)]))
  refine Goes.of (fun t k => X125.ldcInt hx hown (mvT hZ (hw _ (List.mem_of_getElem? (i := 1) rfl))) (g := (mkF m 22 #[.val (.int u0), .val (.int u1), .val (.int u2), .val (.int u3), .val (.int u4), .val (.ref b121), .unset, .unset, .unset, .unset, .unset, .unset] [(.int u0)])) rfl (hb hby at_22) t k) ?_
  show Goes _ _ _ _ _ _ _ (T125.setTop (mkF m 24 #[.val (.int u0), .val (.int u1), .val (.int u2), .val (.int u3), .val (.int u4), .val (.ref b121), .unset, .unset, .unset, .unset, .unset, .unset] [(.int (2147483647 : Int32)), (.int u0)]))
  refine Goes.of (fun t k => XS.iand X125.here hx rfl (hb hby at_24) rfl k) ?_
  show Goes _ _ _ _ _ _ _ (T125.setTop (mkF m 25 #[.val (.int u0), .val (.int u1), .val (.int u2), .val (.int u3), .val (.int u4), .val (.ref b121), .unset, .unset, .unset, .unset, .unset, .unset] [(.int (u0 &&& (2147483647 : Int32)))]))
  refine Goes.of (fun t k => XS.bipush X125.here hx rfl (hb hby at_25) k) ?_
  show Goes _ _ _ _ _ _ _ (T125.setTop (mkF m 27 #[.val (.int u0), .val (.int u1), .val (.int u2), .val (.int u3), .val (.int u4), .val (.ref b121), .unset, .unset, .unset, .unset, .unset, .unset] [(.int (24 : Int32)), (.int (u0 &&& (2147483647 : Int32)))]))
  refine Goes.of (fun t k => iremM X125 hx (g := (mkF m 27 #[.val (.int u0), .val (.int u1), .val (.int u2), .val (.int u3), .val (.int u4), .val (.ref b121), .unset, .unset, .unset, .unset, .unset, .unset] [(.int (24 : Int32)), (.int (u0 &&& (2147483647 : Int32)))])) rfl (hb hby at_27) rfl (by decide) k) ?_
  show Goes _ _ _ _ _ _ _ (T125.setTop (mkF m 28 #[.val (.int u0), .val (.int u1), .val (.int u2), .val (.int u3), .val (.int u4), .val (.ref b121), .unset, .unset, .unset, .unset, .unset, .unset] [(.int ((u0 &&& (2147483647 : Int32)) % (24 : Int32)))]))
  refine Goes.of (fun t k => XS.istore X125.here hx rfl (hb hby at_28) rfl (l' := #[.val (.int u0), .val (.int u1), .val (.int u2), .val (.int u3), .val (.int u4), .val (.ref b121), .val (.int ((u0 &&& (2147483647 : Int32)) % (24 : Int32))), .unset, .unset, .unset, .unset, .unset]) rfl k) ?_
  show Goes _ _ _ _ _ _ _ (T125.setTop (mkF m 30 #[.val (.int u0), .val (.int u1), .val (.int u2), .val (.int u3), .val (.int u4), .val (.ref b121), .val (.int ((u0 &&& (2147483647 : Int32)) % (24 : Int32))), .unset, .unset, .unset, .unset, .unset] []))
  obtain ⟨qq, hy_qq⟩ : ∃ z, z = ((u0 &&& (2147483647 : Int32)) % (24 : Int32)) := ⟨_, rfl⟩
  rw [← hy_qq]
  show Goes _ _ _ _ _ _ _ (T125.setTop (mkF m 30 #[.val (.int u0), .val (.int u1), .val (.int u2), .val (.int u3), .val (.int u4), .val (.ref b121), .val (.int qq), .unset, .unset, .unset, .unset, .unset] []))
  have hq := own_rem u0 24 (by decide)
  rw [← hy_qq, show (24 : Int32).toInt = 24 from rfl] at hq
  obtain ⟨m0, hf_m0⟩ : ∃ f : Nat → Int32, f = (upd (upd (upd (upd (fun _ => 0) 0 (0 : Int32)) 1 (1 : Int32)) 2 (2 : Int32)) 3 (3 : Int32)) := ⟨_, rfl⟩
  rw [← hf_m0] at V125
  have hp0 : own_Perm m0 := by
    rw [hf_m0]
    refine ⟨fun i hi => ?_, fun i j hi hj e => ?_⟩
    · have c : i = 0 ∨ i = 1 ∨ i = 2 ∨ i = 3 := by omega
      rcases c with rfl | rfl | rfl | rfl <;> decide
    · have c : i = 0 ∨ i = 1 ∨ i = 2 ∨ i = 3 := by omega
      have d : j = 0 ∨ j = 1 ∨ j = 2 ∨ j = 3 := by omega
      rcases c with rfl | rfl | rfl | rfl <;> rcases d with rfl | rfl | rfl | rfl <;> first | rfl | exact absurd e (by decide)
  have hs1 := own_md qq 4 4 rfl hq.1 (by decide)
  have hs2 := own_md (qq / 4) 3 3 rfl (own_dv qq 4 (by decide) (by decide) hq.1) (by decide)
  have hs3 := own_md (qq / 12) 2 2 rfl (own_dv qq 12 (by decide) (by decide) hq.1) (by decide)
  refine Goes.of (fun t k => XS.aload X125.here hx rfl (hb hby at_30) rfl rfl k) ?_
  show Goes _ _ _ _ _ _ _ (T125.setTop (mkF m 32 #[.val (.int u0), .val (.int u1), .val (.int u2), .val (.int u3), .val (.int u4), .val (.ref b121), .val (.int qq), .unset, .unset, .unset, .unset, .unset] [(.ref b121)]))
  refine Goes.of (fun t k => XS.iconst X125.here hx rfl (hb hby at_32) k) ?_
  show Goes _ _ _ _ _ _ _ (T125.setTop (mkF m 33 #[.val (.int u0), .val (.int u1), .val (.int u2), .val (.int u3), .val (.int u4), .val (.ref b121), .val (.int qq), .unset, .unset, .unset, .unset, .unset] [(.int (3 : Int32)), (.ref b121)]))
  refine Goes.of (fun t k => XS.iload X125.here hx rfl (hb hby at_33) rfl k) ?_
  show Goes _ _ _ _ _ _ _ (T125.setTop (mkF m 35 #[.val (.int u0), .val (.int u1), .val (.int u2), .val (.int u3), .val (.int u4), .val (.ref b121), .val (.int qq), .unset, .unset, .unset, .unset, .unset] [(.int qq), (.int (3 : Int32)), (.ref b121)]))
  refine Goes.of (fun t k => XS.iconst X125.here hx rfl (hb hby at_35) k) ?_
  show Goes _ _ _ _ _ _ _ (T125.setTop (mkF m 36 #[.val (.int u0), .val (.int u1), .val (.int u2), .val (.int u3), .val (.int u4), .val (.ref b121), .val (.int qq), .unset, .unset, .unset, .unset, .unset] [(.int (4 : Int32)), (.int qq), (.int (3 : Int32)), (.ref b121)]))
  refine Goes.of (fun t k => iremM X125 hx (g := (mkF m 36 #[.val (.int u0), .val (.int u1), .val (.int u2), .val (.int u3), .val (.int u4), .val (.ref b121), .val (.int qq), .unset, .unset, .unset, .unset, .unset] [(.int (4 : Int32)), (.int qq), (.int (3 : Int32)), (.ref b121)])) rfl (hb hby at_36) rfl (by decide) k) ?_
  show Goes _ _ _ _ _ _ _ (T125.setTop (mkF m 37 #[.val (.int u0), .val (.int u1), .val (.int u2), .val (.int u3), .val (.int u4), .val (.ref b121), .val (.int qq), .unset, .unset, .unset, .unset, .unset] [(.int (qq % (4 : Int32))), (.int (3 : Int32)), (.ref b121)]))
  obtain ⟨_, _, ⟨T126, L126, k126, n126⟩, -, X126, ⟨Lc126, hQ126, l126, y126, z126⟩, st126⟩ := Jvm.LawKit.callS X125 hx (y := (⟨"com/example/slotwright/slotwright/problems/IndexSetRemovePinLaw", "swap", "([III)V"⟩ : MethodName)) hown (mvT hZ (hw _ (List.mem_of_getElem? (i := 2) rfl))) (mvT hZ (hw _ (List.mem_of_getElem? (i := 3) rfl))) (mvT hZ (hw _ (List.mem_of_getElem? (i := 4) rfl))) (mvT hZ (hw _ (List.mem_of_getElem? (i := 5) rfl))) (by decide) (backOf (W := 0) (rm1 l Z a0 hw [] b121 (3 : Int32) (qq % (4 : Int32)) 4 m0 h125 n0 Z125 V125 g_b121 ⟨by decide, by decide⟩ ⟨hs1.1, hs1.2⟩) hZ (hw _ (List.mem_of_getElem? (i := 5) rfl)) (hw _ (List.mem_of_getElem? (i := 4) rfl)) (by decide) (by decide)) (g := (mkF m 37 #[.val (.int u0), .val (.int u1), .val (.int u2), .val (.int u3), .val (.int u4), .val (.ref b121), .val (.int qq), .unset, .unset, .unset, .unset, .unset] [(.int (qq % (4 : Int32))), (.int (3 : Int32)), (.ref b121)])) rfl (by rw [hml]; rfl) (argsL := [(.ref b121), (.int (3 : Int32)), (.int (qq % (4 : Int32)))]) (rest := []) (lenOf pd_4 rfl) rfl (by show 2 * 0 + _ ≤ _; exact Nat.le_of_eq rfl) (hb hby at_37) (fun _ _ => ⟨rfl, e125, (by decide : 1 + 0 ≤ _), (by decide : 4 + 0 ≤ _)⟩)
  dsimp only [Pt.U, Pt.locs, Pt.cells, Pt.slots] at X126 l126 y126 z126 st126 hQ126
  replace l126 := l126.symm
  replace y126 := y126.symm
  replace z126 := z126.symm
  subst l126 y126 z126
  obtain ⟨rfl, N126q, K126, V126⟩ := hQ126
  have Z126 : n0 ≤ T126.heap.size := Nat.le_trans Z125 K126.1
  have N126 := Fr.app N125 N126q
  refine Goes.of st126 ?_
  show Goes _ _ _ _ _ _ _ (T126.setTop (mkF m 40 #[.val (.int u0), .val (.int u1), .val (.int u2), .val (.int u3), .val (.int u4), .val (.ref b121), .val (.int qq), .unset, .unset, .unset, .unset, .unset] []))
  obtain ⟨m1, hf_m1⟩ : ∃ f : Nat → Int32, f = (upd (upd m0 (3 : Int32).toNatClampNeg (m0 (qq % (4 : Int32)).toNatClampNeg)) (qq % (4 : Int32)).toNatClampNeg (m0 (3 : Int32).toNatClampNeg)) := ⟨_, rfl⟩
  rw [← hf_m1] at V126
  have hp1 : own_Perm m1 := by rw [hf_m1]; exact own_swap hp0 (by decide) (own_ltn (n := 4) hs1.1 (by omega))
  refine Goes.of (fun t k => XS.aload X126.here hx rfl (hb hby at_40) rfl rfl k) ?_
  show Goes _ _ _ _ _ _ _ (T126.setTop (mkF m 42 #[.val (.int u0), .val (.int u1), .val (.int u2), .val (.int u3), .val (.int u4), .val (.ref b121), .val (.int qq), .unset, .unset, .unset, .unset, .unset] [(.ref b121)]))
  refine Goes.of (fun t k => XS.iconst X126.here hx rfl (hb hby at_42) k) ?_
  show Goes _ _ _ _ _ _ _ (T126.setTop (mkF m 43 #[.val (.int u0), .val (.int u1), .val (.int u2), .val (.int u3), .val (.int u4), .val (.ref b121), .val (.int qq), .unset, .unset, .unset, .unset, .unset] [(.int (2 : Int32)), (.ref b121)]))
  refine Goes.of (fun t k => XS.iload X126.here hx rfl (hb hby at_43) rfl k) ?_
  show Goes _ _ _ _ _ _ _ (T126.setTop (mkF m 45 #[.val (.int u0), .val (.int u1), .val (.int u2), .val (.int u3), .val (.int u4), .val (.ref b121), .val (.int qq), .unset, .unset, .unset, .unset, .unset] [(.int qq), (.int (2 : Int32)), (.ref b121)]))
  refine Goes.of (fun t k => XS.iconst X126.here hx rfl (hb hby at_45) k) ?_
  show Goes _ _ _ _ _ _ _ (T126.setTop (mkF m 46 #[.val (.int u0), .val (.int u1), .val (.int u2), .val (.int u3), .val (.int u4), .val (.ref b121), .val (.int qq), .unset, .unset, .unset, .unset, .unset] [(.int (4 : Int32)), (.int qq), (.int (2 : Int32)), (.ref b121)]))
  refine Goes.of (fun t k => XS.idiv X126.here hx rfl (hb hby at_46) rfl (by decide) k) ?_
  show Goes _ _ _ _ _ _ _ (T126.setTop (mkF m 47 #[.val (.int u0), .val (.int u1), .val (.int u2), .val (.int u3), .val (.int u4), .val (.ref b121), .val (.int qq), .unset, .unset, .unset, .unset, .unset] [(.int (qq / (4 : Int32))), (.int (2 : Int32)), (.ref b121)]))
  refine Goes.of (fun t k => XS.iconst X126.here hx rfl (hb hby at_47) k) ?_
  show Goes _ _ _ _ _ _ _ (T126.setTop (mkF m 48 #[.val (.int u0), .val (.int u1), .val (.int u2), .val (.int u3), .val (.int u4), .val (.ref b121), .val (.int qq), .unset, .unset, .unset, .unset, .unset] [(.int (3 : Int32)), (.int (qq / (4 : Int32))), (.int (2 : Int32)), (.ref b121)]))
  refine Goes.of (fun t k => iremM X126 hx (g := (mkF m 48 #[.val (.int u0), .val (.int u1), .val (.int u2), .val (.int u3), .val (.int u4), .val (.ref b121), .val (.int qq), .unset, .unset, .unset, .unset, .unset] [(.int (3 : Int32)), (.int (qq / (4 : Int32))), (.int (2 : Int32)), (.ref b121)])) rfl (hb hby at_48) rfl (by decide) k) ?_
  show Goes _ _ _ _ _ _ _ (T126.setTop (mkF m 49 #[.val (.int u0), .val (.int u1), .val (.int u2), .val (.int u3), .val (.int u4), .val (.ref b121), .val (.int qq), .unset, .unset, .unset, .unset, .unset] [(.int ((qq / (4 : Int32)) % (3 : Int32))), (.int (2 : Int32)), (.ref b121)]))
  obtain ⟨_, _, ⟨T127, L127, k127, n127⟩, -, X127, ⟨Lc127, hQ127, l127, y127, z127⟩, st127⟩ := Jvm.LawKit.callS X126 hx (y := (⟨"com/example/slotwright/slotwright/problems/IndexSetRemovePinLaw", "swap", "([III)V"⟩ : MethodName)) hown (mvT hZ (hw _ (List.mem_of_getElem? (i := 2) rfl))) (mvT hZ (hw _ (List.mem_of_getElem? (i := 3) rfl))) (mvT hZ (hw _ (List.mem_of_getElem? (i := 4) rfl))) (mvT hZ (hw _ (List.mem_of_getElem? (i := 5) rfl))) (by decide) (backOf (W := 0) (rm1 l Z a0 hw [] b121 (2 : Int32) ((qq / (4 : Int32)) % (3 : Int32)) 4 m1 T126.heap n0 Z126 V126 g_b121 ⟨by decide, by decide⟩ ⟨hs2.1, by omega⟩) hZ (hw _ (List.mem_of_getElem? (i := 5) rfl)) (hw _ (List.mem_of_getElem? (i := 4) rfl)) (by decide) (by decide)) (g := (mkF m 49 #[.val (.int u0), .val (.int u1), .val (.int u2), .val (.int u3), .val (.int u4), .val (.ref b121), .val (.int qq), .unset, .unset, .unset, .unset, .unset] [(.int ((qq / (4 : Int32)) % (3 : Int32))), (.int (2 : Int32)), (.ref b121)])) rfl (by rw [hml]; rfl) (argsL := [(.ref b121), (.int (2 : Int32)), (.int ((qq / (4 : Int32)) % (3 : Int32)))]) (rest := []) (lenOf pd_4 rfl) rfl (by show 2 * 0 + _ ≤ _; exact Nat.le_of_eq rfl) (hb hby at_49) (fun _ _ => ⟨rfl, rfl, (by decide : 1 + 0 ≤ _), (by decide : 4 + 0 ≤ _)⟩)
  dsimp only [Pt.U, Pt.locs, Pt.cells, Pt.slots] at X127 l127 y127 z127 st127 hQ127
  replace l127 := l127.symm
  replace y127 := y127.symm
  replace z127 := z127.symm
  subst l127 y127 z127
  obtain ⟨rfl, N127q, K127, V127⟩ := hQ127
  have Z127 : n0 ≤ T127.heap.size := Nat.le_trans Z126 K127.1
  have N127 := Fr.app N126 N127q
  refine Goes.of st127 ?_
  show Goes _ _ _ _ _ _ _ (T127.setTop (mkF m 52 #[.val (.int u0), .val (.int u1), .val (.int u2), .val (.int u3), .val (.int u4), .val (.ref b121), .val (.int qq), .unset, .unset, .unset, .unset, .unset] []))
  obtain ⟨m2, hf_m2⟩ : ∃ f : Nat → Int32, f = (upd (upd m1 (2 : Int32).toNatClampNeg (m1 ((qq / (4 : Int32)) % (3 : Int32)).toNatClampNeg)) ((qq / (4 : Int32)) % (3 : Int32)).toNatClampNeg (m1 (2 : Int32).toNatClampNeg)) := ⟨_, rfl⟩
  rw [← hf_m2] at V127
  have hp2 : own_Perm m2 := by rw [hf_m2]; exact own_swap hp1 (by decide) (own_ltn (n := 4) hs2.1 (by omega))
  refine Goes.of (fun t k => XS.aload X127.here hx rfl (hb hby at_52) rfl rfl k) ?_
  show Goes _ _ _ _ _ _ _ (T127.setTop (mkF m 54 #[.val (.int u0), .val (.int u1), .val (.int u2), .val (.int u3), .val (.int u4), .val (.ref b121), .val (.int qq), .unset, .unset, .unset, .unset, .unset] [(.ref b121)]))
  refine Goes.of (fun t k => XS.iconst X127.here hx rfl (hb hby at_54) k) ?_
  show Goes _ _ _ _ _ _ _ (T127.setTop (mkF m 55 #[.val (.int u0), .val (.int u1), .val (.int u2), .val (.int u3), .val (.int u4), .val (.ref b121), .val (.int qq), .unset, .unset, .unset, .unset, .unset] [(.int (1 : Int32)), (.ref b121)]))
  refine Goes.of (fun t k => XS.iload X127.here hx rfl (hb hby at_55) rfl k) ?_
  show Goes _ _ _ _ _ _ _ (T127.setTop (mkF m 57 #[.val (.int u0), .val (.int u1), .val (.int u2), .val (.int u3), .val (.int u4), .val (.ref b121), .val (.int qq), .unset, .unset, .unset, .unset, .unset] [(.int qq), (.int (1 : Int32)), (.ref b121)]))
  refine Goes.of (fun t k => XS.bipush X127.here hx rfl (hb hby at_57) k) ?_
  show Goes _ _ _ _ _ _ _ (T127.setTop (mkF m 59 #[.val (.int u0), .val (.int u1), .val (.int u2), .val (.int u3), .val (.int u4), .val (.ref b121), .val (.int qq), .unset, .unset, .unset, .unset, .unset] [(.int (12 : Int32)), (.int qq), (.int (1 : Int32)), (.ref b121)]))
  refine Goes.of (fun t k => XS.idiv X127.here hx rfl (hb hby at_59) rfl (by decide) k) ?_
  show Goes _ _ _ _ _ _ _ (T127.setTop (mkF m 60 #[.val (.int u0), .val (.int u1), .val (.int u2), .val (.int u3), .val (.int u4), .val (.ref b121), .val (.int qq), .unset, .unset, .unset, .unset, .unset] [(.int (qq / (12 : Int32))), (.int (1 : Int32)), (.ref b121)]))
  refine Goes.of (fun t k => XS.iconst X127.here hx rfl (hb hby at_60) k) ?_
  show Goes _ _ _ _ _ _ _ (T127.setTop (mkF m 61 #[.val (.int u0), .val (.int u1), .val (.int u2), .val (.int u3), .val (.int u4), .val (.ref b121), .val (.int qq), .unset, .unset, .unset, .unset, .unset] [(.int (2 : Int32)), (.int (qq / (12 : Int32))), (.int (1 : Int32)), (.ref b121)]))
  refine Goes.of (fun t k => iremM X127 hx (g := (mkF m 61 #[.val (.int u0), .val (.int u1), .val (.int u2), .val (.int u3), .val (.int u4), .val (.ref b121), .val (.int qq), .unset, .unset, .unset, .unset, .unset] [(.int (2 : Int32)), (.int (qq / (12 : Int32))), (.int (1 : Int32)), (.ref b121)])) rfl (hb hby at_61) rfl (by decide) k) ?_
  show Goes _ _ _ _ _ _ _ (T127.setTop (mkF m 62 #[.val (.int u0), .val (.int u1), .val (.int u2), .val (.int u3), .val (.int u4), .val (.ref b121), .val (.int qq), .unset, .unset, .unset, .unset, .unset] [(.int ((qq / (12 : Int32)) % (2 : Int32))), (.int (1 : Int32)), (.ref b121)]))
  obtain ⟨_, _, ⟨T128, L128, k128, n128⟩, -, X128, ⟨Lc128, hQ128, l128, y128, z128⟩, st128⟩ := Jvm.LawKit.callS X127 hx (y := (⟨"com/example/slotwright/slotwright/problems/IndexSetRemovePinLaw", "swap", "([III)V"⟩ : MethodName)) hown (mvT hZ (hw _ (List.mem_of_getElem? (i := 2) rfl))) (mvT hZ (hw _ (List.mem_of_getElem? (i := 3) rfl))) (mvT hZ (hw _ (List.mem_of_getElem? (i := 4) rfl))) (mvT hZ (hw _ (List.mem_of_getElem? (i := 5) rfl))) (by decide) (backOf (W := 0) (rm1 l Z a0 hw [] b121 (1 : Int32) ((qq / (12 : Int32)) % (2 : Int32)) 4 m2 T127.heap n0 Z127 V127 g_b121 ⟨by decide, by decide⟩ ⟨hs3.1, by omega⟩) hZ (hw _ (List.mem_of_getElem? (i := 5) rfl)) (hw _ (List.mem_of_getElem? (i := 4) rfl)) (by decide) (by decide)) (g := (mkF m 62 #[.val (.int u0), .val (.int u1), .val (.int u2), .val (.int u3), .val (.int u4), .val (.ref b121), .val (.int qq), .unset, .unset, .unset, .unset, .unset] [(.int ((qq / (12 : Int32)) % (2 : Int32))), (.int (1 : Int32)), (.ref b121)])) rfl (by rw [hml]; rfl) (argsL := [(.ref b121), (.int (1 : Int32)), (.int ((qq / (12 : Int32)) % (2 : Int32)))]) (rest := []) (lenOf pd_4 rfl) rfl (by show 2 * 0 + _ ≤ _; exact Nat.le_of_eq rfl) (hb hby at_62) (fun _ _ => ⟨rfl, rfl, (by decide : 1 + 0 ≤ _), (by decide : 4 + 0 ≤ _)⟩)
  dsimp only [Pt.U, Pt.locs, Pt.cells, Pt.slots] at X128 l128 y128 z128 st128 hQ128
  replace l128 := l128.symm
  replace y128 := y128.symm
  replace z128 := z128.symm
  subst l128 y128 z128
  obtain ⟨rfl, N128q, K128, V128⟩ := hQ128
  have Z128 : n0 ≤ T128.heap.size := Nat.le_trans Z127 K128.1
  have N128 := Fr.app N127 N128q
  refine Goes.of st128 ?_
  show Goes _ _ _ _ _ _ _ (T128.setTop (mkF m 65 #[.val (.int u0), .val (.int u1), .val (.int u2), .val (.int u3), .val (.int u4), .val (.ref b121), .val (.int qq), .unset, .unset, .unset, .unset, .unset] []))
  obtain ⟨m3, hf_m3⟩ : ∃ f : Nat → Int32, f = (upd (upd m2 (1 : Int32).toNatClampNeg (m2 ((qq / (12 : Int32)) % (2 : Int32)).toNatClampNeg)) ((qq / (12 : Int32)) % (2 : Int32)).toNatClampNeg (m2 (1 : Int32).toNatClampNeg)) := ⟨_, rfl⟩
  rw [← hf_m3] at V128
  have hp3 : own_Perm m3 := by rw [hf_m3]; exact own_swap hp2 (by decide) (own_ltn (n := 4) hs3.1 (by omega))
  refine Goes.of (fun t k => XS.iconst X128.here hx rfl (hb hby at_65) k) ?_
  show Goes _ _ _ _ _ _ _ (T128.setTop (mkF m 66 #[.val (.int u0), .val (.int u1), .val (.int u2), .val (.int u3), .val (.int u4), .val (.ref b121), .val (.int qq), .unset, .unset, .unset, .unset, .unset] [(.int (1 : Int32))]))
  refine Goes.of (fun t k => XS.iloadN X128.here hx rfl (hb hby at_66) rfl k) ?_
  show Goes _ _ _ _ _ _ _ (T128.setTop (mkF m 67 #[.val (.int u0), .val (.int u1), .val (.int u2), .val (.int u3), .val (.int u4), .val (.ref b121), .val (.int qq), .unset, .unset, .unset, .unset, .unset] [(.int u1), (.int (1 : Int32))]))
  refine Goes.of (fun t k => XS.iconst X128.here hx rfl (hb hby at_67) k) ?_
  show Goes _ _ _ _ _ _ _ (T128.setTop (mkF m 68 #[.val (.int u0), .val (.int u1), .val (.int u2), .val (.int u3), .val (.int u4), .val (.ref b121), .val (.int qq), .unset, .unset, .unset, .unset, .unset] [(.int (3 : Int32)), (.int u1), (.int (1 : Int32))]))
  refine Goes.of (fun t k => XS.iand X128.here hx rfl (hb hby at_68) rfl k) ?_
  show Goes _ _ _ _ _ _ _ (T128.setTop (mkF m 69 #[.val (.int u0), .val (.int u1), .val (.int u2), .val (.int u3), .val (.int u4), .val (.ref b121), .val (.int qq), .unset, .unset, .unset, .unset, .unset] [(.int (u1 &&& (3 : Int32))), (.int (1 : Int32))]))
  refine Goes.of (fun t k => XS.iadd X128.here hx rfl (hb hby at_69) rfl k) ?_
  show Goes _ _ _ _ _ _ _ (T128.setTop (mkF m 70 #[.val (.int u0), .val (.int u1), .val (.int u2), .val (.int u3), .val (.int u4), .val (.ref b121), .val (.int qq), .unset, .unset, .unset, .unset, .unset] [(.int ((1 : Int32) + (u1 &&& (3 : Int32))))]))
  refine Goes.of (fun t k => XS.istore X128.here hx rfl (hb hby at_70) rfl (l' := #[.val (.int u0), .val (.int u1), .val (.int u2), .val (.int u3), .val (.int u4), .val (.ref b121), .val (.int qq), .val (.int ((1 : Int32) + (u1 &&& (3 : Int32)))), .unset, .unset, .unset, .unset]) rfl k) ?_
  show Goes _ _ _ _ _ _ _ (T128.setTop (mkF m 72 #[.val (.int u0), .val (.int u1), .val (.int u2), .val (.int u3), .val (.int u4), .val (.ref b121), .val (.int qq), .val (.int ((1 : Int32) + (u1 &&& (3 : Int32)))), .unset, .unset, .unset, .unset] []))
  obtain ⟨zz, hy_zz⟩ : ∃ z, z = ((1 : Int32) + (u1 &&& (3 : Int32))) := ⟨_, rfl⟩
  rw [← hy_zz]
  show Goes _ _ _ _ _ _ _ (T128.setTop (mkF m 72 #[.val (.int u0), .val (.int u1), .val (.int u2), .val (.int u3), .val (.int u4), .val (.ref b121), .val (.int qq), .val (.int zz), .unset, .unset, .unset, .unset] []))
  have h4 := own_n4 u1
  rw [← hy_zz] at h4
  rcases h4 with h4 | h4 | h4 | h4
  · rw [h4]
    show Goes _ _ _ _ _ _ _ (T128.setTop (mkF m 72 #[.val (.int u0), .val (.int u1), .val (.int u2), .val (.int u3), .val (.int u4), .val (.ref b121), .val (.int qq), .val (.int (1 : Int32)), .unset, .unset, .unset, .unset] []))
    obtain ⟨T129, h129, X129, e129, E129, A129, D129, -, st129⟩ := newO X128 hx hZ hown (hw _ (List.mem_of_getElem? (i := 6) rfl)) (hw _ (List.mem_of_getElem? (i := 7) rfl)) (hw _ (List.mem_of_getElem? (i := 8) rfl)) rfl (g := (mkF m 72 #[.val (.int u0), .val (.int u1), .val (.int u2), .val (.int u3), .val (.int u4), .val (.ref b121), .val (.int qq), .val (.int (1 : Int32)), .unset, .unset, .unset, .unset] [])) rfl (hb hby at_72) (by decide) (by decide)
    obtain ⟨b129, g129⟩ : ∃ z, z = T128.heap.size := ⟨_, rfl⟩
    rw [← g129] at A129 D129 st129
    have ne_b121_b129 : b121 ≠ b129 := Nat.ne_of_lt (Nat.lt_of_lt_of_le V128.lt (Nat.le_of_eq g129.symm))
    have g_b129 : n0 ≤ b129 := Nat.le_trans Z128 (Nat.le_of_eq g129.symm)
    have F130 := V128.ext E129
    have Z129 : n0 ≤ h129.size := Nat.le_trans Z128 E129.1
    have F_members_b129 : Fld Z h129 b129 "com/example/slotwright/slotwright/problems/IndexSet" "members" "[I" .null := D129 (Or.inr (hw _ (List.mem_of_getElem? (i := 16) rfl))) (ty := (.array .int)) (by decide)
    have F_positions_b129 : Fld Z h129 b129 "com/example/slotwright/slotwright/problems/IndexSet" "positions" "[I" .null := D129 (Or.inr (hw _ (List.mem_of_getElem? (i := 18) rfl))) (ty := (.array .int)) (by decide)
    have F_size_b129 : Fld Z h129 b129 "com/example/slotwright/slotwright/problems/IndexSet" "size" "I" (.int (0 : Int32)) := D129 (Or.inl (hw _ (List.mem_of_getElem? (i := 29) rfl))) (ty := .int) (by decide)
    refine Goes.of st129 ?_
    show Goes _ _ _ _ _ _ _ (T129.setTop (mkF m 75 #[.val (.int u0), .val (.int u1), .val (.int u2), .val (.int u3), .val (.int u4), .val (.ref b121), .val (.int qq), .val (.int (1 : Int32)), .unset, .unset, .unset, .unset] [(.ref b129)]))
    refine Goes.of (fun t k => XS.dup X129.here hx rfl (hb hby at_75) rfl rfl k) ?_
    show Goes _ _ _ _ _ _ _ (T129.setTop (mkF m 76 #[.val (.int u0), .val (.int u1), .val (.int u2), .val (.int u3), .val (.int u4), .val (.ref b121), .val (.int qq), .val (.int (1 : Int32)), .unset, .unset, .unset, .unset] [(.ref b129), (.ref b129)]))
    refine Goes.of (fun t k => XS.iconst X129.here hx rfl (hb hby at_76) k) ?_
    show Goes _ _ _ _ _ _ _ (T129.setTop (mkF m 77 #[.val (.int u0), .val (.int u1), .val (.int u2), .val (.int u3), .val (.int u4), .val (.ref b121), .val (.int qq), .val (.int (1 : Int32)), .unset, .unset, .unset, .unset] [(.int (4 : Int32)), (.ref b129), (.ref b129)]))
    obtain ⟨_, _, ⟨T131, L131, k131, n131⟩, -, X131, ⟨Lc131, hQ131, l131, y131, z131⟩, st131⟩ := X129.specialBack hx (y := (⟨"com/example/slotwright/slotwright/problems/IndexSet", "<init>", "(I)V"⟩ : MethodName)) rfl hown (mvT hZ (hw _ (List.mem_of_getElem? (i := 9) rfl))) (mvT hZ (hw _ (List.mem_of_getElem? (i := 10) rfl))) (mvT hZ (hw _ (List.mem_of_getElem? (i := 11) rfl))) (by decide) (backOf (W := 1) (rm2 l Z a0 hw [] b129 (4 : Int32) 4 h129 n0 Z129 A129 F_members_b129 F_positions_b129 F_size_b129 g_b129 (by decide) (by decide)) hZ (hw _ (List.mem_of_getElem? (i := 11) rfl)) (hw _ (List.mem_of_getElem? (i := 8) rfl)) (by decide) (by decide)) (g := (mkF m 77 #[.val (.int u0), .val (.int u1), .val (.int u2), .val (.int u3), .val (.int u4), .val (.ref b121), .val (.int qq), .val (.int (1 : Int32)), .unset, .unset, .unset, .unset] [(.int (4 : Int32)), (.ref b129), (.ref b129)])) rfl (by rw [hml]; rfl) (Steps.refl _) (a := b129) (argsL := [(.int (4 : Int32))]) (rest := [(.ref b129)]) (lenOf pd_5 rfl) rfl (by show 2 * 0 + _ ≤ _; exact Nat.le_of_eq rfl) (hb hby at_77) (fun _ _ => ⟨rfl, e129, (by decide : 2 + 2 ≤ _), (by decide : 7 + 8 ≤ _)⟩)
    dsimp only [Pt.U, Pt.locs, Pt.cells, Pt.slots] at X131 l131 y131 z131 st131 hQ131
    replace l131 := l131.symm
    replace y131 := y131.symm
    replace z131 := z131.symm
    subst l131 y131 z131
    obtain ⟨rfl, N131q, mm131, pp131, K131, szm131, szp131, ne_mm131_pp131, Eo131, Fm131, Fp131, Fs131, Vm131, Vp131⟩ := hQ131
    have ne_b121_mm131 : b121 ≠ mm131 := Nat.ne_of_lt (Nat.lt_of_lt_of_le F130.lt szm131)
    have ne_b129_mm131 : b129 ≠ mm131 := Nat.ne_of_lt (Nat.lt_of_lt_of_le A129.lt szm131)
    have g_mm131 : n0 ≤ mm131 := Nat.le_trans Z129 szm131
    have ne_b121_pp131 : b121 ≠ pp131 := Nat.ne_of_lt (Nat.lt_of_lt_of_le F130.lt szp131)
    have ne_b129_pp131 : b129 ≠ pp131 := Nat.ne_of_lt (Nat.lt_of_lt_of_le A129.lt szp131)
    have g_pp131 : n0 ≤ pp131 := Nat.le_trans Z129 szp131
    have F132 := F130.keep K131 (ninS ne_b121_b129 nin0)
    have F133 := A129.keep K131
    have Z131 : n0 ≤ T131.heap.size := Nat.le_trans Z129 K131.1
    have N131 := Fr.app N128 N131q
    refine Goes.of (fun t k => st131.trans k) ?_
    show Goes _ _ _ _ _ _ _ (T131.setTop (mkF m 80 #[.val (.int u0), .val (.int u1), .val (.int u2), .val (.int u3), .val (.int u4), .val (.ref b121), .val (.int qq), .val (.int (1 : Int32)), .unset, .unset, .unset, .unset] [(.ref b129)]))
    refine Goes.of (fun t k => XS.astore X131.here hx rfl (hb hby at_80) rfl rfl (l' := #[.val (.int u0), .val (.int u1), .val (.int u2), .val (.int u3), .val (.int u4), .val (.ref b121), .val (.int qq), .val (.int (1 : Int32)), .val (.ref b129), .unset, .unset, .unset]) rfl k) ?_
    show Goes _ _ _ _ _ _ _ (T131.setTop (mkF m 82 #[.val (.int u0), .val (.int u1), .val (.int u2), .val (.int u3), .val (.int u4), .val (.ref b121), .val (.int qq), .val (.int (1 : Int32)), .val (.ref b129), .unset, .unset, .unset] []))
    obtain ⟨M0, hf_M0⟩ : ∃ f : Nat → Int32, f = (fun _ => 0) := ⟨_, rfl⟩
    rw [← hf_M0] at Vm131
    obtain ⟨P0, hf_P0⟩ : ∃ f : Nat → Int32, f = (fun _ => (-1 : Int32)) := ⟨_, rfl⟩
    rw [← hf_P0] at Vp131
    have hI0 : own_Inv m3 M0 P0 0 := by
      rw [hf_M0, hf_P0]
      exact ⟨hp3.1, fun i j hi => absurd hi (Nat.not_lt_zero _), fun i hi => absurd hi (Nat.not_lt_zero _), fun i hi => absurd hi (Nat.not_lt_zero _), fun v hv hn => rfl⟩
    refine Goes.of (fun t k => XS.aload X131.here hx rfl (hb hby at_82) rfl rfl k) ?_
    show Goes _ _ _ _ _ _ _ (T131.setTop (mkF m 84 #[.val (.int u0), .val (.int u1), .val (.int u2), .val (.int u3), .val (.int u4), .val (.ref b121), .val (.int qq), .val (.int (1 : Int32)), .val (.ref b129), .unset, .unset, .unset] [(.ref b129)]))
    refine Goes.of (fun t k => XS.aload X131.here hx rfl (hb hby at_84) rfl rfl k) ?_
    show Goes _ _ _ _ _ _ _ (T131.setTop (mkF m 86 #[.val (.int u0), .val (.int u1), .val (.int u2), .val (.int u3), .val (.int u4), .val (.ref b121), .val (.int qq), .val (.int (1 : Int32)), .val (.ref b129), .unset, .unset, .unset] [(.ref b121), (.ref b129)]))
    refine Goes.of (fun t k => XS.iconst X131.here hx rfl (hb hby at_86) k) ?_
    show Goes _ _ _ _ _ _ _ (T131.setTop (mkF m 87 #[.val (.int u0), .val (.int u1), .val (.int u2), .val (.int u3), .val (.int u4), .val (.ref b121), .val (.int qq), .val (.int (1 : Int32)), .val (.ref b129), .unset, .unset, .unset] [(.int (0 : Int32)), (.ref b121), (.ref b129)]))
    refine Goes.of (fun t k => ldI X131 hx hZ rfl F132 (j := (0 : Int32)) (i := 0) (v := (m3 0)) (by decide) (by decide) (by decide) rfl (g := (mkF m 87 #[.val (.int u0), .val (.int u1), .val (.int u2), .val (.int u3), .val (.int u4), .val (.ref b121), .val (.int qq), .val (.int (1 : Int32)), .val (.ref b129), .unset, .unset, .unset] [(.int (0 : Int32)), (.ref b121), (.ref b129)])) rfl rfl (hb hby at_87) t k) ?_
    show Goes _ _ _ _ _ _ _ (T131.setTop (mkF m 88 #[.val (.int u0), .val (.int u1), .val (.int u2), .val (.int u3), .val (.int u4), .val (.ref b121), .val (.int qq), .val (.int (1 : Int32)), .val (.ref b129), .unset, .unset, .unset] [(.int (m3 0)), (.ref b129)]))
    obtain ⟨cq134, kq134, q134a, q134b, q134c⟩ := isOf hZ rfl Eo131
    obtain ⟨_, _, ⟨T134, L134, k134, n134⟩, -, X134, ⟨Lc134, hQ134, l134, y134, z134⟩, st134⟩ := X131.virtualBack hx (y := (⟨"com/example/slotwright/slotwright/problems/IndexSet", "add", "(I)V"⟩ : MethodName)) (z := (⟨"com/example/slotwright/slotwright/problems/IndexSet", "add", "(I)V"⟩ : MethodName)) hown (mvT hZ (hw _ (List.mem_of_getElem? (i := 23) rfl))) (mvT hZ (hw _ (List.mem_of_getElem? (i := 24) rfl))) (notFace_of_selects (args := #[]) (mvT hZ (hw _ (List.mem_of_getElem? (i := 26) rfl)))) (mvT hZ (hw _ (List.mem_of_getElem? (i := 26) rfl))) (mvT hZ (hw _ (List.mem_of_getElem? (i := 25) rfl))) (by decide) (backOf (W := 0) (rm5 l Z a0 hw [] b129 (m3 0) mm131 pp131 4 M0 P0 (0 : Int32) T131.heap n0 Z131 Eo131 Fm131 Fp131 Fs131 Vm131 Vp131 ne_b129_mm131 ne_b129_pp131 ne_mm131_pp131 g_b129 g_mm131 g_pp131 ⟨by decide, by decide⟩ (hI0.1 0 (by decide))) hZ (hw _ (List.mem_of_getElem? (i := 27) rfl)) (hw _ (List.mem_of_getElem? (i := 8) rfl)) (by decide) (by decide)) q134a q134c (g := (mkF m 88 #[.val (.int u0), .val (.int u1), .val (.int u2), .val (.int u3), .val (.int u4), .val (.ref b121), .val (.int qq), .val (.int (1 : Int32)), .val (.ref b129), .unset, .unset, .unset] [(.int (m3 0)), (.ref b129)])) rfl (by rw [hml]; rfl) (Steps.refl _) (argsL := [(.int (m3 0))]) (rest := []) (lenOf pd_5 rfl) rfl (by show 2 * 0 + _ ≤ _; exact Nat.le_of_eq rfl) (hb hby at_88) (fun _ _ => ⟨rfl, rfl, (by decide : 4 + 0 ≤ _), (by decide : 15 + 0 ≤ _)⟩)
    dsimp only [Pt.U, Pt.locs, Pt.cells, Pt.slots] at X134 l134 y134 z134 st134 hQ134
    replace l134 := l134.symm
    replace y134 := y134.symm
    replace z134 := z134.symm
    subst l134 y134 z134
    obtain ⟨rfl, N134q, K134, Eo134, Fm134, Fp134, Fs134, Vm134, Vp134⟩ := hQ134
    have F135 := F132.keep K134 (ninS ne_b121_b129 (ninS ne_b121_mm131 (ninS ne_b121_pp131 nin0)))
    have F136 := Eo131.keep K134
    have Z134 : n0 ≤ T134.heap.size := Nat.le_trans Z131 K134.1
    have N134 := Fr.app N131 N134q
    refine Goes.of (fun t k => st134.trans k) ?_
    show Goes _ _ _ _ _ _ _ (T134.setTop (mkF m 91 #[.val (.int u0), .val (.int u1), .val (.int u2), .val (.int u3), .val (.int u4), .val (.ref b121), .val (.int qq), .val (.int (1 : Int32)), .val (.ref b129), .unset, .unset, .unset] []))
    obtain ⟨M1, hf_M1⟩ : ∃ f : Nat → Int32, f = (upd M0 (0 : Int32).toNatClampNeg (m3 0)) := ⟨_, rfl⟩
    rw [← hf_M1] at Vm134
    obtain ⟨P1, hf_P1⟩ : ∃ f : Nat → Int32, f = (upd P0 (m3 0).toNatClampNeg (0 : Int32)) := ⟨_, rfl⟩
    rw [← hf_P1] at Vp134
    have hI1 : own_Inv m3 M1 P1 1 := by rw [hf_M1, hf_P1]; exact own_add hp3 hI0 (by decide)
    refine Goes.of (fun t k => XS.iload X134.here hx rfl (hb hby at_91) rfl k) ?_
    show Goes _ _ _ _ _ _ _ (T134.setTop (mkF m 93 #[.val (.int u0), .val (.int u1), .val (.int u2), .val (.int u3), .val (.int u4), .val (.ref b121), .val (.int qq), .val (.int (1 : Int32)), .val (.ref b129), .unset, .unset, .unset] [(.int (1 : Int32))]))
    refine Goes.of (fun t k => XS.iconst X134.here hx rfl (hb hby at_93) k) ?_
    show Goes _ _ _ _ _ _ _ (T134.setTop (mkF m 94 #[.val (.int u0), .val (.int u1), .val (.int u2), .val (.int u3), .val (.int u4), .val (.ref b121), .val (.int qq), .val (.int (1 : Int32)), .val (.ref b129), .unset, .unset, .unset] [(.int (1 : Int32)), (.int (1 : Int32))]))
    refine Goes.of (fun t k => XS.icmpYes X134.here hx rfl (pc0 := 94) (pc' := 106) rfl (hb hby at_94) rfl (flt (by decide : ¬ ((1 : Int32) < (1 : Int32)))).2.2.2 (by decide) (by decide) k) ?_
    show Goes _ _ _ _ _ _ _ (T134.setTop (mkF m 106 #[.val (.int u0), .val (.int u1), .val (.int u2), .val (.int u3), .val (.int u4), .val (.ref b121), .val (.int qq), .val (.int (1 : Int32)), .val (.ref b129), .unset, .unset, .unset] []))
    refine Goes.of (fun t k => XS.iload X134.here hx rfl (hb hby at_106) rfl k) ?_
    show Goes _ _ _ _ _ _ _ (T134.setTop (mkF m 108 #[.val (.int u0), .val (.int u1), .val (.int u2), .val (.int u3), .val (.int u4), .val (.ref b121), .val (.int qq), .val (.int (1 : Int32)), .val (.ref b129), .unset, .unset, .unset] [(.int (1 : Int32))]))
    refine Goes.of (fun t k => XS.iconst X134.here hx rfl (hb hby at_108) k) ?_
    show Goes _ _ _ _ _ _ _ (T134.setTop (mkF m 109 #[.val (.int u0), .val (.int u1), .val (.int u2), .val (.int u3), .val (.int u4), .val (.ref b121), .val (.int qq), .val (.int (1 : Int32)), .val (.ref b129), .unset, .unset, .unset] [(.int (2 : Int32)), (.int (1 : Int32))]))
    refine Goes.of (fun t k => XS.icmpYes X134.here hx rfl (pc0 := 109) (pc' := 121) rfl (hb hby at_109) rfl (flt (by decide : ¬ ((2 : Int32) < (1 : Int32)))).2.2.2 (by decide) (by decide) k) ?_
    show Goes _ _ _ _ _ _ _ (T134.setTop (mkF m 121 #[.val (.int u0), .val (.int u1), .val (.int u2), .val (.int u3), .val (.int u4), .val (.ref b121), .val (.int qq), .val (.int (1 : Int32)), .val (.ref b129), .unset, .unset, .unset] []))
    refine Goes.of (fun t k => XS.iload X134.here hx rfl (hb hby at_121) rfl k) ?_
    show Goes _ _ _ _ _ _ _ (T134.setTop (mkF m 123 #[.val (.int u0), .val (.int u1), .val (.int u2), .val (.int u3), .val (.int u4), .val (.ref b121), .val (.int qq), .val (.int (1 : Int32)), .val (.ref b129), .unset, .unset, .unset] [(.int (1 : Int32))]))
    refine Goes.of (fun t k => XS.iconst X134.here hx rfl (hb hby at_123) k) ?_
    show Goes _ _ _ _ _ _ _ (T134.setTop (mkF m 124 #[.val (.int u0), .val (.int u1), .val (.int u2), .val (.int u3), .val (.int u4), .val (.ref b121), .val (.int qq), .val (.int (1 : Int32)), .val (.ref b129), .unset, .unset, .unset] [(.int (3 : Int32)), (.int (1 : Int32))]))
    refine Goes.of (fun t k => XS.icmpYes X134.here hx rfl (pc0 := 124) (pc' := 136) rfl (hb hby at_124) rfl (flt (by decide : ¬ ((3 : Int32) < (1 : Int32)))).2.2.2 (by decide) (by decide) k) ?_
    show Goes _ _ _ _ _ _ _ (T134.setTop (mkF m 136 #[.val (.int u0), .val (.int u1), .val (.int u2), .val (.int u3), .val (.int u4), .val (.ref b121), .val (.int qq), .val (.int (1 : Int32)), .val (.ref b129), .unset, .unset, .unset] []))
    refine Goes.of (fun t k => XS.iloadN X134.here hx rfl (hb hby at_136) rfl k) ?_
    show Goes _ _ _ _ _ _ _ (T134.setTop (mkF m 137 #[.val (.int u0), .val (.int u1), .val (.int u2), .val (.int u3), .val (.int u4), .val (.ref b121), .val (.int qq), .val (.int (1 : Int32)), .val (.ref b129), .unset, .unset, .unset] [(.int u2)]))
    refine Goes.of (fun t k => X134.ldcInt hx hown (mvT hZ (hw _ (List.mem_of_getElem? (i := 1) rfl))) (g := (mkF m 137 #[.val (.int u0), .val (.int u1), .val (.int u2), .val (.int u3), .val (.int u4), .val (.ref b121), .val (.int qq), .val (.int (1 : Int32)), .val (.ref b129), .unset, .unset, .unset] [(.int u2)])) rfl (hb hby at_137) t k) ?_
    show Goes _ _ _ _ _ _ _ (T134.setTop (mkF m 139 #[.val (.int u0), .val (.int u1), .val (.int u2), .val (.int u3), .val (.int u4), .val (.ref b121), .val (.int qq), .val (.int (1 : Int32)), .val (.ref b129), .unset, .unset, .unset] [(.int (2147483647 : Int32)), (.int u2)]))
    refine Goes.of (fun t k => XS.iand X134.here hx rfl (hb hby at_139) rfl k) ?_
    show Goes _ _ _ _ _ _ _ (T134.setTop (mkF m 140 #[.val (.int u0), .val (.int u1), .val (.int u2), .val (.int u3), .val (.int u4), .val (.ref b121), .val (.int qq), .val (.int (1 : Int32)), .val (.ref b129), .unset, .unset, .unset] [(.int (u2 &&& (2147483647 : Int32)))]))
    refine Goes.of (fun t k => XS.iload X134.here hx rfl (hb hby at_140) rfl k) ?_
    show Goes _ _ _ _ _ _ _ (T134.setTop (mkF m 142 #[.val (.int u0), .val (.int u1), .val (.int u2), .val (.int u3), .val (.int u4), .val (.ref b121), .val (.int qq), .val (.int (1 : Int32)), .val (.ref b129), .unset, .unset, .unset] [(.int (1 : Int32)), (.int (u2 &&& (2147483647 : Int32)))]))
    refine Goes.of (fun t k => iremM X134 hx (g := (mkF m 142 #[.val (.int u0), .val (.int u1), .val (.int u2), .val (.int u3), .val (.int u4), .val (.ref b121), .val (.int qq), .val (.int (1 : Int32)), .val (.ref b129), .unset, .unset, .unset] [(.int (1 : Int32)), (.int (u2 &&& (2147483647 : Int32)))])) rfl (hb hby at_142) rfl (by decide) k) ?_
    show Goes _ _ _ _ _ _ _ (T134.setTop (mkF m 143 #[.val (.int u0), .val (.int u1), .val (.int u2), .val (.int u3), .val (.int u4), .val (.ref b121), .val (.int qq), .val (.int (1 : Int32)), .val (.ref b129), .unset, .unset, .unset] [(.int ((u2 &&& (2147483647 : Int32)) % (1 : Int32)))]))
    refine Goes.of (fun t k => XS.istore X134.here hx rfl (hb hby at_143) rfl (l' := #[.val (.int u0), .val (.int u1), .val (.int u2), .val (.int u3), .val (.int u4), .val (.ref b121), .val (.int qq), .val (.int (1 : Int32)), .val (.ref b129), .val (.int ((u2 &&& (2147483647 : Int32)) % (1 : Int32))), .unset, .unset]) rfl k) ?_
    show Goes _ _ _ _ _ _ _ (T134.setTop (mkF m 145 #[.val (.int u0), .val (.int u1), .val (.int u2), .val (.int u3), .val (.int u4), .val (.ref b121), .val (.int qq), .val (.int (1 : Int32)), .val (.ref b129), .val (.int ((u2 &&& (2147483647 : Int32)) % (1 : Int32))), .unset, .unset] []))
    obtain ⟨rr, hy_rr⟩ : ∃ z, z = ((u2 &&& (2147483647 : Int32)) % (1 : Int32)) := ⟨_, rfl⟩
    rw [← hy_rr]
    show Goes _ _ _ _ _ _ _ (T134.setTop (mkF m 145 #[.val (.int u0), .val (.int u1), .val (.int u2), .val (.int u3), .val (.int u4), .val (.ref b121), .val (.int qq), .val (.int (1 : Int32)), .val (.ref b129), .val (.int rr), .unset, .unset] []))
    have h_rr := own_rem u2 (1 : Int32) (by decide)
    rw [← hy_rr, show (1 : Int32).toInt = 1 from rfl] at h_rr
    have hn_rr := nat_of (own_nn h_rr.1)
    refine Goes.of (fun t k => XS.aload X134.here hx rfl (hb hby at_145) rfl rfl k) ?_
    show Goes _ _ _ _ _ _ _ (T134.setTop (mkF m 147 #[.val (.int u0), .val (.int u1), .val (.int u2), .val (.int u3), .val (.int u4), .val (.ref b121), .val (.int qq), .val (.int (1 : Int32)), .val (.ref b129), .val (.int rr), .unset, .unset] [(.ref b129)]))
    refine Goes.of (fun t k => XS.aload X134.here hx rfl (hb hby at_147) rfl rfl k) ?_
    show Goes _ _ _ _ _ _ _ (T134.setTop (mkF m 149 #[.val (.int u0), .val (.int u1), .val (.int u2), .val (.int u3), .val (.int u4), .val (.ref b121), .val (.int qq), .val (.int (1 : Int32)), .val (.ref b129), .val (.int rr), .unset, .unset] [(.ref b121), (.ref b129)]))
    refine Goes.of (fun t k => XS.iload X134.here hx rfl (hb hby at_149) rfl k) ?_
    show Goes _ _ _ _ _ _ _ (T134.setTop (mkF m 151 #[.val (.int u0), .val (.int u1), .val (.int u2), .val (.int u3), .val (.int u4), .val (.ref b121), .val (.int qq), .val (.int (1 : Int32)), .val (.ref b129), .val (.int rr), .unset, .unset] [(.int rr), (.ref b121), (.ref b129)]))
    refine Goes.of (fun t k => ldI X134 hx hZ rfl F135 (j := rr) (i := rr.toNatClampNeg) (v := (m3 rr.toNatClampNeg)) (own_nn h_rr.1) rfl (by omega) rfl (g := (mkF m 151 #[.val (.int u0), .val (.int u1), .val (.int u2), .val (.int u3), .val (.int u4), .val (.ref b121), .val (.int qq), .val (.int (1 : Int32)), .val (.ref b129), .val (.int rr), .unset, .unset] [(.int rr), (.ref b121), (.ref b129)])) rfl rfl (hb hby at_151) t k) ?_
    show Goes _ _ _ _ _ _ _ (T134.setTop (mkF m 152 #[.val (.int u0), .val (.int u1), .val (.int u2), .val (.int u3), .val (.int u4), .val (.ref b121), .val (.int qq), .val (.int (1 : Int32)), .val (.ref b129), .val (.int rr), .unset, .unset] [(.int (m3 rr.toNatClampNeg)), (.ref b129)]))
    obtain ⟨cq137, kq137, q137a, q137b, q137c⟩ := isOf hZ rfl Eo134
    obtain ⟨_, _, ⟨T137, L137, k137, n137⟩, -, X137, ⟨Lc137, hQ137, l137, y137, z137⟩, st137⟩ := X134.virtualBack hx (y := (⟨"com/example/slotwright/slotwright/problems/IndexSet", "remove", "(I)V"⟩ : MethodName)) (z := (⟨"com/example/slotwright/slotwright/problems/IndexSet", "remove", "(I)V"⟩ : MethodName)) hown (mvT hZ (hw _ (List.mem_of_getElem? (i := 30) rfl))) (mvT hZ (hw _ (List.mem_of_getElem? (i := 31) rfl))) (notFace_of_selects (args := #[]) (mvT hZ (hw _ (List.mem_of_getElem? (i := 33) rfl)))) (mvT hZ (hw _ (List.mem_of_getElem? (i := 33) rfl))) (mvT hZ (hw _ (List.mem_of_getElem? (i := 32) rfl))) (by decide) (backOf (W := 0) (rm6 l Z a0 hw [] b129 (m3 rr.toNatClampNeg) mm131 pp131 4 M1 P1 ((0 : Int32) + (1 : Int32)) T134.heap n0 Z134 Eo134 Fm134 Fp134 Fs134 Vm134 Vp134 ne_b129_mm131 ne_b129_pp131 ne_mm131_pp131 g_b129 g_mm131 g_pp131 ⟨by decide, by decide⟩ (hI1.1 _ (by omega)) (by rw [hI1.2.2.2.1 _ (by omega), len_toInt (by omega)]; omega) (by have hlk := hI1.2.2.1 0 (by decide); have hlr := hI1.1 0 (by decide); rw [← hlk] at hlr; exact hlr)) hZ (hw _ (List.mem_of_getElem? (i := 34) rfl)) (hw _ (List.mem_of_getElem? (i := 8) rfl)) (by decide) (by decide)) q137a q137c (g := (mkF m 152 #[.val (.int u0), .val (.int u1), .val (.int u2), .val (.int u3), .val (.int u4), .val (.ref b121), .val (.int qq), .val (.int (1 : Int32)), .val (.ref b129), .val (.int rr), .unset, .unset] [(.int (m3 rr.toNatClampNeg)), (.ref b129)])) rfl (by rw [hml]; rfl) (Steps.refl _) (argsL := [(.int (m3 rr.toNatClampNeg))]) (rest := []) (lenOf pd_5 rfl) rfl (by show 2 * 0 + _ ≤ _; exact Nat.le_of_eq rfl) (hb hby at_152) (fun _ _ => ⟨rfl, rfl, (by decide : 4 + 0 ≤ _), (by decide : 15 + 0 ≤ _)⟩)
    dsimp only [Pt.U, Pt.locs, Pt.cells, Pt.slots] at X137 l137 y137 z137 st137 hQ137
    replace l137 := l137.symm
    replace y137 := y137.symm
    replace z137 := z137.symm
    subst l137 y137 z137
    obtain ⟨rfl, N137q, K137, Eo137, Fm137, Fp137, Fs137, Vm137, Vp137⟩ := hQ137
    have F138 := F135.keep K137 (ninS ne_b121_b129 (ninS ne_b121_mm131 (ninS ne_b121_pp131 nin0)))
    have F139 := Eo134.keep K137
    have Z137 : n0 ≤ T137.heap.size := Nat.le_trans Z134 K137.1
    have N137 := Fr.app N134 N137q
    refine Goes.of (fun t k => st137.trans k) ?_
    show Goes _ _ _ _ _ _ _ (T137.setTop (mkF m 155 #[.val (.int u0), .val (.int u1), .val (.int u2), .val (.int u3), .val (.int u4), .val (.ref b121), .val (.int qq), .val (.int (1 : Int32)), .val (.ref b129), .val (.int rr), .unset, .unset] []))
    refine Goes.of (fun t k => XS.aload X137.here hx rfl (hb hby at_155) rfl rfl k) ?_
    show Goes _ _ _ _ _ _ _ (T137.setTop (mkF m 157 #[.val (.int u0), .val (.int u1), .val (.int u2), .val (.int u3), .val (.int u4), .val (.ref b121), .val (.int qq), .val (.int (1 : Int32)), .val (.ref b129), .val (.int rr), .unset, .unset] [(.ref b121)]))
    refine Goes.of (fun t k => XS.iload X137.here hx rfl (hb hby at_157) rfl k) ?_
    show Goes _ _ _ _ _ _ _ (T137.setTop (mkF m 159 #[.val (.int u0), .val (.int u1), .val (.int u2), .val (.int u3), .val (.int u4), .val (.ref b121), .val (.int qq), .val (.int (1 : Int32)), .val (.ref b129), .val (.int rr), .unset, .unset] [(.int rr), (.ref b121)]))
    refine Goes.of (fun t k => XS.aload X137.here hx rfl (hb hby at_159) rfl rfl k) ?_
    show Goes _ _ _ _ _ _ _ (T137.setTop (mkF m 161 #[.val (.int u0), .val (.int u1), .val (.int u2), .val (.int u3), .val (.int u4), .val (.ref b121), .val (.int qq), .val (.int (1 : Int32)), .val (.ref b129), .val (.int rr), .unset, .unset] [(.ref b121), (.int rr), (.ref b121)]))
    refine Goes.of (fun t k => XS.iload X137.here hx rfl (hb hby at_161) rfl k) ?_
    show Goes _ _ _ _ _ _ _ (T137.setTop (mkF m 163 #[.val (.int u0), .val (.int u1), .val (.int u2), .val (.int u3), .val (.int u4), .val (.ref b121), .val (.int qq), .val (.int (1 : Int32)), .val (.ref b129), .val (.int rr), .unset, .unset] [(.int (1 : Int32)), (.ref b121), (.int rr), (.ref b121)]))
    refine Goes.of (fun t k => XS.iconst X137.here hx rfl (hb hby at_163) k) ?_
    show Goes _ _ _ _ _ _ _ (T137.setTop (mkF m 164 #[.val (.int u0), .val (.int u1), .val (.int u2), .val (.int u3), .val (.int u4), .val (.ref b121), .val (.int qq), .val (.int (1 : Int32)), .val (.ref b129), .val (.int rr), .unset, .unset] [(.int (1 : Int32)), (.int (1 : Int32)), (.ref b121), (.int rr), (.ref b121)]))
    refine Goes.of (fun t k => XS.isub X137.here hx rfl (hb hby at_164) rfl k) ?_
    show Goes _ _ _ _ _ _ _ (T137.setTop (mkF m 165 #[.val (.int u0), .val (.int u1), .val (.int u2), .val (.int u3), .val (.int u4), .val (.ref b121), .val (.int qq), .val (.int (1 : Int32)), .val (.ref b129), .val (.int rr), .unset, .unset] [(.int (0 : Int32)), (.ref b121), (.int rr), (.ref b121)]))
    refine Goes.of (fun t k => ldI X137 hx hZ rfl F138 (j := (0 : Int32)) (i := 0) (v := (m3 0)) (by decide) (by decide) (by decide) rfl (g := (mkF m 165 #[.val (.int u0), .val (.int u1), .val (.int u2), .val (.int u3), .val (.int u4), .val (.ref b121), .val (.int qq), .val (.int (1 : Int32)), .val (.ref b129), .val (.int rr), .unset, .unset] [(.int (0 : Int32)), (.ref b121), (.int rr), (.ref b121)])) rfl rfl (hb hby at_165) t k) ?_
    show Goes _ _ _ _ _ _ _ (T137.setTop (mkF m 166 #[.val (.int u0), .val (.int u1), .val (.int u2), .val (.int u3), .val (.int u4), .val (.ref b121), .val (.int qq), .val (.int (1 : Int32)), .val (.ref b129), .val (.int rr), .unset, .unset] [(.int (m3 0)), (.int rr), (.ref b121)]))
    obtain ⟨T140, h140, X140, e140, W140, V140, st140⟩ := putI X137 hx hZ rfl F138 (j := rr) (x := (m3 0)) (i := rr.toNatClampNeg) (own_nn h_rr.1) rfl (by omega) (g := (mkF m 166 #[.val (.int u0), .val (.int u1), .val (.int u2), .val (.int u3), .val (.int u4), .val (.ref b121), .val (.int qq), .val (.int (1 : Int32)), .val (.ref b129), .val (.int rr), .unset, .unset] [(.int (m3 0)), (.int rr), (.ref b121)])) rfl rfl (hb hby at_166)
    have F141 := Exa.wr W140 Eo137
    have F142 := Fld.other W140 Fm137 (Or.inl (Ne.symm ne_b121_b129))
    have F143 := Fld.other W140 Fp137 (Or.inl (Ne.symm ne_b121_b129))
    have F144 := Fld.other W140 Fs137 (Or.inl (Ne.symm ne_b121_b129))
    have F145 := Vm137.other W140 (Ne.symm ne_b121_mm131)
    have F146 := Vp137.other W140 (Ne.symm ne_b121_pp131)
    have Z140 : n0 ≤ h140.size := Nat.le_trans Z137 (Keep.of_wr W140).1
    have N140 := Fr.snoc X140 N137 g_b121
    refine Goes.of st140 ?_
    show Goes _ _ _ _ _ _ _ (T140.setTop (mkF m 167 #[.val (.int u0), .val (.int u1), .val (.int u2), .val (.int u3), .val (.int u4), .val (.ref b121), .val (.int qq), .val (.int (1 : Int32)), .val (.ref b129), .val (.int rr), .unset, .unset] []))
    obtain ⟨m4, hf_m4⟩ : ∃ f : Nat → Int32, f = (upd m3 rr.toNatClampNeg (m3 0)) := ⟨_, rfl⟩
    rw [← hf_m4] at V140
    obtain ⟨Mr, hf_Mr⟩ : ∃ f : Nat → Int32, f = (upd M1 (P1 (m3 rr.toNatClampNeg).toNatClampNeg).toNatClampNeg (M1 (((0 : Int32) + (1 : Int32)) - (1 : Int32)).toNatClampNeg)) := ⟨_, rfl⟩
    rw [← hf_Mr] at F145
    obtain ⟨Pr, hf_Pr⟩ : ∃ f : Nat → Int32, f = (upd (upd P1 (M1 (((0 : Int32) + (1 : Int32)) - (1 : Int32)).toNatClampNeg).toNatClampNeg (P1 (m3 rr.toNatClampNeg).toNatClampNeg)) (m3 rr.toNatClampNeg).toNatClampNeg (-1 : Int32)) := ⟨_, rfl⟩
    rw [← hf_Pr] at F146
    have hIr : own_Inv m4 Mr Pr 0 := by rw [hf_m4, hf_Mr, hf_Pr]; exact own_rm (k := 0) (r := rr.toNatClampNeg) hI1 (by decide) (by omega) rfl rfl
    refine Goes.of (fun t k => XS.iload X140.here hx rfl (hb hby at_167) rfl k) ?_
    show Goes _ _ _ _ _ _ _ (T140.setTop (mkF m 169 #[.val (.int u0), .val (.int u1), .val (.int u2), .val (.int u3), .val (.int u4), .val (.ref b121), .val (.int qq), .val (.int (1 : Int32)), .val (.ref b129), .val (.int rr), .unset, .unset] [(.int (1 : Int32))]))
    refine Goes.of (fun t k => XS.iconst X140.here hx rfl (hb hby at_169) k) ?_
    show Goes _ _ _ _ _ _ _ (T140.setTop (mkF m 170 #[.val (.int u0), .val (.int u1), .val (.int u2), .val (.int u3), .val (.int u4), .val (.ref b121), .val (.int qq), .val (.int (1 : Int32)), .val (.ref b129), .val (.int rr), .unset, .unset] [(.int (1 : Int32)), (.int (1 : Int32))]))
    refine Goes.of (fun t k => XS.isub X140.here hx rfl (hb hby at_170) rfl k) ?_
    show Goes _ _ _ _ _ _ _ (T140.setTop (mkF m 171 #[.val (.int u0), .val (.int u1), .val (.int u2), .val (.int u3), .val (.int u4), .val (.ref b121), .val (.int qq), .val (.int (1 : Int32)), .val (.ref b129), .val (.int rr), .unset, .unset] [(.int (0 : Int32))]))
    refine Goes.of (fun t k => XS.istore X140.here hx rfl (hb hby at_171) rfl (l' := #[.val (.int u0), .val (.int u1), .val (.int u2), .val (.int u3), .val (.int u4), .val (.ref b121), .val (.int qq), .val (.int (1 : Int32)), .val (.ref b129), .val (.int rr), .val (.int (0 : Int32)), .unset]) rfl k) ?_
    show Goes _ _ _ _ _ _ _ (T140.setTop (mkF m 173 #[.val (.int u0), .val (.int u1), .val (.int u2), .val (.int u3), .val (.int u4), .val (.ref b121), .val (.int qq), .val (.int (1 : Int32)), .val (.ref b129), .val (.int rr), .val (.int (0 : Int32)), .unset] []))
    refine Goes.of (fun t k => XS.iload X140.here hx rfl (hb hby at_173) rfl k) ?_
    show Goes _ _ _ _ _ _ _ (T140.setTop (mkF m 175 #[.val (.int u0), .val (.int u1), .val (.int u2), .val (.int u3), .val (.int u4), .val (.ref b121), .val (.int qq), .val (.int (1 : Int32)), .val (.ref b129), .val (.int rr), .val (.int (0 : Int32)), .unset] [(.int u4)]))
    refine Goes.of (fun t k => XS.iconst X140.here hx rfl (hb hby at_175) k) ?_
    show Goes _ _ _ _ _ _ _ (T140.setTop (mkF m 176 #[.val (.int u0), .val (.int u1), .val (.int u2), .val (.int u3), .val (.int u4), .val (.ref b121), .val (.int qq), .val (.int (1 : Int32)), .val (.ref b129), .val (.int rr), .val (.int (0 : Int32)), .unset] [(.int (1 : Int32)), (.int u4)]))
    refine Goes.of (fun t k => XS.iand X140.here hx rfl (hb hby at_176) rfl k) ?_
    show Goes _ _ _ _ _ _ _ (T140.setTop (mkF m 177 #[.val (.int u0), .val (.int u1), .val (.int u2), .val (.int u3), .val (.int u4), .val (.ref b121), .val (.int qq), .val (.int (1 : Int32)), .val (.ref b129), .val (.int rr), .val (.int (0 : Int32)), .unset] [(.int (u4 &&& (1 : Int32)))]))
    by_cases hc147 : (u4 &&& (1 : Int32)) = (0 : Int32)
    · refine Goes.of (fun t k => XS.ifYes X140.here hx rfl (pc0 := 177) (pc' := 222) rfl (hb hby at_177) rfl ((if0 _ _).trans (teq hc147).1) (by decide) (by decide) k) ?_
      show Goes _ _ _ _ _ _ _ (T140.setTop (mkF m 222 #[.val (.int u0), .val (.int u1), .val (.int u2), .val (.int u3), .val (.int u4), .val (.ref b121), .val (.int qq), .val (.int (1 : Int32)), .val (.ref b129), .val (.int rr), .val (.int (0 : Int32)), .unset] []))
      refine Goes.of (fun t k => XS.aload X140.here hx rfl (hb hby at_222) rfl rfl k) ?_
      show Goes _ _ _ _ _ _ _ (T140.setTop (mkF m 224 #[.val (.int u0), .val (.int u1), .val (.int u2), .val (.int u3), .val (.int u4), .val (.ref b121), .val (.int qq), .val (.int (1 : Int32)), .val (.ref b129), .val (.int rr), .val (.int (0 : Int32)), .unset] [(.ref b129)]))
      obtain ⟨cq148, kq148, q148a, q148b, q148c⟩ := isOf hZ e140 F141
      obtain ⟨_, _, ⟨T148, L148, k148, n148⟩, -, X148, ⟨Lc148, hQ148, l148, y148, z148⟩, st148⟩ := X140.virtualBack hx (y := (⟨"com/example/slotwright/slotwright/problems/IndexSet", "size", "()I"⟩ : MethodName)) (z := (⟨"com/example/slotwright/slotwright/problems/IndexSet", "size", "()I"⟩ : MethodName)) hown (mvT hZ (hw _ (List.mem_of_getElem? (i := 35) rfl))) (mvT hZ (hw _ (List.mem_of_getElem? (i := 36) rfl))) (notFace_of_selects (args := #[]) (mvT hZ (hw _ (List.mem_of_getElem? (i := 38) rfl)))) (mvT hZ (hw _ (List.mem_of_getElem? (i := 38) rfl))) (mvT hZ (hw _ (List.mem_of_getElem? (i := 37) rfl))) (by decide) (backOf (W := 0) (rm7 l Z a0 hw [] b129 mm131 pp131 4 Mr Pr (((0 : Int32) + (1 : Int32)) - (1 : Int32)) h140 n0 Z140 F141 F142 F143 F144 F145 F146 ne_b129_mm131 ne_b129_pp131 ne_mm131_pp131 g_b129 g_mm131 g_pp131) hZ (hw _ (List.mem_of_getElem? (i := 39) rfl)) (hw _ (List.mem_of_getElem? (i := 8) rfl)) (by decide) (by decide)) q148a q148c (g := (mkF m 224 #[.val (.int u0), .val (.int u1), .val (.int u2), .val (.int u3), .val (.int u4), .val (.ref b121), .val (.int qq), .val (.int (1 : Int32)), .val (.ref b129), .val (.int rr), .val (.int (0 : Int32)), .unset] [(.ref b129)])) rfl (by rw [hml]; rfl) (Steps.refl _) (argsL := []) (rest := []) (lenOf pd_6 rfl) rfl (by show 2 * 0 + _ ≤ _; exact Nat.le_of_eq rfl) (hb hby at_224) (fun _ _ => ⟨rfl, e140, (by decide : 4 + 0 ≤ _), (by decide : 15 + 0 ≤ _)⟩)
      dsimp only [Pt.U, Pt.locs, Pt.cells, Pt.slots] at X148 l148 y148 z148 st148 hQ148
      replace l148 := l148.symm
      replace y148 := y148.symm
      replace z148 := z148.symm
      subst l148 y148 z148
      obtain ⟨rfl, N148q, e148⟩ := hQ148
      have N148 := Fr.app N140 N148q
      refine Goes.of (fun t k => st148.trans k) ?_
      show Goes _ _ _ _ _ _ _ (T148.setTop (mkF m 227 #[.val (.int u0), .val (.int u1), .val (.int u2), .val (.int u3), .val (.int u4), .val (.ref b121), .val (.int qq), .val (.int (1 : Int32)), .val (.ref b129), .val (.int rr), .val (.int (0 : Int32)), .unset] [(.int (((0 : Int32) + (1 : Int32)) - (1 : Int32)))]))
      refine Goes.of (fun t k => XS.iload X148.here hx rfl (hb hby at_227) rfl k) ?_
      show Goes _ _ _ _ _ _ _ (T148.setTop (mkF m 229 #[.val (.int u0), .val (.int u1), .val (.int u2), .val (.int u3), .val (.int u4), .val (.ref b121), .val (.int qq), .val (.int (1 : Int32)), .val (.ref b129), .val (.int rr), .val (.int (0 : Int32)), .unset] [(.int (0 : Int32)), (.int (((0 : Int32) + (1 : Int32)) - (1 : Int32)))]))
      refine Goes.of (fun t k => XS.icmpNo X148.here hx rfl (hb hby at_229) rfl (teq (by decide)).2 k) ?_
      show Goes _ _ _ _ _ _ _ (T148.setTop (mkF m 232 #[.val (.int u0), .val (.int u1), .val (.int u2), .val (.int u3), .val (.int u4), .val (.ref b121), .val (.int qq), .val (.int (1 : Int32)), .val (.ref b129), .val (.int rr), .val (.int (0 : Int32)), .unset] []))
      refine Goes.of (fun t k => XS.aload X148.here hx rfl (hb hby at_232) rfl rfl k) ?_
      show Goes _ _ _ _ _ _ _ (T148.setTop (mkF m 234 #[.val (.int u0), .val (.int u1), .val (.int u2), .val (.int u3), .val (.int u4), .val (.ref b121), .val (.int qq), .val (.int (1 : Int32)), .val (.ref b129), .val (.int rr), .val (.int (0 : Int32)), .unset] [(.ref b129)]))
      refine Goes.of (fun t k => XS.aload X148.here hx rfl (hb hby at_234) rfl rfl k) ?_
      show Goes _ _ _ _ _ _ _ (T148.setTop (mkF m 236 #[.val (.int u0), .val (.int u1), .val (.int u2), .val (.int u3), .val (.int u4), .val (.ref b121), .val (.int qq), .val (.int (1 : Int32)), .val (.ref b129), .val (.int rr), .val (.int (0 : Int32)), .unset] [(.ref b121), (.ref b129)]))
      refine Goes.of (fun t k => XS.iload X148.here hx rfl (hb hby at_236) rfl k) ?_
      show Goes _ _ _ _ _ _ _ (T148.setTop (mkF m 238 #[.val (.int u0), .val (.int u1), .val (.int u2), .val (.int u3), .val (.int u4), .val (.ref b121), .val (.int qq), .val (.int (1 : Int32)), .val (.ref b129), .val (.int rr), .val (.int (0 : Int32)), .unset] [(.int (0 : Int32)), (.ref b121), (.ref b129)]))
      refine Goes.of (fun t k => XS.iconst X148.here hx rfl (hb hby at_238) k) ?_
      show Goes _ _ _ _ _ _ _ (T148.setTop (mkF m 239 #[.val (.int u0), .val (.int u1), .val (.int u2), .val (.int u3), .val (.int u4), .val (.ref b121), .val (.int qq), .val (.int (1 : Int32)), .val (.ref b129), .val (.int rr), .val (.int (0 : Int32)), .unset] [(.int (0 : Int32)), (.int (0 : Int32)), (.ref b121), (.ref b129)]))
      obtain ⟨_, _, ⟨T149, L149, k149, n149⟩, -, X149, ⟨Lc149, hQ149, l149, y149, z149⟩, st149⟩ := Jvm.LawKit.callS X148 hx (y := (⟨"com/example/slotwright/slotwright/problems/IndexSetRemovePinLaw", "at", "(Lcom/example/slotwright/slotwright/problems/IndexSet;[III)Z"⟩ : MethodName)) hown (mvT hZ (hw _ (List.mem_of_getElem? (i := 40) rfl))) (mvT hZ (hw _ (List.mem_of_getElem? (i := 41) rfl))) (mvT hZ (hw _ (List.mem_of_getElem? (i := 4) rfl))) (mvT hZ (hw _ (List.mem_of_getElem? (i := 42) rfl))) (by decide) (backOf (W := 0) (rm8 l Z a0 hw [] b129 b121 (0 : Int32) (0 : Int32) mm131 pp131 4 Mr Pr (((0 : Int32) + (1 : Int32)) - (1 : Int32)) m4 h140 n0 Z140 F141 F142 F143 F144 F145 F146 ne_b129_mm131 ne_b129_pp131 ne_mm131_pp131 g_b129 g_mm131 g_pp131 V140 (by decide) (by decide) (fun q => absurd q (by decide))) hZ (hw _ (List.mem_of_getElem? (i := 42) rfl)) (hw _ (List.mem_of_getElem? (i := 4) rfl)) (by decide) (by decide)) (g := (mkF m 239 #[.val (.int u0), .val (.int u1), .val (.int u2), .val (.int u3), .val (.int u4), .val (.ref b121), .val (.int qq), .val (.int (1 : Int32)), .val (.ref b129), .val (.int rr), .val (.int (0 : Int32)), .unset] [(.int (0 : Int32)), (.int (0 : Int32)), (.ref b121), (.ref b129)])) rfl (by rw [hml]; rfl) (argsL := [(.ref b129), (.ref b121), (.int (0 : Int32)), (.int (0 : Int32))]) (rest := []) (lenOf pd_7 rfl) rfl (by show 2 * 0 + _ ≤ _; exact Nat.le_of_eq rfl) (hb hby at_239) (fun _ _ => ⟨rfl, e148, (by decide : 4 + 0 ≤ _), (by decide : 15 + 0 ≤ _)⟩)
      dsimp only [Pt.U, Pt.locs, Pt.cells, Pt.slots] at X149 l149 y149 z149 st149 hQ149
      replace l149 := l149.symm
      replace y149 := y149.symm
      replace z149 := z149.symm
      subst l149 y149 z149
      obtain ⟨rfl, N149q, e149⟩ := hQ149
      have N149 := Fr.app N148 N149q
      refine Goes.of st149 ?_
      show Goes _ _ _ _ _ _ _ (T149.setTop (mkF m 242 #[.val (.int u0), .val (.int u1), .val (.int u2), .val (.int u3), .val (.int u4), .val (.ref b121), .val (.int qq), .val (.int (1 : Int32)), .val (.ref b129), .val (.int rr), .val (.int (0 : Int32)), .unset] [(.int (1 : Int32))]))
      refine Goes.of (fun t k => XS.ifNo X149.here hx rfl (hb hby at_242) rfl ((if0 _ _).trans (feq (by decide : ¬ ((1 : Int32) = (0 : Int32)))).1) k) ?_
      show Goes _ _ _ _ _ _ _ (T149.setTop (mkF m 245 #[.val (.int u0), .val (.int u1), .val (.int u2), .val (.int u3), .val (.int u4), .val (.ref b121), .val (.int qq), .val (.int (1 : Int32)), .val (.ref b129), .val (.int rr), .val (.int (0 : Int32)), .unset] []))
      refine Goes.of (fun t k => XS.aload X149.here hx rfl (hb hby at_245) rfl rfl k) ?_
      show Goes _ _ _ _ _ _ _ (T149.setTop (mkF m 247 #[.val (.int u0), .val (.int u1), .val (.int u2), .val (.int u3), .val (.int u4), .val (.ref b121), .val (.int qq), .val (.int (1 : Int32)), .val (.ref b129), .val (.int rr), .val (.int (0 : Int32)), .unset] [(.ref b129)]))
      refine Goes.of (fun t k => XS.aload X149.here hx rfl (hb hby at_247) rfl rfl k) ?_
      show Goes _ _ _ _ _ _ _ (T149.setTop (mkF m 249 #[.val (.int u0), .val (.int u1), .val (.int u2), .val (.int u3), .val (.int u4), .val (.ref b121), .val (.int qq), .val (.int (1 : Int32)), .val (.ref b129), .val (.int rr), .val (.int (0 : Int32)), .unset] [(.ref b121), (.ref b129)]))
      refine Goes.of (fun t k => XS.iload X149.here hx rfl (hb hby at_249) rfl k) ?_
      show Goes _ _ _ _ _ _ _ (T149.setTop (mkF m 251 #[.val (.int u0), .val (.int u1), .val (.int u2), .val (.int u3), .val (.int u4), .val (.ref b121), .val (.int qq), .val (.int (1 : Int32)), .val (.ref b129), .val (.int rr), .val (.int (0 : Int32)), .unset] [(.int (0 : Int32)), (.ref b121), (.ref b129)]))
      refine Goes.of (fun t k => XS.iconst X149.here hx rfl (hb hby at_251) k) ?_
      show Goes _ _ _ _ _ _ _ (T149.setTop (mkF m 252 #[.val (.int u0), .val (.int u1), .val (.int u2), .val (.int u3), .val (.int u4), .val (.ref b121), .val (.int qq), .val (.int (1 : Int32)), .val (.ref b129), .val (.int rr), .val (.int (0 : Int32)), .unset] [(.int (1 : Int32)), (.int (0 : Int32)), (.ref b121), (.ref b129)]))
      obtain ⟨_, _, ⟨T150, L150, k150, n150⟩, -, X150, ⟨Lc150, hQ150, l150, y150, z150⟩, st150⟩ := Jvm.LawKit.callS X149 hx (y := (⟨"com/example/slotwright/slotwright/problems/IndexSetRemovePinLaw", "at", "(Lcom/example/slotwright/slotwright/problems/IndexSet;[III)Z"⟩ : MethodName)) hown (mvT hZ (hw _ (List.mem_of_getElem? (i := 40) rfl))) (mvT hZ (hw _ (List.mem_of_getElem? (i := 41) rfl))) (mvT hZ (hw _ (List.mem_of_getElem? (i := 4) rfl))) (mvT hZ (hw _ (List.mem_of_getElem? (i := 42) rfl))) (by decide) (backOf (W := 0) (rm8 l Z a0 hw [] b129 b121 (0 : Int32) (1 : Int32) mm131 pp131 4 Mr Pr (((0 : Int32) + (1 : Int32)) - (1 : Int32)) m4 h140 n0 Z140 F141 F142 F143 F144 F145 F146 ne_b129_mm131 ne_b129_pp131 ne_mm131_pp131 g_b129 g_mm131 g_pp131 V140 (by decide) (by decide) (fun q => absurd q (by decide))) hZ (hw _ (List.mem_of_getElem? (i := 42) rfl)) (hw _ (List.mem_of_getElem? (i := 4) rfl)) (by decide) (by decide)) (g := (mkF m 252 #[.val (.int u0), .val (.int u1), .val (.int u2), .val (.int u3), .val (.int u4), .val (.ref b121), .val (.int qq), .val (.int (1 : Int32)), .val (.ref b129), .val (.int rr), .val (.int (0 : Int32)), .unset] [(.int (1 : Int32)), (.int (0 : Int32)), (.ref b121), (.ref b129)])) rfl (by rw [hml]; rfl) (argsL := [(.ref b129), (.ref b121), (.int (0 : Int32)), (.int (1 : Int32))]) (rest := []) (lenOf pd_7 rfl) rfl (by show 2 * 0 + _ ≤ _; exact Nat.le_of_eq rfl) (hb hby at_252) (fun _ _ => ⟨rfl, e149, (by decide : 4 + 0 ≤ _), (by decide : 15 + 0 ≤ _)⟩)
      dsimp only [Pt.U, Pt.locs, Pt.cells, Pt.slots] at X150 l150 y150 z150 st150 hQ150
      replace l150 := l150.symm
      replace y150 := y150.symm
      replace z150 := z150.symm
      subst l150 y150 z150
      obtain ⟨rfl, N150q, e150⟩ := hQ150
      have N150 := Fr.app N149 N150q
      refine Goes.of st150 ?_
      show Goes _ _ _ _ _ _ _ (T150.setTop (mkF m 255 #[.val (.int u0), .val (.int u1), .val (.int u2), .val (.int u3), .val (.int u4), .val (.ref b121), .val (.int qq), .val (.int (1 : Int32)), .val (.ref b129), .val (.int rr), .val (.int (0 : Int32)), .unset] [(.int (1 : Int32))]))
      refine Goes.of (fun t k => XS.ifNo X150.here hx rfl (hb hby at_255) rfl ((if0 _ _).trans (feq (by decide : ¬ ((1 : Int32) = (0 : Int32)))).1) k) ?_
      show Goes _ _ _ _ _ _ _ (T150.setTop (mkF m 258 #[.val (.int u0), .val (.int u1), .val (.int u2), .val (.int u3), .val (.int u4), .val (.ref b121), .val (.int qq), .val (.int (1 : Int32)), .val (.ref b129), .val (.int rr), .val (.int (0 : Int32)), .unset] []))
      refine Goes.of (fun t k => XS.aload X150.here hx rfl (hb hby at_258) rfl rfl k) ?_
      show Goes _ _ _ _ _ _ _ (T150.setTop (mkF m 260 #[.val (.int u0), .val (.int u1), .val (.int u2), .val (.int u3), .val (.int u4), .val (.ref b121), .val (.int qq), .val (.int (1 : Int32)), .val (.ref b129), .val (.int rr), .val (.int (0 : Int32)), .unset] [(.ref b129)]))
      refine Goes.of (fun t k => XS.aload X150.here hx rfl (hb hby at_260) rfl rfl k) ?_
      show Goes _ _ _ _ _ _ _ (T150.setTop (mkF m 262 #[.val (.int u0), .val (.int u1), .val (.int u2), .val (.int u3), .val (.int u4), .val (.ref b121), .val (.int qq), .val (.int (1 : Int32)), .val (.ref b129), .val (.int rr), .val (.int (0 : Int32)), .unset] [(.ref b121), (.ref b129)]))
      refine Goes.of (fun t k => XS.iload X150.here hx rfl (hb hby at_262) rfl k) ?_
      show Goes _ _ _ _ _ _ _ (T150.setTop (mkF m 264 #[.val (.int u0), .val (.int u1), .val (.int u2), .val (.int u3), .val (.int u4), .val (.ref b121), .val (.int qq), .val (.int (1 : Int32)), .val (.ref b129), .val (.int rr), .val (.int (0 : Int32)), .unset] [(.int (0 : Int32)), (.ref b121), (.ref b129)]))
      refine Goes.of (fun t k => XS.iconst X150.here hx rfl (hb hby at_264) k) ?_
      show Goes _ _ _ _ _ _ _ (T150.setTop (mkF m 265 #[.val (.int u0), .val (.int u1), .val (.int u2), .val (.int u3), .val (.int u4), .val (.ref b121), .val (.int qq), .val (.int (1 : Int32)), .val (.ref b129), .val (.int rr), .val (.int (0 : Int32)), .unset] [(.int (2 : Int32)), (.int (0 : Int32)), (.ref b121), (.ref b129)]))
      obtain ⟨_, _, ⟨T151, L151, k151, n151⟩, -, X151, ⟨Lc151, hQ151, l151, y151, z151⟩, st151⟩ := Jvm.LawKit.callS X150 hx (y := (⟨"com/example/slotwright/slotwright/problems/IndexSetRemovePinLaw", "at", "(Lcom/example/slotwright/slotwright/problems/IndexSet;[III)Z"⟩ : MethodName)) hown (mvT hZ (hw _ (List.mem_of_getElem? (i := 40) rfl))) (mvT hZ (hw _ (List.mem_of_getElem? (i := 41) rfl))) (mvT hZ (hw _ (List.mem_of_getElem? (i := 4) rfl))) (mvT hZ (hw _ (List.mem_of_getElem? (i := 42) rfl))) (by decide) (backOf (W := 0) (rm8 l Z a0 hw [] b129 b121 (0 : Int32) (2 : Int32) mm131 pp131 4 Mr Pr (((0 : Int32) + (1 : Int32)) - (1 : Int32)) m4 h140 n0 Z140 F141 F142 F143 F144 F145 F146 ne_b129_mm131 ne_b129_pp131 ne_mm131_pp131 g_b129 g_mm131 g_pp131 V140 (by decide) (by decide) (fun q => absurd q (by decide))) hZ (hw _ (List.mem_of_getElem? (i := 42) rfl)) (hw _ (List.mem_of_getElem? (i := 4) rfl)) (by decide) (by decide)) (g := (mkF m 265 #[.val (.int u0), .val (.int u1), .val (.int u2), .val (.int u3), .val (.int u4), .val (.ref b121), .val (.int qq), .val (.int (1 : Int32)), .val (.ref b129), .val (.int rr), .val (.int (0 : Int32)), .unset] [(.int (2 : Int32)), (.int (0 : Int32)), (.ref b121), (.ref b129)])) rfl (by rw [hml]; rfl) (argsL := [(.ref b129), (.ref b121), (.int (0 : Int32)), (.int (2 : Int32))]) (rest := []) (lenOf pd_7 rfl) rfl (by show 2 * 0 + _ ≤ _; exact Nat.le_of_eq rfl) (hb hby at_265) (fun _ _ => ⟨rfl, e150, (by decide : 4 + 0 ≤ _), (by decide : 15 + 0 ≤ _)⟩)
      dsimp only [Pt.U, Pt.locs, Pt.cells, Pt.slots] at X151 l151 y151 z151 st151 hQ151
      replace l151 := l151.symm
      replace y151 := y151.symm
      replace z151 := z151.symm
      subst l151 y151 z151
      obtain ⟨rfl, N151q, e151⟩ := hQ151
      have N151 := Fr.app N150 N151q
      refine Goes.of st151 ?_
      show Goes _ _ _ _ _ _ _ (T151.setTop (mkF m 268 #[.val (.int u0), .val (.int u1), .val (.int u2), .val (.int u3), .val (.int u4), .val (.ref b121), .val (.int qq), .val (.int (1 : Int32)), .val (.ref b129), .val (.int rr), .val (.int (0 : Int32)), .unset] [(.int (1 : Int32))]))
      refine Goes.of (fun t k => XS.ifNo X151.here hx rfl (hb hby at_268) rfl ((if0 _ _).trans (feq (by decide : ¬ ((1 : Int32) = (0 : Int32)))).1) k) ?_
      show Goes _ _ _ _ _ _ _ (T151.setTop (mkF m 271 #[.val (.int u0), .val (.int u1), .val (.int u2), .val (.int u3), .val (.int u4), .val (.ref b121), .val (.int qq), .val (.int (1 : Int32)), .val (.ref b129), .val (.int rr), .val (.int (0 : Int32)), .unset] []))
      refine Goes.of (fun t k => XS.aload X151.here hx rfl (hb hby at_271) rfl rfl k) ?_
      show Goes _ _ _ _ _ _ _ (T151.setTop (mkF m 273 #[.val (.int u0), .val (.int u1), .val (.int u2), .val (.int u3), .val (.int u4), .val (.ref b121), .val (.int qq), .val (.int (1 : Int32)), .val (.ref b129), .val (.int rr), .val (.int (0 : Int32)), .unset] [(.ref b129)]))
      refine Goes.of (fun t k => XS.aload X151.here hx rfl (hb hby at_273) rfl rfl k) ?_
      show Goes _ _ _ _ _ _ _ (T151.setTop (mkF m 275 #[.val (.int u0), .val (.int u1), .val (.int u2), .val (.int u3), .val (.int u4), .val (.ref b121), .val (.int qq), .val (.int (1 : Int32)), .val (.ref b129), .val (.int rr), .val (.int (0 : Int32)), .unset] [(.ref b121), (.ref b129)]))
      refine Goes.of (fun t k => XS.iload X151.here hx rfl (hb hby at_275) rfl k) ?_
      show Goes _ _ _ _ _ _ _ (T151.setTop (mkF m 277 #[.val (.int u0), .val (.int u1), .val (.int u2), .val (.int u3), .val (.int u4), .val (.ref b121), .val (.int qq), .val (.int (1 : Int32)), .val (.ref b129), .val (.int rr), .val (.int (0 : Int32)), .unset] [(.int (0 : Int32)), (.ref b121), (.ref b129)]))
      refine Goes.of (fun t k => XS.iconst X151.here hx rfl (hb hby at_277) k) ?_
      show Goes _ _ _ _ _ _ _ (T151.setTop (mkF m 278 #[.val (.int u0), .val (.int u1), .val (.int u2), .val (.int u3), .val (.int u4), .val (.ref b121), .val (.int qq), .val (.int (1 : Int32)), .val (.ref b129), .val (.int rr), .val (.int (0 : Int32)), .unset] [(.int (0 : Int32)), (.int (0 : Int32)), (.ref b121), (.ref b129)]))
      obtain ⟨_, _, ⟨T152, L152, k152, n152⟩, -, X152, ⟨Lc152, hQ152, l152, y152, z152⟩, st152⟩ := Jvm.LawKit.callS X151 hx (y := (⟨"com/example/slotwright/slotwright/problems/IndexSetRemovePinLaw", "in", "(Lcom/example/slotwright/slotwright/problems/IndexSet;[III)Z"⟩ : MethodName)) hown (mvT hZ (hw _ (List.mem_of_getElem? (i := 48) rfl))) (mvT hZ (hw _ (List.mem_of_getElem? (i := 49) rfl))) (mvT hZ (hw _ (List.mem_of_getElem? (i := 4) rfl))) (mvT hZ (hw _ (List.mem_of_getElem? (i := 50) rfl))) (by decide) (backOf (W := 0) (rm10 l Z a0 hw [] b129 b121 (0 : Int32) (0 : Int32) mm131 pp131 4 Mr Pr (((0 : Int32) + (1 : Int32)) - (1 : Int32)) m4 h140 n0 Z140 F141 F142 F143 F144 F145 F146 ne_b129_mm131 ne_b129_pp131 ne_mm131_pp131 g_b129 g_mm131 g_pp131 V140 ⟨by decide, by decide⟩ (by decide) (own_chk hIr (by decide) (by decide) ⟨by decide, by decide⟩)) hZ (hw _ (List.mem_of_getElem? (i := 50) rfl)) (hw _ (List.mem_of_getElem? (i := 4) rfl)) (by decide) (by decide)) (g := (mkF m 278 #[.val (.int u0), .val (.int u1), .val (.int u2), .val (.int u3), .val (.int u4), .val (.ref b121), .val (.int qq), .val (.int (1 : Int32)), .val (.ref b129), .val (.int rr), .val (.int (0 : Int32)), .unset] [(.int (0 : Int32)), (.int (0 : Int32)), (.ref b121), (.ref b129)])) rfl (by rw [hml]; rfl) (argsL := [(.ref b129), (.ref b121), (.int (0 : Int32)), (.int (0 : Int32))]) (rest := []) (lenOf pd_7 rfl) rfl (by show 2 * 0 + _ ≤ _; exact Nat.le_of_eq rfl) (hb hby at_278) (fun _ _ => ⟨rfl, e151, (by decide : 4 + 0 ≤ _), (by decide : 15 + 0 ≤ _)⟩)
      dsimp only [Pt.U, Pt.locs, Pt.cells, Pt.slots] at X152 l152 y152 z152 st152 hQ152
      replace l152 := l152.symm
      replace y152 := y152.symm
      replace z152 := z152.symm
      subst l152 y152 z152
      obtain ⟨rfl, N152q, e152⟩ := hQ152
      have N152 := Fr.app N151 N152q
      refine Goes.of st152 ?_
      show Goes _ _ _ _ _ _ _ (T152.setTop (mkF m 281 #[.val (.int u0), .val (.int u1), .val (.int u2), .val (.int u3), .val (.int u4), .val (.ref b121), .val (.int qq), .val (.int (1 : Int32)), .val (.ref b129), .val (.int rr), .val (.int (0 : Int32)), .unset] [(.int (1 : Int32))]))
      refine Goes.of (fun t k => XS.ifNo X152.here hx rfl (hb hby at_281) rfl ((if0 _ _).trans (feq (by decide : ¬ ((1 : Int32) = (0 : Int32)))).1) k) ?_
      show Goes _ _ _ _ _ _ _ (T152.setTop (mkF m 284 #[.val (.int u0), .val (.int u1), .val (.int u2), .val (.int u3), .val (.int u4), .val (.ref b121), .val (.int qq), .val (.int (1 : Int32)), .val (.ref b129), .val (.int rr), .val (.int (0 : Int32)), .unset] []))
      refine Goes.of (fun t k => XS.aload X152.here hx rfl (hb hby at_284) rfl rfl k) ?_
      show Goes _ _ _ _ _ _ _ (T152.setTop (mkF m 286 #[.val (.int u0), .val (.int u1), .val (.int u2), .val (.int u3), .val (.int u4), .val (.ref b121), .val (.int qq), .val (.int (1 : Int32)), .val (.ref b129), .val (.int rr), .val (.int (0 : Int32)), .unset] [(.ref b129)]))
      refine Goes.of (fun t k => XS.aload X152.here hx rfl (hb hby at_286) rfl rfl k) ?_
      show Goes _ _ _ _ _ _ _ (T152.setTop (mkF m 288 #[.val (.int u0), .val (.int u1), .val (.int u2), .val (.int u3), .val (.int u4), .val (.ref b121), .val (.int qq), .val (.int (1 : Int32)), .val (.ref b129), .val (.int rr), .val (.int (0 : Int32)), .unset] [(.ref b121), (.ref b129)]))
      refine Goes.of (fun t k => XS.iload X152.here hx rfl (hb hby at_288) rfl k) ?_
      show Goes _ _ _ _ _ _ _ (T152.setTop (mkF m 290 #[.val (.int u0), .val (.int u1), .val (.int u2), .val (.int u3), .val (.int u4), .val (.ref b121), .val (.int qq), .val (.int (1 : Int32)), .val (.ref b129), .val (.int rr), .val (.int (0 : Int32)), .unset] [(.int (0 : Int32)), (.ref b121), (.ref b129)]))
      refine Goes.of (fun t k => XS.iconst X152.here hx rfl (hb hby at_290) k) ?_
      show Goes _ _ _ _ _ _ _ (T152.setTop (mkF m 291 #[.val (.int u0), .val (.int u1), .val (.int u2), .val (.int u3), .val (.int u4), .val (.ref b121), .val (.int qq), .val (.int (1 : Int32)), .val (.ref b129), .val (.int rr), .val (.int (0 : Int32)), .unset] [(.int (1 : Int32)), (.int (0 : Int32)), (.ref b121), (.ref b129)]))
      obtain ⟨_, _, ⟨T153, L153, k153, n153⟩, -, X153, ⟨Lc153, hQ153, l153, y153, z153⟩, st153⟩ := Jvm.LawKit.callS X152 hx (y := (⟨"com/example/slotwright/slotwright/problems/IndexSetRemovePinLaw", "in", "(Lcom/example/slotwright/slotwright/problems/IndexSet;[III)Z"⟩ : MethodName)) hown (mvT hZ (hw _ (List.mem_of_getElem? (i := 48) rfl))) (mvT hZ (hw _ (List.mem_of_getElem? (i := 49) rfl))) (mvT hZ (hw _ (List.mem_of_getElem? (i := 4) rfl))) (mvT hZ (hw _ (List.mem_of_getElem? (i := 50) rfl))) (by decide) (backOf (W := 0) (rm10 l Z a0 hw [] b129 b121 (0 : Int32) (1 : Int32) mm131 pp131 4 Mr Pr (((0 : Int32) + (1 : Int32)) - (1 : Int32)) m4 h140 n0 Z140 F141 F142 F143 F144 F145 F146 ne_b129_mm131 ne_b129_pp131 ne_mm131_pp131 g_b129 g_mm131 g_pp131 V140 ⟨by decide, by decide⟩ (by decide) (own_chk hIr (by decide) (by decide) ⟨by decide, by decide⟩)) hZ (hw _ (List.mem_of_getElem? (i := 50) rfl)) (hw _ (List.mem_of_getElem? (i := 4) rfl)) (by decide) (by decide)) (g := (mkF m 291 #[.val (.int u0), .val (.int u1), .val (.int u2), .val (.int u3), .val (.int u4), .val (.ref b121), .val (.int qq), .val (.int (1 : Int32)), .val (.ref b129), .val (.int rr), .val (.int (0 : Int32)), .unset] [(.int (1 : Int32)), (.int (0 : Int32)), (.ref b121), (.ref b129)])) rfl (by rw [hml]; rfl) (argsL := [(.ref b129), (.ref b121), (.int (0 : Int32)), (.int (1 : Int32))]) (rest := []) (lenOf pd_7 rfl) rfl (by show 2 * 0 + _ ≤ _; exact Nat.le_of_eq rfl) (hb hby at_291) (fun _ _ => ⟨rfl, e152, (by decide : 4 + 0 ≤ _), (by decide : 15 + 0 ≤ _)⟩)
      dsimp only [Pt.U, Pt.locs, Pt.cells, Pt.slots] at X153 l153 y153 z153 st153 hQ153
      replace l153 := l153.symm
      replace y153 := y153.symm
      replace z153 := z153.symm
      subst l153 y153 z153
      obtain ⟨rfl, N153q, e153⟩ := hQ153
      have N153 := Fr.app N152 N153q
      refine Goes.of st153 ?_
      show Goes _ _ _ _ _ _ _ (T153.setTop (mkF m 294 #[.val (.int u0), .val (.int u1), .val (.int u2), .val (.int u3), .val (.int u4), .val (.ref b121), .val (.int qq), .val (.int (1 : Int32)), .val (.ref b129), .val (.int rr), .val (.int (0 : Int32)), .unset] [(.int (1 : Int32))]))
      refine Goes.of (fun t k => XS.ifNo X153.here hx rfl (hb hby at_294) rfl ((if0 _ _).trans (feq (by decide : ¬ ((1 : Int32) = (0 : Int32)))).1) k) ?_
      show Goes _ _ _ _ _ _ _ (T153.setTop (mkF m 297 #[.val (.int u0), .val (.int u1), .val (.int u2), .val (.int u3), .val (.int u4), .val (.ref b121), .val (.int qq), .val (.int (1 : Int32)), .val (.ref b129), .val (.int rr), .val (.int (0 : Int32)), .unset] []))
      refine Goes.of (fun t k => XS.aload X153.here hx rfl (hb hby at_297) rfl rfl k) ?_
      show Goes _ _ _ _ _ _ _ (T153.setTop (mkF m 299 #[.val (.int u0), .val (.int u1), .val (.int u2), .val (.int u3), .val (.int u4), .val (.ref b121), .val (.int qq), .val (.int (1 : Int32)), .val (.ref b129), .val (.int rr), .val (.int (0 : Int32)), .unset] [(.ref b129)]))
      refine Goes.of (fun t k => XS.aload X153.here hx rfl (hb hby at_299) rfl rfl k) ?_
      show Goes _ _ _ _ _ _ _ (T153.setTop (mkF m 301 #[.val (.int u0), .val (.int u1), .val (.int u2), .val (.int u3), .val (.int u4), .val (.ref b121), .val (.int qq), .val (.int (1 : Int32)), .val (.ref b129), .val (.int rr), .val (.int (0 : Int32)), .unset] [(.ref b121), (.ref b129)]))
      refine Goes.of (fun t k => XS.iload X153.here hx rfl (hb hby at_301) rfl k) ?_
      show Goes _ _ _ _ _ _ _ (T153.setTop (mkF m 303 #[.val (.int u0), .val (.int u1), .val (.int u2), .val (.int u3), .val (.int u4), .val (.ref b121), .val (.int qq), .val (.int (1 : Int32)), .val (.ref b129), .val (.int rr), .val (.int (0 : Int32)), .unset] [(.int (0 : Int32)), (.ref b121), (.ref b129)]))
      refine Goes.of (fun t k => XS.iconst X153.here hx rfl (hb hby at_303) k) ?_
      show Goes _ _ _ _ _ _ _ (T153.setTop (mkF m 304 #[.val (.int u0), .val (.int u1), .val (.int u2), .val (.int u3), .val (.int u4), .val (.ref b121), .val (.int qq), .val (.int (1 : Int32)), .val (.ref b129), .val (.int rr), .val (.int (0 : Int32)), .unset] [(.int (2 : Int32)), (.int (0 : Int32)), (.ref b121), (.ref b129)]))
      obtain ⟨_, _, ⟨T154, L154, k154, n154⟩, -, X154, ⟨Lc154, hQ154, l154, y154, z154⟩, st154⟩ := Jvm.LawKit.callS X153 hx (y := (⟨"com/example/slotwright/slotwright/problems/IndexSetRemovePinLaw", "in", "(Lcom/example/slotwright/slotwright/problems/IndexSet;[III)Z"⟩ : MethodName)) hown (mvT hZ (hw _ (List.mem_of_getElem? (i := 48) rfl))) (mvT hZ (hw _ (List.mem_of_getElem? (i := 49) rfl))) (mvT hZ (hw _ (List.mem_of_getElem? (i := 4) rfl))) (mvT hZ (hw _ (List.mem_of_getElem? (i := 50) rfl))) (by decide) (backOf (W := 0) (rm10 l Z a0 hw [] b129 b121 (0 : Int32) (2 : Int32) mm131 pp131 4 Mr Pr (((0 : Int32) + (1 : Int32)) - (1 : Int32)) m4 h140 n0 Z140 F141 F142 F143 F144 F145 F146 ne_b129_mm131 ne_b129_pp131 ne_mm131_pp131 g_b129 g_mm131 g_pp131 V140 ⟨by decide, by decide⟩ (by decide) (own_chk hIr (by decide) (by decide) ⟨by decide, by decide⟩)) hZ (hw _ (List.mem_of_getElem? (i := 50) rfl)) (hw _ (List.mem_of_getElem? (i := 4) rfl)) (by decide) (by decide)) (g := (mkF m 304 #[.val (.int u0), .val (.int u1), .val (.int u2), .val (.int u3), .val (.int u4), .val (.ref b121), .val (.int qq), .val (.int (1 : Int32)), .val (.ref b129), .val (.int rr), .val (.int (0 : Int32)), .unset] [(.int (2 : Int32)), (.int (0 : Int32)), (.ref b121), (.ref b129)])) rfl (by rw [hml]; rfl) (argsL := [(.ref b129), (.ref b121), (.int (0 : Int32)), (.int (2 : Int32))]) (rest := []) (lenOf pd_7 rfl) rfl (by show 2 * 0 + _ ≤ _; exact Nat.le_of_eq rfl) (hb hby at_304) (fun _ _ => ⟨rfl, e153, (by decide : 4 + 0 ≤ _), (by decide : 15 + 0 ≤ _)⟩)
      dsimp only [Pt.U, Pt.locs, Pt.cells, Pt.slots] at X154 l154 y154 z154 st154 hQ154
      replace l154 := l154.symm
      replace y154 := y154.symm
      replace z154 := z154.symm
      subst l154 y154 z154
      obtain ⟨rfl, N154q, e154⟩ := hQ154
      have N154 := Fr.app N153 N154q
      refine Goes.of st154 ?_
      show Goes _ _ _ _ _ _ _ (T154.setTop (mkF m 307 #[.val (.int u0), .val (.int u1), .val (.int u2), .val (.int u3), .val (.int u4), .val (.ref b121), .val (.int qq), .val (.int (1 : Int32)), .val (.ref b129), .val (.int rr), .val (.int (0 : Int32)), .unset] [(.int (1 : Int32))]))
      refine Goes.of (fun t k => XS.ifNo X154.here hx rfl (hb hby at_307) rfl ((if0 _ _).trans (feq (by decide : ¬ ((1 : Int32) = (0 : Int32)))).1) k) ?_
      show Goes _ _ _ _ _ _ _ (T154.setTop (mkF m 310 #[.val (.int u0), .val (.int u1), .val (.int u2), .val (.int u3), .val (.int u4), .val (.ref b121), .val (.int qq), .val (.int (1 : Int32)), .val (.ref b129), .val (.int rr), .val (.int (0 : Int32)), .unset] []))
      refine Goes.of (fun t k => XS.aload X154.here hx rfl (hb hby at_310) rfl rfl k) ?_
      show Goes _ _ _ _ _ _ _ (T154.setTop (mkF m 312 #[.val (.int u0), .val (.int u1), .val (.int u2), .val (.int u3), .val (.int u4), .val (.ref b121), .val (.int qq), .val (.int (1 : Int32)), .val (.ref b129), .val (.int rr), .val (.int (0 : Int32)), .unset] [(.ref b129)]))
      refine Goes.of (fun t k => XS.aload X154.here hx rfl (hb hby at_312) rfl rfl k) ?_
      show Goes _ _ _ _ _ _ _ (T154.setTop (mkF m 314 #[.val (.int u0), .val (.int u1), .val (.int u2), .val (.int u3), .val (.int u4), .val (.ref b121), .val (.int qq), .val (.int (1 : Int32)), .val (.ref b129), .val (.int rr), .val (.int (0 : Int32)), .unset] [(.ref b121), (.ref b129)]))
      refine Goes.of (fun t k => XS.iload X154.here hx rfl (hb hby at_314) rfl k) ?_
      show Goes _ _ _ _ _ _ _ (T154.setTop (mkF m 316 #[.val (.int u0), .val (.int u1), .val (.int u2), .val (.int u3), .val (.int u4), .val (.ref b121), .val (.int qq), .val (.int (1 : Int32)), .val (.ref b129), .val (.int rr), .val (.int (0 : Int32)), .unset] [(.int (0 : Int32)), (.ref b121), (.ref b129)]))
      refine Goes.of (fun t k => XS.iconst X154.here hx rfl (hb hby at_316) k) ?_
      show Goes _ _ _ _ _ _ _ (T154.setTop (mkF m 317 #[.val (.int u0), .val (.int u1), .val (.int u2), .val (.int u3), .val (.int u4), .val (.ref b121), .val (.int qq), .val (.int (1 : Int32)), .val (.ref b129), .val (.int rr), .val (.int (0 : Int32)), .unset] [(.int (3 : Int32)), (.int (0 : Int32)), (.ref b121), (.ref b129)]))
      obtain ⟨_, _, ⟨T155, L155, k155, n155⟩, -, X155, ⟨Lc155, hQ155, l155, y155, z155⟩, st155⟩ := Jvm.LawKit.callS X154 hx (y := (⟨"com/example/slotwright/slotwright/problems/IndexSetRemovePinLaw", "in", "(Lcom/example/slotwright/slotwright/problems/IndexSet;[III)Z"⟩ : MethodName)) hown (mvT hZ (hw _ (List.mem_of_getElem? (i := 48) rfl))) (mvT hZ (hw _ (List.mem_of_getElem? (i := 49) rfl))) (mvT hZ (hw _ (List.mem_of_getElem? (i := 4) rfl))) (mvT hZ (hw _ (List.mem_of_getElem? (i := 50) rfl))) (by decide) (backOf (W := 0) (rm10 l Z a0 hw [] b129 b121 (0 : Int32) (3 : Int32) mm131 pp131 4 Mr Pr (((0 : Int32) + (1 : Int32)) - (1 : Int32)) m4 h140 n0 Z140 F141 F142 F143 F144 F145 F146 ne_b129_mm131 ne_b129_pp131 ne_mm131_pp131 g_b129 g_mm131 g_pp131 V140 ⟨by decide, by decide⟩ (by decide) (own_chk hIr (by decide) (by decide) ⟨by decide, by decide⟩)) hZ (hw _ (List.mem_of_getElem? (i := 50) rfl)) (hw _ (List.mem_of_getElem? (i := 4) rfl)) (by decide) (by decide)) (g := (mkF m 317 #[.val (.int u0), .val (.int u1), .val (.int u2), .val (.int u3), .val (.int u4), .val (.ref b121), .val (.int qq), .val (.int (1 : Int32)), .val (.ref b129), .val (.int rr), .val (.int (0 : Int32)), .unset] [(.int (3 : Int32)), (.int (0 : Int32)), (.ref b121), (.ref b129)])) rfl (by rw [hml]; rfl) (argsL := [(.ref b129), (.ref b121), (.int (0 : Int32)), (.int (3 : Int32))]) (rest := []) (lenOf pd_7 rfl) rfl (by show 2 * 0 + _ ≤ _; exact Nat.le_of_eq rfl) (hb hby at_317) (fun _ _ => ⟨rfl, e154, (by decide : 4 + 0 ≤ _), (by decide : 15 + 0 ≤ _)⟩)
      dsimp only [Pt.U, Pt.locs, Pt.cells, Pt.slots] at X155 l155 y155 z155 st155 hQ155
      replace l155 := l155.symm
      replace y155 := y155.symm
      replace z155 := z155.symm
      subst l155 y155 z155
      obtain ⟨rfl, N155q, e155⟩ := hQ155
      have N155 := Fr.app N154 N155q
      refine Goes.of st155 ?_
      show Goes _ _ _ _ _ _ _ (T155.setTop (mkF m 320 #[.val (.int u0), .val (.int u1), .val (.int u2), .val (.int u3), .val (.int u4), .val (.ref b121), .val (.int qq), .val (.int (1 : Int32)), .val (.ref b129), .val (.int rr), .val (.int (0 : Int32)), .unset] [(.int (1 : Int32))]))
      refine Goes.of (fun t k => XS.ifNo X155.here hx rfl (hb hby at_320) rfl ((if0 _ _).trans (feq (by decide : ¬ ((1 : Int32) = (0 : Int32)))).1) k) ?_
      show Goes _ _ _ _ _ _ _ (T155.setTop (mkF m 323 #[.val (.int u0), .val (.int u1), .val (.int u2), .val (.int u3), .val (.int u4), .val (.ref b121), .val (.int qq), .val (.int (1 : Int32)), .val (.ref b129), .val (.int rr), .val (.int (0 : Int32)), .unset] []))
      refine Goes.of (fun t k => XS.iconst X155.here hx rfl (hb hby at_323) k) ?_
      show Goes _ _ _ _ _ _ _ (T155.setTop (mkF m 324 #[.val (.int u0), .val (.int u1), .val (.int u2), .val (.int u3), .val (.int u4), .val (.ref b121), .val (.int qq), .val (.int (1 : Int32)), .val (.ref b129), .val (.int rr), .val (.int (0 : Int32)), .unset] [(.int (1 : Int32))]))
      refine Goes.of (fun t k => XS.goto X155.here hx rfl (pc0 := 324) (pc' := 328) rfl (hb hby at_324) (by decide) (by decide) k) ?_
      show Goes _ _ _ _ _ _ _ (T155.setTop (mkF m 328 #[.val (.int u0), .val (.int u1), .val (.int u2), .val (.int u3), .val (.int u4), .val (.ref b121), .val (.int qq), .val (.int (1 : Int32)), .val (.ref b129), .val (.int rr), .val (.int (0 : Int32)), .unset] [(.int (1 : Int32))]))
      exact Goes.fin X155 hlk (v := some (.int (1 : Int32))) (fun h => by rw [Bd.returns] at h; cases h) (fun fs hr => retN X155 hx (t := .boolean) Bd.returns (by simp) (hb hby at_328) hr) ⟨rfl, N155⟩ (by decide) (by decide)
    · refine Goes.of (fun t k => XS.ifNo X140.here hx rfl (hb hby at_177) rfl ((if0 _ _).trans (feq hc147).1) k) ?_
      show Goes _ _ _ _ _ _ _ (T140.setTop (mkF m 180 #[.val (.int u0), .val (.int u1), .val (.int u2), .val (.int u3), .val (.int u4), .val (.ref b121), .val (.int qq), .val (.int (1 : Int32)), .val (.ref b129), .val (.int rr), .val (.int (0 : Int32)), .unset] []))
      refine Goes.of (fun t k => XS.iload X140.here hx rfl (hb hby at_180) rfl k) ?_
      show Goes _ _ _ _ _ _ _ (T140.setTop (mkF m 182 #[.val (.int u0), .val (.int u1), .val (.int u2), .val (.int u3), .val (.int u4), .val (.ref b121), .val (.int qq), .val (.int (1 : Int32)), .val (.ref b129), .val (.int rr), .val (.int (0 : Int32)), .unset] [(.int (0 : Int32))]))
      refine Goes.of (fun t k => XS.ifYes X140.here hx rfl (pc0 := 182) (pc' := 222) rfl (hb hby at_182) rfl ((if0 _ _).trans (flt (by decide : ¬ ((0 : Int32) < (0 : Int32)))).2.2.2) (by decide) (by decide) k) ?_
      show Goes _ _ _ _ _ _ _ (T140.setTop (mkF m 222 #[.val (.int u0), .val (.int u1), .val (.int u2), .val (.int u3), .val (.int u4), .val (.ref b121), .val (.int qq), .val (.int (1 : Int32)), .val (.ref b129), .val (.int rr), .val (.int (0 : Int32)), .unset] []))
      refine Goes.of (fun t k => XS.aload X140.here hx rfl (hb hby at_222) rfl rfl k) ?_
      show Goes _ _ _ _ _ _ _ (T140.setTop (mkF m 224 #[.val (.int u0), .val (.int u1), .val (.int u2), .val (.int u3), .val (.int u4), .val (.ref b121), .val (.int qq), .val (.int (1 : Int32)), .val (.ref b129), .val (.int rr), .val (.int (0 : Int32)), .unset] [(.ref b129)]))
      obtain ⟨cq156, kq156, q156a, q156b, q156c⟩ := isOf hZ e140 F141
      obtain ⟨_, _, ⟨T156, L156, k156, n156⟩, -, X156, ⟨Lc156, hQ156, l156, y156, z156⟩, st156⟩ := X140.virtualBack hx (y := (⟨"com/example/slotwright/slotwright/problems/IndexSet", "size", "()I"⟩ : MethodName)) (z := (⟨"com/example/slotwright/slotwright/problems/IndexSet", "size", "()I"⟩ : MethodName)) hown (mvT hZ (hw _ (List.mem_of_getElem? (i := 35) rfl))) (mvT hZ (hw _ (List.mem_of_getElem? (i := 36) rfl))) (notFace_of_selects (args := #[]) (mvT hZ (hw _ (List.mem_of_getElem? (i := 38) rfl)))) (mvT hZ (hw _ (List.mem_of_getElem? (i := 38) rfl))) (mvT hZ (hw _ (List.mem_of_getElem? (i := 37) rfl))) (by decide) (backOf (W := 0) (rm7 l Z a0 hw [] b129 mm131 pp131 4 Mr Pr (((0 : Int32) + (1 : Int32)) - (1 : Int32)) h140 n0 Z140 F141 F142 F143 F144 F145 F146 ne_b129_mm131 ne_b129_pp131 ne_mm131_pp131 g_b129 g_mm131 g_pp131) hZ (hw _ (List.mem_of_getElem? (i := 39) rfl)) (hw _ (List.mem_of_getElem? (i := 8) rfl)) (by decide) (by decide)) q156a q156c (g := (mkF m 224 #[.val (.int u0), .val (.int u1), .val (.int u2), .val (.int u3), .val (.int u4), .val (.ref b121), .val (.int qq), .val (.int (1 : Int32)), .val (.ref b129), .val (.int rr), .val (.int (0 : Int32)), .unset] [(.ref b129)])) rfl (by rw [hml]; rfl) (Steps.refl _) (argsL := []) (rest := []) (lenOf pd_6 rfl) rfl (by show 2 * 0 + _ ≤ _; exact Nat.le_of_eq rfl) (hb hby at_224) (fun _ _ => ⟨rfl, e140, (by decide : 4 + 0 ≤ _), (by decide : 15 + 0 ≤ _)⟩)
      dsimp only [Pt.U, Pt.locs, Pt.cells, Pt.slots] at X156 l156 y156 z156 st156 hQ156
      replace l156 := l156.symm
      replace y156 := y156.symm
      replace z156 := z156.symm
      subst l156 y156 z156
      obtain ⟨rfl, N156q, e156⟩ := hQ156
      have N156 := Fr.app N140 N156q
      refine Goes.of (fun t k => st156.trans k) ?_
      show Goes _ _ _ _ _ _ _ (T156.setTop (mkF m 227 #[.val (.int u0), .val (.int u1), .val (.int u2), .val (.int u3), .val (.int u4), .val (.ref b121), .val (.int qq), .val (.int (1 : Int32)), .val (.ref b129), .val (.int rr), .val (.int (0 : Int32)), .unset] [(.int (((0 : Int32) + (1 : Int32)) - (1 : Int32)))]))
      refine Goes.of (fun t k => XS.iload X156.here hx rfl (hb hby at_227) rfl k) ?_
      show Goes _ _ _ _ _ _ _ (T156.setTop (mkF m 229 #[.val (.int u0), .val (.int u1), .val (.int u2), .val (.int u3), .val (.int u4), .val (.ref b121), .val (.int qq), .val (.int (1 : Int32)), .val (.ref b129), .val (.int rr), .val (.int (0 : Int32)), .unset] [(.int (0 : Int32)), (.int (((0 : Int32) + (1 : Int32)) - (1 : Int32)))]))
      refine Goes.of (fun t k => XS.icmpNo X156.here hx rfl (hb hby at_229) rfl (teq (by decide)).2 k) ?_
      show Goes _ _ _ _ _ _ _ (T156.setTop (mkF m 232 #[.val (.int u0), .val (.int u1), .val (.int u2), .val (.int u3), .val (.int u4), .val (.ref b121), .val (.int qq), .val (.int (1 : Int32)), .val (.ref b129), .val (.int rr), .val (.int (0 : Int32)), .unset] []))
      refine Goes.of (fun t k => XS.aload X156.here hx rfl (hb hby at_232) rfl rfl k) ?_
      show Goes _ _ _ _ _ _ _ (T156.setTop (mkF m 234 #[.val (.int u0), .val (.int u1), .val (.int u2), .val (.int u3), .val (.int u4), .val (.ref b121), .val (.int qq), .val (.int (1 : Int32)), .val (.ref b129), .val (.int rr), .val (.int (0 : Int32)), .unset] [(.ref b129)]))
      refine Goes.of (fun t k => XS.aload X156.here hx rfl (hb hby at_234) rfl rfl k) ?_
      show Goes _ _ _ _ _ _ _ (T156.setTop (mkF m 236 #[.val (.int u0), .val (.int u1), .val (.int u2), .val (.int u3), .val (.int u4), .val (.ref b121), .val (.int qq), .val (.int (1 : Int32)), .val (.ref b129), .val (.int rr), .val (.int (0 : Int32)), .unset] [(.ref b121), (.ref b129)]))
      refine Goes.of (fun t k => XS.iload X156.here hx rfl (hb hby at_236) rfl k) ?_
      show Goes _ _ _ _ _ _ _ (T156.setTop (mkF m 238 #[.val (.int u0), .val (.int u1), .val (.int u2), .val (.int u3), .val (.int u4), .val (.ref b121), .val (.int qq), .val (.int (1 : Int32)), .val (.ref b129), .val (.int rr), .val (.int (0 : Int32)), .unset] [(.int (0 : Int32)), (.ref b121), (.ref b129)]))
      refine Goes.of (fun t k => XS.iconst X156.here hx rfl (hb hby at_238) k) ?_
      show Goes _ _ _ _ _ _ _ (T156.setTop (mkF m 239 #[.val (.int u0), .val (.int u1), .val (.int u2), .val (.int u3), .val (.int u4), .val (.ref b121), .val (.int qq), .val (.int (1 : Int32)), .val (.ref b129), .val (.int rr), .val (.int (0 : Int32)), .unset] [(.int (0 : Int32)), (.int (0 : Int32)), (.ref b121), (.ref b129)]))
      obtain ⟨_, _, ⟨T157, L157, k157, n157⟩, -, X157, ⟨Lc157, hQ157, l157, y157, z157⟩, st157⟩ := Jvm.LawKit.callS X156 hx (y := (⟨"com/example/slotwright/slotwright/problems/IndexSetRemovePinLaw", "at", "(Lcom/example/slotwright/slotwright/problems/IndexSet;[III)Z"⟩ : MethodName)) hown (mvT hZ (hw _ (List.mem_of_getElem? (i := 40) rfl))) (mvT hZ (hw _ (List.mem_of_getElem? (i := 41) rfl))) (mvT hZ (hw _ (List.mem_of_getElem? (i := 4) rfl))) (mvT hZ (hw _ (List.mem_of_getElem? (i := 42) rfl))) (by decide) (backOf (W := 0) (rm8 l Z a0 hw [] b129 b121 (0 : Int32) (0 : Int32) mm131 pp131 4 Mr Pr (((0 : Int32) + (1 : Int32)) - (1 : Int32)) m4 h140 n0 Z140 F141 F142 F143 F144 F145 F146 ne_b129_mm131 ne_b129_pp131 ne_mm131_pp131 g_b129 g_mm131 g_pp131 V140 (by decide) (by decide) (fun q => absurd q (by decide))) hZ (hw _ (List.mem_of_getElem? (i := 42) rfl)) (hw _ (List.mem_of_getElem? (i := 4) rfl)) (by decide) (by decide)) (g := (mkF m 239 #[.val (.int u0), .val (.int u1), .val (.int u2), .val (.int u3), .val (.int u4), .val (.ref b121), .val (.int qq), .val (.int (1 : Int32)), .val (.ref b129), .val (.int rr), .val (.int (0 : Int32)), .unset] [(.int (0 : Int32)), (.int (0 : Int32)), (.ref b121), (.ref b129)])) rfl (by rw [hml]; rfl) (argsL := [(.ref b129), (.ref b121), (.int (0 : Int32)), (.int (0 : Int32))]) (rest := []) (lenOf pd_7 rfl) rfl (by show 2 * 0 + _ ≤ _; exact Nat.le_of_eq rfl) (hb hby at_239) (fun _ _ => ⟨rfl, e156, (by decide : 4 + 0 ≤ _), (by decide : 15 + 0 ≤ _)⟩)
      dsimp only [Pt.U, Pt.locs, Pt.cells, Pt.slots] at X157 l157 y157 z157 st157 hQ157
      replace l157 := l157.symm
      replace y157 := y157.symm
      replace z157 := z157.symm
      subst l157 y157 z157
      obtain ⟨rfl, N157q, e157⟩ := hQ157
      have N157 := Fr.app N156 N157q
      refine Goes.of st157 ?_
      show Goes _ _ _ _ _ _ _ (T157.setTop (mkF m 242 #[.val (.int u0), .val (.int u1), .val (.int u2), .val (.int u3), .val (.int u4), .val (.ref b121), .val (.int qq), .val (.int (1 : Int32)), .val (.ref b129), .val (.int rr), .val (.int (0 : Int32)), .unset] [(.int (1 : Int32))]))
      refine Goes.of (fun t k => XS.ifNo X157.here hx rfl (hb hby at_242) rfl ((if0 _ _).trans (feq (by decide : ¬ ((1 : Int32) = (0 : Int32)))).1) k) ?_
      show Goes _ _ _ _ _ _ _ (T157.setTop (mkF m 245 #[.val (.int u0), .val (.int u1), .val (.int u2), .val (.int u3), .val (.int u4), .val (.ref b121), .val (.int qq), .val (.int (1 : Int32)), .val (.ref b129), .val (.int rr), .val (.int (0 : Int32)), .unset] []))
      refine Goes.of (fun t k => XS.aload X157.here hx rfl (hb hby at_245) rfl rfl k) ?_
      show Goes _ _ _ _ _ _ _ (T157.setTop (mkF m 247 #[.val (.int u0), .val (.int u1), .val (.int u2), .val (.int u3), .val (.int u4), .val (.ref b121), .val (.int qq), .val (.int (1 : Int32)), .val (.ref b129), .val (.int rr), .val (.int (0 : Int32)), .unset] [(.ref b129)]))
      refine Goes.of (fun t k => XS.aload X157.here hx rfl (hb hby at_247) rfl rfl k) ?_
      show Goes _ _ _ _ _ _ _ (T157.setTop (mkF m 249 #[.val (.int u0), .val (.int u1), .val (.int u2), .val (.int u3), .val (.int u4), .val (.ref b121), .val (.int qq), .val (.int (1 : Int32)), .val (.ref b129), .val (.int rr), .val (.int (0 : Int32)), .unset] [(.ref b121), (.ref b129)]))
      refine Goes.of (fun t k => XS.iload X157.here hx rfl (hb hby at_249) rfl k) ?_
      show Goes _ _ _ _ _ _ _ (T157.setTop (mkF m 251 #[.val (.int u0), .val (.int u1), .val (.int u2), .val (.int u3), .val (.int u4), .val (.ref b121), .val (.int qq), .val (.int (1 : Int32)), .val (.ref b129), .val (.int rr), .val (.int (0 : Int32)), .unset] [(.int (0 : Int32)), (.ref b121), (.ref b129)]))
      refine Goes.of (fun t k => XS.iconst X157.here hx rfl (hb hby at_251) k) ?_
      show Goes _ _ _ _ _ _ _ (T157.setTop (mkF m 252 #[.val (.int u0), .val (.int u1), .val (.int u2), .val (.int u3), .val (.int u4), .val (.ref b121), .val (.int qq), .val (.int (1 : Int32)), .val (.ref b129), .val (.int rr), .val (.int (0 : Int32)), .unset] [(.int (1 : Int32)), (.int (0 : Int32)), (.ref b121), (.ref b129)]))
      obtain ⟨_, _, ⟨T158, L158, k158, n158⟩, -, X158, ⟨Lc158, hQ158, l158, y158, z158⟩, st158⟩ := Jvm.LawKit.callS X157 hx (y := (⟨"com/example/slotwright/slotwright/problems/IndexSetRemovePinLaw", "at", "(Lcom/example/slotwright/slotwright/problems/IndexSet;[III)Z"⟩ : MethodName)) hown (mvT hZ (hw _ (List.mem_of_getElem? (i := 40) rfl))) (mvT hZ (hw _ (List.mem_of_getElem? (i := 41) rfl))) (mvT hZ (hw _ (List.mem_of_getElem? (i := 4) rfl))) (mvT hZ (hw _ (List.mem_of_getElem? (i := 42) rfl))) (by decide) (backOf (W := 0) (rm8 l Z a0 hw [] b129 b121 (0 : Int32) (1 : Int32) mm131 pp131 4 Mr Pr (((0 : Int32) + (1 : Int32)) - (1 : Int32)) m4 h140 n0 Z140 F141 F142 F143 F144 F145 F146 ne_b129_mm131 ne_b129_pp131 ne_mm131_pp131 g_b129 g_mm131 g_pp131 V140 (by decide) (by decide) (fun q => absurd q (by decide))) hZ (hw _ (List.mem_of_getElem? (i := 42) rfl)) (hw _ (List.mem_of_getElem? (i := 4) rfl)) (by decide) (by decide)) (g := (mkF m 252 #[.val (.int u0), .val (.int u1), .val (.int u2), .val (.int u3), .val (.int u4), .val (.ref b121), .val (.int qq), .val (.int (1 : Int32)), .val (.ref b129), .val (.int rr), .val (.int (0 : Int32)), .unset] [(.int (1 : Int32)), (.int (0 : Int32)), (.ref b121), (.ref b129)])) rfl (by rw [hml]; rfl) (argsL := [(.ref b129), (.ref b121), (.int (0 : Int32)), (.int (1 : Int32))]) (rest := []) (lenOf pd_7 rfl) rfl (by show 2 * 0 + _ ≤ _; exact Nat.le_of_eq rfl) (hb hby at_252) (fun _ _ => ⟨rfl, e157, (by decide : 4 + 0 ≤ _), (by decide : 15 + 0 ≤ _)⟩)
      dsimp only [Pt.U, Pt.locs, Pt.cells, Pt.slots] at X158 l158 y158 z158 st158 hQ158
      replace l158 := l158.symm
      replace y158 := y158.symm
      replace z158 := z158.symm
      subst l158 y158 z158
      obtain ⟨rfl, N158q, e158⟩ := hQ158
      have N158 := Fr.app N157 N158q
      refine Goes.of st158 ?_
      show Goes _ _ _ _ _ _ _ (T158.setTop (mkF m 255 #[.val (.int u0), .val (.int u1), .val (.int u2), .val (.int u3), .val (.int u4), .val (.ref b121), .val (.int qq), .val (.int (1 : Int32)), .val (.ref b129), .val (.int rr), .val (.int (0 : Int32)), .unset] [(.int (1 : Int32))]))
      refine Goes.of (fun t k => XS.ifNo X158.here hx rfl (hb hby at_255) rfl ((if0 _ _).trans (feq (by decide : ¬ ((1 : Int32) = (0 : Int32)))).1) k) ?_
      show Goes _ _ _ _ _ _ _ (T158.setTop (mkF m 258 #[.val (.int u0), .val (.int u1), .val (.int u2), .val (.int u3), .val (.int u4), .val (.ref b121), .val (.int qq), .val (.int (1 : Int32)), .val (.ref b129), .val (.int rr), .val (.int (0 : Int32)), .unset] []))
      refine Goes.of (fun t k => XS.aload X158.here hx rfl (hb hby at_258) rfl rfl k) ?_
      show Goes _ _ _ _ _ _ _ (T158.setTop (mkF m 260 #[.val (.int u0), .val (.int u1), .val (.int u2), .val (.int u3), .val (.int u4), .val (.ref b121), .val (.int qq), .val (.int (1 : Int32)), .val (.ref b129), .val (.int rr), .val (.int (0 : Int32)), .unset] [(.ref b129)]))
      refine Goes.of (fun t k => XS.aload X158.here hx rfl (hb hby at_260) rfl rfl k) ?_
      show Goes _ _ _ _ _ _ _ (T158.setTop (mkF m 262 #[.val (.int u0), .val (.int u1), .val (.int u2), .val (.int u3), .val (.int u4), .val (.ref b121), .val (.int qq), .val (.int (1 : Int32)), .val (.ref b129), .val (.int rr), .val (.int (0 : Int32)), .unset] [(.ref b121), (.ref b129)]))
      refine Goes.of (fun t k => XS.iload X158.here hx rfl (hb hby at_262) rfl k) ?_
      show Goes _ _ _ _ _ _ _ (T158.setTop (mkF m 264 #[.val (.int u0), .val (.int u1), .val (.int u2), .val (.int u3), .val (.int u4), .val (.ref b121), .val (.int qq), .val (.int (1 : Int32)), .val (.ref b129), .val (.int rr), .val (.int (0 : Int32)), .unset] [(.int (0 : Int32)), (.ref b121), (.ref b129)]))
      refine Goes.of (fun t k => XS.iconst X158.here hx rfl (hb hby at_264) k) ?_
      show Goes _ _ _ _ _ _ _ (T158.setTop (mkF m 265 #[.val (.int u0), .val (.int u1), .val (.int u2), .val (.int u3), .val (.int u4), .val (.ref b121), .val (.int qq), .val (.int (1 : Int32)), .val (.ref b129), .val (.int rr), .val (.int (0 : Int32)), .unset] [(.int (2 : Int32)), (.int (0 : Int32)), (.ref b121), (.ref b129)]))
      obtain ⟨_, _, ⟨T159, L159, k159, n159⟩, -, X159, ⟨Lc159, hQ159, l159, y159, z159⟩, st159⟩ := Jvm.LawKit.callS X158 hx (y := (⟨"com/example/slotwright/slotwright/problems/IndexSetRemovePinLaw", "at", "(Lcom/example/slotwright/slotwright/problems/IndexSet;[III)Z"⟩ : MethodName)) hown (mvT hZ (hw _ (List.mem_of_getElem? (i := 40) rfl))) (mvT hZ (hw _ (List.mem_of_getElem? (i := 41) rfl))) (mvT hZ (hw _ (List.mem_of_getElem? (i := 4) rfl))) (mvT hZ (hw _ (List.mem_of_getElem? (i := 42) rfl))) (by decide) (backOf (W := 0) (rm8 l Z a0 hw [] b129 b121 (0 : Int32) (2 : Int32) mm131 pp131 4 Mr Pr (((0 : Int32) + (1 : Int32)) - (1 : Int32)) m4 h140 n0 Z140 F141 F142 F143 F144 F145 F146 ne_b129_mm131 ne_b129_pp131 ne_mm131_pp131 g_b129 g_mm131 g_pp131 V140 (by decide) (by decide) (fun q => absurd q (by decide))) hZ (hw _ (List.mem_of_getElem? (i := 42) rfl)) (hw _ (List.mem_of_getElem? (i := 4) rfl)) (by decide) (by decide)) (g := (mkF m 265 #[.val (.int u0), .val (.int u1), .val (.int u2), .val (.int u3), .val (.int u4), .val (.ref b121), .val (.int qq), .val (.int (1 : Int32)), .val (.ref b129), .val (.int rr), .val (.int (0 : Int32)), .unset] [(.int (2 : Int32)), (.int (0 : Int32)), (.ref b121), (.ref b129)])) rfl (by rw [hml]; rfl) (argsL := [(.ref b129), (.ref b121), (.int (0 : Int32)), (.int (2 : Int32))]) (rest := []) (lenOf pd_7 rfl) rfl (by show 2 * 0 + _ ≤ _; exact Nat.le_of_eq rfl) (hb hby at_265) (fun _ _ => ⟨rfl, e158, (by decide : 4 + 0 ≤ _), (by decide : 15 + 0 ≤ _)⟩)
      dsimp only [Pt.U, Pt.locs, Pt.cells, Pt.slots] at X159 l159 y159 z159 st159 hQ159
      replace l159 := l159.symm
      replace y159 := y159.symm
      replace z159 := z159.symm
      subst l159 y159 z159
      obtain ⟨rfl, N159q, e159⟩ := hQ159
      have N159 := Fr.app N158 N159q
      refine Goes.of st159 ?_
      show Goes _ _ _ _ _ _ _ (T159.setTop (mkF m 268 #[.val (.int u0), .val (.int u1), .val (.int u2), .val (.int u3), .val (.int u4), .val (.ref b121), .val (.int qq), .val (.int (1 : Int32)), .val (.ref b129), .val (.int rr), .val (.int (0 : Int32)), .unset] [(.int (1 : Int32))]))
      refine Goes.of (fun t k => XS.ifNo X159.here hx rfl (hb hby at_268) rfl ((if0 _ _).trans (feq (by decide : ¬ ((1 : Int32) = (0 : Int32)))).1) k) ?_
      show Goes _ _ _ _ _ _ _ (T159.setTop (mkF m 271 #[.val (.int u0), .val (.int u1), .val (.int u2), .val (.int u3), .val (.int u4), .val (.ref b121), .val (.int qq), .val (.int (1 : Int32)), .val (.ref b129), .val (.int rr), .val (.int (0 : Int32)), .unset] []))
      refine Goes.of (fun t k => XS.aload X159.here hx rfl (hb hby at_271) rfl rfl k) ?_
      show Goes _ _ _ _ _ _ _ (T159.setTop (mkF m 273 #[.val (.int u0), .val (.int u1), .val (.int u2), .val (.int u3), .val (.int u4), .val (.ref b121), .val (.int qq), .val (.int (1 : Int32)), .val (.ref b129), .val (.int rr), .val (.int (0 : Int32)), .unset] [(.ref b129)]))
      refine Goes.of (fun t k => XS.aload X159.here hx rfl (hb hby at_273) rfl rfl k) ?_
      show Goes _ _ _ _ _ _ _ (T159.setTop (mkF m 275 #[.val (.int u0), .val (.int u1), .val (.int u2), .val (.int u3), .val (.int u4), .val (.ref b121), .val (.int qq), .val (.int (1 : Int32)), .val (.ref b129), .val (.int rr), .val (.int (0 : Int32)), .unset] [(.ref b121), (.ref b129)]))
      refine Goes.of (fun t k => XS.iload X159.here hx rfl (hb hby at_275) rfl k) ?_
      show Goes _ _ _ _ _ _ _ (T159.setTop (mkF m 277 #[.val (.int u0), .val (.int u1), .val (.int u2), .val (.int u3), .val (.int u4), .val (.ref b121), .val (.int qq), .val (.int (1 : Int32)), .val (.ref b129), .val (.int rr), .val (.int (0 : Int32)), .unset] [(.int (0 : Int32)), (.ref b121), (.ref b129)]))
      refine Goes.of (fun t k => XS.iconst X159.here hx rfl (hb hby at_277) k) ?_
      show Goes _ _ _ _ _ _ _ (T159.setTop (mkF m 278 #[.val (.int u0), .val (.int u1), .val (.int u2), .val (.int u3), .val (.int u4), .val (.ref b121), .val (.int qq), .val (.int (1 : Int32)), .val (.ref b129), .val (.int rr), .val (.int (0 : Int32)), .unset] [(.int (0 : Int32)), (.int (0 : Int32)), (.ref b121), (.ref b129)]))
      obtain ⟨_, _, ⟨T160, L160, k160, n160⟩, -, X160, ⟨Lc160, hQ160, l160, y160, z160⟩, st160⟩ := Jvm.LawKit.callS X159 hx (y := (⟨"com/example/slotwright/slotwright/problems/IndexSetRemovePinLaw", "in", "(Lcom/example/slotwright/slotwright/problems/IndexSet;[III)Z"⟩ : MethodName)) hown (mvT hZ (hw _ (List.mem_of_getElem? (i := 48) rfl))) (mvT hZ (hw _ (List.mem_of_getElem? (i := 49) rfl))) (mvT hZ (hw _ (List.mem_of_getElem? (i := 4) rfl))) (mvT hZ (hw _ (List.mem_of_getElem? (i := 50) rfl))) (by decide) (backOf (W := 0) (rm10 l Z a0 hw [] b129 b121 (0 : Int32) (0 : Int32) mm131 pp131 4 Mr Pr (((0 : Int32) + (1 : Int32)) - (1 : Int32)) m4 h140 n0 Z140 F141 F142 F143 F144 F145 F146 ne_b129_mm131 ne_b129_pp131 ne_mm131_pp131 g_b129 g_mm131 g_pp131 V140 ⟨by decide, by decide⟩ (by decide) (own_chk hIr (by decide) (by decide) ⟨by decide, by decide⟩)) hZ (hw _ (List.mem_of_getElem? (i := 50) rfl)) (hw _ (List.mem_of_getElem? (i := 4) rfl)) (by decide) (by decide)) (g := (mkF m 278 #[.val (.int u0), .val (.int u1), .val (.int u2), .val (.int u3), .val (.int u4), .val (.ref b121), .val (.int qq), .val (.int (1 : Int32)), .val (.ref b129), .val (.int rr), .val (.int (0 : Int32)), .unset] [(.int (0 : Int32)), (.int (0 : Int32)), (.ref b121), (.ref b129)])) rfl (by rw [hml]; rfl) (argsL := [(.ref b129), (.ref b121), (.int (0 : Int32)), (.int (0 : Int32))]) (rest := []) (lenOf pd_7 rfl) rfl (by show 2 * 0 + _ ≤ _; exact Nat.le_of_eq rfl) (hb hby at_278) (fun _ _ => ⟨rfl, e159, (by decide : 4 + 0 ≤ _), (by decide : 15 + 0 ≤ _)⟩)
      dsimp only [Pt.U, Pt.locs, Pt.cells, Pt.slots] at X160 l160 y160 z160 st160 hQ160
      replace l160 := l160.symm
      replace y160 := y160.symm
      replace z160 := z160.symm
      subst l160 y160 z160
      obtain ⟨rfl, N160q, e160⟩ := hQ160
      have N160 := Fr.app N159 N160q
      refine Goes.of st160 ?_
      show Goes _ _ _ _ _ _ _ (T160.setTop (mkF m 281 #[.val (.int u0), .val (.int u1), .val (.int u2), .val (.int u3), .val (.int u4), .val (.ref b121), .val (.int qq), .val (.int (1 : Int32)), .val (.ref b129), .val (.int rr), .val (.int (0 : Int32)), .unset] [(.int (1 : Int32))]))
      refine Goes.of (fun t k => XS.ifNo X160.here hx rfl (hb hby at_281) rfl ((if0 _ _).trans (feq (by decide : ¬ ((1 : Int32) = (0 : Int32)))).1) k) ?_
      show Goes _ _ _ _ _ _ _ (T160.setTop (mkF m 284 #[.val (.int u0), .val (.int u1), .val (.int u2), .val (.int u3), .val (.int u4), .val (.ref b121), .val (.int qq), .val (.int (1 : Int32)), .val (.ref b129), .val (.int rr), .val (.int (0 : Int32)), .unset] []))
      refine Goes.of (fun t k => XS.aload X160.here hx rfl (hb hby at_284) rfl rfl k) ?_
      show Goes _ _ _ _ _ _ _ (T160.setTop (mkF m 286 #[.val (.int u0), .val (.int u1), .val (.int u2), .val (.int u3), .val (.int u4), .val (.ref b121), .val (.int qq), .val (.int (1 : Int32)), .val (.ref b129), .val (.int rr), .val (.int (0 : Int32)), .unset] [(.ref b129)]))
      refine Goes.of (fun t k => XS.aload X160.here hx rfl (hb hby at_286) rfl rfl k) ?_
      show Goes _ _ _ _ _ _ _ (T160.setTop (mkF m 288 #[.val (.int u0), .val (.int u1), .val (.int u2), .val (.int u3), .val (.int u4), .val (.ref b121), .val (.int qq), .val (.int (1 : Int32)), .val (.ref b129), .val (.int rr), .val (.int (0 : Int32)), .unset] [(.ref b121), (.ref b129)]))
      refine Goes.of (fun t k => XS.iload X160.here hx rfl (hb hby at_288) rfl k) ?_
      show Goes _ _ _ _ _ _ _ (T160.setTop (mkF m 290 #[.val (.int u0), .val (.int u1), .val (.int u2), .val (.int u3), .val (.int u4), .val (.ref b121), .val (.int qq), .val (.int (1 : Int32)), .val (.ref b129), .val (.int rr), .val (.int (0 : Int32)), .unset] [(.int (0 : Int32)), (.ref b121), (.ref b129)]))
      refine Goes.of (fun t k => XS.iconst X160.here hx rfl (hb hby at_290) k) ?_
      show Goes _ _ _ _ _ _ _ (T160.setTop (mkF m 291 #[.val (.int u0), .val (.int u1), .val (.int u2), .val (.int u3), .val (.int u4), .val (.ref b121), .val (.int qq), .val (.int (1 : Int32)), .val (.ref b129), .val (.int rr), .val (.int (0 : Int32)), .unset] [(.int (1 : Int32)), (.int (0 : Int32)), (.ref b121), (.ref b129)]))
      obtain ⟨_, _, ⟨T161, L161, k161, n161⟩, -, X161, ⟨Lc161, hQ161, l161, y161, z161⟩, st161⟩ := Jvm.LawKit.callS X160 hx (y := (⟨"com/example/slotwright/slotwright/problems/IndexSetRemovePinLaw", "in", "(Lcom/example/slotwright/slotwright/problems/IndexSet;[III)Z"⟩ : MethodName)) hown (mvT hZ (hw _ (List.mem_of_getElem? (i := 48) rfl))) (mvT hZ (hw _ (List.mem_of_getElem? (i := 49) rfl))) (mvT hZ (hw _ (List.mem_of_getElem? (i := 4) rfl))) (mvT hZ (hw _ (List.mem_of_getElem? (i := 50) rfl))) (by decide) (backOf (W := 0) (rm10 l Z a0 hw [] b129 b121 (0 : Int32) (1 : Int32) mm131 pp131 4 Mr Pr (((0 : Int32) + (1 : Int32)) - (1 : Int32)) m4 h140 n0 Z140 F141 F142 F143 F144 F145 F146 ne_b129_mm131 ne_b129_pp131 ne_mm131_pp131 g_b129 g_mm131 g_pp131 V140 ⟨by decide, by decide⟩ (by decide) (own_chk hIr (by decide) (by decide) ⟨by decide, by decide⟩)) hZ (hw _ (List.mem_of_getElem? (i := 50) rfl)) (hw _ (List.mem_of_getElem? (i := 4) rfl)) (by decide) (by decide)) (g := (mkF m 291 #[.val (.int u0), .val (.int u1), .val (.int u2), .val (.int u3), .val (.int u4), .val (.ref b121), .val (.int qq), .val (.int (1 : Int32)), .val (.ref b129), .val (.int rr), .val (.int (0 : Int32)), .unset] [(.int (1 : Int32)), (.int (0 : Int32)), (.ref b121), (.ref b129)])) rfl (by rw [hml]; rfl) (argsL := [(.ref b129), (.ref b121), (.int (0 : Int32)), (.int (1 : Int32))]) (rest := []) (lenOf pd_7 rfl) rfl (by show 2 * 0 + _ ≤ _; exact Nat.le_of_eq rfl) (hb hby at_291) (fun _ _ => ⟨rfl, e160, (by decide : 4 + 0 ≤ _), (by decide : 15 + 0 ≤ _)⟩)
      dsimp only [Pt.U, Pt.locs, Pt.cells, Pt.slots] at X161 l161 y161 z161 st161 hQ161
      replace l161 := l161.symm
      replace y161 := y161.symm
      replace z161 := z161.symm
      subst l161 y161 z161
      obtain ⟨rfl, N161q, e161⟩ := hQ161
      have N161 := Fr.app N160 N161q
      refine Goes.of st161 ?_
      show Goes _ _ _ _ _ _ _ (T161.setTop (mkF m 294 #[.val (.int u0), .val (.int u1), .val (.int u2), .val (.int u3), .val (.int u4), .val (.ref b121), .val (.int qq), .val (.int (1 : Int32)), .val (.ref b129), .val (.int rr), .val (.int (0 : Int32)), .unset] [(.int (1 : Int32))]))
      refine Goes.of (fun t k => XS.ifNo X161.here hx rfl (hb hby at_294) rfl ((if0 _ _).trans (feq (by decide : ¬ ((1 : Int32) = (0 : Int32)))).1) k) ?_
      show Goes _ _ _ _ _ _ _ (T161.setTop (mkF m 297 #[.val (.int u0), .val (.int u1), .val (.int u2), .val (.int u3), .val (.int u4), .val (.ref b121), .val (.int qq), .val (.int (1 : Int32)), .val (.ref b129), .val (.int rr), .val (.int (0 : Int32)), .unset] []))
      refine Goes.of (fun t k => XS.aload X161.here hx rfl (hb hby at_297) rfl rfl k) ?_
      show Goes _ _ _ _ _ _ _ (T161.setTop (mkF m 299 #[.val (.int u0), .val (.int u1), .val (.int u2), .val (.int u3), .val (.int u4), .val (.ref b121), .val (.int qq), .val (.int (1 : Int32)), .val (.ref b129), .val (.int rr), .val (.int (0 : Int32)), .unset] [(.ref b129)]))
      refine Goes.of (fun t k => XS.aload X161.here hx rfl (hb hby at_299) rfl rfl k) ?_
      show Goes _ _ _ _ _ _ _ (T161.setTop (mkF m 301 #[.val (.int u0), .val (.int u1), .val (.int u2), .val (.int u3), .val (.int u4), .val (.ref b121), .val (.int qq), .val (.int (1 : Int32)), .val (.ref b129), .val (.int rr), .val (.int (0 : Int32)), .unset] [(.ref b121), (.ref b129)]))
      refine Goes.of (fun t k => XS.iload X161.here hx rfl (hb hby at_301) rfl k) ?_
      show Goes _ _ _ _ _ _ _ (T161.setTop (mkF m 303 #[.val (.int u0), .val (.int u1), .val (.int u2), .val (.int u3), .val (.int u4), .val (.ref b121), .val (.int qq), .val (.int (1 : Int32)), .val (.ref b129), .val (.int rr), .val (.int (0 : Int32)), .unset] [(.int (0 : Int32)), (.ref b121), (.ref b129)]))
      refine Goes.of (fun t k => XS.iconst X161.here hx rfl (hb hby at_303) k) ?_
      show Goes _ _ _ _ _ _ _ (T161.setTop (mkF m 304 #[.val (.int u0), .val (.int u1), .val (.int u2), .val (.int u3), .val (.int u4), .val (.ref b121), .val (.int qq), .val (.int (1 : Int32)), .val (.ref b129), .val (.int rr), .val (.int (0 : Int32)), .unset] [(.int (2 : Int32)), (.int (0 : Int32)), (.ref b121), (.ref b129)]))
      obtain ⟨_, _, ⟨T162, L162, k162, n162⟩, -, X162, ⟨Lc162, hQ162, l162, y162, z162⟩, st162⟩ := Jvm.LawKit.callS X161 hx (y := (⟨"com/example/slotwright/slotwright/problems/IndexSetRemovePinLaw", "in", "(Lcom/example/slotwright/slotwright/problems/IndexSet;[III)Z"⟩ : MethodName)) hown (mvT hZ (hw _ (List.mem_of_getElem? (i := 48) rfl))) (mvT hZ (hw _ (List.mem_of_getElem? (i := 49) rfl))) (mvT hZ (hw _ (List.mem_of_getElem? (i := 4) rfl))) (mvT hZ (hw _ (List.mem_of_getElem? (i := 50) rfl))) (by decide) (backOf (W := 0) (rm10 l Z a0 hw [] b129 b121 (0 : Int32) (2 : Int32) mm131 pp131 4 Mr Pr (((0 : Int32) + (1 : Int32)) - (1 : Int32)) m4 h140 n0 Z140 F141 F142 F143 F144 F145 F146 ne_b129_mm131 ne_b129_pp131 ne_mm131_pp131 g_b129 g_mm131 g_pp131 V140 ⟨by decide, by decide⟩ (by decide) (own_chk hIr (by decide) (by decide) ⟨by decide, by decide⟩)) hZ (hw _ (List.mem_of_getElem? (i := 50) rfl)) (hw _ (List.mem_of_getElem? (i := 4) rfl)) (by decide) (by decide)) (g := (mkF m 304 #[.val (.int u0), .val (.int u1), .val (.int u2), .val (.int u3), .val (.int u4), .val (.ref b121), .val (.int qq), .val (.int (1 : Int32)), .val (.ref b129), .val (.int rr), .val (.int (0 : Int32)), .unset] [(.int (2 : Int32)), (.int (0 : Int32)), (.ref b121), (.ref b129)])) rfl (by rw [hml]; rfl) (argsL := [(.ref b129), (.ref b121), (.int (0 : Int32)), (.int (2 : Int32))]) (rest := []) (lenOf pd_7 rfl) rfl (by show 2 * 0 + _ ≤ _; exact Nat.le_of_eq rfl) (hb hby at_304) (fun _ _ => ⟨rfl, e161, (by decide : 4 + 0 ≤ _), (by decide : 15 + 0 ≤ _)⟩)
      dsimp only [Pt.U, Pt.locs, Pt.cells, Pt.slots] at X162 l162 y162 z162 st162 hQ162
      replace l162 := l162.symm
      replace y162 := y162.symm
      replace z162 := z162.symm
      subst l162 y162 z162
      obtain ⟨rfl, N162q, e162⟩ := hQ162
      have N162 := Fr.app N161 N162q
      refine Goes.of st162 ?_
      show Goes _ _ _ _ _ _ _ (T162.setTop (mkF m 307 #[.val (.int u0), .val (.int u1), .val (.int u2), .val (.int u3), .val (.int u4), .val (.ref b121), .val (.int qq), .val (.int (1 : Int32)), .val (.ref b129), .val (.int rr), .val (.int (0 : Int32)), .unset] [(.int (1 : Int32))]))
      refine Goes.of (fun t k => XS.ifNo X162.here hx rfl (hb hby at_307) rfl ((if0 _ _).trans (feq (by decide : ¬ ((1 : Int32) = (0 : Int32)))).1) k) ?_
      show Goes _ _ _ _ _ _ _ (T162.setTop (mkF m 310 #[.val (.int u0), .val (.int u1), .val (.int u2), .val (.int u3), .val (.int u4), .val (.ref b121), .val (.int qq), .val (.int (1 : Int32)), .val (.ref b129), .val (.int rr), .val (.int (0 : Int32)), .unset] []))
      refine Goes.of (fun t k => XS.aload X162.here hx rfl (hb hby at_310) rfl rfl k) ?_
      show Goes _ _ _ _ _ _ _ (T162.setTop (mkF m 312 #[.val (.int u0), .val (.int u1), .val (.int u2), .val (.int u3), .val (.int u4), .val (.ref b121), .val (.int qq), .val (.int (1 : Int32)), .val (.ref b129), .val (.int rr), .val (.int (0 : Int32)), .unset] [(.ref b129)]))
      refine Goes.of (fun t k => XS.aload X162.here hx rfl (hb hby at_312) rfl rfl k) ?_
      show Goes _ _ _ _ _ _ _ (T162.setTop (mkF m 314 #[.val (.int u0), .val (.int u1), .val (.int u2), .val (.int u3), .val (.int u4), .val (.ref b121), .val (.int qq), .val (.int (1 : Int32)), .val (.ref b129), .val (.int rr), .val (.int (0 : Int32)), .unset] [(.ref b121), (.ref b129)]))
      refine Goes.of (fun t k => XS.iload X162.here hx rfl (hb hby at_314) rfl k) ?_
      show Goes _ _ _ _ _ _ _ (T162.setTop (mkF m 316 #[.val (.int u0), .val (.int u1), .val (.int u2), .val (.int u3), .val (.int u4), .val (.ref b121), .val (.int qq), .val (.int (1 : Int32)), .val (.ref b129), .val (.int rr), .val (.int (0 : Int32)), .unset] [(.int (0 : Int32)), (.ref b121), (.ref b129)]))
      refine Goes.of (fun t k => XS.iconst X162.here hx rfl (hb hby at_316) k) ?_
      show Goes _ _ _ _ _ _ _ (T162.setTop (mkF m 317 #[.val (.int u0), .val (.int u1), .val (.int u2), .val (.int u3), .val (.int u4), .val (.ref b121), .val (.int qq), .val (.int (1 : Int32)), .val (.ref b129), .val (.int rr), .val (.int (0 : Int32)), .unset] [(.int (3 : Int32)), (.int (0 : Int32)), (.ref b121), (.ref b129)]))
      obtain ⟨_, _, ⟨T163, L163, k163, n163⟩, -, X163, ⟨Lc163, hQ163, l163, y163, z163⟩, st163⟩ := Jvm.LawKit.callS X162 hx (y := (⟨"com/example/slotwright/slotwright/problems/IndexSetRemovePinLaw", "in", "(Lcom/example/slotwright/slotwright/problems/IndexSet;[III)Z"⟩ : MethodName)) hown (mvT hZ (hw _ (List.mem_of_getElem? (i := 48) rfl))) (mvT hZ (hw _ (List.mem_of_getElem? (i := 49) rfl))) (mvT hZ (hw _ (List.mem_of_getElem? (i := 4) rfl))) (mvT hZ (hw _ (List.mem_of_getElem? (i := 50) rfl))) (by decide) (backOf (W := 0) (rm10 l Z a0 hw [] b129 b121 (0 : Int32) (3 : Int32) mm131 pp131 4 Mr Pr (((0 : Int32) + (1 : Int32)) - (1 : Int32)) m4 h140 n0 Z140 F141 F142 F143 F144 F145 F146 ne_b129_mm131 ne_b129_pp131 ne_mm131_pp131 g_b129 g_mm131 g_pp131 V140 ⟨by decide, by decide⟩ (by decide) (own_chk hIr (by decide) (by decide) ⟨by decide, by decide⟩)) hZ (hw _ (List.mem_of_getElem? (i := 50) rfl)) (hw _ (List.mem_of_getElem? (i := 4) rfl)) (by decide) (by decide)) (g := (mkF m 317 #[.val (.int u0), .val (.int u1), .val (.int u2), .val (.int u3), .val (.int u4), .val (.ref b121), .val (.int qq), .val (.int (1 : Int32)), .val (.ref b129), .val (.int rr), .val (.int (0 : Int32)), .unset] [(.int (3 : Int32)), (.int (0 : Int32)), (.ref b121), (.ref b129)])) rfl (by rw [hml]; rfl) (argsL := [(.ref b129), (.ref b121), (.int (0 : Int32)), (.int (3 : Int32))]) (rest := []) (lenOf pd_7 rfl) rfl (by show 2 * 0 + _ ≤ _; exact Nat.le_of_eq rfl) (hb hby at_317) (fun _ _ => ⟨rfl, e162, (by decide : 4 + 0 ≤ _), (by decide : 15 + 0 ≤ _)⟩)
      dsimp only [Pt.U, Pt.locs, Pt.cells, Pt.slots] at X163 l163 y163 z163 st163 hQ163
      replace l163 := l163.symm
      replace y163 := y163.symm
      replace z163 := z163.symm
      subst l163 y163 z163
      obtain ⟨rfl, N163q, e163⟩ := hQ163
      have N163 := Fr.app N162 N163q
      refine Goes.of st163 ?_
      show Goes _ _ _ _ _ _ _ (T163.setTop (mkF m 320 #[.val (.int u0), .val (.int u1), .val (.int u2), .val (.int u3), .val (.int u4), .val (.ref b121), .val (.int qq), .val (.int (1 : Int32)), .val (.ref b129), .val (.int rr), .val (.int (0 : Int32)), .unset] [(.int (1 : Int32))]))
      refine Goes.of (fun t k => XS.ifNo X163.here hx rfl (hb hby at_320) rfl ((if0 _ _).trans (feq (by decide : ¬ ((1 : Int32) = (0 : Int32)))).1) k) ?_
      show Goes _ _ _ _ _ _ _ (T163.setTop (mkF m 323 #[.val (.int u0), .val (.int u1), .val (.int u2), .val (.int u3), .val (.int u4), .val (.ref b121), .val (.int qq), .val (.int (1 : Int32)), .val (.ref b129), .val (.int rr), .val (.int (0 : Int32)), .unset] []))
      refine Goes.of (fun t k => XS.iconst X163.here hx rfl (hb hby at_323) k) ?_
      show Goes _ _ _ _ _ _ _ (T163.setTop (mkF m 324 #[.val (.int u0), .val (.int u1), .val (.int u2), .val (.int u3), .val (.int u4), .val (.ref b121), .val (.int qq), .val (.int (1 : Int32)), .val (.ref b129), .val (.int rr), .val (.int (0 : Int32)), .unset] [(.int (1 : Int32))]))
      refine Goes.of (fun t k => XS.goto X163.here hx rfl (pc0 := 324) (pc' := 328) rfl (hb hby at_324) (by decide) (by decide) k) ?_
      show Goes _ _ _ _ _ _ _ (T163.setTop (mkF m 328 #[.val (.int u0), .val (.int u1), .val (.int u2), .val (.int u3), .val (.int u4), .val (.ref b121), .val (.int qq), .val (.int (1 : Int32)), .val (.ref b129), .val (.int rr), .val (.int (0 : Int32)), .unset] [(.int (1 : Int32))]))
      exact Goes.fin X163 hlk (v := some (.int (1 : Int32))) (fun h => by rw [Bd.returns] at h; cases h) (fun fs hr => retN X163 hx (t := .boolean) Bd.returns (by simp) (hb hby at_328) hr) ⟨rfl, N163⟩ (by decide) (by decide)
  · rw [h4]
    show Goes _ _ _ _ _ _ _ (T128.setTop (mkF m 72 #[.val (.int u0), .val (.int u1), .val (.int u2), .val (.int u3), .val (.int u4), .val (.ref b121), .val (.int qq), .val (.int (2 : Int32)), .unset, .unset, .unset, .unset] []))
    obtain ⟨T164, h164, X164, e164, E164, A164, D164, -, st164⟩ := newO X128 hx hZ hown (hw _ (List.mem_of_getElem? (i := 6) rfl)) (hw _ (List.mem_of_getElem? (i := 7) rfl)) (hw _ (List.mem_of_getElem? (i := 8) rfl)) rfl (g := (mkF m 72 #[.val (.int u0), .val (.int u1), .val (.int u2), .val (.int u3), .val (.int u4), .val (.ref b121), .val (.int qq), .val (.int (2 : Int32)), .unset, .unset, .unset, .unset] [])) rfl (hb hby at_72) (by decide) (by decide)
    obtain ⟨b164, g164⟩ : ∃ z, z = T128.heap.size := ⟨_, rfl⟩
    rw [← g164] at A164 D164 st164
    have ne_b121_b164 : b121 ≠ b164 := Nat.ne_of_lt (Nat.lt_of_lt_of_le V128.lt (Nat.le_of_eq g164.symm))
    have g_b164 : n0 ≤ b164 := Nat.le_trans Z128 (Nat.le_of_eq g164.symm)
    have F165 := V128.ext E164
    have Z164 : n0 ≤ h164.size := Nat.le_trans Z128 E164.1
    have F_members_b164 : Fld Z h164 b164 "com/example/slotwright/slotwright/problems/IndexSet" "members" "[I" .null := D164 (Or.inr (hw _ (List.mem_of_getElem? (i := 16) rfl))) (ty := (.array .int)) (by decide)
    have F_positions_b164 : Fld Z h164 b164 "com/example/slotwright/slotwright/problems/IndexSet" "positions" "[I" .null := D164 (Or.inr (hw _ (List.mem_of_getElem? (i := 18) rfl))) (ty := (.array .int)) (by decide)
    have F_size_b164 : Fld Z h164 b164 "com/example/slotwright/slotwright/problems/IndexSet" "size" "I" (.int (0 : Int32)) := D164 (Or.inl (hw _ (List.mem_of_getElem? (i := 29) rfl))) (ty := .int) (by decide)
    refine Goes.of st164 ?_
    show Goes _ _ _ _ _ _ _ (T164.setTop (mkF m 75 #[.val (.int u0), .val (.int u1), .val (.int u2), .val (.int u3), .val (.int u4), .val (.ref b121), .val (.int qq), .val (.int (2 : Int32)), .unset, .unset, .unset, .unset] [(.ref b164)]))
    refine Goes.of (fun t k => XS.dup X164.here hx rfl (hb hby at_75) rfl rfl k) ?_
    show Goes _ _ _ _ _ _ _ (T164.setTop (mkF m 76 #[.val (.int u0), .val (.int u1), .val (.int u2), .val (.int u3), .val (.int u4), .val (.ref b121), .val (.int qq), .val (.int (2 : Int32)), .unset, .unset, .unset, .unset] [(.ref b164), (.ref b164)]))
    refine Goes.of (fun t k => XS.iconst X164.here hx rfl (hb hby at_76) k) ?_
    show Goes _ _ _ _ _ _ _ (T164.setTop (mkF m 77 #[.val (.int u0), .val (.int u1), .val (.int u2), .val (.int u3), .val (.int u4), .val (.ref b121), .val (.int qq), .val (.int (2 : Int32)), .unset, .unset, .unset, .unset] [(.int (4 : Int32)), (.ref b164), (.ref b164)]))
    obtain ⟨_, _, ⟨T166, L166, k166, n166⟩, -, X166, ⟨Lc166, hQ166, l166, y166, z166⟩, st166⟩ := X164.specialBack hx (y := (⟨"com/example/slotwright/slotwright/problems/IndexSet", "<init>", "(I)V"⟩ : MethodName)) rfl hown (mvT hZ (hw _ (List.mem_of_getElem? (i := 9) rfl))) (mvT hZ (hw _ (List.mem_of_getElem? (i := 10) rfl))) (mvT hZ (hw _ (List.mem_of_getElem? (i := 11) rfl))) (by decide) (backOf (W := 1) (rm2 l Z a0 hw [] b164 (4 : Int32) 4 h164 n0 Z164 A164 F_members_b164 F_positions_b164 F_size_b164 g_b164 (by decide) (by decide)) hZ (hw _ (List.mem_of_getElem? (i := 11) rfl)) (hw _ (List.mem_of_getElem? (i := 8) rfl)) (by decide) (by decide)) (g := (mkF m 77 #[.val (.int u0), .val (.int u1), .val (.int u2), .val (.int u3), .val (.int u4), .val (.ref b121), .val (.int qq), .val (.int (2 : Int32)), .unset, .unset, .unset, .unset] [(.int (4 : Int32)), (.ref b164), (.ref b164)])) rfl (by rw [hml]; rfl) (Steps.refl _) (a := b164) (argsL := [(.int (4 : Int32))]) (rest := [(.ref b164)]) (lenOf pd_5 rfl) rfl (by show 2 * 0 + _ ≤ _; exact Nat.le_of_eq rfl) (hb hby at_77) (fun _ _ => ⟨rfl, e164, (by decide : 2 + 2 ≤ _), (by decide : 7 + 8 ≤ _)⟩)
    dsimp only [Pt.U, Pt.locs, Pt.cells, Pt.slots] at X166 l166 y166 z166 st166 hQ166
    replace l166 := l166.symm
    replace y166 := y166.symm
    replace z166 := z166.symm
    subst l166 y166 z166
    obtain ⟨rfl, N166q, mm166, pp166, K166, szm166, szp166, ne_mm166_pp166, Eo166, Fm166, Fp166, Fs166, Vm166, Vp166⟩ := hQ166
    have ne_b121_mm166 : b121 ≠ mm166 := Nat.ne_of_lt (Nat.lt_of_lt_of_le F165.lt szm166)
    have ne_b164_mm166 : b164 ≠ mm166 := Nat.ne_of_lt (Nat.lt_of_lt_of_le A164.lt szm166)
    have g_mm166 : n0 ≤ mm166 := Nat.le_trans Z164 szm166
    have ne_b121_pp166 : b121 ≠ pp166 := Nat.ne_of_lt (Nat.lt_of_lt_of_le F165.lt szp166)
    have ne_b164_pp166 : b164 ≠ pp166 := Nat.ne_of_lt (Nat.lt_of_lt_of_le A164.lt szp166)
    have g_pp166 : n0 ≤ pp166 := Nat.le_trans Z164 szp166
    have F167 := F165.keep K166 (ninS ne_b121_b164 nin0)
    have F168 := A164.keep K166
    have Z166 : n0 ≤ T166.heap.size := Nat.le_trans Z164 K166.1
    have N166 := Fr.app N128 N166q
    refine Goes.of (fun t k => st166.trans k) ?_
    show Goes _ _ _ _ _ _ _ (T166.setTop (mkF m 80 #[.val (.int u0), .val (.int u1), .val (.int u2), .val (.int u3), .val (.int u4), .val (.ref b121), .val (.int qq), .val (.int (2 : Int32)), .unset, .unset, .unset, .unset] [(.ref b164)]))
    refine Goes.of (fun t k => XS.astore X166.here hx rfl (hb hby at_80) rfl rfl (l' := #[.val (.int u0), .val (.int u1), .val (.int u2), .val (.int u3), .val (.int u4), .val (.ref b121), .val (.int qq), .val (.int (2 : Int32)), .val (.ref b164), .unset, .unset, .unset]) rfl k) ?_
    show Goes _ _ _ _ _ _ _ (T166.setTop (mkF m 82 #[.val (.int u0), .val (.int u1), .val (.int u2), .val (.int u3), .val (.int u4), .val (.ref b121), .val (.int qq), .val (.int (2 : Int32)), .val (.ref b164), .unset, .unset, .unset] []))
    obtain ⟨M0, hf_M0⟩ : ∃ f : Nat → Int32, f = (fun _ => 0) := ⟨_, rfl⟩
    rw [← hf_M0] at Vm166
    obtain ⟨P0, hf_P0⟩ : ∃ f : Nat → Int32, f = (fun _ => (-1 : Int32)) := ⟨_, rfl⟩
    rw [← hf_P0] at Vp166
    have hI0 : own_Inv m3 M0 P0 0 := by
      rw [hf_M0, hf_P0]
      exact ⟨hp3.1, fun i j hi => absurd hi (Nat.not_lt_zero _), fun i hi => absurd hi (Nat.not_lt_zero _), fun i hi => absurd hi (Nat.not_lt_zero _), fun v hv hn => rfl⟩
    refine Goes.of (fun t k => XS.aload X166.here hx rfl (hb hby at_82) rfl rfl k) ?_
    show Goes _ _ _ _ _ _ _ (T166.setTop (mkF m 84 #[.val (.int u0), .val (.int u1), .val (.int u2), .val (.int u3), .val (.int u4), .val (.ref b121), .val (.int qq), .val (.int (2 : Int32)), .val (.ref b164), .unset, .unset, .unset] [(.ref b164)]))
    refine Goes.of (fun t k => XS.aload X166.here hx rfl (hb hby at_84) rfl rfl k) ?_
    show Goes _ _ _ _ _ _ _ (T166.setTop (mkF m 86 #[.val (.int u0), .val (.int u1), .val (.int u2), .val (.int u3), .val (.int u4), .val (.ref b121), .val (.int qq), .val (.int (2 : Int32)), .val (.ref b164), .unset, .unset, .unset] [(.ref b121), (.ref b164)]))
    refine Goes.of (fun t k => XS.iconst X166.here hx rfl (hb hby at_86) k) ?_
    show Goes _ _ _ _ _ _ _ (T166.setTop (mkF m 87 #[.val (.int u0), .val (.int u1), .val (.int u2), .val (.int u3), .val (.int u4), .val (.ref b121), .val (.int qq), .val (.int (2 : Int32)), .val (.ref b164), .unset, .unset, .unset] [(.int (0 : Int32)), (.ref b121), (.ref b164)]))
    refine Goes.of (fun t k => ldI X166 hx hZ rfl F167 (j := (0 : Int32)) (i := 0) (v := (m3 0)) (by decide) (by decide) (by decide) rfl (g := (mkF m 87 #[.val (.int u0), .val (.int u1), .val (.int u2), .val (.int u3), .val (.int u4), .val (.ref b121), .val (.int qq), .val (.int (2 : Int32)), .val (.ref b164), .unset, .unset, .unset] [(.int (0 : Int32)), (.ref b121), (.ref b164)])) rfl rfl (hb hby at_87) t k) ?_
    show Goes _ _ _ _ _ _ _ (T166.setTop (mkF m 88 #[.val (.int u0), .val (.int u1), .val (.int u2), .val (.int u3), .val (.int u4), .val (.ref b121), .val (.int qq), .val (.int (2 : Int32)), .val (.ref b164), .unset, .unset, .unset] [(.int (m3 0)), (.ref b164)]))
    obtain ⟨cq169, kq169, q169a, q169b, q169c⟩ := isOf hZ rfl Eo166
    obtain ⟨_, _, ⟨T169, L169, k169, n169⟩, -, X169, ⟨Lc169, hQ169, l169, y169, z169⟩, st169⟩ := X166.virtualBack hx (y := (⟨"com/example/slotwright/slotwright/problems/IndexSet", "add", "(I)V"⟩ : MethodName)) (z := (⟨"com/example/slotwright/slotwright/problems/IndexSet", "add", "(I)V"⟩ : MethodName)) hown (mvT hZ (hw _ (List.mem_of_getElem? (i := 23) rfl))) (mvT hZ (hw _ (List.mem_of_getElem? (i := 24) rfl))) (notFace_of_selects (args := #[]) (mvT hZ (hw _ (List.mem_of_getElem? (i := 26) rfl)))) (mvT hZ (hw _ (List.mem_of_getElem? (i := 26) rfl))) (mvT hZ (hw _ (List.mem_of_getElem? (i := 25) rfl))) (by decide) (backOf (W := 0) (rm5 l Z a0 hw [] b164 (m3 0) mm166 pp166 4 M0 P0 (0 : Int32) T166.heap n0 Z166 Eo166 Fm166 Fp166 Fs166 Vm166 Vp166 ne_b164_mm166 ne_b164_pp166 ne_mm166_pp166 g_b164 g_mm166 g_pp166 ⟨by decide, by decide⟩ (hI0.1 0 (by decide))) hZ (hw _ (List.mem_of_getElem? (i := 27) rfl)) (hw _ (List.mem_of_getElem? (i := 8) rfl)) (by decide) (by decide)) q169a q169c (g := (mkF m 88 #[.val (.int u0), .val (.int u1), .val (.int u2), .val (.int u3), .val (.int u4), .val (.ref b121), .val (.int qq), .val (.int (2 : Int32)), .val (.ref b164), .unset, .unset, .unset] [(.int (m3 0)), (.ref b164)])) rfl (by rw [hml]; rfl) (Steps.refl _) (argsL := [(.int (m3 0))]) (rest := []) (lenOf pd_5 rfl) rfl (by show 2 * 0 + _ ≤ _; exact Nat.le_of_eq rfl) (hb hby at_88) (fun _ _ => ⟨rfl, rfl, (by decide : 4 + 0 ≤ _), (by decide : 15 + 0 ≤ _)⟩)
    dsimp only [Pt.U, Pt.locs, Pt.cells, Pt.slots] at X169 l169 y169 z169 st169 hQ169
    replace l169 := l169.symm
    replace y169 := y169.symm
    replace z169 := z169.symm
    subst l169 y169 z169
    obtain ⟨rfl, N169q, K169, Eo169, Fm169, Fp169, Fs169, Vm169, Vp169⟩ := hQ169
    have F170 := F167.keep K169 (ninS ne_b121_b164 (ninS ne_b121_mm166 (ninS ne_b121_pp166 nin0)))
    have F171 := Eo166.keep K169
    have Z169 : n0 ≤ T169.heap.size := Nat.le_trans Z166 K169.1
    have N169 := Fr.app N166 N169q
    refine Goes.of (fun t k => st169.trans k) ?_
    show Goes _ _ _ _ _ _ _ (T169.setTop (mkF m 91 #[.val (.int u0), .val (.int u1), .val (.int u2), .val (.int u3), .val (.int u4), .val (.ref b121), .val (.int qq), .val (.int (2 : Int32)), .val (.ref b164), .unset, .unset, .unset] []))
    obtain ⟨M1, hf_M1⟩ : ∃ f : Nat → Int32, f = (upd M0 (0 : Int32).toNatClampNeg (m3 0)) := ⟨_, rfl⟩
    rw [← hf_M1] at Vm169
    obtain ⟨P1, hf_P1⟩ : ∃ f : Nat → Int32, f = (upd P0 (m3 0).toNatClampNeg (0 : Int32)) := ⟨_, rfl⟩
    rw [← hf_P1] at Vp169
    have hI1 : own_Inv m3 M1 P1 1 := by rw [hf_M1, hf_P1]; exact own_add hp3 hI0 (by decide)
    refine Goes.of (fun t k => XS.iload X169.here hx rfl (hb hby at_91) rfl k) ?_
    show Goes _ _ _ _ _ _ _ (T169.setTop (mkF m 93 #[.val (.int u0), .val (.int u1), .val (.int u2), .val (.int u3), .val (.int u4), .val (.ref b121), .val (.int qq), .val (.int (2 : Int32)), .val (.ref b164), .unset, .unset, .unset] [(.int (2 : Int32))]))
    refine Goes.of (fun t k => XS.iconst X169.here hx rfl (hb hby at_93) k) ?_
    show Goes _ _ _ _ _ _ _ (T169.setTop (mkF m 94 #[.val (.int u0), .val (.int u1), .val (.int u2), .val (.int u3), .val (.int u4), .val (.ref b121), .val (.int qq), .val (.int (2 : Int32)), .val (.ref b164), .unset, .unset, .unset] [(.int (1 : Int32)), (.int (2 : Int32))]))
    refine Goes.of (fun t k => XS.icmpNo X169.here hx rfl (hb hby at_94) rfl (tlt (by decide : (1 : Int32) < (2 : Int32))).2.2.2 k) ?_
    show Goes _ _ _ _ _ _ _ (T169.setTop (mkF m 97 #[.val (.int u0), .val (.int u1), .val (.int u2), .val (.int u3), .val (.int u4), .val (.ref b121), .val (.int qq), .val (.int (2 : Int32)), .val (.ref b164), .unset, .unset, .unset] []))
    refine Goes.of (fun t k => XS.aload X169.here hx rfl (hb hby at_97) rfl rfl k) ?_
    show Goes _ _ _ _ _ _ _ (T169.setTop (mkF m 99 #[.val (.int u0), .val (.int u1), .val (.int u2), .val (.int u3), .val (.int u4), .val (.ref b121), .val (.int qq), .val (.int (2 : Int32)), .val (.ref b164), .unset, .unset, .unset] [(.ref b164)]))
    refine Goes.of (fun t k => XS.aload X169.here hx rfl (hb hby at_99) rfl rfl k) ?_
    show Goes _ _ _ _ _ _ _ (T169.setTop (mkF m 101 #[.val (.int u0), .val (.int u1), .val (.int u2), .val (.int u3), .val (.int u4), .val (.ref b121), .val (.int qq), .val (.int (2 : Int32)), .val (.ref b164), .unset, .unset, .unset] [(.ref b121), (.ref b164)]))
    refine Goes.of (fun t k => XS.iconst X169.here hx rfl (hb hby at_101) k) ?_
    show Goes _ _ _ _ _ _ _ (T169.setTop (mkF m 102 #[.val (.int u0), .val (.int u1), .val (.int u2), .val (.int u3), .val (.int u4), .val (.ref b121), .val (.int qq), .val (.int (2 : Int32)), .val (.ref b164), .unset, .unset, .unset] [(.int (1 : Int32)), (.ref b121), (.ref b164)]))
    refine Goes.of (fun t k => ldI X169 hx hZ rfl F170 (j := (1 : Int32)) (i := 1) (v := (m3 1)) (by decide) (by decide) (by decide) rfl (g := (mkF m 102 #[.val (.int u0), .val (.int u1), .val (.int u2), .val (.int u3), .val (.int u4), .val (.ref b121), .val (.int qq), .val (.int (2 : Int32)), .val (.ref b164), .unset, .unset, .unset] [(.int (1 : Int32)), (.ref b121), (.ref b164)])) rfl rfl (hb hby at_102) t k) ?_
    show Goes _ _ _ _ _ _ _ (T169.setTop (mkF m 103 #[.val (.int u0), .val (.int u1), .val (.int u2), .val (.int u3), .val (.int u4), .val (.ref b121), .val (.int qq), .val (.int (2 : Int32)), .val (.ref b164), .unset, .unset, .unset] [(.int (m3 1)), (.ref b164)]))
    obtain ⟨cq172, kq172, q172a, q172b, q172c⟩ := isOf hZ rfl Eo169
    obtain ⟨_, _, ⟨T172, L172, k172, n172⟩, -, X172, ⟨Lc172, hQ172, l172, y172, z172⟩, st172⟩ := X169.virtualBack hx (y := (⟨"com/example/slotwright/slotwright/problems/IndexSet", "add", "(I)V"⟩ : MethodName)) (z := (⟨"com/example/slotwright/slotwright/problems/IndexSet", "add", "(I)V"⟩ : MethodName)) hown (mvT hZ (hw _ (List.mem_of_getElem? (i := 23) rfl))) (mvT hZ (hw _ (List.mem_of_getElem? (i := 24) rfl))) (notFace_of_selects (args := #[]) (mvT hZ (hw _ (List.mem_of_getElem? (i := 26) rfl)))) (mvT hZ (hw _ (List.mem_of_getElem? (i := 26) rfl))) (mvT hZ (hw _ (List.mem_of_getElem? (i := 25) rfl))) (by decide) (backOf (W := 0) (rm5 l Z a0 hw [] b164 (m3 1) mm166 pp166 4 M1 P1 ((0 : Int32) + (1 : Int32)) T169.heap n0 Z169 Eo169 Fm169 Fp169 Fs169 Vm169 Vp169 ne_b164_mm166 ne_b164_pp166 ne_mm166_pp166 g_b164 g_mm166 g_pp166 ⟨by decide, by decide⟩ (hI1.1 1 (by decide))) hZ (hw _ (List.mem_of_getElem? (i := 27) rfl)) (hw _ (List.mem_of_getElem? (i := 8) rfl)) (by decide) (by decide)) q172a q172c (g := (mkF m 103 #[.val (.int u0), .val (.int u1), .val (.int u2), .val (.int u3), .val (.int u4), .val (.ref b121), .val (.int qq), .val (.int (2 : Int32)), .val (.ref b164), .unset, .unset, .unset] [(.int (m3 1)), (.ref b164)])) rfl (by rw [hml]; rfl) (Steps.refl _) (argsL := [(.int (m3 1))]) (rest := []) (lenOf pd_5 rfl) rfl (by show 2 * 0 + _ ≤ _; exact Nat.le_of_eq rfl) (hb hby at_103) (fun _ _ => ⟨rfl, rfl, (by decide : 4 + 0 ≤ _), (by decide : 15 + 0 ≤ _)⟩)
    dsimp only [Pt.U, Pt.locs, Pt.cells, Pt.slots] at X172 l172 y172 z172 st172 hQ172
    replace l172 := l172.symm
    replace y172 := y172.symm
    replace z172 := z172.symm
    subst l172 y172 z172
    obtain ⟨rfl, N172q, K172, Eo172, Fm172, Fp172, Fs172, Vm172, Vp172⟩ := hQ172
    have F173 := F170.keep K172 (ninS ne_b121_b164 (ninS ne_b121_mm166 (ninS ne_b121_pp166 nin0)))
    have F174 := Eo169.keep K172
    have Z172 : n0 ≤ T172.heap.size := Nat.le_trans Z169 K172.1
    have N172 := Fr.app N169 N172q
    refine Goes.of (fun t k => st172.trans k) ?_
    show Goes _ _ _ _ _ _ _ (T172.setTop (mkF m 106 #[.val (.int u0), .val (.int u1), .val (.int u2), .val (.int u3), .val (.int u4), .val (.ref b121), .val (.int qq), .val (.int (2 : Int32)), .val (.ref b164), .unset, .unset, .unset] []))
    obtain ⟨M2, hf_M2⟩ : ∃ f : Nat → Int32, f = (upd M1 ((0 : Int32) + (1 : Int32)).toNatClampNeg (m3 1)) := ⟨_, rfl⟩
    rw [← hf_M2] at Vm172
    obtain ⟨P2, hf_P2⟩ : ∃ f : Nat → Int32, f = (upd P1 (m3 1).toNatClampNeg ((0 : Int32) + (1 : Int32))) := ⟨_, rfl⟩
    rw [← hf_P2] at Vp172
    have hI2 : own_Inv m3 M2 P2 2 := by rw [hf_M2, hf_P2]; exact own_add hp3 hI1 (by decide)
    refine Goes.of (fun t k => XS.iload X172.here hx rfl (hb hby at_106) rfl k) ?_
    show Goes _ _ _ _ _ _ _ (T172.setTop (mkF m 108 #[.val (.int u0), .val (.int u1), .val (.int u2), .val (.int u3), .val (.int u4), .val (.ref b121), .val (.int qq), .val (.int (2 : Int32)), .val (.ref b164), .unset, .unset, .unset] [(.int (2 : Int32))]))
    refine Goes.of (fun t k => XS.iconst X172.here hx rfl (hb hby at_108) k) ?_
    show Goes _ _ _ _ _ _ _ (T172.setTop (mkF m 109 #[.val (.int u0), .val (.int u1), .val (.int u2), .val (.int u3), .val (.int u4), .val (.ref b121), .val (.int qq), .val (.int (2 : Int32)), .val (.ref b164), .unset, .unset, .unset] [(.int (2 : Int32)), (.int (2 : Int32))]))
    refine Goes.of (fun t k => XS.icmpYes X172.here hx rfl (pc0 := 109) (pc' := 121) rfl (hb hby at_109) rfl (flt (by decide : ¬ ((2 : Int32) < (2 : Int32)))).2.2.2 (by decide) (by decide) k) ?_
    show Goes _ _ _ _ _ _ _ (T172.setTop (mkF m 121 #[.val (.int u0), .val (.int u1), .val (.int u2), .val (.int u3), .val (.int u4), .val (.ref b121), .val (.int qq), .val (.int (2 : Int32)), .val (.ref b164), .unset, .unset, .unset] []))
    refine Goes.of (fun t k => XS.iload X172.here hx rfl (hb hby at_121) rfl k) ?_
    show Goes _ _ _ _ _ _ _ (T172.setTop (mkF m 123 #[.val (.int u0), .val (.int u1), .val (.int u2), .val (.int u3), .val (.int u4), .val (.ref b121), .val (.int qq), .val (.int (2 : Int32)), .val (.ref b164), .unset, .unset, .unset] [(.int (2 : Int32))]))
    refine Goes.of (fun t k => XS.iconst X172.here hx rfl (hb hby at_123) k) ?_
    show Goes _ _ _ _ _ _ _ (T172.setTop (mkF m 124 #[.val (.int u0), .val (.int u1), .val (.int u2), .val (.int u3), .val (.int u4), .val (.ref b121), .val (.int qq), .val (.int (2 : Int32)), .val (.ref b164), .unset, .unset, .unset] [(.int (3 : Int32)), (.int (2 : Int32))]))
    refine Goes.of (fun t k => XS.icmpYes X172.here hx rfl (pc0 := 124) (pc' := 136) rfl (hb hby at_124) rfl (flt (by decide : ¬ ((3 : Int32) < (2 : Int32)))).2.2.2 (by decide) (by decide) k) ?_
    show Goes _ _ _ _ _ _ _ (T172.setTop (mkF m 136 #[.val (.int u0), .val (.int u1), .val (.int u2), .val (.int u3), .val (.int u4), .val (.ref b121), .val (.int qq), .val (.int (2 : Int32)), .val (.ref b164), .unset, .unset, .unset] []))
    refine Goes.of (fun t k => XS.iloadN X172.here hx rfl (hb hby at_136) rfl k) ?_
    show Goes _ _ _ _ _ _ _ (T172.setTop (mkF m 137 #[.val (.int u0), .val (.int u1), .val (.int u2), .val (.int u3), .val (.int u4), .val (.ref b121), .val (.int qq), .val (.int (2 : Int32)), .val (.ref b164), .unset, .unset, .unset] [(.int u2)]))
    refine Goes.of (fun t k => X172.ldcInt hx hown (mvT hZ (hw _ (List.mem_of_getElem? (i := 1) rfl))) (g := (mkF m 137 #[.val (.int u0), .val (.int u1), .val (.int u2), .val (.int u3), .val (.int u4), .val (.ref b121), .val (.int qq), .val (.int (2 : Int32)), .val (.ref b164), .unset, .unset, .unset] [(.int u2)])) rfl (hb hby at_137) t k) ?_
    show Goes _ _ _ _ _ _ _ (T172.setTop (mkF m 139 #[.val (.int u0), .val (.int u1), .val (.int u2), .val (.int u3), .val (.int u4), .val (.ref b121), .val (.int qq), .val (.int (2 : Int32)), .val (.ref b164), .unset, .unset, .unset] [(.int (2147483647 : Int32)), (.int u2)]))
    refine Goes.of (fun t k => XS.iand X172.here hx rfl (hb hby at_139) rfl k) ?_
    show Goes _ _ _ _ _ _ _ (T172.setTop (mkF m 140 #[.val (.int u0), .val (.int u1), .val (.int u2), .val (.int u3), .val (.int u4), .val (.ref b121), .val (.int qq), .val (.int (2 : Int32)), .val (.ref b164), .unset, .unset, .unset] [(.int (u2 &&& (2147483647 : Int32)))]))
    refine Goes.of (fun t k => XS.iload X172.here hx rfl (hb hby at_140) rfl k) ?_
    show Goes _ _ _ _ _ _ _ (T172.setTop (mkF m 142 #[.val (.int u0), .val (.int u1), .val (.int u2), .val (.int u3), .val (.int u4), .val (.ref b121), .val (.int qq), .val (.int (2 : Int32)), .val (.ref b164), .unset, .unset, .unset] [(.int (2 : Int32)), (.int (u2 &&& (2147483647 : Int32)))]))
    refine Goes.of (fun t k => iremM X172 hx (g := (mkF m 142 #[.val (.int u0), .val (.int u1), .val (.int u2), .val (.int u3), .val (.int u4), .val (.ref b121), .val (.int qq), .val (.int (2 : Int32)), .val (.ref b164), .unset, .unset, .unset] [(.int (2 : Int32)), (.int (u2 &&& (2147483647 : Int32)))])) rfl (hb hby at_142) rfl (by decide) k) ?_
    show Goes _ _ _ _ _ _ _ (T172.setTop (mkF m 143 #[.val (.int u0), .val (.int u1), .val (.int u2), .val (.int u3), .val (.int u4), .val (.ref b121), .val (.int qq), .val (.int (2 : Int32)), .val (.ref b164), .unset, .unset, .unset] [(.int ((u2 &&& (2147483647 : Int32)) % (2 : Int32)))]))
    refine Goes.of (fun t k => XS.istore X172.here hx rfl (hb hby at_143) rfl (l' := #[.val (.int u0), .val (.int u1), .val (.int u2), .val (.int u3), .val (.int u4), .val (.ref b121), .val (.int qq), .val (.int (2 : Int32)), .val (.ref b164), .val (.int ((u2 &&& (2147483647 : Int32)) % (2 : Int32))), .unset, .unset]) rfl k) ?_
    show Goes _ _ _ _ _ _ _ (T172.setTop (mkF m 145 #[.val (.int u0), .val (.int u1), .val (.int u2), .val (.int u3), .val (.int u4), .val (.ref b121), .val (.int qq), .val (.int (2 : Int32)), .val (.ref b164), .val (.int ((u2 &&& (2147483647 : Int32)) % (2 : Int32))), .unset, .unset] []))
    obtain ⟨rr, hy_rr⟩ : ∃ z, z = ((u2 &&& (2147483647 : Int32)) % (2 : Int32)) := ⟨_, rfl⟩
    rw [← hy_rr]
    show Goes _ _ _ _ _ _ _ (T172.setTop (mkF m 145 #[.val (.int u0), .val (.int u1), .val (.int u2), .val (.int u3), .val (.int u4), .val (.ref b121), .val (.int qq), .val (.int (2 : Int32)), .val (.ref b164), .val (.int rr), .unset, .unset] []))
    have h_rr := own_rem u2 (2 : Int32) (by decide)
    rw [← hy_rr, show (2 : Int32).toInt = 2 from rfl] at h_rr
    have hn_rr := nat_of (own_nn h_rr.1)
    refine Goes.of (fun t k => XS.aload X172.here hx rfl (hb hby at_145) rfl rfl k) ?_
    show Goes _ _ _ _ _ _ _ (T172.setTop (mkF m 147 #[.val (.int u0), .val (.int u1), .val (.int u2), .val (.int u3), .val (.int u4), .val (.ref b121), .val (.int qq), .val (.int (2 : Int32)), .val (.ref b164), .val (.int rr), .unset, .unset] [(.ref b164)]))
    refine Goes.of (fun t k => XS.aload X172.here hx rfl (hb hby at_147) rfl rfl k) ?_
    show Goes _ _ _ _ _ _ _ (T172.setTop (mkF m 149 #[.val (.int u0), .val (.int u1), .val (.int u2), .val (.int u3), .val (.int u4), .val (.ref b121), .val (.int qq), .val (.int (2 : Int32)), .val (.ref b164), .val (.int rr), .unset, .unset] [(.ref b121), (.ref b164)]))
    refine Goes.of (fun t k => XS.iload X172.here hx rfl (hb hby at_149) rfl k) ?_
    show Goes _ _ _ _ _ _ _ (T172.setTop (mkF m 151 #[.val (.int u0), .val (.int u1), .val (.int u2), .val (.int u3), .val (.int u4), .val (.ref b121), .val (.int qq), .val (.int (2 : Int32)), .val (.ref b164), .val (.int rr), .unset, .unset] [(.int rr), (.ref b121), (.ref b164)]))
    refine Goes.of (fun t k => ldI X172 hx hZ rfl F173 (j := rr) (i := rr.toNatClampNeg) (v := (m3 rr.toNatClampNeg)) (own_nn h_rr.1) rfl (by omega) rfl (g := (mkF m 151 #[.val (.int u0), .val (.int u1), .val (.int u2), .val (.int u3), .val (.int u4), .val (.ref b121), .val (.int qq), .val (.int (2 : Int32)), .val (.ref b164), .val (.int rr), .unset, .unset] [(.int rr), (.ref b121), (.ref b164)])) rfl rfl (hb hby at_151) t k) ?_
    show Goes _ _ _ _ _ _ _ (T172.setTop (mkF m 152 #[.val (.int u0), .val (.int u1), .val (.int u2), .val (.int u3), .val (.int u4), .val (.ref b121), .val (.int qq), .val (.int (2 : Int32)), .val (.ref b164), .val (.int rr), .unset, .unset] [(.int (m3 rr.toNatClampNeg)), (.ref b164)]))
    obtain ⟨cq175, kq175, q175a, q175b, q175c⟩ := isOf hZ rfl Eo172
    obtain ⟨_, _, ⟨T175, L175, k175, n175⟩, -, X175, ⟨Lc175, hQ175, l175, y175, z175⟩, st175⟩ := X172.virtualBack hx (y := (⟨"com/example/slotwright/slotwright/problems/IndexSet", "remove", "(I)V"⟩ : MethodName)) (z := (⟨"com/example/slotwright/slotwright/problems/IndexSet", "remove", "(I)V"⟩ : MethodName)) hown (mvT hZ (hw _ (List.mem_of_getElem? (i := 30) rfl))) (mvT hZ (hw _ (List.mem_of_getElem? (i := 31) rfl))) (notFace_of_selects (args := #[]) (mvT hZ (hw _ (List.mem_of_getElem? (i := 33) rfl)))) (mvT hZ (hw _ (List.mem_of_getElem? (i := 33) rfl))) (mvT hZ (hw _ (List.mem_of_getElem? (i := 32) rfl))) (by decide) (backOf (W := 0) (rm6 l Z a0 hw [] b164 (m3 rr.toNatClampNeg) mm166 pp166 4 M2 P2 (((0 : Int32) + (1 : Int32)) + (1 : Int32)) T172.heap n0 Z172 Eo172 Fm172 Fp172 Fs172 Vm172 Vp172 ne_b164_mm166 ne_b164_pp166 ne_mm166_pp166 g_b164 g_mm166 g_pp166 ⟨by decide, by decide⟩ (hI2.1 _ (by omega)) (by rw [hI2.2.2.2.1 _ (by omega), len_toInt (by omega)]; omega) (by have hlk := hI2.2.2.1 1 (by decide); have hlr := hI2.1 1 (by decide); rw [← hlk] at hlr; exact hlr)) hZ (hw _ (List.mem_of_getElem? (i := 34) rfl)) (hw _ (List.mem_of_getElem? (i := 8) rfl)) (by decide) (by decide)) q175a q175c (g := (mkF m 152 #[.val (.int u0), .val (.int u1), .val (.int u2), .val (.int u3), .val (.int u4), .val (.ref b121), .val (.int qq), .val (.int (2 : Int32)), .val (.ref b164), .val (.int rr), .unset, .unset] [(.int (m3 rr.toNatClampNeg)), (.ref b164)])) rfl (by rw [hml]; rfl) (Steps.refl _) (argsL := [(.int (m3 rr.toNatClampNeg))]) (rest := []) (lenOf pd_5 rfl) rfl (by show 2 * 0 + _ ≤ _; exact Nat.le_of_eq rfl) (hb hby at_152) (fun _ _ => ⟨rfl, rfl, (by decide : 4 + 0 ≤ _), (by decide : 15 + 0 ≤ _)⟩)
    dsimp only [Pt.U, Pt.locs, Pt.cells, Pt.slots] at X175 l175 y175 z175 st175 hQ175
    replace l175 := l175.symm
    replace y175 := y175.symm
    replace z175 := z175.symm
    subst l175 y175 z175
    obtain ⟨rfl, N175q, K175, Eo175, Fm175, Fp175, Fs175, Vm175, Vp175⟩ := hQ175
    have F176 := F173.keep K175 (ninS ne_b121_b164 (ninS ne_b121_mm166 (ninS ne_b121_pp166 nin0)))
    have F177 := Eo172.keep K175
    have Z175 : n0 ≤ T175.heap.size := Nat.le_trans Z172 K175.1
    have N175 := Fr.app N172 N175q
    refine Goes.of (fun t k => st175.trans k) ?_
    show Goes _ _ _ _ _ _ _ (T175.setTop (mkF m 155 #[.val (.int u0), .val (.int u1), .val (.int u2), .val (.int u3), .val (.int u4), .val (.ref b121), .val (.int qq), .val (.int (2 : Int32)), .val (.ref b164), .val (.int rr), .unset, .unset] []))
    refine Goes.of (fun t k => XS.aload X175.here hx rfl (hb hby at_155) rfl rfl k) ?_
    show Goes _ _ _ _ _ _ _ (T175.setTop (mkF m 157 #[.val (.int u0), .val (.int u1), .val (.int u2), .val (.int u3), .val (.int u4), .val (.ref b121), .val (.int qq), .val (.int (2 : Int32)), .val (.ref b164), .val (.int rr), .unset, .unset] [(.ref b121)]))
    refine Goes.of (fun t k => XS.iload X175.here hx rfl (hb hby at_157) rfl k) ?_
    show Goes _ _ _ _ _ _ _ (T175.setTop (mkF m 159 #[.val (.int u0), .val (.int u1), .val (.int u2), .val (.int u3), .val (.int u4), .val (.ref b121), .val (.int qq), .val (.int (2 : Int32)), .val (.ref b164), .val (.int rr), .unset, .unset] [(.int rr), (.ref b121)]))
    refine Goes.of (fun t k => XS.aload X175.here hx rfl (hb hby at_159) rfl rfl k) ?_
    show Goes _ _ _ _ _ _ _ (T175.setTop (mkF m 161 #[.val (.int u0), .val (.int u1), .val (.int u2), .val (.int u3), .val (.int u4), .val (.ref b121), .val (.int qq), .val (.int (2 : Int32)), .val (.ref b164), .val (.int rr), .unset, .unset] [(.ref b121), (.int rr), (.ref b121)]))
    refine Goes.of (fun t k => XS.iload X175.here hx rfl (hb hby at_161) rfl k) ?_
    show Goes _ _ _ _ _ _ _ (T175.setTop (mkF m 163 #[.val (.int u0), .val (.int u1), .val (.int u2), .val (.int u3), .val (.int u4), .val (.ref b121), .val (.int qq), .val (.int (2 : Int32)), .val (.ref b164), .val (.int rr), .unset, .unset] [(.int (2 : Int32)), (.ref b121), (.int rr), (.ref b121)]))
    refine Goes.of (fun t k => XS.iconst X175.here hx rfl (hb hby at_163) k) ?_
    show Goes _ _ _ _ _ _ _ (T175.setTop (mkF m 164 #[.val (.int u0), .val (.int u1), .val (.int u2), .val (.int u3), .val (.int u4), .val (.ref b121), .val (.int qq), .val (.int (2 : Int32)), .val (.ref b164), .val (.int rr), .unset, .unset] [(.int (1 : Int32)), (.int (2 : Int32)), (.ref b121), (.int rr), (.ref b121)]))
    refine Goes.of (fun t k => XS.isub X175.here hx rfl (hb hby at_164) rfl k) ?_
    show Goes _ _ _ _ _ _ _ (T175.setTop (mkF m 165 #[.val (.int u0), .val (.int u1), .val (.int u2), .val (.int u3), .val (.int u4), .val (.ref b121), .val (.int qq), .val (.int (2 : Int32)), .val (.ref b164), .val (.int rr), .unset, .unset] [(.int (1 : Int32)), (.ref b121), (.int rr), (.ref b121)]))
    refine Goes.of (fun t k => ldI X175 hx hZ rfl F176 (j := (1 : Int32)) (i := 1) (v := (m3 1)) (by decide) (by decide) (by decide) rfl (g := (mkF m 165 #[.val (.int u0), .val (.int u1), .val (.int u2), .val (.int u3), .val (.int u4), .val (.ref b121), .val (.int qq), .val (.int (2 : Int32)), .val (.ref b164), .val (.int rr), .unset, .unset] [(.int (1 : Int32)), (.ref b121), (.int rr), (.ref b121)])) rfl rfl (hb hby at_165) t k) ?_
    show Goes _ _ _ _ _ _ _ (T175.setTop (mkF m 166 #[.val (.int u0), .val (.int u1), .val (.int u2), .val (.int u3), .val (.int u4), .val (.ref b121), .val (.int qq), .val (.int (2 : Int32)), .val (.ref b164), .val (.int rr), .unset, .unset] [(.int (m3 1)), (.int rr), (.ref b121)]))
    obtain ⟨T178, h178, X178, e178, W178, V178, st178⟩ := putI X175 hx hZ rfl F176 (j := rr) (x := (m3 1)) (i := rr.toNatClampNeg) (own_nn h_rr.1) rfl (by omega) (g := (mkF m 166 #[.val (.int u0), .val (.int u1), .val (.int u2), .val (.int u3), .val (.int u4), .val (.ref b121), .val (.int qq), .val (.int (2 : Int32)), .val (.ref b164), .val (.int rr), .unset, .unset] [(.int (m3 1)), (.int rr), (.ref b121)])) rfl rfl (hb hby at_166)
    have F179 := Exa.wr W178 Eo175
    have F180 := Fld.other W178 Fm175 (Or.inl (Ne.symm ne_b121_b164))
    have F181 := Fld.other W178 Fp175 (Or.inl (Ne.symm ne_b121_b164))
    have F182 := Fld.other W178 Fs175 (Or.inl (Ne.symm ne_b121_b164))
    have F183 := Vm175.other W178 (Ne.symm ne_b121_mm166)
    have F184 := Vp175.other W178 (Ne.symm ne_b121_pp166)
    have Z178 : n0 ≤ h178.size := Nat.le_trans Z175 (Keep.of_wr W178).1
    have N178 := Fr.snoc X178 N175 g_b121
    refine Goes.of st178 ?_
    show Goes _ _ _ _ _ _ _ (T178.setTop (mkF m 167 #[.val (.int u0), .val (.int u1), .val (.int u2), .val (.int u3), .val (.int u4), .val (.ref b121), .val (.int qq), .val (.int (2 : Int32)), .val (.ref b164), .val (.int rr), .unset, .unset] []))
    obtain ⟨m4, hf_m4⟩ : ∃ f : Nat → Int32, f = (upd m3 rr.toNatClampNeg (m3 1)) := ⟨_, rfl⟩
    rw [← hf_m4] at V178
    obtain ⟨Mr, hf_Mr⟩ : ∃ f : Nat → Int32, f = (upd M2 (P2 (m3 rr.toNatClampNeg).toNatClampNeg).toNatClampNeg (M2 ((((0 : Int32) + (1 : Int32)) + (1 : Int32)) - (1 : Int32)).toNatClampNeg)) := ⟨_, rfl⟩
    rw [← hf_Mr] at F183
    obtain ⟨Pr, hf_Pr⟩ : ∃ f : Nat → Int32, f = (upd (upd P2 (M2 ((((0 : Int32) + (1 : Int32)) + (1 : Int32)) - (1 : Int32)).toNatClampNeg).toNatClampNeg (P2 (m3 rr.toNatClampNeg).toNatClampNeg)) (m3 rr.toNatClampNeg).toNatClampNeg (-1 : Int32)) := ⟨_, rfl⟩
    rw [← hf_Pr] at F184
    have hIr : own_Inv m4 Mr Pr 1 := by rw [hf_m4, hf_Mr, hf_Pr]; exact own_rm (k := 1) (r := rr.toNatClampNeg) hI2 (by decide) (by omega) rfl rfl
    refine Goes.of (fun t k => XS.iload X178.here hx rfl (hb hby at_167) rfl k) ?_
    show Goes _ _ _ _ _ _ _ (T178.setTop (mkF m 169 #[.val (.int u0), .val (.int u1), .val (.int u2), .val (.int u3), .val (.int u4), .val (.ref b121), .val (.int qq), .val (.int (2 : Int32)), .val (.ref b164), .val (.int rr), .unset, .unset] [(.int (2 : Int32))]))
    refine Goes.of (fun t k => XS.iconst X178.here hx rfl (hb hby at_169) k) ?_
    show Goes _ _ _ _ _ _ _ (T178.setTop (mkF m 170 #[.val (.int u0), .val (.int u1), .val (.int u2), .val (.int u3), .val (.int u4), .val (.ref b121), .val (.int qq), .val (.int (2 : Int32)), .val (.ref b164), .val (.int rr), .unset, .unset] [(.int (1 : Int32)), (.int (2 : Int32))]))
    refine Goes.of (fun t k => XS.isub X178.here hx rfl (hb hby at_170) rfl k) ?_
    show Goes _ _ _ _ _ _ _ (T178.setTop (mkF m 171 #[.val (.int u0), .val (.int u1), .val (.int u2), .val (.int u3), .val (.int u4), .val (.ref b121), .val (.int qq), .val (.int (2 : Int32)), .val (.ref b164), .val (.int rr), .unset, .unset] [(.int (1 : Int32))]))
    refine Goes.of (fun t k => XS.istore X178.here hx rfl (hb hby at_171) rfl (l' := #[.val (.int u0), .val (.int u1), .val (.int u2), .val (.int u3), .val (.int u4), .val (.ref b121), .val (.int qq), .val (.int (2 : Int32)), .val (.ref b164), .val (.int rr), .val (.int (1 : Int32)), .unset]) rfl k) ?_
    show Goes _ _ _ _ _ _ _ (T178.setTop (mkF m 173 #[.val (.int u0), .val (.int u1), .val (.int u2), .val (.int u3), .val (.int u4), .val (.ref b121), .val (.int qq), .val (.int (2 : Int32)), .val (.ref b164), .val (.int rr), .val (.int (1 : Int32)), .unset] []))
    refine Goes.of (fun t k => XS.iload X178.here hx rfl (hb hby at_173) rfl k) ?_
    show Goes _ _ _ _ _ _ _ (T178.setTop (mkF m 175 #[.val (.int u0), .val (.int u1), .val (.int u2), .val (.int u3), .val (.int u4), .val (.ref b121), .val (.int qq), .val (.int (2 : Int32)), .val (.ref b164), .val (.int rr), .val (.int (1 : Int32)), .unset] [(.int u4)]))
    refine Goes.of (fun t k => XS.iconst X178.here hx rfl (hb hby at_175) k) ?_
    show Goes _ _ _ _ _ _ _ (T178.setTop (mkF m 176 #[.val (.int u0), .val (.int u1), .val (.int u2), .val (.int u3), .val (.int u4), .val (.ref b121), .val (.int qq), .val (.int (2 : Int32)), .val (.ref b164), .val (.int rr), .val (.int (1 : Int32)), .unset] [(.int (1 : Int32)), (.int u4)]))
    refine Goes.of (fun t k => XS.iand X178.here hx rfl (hb hby at_176) rfl k) ?_
    show Goes _ _ _ _ _ _ _ (T178.setTop (mkF m 177 #[.val (.int u0), .val (.int u1), .val (.int u2), .val (.int u3), .val (.int u4), .val (.ref b121), .val (.int qq), .val (.int (2 : Int32)), .val (.ref b164), .val (.int rr), .val (.int (1 : Int32)), .unset] [(.int (u4 &&& (1 : Int32)))]))
    by_cases hc185 : (u4 &&& (1 : Int32)) = (0 : Int32)
    · refine Goes.of (fun t k => XS.ifYes X178.here hx rfl (pc0 := 177) (pc' := 222) rfl (hb hby at_177) rfl ((if0 _ _).trans (teq hc185).1) (by decide) (by decide) k) ?_
      show Goes _ _ _ _ _ _ _ (T178.setTop (mkF m 222 #[.val (.int u0), .val (.int u1), .val (.int u2), .val (.int u3), .val (.int u4), .val (.ref b121), .val (.int qq), .val (.int (2 : Int32)), .val (.ref b164), .val (.int rr), .val (.int (1 : Int32)), .unset] []))
      refine Goes.of (fun t k => XS.aload X178.here hx rfl (hb hby at_222) rfl rfl k) ?_
      show Goes _ _ _ _ _ _ _ (T178.setTop (mkF m 224 #[.val (.int u0), .val (.int u1), .val (.int u2), .val (.int u3), .val (.int u4), .val (.ref b121), .val (.int qq), .val (.int (2 : Int32)), .val (.ref b164), .val (.int rr), .val (.int (1 : Int32)), .unset] [(.ref b164)]))
      obtain ⟨cq186, kq186, q186a, q186b, q186c⟩ := isOf hZ e178 F179
      obtain ⟨_, _, ⟨T186, L186, k186, n186⟩, -, X186, ⟨Lc186, hQ186, l186, y186, z186⟩, st186⟩ := X178.virtualBack hx (y := (⟨"com/example/slotwright/slotwright/problems/IndexSet", "size", "()I"⟩ : MethodName)) (z := (⟨"com/example/slotwright/slotwright/problems/IndexSet", "size", "()I"⟩ : MethodName)) hown (mvT hZ (hw _ (List.mem_of_getElem? (i := 35) rfl))) (mvT hZ (hw _ (List.mem_of_getElem? (i := 36) rfl))) (notFace_of_selects (args := #[]) (mvT hZ (hw _ (List.mem_of_getElem? (i := 38) rfl)))) (mvT hZ (hw _ (List.mem_of_getElem? (i := 38) rfl))) (mvT hZ (hw _ (List.mem_of_getElem? (i := 37) rfl))) (by decide) (backOf (W := 0) (rm7 l Z a0 hw [] b164 mm166 pp166 4 Mr Pr ((((0 : Int32) + (1 : Int32)) + (1 : Int32)) - (1 : Int32)) h178 n0 Z178 F179 F180 F181 F182 F183 F184 ne_b164_mm166 ne_b164_pp166 ne_mm166_pp166 g_b164 g_mm166 g_pp166) hZ (hw _ (List.mem_of_getElem? (i := 39) rfl)) (hw _ (List.mem_of_getElem? (i := 8) rfl)) (by decide) (by decide)) q186a q186c (g := (mkF m 224 #[.val (.int u0), .val (.int u1), .val (.int u2), .val (.int u3), .val (.int u4), .val (.ref b121), .val (.int qq), .val (.int (2 : Int32)), .val (.ref b164), .val (.int rr), .val (.int (1 : Int32)), .unset] [(.ref b164)])) rfl (by rw [hml]; rfl) (Steps.refl _) (argsL := []) (rest := []) (lenOf pd_6 rfl) rfl (by show 2 * 0 + _ ≤ _; exact Nat.le_of_eq rfl) (hb hby at_224) (fun _ _ => ⟨rfl, e178, (by decide : 4 + 0 ≤ _), (by decide : 15 + 0 ≤ _)⟩)
      dsimp only [Pt.U, Pt.locs, Pt.cells, Pt.slots] at X186 l186 y186 z186 st186 hQ186
      replace l186 := l186.symm
      replace y186 := y186.symm
      replace z186 := z186.symm
      subst l186 y186 z186
      obtain ⟨rfl, N186q, e186⟩ := hQ186
      have N186 := Fr.app N178 N186q
      refine Goes.of (fun t k => st186.trans k) ?_
      show Goes _ _ _ _ _ _ _ (T186.setTop (mkF m 227 #[.val (.int u0), .val (.int u1), .val (.int u2), .val (.int u3), .val (.int u4), .val (.ref b121), .val (.int qq), .val (.int (2 : Int32)), .val (.ref b164), .val (.int rr), .val (.int (1 : Int32)), .unset] [(.int ((((0 : Int32) + (1 : Int32)) + (1 : Int32)) - (1 : Int32)))]))
      refine Goes.of (fun t k => XS.iload X186.here hx rfl (hb hby at_227) rfl k) ?_
      show Goes _ _ _ _ _ _ _ (T186.setTop (mkF m 229 #[.val (.int u0), .val (.int u1), .val (.int u2), .val (.int u3), .val (.int u4), .val (.ref b121), .val (.int qq), .val (.int (2 : Int32)), .val (.ref b164), .val (.int rr), .val (.int (1 : Int32)), .unset] [(.int (1 : Int32)), (.int ((((0 : Int32) + (1 : Int32)) + (1 : Int32)) - (1 : Int32)))]))
      refine Goes.of (fun t k => XS.icmpNo X186.here hx rfl (hb hby at_229) rfl (teq (by decide)).2 k) ?_
      show Goes _ _ _ _ _ _ _ (T186.setTop (mkF m 232 #[.val (.int u0), .val (.int u1), .val (.int u2), .val (.int u3), .val (.int u4), .val (.ref b121), .val (.int qq), .val (.int (2 : Int32)), .val (.ref b164), .val (.int rr), .val (.int (1 : Int32)), .unset] []))
      refine Goes.of (fun t k => XS.aload X186.here hx rfl (hb hby at_232) rfl rfl k) ?_
      show Goes _ _ _ _ _ _ _ (T186.setTop (mkF m 234 #[.val (.int u0), .val (.int u1), .val (.int u2), .val (.int u3), .val (.int u4), .val (.ref b121), .val (.int qq), .val (.int (2 : Int32)), .val (.ref b164), .val (.int rr), .val (.int (1 : Int32)), .unset] [(.ref b164)]))
      refine Goes.of (fun t k => XS.aload X186.here hx rfl (hb hby at_234) rfl rfl k) ?_
      show Goes _ _ _ _ _ _ _ (T186.setTop (mkF m 236 #[.val (.int u0), .val (.int u1), .val (.int u2), .val (.int u3), .val (.int u4), .val (.ref b121), .val (.int qq), .val (.int (2 : Int32)), .val (.ref b164), .val (.int rr), .val (.int (1 : Int32)), .unset] [(.ref b121), (.ref b164)]))
      refine Goes.of (fun t k => XS.iload X186.here hx rfl (hb hby at_236) rfl k) ?_
      show Goes _ _ _ _ _ _ _ (T186.setTop (mkF m 238 #[.val (.int u0), .val (.int u1), .val (.int u2), .val (.int u3), .val (.int u4), .val (.ref b121), .val (.int qq), .val (.int (2 : Int32)), .val (.ref b164), .val (.int rr), .val (.int (1 : Int32)), .unset] [(.int (1 : Int32)), (.ref b121), (.ref b164)]))
      refine Goes.of (fun t k => XS.iconst X186.here hx rfl (hb hby at_238) k) ?_
      show Goes _ _ _ _ _ _ _ (T186.setTop (mkF m 239 #[.val (.int u0), .val (.int u1), .val (.int u2), .val (.int u3), .val (.int u4), .val (.ref b121), .val (.int qq), .val (.int (2 : Int32)), .val (.ref b164), .val (.int rr), .val (.int (1 : Int32)), .unset] [(.int (0 : Int32)), (.int (1 : Int32)), (.ref b121), (.ref b164)]))
      obtain ⟨_, _, ⟨T187, L187, k187, n187⟩, -, X187, ⟨Lc187, hQ187, l187, y187, z187⟩, st187⟩ := Jvm.LawKit.callS X186 hx (y := (⟨"com/example/slotwright/slotwright/problems/IndexSetRemovePinLaw", "at", "(Lcom/example/slotwright/slotwright/problems/IndexSet;[III)Z"⟩ : MethodName)) hown (mvT hZ (hw _ (List.mem_of_getElem? (i := 40) rfl))) (mvT hZ (hw _ (List.mem_of_getElem? (i := 41) rfl))) (mvT hZ (hw _ (List.mem_of_getElem? (i := 4) rfl))) (mvT hZ (hw _ (List.mem_of_getElem? (i := 42) rfl))) (by decide) (backOf (W := 0) (rm8 l Z a0 hw [] b164 b121 (1 : Int32) (0 : Int32) mm166 pp166 4 Mr Pr ((((0 : Int32) + (1 : Int32)) + (1 : Int32)) - (1 : Int32)) m4 h178 n0 Z178 F179 F180 F181 F182 F183 F184 ne_b164_mm166 ne_b164_pp166 ne_mm166_pp166 g_b164 g_mm166 g_pp166 V178 (by decide) (by decide) (fun q => hIr.2.2.1 0 (by decide))) hZ (hw _ (List.mem_of_getElem? (i := 42) rfl)) (hw _ (List.mem_of_getElem? (i := 4) rfl)) (by decide) (by decide)) (g := (mkF m 239 #[.val (.int u0), .val (.int u1), .val (.int u2), .val (.int u3), .val (.int u4), .val (.ref b121), .val (.int qq), .val (.int (2 : Int32)), .val (.ref b164), .val (.int rr), .val (.int (1 : Int32)), .unset] [(.int (0 : Int32)), (.int (1 : Int32)), (.ref b121), (.ref b164)])) rfl (by rw [hml]; rfl) (argsL := [(.ref b164), (.ref b121), (.int (1 : Int32)), (.int (0 : Int32))]) (rest := []) (lenOf pd_7 rfl) rfl (by show 2 * 0 + _ ≤ _; exact Nat.le_of_eq rfl) (hb hby at_239) (fun _ _ => ⟨rfl, e186, (by decide : 4 + 0 ≤ _), (by decide : 15 + 0 ≤ _)⟩)
      dsimp only [Pt.U, Pt.locs, Pt.cells, Pt.slots] at X187 l187 y187 z187 st187 hQ187
      replace l187 := l187.symm
      replace y187 := y187.symm
      replace z187 := z187.symm
      subst l187 y187 z187
      obtain ⟨rfl, N187q, e187⟩ := hQ187
      have N187 := Fr.app N186 N187q
      refine Goes.of st187 ?_
      show Goes _ _ _ _ _ _ _ (T187.setTop (mkF m 242 #[.val (.int u0), .val (.int u1), .val (.int u2), .val (.int u3), .val (.int u4), .val (.ref b121), .val (.int qq), .val (.int (2 : Int32)), .val (.ref b164), .val (.int rr), .val (.int (1 : Int32)), .unset] [(.int (1 : Int32))]))
      refine Goes.of (fun t k => XS.ifNo X187.here hx rfl (hb hby at_242) rfl ((if0 _ _).trans (feq (by decide : ¬ ((1 : Int32) = (0 : Int32)))).1) k) ?_
      show Goes _ _ _ _ _ _ _ (T187.setTop (mkF m 245 #[.val (.int u0), .val (.int u1), .val (.int u2), .val (.int u3), .val (.int u4), .val (.ref b121), .val (.int qq), .val (.int (2 : Int32)), .val (.ref b164), .val (.int rr), .val (.int (1 : Int32)), .unset] []))
      refine Goes.of (fun t k => XS.aload X187.here hx rfl (hb hby at_245) rfl rfl k) ?_
      show Goes _ _ _ _ _ _ _ (T187.setTop (mkF m 247 #[.val (.int u0), .val (.int u1), .val (.int u2), .val (.int u3), .val (.int u4), .val (.ref b121), .val (.int qq), .val (.int (2 : Int32)), .val (.ref b164), .val (.int rr), .val (.int (1 : Int32)), .unset] [(.ref b164)]))
      refine Goes.of (fun t k => XS.aload X187.here hx rfl (hb hby at_247) rfl rfl k) ?_
      show Goes _ _ _ _ _ _ _ (T187.setTop (mkF m 249 #[.val (.int u0), .val (.int u1), .val (.int u2), .val (.int u3), .val (.int u4), .val (.ref b121), .val (.int qq), .val (.int (2 : Int32)), .val (.ref b164), .val (.int rr), .val (.int (1 : Int32)), .unset] [(.ref b121), (.ref b164)]))
      refine Goes.of (fun t k => XS.iload X187.here hx rfl (hb hby at_249) rfl k) ?_
      show Goes _ _ _ _ _ _ _ (T187.setTop (mkF m 251 #[.val (.int u0), .val (.int u1), .val (.int u2), .val (.int u3), .val (.int u4), .val (.ref b121), .val (.int qq), .val (.int (2 : Int32)), .val (.ref b164), .val (.int rr), .val (.int (1 : Int32)), .unset] [(.int (1 : Int32)), (.ref b121), (.ref b164)]))
      refine Goes.of (fun t k => XS.iconst X187.here hx rfl (hb hby at_251) k) ?_
      show Goes _ _ _ _ _ _ _ (T187.setTop (mkF m 252 #[.val (.int u0), .val (.int u1), .val (.int u2), .val (.int u3), .val (.int u4), .val (.ref b121), .val (.int qq), .val (.int (2 : Int32)), .val (.ref b164), .val (.int rr), .val (.int (1 : Int32)), .unset] [(.int (1 : Int32)), (.int (1 : Int32)), (.ref b121), (.ref b164)]))
      obtain ⟨_, _, ⟨T188, L188, k188, n188⟩, -, X188, ⟨Lc188, hQ188, l188, y188, z188⟩, st188⟩ := Jvm.LawKit.callS X187 hx (y := (⟨"com/example/slotwright/slotwright/problems/IndexSetRemovePinLaw", "at", "(Lcom/example/slotwright/slotwright/problems/IndexSet;[III)Z"⟩ : MethodName)) hown (mvT hZ (hw _ (List.mem_of_getElem? (i := 40) rfl))) (mvT hZ (hw _ (List.mem_of_getElem? (i := 41) rfl))) (mvT hZ (hw _ (List.mem_of_getElem? (i := 4) rfl))) (mvT hZ (hw _ (List.mem_of_getElem? (i := 42) rfl))) (by decide) (backOf (W := 0) (rm8 l Z a0 hw [] b164 b121 (1 : Int32) (1 : Int32) mm166 pp166 4 Mr Pr ((((0 : Int32) + (1 : Int32)) + (1 : Int32)) - (1 : Int32)) m4 h178 n0 Z178 F179 F180 F181 F182 F183 F184 ne_b164_mm166 ne_b164_pp166 ne_mm166_pp166 g_b164 g_mm166 g_pp166 V178 (by decide) (by decide) (fun q => absurd q (by decide))) hZ (hw _ (List.mem_of_getElem? (i := 42) rfl)) (hw _ (List.mem_of_getElem? (i := 4) rfl)) (by decide) (by decide)) (g := (mkF m 252 #[.val (.int u0), .val (.int u1), .val (.int u2), .val (.int u3), .val (.int u4), .val (.ref b121), .val (.int qq), .val (.int (2 : Int32)), .val (.ref b164), .val (.int rr), .val (.int (1 : Int32)), .unset] [(.int (1 : Int32)), (.int (1 : Int32)), (.ref b121), (.ref b164)])) rfl (by rw [hml]; rfl) (argsL := [(.ref b164), (.ref b121), (.int (1 : Int32)), (.int (1 : Int32))]) (rest := []) (lenOf pd_7 rfl) rfl (by show 2 * 0 + _ ≤ _; exact Nat.le_of_eq rfl) (hb hby at_252) (fun _ _ => ⟨rfl, e187, (by decide : 4 + 0 ≤ _), (by decide : 15 + 0 ≤ _)⟩)
      dsimp only [Pt.U, Pt.locs, Pt.cells, Pt.slots] at X188 l188 y188 z188 st188 hQ188
      replace l188 := l188.symm
      replace y188 := y188.symm
      replace z188 := z188.symm
      subst l188 y188 z188
      obtain ⟨rfl, N188q, e188⟩ := hQ188
      have N188 := Fr.app N187 N188q
      refine Goes.of st188 ?_
      show Goes _ _ _ _ _ _ _ (T188.setTop (mkF m 255 #[.val (.int u0), .val (.int u1), .val (.int u2), .val (.int u3), .val (.int u4), .val (.ref b121), .val (.int qq), .val (.int (2 : Int32)), .val (.ref b164), .val (.int rr), .val (.int (1 : Int32)), .unset] [(.int (1 : Int32))]))
      refine Goes.of (fun t k => XS.ifNo X188.here hx rfl (hb hby at_255) rfl ((if0 _ _).trans (feq (by decide : ¬ ((1 : Int32) = (0 : Int32)))).1) k) ?_
      show Goes _ _ _ _ _ _ _ (T188.setTop (mkF m 258 #[.val (.int u0), .val (.int u1), .val (.int u2), .val (.int u3), .val (.int u4), .val (.ref b121), .val (.int qq), .val (.int (2 : Int32)), .val (.ref b164), .val (.int rr), .val (.int (1 : Int32)), .unset] []))
      refine Goes.of (fun t k => XS.aload X188.here hx rfl (hb hby at_258) rfl rfl k) ?_
      show Goes _ _ _ _ _ _ _ (T188.setTop (mkF m 260 #[.val (.int u0), .val (.int u1), .val (.int u2), .val (.int u3), .val (.int u4), .val (.ref b121), .val (.int qq), .val (.int (2 : Int32)), .val (.ref b164), .val (.int rr), .val (.int (1 : Int32)), .unset] [(.ref b164)]))
      refine Goes.of (fun t k => XS.aload X188.here hx rfl (hb hby at_260) rfl rfl k) ?_
      show Goes _ _ _ _ _ _ _ (T188.setTop (mkF m 262 #[.val (.int u0), .val (.int u1), .val (.int u2), .val (.int u3), .val (.int u4), .val (.ref b121), .val (.int qq), .val (.int (2 : Int32)), .val (.ref b164), .val (.int rr), .val (.int (1 : Int32)), .unset] [(.ref b121), (.ref b164)]))
      refine Goes.of (fun t k => XS.iload X188.here hx rfl (hb hby at_262) rfl k) ?_
      show Goes _ _ _ _ _ _ _ (T188.setTop (mkF m 264 #[.val (.int u0), .val (.int u1), .val (.int u2), .val (.int u3), .val (.int u4), .val (.ref b121), .val (.int qq), .val (.int (2 : Int32)), .val (.ref b164), .val (.int rr), .val (.int (1 : Int32)), .unset] [(.int (1 : Int32)), (.ref b121), (.ref b164)]))
      refine Goes.of (fun t k => XS.iconst X188.here hx rfl (hb hby at_264) k) ?_
      show Goes _ _ _ _ _ _ _ (T188.setTop (mkF m 265 #[.val (.int u0), .val (.int u1), .val (.int u2), .val (.int u3), .val (.int u4), .val (.ref b121), .val (.int qq), .val (.int (2 : Int32)), .val (.ref b164), .val (.int rr), .val (.int (1 : Int32)), .unset] [(.int (2 : Int32)), (.int (1 : Int32)), (.ref b121), (.ref b164)]))
      obtain ⟨_, _, ⟨T189, L189, k189, n189⟩, -, X189, ⟨Lc189, hQ189, l189, y189, z189⟩, st189⟩ := Jvm.LawKit.callS X188 hx (y := (⟨"com/example/slotwright/slotwright/problems/IndexSetRemovePinLaw", "at", "(Lcom/example/slotwright/slotwright/problems/IndexSet;[III)Z"⟩ : MethodName)) hown (mvT hZ (hw _ (List.mem_of_getElem? (i := 40) rfl))) (mvT hZ (hw _ (List.mem_of_getElem? (i := 41) rfl))) (mvT hZ (hw _ (List.mem_of_getElem? (i := 4) rfl))) (mvT hZ (hw _ (List.mem_of_getElem? (i := 42) rfl))) (by decide) (backOf (W := 0) (rm8 l Z a0 hw [] b164 b121 (1 : Int32) (2 : Int32) mm166 pp166 4 Mr Pr ((((0 : Int32) + (1 : Int32)) + (1 : Int32)) - (1 : Int32)) m4 h178 n0 Z178 F179 F180 F181 F182 F183 F184 ne_b164_mm166 ne_b164_pp166 ne_mm166_pp166 g_b164 g_mm166 g_pp166 V178 (by decide) (by decide) (fun q => absurd q (by decide))) hZ (hw _ (List.mem_of_getElem? (i := 42) rfl)) (hw _ (List.mem_of_getElem? (i := 4) rfl)) (by decide) (by decide)) (g := (mkF m 265 #[.val (.int u0), .val (.int u1), .val (.int u2), .val (.int u3), .val (.int u4), .val (.ref b121), .val (.int qq), .val (.int (2 : Int32)), .val (.ref b164), .val (.int rr), .val (.int (1 : Int32)), .unset] [(.int (2 : Int32)), (.int (1 : Int32)), (.ref b121), (.ref b164)])) rfl (by rw [hml]; rfl) (argsL := [(.ref b164), (.ref b121), (.int (1 : Int32)), (.int (2 : Int32))]) (rest := []) (lenOf pd_7 rfl) rfl (by show 2 * 0 + _ ≤ _; exact Nat.le_of_eq rfl) (hb hby at_265) (fun _ _ => ⟨rfl, e188, (by decide : 4 + 0 ≤ _), (by decide : 15 + 0 ≤ _)⟩)
      dsimp only [Pt.U, Pt.locs, Pt.cells, Pt.slots] at X189 l189 y189 z189 st189 hQ189
      replace l189 := l189.symm
      replace y189 := y189.symm
      replace z189 := z189.symm
      subst l189 y189 z189
      obtain ⟨rfl, N189q, e189⟩ := hQ189
      have N189 := Fr.app N188 N189q
      refine Goes.of st189 ?_
      show Goes _ _ _ _ _ _ _ (T189.setTop (mkF m 268 #[.val (.int u0), .val (.int u1), .val (.int u2), .val (.int u3), .val (.int u4), .val (.ref b121), .val (.int qq), .val (.int (2 : Int32)), .val (.ref b164), .val (.int rr), .val (.int (1 : Int32)), .unset] [(.int (1 : Int32))]))
      refine Goes.of (fun t k => XS.ifNo X189.here hx rfl (hb hby at_268) rfl ((if0 _ _).trans (feq (by decide : ¬ ((1 : Int32) = (0 : Int32)))).1) k) ?_
      show Goes _ _ _ _ _ _ _ (T189.setTop (mkF m 271 #[.val (.int u0), .val (.int u1), .val (.int u2), .val (.int u3), .val (.int u4), .val (.ref b121), .val (.int qq), .val (.int (2 : Int32)), .val (.ref b164), .val (.int rr), .val (.int (1 : Int32)), .unset] []))
      refine Goes.of (fun t k => XS.aload X189.here hx rfl (hb hby at_271) rfl rfl k) ?_
      show Goes _ _ _ _ _ _ _ (T189.setTop (mkF m 273 #[.val (.int u0), .val (.int u1), .val (.int u2), .val (.int u3), .val (.int u4), .val (.ref b121), .val (.int qq), .val (.int (2 : Int32)), .val (.ref b164), .val (.int rr), .val (.int (1 : Int32)), .unset] [(.ref b164)]))
      refine Goes.of (fun t k => XS.aload X189.here hx rfl (hb hby at_273) rfl rfl k) ?_
      show Goes _ _ _ _ _ _ _ (T189.setTop (mkF m 275 #[.val (.int u0), .val (.int u1), .val (.int u2), .val (.int u3), .val (.int u4), .val (.ref b121), .val (.int qq), .val (.int (2 : Int32)), .val (.ref b164), .val (.int rr), .val (.int (1 : Int32)), .unset] [(.ref b121), (.ref b164)]))
      refine Goes.of (fun t k => XS.iload X189.here hx rfl (hb hby at_275) rfl k) ?_
      show Goes _ _ _ _ _ _ _ (T189.setTop (mkF m 277 #[.val (.int u0), .val (.int u1), .val (.int u2), .val (.int u3), .val (.int u4), .val (.ref b121), .val (.int qq), .val (.int (2 : Int32)), .val (.ref b164), .val (.int rr), .val (.int (1 : Int32)), .unset] [(.int (1 : Int32)), (.ref b121), (.ref b164)]))
      refine Goes.of (fun t k => XS.iconst X189.here hx rfl (hb hby at_277) k) ?_
      show Goes _ _ _ _ _ _ _ (T189.setTop (mkF m 278 #[.val (.int u0), .val (.int u1), .val (.int u2), .val (.int u3), .val (.int u4), .val (.ref b121), .val (.int qq), .val (.int (2 : Int32)), .val (.ref b164), .val (.int rr), .val (.int (1 : Int32)), .unset] [(.int (0 : Int32)), (.int (1 : Int32)), (.ref b121), (.ref b164)]))
      obtain ⟨_, _, ⟨T190, L190, k190, n190⟩, -, X190, ⟨Lc190, hQ190, l190, y190, z190⟩, st190⟩ := Jvm.LawKit.callS X189 hx (y := (⟨"com/example/slotwright/slotwright/problems/IndexSetRemovePinLaw", "in", "(Lcom/example/slotwright/slotwright/problems/IndexSet;[III)Z"⟩ : MethodName)) hown (mvT hZ (hw _ (List.mem_of_getElem? (i := 48) rfl))) (mvT hZ (hw _ (List.mem_of_getElem? (i := 49) rfl))) (mvT hZ (hw _ (List.mem_of_getElem? (i := 4) rfl))) (mvT hZ (hw _ (List.mem_of_getElem? (i := 50) rfl))) (by decide) (backOf (W := 0) (rm10 l Z a0 hw [] b164 b121 (1 : Int32) (0 : Int32) mm166 pp166 4 Mr Pr ((((0 : Int32) + (1 : Int32)) + (1 : Int32)) - (1 : Int32)) m4 h178 n0 Z178 F179 F180 F181 F182 F183 F184 ne_b164_mm166 ne_b164_pp166 ne_mm166_pp166 g_b164 g_mm166 g_pp166 V178 ⟨by decide, by decide⟩ (by decide) (own_chk hIr (by decide) (by decide) ⟨by decide, by decide⟩)) hZ (hw _ (List.mem_of_getElem? (i := 50) rfl)) (hw _ (List.mem_of_getElem? (i := 4) rfl)) (by decide) (by decide)) (g := (mkF m 278 #[.val (.int u0), .val (.int u1), .val (.int u2), .val (.int u3), .val (.int u4), .val (.ref b121), .val (.int qq), .val (.int (2 : Int32)), .val (.ref b164), .val (.int rr), .val (.int (1 : Int32)), .unset] [(.int (0 : Int32)), (.int (1 : Int32)), (.ref b121), (.ref b164)])) rfl (by rw [hml]; rfl) (argsL := [(.ref b164), (.ref b121), (.int (1 : Int32)), (.int (0 : Int32))]) (rest := []) (lenOf pd_7 rfl) rfl (by show 2 * 0 + _ ≤ _; exact Nat.le_of_eq rfl) (hb hby at_278) (fun _ _ => ⟨rfl, e189, (by decide : 4 + 0 ≤ _), (by decide : 15 + 0 ≤ _)⟩)
      dsimp only [Pt.U, Pt.locs, Pt.cells, Pt.slots] at X190 l190 y190 z190 st190 hQ190
      replace l190 := l190.symm
      replace y190 := y190.symm
      replace z190 := z190.symm
      subst l190 y190 z190
      obtain ⟨rfl, N190q, e190⟩ := hQ190
      have N190 := Fr.app N189 N190q
      refine Goes.of st190 ?_
      show Goes _ _ _ _ _ _ _ (T190.setTop (mkF m 281 #[.val (.int u0), .val (.int u1), .val (.int u2), .val (.int u3), .val (.int u4), .val (.ref b121), .val (.int qq), .val (.int (2 : Int32)), .val (.ref b164), .val (.int rr), .val (.int (1 : Int32)), .unset] [(.int (1 : Int32))]))
      refine Goes.of (fun t k => XS.ifNo X190.here hx rfl (hb hby at_281) rfl ((if0 _ _).trans (feq (by decide : ¬ ((1 : Int32) = (0 : Int32)))).1) k) ?_
      show Goes _ _ _ _ _ _ _ (T190.setTop (mkF m 284 #[.val (.int u0), .val (.int u1), .val (.int u2), .val (.int u3), .val (.int u4), .val (.ref b121), .val (.int qq), .val (.int (2 : Int32)), .val (.ref b164), .val (.int rr), .val (.int (1 : Int32)), .unset] []))
      refine Goes.of (fun t k => XS.aload X190.here hx rfl (hb hby at_284) rfl rfl k) ?_
      show Goes _ _ _ _ _ _ _ (T190.setTop (mkF m 286 #[.val (.int u0), .val (.int u1), .val (.int u2), .val (.int u3), .val (.int u4), .val (.ref b121), .val (.int qq), .val (.int (2 : Int32)), .val (.ref b164), .val (.int rr), .val (.int (1 : Int32)), .unset] [(.ref b164)]))
      refine Goes.of (fun t k => XS.aload X190.here hx rfl (hb hby at_286) rfl rfl k) ?_
      show Goes _ _ _ _ _ _ _ (T190.setTop (mkF m 288 #[.val (.int u0), .val (.int u1), .val (.int u2), .val (.int u3), .val (.int u4), .val (.ref b121), .val (.int qq), .val (.int (2 : Int32)), .val (.ref b164), .val (.int rr), .val (.int (1 : Int32)), .unset] [(.ref b121), (.ref b164)]))
      refine Goes.of (fun t k => XS.iload X190.here hx rfl (hb hby at_288) rfl k) ?_
      show Goes _ _ _ _ _ _ _ (T190.setTop (mkF m 290 #[.val (.int u0), .val (.int u1), .val (.int u2), .val (.int u3), .val (.int u4), .val (.ref b121), .val (.int qq), .val (.int (2 : Int32)), .val (.ref b164), .val (.int rr), .val (.int (1 : Int32)), .unset] [(.int (1 : Int32)), (.ref b121), (.ref b164)]))
      refine Goes.of (fun t k => XS.iconst X190.here hx rfl (hb hby at_290) k) ?_
      show Goes _ _ _ _ _ _ _ (T190.setTop (mkF m 291 #[.val (.int u0), .val (.int u1), .val (.int u2), .val (.int u3), .val (.int u4), .val (.ref b121), .val (.int qq), .val (.int (2 : Int32)), .val (.ref b164), .val (.int rr), .val (.int (1 : Int32)), .unset] [(.int (1 : Int32)), (.int (1 : Int32)), (.ref b121), (.ref b164)]))
      obtain ⟨_, _, ⟨T191, L191, k191, n191⟩, -, X191, ⟨Lc191, hQ191, l191, y191, z191⟩, st191⟩ := Jvm.LawKit.callS X190 hx (y := (⟨"com/example/slotwright/slotwright/problems/IndexSetRemovePinLaw", "in", "(Lcom/example/slotwright/slotwright/problems/IndexSet;[III)Z"⟩ : MethodName)) hown (mvT hZ (hw _ (List.mem_of_getElem? (i := 48) rfl))) (mvT hZ (hw _ (List.mem_of_getElem? (i := 49) rfl))) (mvT hZ (hw _ (List.mem_of_getElem? (i := 4) rfl))) (mvT hZ (hw _ (List.mem_of_getElem? (i := 50) rfl))) (by decide) (backOf (W := 0) (rm10 l Z a0 hw [] b164 b121 (1 : Int32) (1 : Int32) mm166 pp166 4 Mr Pr ((((0 : Int32) + (1 : Int32)) + (1 : Int32)) - (1 : Int32)) m4 h178 n0 Z178 F179 F180 F181 F182 F183 F184 ne_b164_mm166 ne_b164_pp166 ne_mm166_pp166 g_b164 g_mm166 g_pp166 V178 ⟨by decide, by decide⟩ (by decide) (own_chk hIr (by decide) (by decide) ⟨by decide, by decide⟩)) hZ (hw _ (List.mem_of_getElem? (i := 50) rfl)) (hw _ (List.mem_of_getElem? (i := 4) rfl)) (by decide) (by decide)) (g := (mkF m 291 #[.val (.int u0), .val (.int u1), .val (.int u2), .val (.int u3), .val (.int u4), .val (.ref b121), .val (.int qq), .val (.int (2 : Int32)), .val (.ref b164), .val (.int rr), .val (.int (1 : Int32)), .unset] [(.int (1 : Int32)), (.int (1 : Int32)), (.ref b121), (.ref b164)])) rfl (by rw [hml]; rfl) (argsL := [(.ref b164), (.ref b121), (.int (1 : Int32)), (.int (1 : Int32))]) (rest := []) (lenOf pd_7 rfl) rfl (by show 2 * 0 + _ ≤ _; exact Nat.le_of_eq rfl) (hb hby at_291) (fun _ _ => ⟨rfl, e190, (by decide : 4 + 0 ≤ _), (by decide : 15 + 0 ≤ _)⟩)
      dsimp only [Pt.U, Pt.locs, Pt.cells, Pt.slots] at X191 l191 y191 z191 st191 hQ191
      replace l191 := l191.symm
      replace y191 := y191.symm
      replace z191 := z191.symm
      subst l191 y191 z191
      obtain ⟨rfl, N191q, e191⟩ := hQ191
      have N191 := Fr.app N190 N191q
      refine Goes.of st191 ?_
      show Goes _ _ _ _ _ _ _ (T191.setTop (mkF m 294 #[.val (.int u0), .val (.int u1), .val (.int u2), .val (.int u3), .val (.int u4), .val (.ref b121), .val (.int qq), .val (.int (2 : Int32)), .val (.ref b164), .val (.int rr), .val (.int (1 : Int32)), .unset] [(.int (1 : Int32))]))
      refine Goes.of (fun t k => XS.ifNo X191.here hx rfl (hb hby at_294) rfl ((if0 _ _).trans (feq (by decide : ¬ ((1 : Int32) = (0 : Int32)))).1) k) ?_
      show Goes _ _ _ _ _ _ _ (T191.setTop (mkF m 297 #[.val (.int u0), .val (.int u1), .val (.int u2), .val (.int u3), .val (.int u4), .val (.ref b121), .val (.int qq), .val (.int (2 : Int32)), .val (.ref b164), .val (.int rr), .val (.int (1 : Int32)), .unset] []))
      refine Goes.of (fun t k => XS.aload X191.here hx rfl (hb hby at_297) rfl rfl k) ?_
      show Goes _ _ _ _ _ _ _ (T191.setTop (mkF m 299 #[.val (.int u0), .val (.int u1), .val (.int u2), .val (.int u3), .val (.int u4), .val (.ref b121), .val (.int qq), .val (.int (2 : Int32)), .val (.ref b164), .val (.int rr), .val (.int (1 : Int32)), .unset] [(.ref b164)]))
      refine Goes.of (fun t k => XS.aload X191.here hx rfl (hb hby at_299) rfl rfl k) ?_
      show Goes _ _ _ _ _ _ _ (T191.setTop (mkF m 301 #[.val (.int u0), .val (.int u1), .val (.int u2), .val (.int u3), .val (.int u4), .val (.ref b121), .val (.int qq), .val (.int (2 : Int32)), .val (.ref b164), .val (.int rr), .val (.int (1 : Int32)), .unset] [(.ref b121), (.ref b164)]))
      refine Goes.of (fun t k => XS.iload X191.here hx rfl (hb hby at_301) rfl k) ?_
      show Goes _ _ _ _ _ _ _ (T191.setTop (mkF m 303 #[.val (.int u0), .val (.int u1), .val (.int u2), .val (.int u3), .val (.int u4), .val (.ref b121), .val (.int qq), .val (.int (2 : Int32)), .val (.ref b164), .val (.int rr), .val (.int (1 : Int32)), .unset] [(.int (1 : Int32)), (.ref b121), (.ref b164)]))
      refine Goes.of (fun t k => XS.iconst X191.here hx rfl (hb hby at_303) k) ?_
      show Goes _ _ _ _ _ _ _ (T191.setTop (mkF m 304 #[.val (.int u0), .val (.int u1), .val (.int u2), .val (.int u3), .val (.int u4), .val (.ref b121), .val (.int qq), .val (.int (2 : Int32)), .val (.ref b164), .val (.int rr), .val (.int (1 : Int32)), .unset] [(.int (2 : Int32)), (.int (1 : Int32)), (.ref b121), (.ref b164)]))
      obtain ⟨_, _, ⟨T192, L192, k192, n192⟩, -, X192, ⟨Lc192, hQ192, l192, y192, z192⟩, st192⟩ := Jvm.LawKit.callS X191 hx (y := (⟨"com/example/slotwright/slotwright/problems/IndexSetRemovePinLaw", "in", "(Lcom/example/slotwright/slotwright/problems/IndexSet;[III)Z"⟩ : MethodName)) hown (mvT hZ (hw _ (List.mem_of_getElem? (i := 48) rfl))) (mvT hZ (hw _ (List.mem_of_getElem? (i := 49) rfl))) (mvT hZ (hw _ (List.mem_of_getElem? (i := 4) rfl))) (mvT hZ (hw _ (List.mem_of_getElem? (i := 50) rfl))) (by decide) (backOf (W := 0) (rm10 l Z a0 hw [] b164 b121 (1 : Int32) (2 : Int32) mm166 pp166 4 Mr Pr ((((0 : Int32) + (1 : Int32)) + (1 : Int32)) - (1 : Int32)) m4 h178 n0 Z178 F179 F180 F181 F182 F183 F184 ne_b164_mm166 ne_b164_pp166 ne_mm166_pp166 g_b164 g_mm166 g_pp166 V178 ⟨by decide, by decide⟩ (by decide) (own_chk hIr (by decide) (by decide) ⟨by decide, by decide⟩)) hZ (hw _ (List.mem_of_getElem? (i := 50) rfl)) (hw _ (List.mem_of_getElem? (i := 4) rfl)) (by decide) (by decide)) (g := (mkF m 304 #[.val (.int u0), .val (.int u1), .val (.int u2), .val (.int u3), .val (.int u4), .val (.ref b121), .val (.int qq), .val (.int (2 : Int32)), .val (.ref b164), .val (.int rr), .val (.int (1 : Int32)), .unset] [(.int (2 : Int32)), (.int (1 : Int32)), (.ref b121), (.ref b164)])) rfl (by rw [hml]; rfl) (argsL := [(.ref b164), (.ref b121), (.int (1 : Int32)), (.int (2 : Int32))]) (rest := []) (lenOf pd_7 rfl) rfl (by show 2 * 0 + _ ≤ _; exact Nat.le_of_eq rfl) (hb hby at_304) (fun _ _ => ⟨rfl, e191, (by decide : 4 + 0 ≤ _), (by decide : 15 + 0 ≤ _)⟩)
      dsimp only [Pt.U, Pt.locs, Pt.cells, Pt.slots] at X192 l192 y192 z192 st192 hQ192
      replace l192 := l192.symm
      replace y192 := y192.symm
      replace z192 := z192.symm
      subst l192 y192 z192
      obtain ⟨rfl, N192q, e192⟩ := hQ192
      have N192 := Fr.app N191 N192q
      refine Goes.of st192 ?_
      show Goes _ _ _ _ _ _ _ (T192.setTop (mkF m 307 #[.val (.int u0), .val (.int u1), .val (.int u2), .val (.int u3), .val (.int u4), .val (.ref b121), .val (.int qq), .val (.int (2 : Int32)), .val (.ref b164), .val (.int rr), .val (.int (1 : Int32)), .unset] [(.int (1 : Int32))]))
      refine Goes.of (fun t k => XS.ifNo X192.here hx rfl (hb hby at_307) rfl ((if0 _ _).trans (feq (by decide : ¬ ((1 : Int32) = (0 : Int32)))).1) k) ?_
      show Goes _ _ _ _ _ _ _ (T192.setTop (mkF m 310 #[.val (.int u0), .val (.int u1), .val (.int u2), .val (.int u3), .val (.int u4), .val (.ref b121), .val (.int qq), .val (.int (2 : Int32)), .val (.ref b164), .val (.int rr), .val (.int (1 : Int32)), .unset] []))
      refine Goes.of (fun t k => XS.aload X192.here hx rfl (hb hby at_310) rfl rfl k) ?_
      show Goes _ _ _ _ _ _ _ (T192.setTop (mkF m 312 #[.val (.int u0), .val (.int u1), .val (.int u2), .val (.int u3), .val (.int u4), .val (.ref b121), .val (.int qq), .val (.int (2 : Int32)), .val (.ref b164), .val (.int rr), .val (.int (1 : Int32)), .unset] [(.ref b164)]))
      refine Goes.of (fun t k => XS.aload X192.here hx rfl (hb hby at_312) rfl rfl k) ?_
      show Goes _ _ _ _ _ _ _ (T192.setTop (mkF m 314 #[.val (.int u0), .val (.int u1), .val (.int u2), .val (.int u3), .val (.int u4), .val (.ref b121), .val (.int qq), .val (.int (2 : Int32)), .val (.ref b164), .val (.int rr), .val (.int (1 : Int32)), .unset] [(.ref b121), (.ref b164)]))
      refine Goes.of (fun t k => XS.iload X192.here hx rfl (hb hby at_314) rfl k) ?_
      show Goes _ _ _ _ _ _ _ (T192.setTop (mkF m 316 #[.val (.int u0), .val (.int u1), .val (.int u2), .val (.int u3), .val (.int u4), .val (.ref b121), .val (.int qq), .val (.int (2 : Int32)), .val (.ref b164), .val (.int rr), .val (.int (1 : Int32)), .unset] [(.int (1 : Int32)), (.ref b121), (.ref b164)]))
      refine Goes.of (fun t k => XS.iconst X192.here hx rfl (hb hby at_316) k) ?_
      show Goes _ _ _ _ _ _ _ (T192.setTop (mkF m 317 #[.val (.int u0), .val (.int u1), .val (.int u2), .val (.int u3), .val (.int u4), .val (.ref b121), .val (.int qq), .val (.int (2 : Int32)), .val (.ref b164), .val (.int rr), .val (.int (1 : Int32)), .unset] [(.int (3 : Int32)), (.int (1 : Int32)), (.ref b121), (.ref b164)]))
      obtain ⟨_, _, ⟨T193, L193, k193, n193⟩, -, X193, ⟨Lc193, hQ193, l193, y193, z193⟩, st193⟩ := Jvm.LawKit.callS X192 hx (y := (⟨"com/example/slotwright/slotwright/problems/IndexSetRemovePinLaw", "in", "(Lcom/example/slotwright/slotwright/problems/IndexSet;[III)Z"⟩ : MethodName)) hown (mvT hZ (hw _ (List.mem_of_getElem? (i := 48) rfl))) (mvT hZ (hw _ (List.mem_of_getElem? (i := 49) rfl))) (mvT hZ (hw _ (List.mem_of_getElem? (i := 4) rfl))) (mvT hZ (hw _ (List.mem_of_getElem? (i := 50) rfl))) (by decide) (backOf (W := 0) (rm10 l Z a0 hw [] b164 b121 (1 : Int32) (3 : Int32) mm166 pp166 4 Mr Pr ((((0 : Int32) + (1 : Int32)) + (1 : Int32)) - (1 : Int32)) m4 h178 n0 Z178 F179 F180 F181 F182 F183 F184 ne_b164_mm166 ne_b164_pp166 ne_mm166_pp166 g_b164 g_mm166 g_pp166 V178 ⟨by decide, by decide⟩ (by decide) (own_chk hIr (by decide) (by decide) ⟨by decide, by decide⟩)) hZ (hw _ (List.mem_of_getElem? (i := 50) rfl)) (hw _ (List.mem_of_getElem? (i := 4) rfl)) (by decide) (by decide)) (g := (mkF m 317 #[.val (.int u0), .val (.int u1), .val (.int u2), .val (.int u3), .val (.int u4), .val (.ref b121), .val (.int qq), .val (.int (2 : Int32)), .val (.ref b164), .val (.int rr), .val (.int (1 : Int32)), .unset] [(.int (3 : Int32)), (.int (1 : Int32)), (.ref b121), (.ref b164)])) rfl (by rw [hml]; rfl) (argsL := [(.ref b164), (.ref b121), (.int (1 : Int32)), (.int (3 : Int32))]) (rest := []) (lenOf pd_7 rfl) rfl (by show 2 * 0 + _ ≤ _; exact Nat.le_of_eq rfl) (hb hby at_317) (fun _ _ => ⟨rfl, e192, (by decide : 4 + 0 ≤ _), (by decide : 15 + 0 ≤ _)⟩)
      dsimp only [Pt.U, Pt.locs, Pt.cells, Pt.slots] at X193 l193 y193 z193 st193 hQ193
      replace l193 := l193.symm
      replace y193 := y193.symm
      replace z193 := z193.symm
      subst l193 y193 z193
      obtain ⟨rfl, N193q, e193⟩ := hQ193
      have N193 := Fr.app N192 N193q
      refine Goes.of st193 ?_
      show Goes _ _ _ _ _ _ _ (T193.setTop (mkF m 320 #[.val (.int u0), .val (.int u1), .val (.int u2), .val (.int u3), .val (.int u4), .val (.ref b121), .val (.int qq), .val (.int (2 : Int32)), .val (.ref b164), .val (.int rr), .val (.int (1 : Int32)), .unset] [(.int (1 : Int32))]))
      refine Goes.of (fun t k => XS.ifNo X193.here hx rfl (hb hby at_320) rfl ((if0 _ _).trans (feq (by decide : ¬ ((1 : Int32) = (0 : Int32)))).1) k) ?_
      show Goes _ _ _ _ _ _ _ (T193.setTop (mkF m 323 #[.val (.int u0), .val (.int u1), .val (.int u2), .val (.int u3), .val (.int u4), .val (.ref b121), .val (.int qq), .val (.int (2 : Int32)), .val (.ref b164), .val (.int rr), .val (.int (1 : Int32)), .unset] []))
      refine Goes.of (fun t k => XS.iconst X193.here hx rfl (hb hby at_323) k) ?_
      show Goes _ _ _ _ _ _ _ (T193.setTop (mkF m 324 #[.val (.int u0), .val (.int u1), .val (.int u2), .val (.int u3), .val (.int u4), .val (.ref b121), .val (.int qq), .val (.int (2 : Int32)), .val (.ref b164), .val (.int rr), .val (.int (1 : Int32)), .unset] [(.int (1 : Int32))]))
      refine Goes.of (fun t k => XS.goto X193.here hx rfl (pc0 := 324) (pc' := 328) rfl (hb hby at_324) (by decide) (by decide) k) ?_
      show Goes _ _ _ _ _ _ _ (T193.setTop (mkF m 328 #[.val (.int u0), .val (.int u1), .val (.int u2), .val (.int u3), .val (.int u4), .val (.ref b121), .val (.int qq), .val (.int (2 : Int32)), .val (.ref b164), .val (.int rr), .val (.int (1 : Int32)), .unset] [(.int (1 : Int32))]))
      exact Goes.fin X193 hlk (v := some (.int (1 : Int32))) (fun h => by rw [Bd.returns] at h; cases h) (fun fs hr => retN X193 hx (t := .boolean) Bd.returns (by simp) (hb hby at_328) hr) ⟨rfl, N193⟩ (by decide) (by decide)
    · refine Goes.of (fun t k => XS.ifNo X178.here hx rfl (hb hby at_177) rfl ((if0 _ _).trans (feq hc185).1) k) ?_
      show Goes _ _ _ _ _ _ _ (T178.setTop (mkF m 180 #[.val (.int u0), .val (.int u1), .val (.int u2), .val (.int u3), .val (.int u4), .val (.ref b121), .val (.int qq), .val (.int (2 : Int32)), .val (.ref b164), .val (.int rr), .val (.int (1 : Int32)), .unset] []))
      refine Goes.of (fun t k => XS.iload X178.here hx rfl (hb hby at_180) rfl k) ?_
      show Goes _ _ _ _ _ _ _ (T178.setTop (mkF m 182 #[.val (.int u0), .val (.int u1), .val (.int u2), .val (.int u3), .val (.int u4), .val (.ref b121), .val (.int qq), .val (.int (2 : Int32)), .val (.ref b164), .val (.int rr), .val (.int (1 : Int32)), .unset] [(.int (1 : Int32))]))
      refine Goes.of (fun t k => XS.ifNo X178.here hx rfl (hb hby at_182) rfl ((if0 _ _).trans (tlt (by decide : (0 : Int32) < (1 : Int32))).2.2.2) k) ?_
      show Goes _ _ _ _ _ _ _ (T178.setTop (mkF m 185 #[.val (.int u0), .val (.int u1), .val (.int u2), .val (.int u3), .val (.int u4), .val (.ref b121), .val (.int qq), .val (.int (2 : Int32)), .val (.ref b164), .val (.int rr), .val (.int (1 : Int32)), .unset] []))
      refine Goes.of (fun t k => XS.iloadN X178.here hx rfl (hb hby at_185) rfl k) ?_
      show Goes _ _ _ _ _ _ _ (T178.setTop (mkF m 186 #[.val (.int u0), .val (.int u1), .val (.int u2), .val (.int u3), .val (.int u4), .val (.ref b121), .val (.int qq), .val (.int (2 : Int32)), .val (.ref b164), .val (.int rr), .val (.int (1 : Int32)), .unset] [(.int u3)]))
      refine Goes.of (fun t k => X178.ldcInt hx hown (mvT hZ (hw _ (List.mem_of_getElem? (i := 1) rfl))) (g := (mkF m 186 #[.val (.int u0), .val (.int u1), .val (.int u2), .val (.int u3), .val (.int u4), .val (.ref b121), .val (.int qq), .val (.int (2 : Int32)), .val (.ref b164), .val (.int rr), .val (.int (1 : Int32)), .unset] [(.int u3)])) rfl (hb hby at_186) t k) ?_
      show Goes _ _ _ _ _ _ _ (T178.setTop (mkF m 188 #[.val (.int u0), .val (.int u1), .val (.int u2), .val (.int u3), .val (.int u4), .val (.ref b121), .val (.int qq), .val (.int (2 : Int32)), .val (.ref b164), .val (.int rr), .val (.int (1 : Int32)), .unset] [(.int (2147483647 : Int32)), (.int u3)]))
      refine Goes.of (fun t k => XS.iand X178.here hx rfl (hb hby at_188) rfl k) ?_
      show Goes _ _ _ _ _ _ _ (T178.setTop (mkF m 189 #[.val (.int u0), .val (.int u1), .val (.int u2), .val (.int u3), .val (.int u4), .val (.ref b121), .val (.int qq), .val (.int (2 : Int32)), .val (.ref b164), .val (.int rr), .val (.int (1 : Int32)), .unset] [(.int (u3 &&& (2147483647 : Int32)))]))
      refine Goes.of (fun t k => XS.iload X178.here hx rfl (hb hby at_189) rfl k) ?_
      show Goes _ _ _ _ _ _ _ (T178.setTop (mkF m 191 #[.val (.int u0), .val (.int u1), .val (.int u2), .val (.int u3), .val (.int u4), .val (.ref b121), .val (.int qq), .val (.int (2 : Int32)), .val (.ref b164), .val (.int rr), .val (.int (1 : Int32)), .unset] [(.int (1 : Int32)), (.int (u3 &&& (2147483647 : Int32)))]))
      refine Goes.of (fun t k => iremM X178 hx (g := (mkF m 191 #[.val (.int u0), .val (.int u1), .val (.int u2), .val (.int u3), .val (.int u4), .val (.ref b121), .val (.int qq), .val (.int (2 : Int32)), .val (.ref b164), .val (.int rr), .val (.int (1 : Int32)), .unset] [(.int (1 : Int32)), (.int (u3 &&& (2147483647 : Int32)))])) rfl (hb hby at_191) rfl (by decide) k) ?_
      show Goes _ _ _ _ _ _ _ (T178.setTop (mkF m 192 #[.val (.int u0), .val (.int u1), .val (.int u2), .val (.int u3), .val (.int u4), .val (.ref b121), .val (.int qq), .val (.int (2 : Int32)), .val (.ref b164), .val (.int rr), .val (.int (1 : Int32)), .unset] [(.int ((u3 &&& (2147483647 : Int32)) % (1 : Int32)))]))
      refine Goes.of (fun t k => XS.istore X178.here hx rfl (hb hby at_192) rfl (l' := #[.val (.int u0), .val (.int u1), .val (.int u2), .val (.int u3), .val (.int u4), .val (.ref b121), .val (.int qq), .val (.int (2 : Int32)), .val (.ref b164), .val (.int rr), .val (.int (1 : Int32)), .val (.int ((u3 &&& (2147483647 : Int32)) % (1 : Int32)))]) rfl k) ?_
      show Goes _ _ _ _ _ _ _ (T178.setTop (mkF m 194 #[.val (.int u0), .val (.int u1), .val (.int u2), .val (.int u3), .val (.int u4), .val (.ref b121), .val (.int qq), .val (.int (2 : Int32)), .val (.ref b164), .val (.int rr), .val (.int (1 : Int32)), .val (.int ((u3 &&& (2147483647 : Int32)) % (1 : Int32)))] []))
      obtain ⟨ss, hy_ss⟩ : ∃ z, z = ((u3 &&& (2147483647 : Int32)) % (1 : Int32)) := ⟨_, rfl⟩
      rw [← hy_ss]
      show Goes _ _ _ _ _ _ _ (T178.setTop (mkF m 194 #[.val (.int u0), .val (.int u1), .val (.int u2), .val (.int u3), .val (.int u4), .val (.ref b121), .val (.int qq), .val (.int (2 : Int32)), .val (.ref b164), .val (.int rr), .val (.int (1 : Int32)), .val (.int ss)] []))
      have h_ss := own_rem u3 (1 : Int32) (by decide)
      rw [← hy_ss, show (1 : Int32).toInt = 1 from rfl] at h_ss
      have hn_ss := nat_of (own_nn h_ss.1)
      refine Goes.of (fun t k => XS.aload X178.here hx rfl (hb hby at_194) rfl rfl k) ?_
      show Goes _ _ _ _ _ _ _ (T178.setTop (mkF m 196 #[.val (.int u0), .val (.int u1), .val (.int u2), .val (.int u3), .val (.int u4), .val (.ref b121), .val (.int qq), .val (.int (2 : Int32)), .val (.ref b164), .val (.int rr), .val (.int (1 : Int32)), .val (.int ss)] [(.ref b164)]))
      refine Goes.of (fun t k => XS.aload X178.here hx rfl (hb hby at_196) rfl rfl k) ?_
      show Goes _ _ _ _ _ _ _ (T178.setTop (mkF m 198 #[.val (.int u0), .val (.int u1), .val (.int u2), .val (.int u3), .val (.int u4), .val (.ref b121), .val (.int qq), .val (.int (2 : Int32)), .val (.ref b164), .val (.int rr), .val (.int (1 : Int32)), .val (.int ss)] [(.ref b121), (.ref b164)]))
      refine Goes.of (fun t k => XS.iload X178.here hx rfl (hb hby at_198) rfl k) ?_
      show Goes _ _ _ _ _ _ _ (T178.setTop (mkF m 200 #[.val (.int u0), .val (.int u1), .val (.int u2), .val (.int u3), .val (.int u4), .val (.ref b121), .val (.int qq), .val (.int (2 : Int32)), .val (.ref b164), .val (.int rr), .val (.int (1 : Int32)), .val (.int ss)] [(.int ss), (.ref b121), (.ref b164)]))
      refine Goes.of (fun t k => ldI X178 hx hZ e178 V178 (j := ss) (i := ss.toNatClampNeg) (v := (m4 ss.toNatClampNeg)) (own_nn h_ss.1) rfl (by omega) rfl (g := (mkF m 200 #[.val (.int u0), .val (.int u1), .val (.int u2), .val (.int u3), .val (.int u4), .val (.ref b121), .val (.int qq), .val (.int (2 : Int32)), .val (.ref b164), .val (.int rr), .val (.int (1 : Int32)), .val (.int ss)] [(.int ss), (.ref b121), (.ref b164)])) rfl rfl (hb hby at_200) t k) ?_
      show Goes _ _ _ _ _ _ _ (T178.setTop (mkF m 201 #[.val (.int u0), .val (.int u1), .val (.int u2), .val (.int u3), .val (.int u4), .val (.ref b121), .val (.int qq), .val (.int (2 : Int32)), .val (.ref b164), .val (.int rr), .val (.int (1 : Int32)), .val (.int ss)] [(.int (m4 ss.toNatClampNeg)), (.ref b164)]))
      obtain ⟨cq194, kq194, q194a, q194b, q194c⟩ := isOf hZ e178 F179
      obtain ⟨_, _, ⟨T194, L194, k194, n194⟩, -, X194, ⟨Lc194, hQ194, l194, y194, z194⟩, st194⟩ := X178.virtualBack hx (y := (⟨"com/example/slotwright/slotwright/problems/IndexSet", "remove", "(I)V"⟩ : MethodName)) (z := (⟨"com/example/slotwright/slotwright/problems/IndexSet", "remove", "(I)V"⟩ : MethodName)) hown (mvT hZ (hw _ (List.mem_of_getElem? (i := 30) rfl))) (mvT hZ (hw _ (List.mem_of_getElem? (i := 31) rfl))) (notFace_of_selects (args := #[]) (mvT hZ (hw _ (List.mem_of_getElem? (i := 33) rfl)))) (mvT hZ (hw _ (List.mem_of_getElem? (i := 33) rfl))) (mvT hZ (hw _ (List.mem_of_getElem? (i := 32) rfl))) (by decide) (backOf (W := 0) (rm6 l Z a0 hw [] b164 (m4 ss.toNatClampNeg) mm166 pp166 4 Mr Pr ((((0 : Int32) + (1 : Int32)) + (1 : Int32)) - (1 : Int32)) h178 n0 Z178 F179 F180 F181 F182 F183 F184 ne_b164_mm166 ne_b164_pp166 ne_mm166_pp166 g_b164 g_mm166 g_pp166 ⟨by decide, by decide⟩ (hIr.1 _ (by omega)) (by rw [hIr.2.2.2.1 _ (by omega), len_toInt (by omega)]; omega) (by have hlk := hIr.2.2.1 0 (by decide); have hlr := hIr.1 0 (by decide); rw [← hlk] at hlr; exact hlr)) hZ (hw _ (List.mem_of_getElem? (i := 34) rfl)) (hw _ (List.mem_of_getElem? (i := 8) rfl)) (by decide) (by decide)) q194a q194c (g := (mkF m 201 #[.val (.int u0), .val (.int u1), .val (.int u2), .val (.int u3), .val (.int u4), .val (.ref b121), .val (.int qq), .val (.int (2 : Int32)), .val (.ref b164), .val (.int rr), .val (.int (1 : Int32)), .val (.int ss)] [(.int (m4 ss.toNatClampNeg)), (.ref b164)])) rfl (by rw [hml]; rfl) (Steps.refl _) (argsL := [(.int (m4 ss.toNatClampNeg))]) (rest := []) (lenOf pd_5 rfl) rfl (by show 2 * 0 + _ ≤ _; exact Nat.le_of_eq rfl) (hb hby at_201) (fun _ _ => ⟨rfl, e178, (by decide : 4 + 0 ≤ _), (by decide : 15 + 0 ≤ _)⟩)
      dsimp only [Pt.U, Pt.locs, Pt.cells, Pt.slots] at X194 l194 y194 z194 st194 hQ194
      replace l194 := l194.symm
      replace y194 := y194.symm
      replace z194 := z194.symm
      subst l194 y194 z194
      obtain ⟨rfl, N194q, K194, Eo194, Fm194, Fp194, Fs194, Vm194, Vp194⟩ := hQ194
      have F195 := V178.keep K194 (ninS ne_b121_b164 (ninS ne_b121_mm166 (ninS ne_b121_pp166 nin0)))
      have F196 := F179.keep K194
      have Z194 : n0 ≤ T194.heap.size := Nat.le_trans Z178 K194.1
      have N194 := Fr.app N178 N194q
      refine Goes.of (fun t k => st194.trans k) ?_
      show Goes _ _ _ _ _ _ _ (T194.setTop (mkF m 204 #[.val (.int u0), .val (.int u1), .val (.int u2), .val (.int u3), .val (.int u4), .val (.ref b121), .val (.int qq), .val (.int (2 : Int32)), .val (.ref b164), .val (.int rr), .val (.int (1 : Int32)), .val (.int ss)] []))
      refine Goes.of (fun t k => XS.aload X194.here hx rfl (hb hby at_204) rfl rfl k) ?_
      show Goes _ _ _ _ _ _ _ (T194.setTop (mkF m 206 #[.val (.int u0), .val (.int u1), .val (.int u2), .val (.int u3), .val (.int u4), .val (.ref b121), .val (.int qq), .val (.int (2 : Int32)), .val (.ref b164), .val (.int rr), .val (.int (1 : Int32)), .val (.int ss)] [(.ref b121)]))
      refine Goes.of (fun t k => XS.iload X194.here hx rfl (hb hby at_206) rfl k) ?_
      show Goes _ _ _ _ _ _ _ (T194.setTop (mkF m 208 #[.val (.int u0), .val (.int u1), .val (.int u2), .val (.int u3), .val (.int u4), .val (.ref b121), .val (.int qq), .val (.int (2 : Int32)), .val (.ref b164), .val (.int rr), .val (.int (1 : Int32)), .val (.int ss)] [(.int ss), (.ref b121)]))
      refine Goes.of (fun t k => XS.aload X194.here hx rfl (hb hby at_208) rfl rfl k) ?_
      show Goes _ _ _ _ _ _ _ (T194.setTop (mkF m 210 #[.val (.int u0), .val (.int u1), .val (.int u2), .val (.int u3), .val (.int u4), .val (.ref b121), .val (.int qq), .val (.int (2 : Int32)), .val (.ref b164), .val (.int rr), .val (.int (1 : Int32)), .val (.int ss)] [(.ref b121), (.int ss), (.ref b121)]))
      refine Goes.of (fun t k => XS.iload X194.here hx rfl (hb hby at_210) rfl k) ?_
      show Goes _ _ _ _ _ _ _ (T194.setTop (mkF m 212 #[.val (.int u0), .val (.int u1), .val (.int u2), .val (.int u3), .val (.int u4), .val (.ref b121), .val (.int qq), .val (.int (2 : Int32)), .val (.ref b164), .val (.int rr), .val (.int (1 : Int32)), .val (.int ss)] [(.int (1 : Int32)), (.ref b121), (.int ss), (.ref b121)]))
      refine Goes.of (fun t k => XS.iconst X194.here hx rfl (hb hby at_212) k) ?_
      show Goes _ _ _ _ _ _ _ (T194.setTop (mkF m 213 #[.val (.int u0), .val (.int u1), .val (.int u2), .val (.int u3), .val (.int u4), .val (.ref b121), .val (.int qq), .val (.int (2 : Int32)), .val (.ref b164), .val (.int rr), .val (.int (1 : Int32)), .val (.int ss)] [(.int (1 : Int32)), (.int (1 : Int32)), (.ref b121), (.int ss), (.ref b121)]))
      refine Goes.of (fun t k => XS.isub X194.here hx rfl (hb hby at_213) rfl k) ?_
      show Goes _ _ _ _ _ _ _ (T194.setTop (mkF m 214 #[.val (.int u0), .val (.int u1), .val (.int u2), .val (.int u3), .val (.int u4), .val (.ref b121), .val (.int qq), .val (.int (2 : Int32)), .val (.ref b164), .val (.int rr), .val (.int (1 : Int32)), .val (.int ss)] [(.int (0 : Int32)), (.ref b121), (.int ss), (.ref b121)]))
      refine Goes.of (fun t k => ldI X194 hx hZ rfl F195 (j := (0 : Int32)) (i := 0) (v := (m4 0)) (by decide) (by decide) (by decide) rfl (g := (mkF m 214 #[.val (.int u0), .val (.int u1), .val (.int u2), .val (.int u3), .val (.int u4), .val (.ref b121), .val (.int qq), .val (.int (2 : Int32)), .val (.ref b164), .val (.int rr), .val (.int (1 : Int32)), .val (.int ss)] [(.int (0 : Int32)), (.ref b121), (.int ss), (.ref b121)])) rfl rfl (hb hby at_214) t k) ?_
      show Goes _ _ _ _ _ _ _ (T194.setTop (mkF m 215 #[.val (.int u0), .val (.int u1), .val (.int u2), .val (.int u3), .val (.int u4), .val (.ref b121), .val (.int qq), .val (.int (2 : Int32)), .val (.ref b164), .val (.int rr), .val (.int (1 : Int32)), .val (.int ss)] [(.int (m4 0)), (.int ss), (.ref b121)]))
      obtain ⟨T197, h197, X197, e197, W197, V197, st197⟩ := putI X194 hx hZ rfl F195 (j := ss) (x := (m4 0)) (i := ss.toNatClampNeg) (own_nn h_ss.1) rfl (by omega) (g := (mkF m 215 #[.val (.int u0), .val (.int u1), .val (.int u2), .val (.int u3), .val (.int u4), .val (.ref b121), .val (.int qq), .val (.int (2 : Int32)), .val (.ref b164), .val (.int rr), .val (.int (1 : Int32)), .val (.int ss)] [(.int (m4 0)), (.int ss), (.ref b121)])) rfl rfl (hb hby at_215)
      have F198 := Exa.wr W197 Eo194
      have F199 := Fld.other W197 Fm194 (Or.inl (Ne.symm ne_b121_b164))
      have F200 := Fld.other W197 Fp194 (Or.inl (Ne.symm ne_b121_b164))
      have F201 := Fld.other W197 Fs194 (Or.inl (Ne.symm ne_b121_b164))
      have F202 := Vm194.other W197 (Ne.symm ne_b121_mm166)
      have F203 := Vp194.other W197 (Ne.symm ne_b121_pp166)
      have Z197 : n0 ≤ h197.size := Nat.le_trans Z194 (Keep.of_wr W197).1
      have N197 := Fr.snoc X197 N194 g_b121
      refine Goes.of st197 ?_
      show Goes _ _ _ _ _ _ _ (T197.setTop (mkF m 216 #[.val (.int u0), .val (.int u1), .val (.int u2), .val (.int u3), .val (.int u4), .val (.ref b121), .val (.int qq), .val (.int (2 : Int32)), .val (.ref b164), .val (.int rr), .val (.int (1 : Int32)), .val (.int ss)] []))
      obtain ⟨m5, hf_m5⟩ : ∃ f : Nat → Int32, f = (upd m4 ss.toNatClampNeg (m4 0)) := ⟨_, rfl⟩
      rw [← hf_m5] at V197
      obtain ⟨Ms, hf_Ms⟩ : ∃ f : Nat → Int32, f = (upd Mr (Pr (m4 ss.toNatClampNeg).toNatClampNeg).toNatClampNeg (Mr (((((0 : Int32) + (1 : Int32)) + (1 : Int32)) - (1 : Int32)) - (1 : Int32)).toNatClampNeg)) := ⟨_, rfl⟩
      rw [← hf_Ms] at F202
      obtain ⟨Ps, hf_Ps⟩ : ∃ f : Nat → Int32, f = (upd (upd Pr (Mr (((((0 : Int32) + (1 : Int32)) + (1 : Int32)) - (1 : Int32)) - (1 : Int32)).toNatClampNeg).toNatClampNeg (Pr (m4 ss.toNatClampNeg).toNatClampNeg)) (m4 ss.toNatClampNeg).toNatClampNeg (-1 : Int32)) := ⟨_, rfl⟩
      rw [← hf_Ps] at F203
      have hIs : own_Inv m5 Ms Ps 0 := by rw [hf_m5, hf_Ms, hf_Ps]; exact own_rm (k := 0) (r := ss.toNatClampNeg) hIr (by decide) (by omega) rfl rfl
      refine Goes.of (fun t k => XS.iload X197.here hx rfl (hb hby at_216) rfl k) ?_
      show Goes _ _ _ _ _ _ _ (T197.setTop (mkF m 218 #[.val (.int u0), .val (.int u1), .val (.int u2), .val (.int u3), .val (.int u4), .val (.ref b121), .val (.int qq), .val (.int (2 : Int32)), .val (.ref b164), .val (.int rr), .val (.int (1 : Int32)), .val (.int ss)] [(.int (1 : Int32))]))
      refine Goes.of (fun t k => XS.iconst X197.here hx rfl (hb hby at_218) k) ?_
      show Goes _ _ _ _ _ _ _ (T197.setTop (mkF m 219 #[.val (.int u0), .val (.int u1), .val (.int u2), .val (.int u3), .val (.int u4), .val (.ref b121), .val (.int qq), .val (.int (2 : Int32)), .val (.ref b164), .val (.int rr), .val (.int (1 : Int32)), .val (.int ss)] [(.int (1 : Int32)), (.int (1 : Int32))]))
      refine Goes.of (fun t k => XS.isub X197.here hx rfl (hb hby at_219) rfl k) ?_
      show Goes _ _ _ _ _ _ _ (T197.setTop (mkF m 220 #[.val (.int u0), .val (.int u1), .val (.int u2), .val (.int u3), .val (.int u4), .val (.ref b121), .val (.int qq), .val (.int (2 : Int32)), .val (.ref b164), .val (.int rr), .val (.int (1 : Int32)), .val (.int ss)] [(.int (0 : Int32))]))
      refine Goes.of (fun t k => XS.istore X197.here hx rfl (hb hby at_220) rfl (l' := #[.val (.int u0), .val (.int u1), .val (.int u2), .val (.int u3), .val (.int u4), .val (.ref b121), .val (.int qq), .val (.int (2 : Int32)), .val (.ref b164), .val (.int rr), .val (.int (0 : Int32)), .val (.int ss)]) rfl k) ?_
      show Goes _ _ _ _ _ _ _ (T197.setTop (mkF m 222 #[.val (.int u0), .val (.int u1), .val (.int u2), .val (.int u3), .val (.int u4), .val (.ref b121), .val (.int qq), .val (.int (2 : Int32)), .val (.ref b164), .val (.int rr), .val (.int (0 : Int32)), .val (.int ss)] []))
      refine Goes.of (fun t k => XS.aload X197.here hx rfl (hb hby at_222) rfl rfl k) ?_
      show Goes _ _ _ _ _ _ _ (T197.setTop (mkF m 224 #[.val (.int u0), .val (.int u1), .val (.int u2), .val (.int u3), .val (.int u4), .val (.ref b121), .val (.int qq), .val (.int (2 : Int32)), .val (.ref b164), .val (.int rr), .val (.int (0 : Int32)), .val (.int ss)] [(.ref b164)]))
      obtain ⟨cq204, kq204, q204a, q204b, q204c⟩ := isOf hZ e197 F198
      obtain ⟨_, _, ⟨T204, L204, k204, n204⟩, -, X204, ⟨Lc204, hQ204, l204, y204, z204⟩, st204⟩ := X197.virtualBack hx (y := (⟨"com/example/slotwright/slotwright/problems/IndexSet", "size", "()I"⟩ : MethodName)) (z := (⟨"com/example/slotwright/slotwright/problems/IndexSet", "size", "()I"⟩ : MethodName)) hown (mvT hZ (hw _ (List.mem_of_getElem? (i := 35) rfl))) (mvT hZ (hw _ (List.mem_of_getElem? (i := 36) rfl))) (notFace_of_selects (args := #[]) (mvT hZ (hw _ (List.mem_of_getElem? (i := 38) rfl)))) (mvT hZ (hw _ (List.mem_of_getElem? (i := 38) rfl))) (mvT hZ (hw _ (List.mem_of_getElem? (i := 37) rfl))) (by decide) (backOf (W := 0) (rm7 l Z a0 hw [] b164 mm166 pp166 4 Ms Ps (((((0 : Int32) + (1 : Int32)) + (1 : Int32)) - (1 : Int32)) - (1 : Int32)) h197 n0 Z197 F198 F199 F200 F201 F202 F203 ne_b164_mm166 ne_b164_pp166 ne_mm166_pp166 g_b164 g_mm166 g_pp166) hZ (hw _ (List.mem_of_getElem? (i := 39) rfl)) (hw _ (List.mem_of_getElem? (i := 8) rfl)) (by decide) (by decide)) q204a q204c (g := (mkF m 224 #[.val (.int u0), .val (.int u1), .val (.int u2), .val (.int u3), .val (.int u4), .val (.ref b121), .val (.int qq), .val (.int (2 : Int32)), .val (.ref b164), .val (.int rr), .val (.int (0 : Int32)), .val (.int ss)] [(.ref b164)])) rfl (by rw [hml]; rfl) (Steps.refl _) (argsL := []) (rest := []) (lenOf pd_6 rfl) rfl (by show 2 * 0 + _ ≤ _; exact Nat.le_of_eq rfl) (hb hby at_224) (fun _ _ => ⟨rfl, e197, (by decide : 4 + 0 ≤ _), (by decide : 15 + 0 ≤ _)⟩)
      dsimp only [Pt.U, Pt.locs, Pt.cells, Pt.slots] at X204 l204 y204 z204 st204 hQ204
      replace l204 := l204.symm
      replace y204 := y204.symm
      replace z204 := z204.symm
      subst l204 y204 z204
      obtain ⟨rfl, N204q, e204⟩ := hQ204
      have N204 := Fr.app N197 N204q
      refine Goes.of (fun t k => st204.trans k) ?_
      show Goes _ _ _ _ _ _ _ (T204.setTop (mkF m 227 #[.val (.int u0), .val (.int u1), .val (.int u2), .val (.int u3), .val (.int u4), .val (.ref b121), .val (.int qq), .val (.int (2 : Int32)), .val (.ref b164), .val (.int rr), .val (.int (0 : Int32)), .val (.int ss)] [(.int (((((0 : Int32) + (1 : Int32)) + (1 : Int32)) - (1 : Int32)) - (1 : Int32)))]))
      refine Goes.of (fun t k => XS.iload X204.here hx rfl (hb hby at_227) rfl k) ?_
      show Goes _ _ _ _ _ _ _ (T204.setTop (mkF m 229 #[.val (.int u0), .val (.int u1), .val (.int u2), .val (.int u3), .val (.int u4), .val (.ref b121), .val (.int qq), .val (.int (2 : Int32)), .val (.ref b164), .val (.int rr), .val (.int (0 : Int32)), .val (.int ss)] [(.int (0 : Int32)), (.int (((((0 : Int32) + (1 : Int32)) + (1 : Int32)) - (1 : Int32)) - (1 : Int32)))]))
      refine Goes.of (fun t k => XS.icmpNo X204.here hx rfl (hb hby at_229) rfl (teq (by decide)).2 k) ?_
      show Goes _ _ _ _ _ _ _ (T204.setTop (mkF m 232 #[.val (.int u0), .val (.int u1), .val (.int u2), .val (.int u3), .val (.int u4), .val (.ref b121), .val (.int qq), .val (.int (2 : Int32)), .val (.ref b164), .val (.int rr), .val (.int (0 : Int32)), .val (.int ss)] []))
      refine Goes.of (fun t k => XS.aload X204.here hx rfl (hb hby at_232) rfl rfl k) ?_
      show Goes _ _ _ _ _ _ _ (T204.setTop (mkF m 234 #[.val (.int u0), .val (.int u1), .val (.int u2), .val (.int u3), .val (.int u4), .val (.ref b121), .val (.int qq), .val (.int (2 : Int32)), .val (.ref b164), .val (.int rr), .val (.int (0 : Int32)), .val (.int ss)] [(.ref b164)]))
      refine Goes.of (fun t k => XS.aload X204.here hx rfl (hb hby at_234) rfl rfl k) ?_
      show Goes _ _ _ _ _ _ _ (T204.setTop (mkF m 236 #[.val (.int u0), .val (.int u1), .val (.int u2), .val (.int u3), .val (.int u4), .val (.ref b121), .val (.int qq), .val (.int (2 : Int32)), .val (.ref b164), .val (.int rr), .val (.int (0 : Int32)), .val (.int ss)] [(.ref b121), (.ref b164)]))
      refine Goes.of (fun t k => XS.iload X204.here hx rfl (hb hby at_236) rfl k) ?_
      show Goes _ _ _ _ _ _ _ (T204.setTop (mkF m 238 #[.val (.int u0), .val (.int u1), .val (.int u2), .val (.int u3), .val (.int u4), .val (.ref b121), .val (.int qq), .val (.int (2 : Int32)), .val (.ref b164), .val (.int rr), .val (.int (0 : Int32)), .val (.int ss)] [(.int (0 : Int32)), (.ref b121), (.ref b164)]))
      refine Goes.of (fun t k => XS.iconst X204.here hx rfl (hb hby at_238) k) ?_
      show Goes _ _ _ _ _ _ _ (T204.setTop (mkF m 239 #[.val (.int u0), .val (.int u1), .val (.int u2), .val (.int u3), .val (.int u4), .val (.ref b121), .val (.int qq), .val (.int (2 : Int32)), .val (.ref b164), .val (.int rr), .val (.int (0 : Int32)), .val (.int ss)] [(.int (0 : Int32)), (.int (0 : Int32)), (.ref b121), (.ref b164)]))
      obtain ⟨_, _, ⟨T205, L205, k205, n205⟩, -, X205, ⟨Lc205, hQ205, l205, y205, z205⟩, st205⟩ := Jvm.LawKit.callS X204 hx (y := (⟨"com/example/slotwright/slotwright/problems/IndexSetRemovePinLaw", "at", "(Lcom/example/slotwright/slotwright/problems/IndexSet;[III)Z"⟩ : MethodName)) hown (mvT hZ (hw _ (List.mem_of_getElem? (i := 40) rfl))) (mvT hZ (hw _ (List.mem_of_getElem? (i := 41) rfl))) (mvT hZ (hw _ (List.mem_of_getElem? (i := 4) rfl))) (mvT hZ (hw _ (List.mem_of_getElem? (i := 42) rfl))) (by decide) (backOf (W := 0) (rm8 l Z a0 hw [] b164 b121 (0 : Int32) (0 : Int32) mm166 pp166 4 Ms Ps (((((0 : Int32) + (1 : Int32)) + (1 : Int32)) - (1 : Int32)) - (1 : Int32)) m5 h197 n0 Z197 F198 F199 F200 F201 F202 F203 ne_b164_mm166 ne_b164_pp166 ne_mm166_pp166 g_b164 g_mm166 g_pp166 V197 (by decide) (by decide) (fun q => absurd q (by decide))) hZ (hw _ (List.mem_of_getElem? (i := 42) rfl)) (hw _ (List.mem_of_getElem? (i := 4) rfl)) (by decide) (by decide)) (g := (mkF m 239 #[.val (.int u0), .val (.int u1), .val (.int u2), .val (.int u3), .val (.int u4), .val (.ref b121), .val (.int qq), .val (.int (2 : Int32)), .val (.ref b164), .val (.int rr), .val (.int (0 : Int32)), .val (.int ss)] [(.int (0 : Int32)), (.int (0 : Int32)), (.ref b121), (.ref b164)])) rfl (by rw [hml]; rfl) (argsL := [(.ref b164), (.ref b121), (.int (0 : Int32)), (.int (0 : Int32))]) (rest := []) (lenOf pd_7 rfl) rfl (by show 2 * 0 + _ ≤ _; exact Nat.le_of_eq rfl) (hb hby at_239) (fun _ _ => ⟨rfl, e204, (by decide : 4 + 0 ≤ _), (by decide : 15 + 0 ≤ _)⟩)
      dsimp only [Pt.U, Pt.locs, Pt.cells, Pt.slots] at X205 l205 y205 z205 st205 hQ205
      replace l205 := l205.symm
      replace y205 := y205.symm
      replace z205 := z205.symm
      subst l205 y205 z205
      obtain ⟨rfl, N205q, e205⟩ := hQ205
      have N205 := Fr.app N204 N205q
      refine Goes.of st205 ?_
      show Goes _ _ _ _ _ _ _ (T205.setTop (mkF m 242 #[.val (.int u0), .val (.int u1), .val (.int u2), .val (.int u3), .val (.int u4), .val (.ref b121), .val (.int qq), .val (.int (2 : Int32)), .val (.ref b164), .val (.int rr), .val (.int (0 : Int32)), .val (.int ss)] [(.int (1 : Int32))]))
      refine Goes.of (fun t k => XS.ifNo X205.here hx rfl (hb hby at_242) rfl ((if0 _ _).trans (feq (by decide : ¬ ((1 : Int32) = (0 : Int32)))).1) k) ?_
      show Goes _ _ _ _ _ _ _ (T205.setTop (mkF m 245 #[.val (.int u0), .val (.int u1), .val (.int u2), .val (.int u3), .val (.int u4), .val (.ref b121), .val (.int qq), .val (.int (2 : Int32)), .val (.ref b164), .val (.int rr), .val (.int (0 : Int32)), .val (.int ss)] []))
      refine Goes.of (fun t k => XS.aload X205.here hx rfl (hb hby at_245) rfl rfl k) ?_
      show Goes _ _ _ _ _ _ _ (T205.setTop (mkF m 247 #[.val (.int u0), .val (.int u1), .val (.int u2), .val (.int u3), .val (.int u4), .val (.ref b121), .val (.int qq), .val (.int (2 : Int32)), .val (.ref b164), .val (.int rr), .val (.int (0 : Int32)), .val (.int ss)] [(.ref b164)]))
      refine Goes.of (fun t k => XS.aload X205.here hx rfl (hb hby at_247) rfl rfl k) ?_
      show Goes _ _ _ _ _ _ _ (T205.setTop (mkF m 249 #[.val (.int u0), .val (.int u1), .val (.int u2), .val (.int u3), .val (.int u4), .val (.ref b121), .val (.int qq), .val (.int (2 : Int32)), .val (.ref b164), .val (.int rr), .val (.int (0 : Int32)), .val (.int ss)] [(.ref b121), (.ref b164)]))
      refine Goes.of (fun t k => XS.iload X205.here hx rfl (hb hby at_249) rfl k) ?_
      show Goes _ _ _ _ _ _ _ (T205.setTop (mkF m 251 #[.val (.int u0), .val (.int u1), .val (.int u2), .val (.int u3), .val (.int u4), .val (.ref b121), .val (.int qq), .val (.int (2 : Int32)), .val (.ref b164), .val (.int rr), .val (.int (0 : Int32)), .val (.int ss)] [(.int (0 : Int32)), (.ref b121), (.ref b164)]))
      refine Goes.of (fun t k => XS.iconst X205.here hx rfl (hb hby at_251) k) ?_
      show Goes _ _ _ _ _ _ _ (T205.setTop (mkF m 252 #[.val (.int u0), .val (.int u1), .val (.int u2), .val (.int u3), .val (.int u4), .val (.ref b121), .val (.int qq), .val (.int (2 : Int32)), .val (.ref b164), .val (.int rr), .val (.int (0 : Int32)), .val (.int ss)] [(.int (1 : Int32)), (.int (0 : Int32)), (.ref b121), (.ref b164)]))
      obtain ⟨_, _, ⟨T206, L206, k206, n206⟩, -, X206, ⟨Lc206, hQ206, l206, y206, z206⟩, st206⟩ := Jvm.LawKit.callS X205 hx (y := (⟨"com/example/slotwright/slotwright/problems/IndexSetRemovePinLaw", "at", "(Lcom/example/slotwright/slotwright/problems/IndexSet;[III)Z"⟩ : MethodName)) hown (mvT hZ (hw _ (List.mem_of_getElem? (i := 40) rfl))) (mvT hZ (hw _ (List.mem_of_getElem? (i := 41) rfl))) (mvT hZ (hw _ (List.mem_of_getElem? (i := 4) rfl))) (mvT hZ (hw _ (List.mem_of_getElem? (i := 42) rfl))) (by decide) (backOf (W := 0) (rm8 l Z a0 hw [] b164 b121 (0 : Int32) (1 : Int32) mm166 pp166 4 Ms Ps (((((0 : Int32) + (1 : Int32)) + (1 : Int32)) - (1 : Int32)) - (1 : Int32)) m5 h197 n0 Z197 F198 F199 F200 F201 F202 F203 ne_b164_mm166 ne_b164_pp166 ne_mm166_pp166 g_b164 g_mm166 g_pp166 V197 (by decide) (by decide) (fun q => absurd q (by decide))) hZ (hw _ (List.mem_of_getElem? (i := 42) rfl)) (hw _ (List.mem_of_getElem? (i := 4) rfl)) (by decide) (by decide)) (g := (mkF m 252 #[.val (.int u0), .val (.int u1), .val (.int u2), .val (.int u3), .val (.int u4), .val (.ref b121), .val (.int qq), .val (.int (2 : Int32)), .val (.ref b164), .val (.int rr), .val (.int (0 : Int32)), .val (.int ss)] [(.int (1 : Int32)), (.int (0 : Int32)), (.ref b121), (.ref b164)])) rfl (by rw [hml]; rfl) (argsL := [(.ref b164), (.ref b121), (.int (0 : Int32)), (.int (1 : Int32))]) (rest := []) (lenOf pd_7 rfl) rfl (by show 2 * 0 + _ ≤ _; exact Nat.le_of_eq rfl) (hb hby at_252) (fun _ _ => ⟨rfl, e205, (by decide : 4 + 0 ≤ _), (by decide : 15 + 0 ≤ _)⟩)
      dsimp only [Pt.U, Pt.locs, Pt.cells, Pt.slots] at X206 l206 y206 z206 st206 hQ206
      replace l206 := l206.symm
      replace y206 := y206.symm
      replace z206 := z206.symm
      subst l206 y206 z206
      obtain ⟨rfl, N206q, e206⟩ := hQ206
      have N206 := Fr.app N205 N206q
      refine Goes.of st206 ?_
      show Goes _ _ _ _ _ _ _ (T206.setTop (mkF m 255 #[.val (.int u0), .val (.int u1), .val (.int u2), .val (.int u3), .val (.int u4), .val (.ref b121), .val (.int qq), .val (.int (2 : Int32)), .val (.ref b164), .val (.int rr), .val (.int (0 : Int32)), .val (.int ss)] [(.int (1 : Int32))]))
      refine Goes.of (fun t k => XS.ifNo X206.here hx rfl (hb hby at_255) rfl ((if0 _ _).trans (feq (by decide : ¬ ((1 : Int32) = (0 : Int32)))).1) k) ?_
      show Goes _ _ _ _ _ _ _ (T206.setTop (mkF m 258 #[.val (.int u0), .val (.int u1), .val (.int u2), .val (.int u3), .val (.int u4), .val (.ref b121), .val (.int qq), .val (.int (2 : Int32)), .val (.ref b164), .val (.int rr), .val (.int (0 : Int32)), .val (.int ss)] []))
      refine Goes.of (fun t k => XS.aload X206.here hx rfl (hb hby at_258) rfl rfl k) ?_
      show Goes _ _ _ _ _ _ _ (T206.setTop (mkF m 260 #[.val (.int u0), .val (.int u1), .val (.int u2), .val (.int u3), .val (.int u4), .val (.ref b121), .val (.int qq), .val (.int (2 : Int32)), .val (.ref b164), .val (.int rr), .val (.int (0 : Int32)), .val (.int ss)] [(.ref b164)]))
      refine Goes.of (fun t k => XS.aload X206.here hx rfl (hb hby at_260) rfl rfl k) ?_
      show Goes _ _ _ _ _ _ _ (T206.setTop (mkF m 262 #[.val (.int u0), .val (.int u1), .val (.int u2), .val (.int u3), .val (.int u4), .val (.ref b121), .val (.int qq), .val (.int (2 : Int32)), .val (.ref b164), .val (.int rr), .val (.int (0 : Int32)), .val (.int ss)] [(.ref b121), (.ref b164)]))
      refine Goes.of (fun t k => XS.iload X206.here hx rfl (hb hby at_262) rfl k) ?_
      show Goes _ _ _ _ _ _ _ (T206.setTop (mkF m 264 #[.val (.int u0), .val (.int u1), .val (.int u2), .val (.int u3), .val (.int u4), .val (.ref b121), .val (.int qq), .val (.int (2 : Int32)), .val (.ref b164), .val (.int rr), .val (.int (0 : Int32)), .val (.int ss)] [(.int (0 : Int32)), (.ref b121), (.ref b164)]))
      refine Goes.of (fun t k => XS.iconst X206.here hx rfl (hb hby at_264) k) ?_
      show Goes _ _ _ _ _ _ _ (T206.setTop (mkF m 265 #[.val (.int u0), .val (.int u1), .val (.int u2), .val (.int u3), .val (.int u4), .val (.ref b121), .val (.int qq), .val (.int (2 : Int32)), .val (.ref b164), .val (.int rr), .val (.int (0 : Int32)), .val (.int ss)] [(.int (2 : Int32)), (.int (0 : Int32)), (.ref b121), (.ref b164)]))
      obtain ⟨_, _, ⟨T207, L207, k207, n207⟩, -, X207, ⟨Lc207, hQ207, l207, y207, z207⟩, st207⟩ := Jvm.LawKit.callS X206 hx (y := (⟨"com/example/slotwright/slotwright/problems/IndexSetRemovePinLaw", "at", "(Lcom/example/slotwright/slotwright/problems/IndexSet;[III)Z"⟩ : MethodName)) hown (mvT hZ (hw _ (List.mem_of_getElem? (i := 40) rfl))) (mvT hZ (hw _ (List.mem_of_getElem? (i := 41) rfl))) (mvT hZ (hw _ (List.mem_of_getElem? (i := 4) rfl))) (mvT hZ (hw _ (List.mem_of_getElem? (i := 42) rfl))) (by decide) (backOf (W := 0) (rm8 l Z a0 hw [] b164 b121 (0 : Int32) (2 : Int32) mm166 pp166 4 Ms Ps (((((0 : Int32) + (1 : Int32)) + (1 : Int32)) - (1 : Int32)) - (1 : Int32)) m5 h197 n0 Z197 F198 F199 F200 F201 F202 F203 ne_b164_mm166 ne_b164_pp166 ne_mm166_pp166 g_b164 g_mm166 g_pp166 V197 (by decide) (by decide) (fun q => absurd q (by decide))) hZ (hw _ (List.mem_of_getElem? (i := 42) rfl)) (hw _ (List.mem_of_getElem? (i := 4) rfl)) (by decide) (by decide)) (g := (mkF m 265 #[.val (.int u0), .val (.int u1), .val (.int u2), .val (.int u3), .val (.int u4), .val (.ref b121), .val (.int qq), .val (.int (2 : Int32)), .val (.ref b164), .val (.int rr), .val (.int (0 : Int32)), .val (.int ss)] [(.int (2 : Int32)), (.int (0 : Int32)), (.ref b121), (.ref b164)])) rfl (by rw [hml]; rfl) (argsL := [(.ref b164), (.ref b121), (.int (0 : Int32)), (.int (2 : Int32))]) (rest := []) (lenOf pd_7 rfl) rfl (by show 2 * 0 + _ ≤ _; exact Nat.le_of_eq rfl) (hb hby at_265) (fun _ _ => ⟨rfl, e206, (by decide : 4 + 0 ≤ _), (by decide : 15 + 0 ≤ _)⟩)
      dsimp only [Pt.U, Pt.locs, Pt.cells, Pt.slots] at X207 l207 y207 z207 st207 hQ207
      replace l207 := l207.symm
      replace y207 := y207.symm
      replace z207 := z207.symm
      subst l207 y207 z207
      obtain ⟨rfl, N207q, e207⟩ := hQ207
      have N207 := Fr.app N206 N207q
      refine Goes.of st207 ?_
      show Goes _ _ _ _ _ _ _ (T207.setTop (mkF m 268 #[.val (.int u0), .val (.int u1), .val (.int u2), .val (.int u3), .val (.int u4), .val (.ref b121), .val (.int qq), .val (.int (2 : Int32)), .val (.ref b164), .val (.int rr), .val (.int (0 : Int32)), .val (.int ss)] [(.int (1 : Int32))]))
      refine Goes.of (fun t k => XS.ifNo X207.here hx rfl (hb hby at_268) rfl ((if0 _ _).trans (feq (by decide : ¬ ((1 : Int32) = (0 : Int32)))).1) k) ?_
      show Goes _ _ _ _ _ _ _ (T207.setTop (mkF m 271 #[.val (.int u0), .val (.int u1), .val (.int u2), .val (.int u3), .val (.int u4), .val (.ref b121), .val (.int qq), .val (.int (2 : Int32)), .val (.ref b164), .val (.int rr), .val (.int (0 : Int32)), .val (.int ss)] []))
      refine Goes.of (fun t k => XS.aload X207.here hx rfl (hb hby at_271) rfl rfl k) ?_
      show Goes _ _ _ _ _ _ _ (T207.setTop (mkF m 273 #[.val (.int u0), .val (.int u1), .val (.int u2), .val (.int u3), .val (.int u4), .val (.ref b121), .val (.int qq), .val (.int (2 : Int32)), .val (.ref b164), .val (.int rr), .val (.int (0 : Int32)), .val (.int ss)] [(.ref b164)]))
      refine Goes.of (fun t k => XS.aload X207.here hx rfl (hb hby at_273) rfl rfl k) ?_
      show Goes _ _ _ _ _ _ _ (T207.setTop (mkF m 275 #[.val (.int u0), .val (.int u1), .val (.int u2), .val (.int u3), .val (.int u4), .val (.ref b121), .val (.int qq), .val (.int (2 : Int32)), .val (.ref b164), .val (.int rr), .val (.int (0 : Int32)), .val (.int ss)] [(.ref b121), (.ref b164)]))
      refine Goes.of (fun t k => XS.iload X207.here hx rfl (hb hby at_275) rfl k) ?_
      show Goes _ _ _ _ _ _ _ (T207.setTop (mkF m 277 #[.val (.int u0), .val (.int u1), .val (.int u2), .val (.int u3), .val (.int u4), .val (.ref b121), .val (.int qq), .val (.int (2 : Int32)), .val (.ref b164), .val (.int rr), .val (.int (0 : Int32)), .val (.int ss)] [(.int (0 : Int32)), (.ref b121), (.ref b164)]))
      refine Goes.of (fun t k => XS.iconst X207.here hx rfl (hb hby at_277) k) ?_
      show Goes _ _ _ _ _ _ _ (T207.setTop (mkF m 278 #[.val (.int u0), .val (.int u1), .val (.int u2), .val (.int u3), .val (.int u4), .val (.ref b121), .val (.int qq), .val (.int (2 : Int32)), .val (.ref b164), .val (.int rr), .val (.int (0 : Int32)), .val (.int ss)] [(.int (0 : Int32)), (.int (0 : Int32)), (.ref b121), (.ref b164)]))
      obtain ⟨_, _, ⟨T208, L208, k208, n208⟩, -, X208, ⟨Lc208, hQ208, l208, y208, z208⟩, st208⟩ := Jvm.LawKit.callS X207 hx (y := (⟨"com/example/slotwright/slotwright/problems/IndexSetRemovePinLaw", "in", "(Lcom/example/slotwright/slotwright/problems/IndexSet;[III)Z"⟩ : MethodName)) hown (mvT hZ (hw _ (List.mem_of_getElem? (i := 48) rfl))) (mvT hZ (hw _ (List.mem_of_getElem? (i := 49) rfl))) (mvT hZ (hw _ (List.mem_of_getElem? (i := 4) rfl))) (mvT hZ (hw _ (List.mem_of_getElem? (i := 50) rfl))) (by decide) (backOf (W := 0) (rm10 l Z a0 hw [] b164 b121 (0 : Int32) (0 : Int32) mm166 pp166 4 Ms Ps (((((0 : Int32) + (1 : Int32)) + (1 : Int32)) - (1 : Int32)) - (1 : Int32)) m5 h197 n0 Z197 F198 F199 F200 F201 F202 F203 ne_b164_mm166 ne_b164_pp166 ne_mm166_pp166 g_b164 g_mm166 g_pp166 V197 ⟨by decide, by decide⟩ (by decide) (own_chk hIs (by decide) (by decide) ⟨by decide, by decide⟩)) hZ (hw _ (List.mem_of_getElem? (i := 50) rfl)) (hw _ (List.mem_of_getElem? (i := 4) rfl)) (by decide) (by decide)) (g := (mkF m 278 #[.val (.int u0), .val (.int u1), .val (.int u2), .val (.int u3), .val (.int u4), .val (.ref b121), .val (.int qq), .val (.int (2 : Int32)), .val (.ref b164), .val (.int rr), .val (.int (0 : Int32)), .val (.int ss)] [(.int (0 : Int32)), (.int (0 : Int32)), (.ref b121), (.ref b164)])) rfl (by rw [hml]; rfl) (argsL := [(.ref b164), (.ref b121), (.int (0 : Int32)), (.int (0 : Int32))]) (rest := []) (lenOf pd_7 rfl) rfl (by show 2 * 0 + _ ≤ _; exact Nat.le_of_eq rfl) (hb hby at_278) (fun _ _ => ⟨rfl, e207, (by decide : 4 + 0 ≤ _), (by decide : 15 + 0 ≤ _)⟩)
      dsimp only [Pt.U, Pt.locs, Pt.cells, Pt.slots] at X208 l208 y208 z208 st208 hQ208
      replace l208 := l208.symm
      replace y208 := y208.symm
      replace z208 := z208.symm
      subst l208 y208 z208
      obtain ⟨rfl, N208q, e208⟩ := hQ208
      have N208 := Fr.app N207 N208q
      refine Goes.of st208 ?_
      show Goes _ _ _ _ _ _ _ (T208.setTop (mkF m 281 #[.val (.int u0), .val (.int u1), .val (.int u2), .val (.int u3), .val (.int u4), .val (.ref b121), .val (.int qq), .val (.int (2 : Int32)), .val (.ref b164), .val (.int rr), .val (.int (0 : Int32)), .val (.int ss)] [(.int (1 : Int32))]))
      refine Goes.of (fun t k => XS.ifNo X208.here hx rfl (hb hby at_281) rfl ((if0 _ _).trans (feq (by decide : ¬ ((1 : Int32) = (0 : Int32)))).1) k) ?_
      show Goes _ _ _ _ _ _ _ (T208.setTop (mkF m 284 #[.val (.int u0), .val (.int u1), .val (.int u2), .val (.int u3), .val (.int u4), .val (.ref b121), .val (.int qq), .val (.int (2 : Int32)), .val (.ref b164), .val (.int rr), .val (.int (0 : Int32)), .val (.int ss)] []))
      refine Goes.of (fun t k => XS.aload X208.here hx rfl (hb hby at_284) rfl rfl k) ?_
      show Goes _ _ _ _ _ _ _ (T208.setTop (mkF m 286 #[.val (.int u0), .val (.int u1), .val (.int u2), .val (.int u3), .val (.int u4), .val (.ref b121), .val (.int qq), .val (.int (2 : Int32)), .val (.ref b164), .val (.int rr), .val (.int (0 : Int32)), .val (.int ss)] [(.ref b164)]))
      refine Goes.of (fun t k => XS.aload X208.here hx rfl (hb hby at_286) rfl rfl k) ?_
      show Goes _ _ _ _ _ _ _ (T208.setTop (mkF m 288 #[.val (.int u0), .val (.int u1), .val (.int u2), .val (.int u3), .val (.int u4), .val (.ref b121), .val (.int qq), .val (.int (2 : Int32)), .val (.ref b164), .val (.int rr), .val (.int (0 : Int32)), .val (.int ss)] [(.ref b121), (.ref b164)]))
      refine Goes.of (fun t k => XS.iload X208.here hx rfl (hb hby at_288) rfl k) ?_
      show Goes _ _ _ _ _ _ _ (T208.setTop (mkF m 290 #[.val (.int u0), .val (.int u1), .val (.int u2), .val (.int u3), .val (.int u4), .val (.ref b121), .val (.int qq), .val (.int (2 : Int32)), .val (.ref b164), .val (.int rr), .val (.int (0 : Int32)), .val (.int ss)] [(.int (0 : Int32)), (.ref b121), (.ref b164)]))
      refine Goes.of (fun t k => XS.iconst X208.here hx rfl (hb hby at_290) k) ?_
      show Goes _ _ _ _ _ _ _ (T208.setTop (mkF m 291 #[.val (.int u0), .val (.int u1), .val (.int u2), .val (.int u3), .val (.int u4), .val (.ref b121), .val (.int qq), .val (.int (2 : Int32)), .val (.ref b164), .val (.int rr), .val (.int (0 : Int32)), .val (.int ss)] [(.int (1 : Int32)), (.int (0 : Int32)), (.ref b121), (.ref b164)]))
      obtain ⟨_, _, ⟨T209, L209, k209, n209⟩, -, X209, ⟨Lc209, hQ209, l209, y209, z209⟩, st209⟩ := Jvm.LawKit.callS X208 hx (y := (⟨"com/example/slotwright/slotwright/problems/IndexSetRemovePinLaw", "in", "(Lcom/example/slotwright/slotwright/problems/IndexSet;[III)Z"⟩ : MethodName)) hown (mvT hZ (hw _ (List.mem_of_getElem? (i := 48) rfl))) (mvT hZ (hw _ (List.mem_of_getElem? (i := 49) rfl))) (mvT hZ (hw _ (List.mem_of_getElem? (i := 4) rfl))) (mvT hZ (hw _ (List.mem_of_getElem? (i := 50) rfl))) (by decide) (backOf (W := 0) (rm10 l Z a0 hw [] b164 b121 (0 : Int32) (1 : Int32) mm166 pp166 4 Ms Ps (((((0 : Int32) + (1 : Int32)) + (1 : Int32)) - (1 : Int32)) - (1 : Int32)) m5 h197 n0 Z197 F198 F199 F200 F201 F202 F203 ne_b164_mm166 ne_b164_pp166 ne_mm166_pp166 g_b164 g_mm166 g_pp166 V197 ⟨by decide, by decide⟩ (by decide) (own_chk hIs (by decide) (by decide) ⟨by decide, by decide⟩)) hZ (hw _ (List.mem_of_getElem? (i := 50) rfl)) (hw _ (List.mem_of_getElem? (i := 4) rfl)) (by decide) (by decide)) (g := (mkF m 291 #[.val (.int u0), .val (.int u1), .val (.int u2), .val (.int u3), .val (.int u4), .val (.ref b121), .val (.int qq), .val (.int (2 : Int32)), .val (.ref b164), .val (.int rr), .val (.int (0 : Int32)), .val (.int ss)] [(.int (1 : Int32)), (.int (0 : Int32)), (.ref b121), (.ref b164)])) rfl (by rw [hml]; rfl) (argsL := [(.ref b164), (.ref b121), (.int (0 : Int32)), (.int (1 : Int32))]) (rest := []) (lenOf pd_7 rfl) rfl (by show 2 * 0 + _ ≤ _; exact Nat.le_of_eq rfl) (hb hby at_291) (fun _ _ => ⟨rfl, e208, (by decide : 4 + 0 ≤ _), (by decide : 15 + 0 ≤ _)⟩)
      dsimp only [Pt.U, Pt.locs, Pt.cells, Pt.slots] at X209 l209 y209 z209 st209 hQ209
      replace l209 := l209.symm
      replace y209 := y209.symm
      replace z209 := z209.symm
      subst l209 y209 z209
      obtain ⟨rfl, N209q, e209⟩ := hQ209
      have N209 := Fr.app N208 N209q
      refine Goes.of st209 ?_
      show Goes _ _ _ _ _ _ _ (T209.setTop (mkF m 294 #[.val (.int u0), .val (.int u1), .val (.int u2), .val (.int u3), .val (.int u4), .val (.ref b121), .val (.int qq), .val (.int (2 : Int32)), .val (.ref b164), .val (.int rr), .val (.int (0 : Int32)), .val (.int ss)] [(.int (1 : Int32))]))
      refine Goes.of (fun t k => XS.ifNo X209.here hx rfl (hb hby at_294) rfl ((if0 _ _).trans (feq (by decide : ¬ ((1 : Int32) = (0 : Int32)))).1) k) ?_
      show Goes _ _ _ _ _ _ _ (T209.setTop (mkF m 297 #[.val (.int u0), .val (.int u1), .val (.int u2), .val (.int u3), .val (.int u4), .val (.ref b121), .val (.int qq), .val (.int (2 : Int32)), .val (.ref b164), .val (.int rr), .val (.int (0 : Int32)), .val (.int ss)] []))
      refine Goes.of (fun t k => XS.aload X209.here hx rfl (hb hby at_297) rfl rfl k) ?_
      show Goes _ _ _ _ _ _ _ (T209.setTop (mkF m 299 #[.val (.int u0), .val (.int u1), .val (.int u2), .val (.int u3), .val (.int u4), .val (.ref b121), .val (.int qq), .val (.int (2 : Int32)), .val (.ref b164), .val (.int rr), .val (.int (0 : Int32)), .val (.int ss)] [(.ref b164)]))
      refine Goes.of (fun t k => XS.aload X209.here hx rfl (hb hby at_299) rfl rfl k) ?_
      show Goes _ _ _ _ _ _ _ (T209.setTop (mkF m 301 #[.val (.int u0), .val (.int u1), .val (.int u2), .val (.int u3), .val (.int u4), .val (.ref b121), .val (.int qq), .val (.int (2 : Int32)), .val (.ref b164), .val (.int rr), .val (.int (0 : Int32)), .val (.int ss)] [(.ref b121), (.ref b164)]))
      refine Goes.of (fun t k => XS.iload X209.here hx rfl (hb hby at_301) rfl k) ?_
      show Goes _ _ _ _ _ _ _ (T209.setTop (mkF m 303 #[.val (.int u0), .val (.int u1), .val (.int u2), .val (.int u3), .val (.int u4), .val (.ref b121), .val (.int qq), .val (.int (2 : Int32)), .val (.ref b164), .val (.int rr), .val (.int (0 : Int32)), .val (.int ss)] [(.int (0 : Int32)), (.ref b121), (.ref b164)]))
      refine Goes.of (fun t k => XS.iconst X209.here hx rfl (hb hby at_303) k) ?_
      show Goes _ _ _ _ _ _ _ (T209.setTop (mkF m 304 #[.val (.int u0), .val (.int u1), .val (.int u2), .val (.int u3), .val (.int u4), .val (.ref b121), .val (.int qq), .val (.int (2 : Int32)), .val (.ref b164), .val (.int rr), .val (.int (0 : Int32)), .val (.int ss)] [(.int (2 : Int32)), (.int (0 : Int32)), (.ref b121), (.ref b164)]))
      obtain ⟨_, _, ⟨T210, L210, k210, n210⟩, -, X210, ⟨Lc210, hQ210, l210, y210, z210⟩, st210⟩ := Jvm.LawKit.callS X209 hx (y := (⟨"com/example/slotwright/slotwright/problems/IndexSetRemovePinLaw", "in", "(Lcom/example/slotwright/slotwright/problems/IndexSet;[III)Z"⟩ : MethodName)) hown (mvT hZ (hw _ (List.mem_of_getElem? (i := 48) rfl))) (mvT hZ (hw _ (List.mem_of_getElem? (i := 49) rfl))) (mvT hZ (hw _ (List.mem_of_getElem? (i := 4) rfl))) (mvT hZ (hw _ (List.mem_of_getElem? (i := 50) rfl))) (by decide) (backOf (W := 0) (rm10 l Z a0 hw [] b164 b121 (0 : Int32) (2 : Int32) mm166 pp166 4 Ms Ps (((((0 : Int32) + (1 : Int32)) + (1 : Int32)) - (1 : Int32)) - (1 : Int32)) m5 h197 n0 Z197 F198 F199 F200 F201 F202 F203 ne_b164_mm166 ne_b164_pp166 ne_mm166_pp166 g_b164 g_mm166 g_pp166 V197 ⟨by decide, by decide⟩ (by decide) (own_chk hIs (by decide) (by decide) ⟨by decide, by decide⟩)) hZ (hw _ (List.mem_of_getElem? (i := 50) rfl)) (hw _ (List.mem_of_getElem? (i := 4) rfl)) (by decide) (by decide)) (g := (mkF m 304 #[.val (.int u0), .val (.int u1), .val (.int u2), .val (.int u3), .val (.int u4), .val (.ref b121), .val (.int qq), .val (.int (2 : Int32)), .val (.ref b164), .val (.int rr), .val (.int (0 : Int32)), .val (.int ss)] [(.int (2 : Int32)), (.int (0 : Int32)), (.ref b121), (.ref b164)])) rfl (by rw [hml]; rfl) (argsL := [(.ref b164), (.ref b121), (.int (0 : Int32)), (.int (2 : Int32))]) (rest := []) (lenOf pd_7 rfl) rfl (by show 2 * 0 + _ ≤ _; exact Nat.le_of_eq rfl) (hb hby at_304) (fun _ _ => ⟨rfl, e209, (by decide : 4 + 0 ≤ _), (by decide : 15 + 0 ≤ _)⟩)
      dsimp only [Pt.U, Pt.locs, Pt.cells, Pt.slots] at X210 l210 y210 z210 st210 hQ210
      replace l210 := l210.symm
      replace y210 := y210.symm
      replace z210 := z210.symm
      subst l210 y210 z210
      obtain ⟨rfl, N210q, e210⟩ := hQ210
      have N210 := Fr.app N209 N210q
      refine Goes.of st210 ?_
      show Goes _ _ _ _ _ _ _ (T210.setTop (mkF m 307 #[.val (.int u0), .val (.int u1), .val (.int u2), .val (.int u3), .val (.int u4), .val (.ref b121), .val (.int qq), .val (.int (2 : Int32)), .val (.ref b164), .val (.int rr), .val (.int (0 : Int32)), .val (.int ss)] [(.int (1 : Int32))]))
      refine Goes.of (fun t k => XS.ifNo X210.here hx rfl (hb hby at_307) rfl ((if0 _ _).trans (feq (by decide : ¬ ((1 : Int32) = (0 : Int32)))).1) k) ?_
      show Goes _ _ _ _ _ _ _ (T210.setTop (mkF m 310 #[.val (.int u0), .val (.int u1), .val (.int u2), .val (.int u3), .val (.int u4), .val (.ref b121), .val (.int qq), .val (.int (2 : Int32)), .val (.ref b164), .val (.int rr), .val (.int (0 : Int32)), .val (.int ss)] []))
      refine Goes.of (fun t k => XS.aload X210.here hx rfl (hb hby at_310) rfl rfl k) ?_
      show Goes _ _ _ _ _ _ _ (T210.setTop (mkF m 312 #[.val (.int u0), .val (.int u1), .val (.int u2), .val (.int u3), .val (.int u4), .val (.ref b121), .val (.int qq), .val (.int (2 : Int32)), .val (.ref b164), .val (.int rr), .val (.int (0 : Int32)), .val (.int ss)] [(.ref b164)]))
      refine Goes.of (fun t k => XS.aload X210.here hx rfl (hb hby at_312) rfl rfl k) ?_
      show Goes _ _ _ _ _ _ _ (T210.setTop (mkF m 314 #[.val (.int u0), .val (.int u1), .val (.int u2), .val (.int u3), .val (.int u4), .val (.ref b121), .val (.int qq), .val (.int (2 : Int32)), .val (.ref b164), .val (.int rr), .val (.int (0 : Int32)), .val (.int ss)] [(.ref b121), (.ref b164)]))
      refine Goes.of (fun t k => XS.iload X210.here hx rfl (hb hby at_314) rfl k) ?_
      show Goes _ _ _ _ _ _ _ (T210.setTop (mkF m 316 #[.val (.int u0), .val (.int u1), .val (.int u2), .val (.int u3), .val (.int u4), .val (.ref b121), .val (.int qq), .val (.int (2 : Int32)), .val (.ref b164), .val (.int rr), .val (.int (0 : Int32)), .val (.int ss)] [(.int (0 : Int32)), (.ref b121), (.ref b164)]))
      refine Goes.of (fun t k => XS.iconst X210.here hx rfl (hb hby at_316) k) ?_
      show Goes _ _ _ _ _ _ _ (T210.setTop (mkF m 317 #[.val (.int u0), .val (.int u1), .val (.int u2), .val (.int u3), .val (.int u4), .val (.ref b121), .val (.int qq), .val (.int (2 : Int32)), .val (.ref b164), .val (.int rr), .val (.int (0 : Int32)), .val (.int ss)] [(.int (3 : Int32)), (.int (0 : Int32)), (.ref b121), (.ref b164)]))
      obtain ⟨_, _, ⟨T211, L211, k211, n211⟩, -, X211, ⟨Lc211, hQ211, l211, y211, z211⟩, st211⟩ := Jvm.LawKit.callS X210 hx (y := (⟨"com/example/slotwright/slotwright/problems/IndexSetRemovePinLaw", "in", "(Lcom/example/slotwright/slotwright/problems/IndexSet;[III)Z"⟩ : MethodName)) hown (mvT hZ (hw _ (List.mem_of_getElem? (i := 48) rfl))) (mvT hZ (hw _ (List.mem_of_getElem? (i := 49) rfl))) (mvT hZ (hw _ (List.mem_of_getElem? (i := 4) rfl))) (mvT hZ (hw _ (List.mem_of_getElem? (i := 50) rfl))) (by decide) (backOf (W := 0) (rm10 l Z a0 hw [] b164 b121 (0 : Int32) (3 : Int32) mm166 pp166 4 Ms Ps (((((0 : Int32) + (1 : Int32)) + (1 : Int32)) - (1 : Int32)) - (1 : Int32)) m5 h197 n0 Z197 F198 F199 F200 F201 F202 F203 ne_b164_mm166 ne_b164_pp166 ne_mm166_pp166 g_b164 g_mm166 g_pp166 V197 ⟨by decide, by decide⟩ (by decide) (own_chk hIs (by decide) (by decide) ⟨by decide, by decide⟩)) hZ (hw _ (List.mem_of_getElem? (i := 50) rfl)) (hw _ (List.mem_of_getElem? (i := 4) rfl)) (by decide) (by decide)) (g := (mkF m 317 #[.val (.int u0), .val (.int u1), .val (.int u2), .val (.int u3), .val (.int u4), .val (.ref b121), .val (.int qq), .val (.int (2 : Int32)), .val (.ref b164), .val (.int rr), .val (.int (0 : Int32)), .val (.int ss)] [(.int (3 : Int32)), (.int (0 : Int32)), (.ref b121), (.ref b164)])) rfl (by rw [hml]; rfl) (argsL := [(.ref b164), (.ref b121), (.int (0 : Int32)), (.int (3 : Int32))]) (rest := []) (lenOf pd_7 rfl) rfl (by show 2 * 0 + _ ≤ _; exact Nat.le_of_eq rfl) (hb hby at_317) (fun _ _ => ⟨rfl, e210, (by decide : 4 + 0 ≤ _), (by decide : 15 + 0 ≤ _)⟩)
      dsimp only [Pt.U, Pt.locs, Pt.cells, Pt.slots] at X211 l211 y211 z211 st211 hQ211
      replace l211 := l211.symm
      replace y211 := y211.symm
      replace z211 := z211.symm
      subst l211 y211 z211
      obtain ⟨rfl, N211q, e211⟩ := hQ211
      have N211 := Fr.app N210 N211q
      refine Goes.of st211 ?_
      show Goes _ _ _ _ _ _ _ (T211.setTop (mkF m 320 #[.val (.int u0), .val (.int u1), .val (.int u2), .val (.int u3), .val (.int u4), .val (.ref b121), .val (.int qq), .val (.int (2 : Int32)), .val (.ref b164), .val (.int rr), .val (.int (0 : Int32)), .val (.int ss)] [(.int (1 : Int32))]))
      refine Goes.of (fun t k => XS.ifNo X211.here hx rfl (hb hby at_320) rfl ((if0 _ _).trans (feq (by decide : ¬ ((1 : Int32) = (0 : Int32)))).1) k) ?_
      show Goes _ _ _ _ _ _ _ (T211.setTop (mkF m 323 #[.val (.int u0), .val (.int u1), .val (.int u2), .val (.int u3), .val (.int u4), .val (.ref b121), .val (.int qq), .val (.int (2 : Int32)), .val (.ref b164), .val (.int rr), .val (.int (0 : Int32)), .val (.int ss)] []))
      refine Goes.of (fun t k => XS.iconst X211.here hx rfl (hb hby at_323) k) ?_
      show Goes _ _ _ _ _ _ _ (T211.setTop (mkF m 324 #[.val (.int u0), .val (.int u1), .val (.int u2), .val (.int u3), .val (.int u4), .val (.ref b121), .val (.int qq), .val (.int (2 : Int32)), .val (.ref b164), .val (.int rr), .val (.int (0 : Int32)), .val (.int ss)] [(.int (1 : Int32))]))
      refine Goes.of (fun t k => XS.goto X211.here hx rfl (pc0 := 324) (pc' := 328) rfl (hb hby at_324) (by decide) (by decide) k) ?_
      show Goes _ _ _ _ _ _ _ (T211.setTop (mkF m 328 #[.val (.int u0), .val (.int u1), .val (.int u2), .val (.int u3), .val (.int u4), .val (.ref b121), .val (.int qq), .val (.int (2 : Int32)), .val (.ref b164), .val (.int rr), .val (.int (0 : Int32)), .val (.int ss)] [(.int (1 : Int32))]))
      exact Goes.fin X211 hlk (v := some (.int (1 : Int32))) (fun h => by rw [Bd.returns] at h; cases h) (fun fs hr => retN X211 hx (t := .boolean) Bd.returns (by simp) (hb hby at_328) hr) ⟨rfl, N211⟩ (by decide) (by decide)
  · rw [h4]
    show Goes _ _ _ _ _ _ _ (T128.setTop (mkF m 72 #[.val (.int u0), .val (.int u1), .val (.int u2), .val (.int u3), .val (.int u4), .val (.ref b121), .val (.int qq), .val (.int (3 : Int32)), .unset, .unset, .unset, .unset] []))
    obtain ⟨T212, h212, X212, e212, E212, A212, D212, -, st212⟩ := newO X128 hx hZ hown (hw _ (List.mem_of_getElem? (i := 6) rfl)) (hw _ (List.mem_of_getElem? (i := 7) rfl)) (hw _ (List.mem_of_getElem? (i := 8) rfl)) rfl (g := (mkF m 72 #[.val (.int u0), .val (.int u1), .val (.int u2), .val (.int u3), .val (.int u4), .val (.ref b121), .val (.int qq), .val (.int (3 : Int32)), .unset, .unset, .unset, .unset] [])) rfl (hb hby at_72) (by decide) (by decide)
    obtain ⟨b212, g212⟩ : ∃ z, z = T128.heap.size := ⟨_, rfl⟩
    rw [← g212] at A212 D212 st212
    have ne_b121_b212 : b121 ≠ b212 := Nat.ne_of_lt (Nat.lt_of_lt_of_le V128.lt (Nat.le_of_eq g212.symm))
    have g_b212 : n0 ≤ b212 := Nat.le_trans Z128 (Nat.le_of_eq g212.symm)
    have F213 := V128.ext E212
    have Z212 : n0 ≤ h212.size := Nat.le_trans Z128 E212.1
    have F_members_b212 : Fld Z h212 b212 "com/example/slotwright/slotwright/problems/IndexSet" "members" "[I" .null := D212 (Or.inr (hw _ (List.mem_of_getElem? (i := 16) rfl))) (ty := (.array .int)) (by decide)
    have F_positions_b212 : Fld Z h212 b212 "com/example/slotwright/slotwright/problems/IndexSet" "positions" "[I" .null := D212 (Or.inr (hw _ (List.mem_of_getElem? (i := 18) rfl))) (ty := (.array .int)) (by decide)
    have F_size_b212 : Fld Z h212 b212 "com/example/slotwright/slotwright/problems/IndexSet" "size" "I" (.int (0 : Int32)) := D212 (Or.inl (hw _ (List.mem_of_getElem? (i := 29) rfl))) (ty := .int) (by decide)
    refine Goes.of st212 ?_
    show Goes _ _ _ _ _ _ _ (T212.setTop (mkF m 75 #[.val (.int u0), .val (.int u1), .val (.int u2), .val (.int u3), .val (.int u4), .val (.ref b121), .val (.int qq), .val (.int (3 : Int32)), .unset, .unset, .unset, .unset] [(.ref b212)]))
    refine Goes.of (fun t k => XS.dup X212.here hx rfl (hb hby at_75) rfl rfl k) ?_
    show Goes _ _ _ _ _ _ _ (T212.setTop (mkF m 76 #[.val (.int u0), .val (.int u1), .val (.int u2), .val (.int u3), .val (.int u4), .val (.ref b121), .val (.int qq), .val (.int (3 : Int32)), .unset, .unset, .unset, .unset] [(.ref b212), (.ref b212)]))
    refine Goes.of (fun t k => XS.iconst X212.here hx rfl (hb hby at_76) k) ?_
    show Goes _ _ _ _ _ _ _ (T212.setTop (mkF m 77 #[.val (.int u0), .val (.int u1), .val (.int u2), .val (.int u3), .val (.int u4), .val (.ref b121), .val (.int qq), .val (.int (3 : Int32)), .unset, .unset, .unset, .unset] [(.int (4 : Int32)), (.ref b212), (.ref b212)]))
    obtain ⟨_, _, ⟨T214, L214, k214, n214⟩, -, X214, ⟨Lc214, hQ214, l214, y214, z214⟩, st214⟩ := X212.specialBack hx (y := (⟨"com/example/slotwright/slotwright/problems/IndexSet", "<init>", "(I)V"⟩ : MethodName)) rfl hown (mvT hZ (hw _ (List.mem_of_getElem? (i := 9) rfl))) (mvT hZ (hw _ (List.mem_of_getElem? (i := 10) rfl))) (mvT hZ (hw _ (List.mem_of_getElem? (i := 11) rfl))) (by decide) (backOf (W := 1) (rm2 l Z a0 hw [] b212 (4 : Int32) 4 h212 n0 Z212 A212 F_members_b212 F_positions_b212 F_size_b212 g_b212 (by decide) (by decide)) hZ (hw _ (List.mem_of_getElem? (i := 11) rfl)) (hw _ (List.mem_of_getElem? (i := 8) rfl)) (by decide) (by decide)) (g := (mkF m 77 #[.val (.int u0), .val (.int u1), .val (.int u2), .val (.int u3), .val (.int u4), .val (.ref b121), .val (.int qq), .val (.int (3 : Int32)), .unset, .unset, .unset, .unset] [(.int (4 : Int32)), (.ref b212), (.ref b212)])) rfl (by rw [hml]; rfl) (Steps.refl _) (a := b212) (argsL := [(.int (4 : Int32))]) (rest := [(.ref b212)]) (lenOf pd_5 rfl) rfl (by show 2 * 0 + _ ≤ _; exact Nat.le_of_eq rfl) (hb hby at_77) (fun _ _ => ⟨rfl, e212, (by decide : 2 + 2 ≤ _), (by decide : 7 + 8 ≤ _)⟩)
    dsimp only [Pt.U, Pt.locs, Pt.cells, Pt.slots] at X214 l214 y214 z214 st214 hQ214
    replace l214 := l214.symm
    replace y214 := y214.symm
    replace z214 := z214.symm
    subst l214 y214 z214
    obtain ⟨rfl, N214q, mm214, pp214, K214, szm214, szp214, ne_mm214_pp214, Eo214, Fm214, Fp214, Fs214, Vm214, Vp214⟩ := hQ214
    have ne_b121_mm214 : b121 ≠ mm214 := Nat.ne_of_lt (Nat.lt_of_lt_of_le F213.lt szm214)
    have ne_b212_mm214 : b212 ≠ mm214 := Nat.ne_of_lt (Nat.lt_of_lt_of_le A212.lt szm214)
    have g_mm214 : n0 ≤ mm214 := Nat.le_trans Z212 szm214
    have ne_b121_pp214 : b121 ≠ pp214 := Nat.ne_of_lt (Nat.lt_of_lt_of_le F213.lt szp214)
    have ne_b212_pp214 : b212 ≠ pp214 := Nat.ne_of_lt (Nat.lt_of_lt_of_le A212.lt szp214)
    have g_pp214 : n0 ≤ pp214 := Nat.le_trans Z212 szp214
    have F215 := F213.keep K214 (ninS ne_b121_b212 nin0)
    have F216 := A212.keep K214
    have Z214 : n0 ≤ T214.heap.size := Nat.le_trans Z212 K214.1
    have N214 := Fr.app N128 N214q
    refine Goes.of (fun t k => st214.trans k) ?_
    show Goes _ _ _ _ _ _ _ (T214.setTop (mkF m 80 #[.val (.int u0), .val (.int u1), .val (.int u2), .val (.int u3), .val (.int u4), .val (.ref b121), .val (.int qq), .val (.int (3 : Int32)), .unset, .unset, .unset, .unset] [(.ref b212)]))
    refine Goes.of (fun t k => XS.astore X214.here hx rfl (hb hby at_80) rfl rfl (l' := #[.val (.int u0), .val (.int u1), .val (.int u2), .val (.int u3), .val (.int u4), .val (.ref b121), .val (.int qq), .val (.int (3 : Int32)), .val (.ref b212), .unset, .unset, .unset]) rfl k) ?_
    show Goes _ _ _ _ _ _ _ (T214.setTop (mkF m 82 #[.val (.int u0), .val (.int u1), .val (.int u2), .val (.int u3), .val (.int u4), .val (.ref b121), .val (.int qq), .val (.int (3 : Int32)), .val (.ref b212), .unset, .unset, .unset] []))
    obtain ⟨M0, hf_M0⟩ : ∃ f : Nat → Int32, f = (fun _ => 0) := ⟨_, rfl⟩
    rw [← hf_M0] at Vm214
    obtain ⟨P0, hf_P0⟩ : ∃ f : Nat → Int32, f = (fun _ => (-1 : Int32)) := ⟨_, rfl⟩
    rw [← hf_P0] at Vp214
    have hI0 : own_Inv m3 M0 P0 0 := by
      rw [hf_M0, hf_P0]
      exact ⟨hp3.1, fun i j hi => absurd hi (Nat.not_lt_zero _), fun i hi => absurd hi (Nat.not_lt_zero _), fun i hi => absurd hi (Nat.not_lt_zero _), fun v hv hn => rfl⟩
    refine Goes.of (fun t k => XS.aload X214.here hx rfl (hb hby at_82) rfl rfl k) ?_
    show Goes _ _ _ _ _ _ _ (T214.setTop (mkF m 84 #[.val (.int u0), .val (.int u1), .val (.int u2), .val (.int u3), .val (.int u4), .val (.ref b121), .val (.int qq), .val (.int (3 : Int32)), .val (.ref b212), .unset, .unset, .unset] [(.ref b212)]))
    refine Goes.of (fun t k => XS.aload X214.here hx rfl (hb hby at_84) rfl rfl k) ?_
    show Goes _ _ _ _ _ _ _ (T214.setTop (mkF m 86 #[.val (.int u0), .val (.int u1), .val (.int u2), .val (.int u3), .val (.int u4), .val (.ref b121), .val (.int qq), .val (.int (3 : Int32)), .val (.ref b212), .unset, .unset, .unset] [(.ref b121), (.ref b212)]))
    refine Goes.of (fun t k => XS.iconst X214.here hx rfl (hb hby at_86) k) ?_
    show Goes _ _ _ _ _ _ _ (T214.setTop (mkF m 87 #[.val (.int u0), .val (.int u1), .val (.int u2), .val (.int u3), .val (.int u4), .val (.ref b121), .val (.int qq), .val (.int (3 : Int32)), .val (.ref b212), .unset, .unset, .unset] [(.int (0 : Int32)), (.ref b121), (.ref b212)]))
    refine Goes.of (fun t k => ldI X214 hx hZ rfl F215 (j := (0 : Int32)) (i := 0) (v := (m3 0)) (by decide) (by decide) (by decide) rfl (g := (mkF m 87 #[.val (.int u0), .val (.int u1), .val (.int u2), .val (.int u3), .val (.int u4), .val (.ref b121), .val (.int qq), .val (.int (3 : Int32)), .val (.ref b212), .unset, .unset, .unset] [(.int (0 : Int32)), (.ref b121), (.ref b212)])) rfl rfl (hb hby at_87) t k) ?_
    show Goes _ _ _ _ _ _ _ (T214.setTop (mkF m 88 #[.val (.int u0), .val (.int u1), .val (.int u2), .val (.int u3), .val (.int u4), .val (.ref b121), .val (.int qq), .val (.int (3 : Int32)), .val (.ref b212), .unset, .unset, .unset] [(.int (m3 0)), (.ref b212)]))
    obtain ⟨cq217, kq217, q217a, q217b, q217c⟩ := isOf hZ rfl Eo214
    obtain ⟨_, _, ⟨T217, L217, k217, n217⟩, -, X217, ⟨Lc217, hQ217, l217, y217, z217⟩, st217⟩ := X214.virtualBack hx (y := (⟨"com/example/slotwright/slotwright/problems/IndexSet", "add", "(I)V"⟩ : MethodName)) (z := (⟨"com/example/slotwright/slotwright/problems/IndexSet", "add", "(I)V"⟩ : MethodName)) hown (mvT hZ (hw _ (List.mem_of_getElem? (i := 23) rfl))) (mvT hZ (hw _ (List.mem_of_getElem? (i := 24) rfl))) (notFace_of_selects (args := #[]) (mvT hZ (hw _ (List.mem_of_getElem? (i := 26) rfl)))) (mvT hZ (hw _ (List.mem_of_getElem? (i := 26) rfl))) (mvT hZ (hw _ (List.mem_of_getElem? (i := 25) rfl))) (by decide) (backOf (W := 0) (rm5 l Z a0 hw [] b212 (m3 0) mm214 pp214 4 M0 P0 (0 : Int32) T214.heap n0 Z214 Eo214 Fm214 Fp214 Fs214 Vm214 Vp214 ne_b212_mm214 ne_b212_pp214 ne_mm214_pp214 g_b212 g_mm214 g_pp214 ⟨by decide, by decide⟩ (hI0.1 0 (by decide))) hZ (hw _ (List.mem_of_getElem? (i := 27) rfl)) (hw _ (List.mem_of_getElem? (i := 8) rfl)) (by decide) (by decide)) q217a q217c (g := (mkF m 88 #[.val (.int u0), .val (.int u1), .val (.int u2), .val (.int u3), .val (.int u4), .val (.ref b121), .val (.int qq), .val (.int (3 : Int32)), .val (.ref b212), .unset, .unset, .unset] [(.int (m3 0)), (.ref b212)])) rfl (by rw [hml]; rfl) (Steps.refl _) (argsL := [(.int (m3 0))]) (rest := []) (lenOf pd_5 rfl) rfl (by show 2 * 0 + _ ≤ _; exact Nat.le_of_eq rfl) (hb hby at_88) (fun _ _ => ⟨rfl, rfl, (by decide : 4 + 0 ≤ _), (by decide : 15 + 0 ≤ _)⟩)
    dsimp only [Pt.U, Pt.locs, Pt.cells, Pt.slots] at X217 l217 y217 z217 st217 hQ217
    replace l217 := l217.symm
    replace y217 := y217.symm
    replace z217 := z217.symm
    subst l217 y217 z217
    obtain ⟨rfl, N217q, K217, Eo217, Fm217, Fp217, Fs217, Vm217, Vp217⟩ := hQ217
    have F218 := F215.keep K217 (ninS ne_b121_b212 (ninS ne_b121_mm214 (ninS ne_b121_pp214 nin0)))
    have F219 := Eo214.keep K217
    have Z217 : n0 ≤ T217.heap.size := Nat.le_trans Z214 K217.1
    have N217 := Fr.app N214 N217q
    refine Goes.of (fun t k => st217.trans k) ?_
    show Goes _ _ _ _ _ _ _ (T217.setTop (mkF m 91 #[.val (.int u0), .val (.int u1), .val (.int u2), .val (.int u3), .val (.int u4), .val (.ref b121), .val (.int qq), .val (.int (3 : Int32)), .val (.ref b212), .unset, .unset, .unset] []))
    obtain ⟨M1, hf_M1⟩ : ∃ f : Nat → Int32, f = (upd M0 (0 : Int32).toNatClampNeg (m3 0)) := ⟨_, rfl⟩
    rw [← hf_M1] at Vm217
    obtain ⟨P1, hf_P1⟩ : ∃ f : Nat → Int32, f = (upd P0 (m3 0).toNatClampNeg (0 : Int32)) := ⟨_, rfl⟩
    rw [← hf_P1] at Vp217
    have hI1 : own_Inv m3 M1 P1 1 := by rw [hf_M1, hf_P1]; exact own_add hp3 hI0 (by decide)
    refine Goes.of (fun t k => XS.iload X217.here hx rfl (hb hby at_91) rfl k) ?_
    show Goes _ _ _ _ _ _ _ (T217.setTop (mkF m 93 #[.val (.int u0), .val (.int u1), .val (.int u2), .val (.int u3), .val (.int u4), .val (.ref b121), .val (.int qq), .val (.int (3 : Int32)), .val (.ref b212), .unset, .unset, .unset] [(.int (3 : Int32))]))
    refine Goes.of (fun t k => XS.iconst X217.here hx rfl (hb hby at_93) k) ?_
    show Goes _ _ _ _ _ _ _ (T217.setTop (mkF m 94 #[.val (.int u0), .val (.int u1), .val (.int u2), .val (.int u3), .val (.int u4), .val (.ref b121), .val (.int qq), .val (.int (3 : Int32)), .val (.ref b212), .unset, .unset, .unset] [(.int (1 : Int32)), (.int (3 : Int32))]))
    refine Goes.of (fun t k => XS.icmpNo X217.here hx rfl (hb hby at_94) rfl (tlt (by decide : (1 : Int32) < (3 : Int32))).2.2.2 k) ?_
    show Goes _ _ _ _ _ _ _ (T217.setTop (mkF m 97 #[.val (.int u0), .val (.int u1), .val (.int u2), .val (.int u3), .val (.int u4), .val (.ref b121), .val (.int qq), .val (.int (3 : Int32)), .val (.ref b212), .unset, .unset, .unset] []))
    refine Goes.of (fun t k => XS.aload X217.here hx rfl (hb hby at_97) rfl rfl k) ?_
    show Goes _ _ _ _ _ _ _ (T217.setTop (mkF m 99 #[.val (.int u0), .val (.int u1), .val (.int u2), .val (.int u3), .val (.int u4), .val (.ref b121), .val (.int qq), .val (.int (3 : Int32)), .val (.ref b212), .unset, .unset, .unset] [(.ref b212)]))
    refine Goes.of (fun t k => XS.aload X217.here hx rfl (hb hby at_99) rfl rfl k) ?_
    show Goes _ _ _ _ _ _ _ (T217.setTop (mkF m 101 #[.val (.int u0), .val (.int u1), .val (.int u2), .val (.int u3), .val (.int u4), .val (.ref b121), .val (.int qq), .val (.int (3 : Int32)), .val (.ref b212), .unset, .unset, .unset] [(.ref b121), (.ref b212)]))
    refine Goes.of (fun t k => XS.iconst X217.here hx rfl (hb hby at_101) k) ?_
    show Goes _ _ _ _ _ _ _ (T217.setTop (mkF m 102 #[.val (.int u0), .val (.int u1), .val (.int u2), .val (.int u3), .val (.int u4), .val (.ref b121), .val (.int qq), .val (.int (3 : Int32)), .val (.ref b212), .unset, .unset, .unset] [(.int (1 : Int32)), (.ref b121), (.ref b212)]))
    refine Goes.of (fun t k => ldI X217 hx hZ rfl F218 (j := (1 : Int32)) (i := 1) (v := (m3 1)) (by decide) (by decide) (by decide) rfl (g := (mkF m 102 #[.val (.int u0), .val (.int u1), .val (.int u2), .val (.int u3), .val (.int u4), .val (.ref b121), .val (.int qq), .val (.int (3 : Int32)), .val (.ref b212), .unset, .unset, .unset] [(.int (1 : Int32)), (.ref b121), (.ref b212)])) rfl rfl (hb hby at_102) t k) ?_
    show Goes _ _ _ _ _ _ _ (T217.setTop (mkF m 103 #[.val (.int u0), .val (.int u1), .val (.int u2), .val (.int u3), .val (.int u4), .val (.ref b121), .val (.int qq), .val (.int (3 : Int32)), .val (.ref b212), .unset, .unset, .unset] [(.int (m3 1)), (.ref b212)]))
    obtain ⟨cq220, kq220, q220a, q220b, q220c⟩ := isOf hZ rfl Eo217
    obtain ⟨_, _, ⟨T220, L220, k220, n220⟩, -, X220, ⟨Lc220, hQ220, l220, y220, z220⟩, st220⟩ := X217.virtualBack hx (y := (⟨"com/example/slotwright/slotwright/problems/IndexSet", "add", "(I)V"⟩ : MethodName)) (z := (⟨"com/example/slotwright/slotwright/problems/IndexSet", "add", "(I)V"⟩ : MethodName)) hown (mvT hZ (hw _ (List.mem_of_getElem? (i := 23) rfl))) (mvT hZ (hw _ (List.mem_of_getElem? (i := 24) rfl))) (notFace_of_selects (args := #[]) (mvT hZ (hw _ (List.mem_of_getElem? (i := 26) rfl)))) (mvT hZ (hw _ (List.mem_of_getElem? (i := 26) rfl))) (mvT hZ (hw _ (List.mem_of_getElem? (i := 25) rfl))) (by decide) (backOf (W := 0) (rm5 l Z a0 hw [] b212 (m3 1) mm214 pp214 4 M1 P1 ((0 : Int32) + (1 : Int32)) T217.heap n0 Z217 Eo217 Fm217 Fp217 Fs217 Vm217 Vp217 ne_b212_mm214 ne_b212_pp214 ne_mm214_pp214 g_b212 g_mm214 g_pp214 ⟨by decide, by decide⟩ (hI1.1 1 (by decide))) hZ (hw _ (List.mem_of_getElem? (i := 27) rfl)) (hw _ (List.mem_of_getElem? (i := 8) rfl)) (by decide) (by decide)) q220a q220c (g := (mkF m 103 #[.val (.int u0), .val (.int u1), .val (.int u2), .val (.int u3), .val (.int u4), .val (.ref b121), .val (.int qq), .val (.int (3 : Int32)), .val (.ref b212), .unset, .unset, .unset] [(.int (m3 1)), (.ref b212)])) rfl (by rw [hml]; rfl) (Steps.refl _) (argsL := [(.int (m3 1))]) (rest := []) (lenOf pd_5 rfl) rfl (by show 2 * 0 + _ ≤ _; exact Nat.le_of_eq rfl) (hb hby at_103) (fun _ _ => ⟨rfl, rfl, (by decide : 4 + 0 ≤ _), (by decide : 15 + 0 ≤ _)⟩)
    dsimp only [Pt.U, Pt.locs, Pt.cells, Pt.slots] at X220 l220 y220 z220 st220 hQ220
    replace l220 := l220.symm
    replace y220 := y220.symm
    replace z220 := z220.symm
    subst l220 y220 z220
    obtain ⟨rfl, N220q, K220, Eo220, Fm220, Fp220, Fs220, Vm220, Vp220⟩ := hQ220
    have F221 := F218.keep K220 (ninS ne_b121_b212 (ninS ne_b121_mm214 (ninS ne_b121_pp214 nin0)))
    have F222 := Eo217.keep K220
    have Z220 : n0 ≤ T220.heap.size := Nat.le_trans Z217 K220.1
    have N220 := Fr.app N217 N220q
    refine Goes.of (fun t k => st220.trans k) ?_
    show Goes _ _ _ _ _ _ _ (T220.setTop (mkF m 106 #[.val (.int u0), .val (.int u1), .val (.int u2), .val (.int u3), .val (.int u4), .val (.ref b121), .val (.int qq), .val (.int (3 : Int32)), .val (.ref b212), .unset, .unset, .unset] []))
    obtain ⟨M2, hf_M2⟩ : ∃ f : Nat → Int32, f = (upd M1 ((0 : Int32) + (1 : Int32)).toNatClampNeg (m3 1)) := ⟨_, rfl⟩
    rw [← hf_M2] at Vm220
    obtain ⟨P2, hf_P2⟩ : ∃ f : Nat → Int32, f = (upd P1 (m3 1).toNatClampNeg ((0 : Int32) + (1 : Int32))) := ⟨_, rfl⟩
    rw [← hf_P2] at Vp220
    have hI2 : own_Inv m3 M2 P2 2 := by rw [hf_M2, hf_P2]; exact own_add hp3 hI1 (by decide)
    refine Goes.of (fun t k => XS.iload X220.here hx rfl (hb hby at_106) rfl k) ?_
    show Goes _ _ _ _ _ _ _ (T220.setTop (mkF m 108 #[.val (.int u0), .val (.int u1), .val (.int u2), .val (.int u3), .val (.int u4), .val (.ref b121), .val (.int qq), .val (.int (3 : Int32)), .val (.ref b212), .unset, .unset, .unset] [(.int (3 : Int32))]))
    refine Goes.of (fun t k => XS.iconst X220.here hx rfl (hb hby at_108) k) ?_
    show Goes _ _ _ _ _ _ _ (T220.setTop (mkF m 109 #[.val (.int u0), .val (.int u1), .val (.int u2), .val (.int u3), .val (.int u4), .val (.ref b121), .val (.int qq), .val (.int (3 : Int32)), .val (.ref b212), .unset, .unset, .unset] [(.int (2 : Int32)), (.int (3 : Int32))]))
    refine Goes.of (fun t k => XS.icmpNo X220.here hx rfl (hb hby at_109) rfl (tlt (by decide : (2 : Int32) < (3 : Int32))).2.2.2 k) ?_
    show Goes _ _ _ _ _ _ _ (T220.setTop (mkF m 112 #[.val (.int u0), .val (.int u1), .val (.int u2), .val (.int u3), .val (.int u4), .val (.ref b121), .val (.int qq), .val (.int (3 : Int32)), .val (.ref b212), .unset, .unset, .unset] []))
    refine Goes.of (fun t k => XS.aload X220.here hx rfl (hb hby at_112) rfl rfl k) ?_
    show Goes _ _ _ _ _ _ _ (T220.setTop (mkF m 114 #[.val (.int u0), .val (.int u1), .val (.int u2), .val (.int u3), .val (.int u4), .val (.ref b121), .val (.int qq), .val (.int (3 : Int32)), .val (.ref b212), .unset, .unset, .unset] [(.ref b212)]))
    refine Goes.of (fun t k => XS.aload X220.here hx rfl (hb hby at_114) rfl rfl k) ?_
    show Goes _ _ _ _ _ _ _ (T220.setTop (mkF m 116 #[.val (.int u0), .val (.int u1), .val (.int u2), .val (.int u3), .val (.int u4), .val (.ref b121), .val (.int qq), .val (.int (3 : Int32)), .val (.ref b212), .unset, .unset, .unset] [(.ref b121), (.ref b212)]))
    refine Goes.of (fun t k => XS.iconst X220.here hx rfl (hb hby at_116) k) ?_
    show Goes _ _ _ _ _ _ _ (T220.setTop (mkF m 117 #[.val (.int u0), .val (.int u1), .val (.int u2), .val (.int u3), .val (.int u4), .val (.ref b121), .val (.int qq), .val (.int (3 : Int32)), .val (.ref b212), .unset, .unset, .unset] [(.int (2 : Int32)), (.ref b121), (.ref b212)]))
    refine Goes.of (fun t k => ldI X220 hx hZ rfl F221 (j := (2 : Int32)) (i := 2) (v := (m3 2)) (by decide) (by decide) (by decide) rfl (g := (mkF m 117 #[.val (.int u0), .val (.int u1), .val (.int u2), .val (.int u3), .val (.int u4), .val (.ref b121), .val (.int qq), .val (.int (3 : Int32)), .val (.ref b212), .unset, .unset, .unset] [(.int (2 : Int32)), (.ref b121), (.ref b212)])) rfl rfl (hb hby at_117) t k) ?_
    show Goes _ _ _ _ _ _ _ (T220.setTop (mkF m 118 #[.val (.int u0), .val (.int u1), .val (.int u2), .val (.int u3), .val (.int u4), .val (.ref b121), .val (.int qq), .val (.int (3 : Int32)), .val (.ref b212), .unset, .unset, .unset] [(.int (m3 2)), (.ref b212)]))
    obtain ⟨cq223, kq223, q223a, q223b, q223c⟩ := isOf hZ rfl Eo220
    obtain ⟨_, _, ⟨T223, L223, k223, n223⟩, -, X223, ⟨Lc223, hQ223, l223, y223, z223⟩, st223⟩ := X220.virtualBack hx (y := (⟨"com/example/slotwright/slotwright/problems/IndexSet", "add", "(I)V"⟩ : MethodName)) (z := (⟨"com/example/slotwright/slotwright/problems/IndexSet", "add", "(I)V"⟩ : MethodName)) hown (mvT hZ (hw _ (List.mem_of_getElem? (i := 23) rfl))) (mvT hZ (hw _ (List.mem_of_getElem? (i := 24) rfl))) (notFace_of_selects (args := #[]) (mvT hZ (hw _ (List.mem_of_getElem? (i := 26) rfl)))) (mvT hZ (hw _ (List.mem_of_getElem? (i := 26) rfl))) (mvT hZ (hw _ (List.mem_of_getElem? (i := 25) rfl))) (by decide) (backOf (W := 0) (rm5 l Z a0 hw [] b212 (m3 2) mm214 pp214 4 M2 P2 (((0 : Int32) + (1 : Int32)) + (1 : Int32)) T220.heap n0 Z220 Eo220 Fm220 Fp220 Fs220 Vm220 Vp220 ne_b212_mm214 ne_b212_pp214 ne_mm214_pp214 g_b212 g_mm214 g_pp214 ⟨by decide, by decide⟩ (hI2.1 2 (by decide))) hZ (hw _ (List.mem_of_getElem? (i := 27) rfl)) (hw _ (List.mem_of_getElem? (i := 8) rfl)) (by decide) (by decide)) q223a q223c (g := (mkF m 118 #[.val (.int u0), .val (.int u1), .val (.int u2), .val (.int u3), .val (.int u4), .val (.ref b121), .val (.int qq), .val (.int (3 : Int32)), .val (.ref b212), .unset, .unset, .unset] [(.int (m3 2)), (.ref b212)])) rfl (by rw [hml]; rfl) (Steps.refl _) (argsL := [(.int (m3 2))]) (rest := []) (lenOf pd_5 rfl) rfl (by show 2 * 0 + _ ≤ _; exact Nat.le_of_eq rfl) (hb hby at_118) (fun _ _ => ⟨rfl, rfl, (by decide : 4 + 0 ≤ _), (by decide : 15 + 0 ≤ _)⟩)
    dsimp only [Pt.U, Pt.locs, Pt.cells, Pt.slots] at X223 l223 y223 z223 st223 hQ223
    replace l223 := l223.symm
    replace y223 := y223.symm
    replace z223 := z223.symm
    subst l223 y223 z223
    obtain ⟨rfl, N223q, K223, Eo223, Fm223, Fp223, Fs223, Vm223, Vp223⟩ := hQ223
    have F224 := F221.keep K223 (ninS ne_b121_b212 (ninS ne_b121_mm214 (ninS ne_b121_pp214 nin0)))
    have F225 := Eo220.keep K223
    have Z223 : n0 ≤ T223.heap.size := Nat.le_trans Z220 K223.1
    have N223 := Fr.app N220 N223q
    refine Goes.of (fun t k => st223.trans k) ?_
    show Goes _ _ _ _ _ _ _ (T223.setTop (mkF m 121 #[.val (.int u0), .val (.int u1), .val (.int u2), .val (.int u3), .val (.int u4), .val (.ref b121), .val (.int qq), .val (.int (3 : Int32)), .val (.ref b212), .unset, .unset, .unset] []))
    obtain ⟨M3, hf_M3⟩ : ∃ f : Nat → Int32, f = (upd M2 (((0 : Int32) + (1 : Int32)) + (1 : Int32)).toNatClampNeg (m3 2)) := ⟨_, rfl⟩
    rw [← hf_M3] at Vm223
    obtain ⟨P3, hf_P3⟩ : ∃ f : Nat → Int32, f = (upd P2 (m3 2).toNatClampNeg (((0 : Int32) + (1 : Int32)) + (1 : Int32))) := ⟨_, rfl⟩
    rw [← hf_P3] at Vp223
    have hI3 : own_Inv m3 M3 P3 3 := by rw [hf_M3, hf_P3]; exact own_add hp3 hI2 (by decide)
    refine Goes.of (fun t k => XS.iload X223.here hx rfl (hb hby at_121) rfl k) ?_
    show Goes _ _ _ _ _ _ _ (T223.setTop (mkF m 123 #[.val (.int u0), .val (.int u1), .val (.int u2), .val (.int u3), .val (.int u4), .val (.ref b121), .val (.int qq), .val (.int (3 : Int32)), .val (.ref b212), .unset, .unset, .unset] [(.int (3 : Int32))]))
    refine Goes.of (fun t k => XS.iconst X223.here hx rfl (hb hby at_123) k) ?_
    show Goes _ _ _ _ _ _ _ (T223.setTop (mkF m 124 #[.val (.int u0), .val (.int u1), .val (.int u2), .val (.int u3), .val (.int u4), .val (.ref b121), .val (.int qq), .val (.int (3 : Int32)), .val (.ref b212), .unset, .unset, .unset] [(.int (3 : Int32)), (.int (3 : Int32))]))
    refine Goes.of (fun t k => XS.icmpYes X223.here hx rfl (pc0 := 124) (pc' := 136) rfl (hb hby at_124) rfl (flt (by decide : ¬ ((3 : Int32) < (3 : Int32)))).2.2.2 (by decide) (by decide) k) ?_
    show Goes _ _ _ _ _ _ _ (T223.setTop (mkF m 136 #[.val (.int u0), .val (.int u1), .val (.int u2), .val (.int u3), .val (.int u4), .val (.ref b121), .val (.int qq), .val (.int (3 : Int32)), .val (.ref b212), .unset, .unset, .unset] []))
    refine Goes.of (fun t k => XS.iloadN X223.here hx rfl (hb hby at_136) rfl k) ?_
    show Goes _ _ _ _ _ _ _ (T223.setTop (mkF m 137 #[.val (.int u0), .val (.int u1), .val (.int u2), .val (.int u3), .val (.int u4), .val (.ref b121), .val (.int qq), .val (.int (3 : Int32)), .val (.ref b212), .unset, .unset, .unset] [(.int u2)]))
    refine Goes.of (fun t k => X223.ldcInt hx hown (mvT hZ (hw _ (List.mem_of_getElem? (i := 1) rfl))) (g := (mkF m 137 #[.val (.int u0), .val (.int u1), .val (.int u2), .val (.int u3), .val (.int u4), .val (.ref b121), .val (.int qq), .val (.int (3 : Int32)), .val (.ref b212), .unset, .unset, .unset] [(.int u2)])) rfl (hb hby at_137) t k) ?_
    show Goes _ _ _ _ _ _ _ (T223.setTop (mkF m 139 #[.val (.int u0), .val (.int u1), .val (.int u2), .val (.int u3), .val (.int u4), .val (.ref b121), .val (.int qq), .val (.int (3 : Int32)), .val (.ref b212), .unset, .unset, .unset] [(.int (2147483647 : Int32)), (.int u2)]))
    refine Goes.of (fun t k => XS.iand X223.here hx rfl (hb hby at_139) rfl k) ?_
    show Goes _ _ _ _ _ _ _ (T223.setTop (mkF m 140 #[.val (.int u0), .val (.int u1), .val (.int u2), .val (.int u3), .val (.int u4), .val (.ref b121), .val (.int qq), .val (.int (3 : Int32)), .val (.ref b212), .unset, .unset, .unset] [(.int (u2 &&& (2147483647 : Int32)))]))
    refine Goes.of (fun t k => XS.iload X223.here hx rfl (hb hby at_140) rfl k) ?_
    show Goes _ _ _ _ _ _ _ (T223.setTop (mkF m 142 #[.val (.int u0), .val (.int u1), .val (.int u2), .val (.int u3), .val (.int u4), .val (.ref b121), .val (.int qq), .val (.int (3 : Int32)), .val (.ref b212), .unset, .unset, .unset] [(.int (3 : Int32)), (.int (u2 &&& (2147483647 : Int32)))]))
    refine Goes.of (fun t k => iremM X223 hx (g := (mkF m 142 #[.val (.int u0), .val (.int u1), .val (.int u2), .val (.int u3), .val (.int u4), .val (.ref b121), .val (.int qq), .val (.int (3 : Int32)), .val (.ref b212), .unset, .unset, .unset] [(.int (3 : Int32)), (.int (u2 &&& (2147483647 : Int32)))])) rfl (hb hby at_142) rfl (by decide) k) ?_
    show Goes _ _ _ _ _ _ _ (T223.setTop (mkF m 143 #[.val (.int u0), .val (.int u1), .val (.int u2), .val (.int u3), .val (.int u4), .val (.ref b121), .val (.int qq), .val (.int (3 : Int32)), .val (.ref b212), .unset, .unset, .unset] [(.int ((u2 &&& (2147483647 : Int32)) % (3 : Int32)))]))
    refine Goes.of (fun t k => XS.istore X223.here hx rfl (hb hby at_143) rfl (l' := #[.val (.int u0), .val (.int u1), .val (.int u2), .val (.int u3), .val (.int u4), .val (.ref b121), .val (.int qq), .val (.int (3 : Int32)), .val (.ref b212), .val (.int ((u2 &&& (2147483647 : Int32)) % (3 : Int32))), .unset, .unset]) rfl k) ?_
    show Goes _ _ _ _ _ _ _ (T223.setTop (mkF m 145 #[.val (.int u0), .val (.int u1), .val (.int u2), .val (.int u3), .val (.int u4), .val (.ref b121), .val (.int qq), .val (.int (3 : Int32)), .val (.ref b212), .val (.int ((u2 &&& (2147483647 : Int32)) % (3 : Int32))), .unset, .unset] []))
    obtain ⟨rr, hy_rr⟩ : ∃ z, z = ((u2 &&& (2147483647 : Int32)) % (3 : Int32)) := ⟨_, rfl⟩
    rw [← hy_rr]
    show Goes _ _ _ _ _ _ _ (T223.setTop (mkF m 145 #[.val (.int u0), .val (.int u1), .val (.int u2), .val (.int u3), .val (.int u4), .val (.ref b121), .val (.int qq), .val (.int (3 : Int32)), .val (.ref b212), .val (.int rr), .unset, .unset] []))
    have h_rr := own_rem u2 (3 : Int32) (by decide)
    rw [← hy_rr, show (3 : Int32).toInt = 3 from rfl] at h_rr
    have hn_rr := nat_of (own_nn h_rr.1)
    refine Goes.of (fun t k => XS.aload X223.here hx rfl (hb hby at_145) rfl rfl k) ?_
    show Goes _ _ _ _ _ _ _ (T223.setTop (mkF m 147 #[.val (.int u0), .val (.int u1), .val (.int u2), .val (.int u3), .val (.int u4), .val (.ref b121), .val (.int qq), .val (.int (3 : Int32)), .val (.ref b212), .val (.int rr), .unset, .unset] [(.ref b212)]))
    refine Goes.of (fun t k => XS.aload X223.here hx rfl (hb hby at_147) rfl rfl k) ?_
    show Goes _ _ _ _ _ _ _ (T223.setTop (mkF m 149 #[.val (.int u0), .val (.int u1), .val (.int u2), .val (.int u3), .val (.int u4), .val (.ref b121), .val (.int qq), .val (.int (3 : Int32)), .val (.ref b212), .val (.int rr), .unset, .unset] [(.ref b121), (.ref b212)]))
    refine Goes.of (fun t k => XS.iload X223.here hx rfl (hb hby at_149) rfl k) ?_
    show Goes _ _ _ _ _ _ _ (T223.setTop (mkF m 151 #[.val (.int u0), .val (.int u1), .val (.int u2), .val (.int u3), .val (.int u4), .val (.ref b121), .val (.int qq), .val (.int (3 : Int32)), .val (.ref b212), .val (.int rr), .unset, .unset] [(.int rr), (.ref b121), (.ref b212)]))
    refine Goes.of (fun t k => ldI X223 hx hZ rfl F224 (j := rr) (i := rr.toNatClampNeg) (v := (m3 rr.toNatClampNeg)) (own_nn h_rr.1) rfl (by omega) rfl (g := (mkF m 151 #[.val (.int u0), .val (.int u1), .val (.int u2), .val (.int u3), .val (.int u4), .val (.ref b121), .val (.int qq), .val (.int (3 : Int32)), .val (.ref b212), .val (.int rr), .unset, .unset] [(.int rr), (.ref b121), (.ref b212)])) rfl rfl (hb hby at_151) t k) ?_
    show Goes _ _ _ _ _ _ _ (T223.setTop (mkF m 152 #[.val (.int u0), .val (.int u1), .val (.int u2), .val (.int u3), .val (.int u4), .val (.ref b121), .val (.int qq), .val (.int (3 : Int32)), .val (.ref b212), .val (.int rr), .unset, .unset] [(.int (m3 rr.toNatClampNeg)), (.ref b212)]))
    obtain ⟨cq226, kq226, q226a, q226b, q226c⟩ := isOf hZ rfl Eo223
    obtain ⟨_, _, ⟨T226, L226, k226, n226⟩, -, X226, ⟨Lc226, hQ226, l226, y226, z226⟩, st226⟩ := X223.virtualBack hx (y := (⟨"com/example/slotwright/slotwright/problems/IndexSet", "remove", "(I)V"⟩ : MethodName)) (z := (⟨"com/example/slotwright/slotwright/problems/IndexSet", "remove", "(I)V"⟩ : MethodName)) hown (mvT hZ (hw _ (List.mem_of_getElem? (i := 30) rfl))) (mvT hZ (hw _ (List.mem_of_getElem? (i := 31) rfl))) (notFace_of_selects (args := #[]) (mvT hZ (hw _ (List.mem_of_getElem? (i := 33) rfl)))) (mvT hZ (hw _ (List.mem_of_getElem? (i := 33) rfl))) (mvT hZ (hw _ (List.mem_of_getElem? (i := 32) rfl))) (by decide) (backOf (W := 0) (rm6 l Z a0 hw [] b212 (m3 rr.toNatClampNeg) mm214 pp214 4 M3 P3 ((((0 : Int32) + (1 : Int32)) + (1 : Int32)) + (1 : Int32)) T223.heap n0 Z223 Eo223 Fm223 Fp223 Fs223 Vm223 Vp223 ne_b212_mm214 ne_b212_pp214 ne_mm214_pp214 g_b212 g_mm214 g_pp214 ⟨by decide, by decide⟩ (hI3.1 _ (by omega)) (by rw [hI3.2.2.2.1 _ (by omega), len_toInt (by omega)]; omega) (by have hlk := hI3.2.2.1 2 (by decide); have hlr := hI3.1 2 (by decide); rw [← hlk] at hlr; exact hlr)) hZ (hw _ (List.mem_of_getElem? (i := 34) rfl)) (hw _ (List.mem_of_getElem? (i := 8) rfl)) (by decide) (by decide)) q226a q226c (g := (mkF m 152 #[.val (.int u0), .val (.int u1), .val (.int u2), .val (.int u3), .val (.int u4), .val (.ref b121), .val (.int qq), .val (.int (3 : Int32)), .val (.ref b212), .val (.int rr), .unset, .unset] [(.int (m3 rr.toNatClampNeg)), (.ref b212)])) rfl (by rw [hml]; rfl) (Steps.refl _) (argsL := [(.int (m3 rr.toNatClampNeg))]) (rest := []) (lenOf pd_5 rfl) rfl (by show 2 * 0 + _ ≤ _; exact Nat.le_of_eq rfl) (hb hby at_152) (fun _ _ => ⟨rfl, rfl, (by decide : 4 + 0 ≤ _), (by decide : 15 + 0 ≤ _)⟩)
    dsimp only [Pt.U, Pt.locs, Pt.cells, Pt.slots] at X226 l226 y226 z226 st226 hQ226
    replace l226 := l226.symm
    replace y226 := y226.symm
    replace z226 := z226.symm
    subst l226 y226 z226
    obtain ⟨rfl, N226q, K226, Eo226, Fm226, Fp226, Fs226, Vm226, Vp226⟩ := hQ226
    have F227 := F224.keep K226 (ninS ne_b121_b212 (ninS ne_b121_mm214 (ninS ne_b121_pp214 nin0)))
    have F228 := Eo223.keep K226
    have Z226 : n0 ≤ T226.heap.size := Nat.le_trans Z223 K226.1
    have N226 := Fr.app N223 N226q
    refine Goes.of (fun t k => st226.trans k) ?_
    show Goes _ _ _ _ _ _ _ (T226.setTop (mkF m 155 #[.val (.int u0), .val (.int u1), .val (.int u2), .val (.int u3), .val (.int u4), .val (.ref b121), .val (.int qq), .val (.int (3 : Int32)), .val (.ref b212), .val (.int rr), .unset, .unset] []))
    refine Goes.of (fun t k => XS.aload X226.here hx rfl (hb hby at_155) rfl rfl k) ?_
    show Goes _ _ _ _ _ _ _ (T226.setTop (mkF m 157 #[.val (.int u0), .val (.int u1), .val (.int u2), .val (.int u3), .val (.int u4), .val (.ref b121), .val (.int qq), .val (.int (3 : Int32)), .val (.ref b212), .val (.int rr), .unset, .unset] [(.ref b121)]))
    refine Goes.of (fun t k => XS.iload X226.here hx rfl (hb hby at_157) rfl k) ?_
    show Goes _ _ _ _ _ _ _ (T226.setTop (mkF m 159 #[.val (.int u0), .val (.int u1), .val (.int u2), .val (.int u3), .val (.int u4), .val (.ref b121), .val (.int qq), .val (.int (3 : Int32)), .val (.ref b212), .val (.int rr), .unset, .unset] [(.int rr), (.ref b121)]))
    refine Goes.of (fun t k => XS.aload X226.here hx rfl (hb hby at_159) rfl rfl k) ?_
    show Goes _ _ _ _ _ _ _ (T226.setTop (mkF m 161 #[.val (.int u0), .val (.int u1), .val (.int u2), .val (.int u3), .val (.int u4), .val (.ref b121), .val (.int qq), .val (.int (3 : Int32)), .val (.ref b212), .val (.int rr), .unset, .unset] [(.ref b121), (.int rr), (.ref b121)]))
    refine Goes.of (fun t k => XS.iload X226.here hx rfl (hb hby at_161) rfl k) ?_
    show Goes _ _ _ _ _ _ _ (T226.setTop (mkF m 163 #[.val (.int u0), .val (.int u1), .val (.int u2), .val (.int u3), .val (.int u4), .val (.ref b121), .val (.int qq), .val (.int (3 : Int32)), .val (.ref b212), .val (.int rr), .unset, .unset] [(.int (3 : Int32)), (.ref b121), (.int rr), (.ref b121)]))
    refine Goes.of (fun t k => XS.iconst X226.here hx rfl (hb hby at_163) k) ?_
    show Goes _ _ _ _ _ _ _ (T226.setTop (mkF m 164 #[.val (.int u0), .val (.int u1), .val (.int u2), .val (.int u3), .val (.int u4), .val (.ref b121), .val (.int qq), .val (.int (3 : Int32)), .val (.ref b212), .val (.int rr), .unset, .unset] [(.int (1 : Int32)), (.int (3 : Int32)), (.ref b121), (.int rr), (.ref b121)]))
    refine Goes.of (fun t k => XS.isub X226.here hx rfl (hb hby at_164) rfl k) ?_
    show Goes _ _ _ _ _ _ _ (T226.setTop (mkF m 165 #[.val (.int u0), .val (.int u1), .val (.int u2), .val (.int u3), .val (.int u4), .val (.ref b121), .val (.int qq), .val (.int (3 : Int32)), .val (.ref b212), .val (.int rr), .unset, .unset] [(.int (2 : Int32)), (.ref b121), (.int rr), (.ref b121)]))
    refine Goes.of (fun t k => ldI X226 hx hZ rfl F227 (j := (2 : Int32)) (i := 2) (v := (m3 2)) (by decide) (by decide) (by decide) rfl (g := (mkF m 165 #[.val (.int u0), .val (.int u1), .val (.int u2), .val (.int u3), .val (.int u4), .val (.ref b121), .val (.int qq), .val (.int (3 : Int32)), .val (.ref b212), .val (.int rr), .unset, .unset] [(.int (2 : Int32)), (.ref b121), (.int rr), (.ref b121)])) rfl rfl (hb hby at_165) t k) ?_
    show Goes _ _ _ _ _ _ _ (T226.setTop (mkF m 166 #[.val (.int u0), .val (.int u1), .val (.int u2), .val (.int u3), .val (.int u4), .val (.ref b121), .val (.int qq), .val (.int (3 : Int32)), .val (.ref b212), .val (.int rr), .unset, .unset] [(.int (m3 2)), (.int rr), (.ref b121)]))
    obtain ⟨T229, h229, X229, e229, W229, V229, st229⟩ := putI X226 hx hZ rfl F227 (j := rr) (x := (m3 2)) (i := rr.toNatClampNeg) (own_nn h_rr.1) rfl (by omega) (g := (mkF m 166 #[.val (.int u0), .val (.int u1), .val (.int u2), .val (.int u3), .val (.int u4), .val (.ref b121), .val (.int qq), .val (.int (3 : Int32)), .val (.ref b212), .val (.int rr), .unset, .unset] [(.int (m3 2)), (.int rr), (.ref b121)])) rfl rfl (hb hby at_166)
    have F230 := Exa.wr W229 Eo226
    have F231 := Fld.other W229 Fm226 (Or.inl (Ne.symm ne_b121_b212))
    have F232 := Fld.other W229 Fp226 (Or.inl (Ne.symm ne_b121_b212))
    have F233 := Fld.other W229 Fs226 (Or.inl (Ne.symm ne_b121_b212))
    have F234 := Vm226.other W229 (Ne.symm ne_b121_mm214)
    have F235 := Vp226.other W229 (Ne.symm ne_b121_pp214)
    have Z229 : n0 ≤ h229.size := Nat.le_trans Z226 (Keep.of_wr W229).1
    have N229 := Fr.snoc X229 N226 g_b121
    refine Goes.of st229 ?_
    show Goes _ _ _ _ _ _ _ (T229.setTop (mkF m 167 #[.val (.int u0), .val (.int u1), .val (.int u2), .val (.int u3), .val (.int u4), .val (.ref b121), .val (.int qq), .val (.int (3 : Int32)), .val (.ref b212), .val (.int rr), .unset, .unset] []))
    obtain ⟨m4, hf_m4⟩ : ∃ f : Nat → Int32, f = (upd m3 rr.toNatClampNeg (m3 2)) := ⟨_, rfl⟩
    rw [← hf_m4] at V229
    obtain ⟨Mr, hf_Mr⟩ : ∃ f : Nat → Int32, f = (upd M3 (P3 (m3 rr.toNatClampNeg).toNatClampNeg).toNatClampNeg (M3 (((((0 : Int32) + (1 : Int32)) + (1 : Int32)) + (1 : Int32)) - (1 : Int32)).toNatClampNeg)) := ⟨_, rfl⟩
    rw [← hf_Mr] at F234
    obtain ⟨Pr, hf_Pr⟩ : ∃ f : Nat → Int32, f = (upd (upd P3 (M3 (((((0 : Int32) + (1 : Int32)) + (1 : Int32)) + (1 : Int32)) - (1 : Int32)).toNatClampNeg).toNatClampNeg (P3 (m3 rr.toNatClampNeg).toNatClampNeg)) (m3 rr.toNatClampNeg).toNatClampNeg (-1 : Int32)) := ⟨_, rfl⟩
    rw [← hf_Pr] at F235
    have hIr : own_Inv m4 Mr Pr 2 := by rw [hf_m4, hf_Mr, hf_Pr]; exact own_rm (k := 2) (r := rr.toNatClampNeg) hI3 (by decide) (by omega) rfl rfl
    refine Goes.of (fun t k => XS.iload X229.here hx rfl (hb hby at_167) rfl k) ?_
    show Goes _ _ _ _ _ _ _ (T229.setTop (mkF m 169 #[.val (.int u0), .val (.int u1), .val (.int u2), .val (.int u3), .val (.int u4), .val (.ref b121), .val (.int qq), .val (.int (3 : Int32)), .val (.ref b212), .val (.int rr), .unset, .unset] [(.int (3 : Int32))]))
    refine Goes.of (fun t k => XS.iconst X229.here hx rfl (hb hby at_169) k) ?_
    show Goes _ _ _ _ _ _ _ (T229.setTop (mkF m 170 #[.val (.int u0), .val (.int u1), .val (.int u2), .val (.int u3), .val (.int u4), .val (.ref b121), .val (.int qq), .val (.int (3 : Int32)), .val (.ref b212), .val (.int rr), .unset, .unset] [(.int (1 : Int32)), (.int (3 : Int32))]))
    refine Goes.of (fun t k => XS.isub X229.here hx rfl (hb hby at_170) rfl k) ?_
    show Goes _ _ _ _ _ _ _ (T229.setTop (mkF m 171 #[.val (.int u0), .val (.int u1), .val (.int u2), .val (.int u3), .val (.int u4), .val (.ref b121), .val (.int qq), .val (.int (3 : Int32)), .val (.ref b212), .val (.int rr), .unset, .unset] [(.int (2 : Int32))]))
    refine Goes.of (fun t k => XS.istore X229.here hx rfl (hb hby at_171) rfl (l' := #[.val (.int u0), .val (.int u1), .val (.int u2), .val (.int u3), .val (.int u4), .val (.ref b121), .val (.int qq), .val (.int (3 : Int32)), .val (.ref b212), .val (.int rr), .val (.int (2 : Int32)), .unset]) rfl k) ?_
    show Goes _ _ _ _ _ _ _ (T229.setTop (mkF m 173 #[.val (.int u0), .val (.int u1), .val (.int u2), .val (.int u3), .val (.int u4), .val (.ref b121), .val (.int qq), .val (.int (3 : Int32)), .val (.ref b212), .val (.int rr), .val (.int (2 : Int32)), .unset] []))
    refine Goes.of (fun t k => XS.iload X229.here hx rfl (hb hby at_173) rfl k) ?_
    show Goes _ _ _ _ _ _ _ (T229.setTop (mkF m 175 #[.val (.int u0), .val (.int u1), .val (.int u2), .val (.int u3), .val (.int u4), .val (.ref b121), .val (.int qq), .val (.int (3 : Int32)), .val (.ref b212), .val (.int rr), .val (.int (2 : Int32)), .unset] [(.int u4)]))
    refine Goes.of (fun t k => XS.iconst X229.here hx rfl (hb hby at_175) k) ?_
    show Goes _ _ _ _ _ _ _ (T229.setTop (mkF m 176 #[.val (.int u0), .val (.int u1), .val (.int u2), .val (.int u3), .val (.int u4), .val (.ref b121), .val (.int qq), .val (.int (3 : Int32)), .val (.ref b212), .val (.int rr), .val (.int (2 : Int32)), .unset] [(.int (1 : Int32)), (.int u4)]))
    refine Goes.of (fun t k => XS.iand X229.here hx rfl (hb hby at_176) rfl k) ?_
    show Goes _ _ _ _ _ _ _ (T229.setTop (mkF m 177 #[.val (.int u0), .val (.int u1), .val (.int u2), .val (.int u3), .val (.int u4), .val (.ref b121), .val (.int qq), .val (.int (3 : Int32)), .val (.ref b212), .val (.int rr), .val (.int (2 : Int32)), .unset] [(.int (u4 &&& (1 : Int32)))]))
    by_cases hc236 : (u4 &&& (1 : Int32)) = (0 : Int32)
    · refine Goes.of (fun t k => XS.ifYes X229.here hx rfl (pc0 := 177) (pc' := 222) rfl (hb hby at_177) rfl ((if0 _ _).trans (teq hc236).1) (by decide) (by decide) k) ?_
      show Goes _ _ _ _ _ _ _ (T229.setTop (mkF m 222 #[.val (.int u0), .val (.int u1), .val (.int u2), .val (.int u3), .val (.int u4), .val (.ref b121), .val (.int qq), .val (.int (3 : Int32)), .val (.ref b212), .val (.int rr), .val (.int (2 : Int32)), .unset] []))
      refine Goes.of (fun t k => XS.aload X229.here hx rfl (hb hby at_222) rfl rfl k) ?_
      show Goes _ _ _ _ _ _ _ (T229.setTop (mkF m 224 #[.val (.int u0), .val (.int u1), .val (.int u2), .val (.int u3), .val (.int u4), .val (.ref b121), .val (.int qq), .val (.int (3 : Int32)), .val (.ref b212), .val (.int rr), .val (.int (2 : Int32)), .unset] [(.ref b212)]))
      obtain ⟨cq237, kq237, q237a, q237b, q237c⟩ := isOf hZ e229 F230
      obtain ⟨_, _, ⟨T237, L237, k237, n237⟩, -, X237, ⟨Lc237, hQ237, l237, y237, z237⟩, st237⟩ := X229.virtualBack hx (y := (⟨"com/example/slotwright/slotwright/problems/IndexSet", "size", "()I"⟩ : MethodName)) (z := (⟨"com/example/slotwright/slotwright/problems/IndexSet", "size", "()I"⟩ : MethodName)) hown (mvT hZ (hw _ (List.mem_of_getElem? (i := 35) rfl))) (mvT hZ (hw _ (List.mem_of_getElem? (i := 36) rfl))) (notFace_of_selects (args := #[]) (mvT hZ (hw _ (List.mem_of_getElem? (i := 38) rfl)))) (mvT hZ (hw _ (List.mem_of_getElem? (i := 38) rfl))) (mvT hZ (hw _ (List.mem_of_getElem? (i := 37) rfl))) (by decide) (backOf (W := 0) (rm7 l Z a0 hw [] b212 mm214 pp214 4 Mr Pr (((((0 : Int32) + (1 : Int32)) + (1 : Int32)) + (1 : Int32)) - (1 : Int32)) h229 n0 Z229 F230 F231 F232 F233 F234 F235 ne_b212_mm214 ne_b212_pp214 ne_mm214_pp214 g_b212 g_mm214 g_pp214) hZ (hw _ (List.mem_of_getElem? (i := 39) rfl)) (hw _ (List.mem_of_getElem? (i := 8) rfl)) (by decide) (by decide)) q237a q237c (g := (mkF m 224 #[.val (.int u0), .val (.int u1), .val (.int u2), .val (.int u3), .val (.int u4), .val (.ref b121), .val (.int qq), .val (.int (3 : Int32)), .val (.ref b212), .val (.int rr), .val (.int (2 : Int32)), .unset] [(.ref b212)])) rfl (by rw [hml]; rfl) (Steps.refl _) (argsL := []) (rest := []) (lenOf pd_6 rfl) rfl (by show 2 * 0 + _ ≤ _; exact Nat.le_of_eq rfl) (hb hby at_224) (fun _ _ => ⟨rfl, e229, (by decide : 4 + 0 ≤ _), (by decide : 15 + 0 ≤ _)⟩)
      dsimp only [Pt.U, Pt.locs, Pt.cells, Pt.slots] at X237 l237 y237 z237 st237 hQ237
      replace l237 := l237.symm
      replace y237 := y237.symm
      replace z237 := z237.symm
      subst l237 y237 z237
      obtain ⟨rfl, N237q, e237⟩ := hQ237
      have N237 := Fr.app N229 N237q
      refine Goes.of (fun t k => st237.trans k) ?_
      show Goes _ _ _ _ _ _ _ (T237.setTop (mkF m 227 #[.val (.int u0), .val (.int u1), .val (.int u2), .val (.int u3), .val (.int u4), .val (.ref b121), .val (.int qq), .val (.int (3 : Int32)), .val (.ref b212), .val (.int rr), .val (.int (2 : Int32)), .unset] [(.int (((((0 : Int32) + (1 : Int32)) + (1 : Int32)) + (1 : Int32)) - (1 : Int32)))]))
      refine Goes.of (fun t k => XS.iload X237.here hx rfl (hb hby at_227) rfl k) ?_
      show Goes _ _ _ _ _ _ _ (T237.setTop (mkF m 229 #[.val (.int u0), .val (.int u1), .val (.int u2), .val (.int u3), .val (.int u4), .val (.ref b121), .val (.int qq), .val (.int (3 : Int32)), .val (.ref b212), .val (.int rr), .val (.int (2 : Int32)), .unset] [(.int (2 : Int32)), (.int (((((0 : Int32) + (1 : Int32)) + (1 : Int32)) + (1 : Int32)) - (1 : Int32)))]))
      refine Goes.of (fun t k => XS.icmpNo X237.here hx rfl (hb hby at_229) rfl (teq (by decide)).2 k) ?_
      show Goes _ _ _ _ _ _ _ (T237.setTop (mkF m 232 #[.val (.int u0), .val (.int u1), .val (.int u2), .val (.int u3), .val (.int u4), .val (.ref b121), .val (.int qq), .val (.int (3 : Int32)), .val (.ref b212), .val (.int rr), .val (.int (2 : Int32)), .unset] []))
      refine Goes.of (fun t k => XS.aload X237.here hx rfl (hb hby at_232) rfl rfl k) ?_
      show Goes _ _ _ _ _ _ _ (T237.setTop (mkF m 234 #[.val (.int u0), .val (.int u1), .val (.int u2), .val (.int u3), .val (.int u4), .val (.ref b121), .val (.int qq), .val (.int (3 : Int32)), .val (.ref b212), .val (.int rr), .val (.int (2 : Int32)), .unset] [(.ref b212)]))
      refine Goes.of (fun t k => XS.aload X237.here hx rfl (hb hby at_234) rfl rfl k) ?_
      show Goes _ _ _ _ _ _ _ (T237.setTop (mkF m 236 #[.val (.int u0), .val (.int u1), .val (.int u2), .val (.int u3), .val (.int u4), .val (.ref b121), .val (.int qq), .val (.int (3 : Int32)), .val (.ref b212), .val (.int rr), .val (.int (2 : Int32)), .unset] [(.ref b121), (.ref b212)]))
      refine Goes.of (fun t k => XS.iload X237.here hx rfl (hb hby at_236) rfl k) ?_
      show Goes _ _ _ _ _ _ _ (T237.setTop (mkF m 238 #[.val (.int u0), .val (.int u1), .val (.int u2), .val (.int u3), .val (.int u4), .val (.ref b121), .val (.int qq), .val (.int (3 : Int32)), .val (.ref b212), .val (.int rr), .val (.int (2 : Int32)), .unset] [(.int (2 : Int32)), (.ref b121), (.ref b212)]))
      refine Goes.of (fun t k => XS.iconst X237.here hx rfl (hb hby at_238) k) ?_
      show Goes _ _ _ _ _ _ _ (T237.setTop (mkF m 239 #[.val (.int u0), .val (.int u1), .val (.int u2), .val (.int u3), .val (.int u4), .val (.ref b121), .val (.int qq), .val (.int (3 : Int32)), .val (.ref b212), .val (.int rr), .val (.int (2 : Int32)), .unset] [(.int (0 : Int32)), (.int (2 : Int32)), (.ref b121), (.ref b212)]))
      obtain ⟨_, _, ⟨T238, L238, k238, n238⟩, -, X238, ⟨Lc238, hQ238, l238, y238, z238⟩, st238⟩ := Jvm.LawKit.callS X237 hx (y := (⟨"com/example/slotwright/slotwright/problems/IndexSetRemovePinLaw", "at", "(Lcom/example/slotwright/slotwright/problems/IndexSet;[III)Z"⟩ : MethodName)) hown (mvT hZ (hw _ (List.mem_of_getElem? (i := 40) rfl))) (mvT hZ (hw _ (List.mem_of_getElem? (i := 41) rfl))) (mvT hZ (hw _ (List.mem_of_getElem? (i := 4) rfl))) (mvT hZ (hw _ (List.mem_of_getElem? (i := 42) rfl))) (by decide) (backOf (W := 0) (rm8 l Z a0 hw [] b212 b121 (2 : Int32) (0 : Int32) mm214 pp214 4 Mr Pr (((((0 : Int32) + (1 : Int32)) + (1 : Int32)) + (1 : Int32)) - (1 : Int32)) m4 h229 n0 Z229 F230 F231 F232 F233 F234 F235 ne_b212_mm214 ne_b212_pp214 ne_mm214_pp214 g_b212 g_mm214 g_pp214 V229 (by decide) (by decide) (fun q => hIr.2.2.1 0 (by decide))) hZ (hw _ (List.mem_of_getElem? (i := 42) rfl)) (hw _ (List.mem_of_getElem? (i := 4) rfl)) (by decide) (by decide)) (g := (mkF m 239 #[.val (.int u0), .val (.int u1), .val (.int u2), .val (.int u3), .val (.int u4), .val (.ref b121), .val (.int qq), .val (.int (3 : Int32)), .val (.ref b212), .val (.int rr), .val (.int (2 : Int32)), .unset] [(.int (0 : Int32)), (.int (2 : Int32)), (.ref b121), (.ref b212)])) rfl (by rw [hml]; rfl) (argsL := [(.ref b212), (.ref b121), (.int (2 : Int32)), (.int (0 : Int32))]) (rest := []) (lenOf pd_7 rfl) rfl (by show 2 * 0 + _ ≤ _; exact Nat.le_of_eq rfl) (hb hby at_239) (fun _ _ => ⟨rfl, e237, (by decide : 4 + 0 ≤ _), (by decide : 15 + 0 ≤ _)⟩)
      dsimp only [Pt.U, Pt.locs, Pt.cells, Pt.slots] at X238 l238 y238 z238 st238 hQ238
      replace l238 := l238.symm
      replace y238 := y238.symm
      replace z238 := z238.symm
      subst l238 y238 z238
      obtain ⟨rfl, N238q, e238⟩ := hQ238
      have N238 := Fr.app N237 N238q
      refine Goes.of st238 ?_
      show Goes _ _ _ _ _ _ _ (T238.setTop (mkF m 242 #[.val (.int u0), .val (.int u1), .val (.int u2), .val (.int u3), .val (.int u4), .val (.ref b121), .val (.int qq), .val (.int (3 : Int32)), .val (.ref b212), .val (.int rr), .val (.int (2 : Int32)), .unset] [(.int (1 : Int32))]))
      refine Goes.of (fun t k => XS.ifNo X238.here hx rfl (hb hby at_242) rfl ((if0 _ _).trans (feq (by decide : ¬ ((1 : Int32) = (0 : Int32)))).1) k) ?_
      show Goes _ _ _ _ _ _ _ (T238.setTop (mkF m 245 #[.val (.int u0), .val (.int u1), .val (.int u2), .val (.int u3), .val (.int u4), .val (.ref b121), .val (.int qq), .val (.int (3 : Int32)), .val (.ref b212), .val (.int rr), .val (.int (2 : Int32)), .unset] []))
      refine Goes.of (fun t k => XS.aload X238.here hx rfl (hb hby at_245) rfl rfl k) ?_
      show Goes _ _ _ _ _ _ _ (T238.setTop (mkF m 247 #[.val (.int u0), .val (.int u1), .val (.int u2), .val (.int u3), .val (.int u4), .val (.ref b121), .val (.int qq), .val (.int (3 : Int32)), .val (.ref b212), .val (.int rr), .val (.int (2 : Int32)), .unset] [(.ref b212)]))
      refine Goes.of (fun t k => XS.aload X238.here hx rfl (hb hby at_247) rfl rfl k) ?_
      show Goes _ _ _ _ _ _ _ (T238.setTop (mkF m 249 #[.val (.int u0), .val (.int u1), .val (.int u2), .val (.int u3), .val (.int u4), .val (.ref b121), .val (.int qq), .val (.int (3 : Int32)), .val (.ref b212), .val (.int rr), .val (.int (2 : Int32)), .unset] [(.ref b121), (.ref b212)]))
      refine Goes.of (fun t k => XS.iload X238.here hx rfl (hb hby at_249) rfl k) ?_
      show Goes _ _ _ _ _ _ _ (T238.setTop (mkF m 251 #[.val (.int u0), .val (.int u1), .val (.int u2), .val (.int u3), .val (.int u4), .val (.ref b121), .val (.int qq), .val (.int (3 : Int32)), .val (.ref b212), .val (.int rr), .val (.int (2 : Int32)), .unset] [(.int (2 : Int32)), (.ref b121), (.ref b212)]))
      refine Goes.of (fun t k => XS.iconst X238.here hx rfl (hb hby at_251) k) ?_
      show Goes _ _ _ _ _ _ _ (T238.setTop (mkF m 252 #[.val (.int u0), .val (.int u1), .val (.int u2), .val (.int u3), .val (.int u4), .val (.ref b121), .val (.int qq), .val (.int (3 : Int32)), .val (.ref b212), .val (.int rr), .val (.int (2 : Int32)), .unset] [(.int (1 : Int32)), (.int (2 : Int32)), (.ref b121), (.ref b212)]))
      obtain ⟨_, _, ⟨T239, L239, k239, n239⟩, -, X239, ⟨Lc239, hQ239, l239, y239, z239⟩, st239⟩ := Jvm.LawKit.callS X238 hx (y := (⟨"com/example/slotwright/slotwright/problems/IndexSetRemovePinLaw", "at", "(Lcom/example/slotwright/slotwright/problems/IndexSet;[III)Z"⟩ : MethodName)) hown (mvT hZ (hw _ (List.mem_of_getElem? (i := 40) rfl))) (mvT hZ (hw _ (List.mem_of_getElem? (i := 41) rfl))) (mvT hZ (hw _ (List.mem_of_getElem? (i := 4) rfl))) (mvT hZ (hw _ (List.mem_of_getElem? (i := 42) rfl))) (by decide) (backOf (W := 0) (rm8 l Z a0 hw [] b212 b121 (2 : Int32) (1 : Int32) mm214 pp214 4 Mr Pr (((((0 : Int32) + (1 : Int32)) + (1 : Int32)) + (1 : Int32)) - (1 : Int32)) m4 h229 n0 Z229 F230 F231 F232 F233 F234 F235 ne_b212_mm214 ne_b212_pp214 ne_mm214_pp214 g_b212 g_mm214 g_pp214 V229 (by decide) (by decide) (fun q => hIr.2.2.1 1 (by decide))) hZ (hw _ (List.mem_of_getElem? (i := 42) rfl)) (hw _ (List.mem_of_getElem? (i := 4) rfl)) (by decide) (by decide)) (g := (mkF m 252 #[.val (.int u0), .val (.int u1), .val (.int u2), .val (.int u3), .val (.int u4), .val (.ref b121), .val (.int qq), .val (.int (3 : Int32)), .val (.ref b212), .val (.int rr), .val (.int (2 : Int32)), .unset] [(.int (1 : Int32)), (.int (2 : Int32)), (.ref b121), (.ref b212)])) rfl (by rw [hml]; rfl) (argsL := [(.ref b212), (.ref b121), (.int (2 : Int32)), (.int (1 : Int32))]) (rest := []) (lenOf pd_7 rfl) rfl (by show 2 * 0 + _ ≤ _; exact Nat.le_of_eq rfl) (hb hby at_252) (fun _ _ => ⟨rfl, e238, (by decide : 4 + 0 ≤ _), (by decide : 15 + 0 ≤ _)⟩)
      dsimp only [Pt.U, Pt.locs, Pt.cells, Pt.slots] at X239 l239 y239 z239 st239 hQ239
      replace l239 := l239.symm
      replace y239 := y239.symm
      replace z239 := z239.symm
      subst l239 y239 z239
      obtain ⟨rfl, N239q, e239⟩ := hQ239
      have N239 := Fr.app N238 N239q
      refine Goes.of st239 ?_
      show Goes _ _ _ _ _ _ _ (T239.setTop (mkF m 255 #[.val (.int u0), .val (.int u1), .val (.int u2), .val (.int u3), .val (.int u4), .val (.ref b121), .val (.int qq), .val (.int (3 : Int32)), .val (.ref b212), .val (.int rr), .val (.int (2 : Int32)), .unset] [(.int (1 : Int32))]))
      refine Goes.of (fun t k => XS.ifNo X239.here hx rfl (hb hby at_255) rfl ((if0 _ _).trans (feq (by decide : ¬ ((1 : Int32) = (0 : Int32)))).1) k) ?_
      show Goes _ _ _ _ _ _ _ (T239.setTop (mkF m 258 #[.val (.int u0), .val (.int u1), .val (.int u2), .val (.int u3), .val (.int u4), .val (.ref b121), .val (.int qq), .val (.int (3 : Int32)), .val (.ref b212), .val (.int rr), .val (.int (2 : Int32)), .unset] []))
      refine Goes.of (fun t k => XS.aload X239.here hx rfl (hb hby at_258) rfl rfl k) ?_
      show Goes _ _ _ _ _ _ _ (T239.setTop (mkF m 260 #[.val (.int u0), .val (.int u1), .val (.int u2), .val (.int u3), .val (.int u4), .val (.ref b121), .val (.int qq), .val (.int (3 : Int32)), .val (.ref b212), .val (.int rr), .val (.int (2 : Int32)), .unset] [(.ref b212)]))
      refine Goes.of (fun t k => XS.aload X239.here hx rfl (hb hby at_260) rfl rfl k) ?_
      show Goes _ _ _ _ _ _ _ (T239.setTop (mkF m 262 #[.val (.int u0), .val (.int u1), .val (.int u2), .val (.int u3), .val (.int u4), .val (.ref b121), .val (.int qq), .val (.int (3 : Int32)), .val (.ref b212), .val (.int rr), .val (.int (2 : Int32)), .unset] [(.ref b121), (.ref b212)]))
      refine Goes.of (fun t k => XS.iload X239.here hx rfl (hb hby at_262) rfl k) ?_
      show Goes _ _ _ _ _ _ _ (T239.setTop (mkF m 264 #[.val (.int u0), .val (.int u1), .val (.int u2), .val (.int u3), .val (.int u4), .val (.ref b121), .val (.int qq), .val (.int (3 : Int32)), .val (.ref b212), .val (.int rr), .val (.int (2 : Int32)), .unset] [(.int (2 : Int32)), (.ref b121), (.ref b212)]))
      refine Goes.of (fun t k => XS.iconst X239.here hx rfl (hb hby at_264) k) ?_
      show Goes _ _ _ _ _ _ _ (T239.setTop (mkF m 265 #[.val (.int u0), .val (.int u1), .val (.int u2), .val (.int u3), .val (.int u4), .val (.ref b121), .val (.int qq), .val (.int (3 : Int32)), .val (.ref b212), .val (.int rr), .val (.int (2 : Int32)), .unset] [(.int (2 : Int32)), (.int (2 : Int32)), (.ref b121), (.ref b212)]))
      obtain ⟨_, _, ⟨T240, L240, k240, n240⟩, -, X240, ⟨Lc240, hQ240, l240, y240, z240⟩, st240⟩ := Jvm.LawKit.callS X239 hx (y := (⟨"com/example/slotwright/slotwright/problems/IndexSetRemovePinLaw", "at", "(Lcom/example/slotwright/slotwright/problems/IndexSet;[III)Z"⟩ : MethodName)) hown (mvT hZ (hw _ (List.mem_of_getElem? (i := 40) rfl))) (mvT hZ (hw _ (List.mem_of_getElem? (i := 41) rfl))) (mvT hZ (hw _ (List.mem_of_getElem? (i := 4) rfl))) (mvT hZ (hw _ (List.mem_of_getElem? (i := 42) rfl))) (by decide) (backOf (W := 0) (rm8 l Z a0 hw [] b212 b121 (2 : Int32) (2 : Int32) mm214 pp214 4 Mr Pr (((((0 : Int32) + (1 : Int32)) + (1 : Int32)) + (1 : Int32)) - (1 : Int32)) m4 h229 n0 Z229 F230 F231 F232 F233 F234 F235 ne_b212_mm214 ne_b212_pp214 ne_mm214_pp214 g_b212 g_mm214 g_pp214 V229 (by decide) (by decide) (fun q => absurd q (by decide))) hZ (hw _ (List.mem_of_getElem? (i := 42) rfl)) (hw _ (List.mem_of_getElem? (i := 4) rfl)) (by decide) (by decide)) (g := (mkF m 265 #[.val (.int u0), .val (.int u1), .val (.int u2), .val (.int u3), .val (.int u4), .val (.ref b121), .val (.int qq), .val (.int (3 : Int32)), .val (.ref b212), .val (.int rr), .val (.int (2 : Int32)), .unset] [(.int (2 : Int32)), (.int (2 : Int32)), (.ref b121), (.ref b212)])) rfl (by rw [hml]; rfl) (argsL := [(.ref b212), (.ref b121), (.int (2 : Int32)), (.int (2 : Int32))]) (rest := []) (lenOf pd_7 rfl) rfl (by show 2 * 0 + _ ≤ _; exact Nat.le_of_eq rfl) (hb hby at_265) (fun _ _ => ⟨rfl, e239, (by decide : 4 + 0 ≤ _), (by decide : 15 + 0 ≤ _)⟩)
      dsimp only [Pt.U, Pt.locs, Pt.cells, Pt.slots] at X240 l240 y240 z240 st240 hQ240
      replace l240 := l240.symm
      replace y240 := y240.symm
      replace z240 := z240.symm
      subst l240 y240 z240
      obtain ⟨rfl, N240q, e240⟩ := hQ240
      have N240 := Fr.app N239 N240q
      refine Goes.of st240 ?_
      show Goes _ _ _ _ _ _ _ (T240.setTop (mkF m 268 #[.val (.int u0), .val (.int u1), .val (.int u2), .val (.int u3), .val (.int u4), .val (.ref b121), .val (.int qq), .val (.int (3 : Int32)), .val (.ref b212), .val (.int rr), .val (.int (2 : Int32)), .unset] [(.int (1 : Int32))]))
      refine Goes.of (fun t k => XS.ifNo X240.here hx rfl (hb hby at_268) rfl ((if0 _ _).trans (feq (by decide : ¬ ((1 : Int32) = (0 : Int32)))).1) k) ?_
      show Goes _ _ _ _ _ _ _ (T240.setTop (mkF m 271 #[.val (.int u0), .val (.int u1), .val (.int u2), .val (.int u3), .val (.int u4), .val (.ref b121), .val (.int qq), .val (.int (3 : Int32)), .val (.ref b212), .val (.int rr), .val (.int (2 : Int32)), .unset] []))
      refine Goes.of (fun t k => XS.aload X240.here hx rfl (hb hby at_271) rfl rfl k) ?_
      show Goes _ _ _ _ _ _ _ (T240.setTop (mkF m 273 #[.val (.int u0), .val (.int u1), .val (.int u2), .val (.int u3), .val (.int u4), .val (.ref b121), .val (.int qq), .val (.int (3 : Int32)), .val (.ref b212), .val (.int rr), .val (.int (2 : Int32)), .unset] [(.ref b212)]))
      refine Goes.of (fun t k => XS.aload X240.here hx rfl (hb hby at_273) rfl rfl k) ?_
      show Goes _ _ _ _ _ _ _ (T240.setTop (mkF m 275 #[.val (.int u0), .val (.int u1), .val (.int u2), .val (.int u3), .val (.int u4), .val (.ref b121), .val (.int qq), .val (.int (3 : Int32)), .val (.ref b212), .val (.int rr), .val (.int (2 : Int32)), .unset] [(.ref b121), (.ref b212)]))
      refine Goes.of (fun t k => XS.iload X240.here hx rfl (hb hby at_275) rfl k) ?_
      show Goes _ _ _ _ _ _ _ (T240.setTop (mkF m 277 #[.val (.int u0), .val (.int u1), .val (.int u2), .val (.int u3), .val (.int u4), .val (.ref b121), .val (.int qq), .val (.int (3 : Int32)), .val (.ref b212), .val (.int rr), .val (.int (2 : Int32)), .unset] [(.int (2 : Int32)), (.ref b121), (.ref b212)]))
      refine Goes.of (fun t k => XS.iconst X240.here hx rfl (hb hby at_277) k) ?_
      show Goes _ _ _ _ _ _ _ (T240.setTop (mkF m 278 #[.val (.int u0), .val (.int u1), .val (.int u2), .val (.int u3), .val (.int u4), .val (.ref b121), .val (.int qq), .val (.int (3 : Int32)), .val (.ref b212), .val (.int rr), .val (.int (2 : Int32)), .unset] [(.int (0 : Int32)), (.int (2 : Int32)), (.ref b121), (.ref b212)]))
      obtain ⟨_, _, ⟨T241, L241, k241, n241⟩, -, X241, ⟨Lc241, hQ241, l241, y241, z241⟩, st241⟩ := Jvm.LawKit.callS X240 hx (y := (⟨"com/example/slotwright/slotwright/problems/IndexSetRemovePinLaw", "in", "(Lcom/example/slotwright/slotwright/problems/IndexSet;[III)Z"⟩ : MethodName)) hown (mvT hZ (hw _ (List.mem_of_getElem? (i := 48) rfl))) (mvT hZ (hw _ (List.mem_of_getElem? (i := 49) rfl))) (mvT hZ (hw _ (List.mem_of_getElem? (i := 4) rfl))) (mvT hZ (hw _ (List.mem_of_getElem? (i := 50) rfl))) (by decide) (backOf (W := 0) (rm10 l Z a0 hw [] b212 b121 (2 : Int32) (0 : Int32) mm214 pp214 4 Mr Pr (((((0 : Int32) + (1 : Int32)) + (1 : Int32)) + (1 : Int32)) - (1 : Int32)) m4 h229 n0 Z229 F230 F231 F232 F233 F234 F235 ne_b212_mm214 ne_b212_pp214 ne_mm214_pp214 g_b212 g_mm214 g_pp214 V229 ⟨by decide, by decide⟩ (by decide) (own_chk hIr (by decide) (by decide) ⟨by decide, by decide⟩)) hZ (hw _ (List.mem_of_getElem? (i := 50) rfl)) (hw _ (List.mem_of_getElem? (i := 4) rfl)) (by decide) (by decide)) (g := (mkF m 278 #[.val (.int u0), .val (.int u1), .val (.int u2), .val (.int u3), .val (.int u4), .val (.ref b121), .val (.int qq), .val (.int (3 : Int32)), .val (.ref b212), .val (.int rr), .val (.int (2 : Int32)), .unset] [(.int (0 : Int32)), (.int (2 : Int32)), (.ref b121), (.ref b212)])) rfl (by rw [hml]; rfl) (argsL := [(.ref b212), (.ref b121), (.int (2 : Int32)), (.int (0 : Int32))]) (rest := []) (lenOf pd_7 rfl) rfl (by show 2 * 0 + _ ≤ _; exact Nat.le_of_eq rfl) (hb hby at_278) (fun _ _ => ⟨rfl, e240, (by decide : 4 + 0 ≤ _), (by decide : 15 + 0 ≤ _)⟩)
      dsimp only [Pt.U, Pt.locs, Pt.cells, Pt.slots] at X241 l241 y241 z241 st241 hQ241
      replace l241 := l241.symm
      replace y241 := y241.symm
      replace z241 := z241.symm
      subst l241 y241 z241
      obtain ⟨rfl, N241q, e241⟩ := hQ241
      have N241 := Fr.app N240 N241q
      refine Goes.of st241 ?_
      show Goes _ _ _ _ _ _ _ (T241.setTop (mkF m 281 #[.val (.int u0), .val (.int u1), .val (.int u2), .val (.int u3), .val (.int u4), .val (.ref b121), .val (.int qq), .val (.int (3 : Int32)), .val (.ref b212), .val (.int rr), .val (.int (2 : Int32)), .unset] [(.int (1 : Int32))]))
      refine Goes.of (fun t k => XS.ifNo X241.here hx rfl (hb hby at_281) rfl ((if0 _ _).trans (feq (by decide : ¬ ((1 : Int32) = (0 : Int32)))).1) k) ?_
      show Goes _ _ _ _ _ _ _ (T241.setTop (mkF m 284 #[.val (.int u0), .val (.int u1), .val (.int u2), .val (.int u3), .val (.int u4), .val (.ref b121), .val (.int qq), .val (.int (3 : Int32)), .val (.ref b212), .val (.int rr), .val (.int (2 : Int32)), .unset] []))
      refine Goes.of (fun t k => XS.aload X241.here hx rfl (hb hby at_284) rfl rfl k) ?_
      show Goes _ _ _ _ _ _ _ (T241.setTop (mkF m 286 #[.val (.int u0), .val (.int u1), .val (.int u2), .val (.int u3), .val (.int u4), .val (.ref b121), .val (.int qq), .val (.int (3 : Int32)), .val (.ref b212), .val (.int rr), .val (.int (2 : Int32)), .unset] [(.ref b212)]))
      refine Goes.of (fun t k => XS.aload X241.here hx rfl (hb hby at_286) rfl rfl k) ?_
      show Goes _ _ _ _ _ _ _ (T241.setTop (mkF m 288 #[.val (.int u0), .val (.int u1), .val (.int u2), .val (.int u3), .val (.int u4), .val (.ref b121), .val (.int qq), .val (.int (3 : Int32)), .val (.ref b212), .val (.int rr), .val (.int (2 : Int32)), .unset] [(.ref b121), (.ref b212)]))
      refine Goes.of (fun t k => XS.iload X241.here hx rfl (hb hby at_288) rfl k) ?_
      show Goes _ _ _ _ _ _ _ (T241.setTop (mkF m 290 #[.val (.int u0), .val (.int u1), .val (.int u2), .val (.int u3), .val (.int u4), .val (.ref b121), .val (.int qq), .val (.int (3 : Int32)), .val (.ref b212), .val (.int rr), .val (.int (2 : Int32)), .unset] [(.int (2 : Int32)), (.ref b121), (.ref b212)]))
      refine Goes.of (fun t k => XS.iconst X241.here hx rfl (hb hby at_290) k) ?_
      show Goes _ _ _ _ _ _ _ (T241.setTop (mkF m 291 #[.val (.int u0), .val (.int u1), .val (.int u2), .val (.int u3), .val (.int u4), .val (.ref b121), .val (.int qq), .val (.int (3 : Int32)), .val (.ref b212), .val (.int rr), .val (.int (2 : Int32)), .unset] [(.int (1 : Int32)), (.int (2 : Int32)), (.ref b121), (.ref b212)]))
      obtain ⟨_, _, ⟨T242, L242, k242, n242⟩, -, X242, ⟨Lc242, hQ242, l242, y242, z242⟩, st242⟩ := Jvm.LawKit.callS X241 hx (y := (⟨"com/example/slotwright/slotwright/problems/IndexSetRemovePinLaw", "in", "(Lcom/example/slotwright/slotwright/problems/IndexSet;[III)Z"⟩ : MethodName)) hown (mvT hZ (hw _ (List.mem_of_getElem? (i := 48) rfl))) (mvT hZ (hw _ (List.mem_of_getElem? (i := 49) rfl))) (mvT hZ (hw _ (List.mem_of_getElem? (i := 4) rfl))) (mvT hZ (hw _ (List.mem_of_getElem? (i := 50) rfl))) (by decide) (backOf (W := 0) (rm10 l Z a0 hw [] b212 b121 (2 : Int32) (1 : Int32) mm214 pp214 4 Mr Pr (((((0 : Int32) + (1 : Int32)) + (1 : Int32)) + (1 : Int32)) - (1 : Int32)) m4 h229 n0 Z229 F230 F231 F232 F233 F234 F235 ne_b212_mm214 ne_b212_pp214 ne_mm214_pp214 g_b212 g_mm214 g_pp214 V229 ⟨by decide, by decide⟩ (by decide) (own_chk hIr (by decide) (by decide) ⟨by decide, by decide⟩)) hZ (hw _ (List.mem_of_getElem? (i := 50) rfl)) (hw _ (List.mem_of_getElem? (i := 4) rfl)) (by decide) (by decide)) (g := (mkF m 291 #[.val (.int u0), .val (.int u1), .val (.int u2), .val (.int u3), .val (.int u4), .val (.ref b121), .val (.int qq), .val (.int (3 : Int32)), .val (.ref b212), .val (.int rr), .val (.int (2 : Int32)), .unset] [(.int (1 : Int32)), (.int (2 : Int32)), (.ref b121), (.ref b212)])) rfl (by rw [hml]; rfl) (argsL := [(.ref b212), (.ref b121), (.int (2 : Int32)), (.int (1 : Int32))]) (rest := []) (lenOf pd_7 rfl) rfl (by show 2 * 0 + _ ≤ _; exact Nat.le_of_eq rfl) (hb hby at_291) (fun _ _ => ⟨rfl, e241, (by decide : 4 + 0 ≤ _), (by decide : 15 + 0 ≤ _)⟩)
      dsimp only [Pt.U, Pt.locs, Pt.cells, Pt.slots] at X242 l242 y242 z242 st242 hQ242
      replace l242 := l242.symm
      replace y242 := y242.symm
      replace z242 := z242.symm
      subst l242 y242 z242
      obtain ⟨rfl, N242q, e242⟩ := hQ242
      have N242 := Fr.app N241 N242q
      refine Goes.of st242 ?_
      show Goes _ _ _ _ _ _ _ (T242.setTop (mkF m 294 #[.val (.int u0), .val (.int u1), .val (.int u2), .val (.int u3), .val (.int u4), .val (.ref b121), .val (.int qq), .val (.int (3 : Int32)), .val (.ref b212), .val (.int rr), .val (.int (2 : Int32)), .unset] [(.int (1 : Int32))]))
      refine Goes.of (fun t k => XS.ifNo X242.here hx rfl (hb hby at_294) rfl ((if0 _ _).trans (feq (by decide : ¬ ((1 : Int32) = (0 : Int32)))).1) k) ?_
      show Goes _ _ _ _ _ _ _ (T242.setTop (mkF m 297 #[.val (.int u0), .val (.int u1), .val (.int u2), .val (.int u3), .val (.int u4), .val (.ref b121), .val (.int qq), .val (.int (3 : Int32)), .val (.ref b212), .val (.int rr), .val (.int (2 : Int32)), .unset] []))
      refine Goes.of (fun t k => XS.aload X242.here hx rfl (hb hby at_297) rfl rfl k) ?_
      show Goes _ _ _ _ _ _ _ (T242.setTop (mkF m 299 #[.val (.int u0), .val (.int u1), .val (.int u2), .val (.int u3), .val (.int u4), .val (.ref b121), .val (.int qq), .val (.int (3 : Int32)), .val (.ref b212), .val (.int rr), .val (.int (2 : Int32)), .unset] [(.ref b212)]))
      refine Goes.of (fun t k => XS.aload X242.here hx rfl (hb hby at_299) rfl rfl k) ?_
      show Goes _ _ _ _ _ _ _ (T242.setTop (mkF m 301 #[.val (.int u0), .val (.int u1), .val (.int u2), .val (.int u3), .val (.int u4), .val (.ref b121), .val (.int qq), .val (.int (3 : Int32)), .val (.ref b212), .val (.int rr), .val (.int (2 : Int32)), .unset] [(.ref b121), (.ref b212)]))
      refine Goes.of (fun t k => XS.iload X242.here hx rfl (hb hby at_301) rfl k) ?_
      show Goes _ _ _ _ _ _ _ (T242.setTop (mkF m 303 #[.val (.int u0), .val (.int u1), .val (.int u2), .val (.int u3), .val (.int u4), .val (.ref b121), .val (.int qq), .val (.int (3 : Int32)), .val (.ref b212), .val (.int rr), .val (.int (2 : Int32)), .unset] [(.int (2 : Int32)), (.ref b121), (.ref b212)]))
      refine Goes.of (fun t k => XS.iconst X242.here hx rfl (hb hby at_303) k) ?_
      show Goes _ _ _ _ _ _ _ (T242.setTop (mkF m 304 #[.val (.int u0), .val (.int u1), .val (.int u2), .val (.int u3), .val (.int u4), .val (.ref b121), .val (.int qq), .val (.int (3 : Int32)), .val (.ref b212), .val (.int rr), .val (.int (2 : Int32)), .unset] [(.int (2 : Int32)), (.int (2 : Int32)), (.ref b121), (.ref b212)]))
      obtain ⟨_, _, ⟨T243, L243, k243, n243⟩, -, X243, ⟨Lc243, hQ243, l243, y243, z243⟩, st243⟩ := Jvm.LawKit.callS X242 hx (y := (⟨"com/example/slotwright/slotwright/problems/IndexSetRemovePinLaw", "in", "(Lcom/example/slotwright/slotwright/problems/IndexSet;[III)Z"⟩ : MethodName)) hown (mvT hZ (hw _ (List.mem_of_getElem? (i := 48) rfl))) (mvT hZ (hw _ (List.mem_of_getElem? (i := 49) rfl))) (mvT hZ (hw _ (List.mem_of_getElem? (i := 4) rfl))) (mvT hZ (hw _ (List.mem_of_getElem? (i := 50) rfl))) (by decide) (backOf (W := 0) (rm10 l Z a0 hw [] b212 b121 (2 : Int32) (2 : Int32) mm214 pp214 4 Mr Pr (((((0 : Int32) + (1 : Int32)) + (1 : Int32)) + (1 : Int32)) - (1 : Int32)) m4 h229 n0 Z229 F230 F231 F232 F233 F234 F235 ne_b212_mm214 ne_b212_pp214 ne_mm214_pp214 g_b212 g_mm214 g_pp214 V229 ⟨by decide, by decide⟩ (by decide) (own_chk hIr (by decide) (by decide) ⟨by decide, by decide⟩)) hZ (hw _ (List.mem_of_getElem? (i := 50) rfl)) (hw _ (List.mem_of_getElem? (i := 4) rfl)) (by decide) (by decide)) (g := (mkF m 304 #[.val (.int u0), .val (.int u1), .val (.int u2), .val (.int u3), .val (.int u4), .val (.ref b121), .val (.int qq), .val (.int (3 : Int32)), .val (.ref b212), .val (.int rr), .val (.int (2 : Int32)), .unset] [(.int (2 : Int32)), (.int (2 : Int32)), (.ref b121), (.ref b212)])) rfl (by rw [hml]; rfl) (argsL := [(.ref b212), (.ref b121), (.int (2 : Int32)), (.int (2 : Int32))]) (rest := []) (lenOf pd_7 rfl) rfl (by show 2 * 0 + _ ≤ _; exact Nat.le_of_eq rfl) (hb hby at_304) (fun _ _ => ⟨rfl, e242, (by decide : 4 + 0 ≤ _), (by decide : 15 + 0 ≤ _)⟩)
      dsimp only [Pt.U, Pt.locs, Pt.cells, Pt.slots] at X243 l243 y243 z243 st243 hQ243
      replace l243 := l243.symm
      replace y243 := y243.symm
      replace z243 := z243.symm
      subst l243 y243 z243
      obtain ⟨rfl, N243q, e243⟩ := hQ243
      have N243 := Fr.app N242 N243q
      refine Goes.of st243 ?_
      show Goes _ _ _ _ _ _ _ (T243.setTop (mkF m 307 #[.val (.int u0), .val (.int u1), .val (.int u2), .val (.int u3), .val (.int u4), .val (.ref b121), .val (.int qq), .val (.int (3 : Int32)), .val (.ref b212), .val (.int rr), .val (.int (2 : Int32)), .unset] [(.int (1 : Int32))]))
      refine Goes.of (fun t k => XS.ifNo X243.here hx rfl (hb hby at_307) rfl ((if0 _ _).trans (feq (by decide : ¬ ((1 : Int32) = (0 : Int32)))).1) k) ?_
      show Goes _ _ _ _ _ _ _ (T243.setTop (mkF m 310 #[.val (.int u0), .val (.int u1), .val (.int u2), .val (.int u3), .val (.int u4), .val (.ref b121), .val (.int qq), .val (.int (3 : Int32)), .val (.ref b212), .val (.int rr), .val (.int (2 : Int32)), .unset] []))
      refine Goes.of (fun t k => XS.aload X243.here hx rfl (hb hby at_310) rfl rfl k) ?_
      show Goes _ _ _ _ _ _ _ (T243.setTop (mkF m 312 #[.val (.int u0), .val (.int u1), .val (.int u2), .val (.int u3), .val (.int u4), .val (.ref b121), .val (.int qq), .val (.int (3 : Int32)), .val (.ref b212), .val (.int rr), .val (.int (2 : Int32)), .unset] [(.ref b212)]))
      refine Goes.of (fun t k => XS.aload X243.here hx rfl (hb hby at_312) rfl rfl k) ?_
      show Goes _ _ _ _ _ _ _ (T243.setTop (mkF m 314 #[.val (.int u0), .val (.int u1), .val (.int u2), .val (.int u3), .val (.int u4), .val (.ref b121), .val (.int qq), .val (.int (3 : Int32)), .val (.ref b212), .val (.int rr), .val (.int (2 : Int32)), .unset] [(.ref b121), (.ref b212)]))
      refine Goes.of (fun t k => XS.iload X243.here hx rfl (hb hby at_314) rfl k) ?_
      show Goes _ _ _ _ _ _ _ (T243.setTop (mkF m 316 #[.val (.int u0), .val (.int u1), .val (.int u2), .val (.int u3), .val (.int u4), .val (.ref b121), .val (.int qq), .val (.int (3 : Int32)), .val (.ref b212), .val (.int rr), .val (.int (2 : Int32)), .unset] [(.int (2 : Int32)), (.ref b121), (.ref b212)]))
      refine Goes.of (fun t k => XS.iconst X243.here hx rfl (hb hby at_316) k) ?_
      show Goes _ _ _ _ _ _ _ (T243.setTop (mkF m 317 #[.val (.int u0), .val (.int u1), .val (.int u2), .val (.int u3), .val (.int u4), .val (.ref b121), .val (.int qq), .val (.int (3 : Int32)), .val (.ref b212), .val (.int rr), .val (.int (2 : Int32)), .unset] [(.int (3 : Int32)), (.int (2 : Int32)), (.ref b121), (.ref b212)]))
      obtain ⟨_, _, ⟨T244, L244, k244, n244⟩, -, X244, ⟨Lc244, hQ244, l244, y244, z244⟩, st244⟩ := Jvm.LawKit.callS X243 hx (y := (⟨"com/example/slotwright/slotwright/problems/IndexSetRemovePinLaw", "in", "(Lcom/example/slotwright/slotwright/problems/IndexSet;[III)Z"⟩ : MethodName)) hown (mvT hZ (hw _ (List.mem_of_getElem? (i := 48) rfl))) (mvT hZ (hw _ (List.mem_of_getElem? (i := 49) rfl))) (mvT hZ (hw _ (List.mem_of_getElem? (i := 4) rfl))) (mvT hZ (hw _ (List.mem_of_getElem? (i := 50) rfl))) (by decide) (backOf (W := 0) (rm10 l Z a0 hw [] b212 b121 (2 : Int32) (3 : Int32) mm214 pp214 4 Mr Pr (((((0 : Int32) + (1 : Int32)) + (1 : Int32)) + (1 : Int32)) - (1 : Int32)) m4 h229 n0 Z229 F230 F231 F232 F233 F234 F235 ne_b212_mm214 ne_b212_pp214 ne_mm214_pp214 g_b212 g_mm214 g_pp214 V229 ⟨by decide, by decide⟩ (by decide) (own_chk hIr (by decide) (by decide) ⟨by decide, by decide⟩)) hZ (hw _ (List.mem_of_getElem? (i := 50) rfl)) (hw _ (List.mem_of_getElem? (i := 4) rfl)) (by decide) (by decide)) (g := (mkF m 317 #[.val (.int u0), .val (.int u1), .val (.int u2), .val (.int u3), .val (.int u4), .val (.ref b121), .val (.int qq), .val (.int (3 : Int32)), .val (.ref b212), .val (.int rr), .val (.int (2 : Int32)), .unset] [(.int (3 : Int32)), (.int (2 : Int32)), (.ref b121), (.ref b212)])) rfl (by rw [hml]; rfl) (argsL := [(.ref b212), (.ref b121), (.int (2 : Int32)), (.int (3 : Int32))]) (rest := []) (lenOf pd_7 rfl) rfl (by show 2 * 0 + _ ≤ _; exact Nat.le_of_eq rfl) (hb hby at_317) (fun _ _ => ⟨rfl, e243, (by decide : 4 + 0 ≤ _), (by decide : 15 + 0 ≤ _)⟩)
      dsimp only [Pt.U, Pt.locs, Pt.cells, Pt.slots] at X244 l244 y244 z244 st244 hQ244
      replace l244 := l244.symm
      replace y244 := y244.symm
      replace z244 := z244.symm
      subst l244 y244 z244
      obtain ⟨rfl, N244q, e244⟩ := hQ244
      have N244 := Fr.app N243 N244q
      refine Goes.of st244 ?_
      show Goes _ _ _ _ _ _ _ (T244.setTop (mkF m 320 #[.val (.int u0), .val (.int u1), .val (.int u2), .val (.int u3), .val (.int u4), .val (.ref b121), .val (.int qq), .val (.int (3 : Int32)), .val (.ref b212), .val (.int rr), .val (.int (2 : Int32)), .unset] [(.int (1 : Int32))]))
      refine Goes.of (fun t k => XS.ifNo X244.here hx rfl (hb hby at_320) rfl ((if0 _ _).trans (feq (by decide : ¬ ((1 : Int32) = (0 : Int32)))).1) k) ?_
      show Goes _ _ _ _ _ _ _ (T244.setTop (mkF m 323 #[.val (.int u0), .val (.int u1), .val (.int u2), .val (.int u3), .val (.int u4), .val (.ref b121), .val (.int qq), .val (.int (3 : Int32)), .val (.ref b212), .val (.int rr), .val (.int (2 : Int32)), .unset] []))
      refine Goes.of (fun t k => XS.iconst X244.here hx rfl (hb hby at_323) k) ?_
      show Goes _ _ _ _ _ _ _ (T244.setTop (mkF m 324 #[.val (.int u0), .val (.int u1), .val (.int u2), .val (.int u3), .val (.int u4), .val (.ref b121), .val (.int qq), .val (.int (3 : Int32)), .val (.ref b212), .val (.int rr), .val (.int (2 : Int32)), .unset] [(.int (1 : Int32))]))
      refine Goes.of (fun t k => XS.goto X244.here hx rfl (pc0 := 324) (pc' := 328) rfl (hb hby at_324) (by decide) (by decide) k) ?_
      show Goes _ _ _ _ _ _ _ (T244.setTop (mkF m 328 #[.val (.int u0), .val (.int u1), .val (.int u2), .val (.int u3), .val (.int u4), .val (.ref b121), .val (.int qq), .val (.int (3 : Int32)), .val (.ref b212), .val (.int rr), .val (.int (2 : Int32)), .unset] [(.int (1 : Int32))]))
      exact Goes.fin X244 hlk (v := some (.int (1 : Int32))) (fun h => by rw [Bd.returns] at h; cases h) (fun fs hr => retN X244 hx (t := .boolean) Bd.returns (by simp) (hb hby at_328) hr) ⟨rfl, N244⟩ (by decide) (by decide)
    · refine Goes.of (fun t k => XS.ifNo X229.here hx rfl (hb hby at_177) rfl ((if0 _ _).trans (feq hc236).1) k) ?_
      show Goes _ _ _ _ _ _ _ (T229.setTop (mkF m 180 #[.val (.int u0), .val (.int u1), .val (.int u2), .val (.int u3), .val (.int u4), .val (.ref b121), .val (.int qq), .val (.int (3 : Int32)), .val (.ref b212), .val (.int rr), .val (.int (2 : Int32)), .unset] []))
      refine Goes.of (fun t k => XS.iload X229.here hx rfl (hb hby at_180) rfl k) ?_
      show Goes _ _ _ _ _ _ _ (T229.setTop (mkF m 182 #[.val (.int u0), .val (.int u1), .val (.int u2), .val (.int u3), .val (.int u4), .val (.ref b121), .val (.int qq), .val (.int (3 : Int32)), .val (.ref b212), .val (.int rr), .val (.int (2 : Int32)), .unset] [(.int (2 : Int32))]))
      refine Goes.of (fun t k => XS.ifNo X229.here hx rfl (hb hby at_182) rfl ((if0 _ _).trans (tlt (by decide : (0 : Int32) < (2 : Int32))).2.2.2) k) ?_
      show Goes _ _ _ _ _ _ _ (T229.setTop (mkF m 185 #[.val (.int u0), .val (.int u1), .val (.int u2), .val (.int u3), .val (.int u4), .val (.ref b121), .val (.int qq), .val (.int (3 : Int32)), .val (.ref b212), .val (.int rr), .val (.int (2 : Int32)), .unset] []))
      refine Goes.of (fun t k => XS.iloadN X229.here hx rfl (hb hby at_185) rfl k) ?_
      show Goes _ _ _ _ _ _ _ (T229.setTop (mkF m 186 #[.val (.int u0), .val (.int u1), .val (.int u2), .val (.int u3), .val (.int u4), .val (.ref b121), .val (.int qq), .val (.int (3 : Int32)), .val (.ref b212), .val (.int rr), .val (.int (2 : Int32)), .unset] [(.int u3)]))
      refine Goes.of (fun t k => X229.ldcInt hx hown (mvT hZ (hw _ (List.mem_of_getElem? (i := 1) rfl))) (g := (mkF m 186 #[.val (.int u0), .val (.int u1), .val (.int u2), .val (.int u3), .val (.int u4), .val (.ref b121), .val (.int qq), .val (.int (3 : Int32)), .val (.ref b212), .val (.int rr), .val (.int (2 : Int32)), .unset] [(.int u3)])) rfl (hb hby at_186) t k) ?_
      show Goes _ _ _ _ _ _ _ (T229.setTop (mkF m 188 #[.val (.int u0), .val (.int u1), .val (.int u2), .val (.int u3), .val (.int u4), .val (.ref b121), .val (.int qq), .val (.int (3 : Int32)), .val (.ref b212), .val (.int rr), .val (.int (2 : Int32)), .unset] [(.int (2147483647 : Int32)), (.int u3)]))
      refine Goes.of (fun t k => XS.iand X229.here hx rfl (hb hby at_188) rfl k) ?_
      show Goes _ _ _ _ _ _ _ (T229.setTop (mkF m 189 #[.val (.int u0), .val (.int u1), .val (.int u2), .val (.int u3), .val (.int u4), .val (.ref b121), .val (.int qq), .val (.int (3 : Int32)), .val (.ref b212), .val (.int rr), .val (.int (2 : Int32)), .unset] [(.int (u3 &&& (2147483647 : Int32)))]))
      refine Goes.of (fun t k => XS.iload X229.here hx rfl (hb hby at_189) rfl k) ?_
      show Goes _ _ _ _ _ _ _ (T229.setTop (mkF m 191 #[.val (.int u0), .val (.int u1), .val (.int u2), .val (.int u3), .val (.int u4), .val (.ref b121), .val (.int qq), .val (.int (3 : Int32)), .val (.ref b212), .val (.int rr), .val (.int (2 : Int32)), .unset] [(.int (2 : Int32)), (.int (u3 &&& (2147483647 : Int32)))]))
      refine Goes.of (fun t k => iremM X229 hx (g := (mkF m 191 #[.val (.int u0), .val (.int u1), .val (.int u2), .val (.int u3), .val (.int u4), .val (.ref b121), .val (.int qq), .val (.int (3 : Int32)), .val (.ref b212), .val (.int rr), .val (.int (2 : Int32)), .unset] [(.int (2 : Int32)), (.int (u3 &&& (2147483647 : Int32)))])) rfl (hb hby at_191) rfl (by decide) k) ?_
      show Goes _ _ _ _ _ _ _ (T229.setTop (mkF m 192 #[.val (.int u0), .val (.int u1), .val (.int u2), .val (.int u3), .val (.int u4), .val (.ref b121), .val (.int qq), .val (.int (3 : Int32)), .val (.ref b212), .val (.int rr), .val (.int (2 : Int32)), .unset] [(.int ((u3 &&& (2147483647 : Int32)) % (2 : Int32)))]))
      refine Goes.of (fun t k => XS.istore X229.here hx rfl (hb hby at_192) rfl (l' := #[.val (.int u0), .val (.int u1), .val (.int u2), .val (.int u3), .val (.int u4), .val (.ref b121), .val (.int qq), .val (.int (3 : Int32)), .val (.ref b212), .val (.int rr), .val (.int (2 : Int32)), .val (.int ((u3 &&& (2147483647 : Int32)) % (2 : Int32)))]) rfl k) ?_
      show Goes _ _ _ _ _ _ _ (T229.setTop (mkF m 194 #[.val (.int u0), .val (.int u1), .val (.int u2), .val (.int u3), .val (.int u4), .val (.ref b121), .val (.int qq), .val (.int (3 : Int32)), .val (.ref b212), .val (.int rr), .val (.int (2 : Int32)), .val (.int ((u3 &&& (2147483647 : Int32)) % (2 : Int32)))] []))
      obtain ⟨ss, hy_ss⟩ : ∃ z, z = ((u3 &&& (2147483647 : Int32)) % (2 : Int32)) := ⟨_, rfl⟩
      rw [← hy_ss]
      show Goes _ _ _ _ _ _ _ (T229.setTop (mkF m 194 #[.val (.int u0), .val (.int u1), .val (.int u2), .val (.int u3), .val (.int u4), .val (.ref b121), .val (.int qq), .val (.int (3 : Int32)), .val (.ref b212), .val (.int rr), .val (.int (2 : Int32)), .val (.int ss)] []))
      have h_ss := own_rem u3 (2 : Int32) (by decide)
      rw [← hy_ss, show (2 : Int32).toInt = 2 from rfl] at h_ss
      have hn_ss := nat_of (own_nn h_ss.1)
      refine Goes.of (fun t k => XS.aload X229.here hx rfl (hb hby at_194) rfl rfl k) ?_
      show Goes _ _ _ _ _ _ _ (T229.setTop (mkF m 196 #[.val (.int u0), .val (.int u1), .val (.int u2), .val (.int u3), .val (.int u4), .val (.ref b121), .val (.int qq), .val (.int (3 : Int32)), .val (.ref b212), .val (.int rr), .val (.int (2 : Int32)), .val (.int ss)] [(.ref b212)]))
      refine Goes.of (fun t k => XS.aload X229.here hx rfl (hb hby at_196) rfl rfl k) ?_
      show Goes _ _ _ _ _ _ _ (T229.setTop (mkF m 198 #[.val (.int u0), .val (.int u1), .val (.int u2), .val (.int u3), .val (.int u4), .val (.ref b121), .val (.int qq), .val (.int (3 : Int32)), .val (.ref b212), .val (.int rr), .val (.int (2 : Int32)), .val (.int ss)] [(.ref b121), (.ref b212)]))
      refine Goes.of (fun t k => XS.iload X229.here hx rfl (hb hby at_198) rfl k) ?_
      show Goes _ _ _ _ _ _ _ (T229.setTop (mkF m 200 #[.val (.int u0), .val (.int u1), .val (.int u2), .val (.int u3), .val (.int u4), .val (.ref b121), .val (.int qq), .val (.int (3 : Int32)), .val (.ref b212), .val (.int rr), .val (.int (2 : Int32)), .val (.int ss)] [(.int ss), (.ref b121), (.ref b212)]))
      refine Goes.of (fun t k => ldI X229 hx hZ e229 V229 (j := ss) (i := ss.toNatClampNeg) (v := (m4 ss.toNatClampNeg)) (own_nn h_ss.1) rfl (by omega) rfl (g := (mkF m 200 #[.val (.int u0), .val (.int u1), .val (.int u2), .val (.int u3), .val (.int u4), .val (.ref b121), .val (.int qq), .val (.int (3 : Int32)), .val (.ref b212), .val (.int rr), .val (.int (2 : Int32)), .val (.int ss)] [(.int ss), (.ref b121), (.ref b212)])) rfl rfl (hb hby at_200) t k) ?_
      show Goes _ _ _ _ _ _ _ (T229.setTop (mkF m 201 #[.val (.int u0), .val (.int u1), .val (.int u2), .val (.int u3), .val (.int u4), .val (.ref b121), .val (.int qq), .val (.int (3 : Int32)), .val (.ref b212), .val (.int rr), .val (.int (2 : Int32)), .val (.int ss)] [(.int (m4 ss.toNatClampNeg)), (.ref b212)]))
      obtain ⟨cq245, kq245, q245a, q245b, q245c⟩ := isOf hZ e229 F230
      obtain ⟨_, _, ⟨T245, L245, k245, n245⟩, -, X245, ⟨Lc245, hQ245, l245, y245, z245⟩, st245⟩ := X229.virtualBack hx (y := (⟨"com/example/slotwright/slotwright/problems/IndexSet", "remove", "(I)V"⟩ : MethodName)) (z := (⟨"com/example/slotwright/slotwright/problems/IndexSet", "remove", "(I)V"⟩ : MethodName)) hown (mvT hZ (hw _ (List.mem_of_getElem? (i := 30) rfl))) (mvT hZ (hw _ (List.mem_of_getElem? (i := 31) rfl))) (notFace_of_selects (args := #[]) (mvT hZ (hw _ (List.mem_of_getElem? (i := 33) rfl)))) (mvT hZ (hw _ (List.mem_of_getElem? (i := 33) rfl))) (mvT hZ (hw _ (List.mem_of_getElem? (i := 32) rfl))) (by decide) (backOf (W := 0) (rm6 l Z a0 hw [] b212 (m4 ss.toNatClampNeg) mm214 pp214 4 Mr Pr (((((0 : Int32) + (1 : Int32)) + (1 : Int32)) + (1 : Int32)) - (1 : Int32)) h229 n0 Z229 F230 F231 F232 F233 F234 F235 ne_b212_mm214 ne_b212_pp214 ne_mm214_pp214 g_b212 g_mm214 g_pp214 ⟨by decide, by decide⟩ (hIr.1 _ (by omega)) (by rw [hIr.2.2.2.1 _ (by omega), len_toInt (by omega)]; omega) (by have hlk := hIr.2.2.1 1 (by decide); have hlr := hIr.1 1 (by decide); rw [← hlk] at hlr; exact hlr)) hZ (hw _ (List.mem_of_getElem? (i := 34) rfl)) (hw _ (List.mem_of_getElem? (i := 8) rfl)) (by decide) (by decide)) q245a q245c (g := (mkF m 201 #[.val (.int u0), .val (.int u1), .val (.int u2), .val (.int u3), .val (.int u4), .val (.ref b121), .val (.int qq), .val (.int (3 : Int32)), .val (.ref b212), .val (.int rr), .val (.int (2 : Int32)), .val (.int ss)] [(.int (m4 ss.toNatClampNeg)), (.ref b212)])) rfl (by rw [hml]; rfl) (Steps.refl _) (argsL := [(.int (m4 ss.toNatClampNeg))]) (rest := []) (lenOf pd_5 rfl) rfl (by show 2 * 0 + _ ≤ _; exact Nat.le_of_eq rfl) (hb hby at_201) (fun _ _ => ⟨rfl, e229, (by decide : 4 + 0 ≤ _), (by decide : 15 + 0 ≤ _)⟩)
      dsimp only [Pt.U, Pt.locs, Pt.cells, Pt.slots] at X245 l245 y245 z245 st245 hQ245
      replace l245 := l245.symm
      replace y245 := y245.symm
      replace z245 := z245.symm
      subst l245 y245 z245
      obtain ⟨rfl, N245q, K245, Eo245, Fm245, Fp245, Fs245, Vm245, Vp245⟩ := hQ245
      have F246 := V229.keep K245 (ninS ne_b121_b212 (ninS ne_b121_mm214 (ninS ne_b121_pp214 nin0)))
      have F247 := F230.keep K245
      have Z245 : n0 ≤ T245.heap.size := Nat.le_trans Z229 K245.1
      have N245 := Fr.app N229 N245q
      refine Goes.of (fun t k => st245.trans k) ?_
      show Goes _ _ _ _ _ _ _ (T245.setTop (mkF m 204 #[.val (.int u0), .val (.int u1), .val (.int u2), .val (.int u3), .val (.int u4), .val (.ref b121), .val (.int qq), .val (.int (3 : Int32)), .val (.ref b212), .val (.int rr), .val (.int (2 : Int32)), .val (.int ss)] []))
      refine Goes.of (fun t k => XS.aload X245.here hx rfl (hb hby at_204) rfl rfl k) ?_
      show Goes _ _ _ _ _ _ _ (T245.setTop (mkF m 206 #[.val (.int u0), .val (.int u1), .val (.int u2), .val (.int u3), .val (.int u4), .val (.ref b121), .val (.int qq), .val (.int (3 : Int32)), .val (.ref b212), .val (.int rr), .val (.int (2 : Int32)), .val (.int ss)] [(.ref b121)]))
      refine Goes.of (fun t k => XS.iload X245.here hx rfl (hb hby at_206) rfl k) ?_
      show Goes _ _ _ _ _ _ _ (T245.setTop (mkF m 208 #[.val (.int u0), .val (.int u1), .val (.int u2), .val (.int u3), .val (.int u4), .val (.ref b121), .val (.int qq), .val (.int (3 : Int32)), .val (.ref b212), .val (.int rr), .val (.int (2 : Int32)), .val (.int ss)] [(.int ss), (.ref b121)]))
      refine Goes.of (fun t k => XS.aload X245.here hx rfl (hb hby at_208) rfl rfl k) ?_
      show Goes _ _ _ _ _ _ _ (T245.setTop (mkF m 210 #[.val (.int u0), .val (.int u1), .val (.int u2), .val (.int u3), .val (.int u4), .val (.ref b121), .val (.int qq), .val (.int (3 : Int32)), .val (.ref b212), .val (.int rr), .val (.int (2 : Int32)), .val (.int ss)] [(.ref b121), (.int ss), (.ref b121)]))
      refine Goes.of (fun t k => XS.iload X245.here hx rfl (hb hby at_210) rfl k) ?_
      show Goes _ _ _ _ _ _ _ (T245.setTop (mkF m 212 #[.val (.int u0), .val (.int u1), .val (.int u2), .val (.int u3), .val (.int u4), .val (.ref b121), .val (.int qq), .val (.int (3 : Int32)), .val (.ref b212), .val (.int rr), .val (.int (2 : Int32)), .val (.int ss)] [(.int (2 : Int32)), (.ref b121), (.int ss), (.ref b121)]))
      refine Goes.of (fun t k => XS.iconst X245.here hx rfl (hb hby at_212) k) ?_
      show Goes _ _ _ _ _ _ _ (T245.setTop (mkF m 213 #[.val (.int u0), .val (.int u1), .val (.int u2), .val (.int u3), .val (.int u4), .val (.ref b121), .val (.int qq), .val (.int (3 : Int32)), .val (.ref b212), .val (.int rr), .val (.int (2 : Int32)), .val (.int ss)] [(.int (1 : Int32)), (.int (2 : Int32)), (.ref b121), (.int ss), (.ref b121)]))
      refine Goes.of (fun t k => XS.isub X245.here hx rfl (hb hby at_213) rfl k) ?_
      show Goes _ _ _ _ _ _ _ (T245.setTop (mkF m 214 #[.val (.int u0), .val (.int u1), .val (.int u2), .val (.int u3), .val (.int u4), .val (.ref b121), .val (.int qq), .val (.int (3 : Int32)), .val (.ref b212), .val (.int rr), .val (.int (2 : Int32)), .val (.int ss)] [(.int (1 : Int32)), (.ref b121), (.int ss), (.ref b121)]))
      refine Goes.of (fun t k => ldI X245 hx hZ rfl F246 (j := (1 : Int32)) (i := 1) (v := (m4 1)) (by decide) (by decide) (by decide) rfl (g := (mkF m 214 #[.val (.int u0), .val (.int u1), .val (.int u2), .val (.int u3), .val (.int u4), .val (.ref b121), .val (.int qq), .val (.int (3 : Int32)), .val (.ref b212), .val (.int rr), .val (.int (2 : Int32)), .val (.int ss)] [(.int (1 : Int32)), (.ref b121), (.int ss), (.ref b121)])) rfl rfl (hb hby at_214) t k) ?_
      show Goes _ _ _ _ _ _ _ (T245.setTop (mkF m 215 #[.val (.int u0), .val (.int u1), .val (.int u2), .val (.int u3), .val (.int u4), .val (.ref b121), .val (.int qq), .val (.int (3 : Int32)), .val (.ref b212), .val (.int rr), .val (.int (2 : Int32)), .val (.int ss)] [(.int (m4 1)), (.int ss), (.ref b121)]))
      obtain ⟨T248, h248, X248, e248, W248, V248, st248⟩ := putI X245 hx hZ rfl F246 (j := ss) (x := (m4 1)) (i := ss.toNatClampNeg) (own_nn h_ss.1) rfl (by omega) (g := (mkF m 215 #[.val (.int u0), .val (.int u1), .val (.int u2), .val (.int u3), .val (.int u4), .val (.ref b121), .val (.int qq), .val (.int (3 : Int32)), .val (.ref b212), .val (.int rr), .val (.int (2 : Int32)), .val (.int ss)] [(.int (m4 1)), (.int ss), (.ref b121)])) rfl rfl (hb hby at_215)
      have F249 := Exa.wr W248 Eo245
      have F250 := Fld.other W248 Fm245 (Or.inl (Ne.symm ne_b121_b212))
      have F251 := Fld.other W248 Fp245 (Or.inl (Ne.symm ne_b121_b212))
      have F252 := Fld.other W248 Fs245 (Or.inl (Ne.symm ne_b121_b212))
      have F253 := Vm245.other W248 (Ne.symm ne_b121_mm214)
      have F254 := Vp245.other W248 (Ne.symm ne_b121_pp214)
      have Z248 : n0 ≤ h248.size := Nat.le_trans Z245 (Keep.of_wr W248).1
      have N248 := Fr.snoc X248 N245 g_b121
      refine Goes.of st248 ?_
      show Goes _ _ _ _ _ _ _ (T248.setTop (mkF m 216 #[.val (.int u0), .val (.int u1), .val (.int u2), .val (.int u3), .val (.int u4), .val (.ref b121), .val (.int qq), .val (.int (3 : Int32)), .val (.ref b212), .val (.int rr), .val (.int (2 : Int32)), .val (.int ss)] []))
      obtain ⟨m5, hf_m5⟩ : ∃ f : Nat → Int32, f = (upd m4 ss.toNatClampNeg (m4 1)) := ⟨_, rfl⟩
      rw [← hf_m5] at V248
      obtain ⟨Ms, hf_Ms⟩ : ∃ f : Nat → Int32, f = (upd Mr (Pr (m4 ss.toNatClampNeg).toNatClampNeg).toNatClampNeg (Mr ((((((0 : Int32) + (1 : Int32)) + (1 : Int32)) + (1 : Int32)) - (1 : Int32)) - (1 : Int32)).toNatClampNeg)) := ⟨_, rfl⟩
      rw [← hf_Ms] at F253
      obtain ⟨Ps, hf_Ps⟩ : ∃ f : Nat → Int32, f = (upd (upd Pr (Mr ((((((0 : Int32) + (1 : Int32)) + (1 : Int32)) + (1 : Int32)) - (1 : Int32)) - (1 : Int32)).toNatClampNeg).toNatClampNeg (Pr (m4 ss.toNatClampNeg).toNatClampNeg)) (m4 ss.toNatClampNeg).toNatClampNeg (-1 : Int32)) := ⟨_, rfl⟩
      rw [← hf_Ps] at F254
      have hIs : own_Inv m5 Ms Ps 1 := by rw [hf_m5, hf_Ms, hf_Ps]; exact own_rm (k := 1) (r := ss.toNatClampNeg) hIr (by decide) (by omega) rfl rfl
      refine Goes.of (fun t k => XS.iload X248.here hx rfl (hb hby at_216) rfl k) ?_
      show Goes _ _ _ _ _ _ _ (T248.setTop (mkF m 218 #[.val (.int u0), .val (.int u1), .val (.int u2), .val (.int u3), .val (.int u4), .val (.ref b121), .val (.int qq), .val (.int (3 : Int32)), .val (.ref b212), .val (.int rr), .val (.int (2 : Int32)), .val (.int ss)] [(.int (2 : Int32))]))
      refine Goes.of (fun t k => XS.iconst X248.here hx rfl (hb hby at_218) k) ?_
      show Goes _ _ _ _ _ _ _ (T248.setTop (mkF m 219 #[.val (.int u0), .val (.int u1), .val (.int u2), .val (.int u3), .val (.int u4), .val (.ref b121), .val (.int qq), .val (.int (3 : Int32)), .val (.ref b212), .val (.int rr), .val (.int (2 : Int32)), .val (.int ss)] [(.int (1 : Int32)), (.int (2 : Int32))]))
      refine Goes.of (fun t k => XS.isub X248.here hx rfl (hb hby at_219) rfl k) ?_
      show Goes _ _ _ _ _ _ _ (T248.setTop (mkF m 220 #[.val (.int u0), .val (.int u1), .val (.int u2), .val (.int u3), .val (.int u4), .val (.ref b121), .val (.int qq), .val (.int (3 : Int32)), .val (.ref b212), .val (.int rr), .val (.int (2 : Int32)), .val (.int ss)] [(.int (1 : Int32))]))
      refine Goes.of (fun t k => XS.istore X248.here hx rfl (hb hby at_220) rfl (l' := #[.val (.int u0), .val (.int u1), .val (.int u2), .val (.int u3), .val (.int u4), .val (.ref b121), .val (.int qq), .val (.int (3 : Int32)), .val (.ref b212), .val (.int rr), .val (.int (1 : Int32)), .val (.int ss)]) rfl k) ?_
      show Goes _ _ _ _ _ _ _ (T248.setTop (mkF m 222 #[.val (.int u0), .val (.int u1), .val (.int u2), .val (.int u3), .val (.int u4), .val (.ref b121), .val (.int qq), .val (.int (3 : Int32)), .val (.ref b212), .val (.int rr), .val (.int (1 : Int32)), .val (.int ss)] []))
      refine Goes.of (fun t k => XS.aload X248.here hx rfl (hb hby at_222) rfl rfl k) ?_
      show Goes _ _ _ _ _ _ _ (T248.setTop (mkF m 224 #[.val (.int u0), .val (.int u1), .val (.int u2), .val (.int u3), .val (.int u4), .val (.ref b121), .val (.int qq), .val (.int (3 : Int32)), .val (.ref b212), .val (.int rr), .val (.int (1 : Int32)), .val (.int ss)] [(.ref b212)]))
      obtain ⟨cq255, kq255, q255a, q255b, q255c⟩ := isOf hZ e248 F249
      obtain ⟨_, _, ⟨T255, L255, k255, n255⟩, -, X255, ⟨Lc255, hQ255, l255, y255, z255⟩, st255⟩ := X248.virtualBack hx (y := (⟨"com/example/slotwright/slotwright/problems/IndexSet", "size", "()I"⟩ : MethodName)) (z := (⟨"com/example/slotwright/slotwright/problems/IndexSet", "size", "()I"⟩ : MethodName)) hown (mvT hZ (hw _ (List.mem_of_getElem? (i := 35) rfl))) (mvT hZ (hw _ (List.mem_of_getElem? (i := 36) rfl))) (notFace_of_selects (args := #[]) (mvT hZ (hw _ (List.mem_of_getElem? (i := 38) rfl)))) (mvT hZ (hw _ (List.mem_of_getElem? (i := 38) rfl))) (mvT hZ (hw _ (List.mem_of_getElem? (i := 37) rfl))) (by decide) (backOf (W := 0) (rm7 l Z a0 hw [] b212 mm214 pp214 4 Ms Ps ((((((0 : Int32) + (1 : Int32)) + (1 : Int32)) + (1 : Int32)) - (1 : Int32)) - (1 : Int32)) h248 n0 Z248 F249 F250 F251 F252 F253 F254 ne_b212_mm214 ne_b212_pp214 ne_mm214_pp214 g_b212 g_mm214 g_pp214) hZ (hw _ (List.mem_of_getElem? (i := 39) rfl)) (hw _ (List.mem_of_getElem? (i := 8) rfl)) (by decide) (by decide)) q255a q255c (g := (mkF m 224 #[.val (.int u0), .val (.int u1), .val (.int u2), .val (.int u3), .val (.int u4), .val (.ref b121), .val (.int qq), .val (.int (3 : Int32)), .val (.ref b212), .val (.int rr), .val (.int (1 : Int32)), .val (.int ss)] [(.ref b212)])) rfl (by rw [hml]; rfl) (Steps.refl _) (argsL := []) (rest := []) (lenOf pd_6 rfl) rfl (by show 2 * 0 + _ ≤ _; exact Nat.le_of_eq rfl) (hb hby at_224) (fun _ _ => ⟨rfl, e248, (by decide : 4 + 0 ≤ _), (by decide : 15 + 0 ≤ _)⟩)
      dsimp only [Pt.U, Pt.locs, Pt.cells, Pt.slots] at X255 l255 y255 z255 st255 hQ255
      replace l255 := l255.symm
      replace y255 := y255.symm
      replace z255 := z255.symm
      subst l255 y255 z255
      obtain ⟨rfl, N255q, e255⟩ := hQ255
      have N255 := Fr.app N248 N255q
      refine Goes.of (fun t k => st255.trans k) ?_
      show Goes _ _ _ _ _ _ _ (T255.setTop (mkF m 227 #[.val (.int u0), .val (.int u1), .val (.int u2), .val (.int u3), .val (.int u4), .val (.ref b121), .val (.int qq), .val (.int (3 : Int32)), .val (.ref b212), .val (.int rr), .val (.int (1 : Int32)), .val (.int ss)] [(.int ((((((0 : Int32) + (1 : Int32)) + (1 : Int32)) + (1 : Int32)) - (1 : Int32)) - (1 : Int32)))]))
      refine Goes.of (fun t k => XS.iload X255.here hx rfl (hb hby at_227) rfl k) ?_
      show Goes _ _ _ _ _ _ _ (T255.setTop (mkF m 229 #[.val (.int u0), .val (.int u1), .val (.int u2), .val (.int u3), .val (.int u4), .val (.ref b121), .val (.int qq), .val (.int (3 : Int32)), .val (.ref b212), .val (.int rr), .val (.int (1 : Int32)), .val (.int ss)] [(.int (1 : Int32)), (.int ((((((0 : Int32) + (1 : Int32)) + (1 : Int32)) + (1 : Int32)) - (1 : Int32)) - (1 : Int32)))]))
      refine Goes.of (fun t k => XS.icmpNo X255.here hx rfl (hb hby at_229) rfl (teq (by decide)).2 k) ?_
      show Goes _ _ _ _ _ _ _ (T255.setTop (mkF m 232 #[.val (.int u0), .val (.int u1), .val (.int u2), .val (.int u3), .val (.int u4), .val (.ref b121), .val (.int qq), .val (.int (3 : Int32)), .val (.ref b212), .val (.int rr), .val (.int (1 : Int32)), .val (.int ss)] []))
      refine Goes.of (fun t k => XS.aload X255.here hx rfl (hb hby at_232) rfl rfl k) ?_
      show Goes _ _ _ _ _ _ _ (T255.setTop (mkF m 234 #[.val (.int u0), .val (.int u1), .val (.int u2), .val (.int u3), .val (.int u4), .val (.ref b121), .val (.int qq), .val (.int (3 : Int32)), .val (.ref b212), .val (.int rr), .val (.int (1 : Int32)), .val (.int ss)] [(.ref b212)]))
      refine Goes.of (fun t k => XS.aload X255.here hx rfl (hb hby at_234) rfl rfl k) ?_
      show Goes _ _ _ _ _ _ _ (T255.setTop (mkF m 236 #[.val (.int u0), .val (.int u1), .val (.int u2), .val (.int u3), .val (.int u4), .val (.ref b121), .val (.int qq), .val (.int (3 : Int32)), .val (.ref b212), .val (.int rr), .val (.int (1 : Int32)), .val (.int ss)] [(.ref b121), (.ref b212)]))
      refine Goes.of (fun t k => XS.iload X255.here hx rfl (hb hby at_236) rfl k) ?_
      show Goes _ _ _ _ _ _ _ (T255.setTop (mkF m 238 #[.val (.int u0), .val (.int u1), .val (.int u2), .val (.int u3), .val (.int u4), .val (.ref b121), .val (.int qq), .val (.int (3 : Int32)), .val (.ref b212), .val (.int rr), .val (.int (1 : Int32)), .val (.int ss)] [(.int (1 : Int32)), (.ref b121), (.ref b212)]))
      refine Goes.of (fun t k => XS.iconst X255.here hx rfl (hb hby at_238) k) ?_
      show Goes _ _ _ _ _ _ _ (T255.setTop (mkF m 239 #[.val (.int u0), .val (.int u1), .val (.int u2), .val (.int u3), .val (.int u4), .val (.ref b121), .val (.int qq), .val (.int (3 : Int32)), .val (.ref b212), .val (.int rr), .val (.int (1 : Int32)), .val (.int ss)] [(.int (0 : Int32)), (.int (1 : Int32)), (.ref b121), (.ref b212)]))
      obtain ⟨_, _, ⟨T256, L256, k256, n256⟩, -, X256, ⟨Lc256, hQ256, l256, y256, z256⟩, st256⟩ := Jvm.LawKit.callS X255 hx (y := (⟨"com/example/slotwright/slotwright/problems/IndexSetRemovePinLaw", "at", "(Lcom/example/slotwright/slotwright/problems/IndexSet;[III)Z"⟩ : MethodName)) hown (mvT hZ (hw _ (List.mem_of_getElem? (i := 40) rfl))) (mvT hZ (hw _ (List.mem_of_getElem? (i := 41) rfl))) (mvT hZ (hw _ (List.mem_of_getElem? (i := 4) rfl))) (mvT hZ (hw _ (List.mem_of_getElem? (i := 42) rfl))) (by decide) (backOf (W := 0) (rm8 l Z a0 hw [] b212 b121 (1 : Int32) (0 : Int32) mm214 pp214 4 Ms Ps ((((((0 : Int32) + (1 : Int32)) + (1 : Int32)) + (1 : Int32)) - (1 : Int32)) - (1 : Int32)) m5 h248 n0 Z248 F249 F250 F251 F252 F253 F254 ne_b212_mm214 ne_b212_pp214 ne_mm214_pp214 g_b212 g_mm214 g_pp214 V248 (by decide) (by decide) (fun q => hIs.2.2.1 0 (by decide))) hZ (hw _ (List.mem_of_getElem? (i := 42) rfl)) (hw _ (List.mem_of_getElem? (i := 4) rfl)) (by decide) (by decide)) (g := (mkF m 239 #[.val (.int u0), .val (.int u1), .val (.int u2), .val (.int u3), .val (.int u4), .val (.ref b121), .val (.int qq), .val (.int (3 : Int32)), .val (.ref b212), .val (.int rr), .val (.int (1 : Int32)), .val (.int ss)] [(.int (0 : Int32)), (.int (1 : Int32)), (.ref b121), (.ref b212)])) rfl (by rw [hml]; rfl) (argsL := [(.ref b212), (.ref b121), (.int (1 : Int32)), (.int (0 : Int32))]) (rest := []) (lenOf pd_7 rfl) rfl (by show 2 * 0 + _ ≤ _; exact Nat.le_of_eq rfl) (hb hby at_239) (fun _ _ => ⟨rfl, e255, (by decide : 4 + 0 ≤ _), (by decide : 15 + 0 ≤ _)⟩)
      dsimp only [Pt.U, Pt.locs, Pt.cells, Pt.slots] at X256 l256 y256 z256 st256 hQ256
      replace l256 := l256.symm
      replace y256 := y256.symm
      replace z256 := z256.symm
      subst l256 y256 z256
      obtain ⟨rfl, N256q, e256⟩ := hQ256
      have N256 := Fr.app N255 N256q
      refine Goes.of st256 ?_
      show Goes _ _ _ _ _ _ _ (T256.setTop (mkF m 242 #[.val (.int u0), .val (.int u1), .val (.int u2), .val (.int u3), .val (.int u4), .val (.ref b121), .val (.int qq), .val (.int (3 : Int32)), .val (.ref b212), .val (.int rr), .val (.int (1 : Int32)), .val (.int ss)] [(.int (1 : Int32))]))
      refine Goes.of (fun t k => XS.ifNo X256.here hx rfl (hb hby at_242) rfl ((if0 _ _).trans (feq (by decide : ¬ ((1 : Int32) = (0 : Int32)))).1) k) ?_
      show Goes _ _ _ _ _ _ _ (T256.setTop (mkF m 245 #[.val (.int u0), .val (.int u1), .val (.int u2), .val (.int u3), .val (.int u4), .val (.ref b121), .val (.int qq), .val (.int (3 : Int32)), .val (.ref b212), .val (.int rr), .val (.int (1 : Int32)), .val (.int ss)] []))
      refine Goes.of (fun t k => XS.aload X256.here hx rfl (hb hby at_245) rfl rfl k) ?_
      show Goes _ _ _ _ _ _ _ (T256.setTop (mkF m 247 #[.val (.int u0), .val (.int u1), .val (.int u2), .val (.int u3), .val (.int u4), .val (.ref b121), .val (.int qq), .val (.int (3 : Int32)), .val (.ref b212), .val (.int rr), .val (.int (1 : Int32)), .val (.int ss)] [(.ref b212)]))
      refine Goes.of (fun t k => XS.aload X256.here hx rfl (hb hby at_247) rfl rfl k) ?_
      show Goes _ _ _ _ _ _ _ (T256.setTop (mkF m 249 #[.val (.int u0), .val (.int u1), .val (.int u2), .val (.int u3), .val (.int u4), .val (.ref b121), .val (.int qq), .val (.int (3 : Int32)), .val (.ref b212), .val (.int rr), .val (.int (1 : Int32)), .val (.int ss)] [(.ref b121), (.ref b212)]))
      refine Goes.of (fun t k => XS.iload X256.here hx rfl (hb hby at_249) rfl k) ?_
      show Goes _ _ _ _ _ _ _ (T256.setTop (mkF m 251 #[.val (.int u0), .val (.int u1), .val (.int u2), .val (.int u3), .val (.int u4), .val (.ref b121), .val (.int qq), .val (.int (3 : Int32)), .val (.ref b212), .val (.int rr), .val (.int (1 : Int32)), .val (.int ss)] [(.int (1 : Int32)), (.ref b121), (.ref b212)]))
      refine Goes.of (fun t k => XS.iconst X256.here hx rfl (hb hby at_251) k) ?_
      show Goes _ _ _ _ _ _ _ (T256.setTop (mkF m 252 #[.val (.int u0), .val (.int u1), .val (.int u2), .val (.int u3), .val (.int u4), .val (.ref b121), .val (.int qq), .val (.int (3 : Int32)), .val (.ref b212), .val (.int rr), .val (.int (1 : Int32)), .val (.int ss)] [(.int (1 : Int32)), (.int (1 : Int32)), (.ref b121), (.ref b212)]))
      obtain ⟨_, _, ⟨T257, L257, k257, n257⟩, -, X257, ⟨Lc257, hQ257, l257, y257, z257⟩, st257⟩ := Jvm.LawKit.callS X256 hx (y := (⟨"com/example/slotwright/slotwright/problems/IndexSetRemovePinLaw", "at", "(Lcom/example/slotwright/slotwright/problems/IndexSet;[III)Z"⟩ : MethodName)) hown (mvT hZ (hw _ (List.mem_of_getElem? (i := 40) rfl))) (mvT hZ (hw _ (List.mem_of_getElem? (i := 41) rfl))) (mvT hZ (hw _ (List.mem_of_getElem? (i := 4) rfl))) (mvT hZ (hw _ (List.mem_of_getElem? (i := 42) rfl))) (by decide) (backOf (W := 0) (rm8 l Z a0 hw [] b212 b121 (1 : Int32) (1 : Int32) mm214 pp214 4 Ms Ps ((((((0 : Int32) + (1 : Int32)) + (1 : Int32)) + (1 : Int32)) - (1 : Int32)) - (1 : Int32)) m5 h248 n0 Z248 F249 F250 F251 F252 F253 F254 ne_b212_mm214 ne_b212_pp214 ne_mm214_pp214 g_b212 g_mm214 g_pp214 V248 (by decide) (by decide) (fun q => absurd q (by decide))) hZ (hw _ (List.mem_of_getElem? (i := 42) rfl)) (hw _ (List.mem_of_getElem? (i := 4) rfl)) (by decide) (by decide)) (g := (mkF m 252 #[.val (.int u0), .val (.int u1), .val (.int u2), .val (.int u3), .val (.int u4), .val (.ref b121), .val (.int qq), .val (.int (3 : Int32)), .val (.ref b212), .val (.int rr), .val (.int (1 : Int32)), .val (.int ss)] [(.int (1 : Int32)), (.int (1 : Int32)), (.ref b121), (.ref b212)])) rfl (by rw [hml]; rfl) (argsL := [(.ref b212), (.ref b121), (.int (1 : Int32)), (.int (1 : Int32))]) (rest := []) (lenOf pd_7 rfl) rfl (by show 2 * 0 + _ ≤ _; exact Nat.le_of_eq rfl) (hb hby at_252) (fun _ _ => ⟨rfl, e256, (by decide : 4 + 0 ≤ _), (by decide : 15 + 0 ≤ _)⟩)
      dsimp only [Pt.U, Pt.locs, Pt.cells, Pt.slots] at X257 l257 y257 z257 st257 hQ257
      replace l257 := l257.symm
      replace y257 := y257.symm
      replace z257 := z257.symm
      subst l257 y257 z257
      obtain ⟨rfl, N257q, e257⟩ := hQ257
      have N257 := Fr.app N256 N257q
      refine Goes.of st257 ?_
      show Goes _ _ _ _ _ _ _ (T257.setTop (mkF m 255 #[.val (.int u0), .val (.int u1), .val (.int u2), .val (.int u3), .val (.int u4), .val (.ref b121), .val (.int qq), .val (.int (3 : Int32)), .val (.ref b212), .val (.int rr), .val (.int (1 : Int32)), .val (.int ss)] [(.int (1 : Int32))]))
      refine Goes.of (fun t k => XS.ifNo X257.here hx rfl (hb hby at_255) rfl ((if0 _ _).trans (feq (by decide : ¬ ((1 : Int32) = (0 : Int32)))).1) k) ?_
      show Goes _ _ _ _ _ _ _ (T257.setTop (mkF m 258 #[.val (.int u0), .val (.int u1), .val (.int u2), .val (.int u3), .val (.int u4), .val (.ref b121), .val (.int qq), .val (.int (3 : Int32)), .val (.ref b212), .val (.int rr), .val (.int (1 : Int32)), .val (.int ss)] []))
      refine Goes.of (fun t k => XS.aload X257.here hx rfl (hb hby at_258) rfl rfl k) ?_
      show Goes _ _ _ _ _ _ _ (T257.setTop (mkF m 260 #[.val (.int u0), .val (.int u1), .val (.int u2), .val (.int u3), .val (.int u4), .val (.ref b121), .val (.int qq), .val (.int (3 : Int32)), .val (.ref b212), .val (.int rr), .val (.int (1 : Int32)), .val (.int ss)] [(.ref b212)]))
      refine Goes.of (fun t k => XS.aload X257.here hx rfl (hb hby at_260) rfl rfl k) ?_
      show Goes _ _ _ _ _ _ _ (T257.setTop (mkF m 262 #[.val (.int u0), .val (.int u1), .val (.int u2), .val (.int u3), .val (.int u4), .val (.ref b121), .val (.int qq), .val (.int (3 : Int32)), .val (.ref b212), .val (.int rr), .val (.int (1 : Int32)), .val (.int ss)] [(.ref b121), (.ref b212)]))
      refine Goes.of (fun t k => XS.iload X257.here hx rfl (hb hby at_262) rfl k) ?_
      show Goes _ _ _ _ _ _ _ (T257.setTop (mkF m 264 #[.val (.int u0), .val (.int u1), .val (.int u2), .val (.int u3), .val (.int u4), .val (.ref b121), .val (.int qq), .val (.int (3 : Int32)), .val (.ref b212), .val (.int rr), .val (.int (1 : Int32)), .val (.int ss)] [(.int (1 : Int32)), (.ref b121), (.ref b212)]))
      refine Goes.of (fun t k => XS.iconst X257.here hx rfl (hb hby at_264) k) ?_
      show Goes _ _ _ _ _ _ _ (T257.setTop (mkF m 265 #[.val (.int u0), .val (.int u1), .val (.int u2), .val (.int u3), .val (.int u4), .val (.ref b121), .val (.int qq), .val (.int (3 : Int32)), .val (.ref b212), .val (.int rr), .val (.int (1 : Int32)), .val (.int ss)] [(.int (2 : Int32)), (.int (1 : Int32)), (.ref b121), (.ref b212)]))
      obtain ⟨_, _, ⟨T258, L258, k258, n258⟩, -, X258, ⟨Lc258, hQ258, l258, y258, z258⟩, st258⟩ := Jvm.LawKit.callS X257 hx (y := (⟨"com/example/slotwright/slotwright/problems/IndexSetRemovePinLaw", "at", "(Lcom/example/slotwright/slotwright/problems/IndexSet;[III)Z"⟩ : MethodName)) hown (mvT hZ (hw _ (List.mem_of_getElem? (i := 40) rfl))) (mvT hZ (hw _ (List.mem_of_getElem? (i := 41) rfl))) (mvT hZ (hw _ (List.mem_of_getElem? (i := 4) rfl))) (mvT hZ (hw _ (List.mem_of_getElem? (i := 42) rfl))) (by decide) (backOf (W := 0) (rm8 l Z a0 hw [] b212 b121 (1 : Int32) (2 : Int32) mm214 pp214 4 Ms Ps ((((((0 : Int32) + (1 : Int32)) + (1 : Int32)) + (1 : Int32)) - (1 : Int32)) - (1 : Int32)) m5 h248 n0 Z248 F249 F250 F251 F252 F253 F254 ne_b212_mm214 ne_b212_pp214 ne_mm214_pp214 g_b212 g_mm214 g_pp214 V248 (by decide) (by decide) (fun q => absurd q (by decide))) hZ (hw _ (List.mem_of_getElem? (i := 42) rfl)) (hw _ (List.mem_of_getElem? (i := 4) rfl)) (by decide) (by decide)) (g := (mkF m 265 #[.val (.int u0), .val (.int u1), .val (.int u2), .val (.int u3), .val (.int u4), .val (.ref b121), .val (.int qq), .val (.int (3 : Int32)), .val (.ref b212), .val (.int rr), .val (.int (1 : Int32)), .val (.int ss)] [(.int (2 : Int32)), (.int (1 : Int32)), (.ref b121), (.ref b212)])) rfl (by rw [hml]; rfl) (argsL := [(.ref b212), (.ref b121), (.int (1 : Int32)), (.int (2 : Int32))]) (rest := []) (lenOf pd_7 rfl) rfl (by show 2 * 0 + _ ≤ _; exact Nat.le_of_eq rfl) (hb hby at_265) (fun _ _ => ⟨rfl, e257, (by decide : 4 + 0 ≤ _), (by decide : 15 + 0 ≤ _)⟩)
      dsimp only [Pt.U, Pt.locs, Pt.cells, Pt.slots] at X258 l258 y258 z258 st258 hQ258
      replace l258 := l258.symm
      replace y258 := y258.symm
      replace z258 := z258.symm
      subst l258 y258 z258
      obtain ⟨rfl, N258q, e258⟩ := hQ258
      have N258 := Fr.app N257 N258q
      refine Goes.of st258 ?_
      show Goes _ _ _ _ _ _ _ (T258.setTop (mkF m 268 #[.val (.int u0), .val (.int u1), .val (.int u2), .val (.int u3), .val (.int u4), .val (.ref b121), .val (.int qq), .val (.int (3 : Int32)), .val (.ref b212), .val (.int rr), .val (.int (1 : Int32)), .val (.int ss)] [(.int (1 : Int32))]))
      refine Goes.of (fun t k => XS.ifNo X258.here hx rfl (hb hby at_268) rfl ((if0 _ _).trans (feq (by decide : ¬ ((1 : Int32) = (0 : Int32)))).1) k) ?_
      show Goes _ _ _ _ _ _ _ (T258.setTop (mkF m 271 #[.val (.int u0), .val (.int u1), .val (.int u2), .val (.int u3), .val (.int u4), .val (.ref b121), .val (.int qq), .val (.int (3 : Int32)), .val (.ref b212), .val (.int rr), .val (.int (1 : Int32)), .val (.int ss)] []))
      refine Goes.of (fun t k => XS.aload X258.here hx rfl (hb hby at_271) rfl rfl k) ?_
      show Goes _ _ _ _ _ _ _ (T258.setTop (mkF m 273 #[.val (.int u0), .val (.int u1), .val (.int u2), .val (.int u3), .val (.int u4), .val (.ref b121), .val (.int qq), .val (.int (3 : Int32)), .val (.ref b212), .val (.int rr), .val (.int (1 : Int32)), .val (.int ss)] [(.ref b212)]))
      refine Goes.of (fun t k => XS.aload X258.here hx rfl (hb hby at_273) rfl rfl k) ?_
      show Goes _ _ _ _ _ _ _ (T258.setTop (mkF m 275 #[.val (.int u0), .val (.int u1), .val (.int u2), .val (.int u3), .val (.int u4), .val (.ref b121), .val (.int qq), .val (.int (3 : Int32)), .val (.ref b212), .val (.int rr), .val (.int (1 : Int32)), .val (.int ss)] [(.ref b121), (.ref b212)]))
      refine Goes.of (fun t k => XS.iload X258.here hx rfl (hb hby at_275) rfl k) ?_
      show Goes _ _ _ _ _ _ _ (T258.setTop (mkF m 277 #[.val (.int u0), .val (.int u1), .val (.int u2), .val (.int u3), .val (.int u4), .val (.ref b121), .val (.int qq), .val (.int (3 : Int32)), .val (.ref b212), .val (.int rr), .val (.int (1 : Int32)), .val (.int ss)] [(.int (1 : Int32)), (.ref b121), (.ref b212)]))
      refine Goes.of (fun t k => XS.iconst X258.here hx rfl (hb hby at_277) k) ?_
      show Goes _ _ _ _ _ _ _ (T258.setTop (mkF m 278 #[.val (.int u0), .val (.int u1), .val (.int u2), .val (.int u3), .val (.int u4), .val (.ref b121), .val (.int qq), .val (.int (3 : Int32)), .val (.ref b212), .val (.int rr), .val (.int (1 : Int32)), .val (.int ss)] [(.int (0 : Int32)), (.int (1 : Int32)), (.ref b121), (.ref b212)]))
      obtain ⟨_, _, ⟨T259, L259, k259, n259⟩, -, X259, ⟨Lc259, hQ259, l259, y259, z259⟩, st259⟩ := Jvm.LawKit.callS X258 hx (y := (⟨"com/example/slotwright/slotwright/problems/IndexSetRemovePinLaw", "in", "(Lcom/example/slotwright/slotwright/problems/IndexSet;[III)Z"⟩ : MethodName)) hown (mvT hZ (hw _ (List.mem_of_getElem? (i := 48) rfl))) (mvT hZ (hw _ (List.mem_of_getElem? (i := 49) rfl))) (mvT hZ (hw _ (List.mem_of_getElem? (i := 4) rfl))) (mvT hZ (hw _ (List.mem_of_getElem? (i := 50) rfl))) (by decide) (backOf (W := 0) (rm10 l Z a0 hw [] b212 b121 (1 : Int32) (0 : Int32) mm214 pp214 4 Ms Ps ((((((0 : Int32) + (1 : Int32)) + (1 : Int32)) + (1 : Int32)) - (1 : Int32)) - (1 : Int32)) m5 h248 n0 Z248 F249 F250 F251 F252 F253 F254 ne_b212_mm214 ne_b212_pp214 ne_mm214_pp214 g_b212 g_mm214 g_pp214 V248 ⟨by decide, by decide⟩ (by decide) (own_chk hIs (by decide) (by decide) ⟨by decide, by decide⟩)) hZ (hw _ (List.mem_of_getElem? (i := 50) rfl)) (hw _ (List.mem_of_getElem? (i := 4) rfl)) (by decide) (by decide)) (g := (mkF m 278 #[.val (.int u0), .val (.int u1), .val (.int u2), .val (.int u3), .val (.int u4), .val (.ref b121), .val (.int qq), .val (.int (3 : Int32)), .val (.ref b212), .val (.int rr), .val (.int (1 : Int32)), .val (.int ss)] [(.int (0 : Int32)), (.int (1 : Int32)), (.ref b121), (.ref b212)])) rfl (by rw [hml]; rfl) (argsL := [(.ref b212), (.ref b121), (.int (1 : Int32)), (.int (0 : Int32))]) (rest := []) (lenOf pd_7 rfl) rfl (by show 2 * 0 + _ ≤ _; exact Nat.le_of_eq rfl) (hb hby at_278) (fun _ _ => ⟨rfl, e258, (by decide : 4 + 0 ≤ _), (by decide : 15 + 0 ≤ _)⟩)
      dsimp only [Pt.U, Pt.locs, Pt.cells, Pt.slots] at X259 l259 y259 z259 st259 hQ259
      replace l259 := l259.symm
      replace y259 := y259.symm
      replace z259 := z259.symm
      subst l259 y259 z259
      obtain ⟨rfl, N259q, e259⟩ := hQ259
      have N259 := Fr.app N258 N259q
      refine Goes.of st259 ?_
      show Goes _ _ _ _ _ _ _ (T259.setTop (mkF m 281 #[.val (.int u0), .val (.int u1), .val (.int u2), .val (.int u3), .val (.int u4), .val (.ref b121), .val (.int qq), .val (.int (3 : Int32)), .val (.ref b212), .val (.int rr), .val (.int (1 : Int32)), .val (.int ss)] [(.int (1 : Int32))]))
      refine Goes.of (fun t k => XS.ifNo X259.here hx rfl (hb hby at_281) rfl ((if0 _ _).trans (feq (by decide : ¬ ((1 : Int32) = (0 : Int32)))).1) k) ?_
      show Goes _ _ _ _ _ _ _ (T259.setTop (mkF m 284 #[.val (.int u0), .val (.int u1), .val (.int u2), .val (.int u3), .val (.int u4), .val (.ref b121), .val (.int qq), .val (.int (3 : Int32)), .val (.ref b212), .val (.int rr), .val (.int (1 : Int32)), .val (.int ss)] []))
      refine Goes.of (fun t k => XS.aload X259.here hx rfl (hb hby at_284) rfl rfl k) ?_
      show Goes _ _ _ _ _ _ _ (T259.setTop (mkF m 286 #[.val (.int u0), .val (.int u1), .val (.int u2), .val (.int u3), .val (.int u4), .val (.ref b121), .val (.int qq), .val (.int (3 : Int32)), .val (.ref b212), .val (.int rr), .val (.int (1 : Int32)), .val (.int ss)] [(.ref b212)]))
      refine Goes.of (fun t k => XS.aload X259.here hx rfl (hb hby at_286) rfl rfl k) ?_
      show Goes _ _ _ _ _ _ _ (T259.setTop (mkF m 288 #[.val (.int u0), .val (.int u1), .val (.int u2), .val (.int u3), .val (.int u4), .val (.ref b121), .val (.int qq), .val (.int (3 : Int32)), .val (.ref b212), .val (.int rr), .val (.int (1 : Int32)), .val (.int ss)] [(.ref b121), (.ref b212)]))
      refine Goes.of (fun t k => XS.iload X259.here hx rfl (hb hby at_288) rfl k) ?_
      show Goes _ _ _ _ _ _ _ (T259.setTop (mkF m 290 #[.val (.int u0), .val (.int u1), .val (.int u2), .val (.int u3), .val (.int u4), .val (.ref b121), .val (.int qq), .val (.int (3 : Int32)), .val (.ref b212), .val (.int rr), .val (.int (1 : Int32)), .val (.int ss)] [(.int (1 : Int32)), (.ref b121), (.ref b212)]))
      refine Goes.of (fun t k => XS.iconst X259.here hx rfl (hb hby at_290) k) ?_
      show Goes _ _ _ _ _ _ _ (T259.setTop (mkF m 291 #[.val (.int u0), .val (.int u1), .val (.int u2), .val (.int u3), .val (.int u4), .val (.ref b121), .val (.int qq), .val (.int (3 : Int32)), .val (.ref b212), .val (.int rr), .val (.int (1 : Int32)), .val (.int ss)] [(.int (1 : Int32)), (.int (1 : Int32)), (.ref b121), (.ref b212)]))
      obtain ⟨_, _, ⟨T260, L260, k260, n260⟩, -, X260, ⟨Lc260, hQ260, l260, y260, z260⟩, st260⟩ := Jvm.LawKit.callS X259 hx (y := (⟨"com/example/slotwright/slotwright/problems/IndexSetRemovePinLaw", "in", "(Lcom/example/slotwright/slotwright/problems/IndexSet;[III)Z"⟩ : MethodName)) hown (mvT hZ (hw _ (List.mem_of_getElem? (i := 48) rfl))) (mvT hZ (hw _ (List.mem_of_getElem? (i := 49) rfl))) (mvT hZ (hw _ (List.mem_of_getElem? (i := 4) rfl))) (mvT hZ (hw _ (List.mem_of_getElem? (i := 50) rfl))) (by decide) (backOf (W := 0) (rm10 l Z a0 hw [] b212 b121 (1 : Int32) (1 : Int32) mm214 pp214 4 Ms Ps ((((((0 : Int32) + (1 : Int32)) + (1 : Int32)) + (1 : Int32)) - (1 : Int32)) - (1 : Int32)) m5 h248 n0 Z248 F249 F250 F251 F252 F253 F254 ne_b212_mm214 ne_b212_pp214 ne_mm214_pp214 g_b212 g_mm214 g_pp214 V248 ⟨by decide, by decide⟩ (by decide) (own_chk hIs (by decide) (by decide) ⟨by decide, by decide⟩)) hZ (hw _ (List.mem_of_getElem? (i := 50) rfl)) (hw _ (List.mem_of_getElem? (i := 4) rfl)) (by decide) (by decide)) (g := (mkF m 291 #[.val (.int u0), .val (.int u1), .val (.int u2), .val (.int u3), .val (.int u4), .val (.ref b121), .val (.int qq), .val (.int (3 : Int32)), .val (.ref b212), .val (.int rr), .val (.int (1 : Int32)), .val (.int ss)] [(.int (1 : Int32)), (.int (1 : Int32)), (.ref b121), (.ref b212)])) rfl (by rw [hml]; rfl) (argsL := [(.ref b212), (.ref b121), (.int (1 : Int32)), (.int (1 : Int32))]) (rest := []) (lenOf pd_7 rfl) rfl (by show 2 * 0 + _ ≤ _; exact Nat.le_of_eq rfl) (hb hby at_291) (fun _ _ => ⟨rfl, e259, (by decide : 4 + 0 ≤ _), (by decide : 15 + 0 ≤ _)⟩)
      dsimp only [Pt.U, Pt.locs, Pt.cells, Pt.slots] at X260 l260 y260 z260 st260 hQ260
      replace l260 := l260.symm
      replace y260 := y260.symm
      replace z260 := z260.symm
      subst l260 y260 z260
      obtain ⟨rfl, N260q, e260⟩ := hQ260
      have N260 := Fr.app N259 N260q
      refine Goes.of st260 ?_
      show Goes _ _ _ _ _ _ _ (T260.setTop (mkF m 294 #[.val (.int u0), .val (.int u1), .val (.int u2), .val (.int u3), .val (.int u4), .val (.ref b121), .val (.int qq), .val (.int (3 : Int32)), .val (.ref b212), .val (.int rr), .val (.int (1 : Int32)), .val (.int ss)] [(.int (1 : Int32))]))
      refine Goes.of (fun t k => XS.ifNo X260.here hx rfl (hb hby at_294) rfl ((if0 _ _).trans (feq (by decide : ¬ ((1 : Int32) = (0 : Int32)))).1) k) ?_
      show Goes _ _ _ _ _ _ _ (T260.setTop (mkF m 297 #[.val (.int u0), .val (.int u1), .val (.int u2), .val (.int u3), .val (.int u4), .val (.ref b121), .val (.int qq), .val (.int (3 : Int32)), .val (.ref b212), .val (.int rr), .val (.int (1 : Int32)), .val (.int ss)] []))
      refine Goes.of (fun t k => XS.aload X260.here hx rfl (hb hby at_297) rfl rfl k) ?_
      show Goes _ _ _ _ _ _ _ (T260.setTop (mkF m 299 #[.val (.int u0), .val (.int u1), .val (.int u2), .val (.int u3), .val (.int u4), .val (.ref b121), .val (.int qq), .val (.int (3 : Int32)), .val (.ref b212), .val (.int rr), .val (.int (1 : Int32)), .val (.int ss)] [(.ref b212)]))
      refine Goes.of (fun t k => XS.aload X260.here hx rfl (hb hby at_299) rfl rfl k) ?_
      show Goes _ _ _ _ _ _ _ (T260.setTop (mkF m 301 #[.val (.int u0), .val (.int u1), .val (.int u2), .val (.int u3), .val (.int u4), .val (.ref b121), .val (.int qq), .val (.int (3 : Int32)), .val (.ref b212), .val (.int rr), .val (.int (1 : Int32)), .val (.int ss)] [(.ref b121), (.ref b212)]))
      refine Goes.of (fun t k => XS.iload X260.here hx rfl (hb hby at_301) rfl k) ?_
      show Goes _ _ _ _ _ _ _ (T260.setTop (mkF m 303 #[.val (.int u0), .val (.int u1), .val (.int u2), .val (.int u3), .val (.int u4), .val (.ref b121), .val (.int qq), .val (.int (3 : Int32)), .val (.ref b212), .val (.int rr), .val (.int (1 : Int32)), .val (.int ss)] [(.int (1 : Int32)), (.ref b121), (.ref b212)]))
      refine Goes.of (fun t k => XS.iconst X260.here hx rfl (hb hby at_303) k) ?_
      show Goes _ _ _ _ _ _ _ (T260.setTop (mkF m 304 #[.val (.int u0), .val (.int u1), .val (.int u2), .val (.int u3), .val (.int u4), .val (.ref b121), .val (.int qq), .val (.int (3 : Int32)), .val (.ref b212), .val (.int rr), .val (.int (1 : Int32)), .val (.int ss)] [(.int (2 : Int32)), (.int (1 : Int32)), (.ref b121), (.ref b212)]))
      obtain ⟨_, _, ⟨T261, L261, k261, n261⟩, -, X261, ⟨Lc261, hQ261, l261, y261, z261⟩, st261⟩ := Jvm.LawKit.callS X260 hx (y := (⟨"com/example/slotwright/slotwright/problems/IndexSetRemovePinLaw", "in", "(Lcom/example/slotwright/slotwright/problems/IndexSet;[III)Z"⟩ : MethodName)) hown (mvT hZ (hw _ (List.mem_of_getElem? (i := 48) rfl))) (mvT hZ (hw _ (List.mem_of_getElem? (i := 49) rfl))) (mvT hZ (hw _ (List.mem_of_getElem? (i := 4) rfl))) (mvT hZ (hw _ (List.mem_of_getElem? (i := 50) rfl))) (by decide) (backOf (W := 0) (rm10 l Z a0 hw [] b212 b121 (1 : Int32) (2 : Int32) mm214 pp214 4 Ms Ps ((((((0 : Int32) + (1 : Int32)) + (1 : Int32)) + (1 : Int32)) - (1 : Int32)) - (1 : Int32)) m5 h248 n0 Z248 F249 F250 F251 F252 F253 F254 ne_b212_mm214 ne_b212_pp214 ne_mm214_pp214 g_b212 g_mm214 g_pp214 V248 ⟨by decide, by decide⟩ (by decide) (own_chk hIs (by decide) (by decide) ⟨by decide, by decide⟩)) hZ (hw _ (List.mem_of_getElem? (i := 50) rfl)) (hw _ (List.mem_of_getElem? (i := 4) rfl)) (by decide) (by decide)) (g := (mkF m 304 #[.val (.int u0), .val (.int u1), .val (.int u2), .val (.int u3), .val (.int u4), .val (.ref b121), .val (.int qq), .val (.int (3 : Int32)), .val (.ref b212), .val (.int rr), .val (.int (1 : Int32)), .val (.int ss)] [(.int (2 : Int32)), (.int (1 : Int32)), (.ref b121), (.ref b212)])) rfl (by rw [hml]; rfl) (argsL := [(.ref b212), (.ref b121), (.int (1 : Int32)), (.int (2 : Int32))]) (rest := []) (lenOf pd_7 rfl) rfl (by show 2 * 0 + _ ≤ _; exact Nat.le_of_eq rfl) (hb hby at_304) (fun _ _ => ⟨rfl, e260, (by decide : 4 + 0 ≤ _), (by decide : 15 + 0 ≤ _)⟩)
      dsimp only [Pt.U, Pt.locs, Pt.cells, Pt.slots] at X261 l261 y261 z261 st261 hQ261
      replace l261 := l261.symm
      replace y261 := y261.symm
      replace z261 := z261.symm
      subst l261 y261 z261
      obtain ⟨rfl, N261q, e261⟩ := hQ261
      have N261 := Fr.app N260 N261q
      refine Goes.of st261 ?_
      show Goes _ _ _ _ _ _ _ (T261.setTop (mkF m 307 #[.val (.int u0), .val (.int u1), .val (.int u2), .val (.int u3), .val (.int u4), .val (.ref b121), .val (.int qq), .val (.int (3 : Int32)), .val (.ref b212), .val (.int rr), .val (.int (1 : Int32)), .val (.int ss)] [(.int (1 : Int32))]))
      refine Goes.of (fun t k => XS.ifNo X261.here hx rfl (hb hby at_307) rfl ((if0 _ _).trans (feq (by decide : ¬ ((1 : Int32) = (0 : Int32)))).1) k) ?_
      show Goes _ _ _ _ _ _ _ (T261.setTop (mkF m 310 #[.val (.int u0), .val (.int u1), .val (.int u2), .val (.int u3), .val (.int u4), .val (.ref b121), .val (.int qq), .val (.int (3 : Int32)), .val (.ref b212), .val (.int rr), .val (.int (1 : Int32)), .val (.int ss)] []))
      refine Goes.of (fun t k => XS.aload X261.here hx rfl (hb hby at_310) rfl rfl k) ?_
      show Goes _ _ _ _ _ _ _ (T261.setTop (mkF m 312 #[.val (.int u0), .val (.int u1), .val (.int u2), .val (.int u3), .val (.int u4), .val (.ref b121), .val (.int qq), .val (.int (3 : Int32)), .val (.ref b212), .val (.int rr), .val (.int (1 : Int32)), .val (.int ss)] [(.ref b212)]))
      refine Goes.of (fun t k => XS.aload X261.here hx rfl (hb hby at_312) rfl rfl k) ?_
      show Goes _ _ _ _ _ _ _ (T261.setTop (mkF m 314 #[.val (.int u0), .val (.int u1), .val (.int u2), .val (.int u3), .val (.int u4), .val (.ref b121), .val (.int qq), .val (.int (3 : Int32)), .val (.ref b212), .val (.int rr), .val (.int (1 : Int32)), .val (.int ss)] [(.ref b121), (.ref b212)]))
      refine Goes.of (fun t k => XS.iload X261.here hx rfl (hb hby at_314) rfl k) ?_
      show Goes _ _ _ _ _ _ _ (T261.setTop (mkF m 316 #[.val (.int u0), .val (.int u1), .val (.int u2), .val (.int u3), .val (.int u4), .val (.ref b121), .val (.int qq), .val (.int (3 : Int32)), .val (.ref b212), .val (.int rr), .val (.int (1 : Int32)), .val (.int ss)] [(.int (1 : Int32)), (.ref b121), (.ref b212)]))
      refine Goes.of (fun t k => XS.iconst X261.here hx rfl (hb hby at_316) k) ?_
      show Goes _ _ _ _ _ _ _ (T261.setTop (mkF m 317 #[.val (.int u0), .val (.int u1), .val (.int u2), .val (.int u3), .val (.int u4), .val (.ref b121), .val (.int qq), .val (.int (3 : Int32)), .val (.ref b212), .val (.int rr), .val (.int (1 : Int32)), .val (.int ss)] [(.int (3 : Int32)), (.int (1 : Int32)), (.ref b121), (.ref b212)]))
      obtain ⟨_, _, ⟨T262, L262, k262, n262⟩, -, X262, ⟨Lc262, hQ262, l262, y262, z262⟩, st262⟩ := Jvm.LawKit.callS X261 hx (y := (⟨"com/example/slotwright/slotwright/problems/IndexSetRemovePinLaw", "in", "(Lcom/example/slotwright/slotwright/problems/IndexSet;[III)Z"⟩ : MethodName)) hown (mvT hZ (hw _ (List.mem_of_getElem? (i := 48) rfl))) (mvT hZ (hw _ (List.mem_of_getElem? (i := 49) rfl))) (mvT hZ (hw _ (List.mem_of_getElem? (i := 4) rfl))) (mvT hZ (hw _ (List.mem_of_getElem? (i := 50) rfl))) (by decide) (backOf (W := 0) (rm10 l Z a0 hw [] b212 b121 (1 : Int32) (3 : Int32) mm214 pp214 4 Ms Ps ((((((0 : Int32) + (1 : Int32)) + (1 : Int32)) + (1 : Int32)) - (1 : Int32)) - (1 : Int32)) m5 h248 n0 Z248 F249 F250 F251 F252 F253 F254 ne_b212_mm214 ne_b212_pp214 ne_mm214_pp214 g_b212 g_mm214 g_pp214 V248 ⟨by decide, by decide⟩ (by decide) (own_chk hIs (by decide) (by decide) ⟨by decide, by decide⟩)) hZ (hw _ (List.mem_of_getElem? (i := 50) rfl)) (hw _ (List.mem_of_getElem? (i := 4) rfl)) (by decide) (by decide)) (g := (mkF m 317 #[.val (.int u0), .val (.int u1), .val (.int u2), .val (.int u3), .val (.int u4), .val (.ref b121), .val (.int qq), .val (.int (3 : Int32)), .val (.ref b212), .val (.int rr), .val (.int (1 : Int32)), .val (.int ss)] [(.int (3 : Int32)), (.int (1 : Int32)), (.ref b121), (.ref b212)])) rfl (by rw [hml]; rfl) (argsL := [(.ref b212), (.ref b121), (.int (1 : Int32)), (.int (3 : Int32))]) (rest := []) (lenOf pd_7 rfl) rfl (by show 2 * 0 + _ ≤ _; exact Nat.le_of_eq rfl) (hb hby at_317) (fun _ _ => ⟨rfl, e261, (by decide : 4 + 0 ≤ _), (by decide : 15 + 0 ≤ _)⟩)
      dsimp only [Pt.U, Pt.locs, Pt.cells, Pt.slots] at X262 l262 y262 z262 st262 hQ262
      replace l262 := l262.symm
      replace y262 := y262.symm
      replace z262 := z262.symm
      subst l262 y262 z262
      obtain ⟨rfl, N262q, e262⟩ := hQ262
      have N262 := Fr.app N261 N262q
      refine Goes.of st262 ?_
      show Goes _ _ _ _ _ _ _ (T262.setTop (mkF m 320 #[.val (.int u0), .val (.int u1), .val (.int u2), .val (.int u3), .val (.int u4), .val (.ref b121), .val (.int qq), .val (.int (3 : Int32)), .val (.ref b212), .val (.int rr), .val (.int (1 : Int32)), .val (.int ss)] [(.int (1 : Int32))]))
      refine Goes.of (fun t k => XS.ifNo X262.here hx rfl (hb hby at_320) rfl ((if0 _ _).trans (feq (by decide : ¬ ((1 : Int32) = (0 : Int32)))).1) k) ?_
      show Goes _ _ _ _ _ _ _ (T262.setTop (mkF m 323 #[.val (.int u0), .val (.int u1), .val (.int u2), .val (.int u3), .val (.int u4), .val (.ref b121), .val (.int qq), .val (.int (3 : Int32)), .val (.ref b212), .val (.int rr), .val (.int (1 : Int32)), .val (.int ss)] []))
      refine Goes.of (fun t k => XS.iconst X262.here hx rfl (hb hby at_323) k) ?_
      show Goes _ _ _ _ _ _ _ (T262.setTop (mkF m 324 #[.val (.int u0), .val (.int u1), .val (.int u2), .val (.int u3), .val (.int u4), .val (.ref b121), .val (.int qq), .val (.int (3 : Int32)), .val (.ref b212), .val (.int rr), .val (.int (1 : Int32)), .val (.int ss)] [(.int (1 : Int32))]))
      refine Goes.of (fun t k => XS.goto X262.here hx rfl (pc0 := 324) (pc' := 328) rfl (hb hby at_324) (by decide) (by decide) k) ?_
      show Goes _ _ _ _ _ _ _ (T262.setTop (mkF m 328 #[.val (.int u0), .val (.int u1), .val (.int u2), .val (.int u3), .val (.int u4), .val (.ref b121), .val (.int qq), .val (.int (3 : Int32)), .val (.ref b212), .val (.int rr), .val (.int (1 : Int32)), .val (.int ss)] [(.int (1 : Int32))]))
      exact Goes.fin X262 hlk (v := some (.int (1 : Int32))) (fun h => by rw [Bd.returns] at h; cases h) (fun fs hr => retN X262 hx (t := .boolean) Bd.returns (by simp) (hb hby at_328) hr) ⟨rfl, N262⟩ (by decide) (by decide)
  · rw [h4]
    show Goes _ _ _ _ _ _ _ (T128.setTop (mkF m 72 #[.val (.int u0), .val (.int u1), .val (.int u2), .val (.int u3), .val (.int u4), .val (.ref b121), .val (.int qq), .val (.int (4 : Int32)), .unset, .unset, .unset, .unset] []))
    obtain ⟨T263, h263, X263, e263, E263, A263, D263, -, st263⟩ := newO X128 hx hZ hown (hw _ (List.mem_of_getElem? (i := 6) rfl)) (hw _ (List.mem_of_getElem? (i := 7) rfl)) (hw _ (List.mem_of_getElem? (i := 8) rfl)) rfl (g := (mkF m 72 #[.val (.int u0), .val (.int u1), .val (.int u2), .val (.int u3), .val (.int u4), .val (.ref b121), .val (.int qq), .val (.int (4 : Int32)), .unset, .unset, .unset, .unset] [])) rfl (hb hby at_72) (by decide) (by decide)
    obtain ⟨b263, g263⟩ : ∃ z, z = T128.heap.size := ⟨_, rfl⟩
    rw [← g263] at A263 D263 st263
    have ne_b121_b263 : b121 ≠ b263 := Nat.ne_of_lt (Nat.lt_of_lt_of_le V128.lt (Nat.le_of_eq g263.symm))
    have g_b263 : n0 ≤ b263 := Nat.le_trans Z128 (Nat.le_of_eq g263.symm)
    have F264 := V128.ext E263
    have Z263 : n0 ≤ h263.size := Nat.le_trans Z128 E263.1
    have F_members_b263 : Fld Z h263 b263 "com/example/slotwright/slotwright/problems/IndexSet" "members" "[I" .null := D263 (Or.inr (hw _ (List.mem_of_getElem? (i := 16) rfl))) (ty := (.array .int)) (by decide)
    have F_positions_b263 : Fld Z h263 b263 "com/example/slotwright/slotwright/problems/IndexSet" "positions" "[I" .null := D263 (Or.inr (hw _ (List.mem_of_getElem? (i := 18) rfl))) (ty := (.array .int)) (by decide)
    have F_size_b263 : Fld Z h263 b263 "com/example/slotwright/slotwright/problems/IndexSet" "size" "I" (.int (0 : Int32)) := D263 (Or.inl (hw _ (List.mem_of_getElem? (i := 29) rfl))) (ty := .int) (by decide)
    refine Goes.of st263 ?_
    show Goes _ _ _ _ _ _ _ (T263.setTop (mkF m 75 #[.val (.int u0), .val (.int u1), .val (.int u2), .val (.int u3), .val (.int u4), .val (.ref b121), .val (.int qq), .val (.int (4 : Int32)), .unset, .unset, .unset, .unset] [(.ref b263)]))
    refine Goes.of (fun t k => XS.dup X263.here hx rfl (hb hby at_75) rfl rfl k) ?_
    show Goes _ _ _ _ _ _ _ (T263.setTop (mkF m 76 #[.val (.int u0), .val (.int u1), .val (.int u2), .val (.int u3), .val (.int u4), .val (.ref b121), .val (.int qq), .val (.int (4 : Int32)), .unset, .unset, .unset, .unset] [(.ref b263), (.ref b263)]))
    refine Goes.of (fun t k => XS.iconst X263.here hx rfl (hb hby at_76) k) ?_
    show Goes _ _ _ _ _ _ _ (T263.setTop (mkF m 77 #[.val (.int u0), .val (.int u1), .val (.int u2), .val (.int u3), .val (.int u4), .val (.ref b121), .val (.int qq), .val (.int (4 : Int32)), .unset, .unset, .unset, .unset] [(.int (4 : Int32)), (.ref b263), (.ref b263)]))
    obtain ⟨_, _, ⟨T265, L265, k265, n265⟩, -, X265, ⟨Lc265, hQ265, l265, y265, z265⟩, st265⟩ := X263.specialBack hx (y := (⟨"com/example/slotwright/slotwright/problems/IndexSet", "<init>", "(I)V"⟩ : MethodName)) rfl hown (mvT hZ (hw _ (List.mem_of_getElem? (i := 9) rfl))) (mvT hZ (hw _ (List.mem_of_getElem? (i := 10) rfl))) (mvT hZ (hw _ (List.mem_of_getElem? (i := 11) rfl))) (by decide) (backOf (W := 1) (rm2 l Z a0 hw [] b263 (4 : Int32) 4 h263 n0 Z263 A263 F_members_b263 F_positions_b263 F_size_b263 g_b263 (by decide) (by decide)) hZ (hw _ (List.mem_of_getElem? (i := 11) rfl)) (hw _ (List.mem_of_getElem? (i := 8) rfl)) (by decide) (by decide)) (g := (mkF m 77 #[.val (.int u0), .val (.int u1), .val (.int u2), .val (.int u3), .val (.int u4), .val (.ref b121), .val (.int qq), .val (.int (4 : Int32)), .unset, .unset, .unset, .unset] [(.int (4 : Int32)), (.ref b263), (.ref b263)])) rfl (by rw [hml]; rfl) (Steps.refl _) (a := b263) (argsL := [(.int (4 : Int32))]) (rest := [(.ref b263)]) (lenOf pd_5 rfl) rfl (by show 2 * 0 + _ ≤ _; exact Nat.le_of_eq rfl) (hb hby at_77) (fun _ _ => ⟨rfl, e263, (by decide : 2 + 2 ≤ _), (by decide : 7 + 8 ≤ _)⟩)
    dsimp only [Pt.U, Pt.locs, Pt.cells, Pt.slots] at X265 l265 y265 z265 st265 hQ265
    replace l265 := l265.symm
    replace y265 := y265.symm
    replace z265 := z265.symm
    subst l265 y265 z265
    obtain ⟨rfl, N265q, mm265, pp265, K265, szm265, szp265, ne_mm265_pp265, Eo265, Fm265, Fp265, Fs265, Vm265, Vp265⟩ := hQ265
    have ne_b121_mm265 : b121 ≠ mm265 := Nat.ne_of_lt (Nat.lt_of_lt_of_le F264.lt szm265)
    have ne_b263_mm265 : b263 ≠ mm265 := Nat.ne_of_lt (Nat.lt_of_lt_of_le A263.lt szm265)
    have g_mm265 : n0 ≤ mm265 := Nat.le_trans Z263 szm265
    have ne_b121_pp265 : b121 ≠ pp265 := Nat.ne_of_lt (Nat.lt_of_lt_of_le F264.lt szp265)
    have ne_b263_pp265 : b263 ≠ pp265 := Nat.ne_of_lt (Nat.lt_of_lt_of_le A263.lt szp265)
    have g_pp265 : n0 ≤ pp265 := Nat.le_trans Z263 szp265
    have F266 := F264.keep K265 (ninS ne_b121_b263 nin0)
    have F267 := A263.keep K265
    have Z265 : n0 ≤ T265.heap.size := Nat.le_trans Z263 K265.1
    have N265 := Fr.app N128 N265q
    refine Goes.of (fun t k => st265.trans k) ?_
    show Goes _ _ _ _ _ _ _ (T265.setTop (mkF m 80 #[.val (.int u0), .val (.int u1), .val (.int u2), .val (.int u3), .val (.int u4), .val (.ref b121), .val (.int qq), .val (.int (4 : Int32)), .unset, .unset, .unset, .unset] [(.ref b263)]))
    refine Goes.of (fun t k => XS.astore X265.here hx rfl (hb hby at_80) rfl rfl (l' := #[.val (.int u0), .val (.int u1), .val (.int u2), .val (.int u3), .val (.int u4), .val (.ref b121), .val (.int qq), .val (.int (4 : Int32)), .val (.ref b263), .unset, .unset, .unset]) rfl k) ?_
    show Goes _ _ _ _ _ _ _ (T265.setTop (mkF m 82 #[.val (.int u0), .val (.int u1), .val (.int u2), .val (.int u3), .val (.int u4), .val (.ref b121), .val (.int qq), .val (.int (4 : Int32)), .val (.ref b263), .unset, .unset, .unset] []))
    obtain ⟨M0, hf_M0⟩ : ∃ f : Nat → Int32, f = (fun _ => 0) := ⟨_, rfl⟩
    rw [← hf_M0] at Vm265
    obtain ⟨P0, hf_P0⟩ : ∃ f : Nat → Int32, f = (fun _ => (-1 : Int32)) := ⟨_, rfl⟩
    rw [← hf_P0] at Vp265
    have hI0 : own_Inv m3 M0 P0 0 := by
      rw [hf_M0, hf_P0]
      exact ⟨hp3.1, fun i j hi => absurd hi (Nat.not_lt_zero _), fun i hi => absurd hi (Nat.not_lt_zero _), fun i hi => absurd hi (Nat.not_lt_zero _), fun v hv hn => rfl⟩
    refine Goes.of (fun t k => XS.aload X265.here hx rfl (hb hby at_82) rfl rfl k) ?_
    show Goes _ _ _ _ _ _ _ (T265.setTop (mkF m 84 #[.val (.int u0), .val (.int u1), .val (.int u2), .val (.int u3), .val (.int u4), .val (.ref b121), .val (.int qq), .val (.int (4 : Int32)), .val (.ref b263), .unset, .unset, .unset] [(.ref b263)]))
    refine Goes.of (fun t k => XS.aload X265.here hx rfl (hb hby at_84) rfl rfl k) ?_
    show Goes _ _ _ _ _ _ _ (T265.setTop (mkF m 86 #[.val (.int u0), .val (.int u1), .val (.int u2), .val (.int u3), .val (.int u4), .val (.ref b121), .val (.int qq), .val (.int (4 : Int32)), .val (.ref b263), .unset, .unset, .unset] [(.ref b121), (.ref b263)]))
    refine Goes.of (fun t k => XS.iconst X265.here hx rfl (hb hby at_86) k) ?_
    show Goes _ _ _ _ _ _ _ (T265.setTop (mkF m 87 #[.val (.int u0), .val (.int u1), .val (.int u2), .val (.int u3), .val (.int u4), .val (.ref b121), .val (.int qq), .val (.int (4 : Int32)), .val (.ref b263), .unset, .unset, .unset] [(.int (0 : Int32)), (.ref b121), (.ref b263)]))
    refine Goes.of (fun t k => ldI X265 hx hZ rfl F266 (j := (0 : Int32)) (i := 0) (v := (m3 0)) (by decide) (by decide) (by decide) rfl (g := (mkF m 87 #[.val (.int u0), .val (.int u1), .val (.int u2), .val (.int u3), .val (.int u4), .val (.ref b121), .val (.int qq), .val (.int (4 : Int32)), .val (.ref b263), .unset, .unset, .unset] [(.int (0 : Int32)), (.ref b121), (.ref b263)])) rfl rfl (hb hby at_87) t k) ?_
    show Goes _ _ _ _ _ _ _ (T265.setTop (mkF m 88 #[.val (.int u0), .val (.int u1), .val (.int u2), .val (.int u3), .val (.int u4), .val (.ref b121), .val (.int qq), .val (.int (4 : Int32)), .val (.ref b263), .unset, .unset, .unset] [(.int (m3 0)), (.ref b263)]))
    obtain ⟨cq268, kq268, q268a, q268b, q268c⟩ := isOf hZ rfl Eo265
    obtain ⟨_, _, ⟨T268, L268, k268, n268⟩, -, X268, ⟨Lc268, hQ268, l268, y268, z268⟩, st268⟩ := X265.virtualBack hx (y := (⟨"com/example/slotwright/slotwright/problems/IndexSet", "add", "(I)V"⟩ : MethodName)) (z := (⟨"com/example/slotwright/slotwright/problems/IndexSet", "add", "(I)V"⟩ : MethodName)) hown (mvT hZ (hw _ (List.mem_of_getElem? (i := 23) rfl))) (mvT hZ (hw _ (List.mem_of_getElem? (i := 24) rfl))) (notFace_of_selects (args := #[]) (mvT hZ (hw _ (List.mem_of_getElem? (i := 26) rfl)))) (mvT hZ (hw _ (List.mem_of_getElem? (i := 26) rfl))) (mvT hZ (hw _ (List.mem_of_getElem? (i := 25) rfl))) (by decide) (backOf (W := 0) (rm5 l Z a0 hw [] b263 (m3 0) mm265 pp265 4 M0 P0 (0 : Int32) T265.heap n0 Z265 Eo265 Fm265 Fp265 Fs265 Vm265 Vp265 ne_b263_mm265 ne_b263_pp265 ne_mm265_pp265 g_b263 g_mm265 g_pp265 ⟨by decide, by decide⟩ (hI0.1 0 (by decide))) hZ (hw _ (List.mem_of_getElem? (i := 27) rfl)) (hw _ (List.mem_of_getElem? (i := 8) rfl)) (by decide) (by decide)) q268a q268c (g := (mkF m 88 #[.val (.int u0), .val (.int u1), .val (.int u2), .val (.int u3), .val (.int u4), .val (.ref b121), .val (.int qq), .val (.int (4 : Int32)), .val (.ref b263), .unset, .unset, .unset] [(.int (m3 0)), (.ref b263)])) rfl (by rw [hml]; rfl) (Steps.refl _) (argsL := [(.int (m3 0))]) (rest := []) (lenOf pd_5 rfl) rfl (by show 2 * 0 + _ ≤ _; exact Nat.le_of_eq rfl) (hb hby at_88) (fun _ _ => ⟨rfl, rfl, (by decide : 4 + 0 ≤ _), (by decide : 15 + 0 ≤ _)⟩)
    dsimp only [Pt.U, Pt.locs, Pt.cells, Pt.slots] at X268 l268 y268 z268 st268 hQ268
    replace l268 := l268.symm
    replace y268 := y268.symm
    replace z268 := z268.symm
    subst l268 y268 z268
    obtain ⟨rfl, N268q, K268, Eo268, Fm268, Fp268, Fs268, Vm268, Vp268⟩ := hQ268
    have F269 := F266.keep K268 (ninS ne_b121_b263 (ninS ne_b121_mm265 (ninS ne_b121_pp265 nin0)))
    have F270 := Eo265.keep K268
    have Z268 : n0 ≤ T268.heap.size := Nat.le_trans Z265 K268.1
    have N268 := Fr.app N265 N268q
    refine Goes.of (fun t k => st268.trans k) ?_
    show Goes _ _ _ _ _ _ _ (T268.setTop (mkF m 91 #[.val (.int u0), .val (.int u1), .val (.int u2), .val (.int u3), .val (.int u4), .val (.ref b121), .val (.int qq), .val (.int (4 : Int32)), .val (.ref b263), .unset, .unset, .unset] []))
    obtain ⟨M1, hf_M1⟩ : ∃ f : Nat → Int32, f = (upd M0 (0 : Int32).toNatClampNeg (m3 0)) := ⟨_, rfl⟩
    rw [← hf_M1] at Vm268
    obtain ⟨P1, hf_P1⟩ : ∃ f : Nat → Int32, f = (upd P0 (m3 0).toNatClampNeg (0 : Int32)) := ⟨_, rfl⟩
    rw [← hf_P1] at Vp268
    have hI1 : own_Inv m3 M1 P1 1 := by rw [hf_M1, hf_P1]; exact own_add hp3 hI0 (by decide)
    refine Goes.of (fun t k => XS.iload X268.here hx rfl (hb hby at_91) rfl k) ?_
    show Goes _ _ _ _ _ _ _ (T268.setTop (mkF m 93 #[.val (.int u0), .val (.int u1), .val (.int u2), .val (.int u3), .val (.int u4), .val (.ref b121), .val (.int qq), .val (.int (4 : Int32)), .val (.ref b263), .unset, .unset, .unset] [(.int (4 : Int32))]))
    refine Goes.of (fun t k => XS.iconst X268.here hx rfl (hb hby at_93) k) ?_
    show Goes _ _ _ _ _ _ _ (T268.setTop (mkF m 94 #[.val (.int u0), .val (.int u1), .val (.int u2), .val (.int u3), .val (.int u4), .val (.ref b121), .val (.int qq), .val (.int (4 : Int32)), .val (.ref b263), .unset, .unset, .unset] [(.int (1 : Int32)), (.int (4 : Int32))]))
    refine Goes.of (fun t k => XS.icmpNo X268.here hx rfl (hb hby at_94) rfl (tlt (by decide : (1 : Int32) < (4 : Int32))).2.2.2 k) ?_
    show Goes _ _ _ _ _ _ _ (T268.setTop (mkF m 97 #[.val (.int u0), .val (.int u1), .val (.int u2), .val (.int u3), .val (.int u4), .val (.ref b121), .val (.int qq), .val (.int (4 : Int32)), .val (.ref b263), .unset, .unset, .unset] []))
    refine Goes.of (fun t k => XS.aload X268.here hx rfl (hb hby at_97) rfl rfl k) ?_
    show Goes _ _ _ _ _ _ _ (T268.setTop (mkF m 99 #[.val (.int u0), .val (.int u1), .val (.int u2), .val (.int u3), .val (.int u4), .val (.ref b121), .val (.int qq), .val (.int (4 : Int32)), .val (.ref b263), .unset, .unset, .unset] [(.ref b263)]))
    refine Goes.of (fun t k => XS.aload X268.here hx rfl (hb hby at_99) rfl rfl k) ?_
    show Goes _ _ _ _ _ _ _ (T268.setTop (mkF m 101 #[.val (.int u0), .val (.int u1), .val (.int u2), .val (.int u3), .val (.int u4), .val (.ref b121), .val (.int qq), .val (.int (4 : Int32)), .val (.ref b263), .unset, .unset, .unset] [(.ref b121), (.ref b263)]))
    refine Goes.of (fun t k => XS.iconst X268.here hx rfl (hb hby at_101) k) ?_
    show Goes _ _ _ _ _ _ _ (T268.setTop (mkF m 102 #[.val (.int u0), .val (.int u1), .val (.int u2), .val (.int u3), .val (.int u4), .val (.ref b121), .val (.int qq), .val (.int (4 : Int32)), .val (.ref b263), .unset, .unset, .unset] [(.int (1 : Int32)), (.ref b121), (.ref b263)]))
    refine Goes.of (fun t k => ldI X268 hx hZ rfl F269 (j := (1 : Int32)) (i := 1) (v := (m3 1)) (by decide) (by decide) (by decide) rfl (g := (mkF m 102 #[.val (.int u0), .val (.int u1), .val (.int u2), .val (.int u3), .val (.int u4), .val (.ref b121), .val (.int qq), .val (.int (4 : Int32)), .val (.ref b263), .unset, .unset, .unset] [(.int (1 : Int32)), (.ref b121), (.ref b263)])) rfl rfl (hb hby at_102) t k) ?_
    show Goes _ _ _ _ _ _ _ (T268.setTop (mkF m 103 #[.val (.int u0), .val (.int u1), .val (.int u2), .val (.int u3), .val (.int u4), .val (.ref b121), .val (.int qq), .val (.int (4 : Int32)), .val (.ref b263), .unset, .unset, .unset] [(.int (m3 1)), (.ref b263)]))
    obtain ⟨cq271, kq271, q271a, q271b, q271c⟩ := isOf hZ rfl Eo268
    obtain ⟨_, _, ⟨T271, L271, k271, n271⟩, -, X271, ⟨Lc271, hQ271, l271, y271, z271⟩, st271⟩ := X268.virtualBack hx (y := (⟨"com/example/slotwright/slotwright/problems/IndexSet", "add", "(I)V"⟩ : MethodName)) (z := (⟨"com/example/slotwright/slotwright/problems/IndexSet", "add", "(I)V"⟩ : MethodName)) hown (mvT hZ (hw _ (List.mem_of_getElem? (i := 23) rfl))) (mvT hZ (hw _ (List.mem_of_getElem? (i := 24) rfl))) (notFace_of_selects (args := #[]) (mvT hZ (hw _ (List.mem_of_getElem? (i := 26) rfl)))) (mvT hZ (hw _ (List.mem_of_getElem? (i := 26) rfl))) (mvT hZ (hw _ (List.mem_of_getElem? (i := 25) rfl))) (by decide) (backOf (W := 0) (rm5 l Z a0 hw [] b263 (m3 1) mm265 pp265 4 M1 P1 ((0 : Int32) + (1 : Int32)) T268.heap n0 Z268 Eo268 Fm268 Fp268 Fs268 Vm268 Vp268 ne_b263_mm265 ne_b263_pp265 ne_mm265_pp265 g_b263 g_mm265 g_pp265 ⟨by decide, by decide⟩ (hI1.1 1 (by decide))) hZ (hw _ (List.mem_of_getElem? (i := 27) rfl)) (hw _ (List.mem_of_getElem? (i := 8) rfl)) (by decide) (by decide)) q271a q271c (g := (mkF m 103 #[.val (.int u0), .val (.int u1), .val (.int u2), .val (.int u3), .val (.int u4), .val (.ref b121), .val (.int qq), .val (.int (4 : Int32)), .val (.ref b263), .unset, .unset, .unset] [(.int (m3 1)), (.ref b263)])) rfl (by rw [hml]; rfl) (Steps.refl _) (argsL := [(.int (m3 1))]) (rest := []) (lenOf pd_5 rfl) rfl (by show 2 * 0 + _ ≤ _; exact Nat.le_of_eq rfl) (hb hby at_103) (fun _ _ => ⟨rfl, rfl, (by decide : 4 + 0 ≤ _), (by decide : 15 + 0 ≤ _)⟩)
    dsimp only [Pt.U, Pt.locs, Pt.cells, Pt.slots] at X271 l271 y271 z271 st271 hQ271
    replace l271 := l271.symm
    replace y271 := y271.symm
    replace z271 := z271.symm
    subst l271 y271 z271
    obtain ⟨rfl, N271q, K271, Eo271, Fm271, Fp271, Fs271, Vm271, Vp271⟩ := hQ271
    have F272 := F269.keep K271 (ninS ne_b121_b263 (ninS ne_b121_mm265 (ninS ne_b121_pp265 nin0)))
    have F273 := Eo268.keep K271
    have Z271 : n0 ≤ T271.heap.size := Nat.le_trans Z268 K271.1
    have N271 := Fr.app N268 N271q
    refine Goes.of (fun t k => st271.trans k) ?_
    show Goes _ _ _ _ _ _ _ (T271.setTop (mkF m 106 #[.val (.int u0), .val (.int u1), .val (.int u2), .val (.int u3), .val (.int u4), .val (.ref b121), .val (.int qq), .val (.int (4 : Int32)), .val (.ref b263), .unset, .unset, .unset] []))
    obtain ⟨M2, hf_M2⟩ : ∃ f : Nat → Int32, f = (upd M1 ((0 : Int32) + (1 : Int32)).toNatClampNeg (m3 1)) := ⟨_, rfl⟩
    rw [← hf_M2] at Vm271
    obtain ⟨P2, hf_P2⟩ : ∃ f : Nat → Int32, f = (upd P1 (m3 1).toNatClampNeg ((0 : Int32) + (1 : Int32))) := ⟨_, rfl⟩
    rw [← hf_P2] at Vp271
    have hI2 : own_Inv m3 M2 P2 2 := by rw [hf_M2, hf_P2]; exact own_add hp3 hI1 (by decide)
    refine Goes.of (fun t k => XS.iload X271.here hx rfl (hb hby at_106) rfl k) ?_
    show Goes _ _ _ _ _ _ _ (T271.setTop (mkF m 108 #[.val (.int u0), .val (.int u1), .val (.int u2), .val (.int u3), .val (.int u4), .val (.ref b121), .val (.int qq), .val (.int (4 : Int32)), .val (.ref b263), .unset, .unset, .unset] [(.int (4 : Int32))]))
    refine Goes.of (fun t k => XS.iconst X271.here hx rfl (hb hby at_108) k) ?_
    show Goes _ _ _ _ _ _ _ (T271.setTop (mkF m 109 #[.val (.int u0), .val (.int u1), .val (.int u2), .val (.int u3), .val (.int u4), .val (.ref b121), .val (.int qq), .val (.int (4 : Int32)), .val (.ref b263), .unset, .unset, .unset] [(.int (2 : Int32)), (.int (4 : Int32))]))
    refine Goes.of (fun t k => XS.icmpNo X271.here hx rfl (hb hby at_109) rfl (tlt (by decide : (2 : Int32) < (4 : Int32))).2.2.2 k) ?_
    show Goes _ _ _ _ _ _ _ (T271.setTop (mkF m 112 #[.val (.int u0), .val (.int u1), .val (.int u2), .val (.int u3), .val (.int u4), .val (.ref b121), .val (.int qq), .val (.int (4 : Int32)), .val (.ref b263), .unset, .unset, .unset] []))
    refine Goes.of (fun t k => XS.aload X271.here hx rfl (hb hby at_112) rfl rfl k) ?_
    show Goes _ _ _ _ _ _ _ (T271.setTop (mkF m 114 #[.val (.int u0), .val (.int u1), .val (.int u2), .val (.int u3), .val (.int u4), .val (.ref b121), .val (.int qq), .val (.int (4 : Int32)), .val (.ref b263), .unset, .unset, .unset] [(.ref b263)]))
    refine Goes.of (fun t k => XS.aload X271.here hx rfl (hb hby at_114) rfl rfl k) ?_
    show Goes _ _ _ _ _ _ _ (T271.setTop (mkF m 116 #[.val (.int u0), .val (.int u1), .val (.int u2), .val (.int u3), .val (.int u4), .val (.ref b121), .val (.int qq), .val (.int (4 : Int32)), .val (.ref b263), .unset, .unset, .unset] [(.ref b121), (.ref b263)]))
    refine Goes.of (fun t k => XS.iconst X271.here hx rfl (hb hby at_116) k) ?_
    show Goes _ _ _ _ _ _ _ (T271.setTop (mkF m 117 #[.val (.int u0), .val (.int u1), .val (.int u2), .val (.int u3), .val (.int u4), .val (.ref b121), .val (.int qq), .val (.int (4 : Int32)), .val (.ref b263), .unset, .unset, .unset] [(.int (2 : Int32)), (.ref b121), (.ref b263)]))
    refine Goes.of (fun t k => ldI X271 hx hZ rfl F272 (j := (2 : Int32)) (i := 2) (v := (m3 2)) (by decide) (by decide) (by decide) rfl (g := (mkF m 117 #[.val (.int u0), .val (.int u1), .val (.int u2), .val (.int u3), .val (.int u4), .val (.ref b121), .val (.int qq), .val (.int (4 : Int32)), .val (.ref b263), .unset, .unset, .unset] [(.int (2 : Int32)), (.ref b121), (.ref b263)])) rfl rfl (hb hby at_117) t k) ?_
    show Goes _ _ _ _ _ _ _ (T271.setTop (mkF m 118 #[.val (.int u0), .val (.int u1), .val (.int u2), .val (.int u3), .val (.int u4), .val (.ref b121), .val (.int qq), .val (.int (4 : Int32)), .val (.ref b263), .unset, .unset, .unset] [(.int (m3 2)), (.ref b263)]))
    obtain ⟨cq274, kq274, q274a, q274b, q274c⟩ := isOf hZ rfl Eo271
    obtain ⟨_, _, ⟨T274, L274, k274, n274⟩, -, X274, ⟨Lc274, hQ274, l274, y274, z274⟩, st274⟩ := X271.virtualBack hx (y := (⟨"com/example/slotwright/slotwright/problems/IndexSet", "add", "(I)V"⟩ : MethodName)) (z := (⟨"com/example/slotwright/slotwright/problems/IndexSet", "add", "(I)V"⟩ : MethodName)) hown (mvT hZ (hw _ (List.mem_of_getElem? (i := 23) rfl))) (mvT hZ (hw _ (List.mem_of_getElem? (i := 24) rfl))) (notFace_of_selects (args := #[]) (mvT hZ (hw _ (List.mem_of_getElem? (i := 26) rfl)))) (mvT hZ (hw _ (List.mem_of_getElem? (i := 26) rfl))) (mvT hZ (hw _ (List.mem_of_getElem? (i := 25) rfl))) (by decide) (backOf (W := 0) (rm5 l Z a0 hw [] b263 (m3 2) mm265 pp265 4 M2 P2 (((0 : Int32) + (1 : Int32)) + (1 : Int32)) T271.heap n0 Z271 Eo271 Fm271 Fp271 Fs271 Vm271 Vp271 ne_b263_mm265 ne_b263_pp265 ne_mm265_pp265 g_b263 g_mm265 g_pp265 ⟨by decide, by decide⟩ (hI2.1 2 (by decide))) hZ (hw _ (List.mem_of_getElem? (i := 27) rfl)) (hw _ (List.mem_of_getElem? (i := 8) rfl)) (by decide) (by decide)) q274a q274c (g := (mkF m 118 #[.val (.int u0), .val (.int u1), .val (.int u2), .val (.int u3), .val (.int u4), .val (.ref b121), .val (.int qq), .val (.int (4 : Int32)), .val (.ref b263), .unset, .unset, .unset] [(.int (m3 2)), (.ref b263)])) rfl (by rw [hml]; rfl) (Steps.refl _) (argsL := [(.int (m3 2))]) (rest := []) (lenOf pd_5 rfl) rfl (by show 2 * 0 + _ ≤ _; exact Nat.le_of_eq rfl) (hb hby at_118) (fun _ _ => ⟨rfl, rfl, (by decide : 4 + 0 ≤ _), (by decide : 15 + 0 ≤ _)⟩)
    dsimp only [Pt.U, Pt.locs, Pt.cells, Pt.slots] at X274 l274 y274 z274 st274 hQ274
    replace l274 := l274.symm
    replace y274 := y274.symm
    replace z274 := z274.symm
    subst l274 y274 z274
    obtain ⟨rfl, N274q, K274, Eo274, Fm274, Fp274, Fs274, Vm274, Vp274⟩ := hQ274
    have F275 := F272.keep K274 (ninS ne_b121_b263 (ninS ne_b121_mm265 (ninS ne_b121_pp265 nin0)))
    have F276 := Eo271.keep K274
    have Z274 : n0 ≤ T274.heap.size := Nat.le_trans Z271 K274.1
    have N274 := Fr.app N271 N274q
    refine Goes.of (fun t k => st274.trans k) ?_
    show Goes _ _ _ _ _ _ _ (T274.setTop (mkF m 121 #[.val (.int u0), .val (.int u1), .val (.int u2), .val (.int u3), .val (.int u4), .val (.ref b121), .val (.int qq), .val (.int (4 : Int32)), .val (.ref b263), .unset, .unset, .unset] []))
    obtain ⟨M3, hf_M3⟩ : ∃ f : Nat → Int32, f = (upd M2 (((0 : Int32) + (1 : Int32)) + (1 : Int32)).toNatClampNeg (m3 2)) := ⟨_, rfl⟩
    rw [← hf_M3] at Vm274
    obtain ⟨P3, hf_P3⟩ : ∃ f : Nat → Int32, f = (upd P2 (m3 2).toNatClampNeg (((0 : Int32) + (1 : Int32)) + (1 : Int32))) := ⟨_, rfl⟩
    rw [← hf_P3] at Vp274
    have hI3 : own_Inv m3 M3 P3 3 := by rw [hf_M3, hf_P3]; exact own_add hp3 hI2 (by decide)
    refine Goes.of (fun t k => XS.iload X274.here hx rfl (hb hby at_121) rfl k) ?_
    show Goes _ _ _ _ _ _ _ (T274.setTop (mkF m 123 #[.val (.int u0), .val (.int u1), .val (.int u2), .val (.int u3), .val (.int u4), .val (.ref b121), .val (.int qq), .val (.int (4 : Int32)), .val (.ref b263), .unset, .unset, .unset] [(.int (4 : Int32))]))
    refine Goes.of (fun t k => XS.iconst X274.here hx rfl (hb hby at_123) k) ?_
    show Goes _ _ _ _ _ _ _ (T274.setTop (mkF m 124 #[.val (.int u0), .val (.int u1), .val (.int u2), .val (.int u3), .val (.int u4), .val (.ref b121), .val (.int qq), .val (.int (4 : Int32)), .val (.ref b263), .unset, .unset, .unset] [(.int (3 : Int32)), (.int (4 : Int32))]))
    refine Goes.of (fun t k => XS.icmpNo X274.here hx rfl (hb hby at_124) rfl (tlt (by decide : (3 : Int32) < (4 : Int32))).2.2.2 k) ?_
    show Goes _ _ _ _ _ _ _ (T274.setTop (mkF m 127 #[.val (.int u0), .val (.int u1), .val (.int u2), .val (.int u3), .val (.int u4), .val (.ref b121), .val (.int qq), .val (.int (4 : Int32)), .val (.ref b263), .unset, .unset, .unset] []))
    refine Goes.of (fun t k => XS.aload X274.here hx rfl (hb hby at_127) rfl rfl k) ?_
    show Goes _ _ _ _ _ _ _ (T274.setTop (mkF m 129 #[.val (.int u0), .val (.int u1), .val (.int u2), .val (.int u3), .val (.int u4), .val (.ref b121), .val (.int qq), .val (.int (4 : Int32)), .val (.ref b263), .unset, .unset, .unset] [(.ref b263)]))
    refine Goes.of (fun t k => XS.aload X274.here hx rfl (hb hby at_129) rfl rfl k) ?_
    show Goes _ _ _ _ _ _ _ (T274.setTop (mkF m 131 #[.val (.int u0), .val (.int u1), .val (.int u2), .val (.int u3), .val (.int u4), .val (.ref b121), .val (.int qq), .val (.int (4 : Int32)), .val (.ref b263), .unset, .unset, .unset] [(.ref b121), (.ref b263)]))
    refine Goes.of (fun t k => XS.iconst X274.here hx rfl (hb hby at_131) k) ?_
    show Goes _ _ _ _ _ _ _ (T274.setTop (mkF m 132 #[.val (.int u0), .val (.int u1), .val (.int u2), .val (.int u3), .val (.int u4), .val (.ref b121), .val (.int qq), .val (.int (4 : Int32)), .val (.ref b263), .unset, .unset, .unset] [(.int (3 : Int32)), (.ref b121), (.ref b263)]))
    refine Goes.of (fun t k => ldI X274 hx hZ rfl F275 (j := (3 : Int32)) (i := 3) (v := (m3 3)) (by decide) (by decide) (by decide) rfl (g := (mkF m 132 #[.val (.int u0), .val (.int u1), .val (.int u2), .val (.int u3), .val (.int u4), .val (.ref b121), .val (.int qq), .val (.int (4 : Int32)), .val (.ref b263), .unset, .unset, .unset] [(.int (3 : Int32)), (.ref b121), (.ref b263)])) rfl rfl (hb hby at_132) t k) ?_
    show Goes _ _ _ _ _ _ _ (T274.setTop (mkF m 133 #[.val (.int u0), .val (.int u1), .val (.int u2), .val (.int u3), .val (.int u4), .val (.ref b121), .val (.int qq), .val (.int (4 : Int32)), .val (.ref b263), .unset, .unset, .unset] [(.int (m3 3)), (.ref b263)]))
    obtain ⟨cq277, kq277, q277a, q277b, q277c⟩ := isOf hZ rfl Eo274
    obtain ⟨_, _, ⟨T277, L277, k277, n277⟩, -, X277, ⟨Lc277, hQ277, l277, y277, z277⟩, st277⟩ := X274.virtualBack hx (y := (⟨"com/example/slotwright/slotwright/problems/IndexSet", "add", "(I)V"⟩ : MethodName)) (z := (⟨"com/example/slotwright/slotwright/problems/IndexSet", "add", "(I)V"⟩ : MethodName)) hown (mvT hZ (hw _ (List.mem_of_getElem? (i := 23) rfl))) (mvT hZ (hw _ (List.mem_of_getElem? (i := 24) rfl))) (notFace_of_selects (args := #[]) (mvT hZ (hw _ (List.mem_of_getElem? (i := 26) rfl)))) (mvT hZ (hw _ (List.mem_of_getElem? (i := 26) rfl))) (mvT hZ (hw _ (List.mem_of_getElem? (i := 25) rfl))) (by decide) (backOf (W := 0) (rm5 l Z a0 hw [] b263 (m3 3) mm265 pp265 4 M3 P3 ((((0 : Int32) + (1 : Int32)) + (1 : Int32)) + (1 : Int32)) T274.heap n0 Z274 Eo274 Fm274 Fp274 Fs274 Vm274 Vp274 ne_b263_mm265 ne_b263_pp265 ne_mm265_pp265 g_b263 g_mm265 g_pp265 ⟨by decide, by decide⟩ (hI3.1 3 (by decide))) hZ (hw _ (List.mem_of_getElem? (i := 27) rfl)) (hw _ (List.mem_of_getElem? (i := 8) rfl)) (by decide) (by decide)) q277a q277c (g := (mkF m 133 #[.val (.int u0), .val (.int u1), .val (.int u2), .val (.int u3), .val (.int u4), .val (.ref b121), .val (.int qq), .val (.int (4 : Int32)), .val (.ref b263), .unset, .unset, .unset] [(.int (m3 3)), (.ref b263)])) rfl (by rw [hml]; rfl) (Steps.refl _) (argsL := [(.int (m3 3))]) (rest := []) (lenOf pd_5 rfl) rfl (by show 2 * 0 + _ ≤ _; exact Nat.le_of_eq rfl) (hb hby at_133) (fun _ _ => ⟨rfl, rfl, (by decide : 4 + 0 ≤ _), (by decide : 15 + 0 ≤ _)⟩)
    dsimp only [Pt.U, Pt.locs, Pt.cells, Pt.slots] at X277 l277 y277 z277 st277 hQ277
    replace l277 := l277.symm
    replace y277 := y277.symm
    replace z277 := z277.symm
    subst l277 y277 z277
    obtain ⟨rfl, N277q, K277, Eo277, Fm277, Fp277, Fs277, Vm277, Vp277⟩ := hQ277
    have F278 := F275.keep K277 (ninS ne_b121_b263 (ninS ne_b121_mm265 (ninS ne_b121_pp265 nin0)))
    have F279 := Eo274.keep K277
    have Z277 : n0 ≤ T277.heap.size := Nat.le_trans Z274 K277.1
    have N277 := Fr.app N274 N277q
    refine Goes.of (fun t k => st277.trans k) ?_
    show Goes _ _ _ _ _ _ _ (T277.setTop (mkF m 136 #[.val (.int u0), .val (.int u1), .val (.int u2), .val (.int u3), .val (.int u4), .val (.ref b121), .val (.int qq), .val (.int (4 : Int32)), .val (.ref b263), .unset, .unset, .unset] []))
    obtain ⟨M4, hf_M4⟩ : ∃ f : Nat → Int32, f = (upd M3 ((((0 : Int32) + (1 : Int32)) + (1 : Int32)) + (1 : Int32)).toNatClampNeg (m3 3)) := ⟨_, rfl⟩
    rw [← hf_M4] at Vm277
    obtain ⟨P4, hf_P4⟩ : ∃ f : Nat → Int32, f = (upd P3 (m3 3).toNatClampNeg ((((0 : Int32) + (1 : Int32)) + (1 : Int32)) + (1 : Int32))) := ⟨_, rfl⟩
    rw [← hf_P4] at Vp277
    have hI4 : own_Inv m3 M4 P4 4 := by rw [hf_M4, hf_P4]; exact own_add hp3 hI3 (by decide)
    refine Goes.of (fun t k => XS.iloadN X277.here hx rfl (hb hby at_136) rfl k) ?_
    show Goes _ _ _ _ _ _ _ (T277.setTop (mkF m 137 #[.val (.int u0), .val (.int u1), .val (.int u2), .val (.int u3), .val (.int u4), .val (.ref b121), .val (.int qq), .val (.int (4 : Int32)), .val (.ref b263), .unset, .unset, .unset] [(.int u2)]))
    refine Goes.of (fun t k => X277.ldcInt hx hown (mvT hZ (hw _ (List.mem_of_getElem? (i := 1) rfl))) (g := (mkF m 137 #[.val (.int u0), .val (.int u1), .val (.int u2), .val (.int u3), .val (.int u4), .val (.ref b121), .val (.int qq), .val (.int (4 : Int32)), .val (.ref b263), .unset, .unset, .unset] [(.int u2)])) rfl (hb hby at_137) t k) ?_
    show Goes _ _ _ _ _ _ _ (T277.setTop (mkF m 139 #[.val (.int u0), .val (.int u1), .val (.int u2), .val (.int u3), .val (.int u4), .val (.ref b121), .val (.int qq), .val (.int (4 : Int32)), .val (.ref b263), .unset, .unset, .unset] [(.int (2147483647 : Int32)), (.int u2)]))
    refine Goes.of (fun t k => XS.iand X277.here hx rfl (hb hby at_139) rfl k) ?_
    show Goes _ _ _ _ _ _ _ (T277.setTop (mkF m 140 #[.val (.int u0), .val (.int u1), .val (.int u2), .val (.int u3), .val (.int u4), .val (.ref b121), .val (.int qq), .val (.int (4 : Int32)), .val (.ref b263), .unset, .unset, .unset] [(.int (u2 &&& (2147483647 : Int32)))]))
    refine Goes.of (fun t k => XS.iload X277.here hx rfl (hb hby at_140) rfl k) ?_
    show Goes _ _ _ _ _ _ _ (T277.setTop (mkF m 142 #[.val (.int u0), .val (.int u1), .val (.int u2), .val (.int u3), .val (.int u4), .val (.ref b121), .val (.int qq), .val (.int (4 : Int32)), .val (.ref b263), .unset, .unset, .unset] [(.int (4 : Int32)), (.int (u2 &&& (2147483647 : Int32)))]))
    refine Goes.of (fun t k => iremM X277 hx (g := (mkF m 142 #[.val (.int u0), .val (.int u1), .val (.int u2), .val (.int u3), .val (.int u4), .val (.ref b121), .val (.int qq), .val (.int (4 : Int32)), .val (.ref b263), .unset, .unset, .unset] [(.int (4 : Int32)), (.int (u2 &&& (2147483647 : Int32)))])) rfl (hb hby at_142) rfl (by decide) k) ?_
    show Goes _ _ _ _ _ _ _ (T277.setTop (mkF m 143 #[.val (.int u0), .val (.int u1), .val (.int u2), .val (.int u3), .val (.int u4), .val (.ref b121), .val (.int qq), .val (.int (4 : Int32)), .val (.ref b263), .unset, .unset, .unset] [(.int ((u2 &&& (2147483647 : Int32)) % (4 : Int32)))]))
    refine Goes.of (fun t k => XS.istore X277.here hx rfl (hb hby at_143) rfl (l' := #[.val (.int u0), .val (.int u1), .val (.int u2), .val (.int u3), .val (.int u4), .val (.ref b121), .val (.int qq), .val (.int (4 : Int32)), .val (.ref b263), .val (.int ((u2 &&& (2147483647 : Int32)) % (4 : Int32))), .unset, .unset]) rfl k) ?_
    show Goes _ _ _ _ _ _ _ (T277.setTop (mkF m 145 #[.val (.int u0), .val (.int u1), .val (.int u2), .val (.int u3), .val (.int u4), .val (.ref b121), .val (.int qq), .val (.int (4 : Int32)), .val (.ref b263), .val (.int ((u2 &&& (2147483647 : Int32)) % (4 : Int32))), .unset, .unset] []))
    obtain ⟨rr, hy_rr⟩ : ∃ z, z = ((u2 &&& (2147483647 : Int32)) % (4 : Int32)) := ⟨_, rfl⟩
    rw [← hy_rr]
    show Goes _ _ _ _ _ _ _ (T277.setTop (mkF m 145 #[.val (.int u0), .val (.int u1), .val (.int u2), .val (.int u3), .val (.int u4), .val (.ref b121), .val (.int qq), .val (.int (4 : Int32)), .val (.ref b263), .val (.int rr), .unset, .unset] []))
    have h_rr := own_rem u2 (4 : Int32) (by decide)
    rw [← hy_rr, show (4 : Int32).toInt = 4 from rfl] at h_rr
    have hn_rr := nat_of (own_nn h_rr.1)
    refine Goes.of (fun t k => XS.aload X277.here hx rfl (hb hby at_145) rfl rfl k) ?_
    show Goes _ _ _ _ _ _ _ (T277.setTop (mkF m 147 #[.val (.int u0), .val (.int u1), .val (.int u2), .val (.int u3), .val (.int u4), .val (.ref b121), .val (.int qq), .val (.int (4 : Int32)), .val (.ref b263), .val (.int rr), .unset, .unset] [(.ref b263)]))
    refine Goes.of (fun t k => XS.aload X277.here hx rfl (hb hby at_147) rfl rfl k) ?_
    show Goes _ _ _ _ _ _ _ (T277.setTop (mkF m 149 #[.val (.int u0), .val (.int u1), .val (.int u2), .val (.int u3), .val (.int u4), .val (.ref b121), .val (.int qq), .val (.int (4 : Int32)), .val (.ref b263), .val (.int rr), .unset, .unset] [(.ref b121), (.ref b263)]))
    refine Goes.of (fun t k => XS.iload X277.here hx rfl (hb hby at_149) rfl k) ?_
    show Goes _ _ _ _ _ _ _ (T277.setTop (mkF m 151 #[.val (.int u0), .val (.int u1), .val (.int u2), .val (.int u3), .val (.int u4), .val (.ref b121), .val (.int qq), .val (.int (4 : Int32)), .val (.ref b263), .val (.int rr), .unset, .unset] [(.int rr), (.ref b121), (.ref b263)]))
    refine Goes.of (fun t k => ldI X277 hx hZ rfl F278 (j := rr) (i := rr.toNatClampNeg) (v := (m3 rr.toNatClampNeg)) (own_nn h_rr.1) rfl (by omega) rfl (g := (mkF m 151 #[.val (.int u0), .val (.int u1), .val (.int u2), .val (.int u3), .val (.int u4), .val (.ref b121), .val (.int qq), .val (.int (4 : Int32)), .val (.ref b263), .val (.int rr), .unset, .unset] [(.int rr), (.ref b121), (.ref b263)])) rfl rfl (hb hby at_151) t k) ?_
    show Goes _ _ _ _ _ _ _ (T277.setTop (mkF m 152 #[.val (.int u0), .val (.int u1), .val (.int u2), .val (.int u3), .val (.int u4), .val (.ref b121), .val (.int qq), .val (.int (4 : Int32)), .val (.ref b263), .val (.int rr), .unset, .unset] [(.int (m3 rr.toNatClampNeg)), (.ref b263)]))
    obtain ⟨cq280, kq280, q280a, q280b, q280c⟩ := isOf hZ rfl Eo277
    obtain ⟨_, _, ⟨T280, L280, k280, n280⟩, -, X280, ⟨Lc280, hQ280, l280, y280, z280⟩, st280⟩ := X277.virtualBack hx (y := (⟨"com/example/slotwright/slotwright/problems/IndexSet", "remove", "(I)V"⟩ : MethodName)) (z := (⟨"com/example/slotwright/slotwright/problems/IndexSet", "remove", "(I)V"⟩ : MethodName)) hown (mvT hZ (hw _ (List.mem_of_getElem? (i := 30) rfl))) (mvT hZ (hw _ (List.mem_of_getElem? (i := 31) rfl))) (notFace_of_selects (args := #[]) (mvT hZ (hw _ (List.mem_of_getElem? (i := 33) rfl)))) (mvT hZ (hw _ (List.mem_of_getElem? (i := 33) rfl))) (mvT hZ (hw _ (List.mem_of_getElem? (i := 32) rfl))) (by decide) (backOf (W := 0) (rm6 l Z a0 hw [] b263 (m3 rr.toNatClampNeg) mm265 pp265 4 M4 P4 (((((0 : Int32) + (1 : Int32)) + (1 : Int32)) + (1 : Int32)) + (1 : Int32)) T277.heap n0 Z277 Eo277 Fm277 Fp277 Fs277 Vm277 Vp277 ne_b263_mm265 ne_b263_pp265 ne_mm265_pp265 g_b263 g_mm265 g_pp265 ⟨by decide, by decide⟩ (hI4.1 _ (by omega)) (by rw [hI4.2.2.2.1 _ (by omega), len_toInt (by omega)]; omega) (by have hlk := hI4.2.2.1 3 (by decide); have hlr := hI4.1 3 (by decide); rw [← hlk] at hlr; exact hlr)) hZ (hw _ (List.mem_of_getElem? (i := 34) rfl)) (hw _ (List.mem_of_getElem? (i := 8) rfl)) (by decide) (by decide)) q280a q280c (g := (mkF m 152 #[.val (.int u0), .val (.int u1), .val (.int u2), .val (.int u3), .val (.int u4), .val (.ref b121), .val (.int qq), .val (.int (4 : Int32)), .val (.ref b263), .val (.int rr), .unset, .unset] [(.int (m3 rr.toNatClampNeg)), (.ref b263)])) rfl (by rw [hml]; rfl) (Steps.refl _) (argsL := [(.int (m3 rr.toNatClampNeg))]) (rest := []) (lenOf pd_5 rfl) rfl (by show 2 * 0 + _ ≤ _; exact Nat.le_of_eq rfl) (hb hby at_152) (fun _ _ => ⟨rfl, rfl, (by decide : 4 + 0 ≤ _), (by decide : 15 + 0 ≤ _)⟩)
    dsimp only [Pt.U, Pt.locs, Pt.cells, Pt.slots] at X280 l280 y280 z280 st280 hQ280
    replace l280 := l280.symm
    replace y280 := y280.symm
    replace z280 := z280.symm
    subst l280 y280 z280
    obtain ⟨rfl, N280q, K280, Eo280, Fm280, Fp280, Fs280, Vm280, Vp280⟩ := hQ280
    have F281 := F278.keep K280 (ninS ne_b121_b263 (ninS ne_b121_mm265 (ninS ne_b121_pp265 nin0)))
    have F282 := Eo277.keep K280
    have Z280 : n0 ≤ T280.heap.size := Nat.le_trans Z277 K280.1
    have N280 := Fr.app N277 N280q
    refine Goes.of (fun t k => st280.trans k) ?_
    show Goes _ _ _ _ _ _ _ (T280.setTop (mkF m 155 #[.val (.int u0), .val (.int u1), .val (.int u2), .val (.int u3), .val (.int u4), .val (.ref b121), .val (.int qq), .val (.int (4 : Int32)), .val (.ref b263), .val (.int rr), .unset, .unset] []))
    refine Goes.of (fun t k => XS.aload X280.here hx rfl (hb hby at_155) rfl rfl k) ?_
    show Goes _ _ _ _ _ _ _ (T280.setTop (mkF m 157 #[.val (.int u0), .val (.int u1), .val (.int u2), .val (.int u3), .val (.int u4), .val (.ref b121), .val (.int qq), .val (.int (4 : Int32)), .val (.ref b263), .val (.int rr), .unset, .unset] [(.ref b121)]))
    refine Goes.of (fun t k => XS.iload X280.here hx rfl (hb hby at_157) rfl k) ?_
    show Goes _ _ _ _ _ _ _ (T280.setTop (mkF m 159 #[.val (.int u0), .val (.int u1), .val (.int u2), .val (.int u3), .val (.int u4), .val (.ref b121), .val (.int qq), .val (.int (4 : Int32)), .val (.ref b263), .val (.int rr), .unset, .unset] [(.int rr), (.ref b121)]))
    refine Goes.of (fun t k => XS.aload X280.here hx rfl (hb hby at_159) rfl rfl k) ?_
    show Goes _ _ _ _ _ _ _ (T280.setTop (mkF m 161 #[.val (.int u0), .val (.int u1), .val (.int u2), .val (.int u3), .val (.int u4), .val (.ref b121), .val (.int qq), .val (.int (4 : Int32)), .val (.ref b263), .val (.int rr), .unset, .unset] [(.ref b121), (.int rr), (.ref b121)]))
    refine Goes.of (fun t k => XS.iload X280.here hx rfl (hb hby at_161) rfl k) ?_
    show Goes _ _ _ _ _ _ _ (T280.setTop (mkF m 163 #[.val (.int u0), .val (.int u1), .val (.int u2), .val (.int u3), .val (.int u4), .val (.ref b121), .val (.int qq), .val (.int (4 : Int32)), .val (.ref b263), .val (.int rr), .unset, .unset] [(.int (4 : Int32)), (.ref b121), (.int rr), (.ref b121)]))
    refine Goes.of (fun t k => XS.iconst X280.here hx rfl (hb hby at_163) k) ?_
    show Goes _ _ _ _ _ _ _ (T280.setTop (mkF m 164 #[.val (.int u0), .val (.int u1), .val (.int u2), .val (.int u3), .val (.int u4), .val (.ref b121), .val (.int qq), .val (.int (4 : Int32)), .val (.ref b263), .val (.int rr), .unset, .unset] [(.int (1 : Int32)), (.int (4 : Int32)), (.ref b121), (.int rr), (.ref b121)]))
    refine Goes.of (fun t k => XS.isub X280.here hx rfl (hb hby at_164) rfl k) ?_
    show Goes _ _ _ _ _ _ _ (T280.setTop (mkF m 165 #[.val (.int u0), .val (.int u1), .val (.int u2), .val (.int u3), .val (.int u4), .val (.ref b121), .val (.int qq), .val (.int (4 : Int32)), .val (.ref b263), .val (.int rr), .unset, .unset] [(.int (3 : Int32)), (.ref b121), (.int rr), (.ref b121)]))
    refine Goes.of (fun t k => ldI X280 hx hZ rfl F281 (j := (3 : Int32)) (i := 3) (v := (m3 3)) (by decide) (by decide) (by decide) rfl (g := (mkF m 165 #[.val (.int u0), .val (.int u1), .val (.int u2), .val (.int u3), .val (.int u4), .val (.ref b121), .val (.int qq), .val (.int (4 : Int32)), .val (.ref b263), .val (.int rr), .unset, .unset] [(.int (3 : Int32)), (.ref b121), (.int rr), (.ref b121)])) rfl rfl (hb hby at_165) t k) ?_
    show Goes _ _ _ _ _ _ _ (T280.setTop (mkF m 166 #[.val (.int u0), .val (.int u1), .val (.int u2), .val (.int u3), .val (.int u4), .val (.ref b121), .val (.int qq), .val (.int (4 : Int32)), .val (.ref b263), .val (.int rr), .unset, .unset] [(.int (m3 3)), (.int rr), (.ref b121)]))
    obtain ⟨T283, h283, X283, e283, W283, V283, st283⟩ := putI X280 hx hZ rfl F281 (j := rr) (x := (m3 3)) (i := rr.toNatClampNeg) (own_nn h_rr.1) rfl (by omega) (g := (mkF m 166 #[.val (.int u0), .val (.int u1), .val (.int u2), .val (.int u3), .val (.int u4), .val (.ref b121), .val (.int qq), .val (.int (4 : Int32)), .val (.ref b263), .val (.int rr), .unset, .unset] [(.int (m3 3)), (.int rr), (.ref b121)])) rfl rfl (hb hby at_166)
    have F284 := Exa.wr W283 Eo280
    have F285 := Fld.other W283 Fm280 (Or.inl (Ne.symm ne_b121_b263))
    have F286 := Fld.other W283 Fp280 (Or.inl (Ne.symm ne_b121_b263))
    have F287 := Fld.other W283 Fs280 (Or.inl (Ne.symm ne_b121_b263))
    have F288 := Vm280.other W283 (Ne.symm ne_b121_mm265)
    have F289 := Vp280.other W283 (Ne.symm ne_b121_pp265)
    have Z283 : n0 ≤ h283.size := Nat.le_trans Z280 (Keep.of_wr W283).1
    have N283 := Fr.snoc X283 N280 g_b121
    refine Goes.of st283 ?_
    show Goes _ _ _ _ _ _ _ (T283.setTop (mkF m 167 #[.val (.int u0), .val (.int u1), .val (.int u2), .val (.int u3), .val (.int u4), .val (.ref b121), .val (.int qq), .val (.int (4 : Int32)), .val (.ref b263), .val (.int rr), .unset, .unset] []))
    obtain ⟨m4, hf_m4⟩ : ∃ f : Nat → Int32, f = (upd m3 rr.toNatClampNeg (m3 3)) := ⟨_, rfl⟩
    rw [← hf_m4] at V283
    obtain ⟨Mr, hf_Mr⟩ : ∃ f : Nat → Int32, f = (upd M4 (P4 (m3 rr.toNatClampNeg).toNatClampNeg).toNatClampNeg (M4 ((((((0 : Int32) + (1 : Int32)) + (1 : Int32)) + (1 : Int32)) + (1 : Int32)) - (1 : Int32)).toNatClampNeg)) := ⟨_, rfl⟩
    rw [← hf_Mr] at F288
    obtain ⟨Pr, hf_Pr⟩ : ∃ f : Nat → Int32, f = (upd (upd P4 (M4 ((((((0 : Int32) + (1 : Int32)) + (1 : Int32)) + (1 : Int32)) + (1 : Int32)) - (1 : Int32)).toNatClampNeg).toNatClampNeg (P4 (m3 rr.toNatClampNeg).toNatClampNeg)) (m3 rr.toNatClampNeg).toNatClampNeg (-1 : Int32)) := ⟨_, rfl⟩
    rw [← hf_Pr] at F289
    have hIr : own_Inv m4 Mr Pr 3 := by rw [hf_m4, hf_Mr, hf_Pr]; exact own_rm (k := 3) (r := rr.toNatClampNeg) hI4 (by decide) (by omega) rfl rfl
    refine Goes.of (fun t k => XS.iload X283.here hx rfl (hb hby at_167) rfl k) ?_
    show Goes _ _ _ _ _ _ _ (T283.setTop (mkF m 169 #[.val (.int u0), .val (.int u1), .val (.int u2), .val (.int u3), .val (.int u4), .val (.ref b121), .val (.int qq), .val (.int (4 : Int32)), .val (.ref b263), .val (.int rr), .unset, .unset] [(.int (4 : Int32))]))
    refine Goes.of (fun t k => XS.iconst X283.here hx rfl (hb hby at_169) k) ?_
    show Goes _ _ _ _ _ _ _ (T283.setTop (mkF m 170 #[.val (.int u0), .val (.int u1), .val (.int u2), .val (.int u3), .val (.int u4), .val (.ref b121), .val (.int qq), .val (.int (4 : Int32)), .val (.ref b263), .val (.int rr), .unset, .unset] [(.int (1 : Int32)), (.int (4 : Int32))]))
    refine Goes.of (fun t k => XS.isub X283.here hx rfl (hb hby at_170) rfl k) ?_
    show Goes _ _ _ _ _ _ _ (T283.setTop (mkF m 171 #[.val (.int u0), .val (.int u1), .val (.int u2), .val (.int u3), .val (.int u4), .val (.ref b121), .val (.int qq), .val (.int (4 : Int32)), .val (.ref b263), .val (.int rr), .unset, .unset] [(.int (3 : Int32))]))
    refine Goes.of (fun t k => XS.istore X283.here hx rfl (hb hby at_171) rfl (l' := #[.val (.int u0), .val (.int u1), .val (.int u2), .val (.int u3), .val (.int u4), .val (.ref b121), .val (.int qq), .val (.int (4 : Int32)), .val (.ref b263), .val (.int rr), .val (.int (3 : Int32)), .unset]) rfl k) ?_
    show Goes _ _ _ _ _ _ _ (T283.setTop (mkF m 173 #[.val (.int u0), .val (.int u1), .val (.int u2), .val (.int u3), .val (.int u4), .val (.ref b121), .val (.int qq), .val (.int (4 : Int32)), .val (.ref b263), .val (.int rr), .val (.int (3 : Int32)), .unset] []))
    refine Goes.of (fun t k => XS.iload X283.here hx rfl (hb hby at_173) rfl k) ?_
    show Goes _ _ _ _ _ _ _ (T283.setTop (mkF m 175 #[.val (.int u0), .val (.int u1), .val (.int u2), .val (.int u3), .val (.int u4), .val (.ref b121), .val (.int qq), .val (.int (4 : Int32)), .val (.ref b263), .val (.int rr), .val (.int (3 : Int32)), .unset] [(.int u4)]))
    refine Goes.of (fun t k => XS.iconst X283.here hx rfl (hb hby at_175) k) ?_
    show Goes _ _ _ _ _ _ _ (T283.setTop (mkF m 176 #[.val (.int u0), .val (.int u1), .val (.int u2), .val (.int u3), .val (.int u4), .val (.ref b121), .val (.int qq), .val (.int (4 : Int32)), .val (.ref b263), .val (.int rr), .val (.int (3 : Int32)), .unset] [(.int (1 : Int32)), (.int u4)]))
    refine Goes.of (fun t k => XS.iand X283.here hx rfl (hb hby at_176) rfl k) ?_
    show Goes _ _ _ _ _ _ _ (T283.setTop (mkF m 177 #[.val (.int u0), .val (.int u1), .val (.int u2), .val (.int u3), .val (.int u4), .val (.ref b121), .val (.int qq), .val (.int (4 : Int32)), .val (.ref b263), .val (.int rr), .val (.int (3 : Int32)), .unset] [(.int (u4 &&& (1 : Int32)))]))
    by_cases hc290 : (u4 &&& (1 : Int32)) = (0 : Int32)
    · refine Goes.of (fun t k => XS.ifYes X283.here hx rfl (pc0 := 177) (pc' := 222) rfl (hb hby at_177) rfl ((if0 _ _).trans (teq hc290).1) (by decide) (by decide) k) ?_
      show Goes _ _ _ _ _ _ _ (T283.setTop (mkF m 222 #[.val (.int u0), .val (.int u1), .val (.int u2), .val (.int u3), .val (.int u4), .val (.ref b121), .val (.int qq), .val (.int (4 : Int32)), .val (.ref b263), .val (.int rr), .val (.int (3 : Int32)), .unset] []))
      refine Goes.of (fun t k => XS.aload X283.here hx rfl (hb hby at_222) rfl rfl k) ?_
      show Goes _ _ _ _ _ _ _ (T283.setTop (mkF m 224 #[.val (.int u0), .val (.int u1), .val (.int u2), .val (.int u3), .val (.int u4), .val (.ref b121), .val (.int qq), .val (.int (4 : Int32)), .val (.ref b263), .val (.int rr), .val (.int (3 : Int32)), .unset] [(.ref b263)]))
      obtain ⟨cq291, kq291, q291a, q291b, q291c⟩ := isOf hZ e283 F284
      obtain ⟨_, _, ⟨T291, L291, k291, n291⟩, -, X291, ⟨Lc291, hQ291, l291, y291, z291⟩, st291⟩ := X283.virtualBack hx (y := (⟨"com/example/slotwright/slotwright/problems/IndexSet", "size", "()I"⟩ : MethodName)) (z := (⟨"com/example/slotwright/slotwright/problems/IndexSet", "size", "()I"⟩ : MethodName)) hown (mvT hZ (hw _ (List.mem_of_getElem? (i := 35) rfl))) (mvT hZ (hw _ (List.mem_of_getElem? (i := 36) rfl))) (notFace_of_selects (args := #[]) (mvT hZ (hw _ (List.mem_of_getElem? (i := 38) rfl)))) (mvT hZ (hw _ (List.mem_of_getElem? (i := 38) rfl))) (mvT hZ (hw _ (List.mem_of_getElem? (i := 37) rfl))) (by decide) (backOf (W := 0) (rm7 l Z a0 hw [] b263 mm265 pp265 4 Mr Pr ((((((0 : Int32) + (1 : Int32)) + (1 : Int32)) + (1 : Int32)) + (1 : Int32)) - (1 : Int32)) h283 n0 Z283 F284 F285 F286 F287 F288 F289 ne_b263_mm265 ne_b263_pp265 ne_mm265_pp265 g_b263 g_mm265 g_pp265) hZ (hw _ (List.mem_of_getElem? (i := 39) rfl)) (hw _ (List.mem_of_getElem? (i := 8) rfl)) (by decide) (by decide)) q291a q291c (g := (mkF m 224 #[.val (.int u0), .val (.int u1), .val (.int u2), .val (.int u3), .val (.int u4), .val (.ref b121), .val (.int qq), .val (.int (4 : Int32)), .val (.ref b263), .val (.int rr), .val (.int (3 : Int32)), .unset] [(.ref b263)])) rfl (by rw [hml]; rfl) (Steps.refl _) (argsL := []) (rest := []) (lenOf pd_6 rfl) rfl (by show 2 * 0 + _ ≤ _; exact Nat.le_of_eq rfl) (hb hby at_224) (fun _ _ => ⟨rfl, e283, (by decide : 4 + 0 ≤ _), (by decide : 15 + 0 ≤ _)⟩)
      dsimp only [Pt.U, Pt.locs, Pt.cells, Pt.slots] at X291 l291 y291 z291 st291 hQ291
      replace l291 := l291.symm
      replace y291 := y291.symm
      replace z291 := z291.symm
      subst l291 y291 z291
      obtain ⟨rfl, N291q, e291⟩ := hQ291
      have N291 := Fr.app N283 N291q
      refine Goes.of (fun t k => st291.trans k) ?_
      show Goes _ _ _ _ _ _ _ (T291.setTop (mkF m 227 #[.val (.int u0), .val (.int u1), .val (.int u2), .val (.int u3), .val (.int u4), .val (.ref b121), .val (.int qq), .val (.int (4 : Int32)), .val (.ref b263), .val (.int rr), .val (.int (3 : Int32)), .unset] [(.int ((((((0 : Int32) + (1 : Int32)) + (1 : Int32)) + (1 : Int32)) + (1 : Int32)) - (1 : Int32)))]))
      refine Goes.of (fun t k => XS.iload X291.here hx rfl (hb hby at_227) rfl k) ?_
      show Goes _ _ _ _ _ _ _ (T291.setTop (mkF m 229 #[.val (.int u0), .val (.int u1), .val (.int u2), .val (.int u3), .val (.int u4), .val (.ref b121), .val (.int qq), .val (.int (4 : Int32)), .val (.ref b263), .val (.int rr), .val (.int (3 : Int32)), .unset] [(.int (3 : Int32)), (.int ((((((0 : Int32) + (1 : Int32)) + (1 : Int32)) + (1 : Int32)) + (1 : Int32)) - (1 : Int32)))]))
      refine Goes.of (fun t k => XS.icmpNo X291.here hx rfl (hb hby at_229) rfl (teq (by decide)).2 k) ?_
      show Goes _ _ _ _ _ _ _ (T291.setTop (mkF m 232 #[.val (.int u0), .val (.int u1), .val (.int u2), .val (.int u3), .val (.int u4), .val (.ref b121), .val (.int qq), .val (.int (4 : Int32)), .val (.ref b263), .val (.int rr), .val (.int (3 : Int32)), .unset] []))
      refine Goes.of (fun t k => XS.aload X291.here hx rfl (hb hby at_232) rfl rfl k) ?_
      show Goes _ _ _ _ _ _ _ (T291.setTop (mkF m 234 #[.val (.int u0), .val (.int u1), .val (.int u2), .val (.int u3), .val (.int u4), .val (.ref b121), .val (.int qq), .val (.int (4 : Int32)), .val (.ref b263), .val (.int rr), .val (.int (3 : Int32)), .unset] [(.ref b263)]))
      refine Goes.of (fun t k => XS.aload X291.here hx rfl (hb hby at_234) rfl rfl k) ?_
      show Goes _ _ _ _ _ _ _ (T291.setTop (mkF m 236 #[.val (.int u0), .val (.int u1), .val (.int u2), .val (.int u3), .val (.int u4), .val (.ref b121), .val (.int qq), .val (.int (4 : Int32)), .val (.ref b263), .val (.int rr), .val (.int (3 : Int32)), .unset] [(.ref b121), (.ref b263)]))
      refine Goes.of (fun t k => XS.iload X291.here hx rfl (hb hby at_236) rfl k) ?_
      show Goes _ _ _ _ _ _ _ (T291.setTop (mkF m 238 #[.val (.int u0), .val (.int u1), .val (.int u2), .val (.int u3), .val (.int u4), .val (.ref b121), .val (.int qq), .val (.int (4 : Int32)), .val (.ref b263), .val (.int rr), .val (.int (3 : Int32)), .unset] [(.int (3 : Int32)), (.ref b121), (.ref b263)]))
      refine Goes.of (fun t k => XS.iconst X291.here hx rfl (hb hby at_238) k) ?_
      show Goes _ _ _ _ _ _ _ (T291.setTop (mkF m 239 #[.val (.int u0), .val (.int u1), .val (.int u2), .val (.int u3), .val (.int u4), .val (.ref b121), .val (.int qq), .val (.int (4 : Int32)), .val (.ref b263), .val (.int rr), .val (.int (3 : Int32)), .unset] [(.int (0 : Int32)), (.int (3 : Int32)), (.ref b121), (.ref b263)]))
      obtain ⟨_, _, ⟨T292, L292, k292, n292⟩, -, X292, ⟨Lc292, hQ292, l292, y292, z292⟩, st292⟩ := Jvm.LawKit.callS X291 hx (y := (⟨"com/example/slotwright/slotwright/problems/IndexSetRemovePinLaw", "at", "(Lcom/example/slotwright/slotwright/problems/IndexSet;[III)Z"⟩ : MethodName)) hown (mvT hZ (hw _ (List.mem_of_getElem? (i := 40) rfl))) (mvT hZ (hw _ (List.mem_of_getElem? (i := 41) rfl))) (mvT hZ (hw _ (List.mem_of_getElem? (i := 4) rfl))) (mvT hZ (hw _ (List.mem_of_getElem? (i := 42) rfl))) (by decide) (backOf (W := 0) (rm8 l Z a0 hw [] b263 b121 (3 : Int32) (0 : Int32) mm265 pp265 4 Mr Pr ((((((0 : Int32) + (1 : Int32)) + (1 : Int32)) + (1 : Int32)) + (1 : Int32)) - (1 : Int32)) m4 h283 n0 Z283 F284 F285 F286 F287 F288 F289 ne_b263_mm265 ne_b263_pp265 ne_mm265_pp265 g_b263 g_mm265 g_pp265 V283 (by decide) (by decide) (fun q => hIr.2.2.1 0 (by decide))) hZ (hw _ (List.mem_of_getElem? (i := 42) rfl)) (hw _ (List.mem_of_getElem? (i := 4) rfl)) (by decide) (by decide)) (g := (mkF m 239 #[.val (.int u0), .val (.int u1), .val (.int u2), .val (.int u3), .val (.int u4), .val (.ref b121), .val (.int qq), .val (.int (4 : Int32)), .val (.ref b263), .val (.int rr), .val (.int (3 : Int32)), .unset] [(.int (0 : Int32)), (.int (3 : Int32)), (.ref b121), (.ref b263)])) rfl (by rw [hml]; rfl) (argsL := [(.ref b263), (.ref b121), (.int (3 : Int32)), (.int (0 : Int32))]) (rest := []) (lenOf pd_7 rfl) rfl (by show 2 * 0 + _ ≤ _; exact Nat.le_of_eq rfl) (hb hby at_239) (fun _ _ => ⟨rfl, e291, (by decide : 4 + 0 ≤ _), (by decide : 15 + 0 ≤ _)⟩)
      dsimp only [Pt.U, Pt.locs, Pt.cells, Pt.slots] at X292 l292 y292 z292 st292 hQ292
      replace l292 := l292.symm
      replace y292 := y292.symm
      replace z292 := z292.symm
      subst l292 y292 z292
      obtain ⟨rfl, N292q, e292⟩ := hQ292
      have N292 := Fr.app N291 N292q
      refine Goes.of st292 ?_
      show Goes _ _ _ _ _ _ _ (T292.setTop (mkF m 242 #[.val (.int u0), .val (.int u1), .val (.int u2), .val (.int u3), .val (.int u4), .val (.ref b121), .val (.int qq), .val (.int (4 : Int32)), .val (.ref b263), .val (.int rr), .val (.int (3 : Int32)), .unset] [(.int (1 : Int32))]))
      refine Goes.of (fun t k => XS.ifNo X292.here hx rfl (hb hby at_242) rfl ((if0 _ _).trans (feq (by decide : ¬ ((1 : Int32) = (0 : Int32)))).1) k) ?_
      show Goes _ _ _ _ _ _ _ (T292.setTop (mkF m 245 #[.val (.int u0), .val (.int u1), .val (.int u2), .val (.int u3), .val (.int u4), .val (.ref b121), .val (.int qq), .val (.int (4 : Int32)), .val (.ref b263), .val (.int rr), .val (.int (3 : Int32)), .unset] []))
      refine Goes.of (fun t k => XS.aload X292.here hx rfl (hb hby at_245) rfl rfl k) ?_
      show Goes _ _ _ _ _ _ _ (T292.setTop (mkF m 247 #[.val (.int u0), .val (.int u1), .val (.int u2), .val (.int u3), .val (.int u4), .val (.ref b121), .val (.int qq), .val (.int (4 : Int32)), .val (.ref b263), .val (.int rr), .val (.int (3 : Int32)), .unset] [(.ref b263)]))
      refine Goes.of (fun t k => XS.aload X292.here hx rfl (hb hby at_247) rfl rfl k) ?_
      show Goes _ _ _ _ _ _ _ (T292.setTop (mkF m 249 #[.val (.int u0), .val (.int u1), .val (.int u2), .val (.int u3), .val (.int u4), .val (.ref b121), .val (.int qq), .val (.int (4 : Int32)), .val (.ref b263), .val (.int rr), .val (.int (3 : Int32)), .unset] [(.ref b121), (.ref b263)]))
      refine Goes.of (fun t k => XS.iload X292.here hx rfl (hb hby at_249) rfl k) ?_
      show Goes _ _ _ _ _ _ _ (T292.setTop (mkF m 251 #[.val (.int u0), .val (.int u1), .val (.int u2), .val (.int u3), .val (.int u4), .val (.ref b121), .val (.int qq), .val (.int (4 : Int32)), .val (.ref b263), .val (.int rr), .val (.int (3 : Int32)), .unset] [(.int (3 : Int32)), (.ref b121), (.ref b263)]))
      refine Goes.of (fun t k => XS.iconst X292.here hx rfl (hb hby at_251) k) ?_
      show Goes _ _ _ _ _ _ _ (T292.setTop (mkF m 252 #[.val (.int u0), .val (.int u1), .val (.int u2), .val (.int u3), .val (.int u4), .val (.ref b121), .val (.int qq), .val (.int (4 : Int32)), .val (.ref b263), .val (.int rr), .val (.int (3 : Int32)), .unset] [(.int (1 : Int32)), (.int (3 : Int32)), (.ref b121), (.ref b263)]))
      obtain ⟨_, _, ⟨T293, L293, k293, n293⟩, -, X293, ⟨Lc293, hQ293, l293, y293, z293⟩, st293⟩ := Jvm.LawKit.callS X292 hx (y := (⟨"com/example/slotwright/slotwright/problems/IndexSetRemovePinLaw", "at", "(Lcom/example/slotwright/slotwright/problems/IndexSet;[III)Z"⟩ : MethodName)) hown (mvT hZ (hw _ (List.mem_of_getElem? (i := 40) rfl))) (mvT hZ (hw _ (List.mem_of_getElem? (i := 41) rfl))) (mvT hZ (hw _ (List.mem_of_getElem? (i := 4) rfl))) (mvT hZ (hw _ (List.mem_of_getElem? (i := 42) rfl))) (by decide) (backOf (W := 0) (rm8 l Z a0 hw [] b263 b121 (3 : Int32) (1 : Int32) mm265 pp265 4 Mr Pr ((((((0 : Int32) + (1 : Int32)) + (1 : Int32)) + (1 : Int32)) + (1 : Int32)) - (1 : Int32)) m4 h283 n0 Z283 F284 F285 F286 F287 F288 F289 ne_b263_mm265 ne_b263_pp265 ne_mm265_pp265 g_b263 g_mm265 g_pp265 V283 (by decide) (by decide) (fun q => hIr.2.2.1 1 (by decide))) hZ (hw _ (List.mem_of_getElem? (i := 42) rfl)) (hw _ (List.mem_of_getElem? (i := 4) rfl)) (by decide) (by decide)) (g := (mkF m 252 #[.val (.int u0), .val (.int u1), .val (.int u2), .val (.int u3), .val (.int u4), .val (.ref b121), .val (.int qq), .val (.int (4 : Int32)), .val (.ref b263), .val (.int rr), .val (.int (3 : Int32)), .unset] [(.int (1 : Int32)), (.int (3 : Int32)), (.ref b121), (.ref b263)])) rfl (by rw [hml]; rfl) (argsL := [(.ref b263), (.ref b121), (.int (3 : Int32)), (.int (1 : Int32))]) (rest := []) (lenOf pd_7 rfl) rfl (by show 2 * 0 + _ ≤ _; exact Nat.le_of_eq rfl) (hb hby at_252) (fun _ _ => ⟨rfl, e292, (by decide : 4 + 0 ≤ _), (by decide : 15 + 0 ≤ _)⟩)
      dsimp only [Pt.U, Pt.locs, Pt.cells, Pt.slots] at X293 l293 y293 z293 st293 hQ293
      replace l293 := l293.symm
      replace y293 := y293.symm
      replace z293 := z293.symm
      subst l293 y293 z293
      obtain ⟨rfl, N293q, e293⟩ := hQ293
      have N293 := Fr.app N292 N293q
      refine Goes.of st293 ?_
      show Goes _ _ _ _ _ _ _ (T293.setTop (mkF m 255 #[.val (.int u0), .val (.int u1), .val (.int u2), .val (.int u3), .val (.int u4), .val (.ref b121), .val (.int qq), .val (.int (4 : Int32)), .val (.ref b263), .val (.int rr), .val (.int (3 : Int32)), .unset] [(.int (1 : Int32))]))
      refine Goes.of (fun t k => XS.ifNo X293.here hx rfl (hb hby at_255) rfl ((if0 _ _).trans (feq (by decide : ¬ ((1 : Int32) = (0 : Int32)))).1) k) ?_
      show Goes _ _ _ _ _ _ _ (T293.setTop (mkF m 258 #[.val (.int u0), .val (.int u1), .val (.int u2), .val (.int u3), .val (.int u4), .val (.ref b121), .val (.int qq), .val (.int (4 : Int32)), .val (.ref b263), .val (.int rr), .val (.int (3 : Int32)), .unset] []))
      refine Goes.of (fun t k => XS.aload X293.here hx rfl (hb hby at_258) rfl rfl k) ?_
      show Goes _ _ _ _ _ _ _ (T293.setTop (mkF m 260 #[.val (.int u0), .val (.int u1), .val (.int u2), .val (.int u3), .val (.int u4), .val (.ref b121), .val (.int qq), .val (.int (4 : Int32)), .val (.ref b263), .val (.int rr), .val (.int (3 : Int32)), .unset] [(.ref b263)]))
      refine Goes.of (fun t k => XS.aload X293.here hx rfl (hb hby at_260) rfl rfl k) ?_
      show Goes _ _ _ _ _ _ _ (T293.setTop (mkF m 262 #[.val (.int u0), .val (.int u1), .val (.int u2), .val (.int u3), .val (.int u4), .val (.ref b121), .val (.int qq), .val (.int (4 : Int32)), .val (.ref b263), .val (.int rr), .val (.int (3 : Int32)), .unset] [(.ref b121), (.ref b263)]))
      refine Goes.of (fun t k => XS.iload X293.here hx rfl (hb hby at_262) rfl k) ?_
      show Goes _ _ _ _ _ _ _ (T293.setTop (mkF m 264 #[.val (.int u0), .val (.int u1), .val (.int u2), .val (.int u3), .val (.int u4), .val (.ref b121), .val (.int qq), .val (.int (4 : Int32)), .val (.ref b263), .val (.int rr), .val (.int (3 : Int32)), .unset] [(.int (3 : Int32)), (.ref b121), (.ref b263)]))
      refine Goes.of (fun t k => XS.iconst X293.here hx rfl (hb hby at_264) k) ?_
      show Goes _ _ _ _ _ _ _ (T293.setTop (mkF m 265 #[.val (.int u0), .val (.int u1), .val (.int u2), .val (.int u3), .val (.int u4), .val (.ref b121), .val (.int qq), .val (.int (4 : Int32)), .val (.ref b263), .val (.int rr), .val (.int (3 : Int32)), .unset] [(.int (2 : Int32)), (.int (3 : Int32)), (.ref b121), (.ref b263)]))
      obtain ⟨_, _, ⟨T294, L294, k294, n294⟩, -, X294, ⟨Lc294, hQ294, l294, y294, z294⟩, st294⟩ := Jvm.LawKit.callS X293 hx (y := (⟨"com/example/slotwright/slotwright/problems/IndexSetRemovePinLaw", "at", "(Lcom/example/slotwright/slotwright/problems/IndexSet;[III)Z"⟩ : MethodName)) hown (mvT hZ (hw _ (List.mem_of_getElem? (i := 40) rfl))) (mvT hZ (hw _ (List.mem_of_getElem? (i := 41) rfl))) (mvT hZ (hw _ (List.mem_of_getElem? (i := 4) rfl))) (mvT hZ (hw _ (List.mem_of_getElem? (i := 42) rfl))) (by decide) (backOf (W := 0) (rm8 l Z a0 hw [] b263 b121 (3 : Int32) (2 : Int32) mm265 pp265 4 Mr Pr ((((((0 : Int32) + (1 : Int32)) + (1 : Int32)) + (1 : Int32)) + (1 : Int32)) - (1 : Int32)) m4 h283 n0 Z283 F284 F285 F286 F287 F288 F289 ne_b263_mm265 ne_b263_pp265 ne_mm265_pp265 g_b263 g_mm265 g_pp265 V283 (by decide) (by decide) (fun q => hIr.2.2.1 2 (by decide))) hZ (hw _ (List.mem_of_getElem? (i := 42) rfl)) (hw _ (List.mem_of_getElem? (i := 4) rfl)) (by decide) (by decide)) (g := (mkF m 265 #[.val (.int u0), .val (.int u1), .val (.int u2), .val (.int u3), .val (.int u4), .val (.ref b121), .val (.int qq), .val (.int (4 : Int32)), .val (.ref b263), .val (.int rr), .val (.int (3 : Int32)), .unset] [(.int (2 : Int32)), (.int (3 : Int32)), (.ref b121), (.ref b263)])) rfl (by rw [hml]; rfl) (argsL := [(.ref b263), (.ref b121), (.int (3 : Int32)), (.int (2 : Int32))]) (rest := []) (lenOf pd_7 rfl) rfl (by show 2 * 0 + _ ≤ _; exact Nat.le_of_eq rfl) (hb hby at_265) (fun _ _ => ⟨rfl, e293, (by decide : 4 + 0 ≤ _), (by decide : 15 + 0 ≤ _)⟩)
      dsimp only [Pt.U, Pt.locs, Pt.cells, Pt.slots] at X294 l294 y294 z294 st294 hQ294
      replace l294 := l294.symm
      replace y294 := y294.symm
      replace z294 := z294.symm
      subst l294 y294 z294
      obtain ⟨rfl, N294q, e294⟩ := hQ294
      have N294 := Fr.app N293 N294q
      refine Goes.of st294 ?_
      show Goes _ _ _ _ _ _ _ (T294.setTop (mkF m 268 #[.val (.int u0), .val (.int u1), .val (.int u2), .val (.int u3), .val (.int u4), .val (.ref b121), .val (.int qq), .val (.int (4 : Int32)), .val (.ref b263), .val (.int rr), .val (.int (3 : Int32)), .unset] [(.int (1 : Int32))]))
      refine Goes.of (fun t k => XS.ifNo X294.here hx rfl (hb hby at_268) rfl ((if0 _ _).trans (feq (by decide : ¬ ((1 : Int32) = (0 : Int32)))).1) k) ?_
      show Goes _ _ _ _ _ _ _ (T294.setTop (mkF m 271 #[.val (.int u0), .val (.int u1), .val (.int u2), .val (.int u3), .val (.int u4), .val (.ref b121), .val (.int qq), .val (.int (4 : Int32)), .val (.ref b263), .val (.int rr), .val (.int (3 : Int32)), .unset] []))
      refine Goes.of (fun t k => XS.aload X294.here hx rfl (hb hby at_271) rfl rfl k) ?_
      show Goes _ _ _ _ _ _ _ (T294.setTop (mkF m 273 #[.val (.int u0), .val (.int u1), .val (.int u2), .val (.int u3), .val (.int u4), .val (.ref b121), .val (.int qq), .val (.int (4 : Int32)), .val (.ref b263), .val (.int rr), .val (.int (3 : Int32)), .unset] [(.ref b263)]))
      refine Goes.of (fun t k => XS.aload X294.here hx rfl (hb hby at_273) rfl rfl k) ?_
      show Goes _ _ _ _ _ _ _ (T294.setTop (mkF m 275 #[.val (.int u0), .val (.int u1), .val (.int u2), .val (.int u3), .val (.int u4), .val (.ref b121), .val (.int qq), .val (.int (4 : Int32)), .val (.ref b263), .val (.int rr), .val (.int (3 : Int32)), .unset] [(.ref b121), (.ref b263)]))
      refine Goes.of (fun t k => XS.iload X294.here hx rfl (hb hby at_275) rfl k) ?_
      show Goes _ _ _ _ _ _ _ (T294.setTop (mkF m 277 #[.val (.int u0), .val (.int u1), .val (.int u2), .val (.int u3), .val (.int u4), .val (.ref b121), .val (.int qq), .val (.int (4 : Int32)), .val (.ref b263), .val (.int rr), .val (.int (3 : Int32)), .unset] [(.int (3 : Int32)), (.ref b121), (.ref b263)]))
      refine Goes.of (fun t k => XS.iconst X294.here hx rfl (hb hby at_277) k) ?_
      show Goes _ _ _ _ _ _ _ (T294.setTop (mkF m 278 #[.val (.int u0), .val (.int u1), .val (.int u2), .val (.int u3), .val (.int u4), .val (.ref b121), .val (.int qq), .val (.int (4 : Int32)), .val (.ref b263), .val (.int rr), .val (.int (3 : Int32)), .unset] [(.int (0 : Int32)), (.int (3 : Int32)), (.ref b121), (.ref b263)]))
      obtain ⟨_, _, ⟨T295, L295, k295, n295⟩, -, X295, ⟨Lc295, hQ295, l295, y295, z295⟩, st295⟩ := Jvm.LawKit.callS X294 hx (y := (⟨"com/example/slotwright/slotwright/problems/IndexSetRemovePinLaw", "in", "(Lcom/example/slotwright/slotwright/problems/IndexSet;[III)Z"⟩ : MethodName)) hown (mvT hZ (hw _ (List.mem_of_getElem? (i := 48) rfl))) (mvT hZ (hw _ (List.mem_of_getElem? (i := 49) rfl))) (mvT hZ (hw _ (List.mem_of_getElem? (i := 4) rfl))) (mvT hZ (hw _ (List.mem_of_getElem? (i := 50) rfl))) (by decide) (backOf (W := 0) (rm10 l Z a0 hw [] b263 b121 (3 : Int32) (0 : Int32) mm265 pp265 4 Mr Pr ((((((0 : Int32) + (1 : Int32)) + (1 : Int32)) + (1 : Int32)) + (1 : Int32)) - (1 : Int32)) m4 h283 n0 Z283 F284 F285 F286 F287 F288 F289 ne_b263_mm265 ne_b263_pp265 ne_mm265_pp265 g_b263 g_mm265 g_pp265 V283 ⟨by decide, by decide⟩ (by decide) (own_chk hIr (by decide) (by decide) ⟨by decide, by decide⟩)) hZ (hw _ (List.mem_of_getElem? (i := 50) rfl)) (hw _ (List.mem_of_getElem? (i := 4) rfl)) (by decide) (by decide)) (g := (mkF m 278 #[.val (.int u0), .val (.int u1), .val (.int u2), .val (.int u3), .val (.int u4), .val (.ref b121), .val (.int qq), .val (.int (4 : Int32)), .val (.ref b263), .val (.int rr), .val (.int (3 : Int32)), .unset] [(.int (0 : Int32)), (.int (3 : Int32)), (.ref b121), (.ref b263)])) rfl (by rw [hml]; rfl) (argsL := [(.ref b263), (.ref b121), (.int (3 : Int32)), (.int (0 : Int32))]) (rest := []) (lenOf pd_7 rfl) rfl (by show 2 * 0 + _ ≤ _; exact Nat.le_of_eq rfl) (hb hby at_278) (fun _ _ => ⟨rfl, e294, (by decide : 4 + 0 ≤ _), (by decide : 15 + 0 ≤ _)⟩)
      dsimp only [Pt.U, Pt.locs, Pt.cells, Pt.slots] at X295 l295 y295 z295 st295 hQ295
      replace l295 := l295.symm
      replace y295 := y295.symm
      replace z295 := z295.symm
      subst l295 y295 z295
      obtain ⟨rfl, N295q, e295⟩ := hQ295
      have N295 := Fr.app N294 N295q
      refine Goes.of st295 ?_
      show Goes _ _ _ _ _ _ _ (T295.setTop (mkF m 281 #[.val (.int u0), .val (.int u1), .val (.int u2), .val (.int u3), .val (.int u4), .val (.ref b121), .val (.int qq), .val (.int (4 : Int32)), .val (.ref b263), .val (.int rr), .val (.int (3 : Int32)), .unset] [(.int (1 : Int32))]))
      refine Goes.of (fun t k => XS.ifNo X295.here hx rfl (hb hby at_281) rfl ((if0 _ _).trans (feq (by decide : ¬ ((1 : Int32) = (0 : Int32)))).1) k) ?_
      show Goes _ _ _ _ _ _ _ (T295.setTop (mkF m 284 #[.val (.int u0), .val (.int u1), .val (.int u2), .val (.int u3), .val (.int u4), .val (.ref b121), .val (.int qq), .val (.int (4 : Int32)), .val (.ref b263), .val (.int rr), .val (.int (3 : Int32)), .unset] []))
      refine Goes.of (fun t k => XS.aload X295.here hx rfl (hb hby at_284) rfl rfl k) ?_
      show Goes _ _ _ _ _ _ _ (T295.setTop (mkF m 286 #[.val (.int u0), .val (.int u1), .val (.int u2), .val (.int u3), .val (.int u4), .val (.ref b121), .val (.int qq), .val (.int (4 : Int32)), .val (.ref b263), .val (.int rr), .val (.int (3 : Int32)), .unset] [(.ref b263)]))
      refine Goes.of (fun t k => XS.aload X295.here hx rfl (hb hby at_286) rfl rfl k) ?_
      show Goes _ _ _ _ _ _ _ (T295.setTop (mkF m 288 #[.val (.int u0), .val (.int u1), .val (.int u2), .val (.int u3), .val (.int u4), .val (.ref b121), .val (.int qq), .val (.int (4 : Int32)), .val (.ref b263), .val (.int rr), .val (.int (3 : Int32)), .unset] [(.ref b121), (.ref b263)]))
      refine Goes.of (fun t k => XS.iload X295.here hx rfl (hb hby at_288) rfl k) ?_
      show Goes _ _ _ _ _ _ _ (T295.setTop (mkF m 290 #[.val (.int u0), .val (.int u1), .val (.int u2), .val (.int u3), .val (.int u4), .val (.ref b121), .val (.int qq), .val (.int (4 : Int32)), .val (.ref b263), .val (.int rr), .val (.int (3 : Int32)), .unset] [(.int (3 : Int32)), (.ref b121), (.ref b263)]))
      refine Goes.of (fun t k => XS.iconst X295.here hx rfl (hb hby at_290) k) ?_
      show Goes _ _ _ _ _ _ _ (T295.setTop (mkF m 291 #[.val (.int u0), .val (.int u1), .val (.int u2), .val (.int u3), .val (.int u4), .val (.ref b121), .val (.int qq), .val (.int (4 : Int32)), .val (.ref b263), .val (.int rr), .val (.int (3 : Int32)), .unset] [(.int (1 : Int32)), (.int (3 : Int32)), (.ref b121), (.ref b263)]))
      obtain ⟨_, _, ⟨T296, L296, k296, n296⟩, -, X296, ⟨Lc296, hQ296, l296, y296, z296⟩, st296⟩ := Jvm.LawKit.callS X295 hx (y := (⟨"com/example/slotwright/slotwright/problems/IndexSetRemovePinLaw", "in", "(Lcom/example/slotwright/slotwright/problems/IndexSet;[III)Z"⟩ : MethodName)) hown (mvT hZ (hw _ (List.mem_of_getElem? (i := 48) rfl))) (mvT hZ (hw _ (List.mem_of_getElem? (i := 49) rfl))) (mvT hZ (hw _ (List.mem_of_getElem? (i := 4) rfl))) (mvT hZ (hw _ (List.mem_of_getElem? (i := 50) rfl))) (by decide) (backOf (W := 0) (rm10 l Z a0 hw [] b263 b121 (3 : Int32) (1 : Int32) mm265 pp265 4 Mr Pr ((((((0 : Int32) + (1 : Int32)) + (1 : Int32)) + (1 : Int32)) + (1 : Int32)) - (1 : Int32)) m4 h283 n0 Z283 F284 F285 F286 F287 F288 F289 ne_b263_mm265 ne_b263_pp265 ne_mm265_pp265 g_b263 g_mm265 g_pp265 V283 ⟨by decide, by decide⟩ (by decide) (own_chk hIr (by decide) (by decide) ⟨by decide, by decide⟩)) hZ (hw _ (List.mem_of_getElem? (i := 50) rfl)) (hw _ (List.mem_of_getElem? (i := 4) rfl)) (by decide) (by decide)) (g := (mkF m 291 #[.val (.int u0), .val (.int u1), .val (.int u2), .val (.int u3), .val (.int u4), .val (.ref b121), .val (.int qq), .val (.int (4 : Int32)), .val (.ref b263), .val (.int rr), .val (.int (3 : Int32)), .unset] [(.int (1 : Int32)), (.int (3 : Int32)), (.ref b121), (.ref b263)])) rfl (by rw [hml]; rfl) (argsL := [(.ref b263), (.ref b121), (.int (3 : Int32)), (.int (1 : Int32))]) (rest := []) (lenOf pd_7 rfl) rfl (by show 2 * 0 + _ ≤ _; exact Nat.le_of_eq rfl) (hb hby at_291) (fun _ _ => ⟨rfl, e295, (by decide : 4 + 0 ≤ _), (by decide : 15 + 0 ≤ _)⟩)
      dsimp only [Pt.U, Pt.locs, Pt.cells, Pt.slots] at X296 l296 y296 z296 st296 hQ296
      replace l296 := l296.symm
      replace y296 := y296.symm
      replace z296 := z296.symm
      subst l296 y296 z296
      obtain ⟨rfl, N296q, e296⟩ := hQ296
      have N296 := Fr.app N295 N296q
      refine Goes.of st296 ?_
      show Goes _ _ _ _ _ _ _ (T296.setTop (mkF m 294 #[.val (.int u0), .val (.int u1), .val (.int u2), .val (.int u3), .val (.int u4), .val (.ref b121), .val (.int qq), .val (.int (4 : Int32)), .val (.ref b263), .val (.int rr), .val (.int (3 : Int32)), .unset] [(.int (1 : Int32))]))
      refine Goes.of (fun t k => XS.ifNo X296.here hx rfl (hb hby at_294) rfl ((if0 _ _).trans (feq (by decide : ¬ ((1 : Int32) = (0 : Int32)))).1) k) ?_
      show Goes _ _ _ _ _ _ _ (T296.setTop (mkF m 297 #[.val (.int u0), .val (.int u1), .val (.int u2), .val (.int u3), .val (.int u4), .val (.ref b121), .val (.int qq), .val (.int (4 : Int32)), .val (.ref b263), .val (.int rr), .val (.int (3 : Int32)), .unset] []))
      refine Goes.of (fun t k => XS.aload X296.here hx rfl (hb hby at_297) rfl rfl k) ?_
      show Goes _ _ _ _ _ _ _ (T296.setTop (mkF m 299 #[.val (.int u0), .val (.int u1), .val (.int u2), .val (.int u3), .val (.int u4), .val (.ref b121), .val (.int qq), .val (.int (4 : Int32)), .val (.ref b263), .val (.int rr), .val (.int (3 : Int32)), .unset] [(.ref b263)]))
      refine Goes.of (fun t k => XS.aload X296.here hx rfl (hb hby at_299) rfl rfl k) ?_
      show Goes _ _ _ _ _ _ _ (T296.setTop (mkF m 301 #[.val (.int u0), .val (.int u1), .val (.int u2), .val (.int u3), .val (.int u4), .val (.ref b121), .val (.int qq), .val (.int (4 : Int32)), .val (.ref b263), .val (.int rr), .val (.int (3 : Int32)), .unset] [(.ref b121), (.ref b263)]))
      refine Goes.of (fun t k => XS.iload X296.here hx rfl (hb hby at_301) rfl k) ?_
      show Goes _ _ _ _ _ _ _ (T296.setTop (mkF m 303 #[.val (.int u0), .val (.int u1), .val (.int u2), .val (.int u3), .val (.int u4), .val (.ref b121), .val (.int qq), .val (.int (4 : Int32)), .val (.ref b263), .val (.int rr), .val (.int (3 : Int32)), .unset] [(.int (3 : Int32)), (.ref b121), (.ref b263)]))
      refine Goes.of (fun t k => XS.iconst X296.here hx rfl (hb hby at_303) k) ?_
      show Goes _ _ _ _ _ _ _ (T296.setTop (mkF m 304 #[.val (.int u0), .val (.int u1), .val (.int u2), .val (.int u3), .val (.int u4), .val (.ref b121), .val (.int qq), .val (.int (4 : Int32)), .val (.ref b263), .val (.int rr), .val (.int (3 : Int32)), .unset] [(.int (2 : Int32)), (.int (3 : Int32)), (.ref b121), (.ref b263)]))
      obtain ⟨_, _, ⟨T297, L297, k297, n297⟩, -, X297, ⟨Lc297, hQ297, l297, y297, z297⟩, st297⟩ := Jvm.LawKit.callS X296 hx (y := (⟨"com/example/slotwright/slotwright/problems/IndexSetRemovePinLaw", "in", "(Lcom/example/slotwright/slotwright/problems/IndexSet;[III)Z"⟩ : MethodName)) hown (mvT hZ (hw _ (List.mem_of_getElem? (i := 48) rfl))) (mvT hZ (hw _ (List.mem_of_getElem? (i := 49) rfl))) (mvT hZ (hw _ (List.mem_of_getElem? (i := 4) rfl))) (mvT hZ (hw _ (List.mem_of_getElem? (i := 50) rfl))) (by decide) (backOf (W := 0) (rm10 l Z a0 hw [] b263 b121 (3 : Int32) (2 : Int32) mm265 pp265 4 Mr Pr ((((((0 : Int32) + (1 : Int32)) + (1 : Int32)) + (1 : Int32)) + (1 : Int32)) - (1 : Int32)) m4 h283 n0 Z283 F284 F285 F286 F287 F288 F289 ne_b263_mm265 ne_b263_pp265 ne_mm265_pp265 g_b263 g_mm265 g_pp265 V283 ⟨by decide, by decide⟩ (by decide) (own_chk hIr (by decide) (by decide) ⟨by decide, by decide⟩)) hZ (hw _ (List.mem_of_getElem? (i := 50) rfl)) (hw _ (List.mem_of_getElem? (i := 4) rfl)) (by decide) (by decide)) (g := (mkF m 304 #[.val (.int u0), .val (.int u1), .val (.int u2), .val (.int u3), .val (.int u4), .val (.ref b121), .val (.int qq), .val (.int (4 : Int32)), .val (.ref b263), .val (.int rr), .val (.int (3 : Int32)), .unset] [(.int (2 : Int32)), (.int (3 : Int32)), (.ref b121), (.ref b263)])) rfl (by rw [hml]; rfl) (argsL := [(.ref b263), (.ref b121), (.int (3 : Int32)), (.int (2 : Int32))]) (rest := []) (lenOf pd_7 rfl) rfl (by show 2 * 0 + _ ≤ _; exact Nat.le_of_eq rfl) (hb hby at_304) (fun _ _ => ⟨rfl, e296, (by decide : 4 + 0 ≤ _), (by decide : 15 + 0 ≤ _)⟩)
      dsimp only [Pt.U, Pt.locs, Pt.cells, Pt.slots] at X297 l297 y297 z297 st297 hQ297
      replace l297 := l297.symm
      replace y297 := y297.symm
      replace z297 := z297.symm
      subst l297 y297 z297
      obtain ⟨rfl, N297q, e297⟩ := hQ297
      have N297 := Fr.app N296 N297q
      refine Goes.of st297 ?_
      show Goes _ _ _ _ _ _ _ (T297.setTop (mkF m 307 #[.val (.int u0), .val (.int u1), .val (.int u2), .val (.int u3), .val (.int u4), .val (.ref b121), .val (.int qq), .val (.int (4 : Int32)), .val (.ref b263), .val (.int rr), .val (.int (3 : Int32)), .unset] [(.int (1 : Int32))]))
      refine Goes.of (fun t k => XS.ifNo X297.here hx rfl (hb hby at_307) rfl ((if0 _ _).trans (feq (by decide : ¬ ((1 : Int32) = (0 : Int32)))).1) k) ?_
      show Goes _ _ _ _ _ _ _ (T297.setTop (mkF m 310 #[.val (.int u0), .val (.int u1), .val (.int u2), .val (.int u3), .val (.int u4), .val (.ref b121), .val (.int qq), .val (.int (4 : Int32)), .val (.ref b263), .val (.int rr), .val (.int (3 : Int32)), .unset] []))
      refine Goes.of (fun t k => XS.aload X297.here hx rfl (hb hby at_310) rfl rfl k) ?_
      show Goes _ _ _ _ _ _ _ (T297.setTop (mkF m 312 #[.val (.int u0), .val (.int u1), .val (.int u2), .val (.int u3), .val (.int u4), .val (.ref b121), .val (.int qq), .val (.int (4 : Int32)), .val (.ref b263), .val (.int rr), .val (.int (3 : Int32)), .unset] [(.ref b263)]))
      refine Goes.of (fun t k => XS.aload X297.here hx rfl (hb hby at_312) rfl rfl k) ?_
      show Goes _ _ _ _ _ _ _ (T297.setTop (mkF m 314 #[.val (.int u0), .val (.int u1), .val (.int u2), .val (.int u3), .val (.int u4), .val (.ref b121), .val (.int qq), .val (.int (4 : Int32)), .val (.ref b263), .val (.int rr), .val (.int (3 : Int32)), .unset] [(.ref b121), (.ref b263)]))
      refine Goes.of (fun t k => XS.iload X297.here hx rfl (hb hby at_314) rfl k) ?_
      show Goes _ _ _ _ _ _ _ (T297.setTop (mkF m 316 #[.val (.int u0), .val (.int u1), .val (.int u2), .val (.int u3), .val (.int u4), .val (.ref b121), .val (.int qq), .val (.int (4 : Int32)), .val (.ref b263), .val (.int rr), .val (.int (3 : Int32)), .unset] [(.int (3 : Int32)), (.ref b121), (.ref b263)]))
      refine Goes.of (fun t k => XS.iconst X297.here hx rfl (hb hby at_316) k) ?_
      show Goes _ _ _ _ _ _ _ (T297.setTop (mkF m 317 #[.val (.int u0), .val (.int u1), .val (.int u2), .val (.int u3), .val (.int u4), .val (.ref b121), .val (.int qq), .val (.int (4 : Int32)), .val (.ref b263), .val (.int rr), .val (.int (3 : Int32)), .unset] [(.int (3 : Int32)), (.int (3 : Int32)), (.ref b121), (.ref b263)]))
      obtain ⟨_, _, ⟨T298, L298, k298, n298⟩, -, X298, ⟨Lc298, hQ298, l298, y298, z298⟩, st298⟩ := Jvm.LawKit.callS X297 hx (y := (⟨"com/example/slotwright/slotwright/problems/IndexSetRemovePinLaw", "in", "(Lcom/example/slotwright/slotwright/problems/IndexSet;[III)Z"⟩ : MethodName)) hown (mvT hZ (hw _ (List.mem_of_getElem? (i := 48) rfl))) (mvT hZ (hw _ (List.mem_of_getElem? (i := 49) rfl))) (mvT hZ (hw _ (List.mem_of_getElem? (i := 4) rfl))) (mvT hZ (hw _ (List.mem_of_getElem? (i := 50) rfl))) (by decide) (backOf (W := 0) (rm10 l Z a0 hw [] b263 b121 (3 : Int32) (3 : Int32) mm265 pp265 4 Mr Pr ((((((0 : Int32) + (1 : Int32)) + (1 : Int32)) + (1 : Int32)) + (1 : Int32)) - (1 : Int32)) m4 h283 n0 Z283 F284 F285 F286 F287 F288 F289 ne_b263_mm265 ne_b263_pp265 ne_mm265_pp265 g_b263 g_mm265 g_pp265 V283 ⟨by decide, by decide⟩ (by decide) (own_chk hIr (by decide) (by decide) ⟨by decide, by decide⟩)) hZ (hw _ (List.mem_of_getElem? (i := 50) rfl)) (hw _ (List.mem_of_getElem? (i := 4) rfl)) (by decide) (by decide)) (g := (mkF m 317 #[.val (.int u0), .val (.int u1), .val (.int u2), .val (.int u3), .val (.int u4), .val (.ref b121), .val (.int qq), .val (.int (4 : Int32)), .val (.ref b263), .val (.int rr), .val (.int (3 : Int32)), .unset] [(.int (3 : Int32)), (.int (3 : Int32)), (.ref b121), (.ref b263)])) rfl (by rw [hml]; rfl) (argsL := [(.ref b263), (.ref b121), (.int (3 : Int32)), (.int (3 : Int32))]) (rest := []) (lenOf pd_7 rfl) rfl (by show 2 * 0 + _ ≤ _; exact Nat.le_of_eq rfl) (hb hby at_317) (fun _ _ => ⟨rfl, e297, (by decide : 4 + 0 ≤ _), (by decide : 15 + 0 ≤ _)⟩)
      dsimp only [Pt.U, Pt.locs, Pt.cells, Pt.slots] at X298 l298 y298 z298 st298 hQ298
      replace l298 := l298.symm
      replace y298 := y298.symm
      replace z298 := z298.symm
      subst l298 y298 z298
      obtain ⟨rfl, N298q, e298⟩ := hQ298
      have N298 := Fr.app N297 N298q
      refine Goes.of st298 ?_
      show Goes _ _ _ _ _ _ _ (T298.setTop (mkF m 320 #[.val (.int u0), .val (.int u1), .val (.int u2), .val (.int u3), .val (.int u4), .val (.ref b121), .val (.int qq), .val (.int (4 : Int32)), .val (.ref b263), .val (.int rr), .val (.int (3 : Int32)), .unset] [(.int (1 : Int32))]))
      refine Goes.of (fun t k => XS.ifNo X298.here hx rfl (hb hby at_320) rfl ((if0 _ _).trans (feq (by decide : ¬ ((1 : Int32) = (0 : Int32)))).1) k) ?_
      show Goes _ _ _ _ _ _ _ (T298.setTop (mkF m 323 #[.val (.int u0), .val (.int u1), .val (.int u2), .val (.int u3), .val (.int u4), .val (.ref b121), .val (.int qq), .val (.int (4 : Int32)), .val (.ref b263), .val (.int rr), .val (.int (3 : Int32)), .unset] []))
      refine Goes.of (fun t k => XS.iconst X298.here hx rfl (hb hby at_323) k) ?_
      show Goes _ _ _ _ _ _ _ (T298.setTop (mkF m 324 #[.val (.int u0), .val (.int u1), .val (.int u2), .val (.int u3), .val (.int u4), .val (.ref b121), .val (.int qq), .val (.int (4 : Int32)), .val (.ref b263), .val (.int rr), .val (.int (3 : Int32)), .unset] [(.int (1 : Int32))]))
      refine Goes.of (fun t k => XS.goto X298.here hx rfl (pc0 := 324) (pc' := 328) rfl (hb hby at_324) (by decide) (by decide) k) ?_
      show Goes _ _ _ _ _ _ _ (T298.setTop (mkF m 328 #[.val (.int u0), .val (.int u1), .val (.int u2), .val (.int u3), .val (.int u4), .val (.ref b121), .val (.int qq), .val (.int (4 : Int32)), .val (.ref b263), .val (.int rr), .val (.int (3 : Int32)), .unset] [(.int (1 : Int32))]))
      exact Goes.fin X298 hlk (v := some (.int (1 : Int32))) (fun h => by rw [Bd.returns] at h; cases h) (fun fs hr => retN X298 hx (t := .boolean) Bd.returns (by simp) (hb hby at_328) hr) ⟨rfl, N298⟩ (by decide) (by decide)
    · refine Goes.of (fun t k => XS.ifNo X283.here hx rfl (hb hby at_177) rfl ((if0 _ _).trans (feq hc290).1) k) ?_
      show Goes _ _ _ _ _ _ _ (T283.setTop (mkF m 180 #[.val (.int u0), .val (.int u1), .val (.int u2), .val (.int u3), .val (.int u4), .val (.ref b121), .val (.int qq), .val (.int (4 : Int32)), .val (.ref b263), .val (.int rr), .val (.int (3 : Int32)), .unset] []))
      refine Goes.of (fun t k => XS.iload X283.here hx rfl (hb hby at_180) rfl k) ?_
      show Goes _ _ _ _ _ _ _ (T283.setTop (mkF m 182 #[.val (.int u0), .val (.int u1), .val (.int u2), .val (.int u3), .val (.int u4), .val (.ref b121), .val (.int qq), .val (.int (4 : Int32)), .val (.ref b263), .val (.int rr), .val (.int (3 : Int32)), .unset] [(.int (3 : Int32))]))
      refine Goes.of (fun t k => XS.ifNo X283.here hx rfl (hb hby at_182) rfl ((if0 _ _).trans (tlt (by decide : (0 : Int32) < (3 : Int32))).2.2.2) k) ?_
      show Goes _ _ _ _ _ _ _ (T283.setTop (mkF m 185 #[.val (.int u0), .val (.int u1), .val (.int u2), .val (.int u3), .val (.int u4), .val (.ref b121), .val (.int qq), .val (.int (4 : Int32)), .val (.ref b263), .val (.int rr), .val (.int (3 : Int32)), .unset] []))
      refine Goes.of (fun t k => XS.iloadN X283.here hx rfl (hb hby at_185) rfl k) ?_
      show Goes _ _ _ _ _ _ _ (T283.setTop (mkF m 186 #[.val (.int u0), .val (.int u1), .val (.int u2), .val (.int u3), .val (.int u4), .val (.ref b121), .val (.int qq), .val (.int (4 : Int32)), .val (.ref b263), .val (.int rr), .val (.int (3 : Int32)), .unset] [(.int u3)]))
      refine Goes.of (fun t k => X283.ldcInt hx hown (mvT hZ (hw _ (List.mem_of_getElem? (i := 1) rfl))) (g := (mkF m 186 #[.val (.int u0), .val (.int u1), .val (.int u2), .val (.int u3), .val (.int u4), .val (.ref b121), .val (.int qq), .val (.int (4 : Int32)), .val (.ref b263), .val (.int rr), .val (.int (3 : Int32)), .unset] [(.int u3)])) rfl (hb hby at_186) t k) ?_
      show Goes _ _ _ _ _ _ _ (T283.setTop (mkF m 188 #[.val (.int u0), .val (.int u1), .val (.int u2), .val (.int u3), .val (.int u4), .val (.ref b121), .val (.int qq), .val (.int (4 : Int32)), .val (.ref b263), .val (.int rr), .val (.int (3 : Int32)), .unset] [(.int (2147483647 : Int32)), (.int u3)]))
      refine Goes.of (fun t k => XS.iand X283.here hx rfl (hb hby at_188) rfl k) ?_
      show Goes _ _ _ _ _ _ _ (T283.setTop (mkF m 189 #[.val (.int u0), .val (.int u1), .val (.int u2), .val (.int u3), .val (.int u4), .val (.ref b121), .val (.int qq), .val (.int (4 : Int32)), .val (.ref b263), .val (.int rr), .val (.int (3 : Int32)), .unset] [(.int (u3 &&& (2147483647 : Int32)))]))
      refine Goes.of (fun t k => XS.iload X283.here hx rfl (hb hby at_189) rfl k) ?_
      show Goes _ _ _ _ _ _ _ (T283.setTop (mkF m 191 #[.val (.int u0), .val (.int u1), .val (.int u2), .val (.int u3), .val (.int u4), .val (.ref b121), .val (.int qq), .val (.int (4 : Int32)), .val (.ref b263), .val (.int rr), .val (.int (3 : Int32)), .unset] [(.int (3 : Int32)), (.int (u3 &&& (2147483647 : Int32)))]))
      refine Goes.of (fun t k => iremM X283 hx (g := (mkF m 191 #[.val (.int u0), .val (.int u1), .val (.int u2), .val (.int u3), .val (.int u4), .val (.ref b121), .val (.int qq), .val (.int (4 : Int32)), .val (.ref b263), .val (.int rr), .val (.int (3 : Int32)), .unset] [(.int (3 : Int32)), (.int (u3 &&& (2147483647 : Int32)))])) rfl (hb hby at_191) rfl (by decide) k) ?_
      show Goes _ _ _ _ _ _ _ (T283.setTop (mkF m 192 #[.val (.int u0), .val (.int u1), .val (.int u2), .val (.int u3), .val (.int u4), .val (.ref b121), .val (.int qq), .val (.int (4 : Int32)), .val (.ref b263), .val (.int rr), .val (.int (3 : Int32)), .unset] [(.int ((u3 &&& (2147483647 : Int32)) % (3 : Int32)))]))
      refine Goes.of (fun t k => XS.istore X283.here hx rfl (hb hby at_192) rfl (l' := #[.val (.int u0), .val (.int u1), .val (.int u2), .val (.int u3), .val (.int u4), .val (.ref b121), .val (.int qq), .val (.int (4 : Int32)), .val (.ref b263), .val (.int rr), .val (.int (3 : Int32)), .val (.int ((u3 &&& (2147483647 : Int32)) % (3 : Int32)))]) rfl k) ?_
      show Goes _ _ _ _ _ _ _ (T283.setTop (mkF m 194 #[.val (.int u0), .val (.int u1), .val (.int u2), .val (.int u3), .val (.int u4), .val (.ref b121), .val (.int qq), .val (.int (4 : Int32)), .val (.ref b263), .val (.int rr), .val (.int (3 : Int32)), .val (.int ((u3 &&& (2147483647 : Int32)) % (3 : Int32)))] []))
      obtain ⟨ss, hy_ss⟩ : ∃ z, z = ((u3 &&& (2147483647 : Int32)) % (3 : Int32)) := ⟨_, rfl⟩
      rw [← hy_ss]
      show Goes _ _ _ _ _ _ _ (T283.setTop (mkF m 194 #[.val (.int u0), .val (.int u1), .val (.int u2), .val (.int u3), .val (.int u4), .val (.ref b121), .val (.int qq), .val (.int (4 : Int32)), .val (.ref b263), .val (.int rr), .val (.int (3 : Int32)), .val (.int ss)] []))
      have h_ss := own_rem u3 (3 : Int32) (by decide)
      rw [← hy_ss, show (3 : Int32).toInt = 3 from rfl] at h_ss
      have hn_ss := nat_of (own_nn h_ss.1)
      refine Goes.of (fun t k => XS.aload X283.here hx rfl (hb hby at_194) rfl rfl k) ?_
      show Goes _ _ _ _ _ _ _ (T283.setTop (mkF m 196 #[.val (.int u0), .val (.int u1), .val (.int u2), .val (.int u3), .val (.int u4), .val (.ref b121), .val (.int qq), .val (.int (4 : Int32)), .val (.ref b263), .val (.int rr), .val (.int (3 : Int32)), .val (.int ss)] [(.ref b263)]))
      refine Goes.of (fun t k => XS.aload X283.here hx rfl (hb hby at_196) rfl rfl k) ?_
      show Goes _ _ _ _ _ _ _ (T283.setTop (mkF m 198 #[.val (.int u0), .val (.int u1), .val (.int u2), .val (.int u3), .val (.int u4), .val (.ref b121), .val (.int qq), .val (.int (4 : Int32)), .val (.ref b263), .val (.int rr), .val (.int (3 : Int32)), .val (.int ss)] [(.ref b121), (.ref b263)]))
      refine Goes.of (fun t k => XS.iload X283.here hx rfl (hb hby at_198) rfl k) ?_
      show Goes _ _ _ _ _ _ _ (T283.setTop (mkF m 200 #[.val (.int u0), .val (.int u1), .val (.int u2), .val (.int u3), .val (.int u4), .val (.ref b121), .val (.int qq), .val (.int (4 : Int32)), .val (.ref b263), .val (.int rr), .val (.int (3 : Int32)), .val (.int ss)] [(.int ss), (.ref b121), (.ref b263)]))
      refine Goes.of (fun t k => ldI X283 hx hZ e283 V283 (j := ss) (i := ss.toNatClampNeg) (v := (m4 ss.toNatClampNeg)) (own_nn h_ss.1) rfl (by omega) rfl (g := (mkF m 200 #[.val (.int u0), .val (.int u1), .val (.int u2), .val (.int u3), .val (.int u4), .val (.ref b121), .val (.int qq), .val (.int (4 : Int32)), .val (.ref b263), .val (.int rr), .val (.int (3 : Int32)), .val (.int ss)] [(.int ss), (.ref b121), (.ref b263)])) rfl rfl (hb hby at_200) t k) ?_
      show Goes _ _ _ _ _ _ _ (T283.setTop (mkF m 201 #[.val (.int u0), .val (.int u1), .val (.int u2), .val (.int u3), .val (.int u4), .val (.ref b121), .val (.int qq), .val (.int (4 : Int32)), .val (.ref b263), .val (.int rr), .val (.int (3 : Int32)), .val (.int ss)] [(.int (m4 ss.toNatClampNeg)), (.ref b263)]))
      obtain ⟨cq299, kq299, q299a, q299b, q299c⟩ := isOf hZ e283 F284
      obtain ⟨_, _, ⟨T299, L299, k299, n299⟩, -, X299, ⟨Lc299, hQ299, l299, y299, z299⟩, st299⟩ := X283.virtualBack hx (y := (⟨"com/example/slotwright/slotwright/problems/IndexSet", "remove", "(I)V"⟩ : MethodName)) (z := (⟨"com/example/slotwright/slotwright/problems/IndexSet", "remove", "(I)V"⟩ : MethodName)) hown (mvT hZ (hw _ (List.mem_of_getElem? (i := 30) rfl))) (mvT hZ (hw _ (List.mem_of_getElem? (i := 31) rfl))) (notFace_of_selects (args := #[]) (mvT hZ (hw _ (List.mem_of_getElem? (i := 33) rfl)))) (mvT hZ (hw _ (List.mem_of_getElem? (i := 33) rfl))) (mvT hZ (hw _ (List.mem_of_getElem? (i := 32) rfl))) (by decide) (backOf (W := 0) (rm6 l Z a0 hw [] b263 (m4 ss.toNatClampNeg) mm265 pp265 4 Mr Pr ((((((0 : Int32) + (1 : Int32)) + (1 : Int32)) + (1 : Int32)) + (1 : Int32)) - (1 : Int32)) h283 n0 Z283 F284 F285 F286 F287 F288 F289 ne_b263_mm265 ne_b263_pp265 ne_mm265_pp265 g_b263 g_mm265 g_pp265 ⟨by decide, by decide⟩ (hIr.1 _ (by omega)) (by rw [hIr.2.2.2.1 _ (by omega), len_toInt (by omega)]; omega) (by have hlk := hIr.2.2.1 2 (by decide); have hlr := hIr.1 2 (by decide); rw [← hlk] at hlr; exact hlr)) hZ (hw _ (List.mem_of_getElem? (i := 34) rfl)) (hw _ (List.mem_of_getElem? (i := 8) rfl)) (by decide) (by decide)) q299a q299c (g := (mkF m 201 #[.val (.int u0), .val (.int u1), .val (.int u2), .val (.int u3), .val (.int u4), .val (.ref b121), .val (.int qq), .val (.int (4 : Int32)), .val (.ref b263), .val (.int rr), .val (.int (3 : Int32)), .val (.int ss)] [(.int (m4 ss.toNatClampNeg)), (.ref b263)])) rfl (by rw [hml]; rfl) (Steps.refl _) (argsL := [(.int (m4 ss.toNatClampNeg))]) (rest := []) (lenOf pd_5 rfl) rfl (by show 2 * 0 + _ ≤ _; exact Nat.le_of_eq rfl) (hb hby at_201) (fun _ _ => ⟨rfl, e283, (by decide : 4 + 0 ≤ _), (by decide : 15 + 0 ≤ _)⟩)
      dsimp only [Pt.U, Pt.locs, Pt.cells, Pt.slots] at X299 l299 y299 z299 st299 hQ299
      replace l299 := l299.symm
      replace y299 := y299.symm
      replace z299 := z299.symm
      subst l299 y299 z299
      obtain ⟨rfl, N299q, K299, Eo299, Fm299, Fp299, Fs299, Vm299, Vp299⟩ := hQ299
      have F300 := V283.keep K299 (ninS ne_b121_b263 (ninS ne_b121_mm265 (ninS ne_b121_pp265 nin0)))
      have F301 := F284.keep K299
      have Z299 : n0 ≤ T299.heap.size := Nat.le_trans Z283 K299.1
      have N299 := Fr.app N283 N299q
      refine Goes.of (fun t k => st299.trans k) ?_
      show Goes _ _ _ _ _ _ _ (T299.setTop (mkF m 204 #[.val (.int u0), .val (.int u1), .val (.int u2), .val (.int u3), .val (.int u4), .val (.ref b121), .val (.int qq), .val (.int (4 : Int32)), .val (.ref b263), .val (.int rr), .val (.int (3 : Int32)), .val (.int ss)] []))
      refine Goes.of (fun t k => XS.aload X299.here hx rfl (hb hby at_204) rfl rfl k) ?_
      show Goes _ _ _ _ _ _ _ (T299.setTop (mkF m 206 #[.val (.int u0), .val (.int u1), .val (.int u2), .val (.int u3), .val (.int u4), .val (.ref b121), .val (.int qq), .val (.int (4 : Int32)), .val (.ref b263), .val (.int rr), .val (.int (3 : Int32)), .val (.int ss)] [(.ref b121)]))
      refine Goes.of (fun t k => XS.iload X299.here hx rfl (hb hby at_206) rfl k) ?_
      show Goes _ _ _ _ _ _ _ (T299.setTop (mkF m 208 #[.val (.int u0), .val (.int u1), .val (.int u2), .val (.int u3), .val (.int u4), .val (.ref b121), .val (.int qq), .val (.int (4 : Int32)), .val (.ref b263), .val (.int rr), .val (.int (3 : Int32)), .val (.int ss)] [(.int ss), (.ref b121)]))
      refine Goes.of (fun t k => XS.aload X299.here hx rfl (hb hby at_208) rfl rfl k) ?_
      show Goes _ _ _ _ _ _ _ (T299.setTop (mkF m 210 #[.val (.int u0), .val (.int u1), .val (.int u2), .val (.int u3), .val (.int u4), .val (.ref b121), .val (.int qq), .val (.int (4 : Int32)), .val (.ref b263), .val (.int rr), .val (.int (3 : Int32)), .val (.int ss)] [(.ref b121), (.int ss), (.ref b121)]))
      refine Goes.of (fun t k => XS.iload X299.here hx rfl (hb hby at_210) rfl k) ?_
      show Goes _ _ _ _ _ _ _ (T299.setTop (mkF m 212 #[.val (.int u0), .val (.int u1), .val (.int u2), .val (.int u3), .val (.int u4), .val (.ref b121), .val (.int qq), .val (.int (4 : Int32)), .val (.ref b263), .val (.int rr), .val (.int (3 : Int32)), .val (.int ss)] [(.int (3 : Int32)), (.ref b121), (.int ss), (.ref b121)]))
      refine Goes.of (fun t k => XS.iconst X299.here hx rfl (hb hby at_212) k) ?_
      show Goes _ _ _ _ _ _ _ (T299.setTop (mkF m 213 #[.val (.int u0), .val (.int u1), .val (.int u2), .val (.int u3), .val (.int u4), .val (.ref b121), .val (.int qq), .val (.int (4 : Int32)), .val (.ref b263), .val (.int rr), .val (.int (3 : Int32)), .val (.int ss)] [(.int (1 : Int32)), (.int (3 : Int32)), (.ref b121), (.int ss), (.ref b121)]))
      refine Goes.of (fun t k => XS.isub X299.here hx rfl (hb hby at_213) rfl k) ?_
      show Goes _ _ _ _ _ _ _ (T299.setTop (mkF m 214 #[.val (.int u0), .val (.int u1), .val (.int u2), .val (.int u3), .val (.int u4), .val (.ref b121), .val (.int qq), .val (.int (4 : Int32)), .val (.ref b263), .val (.int rr), .val (.int (3 : Int32)), .val (.int ss)] [(.int (2 : Int32)), (.ref b121), (.int ss), (.ref b121)]))
      refine Goes.of (fun t k => ldI X299 hx hZ rfl F300 (j := (2 : Int32)) (i := 2) (v := (m4 2)) (by decide) (by decide) (by decide) rfl (g := (mkF m 214 #[.val (.int u0), .val (.int u1), .val (.int u2), .val (.int u3), .val (.int u4), .val (.ref b121), .val (.int qq), .val (.int (4 : Int32)), .val (.ref b263), .val (.int rr), .val (.int (3 : Int32)), .val (.int ss)] [(.int (2 : Int32)), (.ref b121), (.int ss), (.ref b121)])) rfl rfl (hb hby at_214) t k) ?_
      show Goes _ _ _ _ _ _ _ (T299.setTop (mkF m 215 #[.val (.int u0), .val (.int u1), .val (.int u2), .val (.int u3), .val (.int u4), .val (.ref b121), .val (.int qq), .val (.int (4 : Int32)), .val (.ref b263), .val (.int rr), .val (.int (3 : Int32)), .val (.int ss)] [(.int (m4 2)), (.int ss), (.ref b121)]))
      obtain ⟨T302, h302, X302, e302, W302, V302, st302⟩ := putI X299 hx hZ rfl F300 (j := ss) (x := (m4 2)) (i := ss.toNatClampNeg) (own_nn h_ss.1) rfl (by omega) (g := (mkF m 215 #[.val (.int u0), .val (.int u1), .val (.int u2), .val (.int u3), .val (.int u4), .val (.ref b121), .val (.int qq), .val (.int (4 : Int32)), .val (.ref b263), .val (.int rr), .val (.int (3 : Int32)), .val (.int ss)] [(.int (m4 2)), (.int ss), (.ref b121)])) rfl rfl (hb hby at_215)
      have F303 := Exa.wr W302 Eo299
      have F304 := Fld.other W302 Fm299 (Or.inl (Ne.symm ne_b121_b263))
      have F305 := Fld.other W302 Fp299 (Or.inl (Ne.symm ne_b121_b263))
      have F306 := Fld.other W302 Fs299 (Or.inl (Ne.symm ne_b121_b263))
      have F307 := Vm299.other W302 (Ne.symm ne_b121_mm265)
      have F308 := Vp299.other W302 (Ne.symm ne_b121_pp265)
      have Z302 : n0 ≤ h302.size := Nat.le_trans Z299 (Keep.of_wr W302).1
      have N302 := Fr.snoc X302 N299 g_b121
      refine Goes.of st302 ?_
      show Goes _ _ _ _ _ _ _ (T302.setTop (mkF m 216 #[.val (.int u0), .val (.int u1), .val (.int u2), .val (.int u3), .val (.int u4), .val (.ref b121), .val (.int qq), .val (.int (4 : Int32)), .val (.ref b263), .val (.int rr), .val (.int (3 : Int32)), .val (.int ss)] []))
      obtain ⟨m5, hf_m5⟩ : ∃ f : Nat → Int32, f = (upd m4 ss.toNatClampNeg (m4 2)) := ⟨_, rfl⟩
      rw [← hf_m5] at V302
      obtain ⟨Ms, hf_Ms⟩ : ∃ f : Nat → Int32, f = (upd Mr (Pr (m4 ss.toNatClampNeg).toNatClampNeg).toNatClampNeg (Mr (((((((0 : Int32) + (1 : Int32)) + (1 : Int32)) + (1 : Int32)) + (1 : Int32)) - (1 : Int32)) - (1 : Int32)).toNatClampNeg)) := ⟨_, rfl⟩
      rw [← hf_Ms] at F307
      obtain ⟨Ps, hf_Ps⟩ : ∃ f : Nat → Int32, f = (upd (upd Pr (Mr (((((((0 : Int32) + (1 : Int32)) + (1 : Int32)) + (1 : Int32)) + (1 : Int32)) - (1 : Int32)) - (1 : Int32)).toNatClampNeg).toNatClampNeg (Pr (m4 ss.toNatClampNeg).toNatClampNeg)) (m4 ss.toNatClampNeg).toNatClampNeg (-1 : Int32)) := ⟨_, rfl⟩
      rw [← hf_Ps] at F308
      have hIs : own_Inv m5 Ms Ps 2 := by rw [hf_m5, hf_Ms, hf_Ps]; exact own_rm (k := 2) (r := ss.toNatClampNeg) hIr (by decide) (by omega) rfl rfl
      refine Goes.of (fun t k => XS.iload X302.here hx rfl (hb hby at_216) rfl k) ?_
      show Goes _ _ _ _ _ _ _ (T302.setTop (mkF m 218 #[.val (.int u0), .val (.int u1), .val (.int u2), .val (.int u3), .val (.int u4), .val (.ref b121), .val (.int qq), .val (.int (4 : Int32)), .val (.ref b263), .val (.int rr), .val (.int (3 : Int32)), .val (.int ss)] [(.int (3 : Int32))]))
      refine Goes.of (fun t k => XS.iconst X302.here hx rfl (hb hby at_218) k) ?_
      show Goes _ _ _ _ _ _ _ (T302.setTop (mkF m 219 #[.val (.int u0), .val (.int u1), .val (.int u2), .val (.int u3), .val (.int u4), .val (.ref b121), .val (.int qq), .val (.int (4 : Int32)), .val (.ref b263), .val (.int rr), .val (.int (3 : Int32)), .val (.int ss)] [(.int (1 : Int32)), (.int (3 : Int32))]))
      refine Goes.of (fun t k => XS.isub X302.here hx rfl (hb hby at_219) rfl k) ?_
      show Goes _ _ _ _ _ _ _ (T302.setTop (mkF m 220 #[.val (.int u0), .val (.int u1), .val (.int u2), .val (.int u3), .val (.int u4), .val (.ref b121), .val (.int qq), .val (.int (4 : Int32)), .val (.ref b263), .val (.int rr), .val (.int (3 : Int32)), .val (.int ss)] [(.int (2 : Int32))]))
      refine Goes.of (fun t k => XS.istore X302.here hx rfl (hb hby at_220) rfl (l' := #[.val (.int u0), .val (.int u1), .val (.int u2), .val (.int u3), .val (.int u4), .val (.ref b121), .val (.int qq), .val (.int (4 : Int32)), .val (.ref b263), .val (.int rr), .val (.int (2 : Int32)), .val (.int ss)]) rfl k) ?_
      show Goes _ _ _ _ _ _ _ (T302.setTop (mkF m 222 #[.val (.int u0), .val (.int u1), .val (.int u2), .val (.int u3), .val (.int u4), .val (.ref b121), .val (.int qq), .val (.int (4 : Int32)), .val (.ref b263), .val (.int rr), .val (.int (2 : Int32)), .val (.int ss)] []))
      refine Goes.of (fun t k => XS.aload X302.here hx rfl (hb hby at_222) rfl rfl k) ?_
      show Goes _ _ _ _ _ _ _ (T302.setTop (mkF m 224 #[.val (.int u0), .val (.int u1), .val (.int u2), .val (.int u3), .val (.int u4), .val (.ref b121), .val (.int qq), .val (.int (4 : Int32)), .val (.ref b263), .val (.int rr), .val (.int (2 : Int32)), .val (.int ss)] [(.ref b263)]))
      obtain ⟨cq309, kq309, q309a, q309b, q309c⟩ := isOf hZ e302 F303
      obtain ⟨_, _, ⟨T309, L309, k309, n309⟩, -, X309, ⟨Lc309, hQ309, l309, y309, z309⟩, st309⟩ := X302.virtualBack hx (y := (⟨"com/example/slotwright/slotwright/problems/IndexSet", "size", "()I"⟩ : MethodName)) (z := (⟨"com/example/slotwright/slotwright/problems/IndexSet", "size", "()I"⟩ : MethodName)) hown (mvT hZ (hw _ (List.mem_of_getElem? (i := 35) rfl))) (mvT hZ (hw _ (List.mem_of_getElem? (i := 36) rfl))) (notFace_of_selects (args := #[]) (mvT hZ (hw _ (List.mem_of_getElem? (i := 38) rfl)))) (mvT hZ (hw _ (List.mem_of_getElem? (i := 38) rfl))) (mvT hZ (hw _ (List.mem_of_getElem? (i := 37) rfl))) (by decide) (backOf (W := 0) (rm7 l Z a0 hw [] b263 mm265 pp265 4 Ms Ps (((((((0 : Int32) + (1 : Int32)) + (1 : Int32)) + (1 : Int32)) + (1 : Int32)) - (1 : Int32)) - (1 : Int32)) h302 n0 Z302 F303 F304 F305 F306 F307 F308 ne_b263_mm265 ne_b263_pp265 ne_mm265_pp265 g_b263 g_mm265 g_pp265) hZ (hw _ (List.mem_of_getElem? (i := 39) rfl)) (hw _ (List.mem_of_getElem? (i := 8) rfl)) (by decide) (by decide)) q309a q309c (g := (mkF m 224 #[.val (.int u0), .val (.int u1), .val (.int u2), .val (.int u3), .val (.int u4), .val (.ref b121), .val (.int qq), .val (.int (4 : Int32)), .val (.ref b263), .val (.int rr), .val (.int (2 : Int32)), .val (.int ss)] [(.ref b263)])) rfl (by rw [hml]; rfl) (Steps.refl _) (argsL := []) (rest := []) (lenOf pd_6 rfl) rfl (by show 2 * 0 + _ ≤ _; exact Nat.le_of_eq rfl) (hb hby at_224) (fun _ _ => ⟨rfl, e302, (by decide : 4 + 0 ≤ _), (by decide : 15 + 0 ≤ _)⟩)
      dsimp only [Pt.U, Pt.locs, Pt.cells, Pt.slots] at X309 l309 y309 z309 st309 hQ309
      replace l309 := l309.symm
      replace y309 := y309.symm
      replace z309 := z309.symm
      subst l309 y309 z309
      obtain ⟨rfl, N309q, e309⟩ := hQ309
      have N309 := Fr.app N302 N309q
      refine Goes.of (fun t k => st309.trans k) ?_
      show Goes _ _ _ _ _ _ _ (T309.setTop (mkF m 227 #[.val (.int u0), .val (.int u1), .val (.int u2), .val (.int u3), .val (.int u4), .val (.ref b121), .val (.int qq), .val (.int (4 : Int32)), .val (.ref b263), .val (.int rr), .val (.int (2 : Int32)), .val (.int ss)] [(.int (((((((0 : Int32) + (1 : Int32)) + (1 : Int32)) + (1 : Int32)) + (1 : Int32)) - (1 : Int32)) - (1 : Int32)))]))
      refine Goes.of (fun t k => XS.iload X309.here hx rfl (hb hby at_227) rfl k) ?_
      show Goes _ _ _ _ _ _ _ (T309.setTop (mkF m 229 #[.val (.int u0), .val (.int u1), .val (.int u2), .val (.int u3), .val (.int u4), .val (.ref b121), .val (.int qq), .val (.int (4 : Int32)), .val (.ref b263), .val (.int rr), .val (.int (2 : Int32)), .val (.int ss)] [(.int (2 : Int32)), (.int (((((((0 : Int32) + (1 : Int32)) + (1 : Int32)) + (1 : Int32)) + (1 : Int32)) - (1 : Int32)) - (1 : Int32)))]))
      refine Goes.of (fun t k => XS.icmpNo X309.here hx rfl (hb hby at_229) rfl (teq (by decide)).2 k) ?_
      show Goes _ _ _ _ _ _ _ (T309.setTop (mkF m 232 #[.val (.int u0), .val (.int u1), .val (.int u2), .val (.int u3), .val (.int u4), .val (.ref b121), .val (.int qq), .val (.int (4 : Int32)), .val (.ref b263), .val (.int rr), .val (.int (2 : Int32)), .val (.int ss)] []))
      refine Goes.of (fun t k => XS.aload X309.here hx rfl (hb hby at_232) rfl rfl k) ?_
      show Goes _ _ _ _ _ _ _ (T309.setTop (mkF m 234 #[.val (.int u0), .val (.int u1), .val (.int u2), .val (.int u3), .val (.int u4), .val (.ref b121), .val (.int qq), .val (.int (4 : Int32)), .val (.ref b263), .val (.int rr), .val (.int (2 : Int32)), .val (.int ss)] [(.ref b263)]))
      refine Goes.of (fun t k => XS.aload X309.here hx rfl (hb hby at_234) rfl rfl k) ?_
      show Goes _ _ _ _ _ _ _ (T309.setTop (mkF m 236 #[.val (.int u0), .val (.int u1), .val (.int u2), .val (.int u3), .val (.int u4), .val (.ref b121), .val (.int qq), .val (.int (4 : Int32)), .val (.ref b263), .val (.int rr), .val (.int (2 : Int32)), .val (.int ss)] [(.ref b121), (.ref b263)]))
      refine Goes.of (fun t k => XS.iload X309.here hx rfl (hb hby at_236) rfl k) ?_
      show Goes _ _ _ _ _ _ _ (T309.setTop (mkF m 238 #[.val (.int u0), .val (.int u1), .val (.int u2), .val (.int u3), .val (.int u4), .val (.ref b121), .val (.int qq), .val (.int (4 : Int32)), .val (.ref b263), .val (.int rr), .val (.int (2 : Int32)), .val (.int ss)] [(.int (2 : Int32)), (.ref b121), (.ref b263)]))
      refine Goes.of (fun t k => XS.iconst X309.here hx rfl (hb hby at_238) k) ?_
      show Goes _ _ _ _ _ _ _ (T309.setTop (mkF m 239 #[.val (.int u0), .val (.int u1), .val (.int u2), .val (.int u3), .val (.int u4), .val (.ref b121), .val (.int qq), .val (.int (4 : Int32)), .val (.ref b263), .val (.int rr), .val (.int (2 : Int32)), .val (.int ss)] [(.int (0 : Int32)), (.int (2 : Int32)), (.ref b121), (.ref b263)]))
      obtain ⟨_, _, ⟨T310, L310, k310, n310⟩, -, X310, ⟨Lc310, hQ310, l310, y310, z310⟩, st310⟩ := Jvm.LawKit.callS X309 hx (y := (⟨"com/example/slotwright/slotwright/problems/IndexSetRemovePinLaw", "at", "(Lcom/example/slotwright/slotwright/problems/IndexSet;[III)Z"⟩ : MethodName)) hown (mvT hZ (hw _ (List.mem_of_getElem? (i := 40) rfl))) (mvT hZ (hw _ (List.mem_of_getElem? (i := 41) rfl))) (mvT hZ (hw _ (List.mem_of_getElem? (i := 4) rfl))) (mvT hZ (hw _ (List.mem_of_getElem? (i := 42) rfl))) (by decide) (backOf (W := 0) (rm8 l Z a0 hw [] b263 b121 (2 : Int32) (0 : Int32) mm265 pp265 4 Ms Ps (((((((0 : Int32) + (1 : Int32)) + (1 : Int32)) + (1 : Int32)) + (1 : Int32)) - (1 : Int32)) - (1 : Int32)) m5 h302 n0 Z302 F303 F304 F305 F306 F307 F308 ne_b263_mm265 ne_b263_pp265 ne_mm265_pp265 g_b263 g_mm265 g_pp265 V302 (by decide) (by decide) (fun q => hIs.2.2.1 0 (by decide))) hZ (hw _ (List.mem_of_getElem? (i := 42) rfl)) (hw _ (List.mem_of_getElem? (i := 4) rfl)) (by decide) (by decide)) (g := (mkF m 239 #[.val (.int u0), .val (.int u1), .val (.int u2), .val (.int u3), .val (.int u4), .val (.ref b121), .val (.int qq), .val (.int (4 : Int32)), .val (.ref b263), .val (.int rr), .val (.int (2 : Int32)), .val (.int ss)] [(.int (0 : Int32)), (.int (2 : Int32)), (.ref b121), (.ref b263)])) rfl (by rw [hml]; rfl) (argsL := [(.ref b263), (.ref b121), (.int (2 : Int32)), (.int (0 : Int32))]) (rest := []) (lenOf pd_7 rfl) rfl (by show 2 * 0 + _ ≤ _; exact Nat.le_of_eq rfl) (hb hby at_239) (fun _ _ => ⟨rfl, e309, (by decide : 4 + 0 ≤ _), (by decide : 15 + 0 ≤ _)⟩)
      dsimp only [Pt.U, Pt.locs, Pt.cells, Pt.slots] at X310 l310 y310 z310 st310 hQ310
      replace l310 := l310.symm
      replace y310 := y310.symm
      replace z310 := z310.symm
      subst l310 y310 z310
      obtain ⟨rfl, N310q, e310⟩ := hQ310
      have N310 := Fr.app N309 N310q
      refine Goes.of st310 ?_
      show Goes _ _ _ _ _ _ _ (T310.setTop (mkF m 242 #[.val (.int u0), .val (.int u1), .val (.int u2), .val (.int u3), .val (.int u4), .val (.ref b121), .val (.int qq), .val (.int (4 : Int32)), .val (.ref b263), .val (.int rr), .val (.int (2 : Int32)), .val (.int ss)] [(.int (1 : Int32))]))
      refine Goes.of (fun t k => XS.ifNo X310.here hx rfl (hb hby at_242) rfl ((if0 _ _).trans (feq (by decide : ¬ ((1 : Int32) = (0 : Int32)))).1) k) ?_
      show Goes _ _ _ _ _ _ _ (T310.setTop (mkF m 245 #[.val (.int u0), .val (.int u1), .val (.int u2), .val (.int u3), .val (.int u4), .val (.ref b121), .val (.int qq), .val (.int (4 : Int32)), .val (.ref b263), .val (.int rr), .val (.int (2 : Int32)), .val (.int ss)] []))
      refine Goes.of (fun t k => XS.aload X310.here hx rfl (hb hby at_245) rfl rfl k) ?_
      show Goes _ _ _ _ _ _ _ (T310.setTop (mkF m 247 #[.val (.int u0), .val (.int u1), .val (.int u2), .val (.int u3), .val (.int u4), .val (.ref b121), .val (.int qq), .val (.int (4 : Int32)), .val (.ref b263), .val (.int rr), .val (.int (2 : Int32)), .val (.int ss)] [(.ref b263)]))
      refine Goes.of (fun t k => XS.aload X310.here hx rfl (hb hby at_247) rfl rfl k) ?_
      show Goes _ _ _ _ _ _ _ (T310.setTop (mkF m 249 #[.val (.int u0), .val (.int u1), .val (.int u2), .val (.int u3), .val (.int u4), .val (.ref b121), .val (.int qq), .val (.int (4 : Int32)), .val (.ref b263), .val (.int rr), .val (.int (2 : Int32)), .val (.int ss)] [(.ref b121), (.ref b263)]))
      refine Goes.of (fun t k => XS.iload X310.here hx rfl (hb hby at_249) rfl k) ?_
      show Goes _ _ _ _ _ _ _ (T310.setTop (mkF m 251 #[.val (.int u0), .val (.int u1), .val (.int u2), .val (.int u3), .val (.int u4), .val (.ref b121), .val (.int qq), .val (.int (4 : Int32)), .val (.ref b263), .val (.int rr), .val (.int (2 : Int32)), .val (.int ss)] [(.int (2 : Int32)), (.ref b121), (.ref b263)]))
      refine Goes.of (fun t k => XS.iconst X310.here hx rfl (hb hby at_251) k) ?_
      show Goes _ _ _ _ _ _ _ (T310.setTop (mkF m 252 #[.val (.int u0), .val (.int u1), .val (.int u2), .val (.int u3), .val (.int u4), .val (.ref b121), .val (.int qq), .val (.int (4 : Int32)), .val (.ref b263), .val (.int rr), .val (.int (2 : Int32)), .val (.int ss)] [(.int (1 : Int32)), (.int (2 : Int32)), (.ref b121), (.ref b263)]))
      obtain ⟨_, _, ⟨T311, L311, k311, n311⟩, -, X311, ⟨Lc311, hQ311, l311, y311, z311⟩, st311⟩ := Jvm.LawKit.callS X310 hx (y := (⟨"com/example/slotwright/slotwright/problems/IndexSetRemovePinLaw", "at", "(Lcom/example/slotwright/slotwright/problems/IndexSet;[III)Z"⟩ : MethodName)) hown (mvT hZ (hw _ (List.mem_of_getElem? (i := 40) rfl))) (mvT hZ (hw _ (List.mem_of_getElem? (i := 41) rfl))) (mvT hZ (hw _ (List.mem_of_getElem? (i := 4) rfl))) (mvT hZ (hw _ (List.mem_of_getElem? (i := 42) rfl))) (by decide) (backOf (W := 0) (rm8 l Z a0 hw [] b263 b121 (2 : Int32) (1 : Int32) mm265 pp265 4 Ms Ps (((((((0 : Int32) + (1 : Int32)) + (1 : Int32)) + (1 : Int32)) + (1 : Int32)) - (1 : Int32)) - (1 : Int32)) m5 h302 n0 Z302 F303 F304 F305 F306 F307 F308 ne_b263_mm265 ne_b263_pp265 ne_mm265_pp265 g_b263 g_mm265 g_pp265 V302 (by decide) (by decide) (fun q => hIs.2.2.1 1 (by decide))) hZ (hw _ (List.mem_of_getElem? (i := 42) rfl)) (hw _ (List.mem_of_getElem? (i := 4) rfl)) (by decide) (by decide)) (g := (mkF m 252 #[.val (.int u0), .val (.int u1), .val (.int u2), .val (.int u3), .val (.int u4), .val (.ref b121), .val (.int qq), .val (.int (4 : Int32)), .val (.ref b263), .val (.int rr), .val (.int (2 : Int32)), .val (.int ss)] [(.int (1 : Int32)), (.int (2 : Int32)), (.ref b121), (.ref b263)])) rfl (by rw [hml]; rfl) (argsL := [(.ref b263), (.ref b121), (.int (2 : Int32)), (.int (1 : Int32))]) (rest := []) (lenOf pd_7 rfl) rfl (by show 2 * 0 + _ ≤ _; exact Nat.le_of_eq rfl) (hb hby at_252) (fun _ _ => ⟨rfl, e310, (by decide : 4 + 0 ≤ _), (by decide : 15 + 0 ≤ _)⟩)
      dsimp only [Pt.U, Pt.locs, Pt.cells, Pt.slots] at X311 l311 y311 z311 st311 hQ311
      replace l311 := l311.symm
      replace y311 := y311.symm
      replace z311 := z311.symm
      subst l311 y311 z311
      obtain ⟨rfl, N311q, e311⟩ := hQ311
      have N311 := Fr.app N310 N311q
      refine Goes.of st311 ?_
      show Goes _ _ _ _ _ _ _ (T311.setTop (mkF m 255 #[.val (.int u0), .val (.int u1), .val (.int u2), .val (.int u3), .val (.int u4), .val (.ref b121), .val (.int qq), .val (.int (4 : Int32)), .val (.ref b263), .val (.int rr), .val (.int (2 : Int32)), .val (.int ss)] [(.int (1 : Int32))]))
      refine Goes.of (fun t k => XS.ifNo X311.here hx rfl (hb hby at_255) rfl ((if0 _ _).trans (feq (by decide : ¬ ((1 : Int32) = (0 : Int32)))).1) k) ?_
      show Goes _ _ _ _ _ _ _ (T311.setTop (mkF m 258 #[.val (.int u0), .val (.int u1), .val (.int u2), .val (.int u3), .val (.int u4), .val (.ref b121), .val (.int qq), .val (.int (4 : Int32)), .val (.ref b263), .val (.int rr), .val (.int (2 : Int32)), .val (.int ss)] []))
      refine Goes.of (fun t k => XS.aload X311.here hx rfl (hb hby at_258) rfl rfl k) ?_
      show Goes _ _ _ _ _ _ _ (T311.setTop (mkF m 260 #[.val (.int u0), .val (.int u1), .val (.int u2), .val (.int u3), .val (.int u4), .val (.ref b121), .val (.int qq), .val (.int (4 : Int32)), .val (.ref b263), .val (.int rr), .val (.int (2 : Int32)), .val (.int ss)] [(.ref b263)]))
      refine Goes.of (fun t k => XS.aload X311.here hx rfl (hb hby at_260) rfl rfl k) ?_
      show Goes _ _ _ _ _ _ _ (T311.setTop (mkF m 262 #[.val (.int u0), .val (.int u1), .val (.int u2), .val (.int u3), .val (.int u4), .val (.ref b121), .val (.int qq), .val (.int (4 : Int32)), .val (.ref b263), .val (.int rr), .val (.int (2 : Int32)), .val (.int ss)] [(.ref b121), (.ref b263)]))
      refine Goes.of (fun t k => XS.iload X311.here hx rfl (hb hby at_262) rfl k) ?_
      show Goes _ _ _ _ _ _ _ (T311.setTop (mkF m 264 #[.val (.int u0), .val (.int u1), .val (.int u2), .val (.int u3), .val (.int u4), .val (.ref b121), .val (.int qq), .val (.int (4 : Int32)), .val (.ref b263), .val (.int rr), .val (.int (2 : Int32)), .val (.int ss)] [(.int (2 : Int32)), (.ref b121), (.ref b263)]))
      refine Goes.of (fun t k => XS.iconst X311.here hx rfl (hb hby at_264) k) ?_
      show Goes _ _ _ _ _ _ _ (T311.setTop (mkF m 265 #[.val (.int u0), .val (.int u1), .val (.int u2), .val (.int u3), .val (.int u4), .val (.ref b121), .val (.int qq), .val (.int (4 : Int32)), .val (.ref b263), .val (.int rr), .val (.int (2 : Int32)), .val (.int ss)] [(.int (2 : Int32)), (.int (2 : Int32)), (.ref b121), (.ref b263)]))
      obtain ⟨_, _, ⟨T312, L312, k312, n312⟩, -, X312, ⟨Lc312, hQ312, l312, y312, z312⟩, st312⟩ := Jvm.LawKit.callS X311 hx (y := (⟨"com/example/slotwright/slotwright/problems/IndexSetRemovePinLaw", "at", "(Lcom/example/slotwright/slotwright/problems/IndexSet;[III)Z"⟩ : MethodName)) hown (mvT hZ (hw _ (List.mem_of_getElem? (i := 40) rfl))) (mvT hZ (hw _ (List.mem_of_getElem? (i := 41) rfl))) (mvT hZ (hw _ (List.mem_of_getElem? (i := 4) rfl))) (mvT hZ (hw _ (List.mem_of_getElem? (i := 42) rfl))) (by decide) (backOf (W := 0) (rm8 l Z a0 hw [] b263 b121 (2 : Int32) (2 : Int32) mm265 pp265 4 Ms Ps (((((((0 : Int32) + (1 : Int32)) + (1 : Int32)) + (1 : Int32)) + (1 : Int32)) - (1 : Int32)) - (1 : Int32)) m5 h302 n0 Z302 F303 F304 F305 F306 F307 F308 ne_b263_mm265 ne_b263_pp265 ne_mm265_pp265 g_b263 g_mm265 g_pp265 V302 (by decide) (by decide) (fun q => absurd q (by decide))) hZ (hw _ (List.mem_of_getElem? (i := 42) rfl)) (hw _ (List.mem_of_getElem? (i := 4) rfl)) (by decide) (by decide)) (g := (mkF m 265 #[.val (.int u0), .val (.int u1), .val (.int u2), .val (.int u3), .val (.int u4), .val (.ref b121), .val (.int qq), .val (.int (4 : Int32)), .val (.ref b263), .val (.int rr), .val (.int (2 : Int32)), .val (.int ss)] [(.int (2 : Int32)), (.int (2 : Int32)), (.ref b121), (.ref b263)])) rfl (by rw [hml]; rfl) (argsL := [(.ref b263), (.ref b121), (.int (2 : Int32)), (.int (2 : Int32))]) (rest := []) (lenOf pd_7 rfl) rfl (by show 2 * 0 + _ ≤ _; exact Nat.le_of_eq rfl) (hb hby at_265) (fun _ _ => ⟨rfl, e311, (by decide : 4 + 0 ≤ _), (by decide : 15 + 0 ≤ _)⟩)
      dsimp only [Pt.U, Pt.locs, Pt.cells, Pt.slots] at X312 l312 y312 z312 st312 hQ312
      replace l312 := l312.symm
      replace y312 := y312.symm
      replace z312 := z312.symm
      subst l312 y312 z312
      obtain ⟨rfl, N312q, e312⟩ := hQ312
      have N312 := Fr.app N311 N312q
      refine Goes.of st312 ?_
      show Goes _ _ _ _ _ _ _ (T312.setTop (mkF m 268 #[.val (.int u0), .val (.int u1), .val (.int u2), .val (.int u3), .val (.int u4), .val (.ref b121), .val (.int qq), .val (.int (4 : Int32)), .val (.ref b263), .val (.int rr), .val (.int (2 : Int32)), .val (.int ss)] [(.int (1 : Int32))]))
      refine Goes.of (fun t k => XS.ifNo X312.here hx rfl (hb hby at_268) rfl ((if0 _ _).trans (feq (by decide : ¬ ((1 : Int32) = (0 : Int32)))).1) k) ?_
      show Goes _ _ _ _ _ _ _ (T312.setTop (mkF m 271 #[.val (.int u0), .val (.int u1), .val (.int u2), .val (.int u3), .val (.int u4), .val (.ref b121), .val (.int qq), .val (.int (4 : Int32)), .val (.ref b263), .val (.int rr), .val (.int (2 : Int32)), .val (.int ss)] []))
      refine Goes.of (fun t k => XS.aload X312.here hx rfl (hb hby at_271) rfl rfl k) ?_
      show Goes _ _ _ _ _ _ _ (T312.setTop (mkF m 273 #[.val (.int u0), .val (.int u1), .val (.int u2), .val (.int u3), .val (.int u4), .val (.ref b121), .val (.int qq), .val (.int (4 : Int32)), .val (.ref b263), .val (.int rr), .val (.int (2 : Int32)), .val (.int ss)] [(.ref b263)]))
      refine Goes.of (fun t k => XS.aload X312.here hx rfl (hb hby at_273) rfl rfl k) ?_
      show Goes _ _ _ _ _ _ _ (T312.setTop (mkF m 275 #[.val (.int u0), .val (.int u1), .val (.int u2), .val (.int u3), .val (.int u4), .val (.ref b121), .val (.int qq), .val (.int (4 : Int32)), .val (.ref b263), .val (.int rr), .val (.int (2 : Int32)), .val (.int ss)] [(.ref b121), (.ref b263)]))
      refine Goes.of (fun t k => XS.iload X312.here hx rfl (hb hby at_275) rfl k) ?_
      show Goes _ _ _ _ _ _ _ (T312.setTop (mkF m 277 #[.val (.int u0), .val (.int u1), .val (.int u2), .val (.int u3), .val (.int u4), .val (.ref b121), .val (.int qq), .val (.int (4 : Int32)), .val (.ref b263), .val (.int rr), .val (.int (2 : Int32)), .val (.int ss)] [(.int (2 : Int32)), (.ref b121), (.ref b263)]))
      refine Goes.of (fun t k => XS.iconst X312.here hx rfl (hb hby at_277) k) ?_
      show Goes _ _ _ _ _ _ _ (T312.setTop (mkF m 278 #[.val (.int u0), .val (.int u1), .val (.int u2), .val (.int u3), .val (.int u4), .val (.ref b121), .val (.int qq), .val (.int (4 : Int32)), .val (.ref b263), .val (.int rr), .val (.int (2 : Int32)), .val (.int ss)] [(.int (0 : Int32)), (.int (2 : Int32)), (.ref b121), (.ref b263)]))
      obtain ⟨_, _, ⟨T313, L313, k313, n313⟩, -, X313, ⟨Lc313, hQ313, l313, y313, z313⟩, st313⟩ := Jvm.LawKit.callS X312 hx (y := (⟨"com/example/slotwright/slotwright/problems/IndexSetRemovePinLaw", "in", "(Lcom/example/slotwright/slotwright/problems/IndexSet;[III)Z"⟩ : MethodName)) hown (mvT hZ (hw _ (List.mem_of_getElem? (i := 48) rfl))) (mvT hZ (hw _ (List.mem_of_getElem? (i := 49) rfl))) (mvT hZ (hw _ (List.mem_of_getElem? (i := 4) rfl))) (mvT hZ (hw _ (List.mem_of_getElem? (i := 50) rfl))) (by decide) (backOf (W := 0) (rm10 l Z a0 hw [] b263 b121 (2 : Int32) (0 : Int32) mm265 pp265 4 Ms Ps (((((((0 : Int32) + (1 : Int32)) + (1 : Int32)) + (1 : Int32)) + (1 : Int32)) - (1 : Int32)) - (1 : Int32)) m5 h302 n0 Z302 F303 F304 F305 F306 F307 F308 ne_b263_mm265 ne_b263_pp265 ne_mm265_pp265 g_b263 g_mm265 g_pp265 V302 ⟨by decide, by decide⟩ (by decide) (own_chk hIs (by decide) (by decide) ⟨by decide, by decide⟩)) hZ (hw _ (List.mem_of_getElem? (i := 50) rfl)) (hw _ (List.mem_of_getElem? (i := 4) rfl)) (by decide) (by decide)) (g := (mkF m 278 #[.val (.int u0), .val (.int u1), .val (.int u2), .val (.int u3), .val (.int u4), .val (.ref b121), .val (.int qq), .val (.int (4 : Int32)), .val (.ref b263), .val (.int rr), .val (.int (2 : Int32)), .val (.int ss)] [(.int (0 : Int32)), (.int (2 : Int32)), (.ref b121), (.ref b263)])) rfl (by rw [hml]; rfl) (argsL := [(.ref b263), (.ref b121), (.int (2 : Int32)), (.int (0 : Int32))]) (rest := []) (lenOf pd_7 rfl) rfl (by show 2 * 0 + _ ≤ _; exact Nat.le_of_eq rfl) (hb hby at_278) (fun _ _ => ⟨rfl, e312, (by decide : 4 + 0 ≤ _), (by decide : 15 + 0 ≤ _)⟩)
      dsimp only [Pt.U, Pt.locs, Pt.cells, Pt.slots] at X313 l313 y313 z313 st313 hQ313
      replace l313 := l313.symm
      replace y313 := y313.symm
      replace z313 := z313.symm
      subst l313 y313 z313
      obtain ⟨rfl, N313q, e313⟩ := hQ313
      have N313 := Fr.app N312 N313q
      refine Goes.of st313 ?_
      show Goes _ _ _ _ _ _ _ (T313.setTop (mkF m 281 #[.val (.int u0), .val (.int u1), .val (.int u2), .val (.int u3), .val (.int u4), .val (.ref b121), .val (.int qq), .val (.int (4 : Int32)), .val (.ref b263), .val (.int rr), .val (.int (2 : Int32)), .val (.int ss)] [(.int (1 : Int32))]))
      refine Goes.of (fun t k => XS.ifNo X313.here hx rfl (hb hby at_281) rfl ((if0 _ _).trans (feq (by decide : ¬ ((1 : Int32) = (0 : Int32)))).1) k) ?_
      show Goes _ _ _ _ _ _ _ (T313.setTop (mkF m 284 #[.val (.int u0), .val (.int u1), .val (.int u2), .val (.int u3), .val (.int u4), .val (.ref b121), .val (.int qq), .val (.int (4 : Int32)), .val (.ref b263), .val (.int rr), .val (.int (2 : Int32)), .val (.int ss)] []))
      refine Goes.of (fun t k => XS.aload X313.here hx rfl (hb hby at_284) rfl rfl k) ?_
      show Goes _ _ _ _ _ _ _ (T313.setTop (mkF m 286 #[.val (.int u0), .val (.int u1), .val (.int u2), .val (.int u3), .val (.int u4), .val (.ref b121), .val (.int qq), .val (.int (4 : Int32)), .val (.ref b263), .val (.int rr), .val (.int (2 : Int32)), .val (.int ss)] [(.ref b263)]))
      refine Goes.of (fun t k => XS.aload X313.here hx rfl (hb hby at_286) rfl rfl k) ?_
      show Goes _ _ _ _ _ _ _ (T313.setTop (mkF m 288 #[.val (.int u0), .val (.int u1), .val (.int u2), .val (.int u3), .val (.int u4), .val (.ref b121), .val (.int qq), .val (.int (4 : Int32)), .val (.ref b263), .val (.int rr), .val (.int (2 : Int32)), .val (.int ss)] [(.ref b121), (.ref b263)]))
      refine Goes.of (fun t k => XS.iload X313.here hx rfl (hb hby at_288) rfl k) ?_
      show Goes _ _ _ _ _ _ _ (T313.setTop (mkF m 290 #[.val (.int u0), .val (.int u1), .val (.int u2), .val (.int u3), .val (.int u4), .val (.ref b121), .val (.int qq), .val (.int (4 : Int32)), .val (.ref b263), .val (.int rr), .val (.int (2 : Int32)), .val (.int ss)] [(.int (2 : Int32)), (.ref b121), (.ref b263)]))
      refine Goes.of (fun t k => XS.iconst X313.here hx rfl (hb hby at_290) k) ?_
      show Goes _ _ _ _ _ _ _ (T313.setTop (mkF m 291 #[.val (.int u0), .val (.int u1), .val (.int u2), .val (.int u3), .val (.int u4), .val (.ref b121), .val (.int qq), .val (.int (4 : Int32)), .val (.ref b263), .val (.int rr), .val (.int (2 : Int32)), .val (.int ss)] [(.int (1 : Int32)), (.int (2 : Int32)), (.ref b121), (.ref b263)]))
      obtain ⟨_, _, ⟨T314, L314, k314, n314⟩, -, X314, ⟨Lc314, hQ314, l314, y314, z314⟩, st314⟩ := Jvm.LawKit.callS X313 hx (y := (⟨"com/example/slotwright/slotwright/problems/IndexSetRemovePinLaw", "in", "(Lcom/example/slotwright/slotwright/problems/IndexSet;[III)Z"⟩ : MethodName)) hown (mvT hZ (hw _ (List.mem_of_getElem? (i := 48) rfl))) (mvT hZ (hw _ (List.mem_of_getElem? (i := 49) rfl))) (mvT hZ (hw _ (List.mem_of_getElem? (i := 4) rfl))) (mvT hZ (hw _ (List.mem_of_getElem? (i := 50) rfl))) (by decide) (backOf (W := 0) (rm10 l Z a0 hw [] b263 b121 (2 : Int32) (1 : Int32) mm265 pp265 4 Ms Ps (((((((0 : Int32) + (1 : Int32)) + (1 : Int32)) + (1 : Int32)) + (1 : Int32)) - (1 : Int32)) - (1 : Int32)) m5 h302 n0 Z302 F303 F304 F305 F306 F307 F308 ne_b263_mm265 ne_b263_pp265 ne_mm265_pp265 g_b263 g_mm265 g_pp265 V302 ⟨by decide, by decide⟩ (by decide) (own_chk hIs (by decide) (by decide) ⟨by decide, by decide⟩)) hZ (hw _ (List.mem_of_getElem? (i := 50) rfl)) (hw _ (List.mem_of_getElem? (i := 4) rfl)) (by decide) (by decide)) (g := (mkF m 291 #[.val (.int u0), .val (.int u1), .val (.int u2), .val (.int u3), .val (.int u4), .val (.ref b121), .val (.int qq), .val (.int (4 : Int32)), .val (.ref b263), .val (.int rr), .val (.int (2 : Int32)), .val (.int ss)] [(.int (1 : Int32)), (.int (2 : Int32)), (.ref b121), (.ref b263)])) rfl (by rw [hml]; rfl) (argsL := [(.ref b263), (.ref b121), (.int (2 : Int32)), (.int (1 : Int32))]) (rest := []) (lenOf pd_7 rfl) rfl (by show 2 * 0 + _ ≤ _; exact Nat.le_of_eq rfl) (hb hby at_291) (fun _ _ => ⟨rfl, e313, (by decide : 4 + 0 ≤ _), (by decide : 15 + 0 ≤ _)⟩)
      dsimp only [Pt.U, Pt.locs, Pt.cells, Pt.slots] at X314 l314 y314 z314 st314 hQ314
      replace l314 := l314.symm
      replace y314 := y314.symm
      replace z314 := z314.symm
      subst l314 y314 z314
      obtain ⟨rfl, N314q, e314⟩ := hQ314
      have N314 := Fr.app N313 N314q
      refine Goes.of st314 ?_
      show Goes _ _ _ _ _ _ _ (T314.setTop (mkF m 294 #[.val (.int u0), .val (.int u1), .val (.int u2), .val (.int u3), .val (.int u4), .val (.ref b121), .val (.int qq), .val (.int (4 : Int32)), .val (.ref b263), .val (.int rr), .val (.int (2 : Int32)), .val (.int ss)] [(.int (1 : Int32))]))
      refine Goes.of (fun t k => XS.ifNo X314.here hx rfl (hb hby at_294) rfl ((if0 _ _).trans (feq (by decide : ¬ ((1 : Int32) = (0 : Int32)))).1) k) ?_
      show Goes _ _ _ _ _ _ _ (T314.setTop (mkF m 297 #[.val (.int u0), .val (.int u1), .val (.int u2), .val (.int u3), .val (.int u4), .val (.ref b121), .val (.int qq), .val (.int (4 : Int32)), .val (.ref b263), .val (.int rr), .val (.int (2 : Int32)), .val (.int ss)] []))
      refine Goes.of (fun t k => XS.aload X314.here hx rfl (hb hby at_297) rfl rfl k) ?_
      show Goes _ _ _ _ _ _ _ (T314.setTop (mkF m 299 #[.val (.int u0), .val (.int u1), .val (.int u2), .val (.int u3), .val (.int u4), .val (.ref b121), .val (.int qq), .val (.int (4 : Int32)), .val (.ref b263), .val (.int rr), .val (.int (2 : Int32)), .val (.int ss)] [(.ref b263)]))
      refine Goes.of (fun t k => XS.aload X314.here hx rfl (hb hby at_299) rfl rfl k) ?_
      show Goes _ _ _ _ _ _ _ (T314.setTop (mkF m 301 #[.val (.int u0), .val (.int u1), .val (.int u2), .val (.int u3), .val (.int u4), .val (.ref b121), .val (.int qq), .val (.int (4 : Int32)), .val (.ref b263), .val (.int rr), .val (.int (2 : Int32)), .val (.int ss)] [(.ref b121), (.ref b263)]))
      refine Goes.of (fun t k => XS.iload X314.here hx rfl (hb hby at_301) rfl k) ?_
      show Goes _ _ _ _ _ _ _ (T314.setTop (mkF m 303 #[.val (.int u0), .val (.int u1), .val (.int u2), .val (.int u3), .val (.int u4), .val (.ref b121), .val (.int qq), .val (.int (4 : Int32)), .val (.ref b263), .val (.int rr), .val (.int (2 : Int32)), .val (.int ss)] [(.int (2 : Int32)), (.ref b121), (.ref b263)]))
      refine Goes.of (fun t k => XS.iconst X314.here hx rfl (hb hby at_303) k) ?_
      show Goes _ _ _ _ _ _ _ (T314.setTop (mkF m 304 #[.val (.int u0), .val (.int u1), .val (.int u2), .val (.int u3), .val (.int u4), .val (.ref b121), .val (.int qq), .val (.int (4 : Int32)), .val (.ref b263), .val (.int rr), .val (.int (2 : Int32)), .val (.int ss)] [(.int (2 : Int32)), (.int (2 : Int32)), (.ref b121), (.ref b263)]))
      obtain ⟨_, _, ⟨T315, L315, k315, n315⟩, -, X315, ⟨Lc315, hQ315, l315, y315, z315⟩, st315⟩ := Jvm.LawKit.callS X314 hx (y := (⟨"com/example/slotwright/slotwright/problems/IndexSetRemovePinLaw", "in", "(Lcom/example/slotwright/slotwright/problems/IndexSet;[III)Z"⟩ : MethodName)) hown (mvT hZ (hw _ (List.mem_of_getElem? (i := 48) rfl))) (mvT hZ (hw _ (List.mem_of_getElem? (i := 49) rfl))) (mvT hZ (hw _ (List.mem_of_getElem? (i := 4) rfl))) (mvT hZ (hw _ (List.mem_of_getElem? (i := 50) rfl))) (by decide) (backOf (W := 0) (rm10 l Z a0 hw [] b263 b121 (2 : Int32) (2 : Int32) mm265 pp265 4 Ms Ps (((((((0 : Int32) + (1 : Int32)) + (1 : Int32)) + (1 : Int32)) + (1 : Int32)) - (1 : Int32)) - (1 : Int32)) m5 h302 n0 Z302 F303 F304 F305 F306 F307 F308 ne_b263_mm265 ne_b263_pp265 ne_mm265_pp265 g_b263 g_mm265 g_pp265 V302 ⟨by decide, by decide⟩ (by decide) (own_chk hIs (by decide) (by decide) ⟨by decide, by decide⟩)) hZ (hw _ (List.mem_of_getElem? (i := 50) rfl)) (hw _ (List.mem_of_getElem? (i := 4) rfl)) (by decide) (by decide)) (g := (mkF m 304 #[.val (.int u0), .val (.int u1), .val (.int u2), .val (.int u3), .val (.int u4), .val (.ref b121), .val (.int qq), .val (.int (4 : Int32)), .val (.ref b263), .val (.int rr), .val (.int (2 : Int32)), .val (.int ss)] [(.int (2 : Int32)), (.int (2 : Int32)), (.ref b121), (.ref b263)])) rfl (by rw [hml]; rfl) (argsL := [(.ref b263), (.ref b121), (.int (2 : Int32)), (.int (2 : Int32))]) (rest := []) (lenOf pd_7 rfl) rfl (by show 2 * 0 + _ ≤ _; exact Nat.le_of_eq rfl) (hb hby at_304) (fun _ _ => ⟨rfl, e314, (by decide : 4 + 0 ≤ _), (by decide : 15 + 0 ≤ _)⟩)
      dsimp only [Pt.U, Pt.locs, Pt.cells, Pt.slots] at X315 l315 y315 z315 st315 hQ315
      replace l315 := l315.symm
      replace y315 := y315.symm
      replace z315 := z315.symm
      subst l315 y315 z315
      obtain ⟨rfl, N315q, e315⟩ := hQ315
      have N315 := Fr.app N314 N315q
      refine Goes.of st315 ?_
      show Goes _ _ _ _ _ _ _ (T315.setTop (mkF m 307 #[.val (.int u0), .val (.int u1), .val (.int u2), .val (.int u3), .val (.int u4), .val (.ref b121), .val (.int qq), .val (.int (4 : Int32)), .val (.ref b263), .val (.int rr), .val (.int (2 : Int32)), .val (.int ss)] [(.int (1 : Int32))]))
      refine Goes.of (fun t k => XS.ifNo X315.here hx rfl (hb hby at_307) rfl ((if0 _ _).trans (feq (by decide : ¬ ((1 : Int32) = (0 : Int32)))).1) k) ?_
      show Goes _ _ _ _ _ _ _ (T315.setTop (mkF m 310 #[.val (.int u0), .val (.int u1), .val (.int u2), .val (.int u3), .val (.int u4), .val (.ref b121), .val (.int qq), .val (.int (4 : Int32)), .val (.ref b263), .val (.int rr), .val (.int (2 : Int32)), .val (.int ss)] []))
      refine Goes.of (fun t k => XS.aload X315.here hx rfl (hb hby at_310) rfl rfl k) ?_
      show Goes _ _ _ _ _ _ _ (T315.setTop (mkF m 312 #[.val (.int u0), .val (.int u1), .val (.int u2), .val (.int u3), .val (.int u4), .val (.ref b121), .val (.int qq), .val (.int (4 : Int32)), .val (.ref b263), .val (.int rr), .val (.int (2 : Int32)), .val (.int ss)] [(.ref b263)]))
      refine Goes.of (fun t k => XS.aload X315.here hx rfl (hb hby at_312) rfl rfl k) ?_
      show Goes _ _ _ _ _ _ _ (T315.setTop (mkF m 314 #[.val (.int u0), .val (.int u1), .val (.int u2), .val (.int u3), .val (.int u4), .val (.ref b121), .val (.int qq), .val (.int (4 : Int32)), .val (.ref b263), .val (.int rr), .val (.int (2 : Int32)), .val (.int ss)] [(.ref b121), (.ref b263)]))
      refine Goes.of (fun t k => XS.iload X315.here hx rfl (hb hby at_314) rfl k) ?_
      show Goes _ _ _ _ _ _ _ (T315.setTop (mkF m 316 #[.val (.int u0), .val (.int u1), .val (.int u2), .val (.int u3), .val (.int u4), .val (.ref b121), .val (.int qq), .val (.int (4 : Int32)), .val (.ref b263), .val (.int rr), .val (.int (2 : Int32)), .val (.int ss)] [(.int (2 : Int32)), (.ref b121), (.ref b263)]))
      refine Goes.of (fun t k => XS.iconst X315.here hx rfl (hb hby at_316) k) ?_
      show Goes _ _ _ _ _ _ _ (T315.setTop (mkF m 317 #[.val (.int u0), .val (.int u1), .val (.int u2), .val (.int u3), .val (.int u4), .val (.ref b121), .val (.int qq), .val (.int (4 : Int32)), .val (.ref b263), .val (.int rr), .val (.int (2 : Int32)), .val (.int ss)] [(.int (3 : Int32)), (.int (2 : Int32)), (.ref b121), (.ref b263)]))
      obtain ⟨_, _, ⟨T316, L316, k316, n316⟩, -, X316, ⟨Lc316, hQ316, l316, y316, z316⟩, st316⟩ := Jvm.LawKit.callS X315 hx (y := (⟨"com/example/slotwright/slotwright/problems/IndexSetRemovePinLaw", "in", "(Lcom/example/slotwright/slotwright/problems/IndexSet;[III)Z"⟩ : MethodName)) hown (mvT hZ (hw _ (List.mem_of_getElem? (i := 48) rfl))) (mvT hZ (hw _ (List.mem_of_getElem? (i := 49) rfl))) (mvT hZ (hw _ (List.mem_of_getElem? (i := 4) rfl))) (mvT hZ (hw _ (List.mem_of_getElem? (i := 50) rfl))) (by decide) (backOf (W := 0) (rm10 l Z a0 hw [] b263 b121 (2 : Int32) (3 : Int32) mm265 pp265 4 Ms Ps (((((((0 : Int32) + (1 : Int32)) + (1 : Int32)) + (1 : Int32)) + (1 : Int32)) - (1 : Int32)) - (1 : Int32)) m5 h302 n0 Z302 F303 F304 F305 F306 F307 F308 ne_b263_mm265 ne_b263_pp265 ne_mm265_pp265 g_b263 g_mm265 g_pp265 V302 ⟨by decide, by decide⟩ (by decide) (own_chk hIs (by decide) (by decide) ⟨by decide, by decide⟩)) hZ (hw _ (List.mem_of_getElem? (i := 50) rfl)) (hw _ (List.mem_of_getElem? (i := 4) rfl)) (by decide) (by decide)) (g := (mkF m 317 #[.val (.int u0), .val (.int u1), .val (.int u2), .val (.int u3), .val (.int u4), .val (.ref b121), .val (.int qq), .val (.int (4 : Int32)), .val (.ref b263), .val (.int rr), .val (.int (2 : Int32)), .val (.int ss)] [(.int (3 : Int32)), (.int (2 : Int32)), (.ref b121), (.ref b263)])) rfl (by rw [hml]; rfl) (argsL := [(.ref b263), (.ref b121), (.int (2 : Int32)), (.int (3 : Int32))]) (rest := []) (lenOf pd_7 rfl) rfl (by show 2 * 0 + _ ≤ _; exact Nat.le_of_eq rfl) (hb hby at_317) (fun _ _ => ⟨rfl, e315, (by decide : 4 + 0 ≤ _), (by decide : 15 + 0 ≤ _)⟩)
      dsimp only [Pt.U, Pt.locs, Pt.cells, Pt.slots] at X316 l316 y316 z316 st316 hQ316
      replace l316 := l316.symm
      replace y316 := y316.symm
      replace z316 := z316.symm
      subst l316 y316 z316
      obtain ⟨rfl, N316q, e316⟩ := hQ316
      have N316 := Fr.app N315 N316q
      refine Goes.of st316 ?_
      show Goes _ _ _ _ _ _ _ (T316.setTop (mkF m 320 #[.val (.int u0), .val (.int u1), .val (.int u2), .val (.int u3), .val (.int u4), .val (.ref b121), .val (.int qq), .val (.int (4 : Int32)), .val (.ref b263), .val (.int rr), .val (.int (2 : Int32)), .val (.int ss)] [(.int (1 : Int32))]))
      refine Goes.of (fun t k => XS.ifNo X316.here hx rfl (hb hby at_320) rfl ((if0 _ _).trans (feq (by decide : ¬ ((1 : Int32) = (0 : Int32)))).1) k) ?_
      show Goes _ _ _ _ _ _ _ (T316.setTop (mkF m 323 #[.val (.int u0), .val (.int u1), .val (.int u2), .val (.int u3), .val (.int u4), .val (.ref b121), .val (.int qq), .val (.int (4 : Int32)), .val (.ref b263), .val (.int rr), .val (.int (2 : Int32)), .val (.int ss)] []))
      refine Goes.of (fun t k => XS.iconst X316.here hx rfl (hb hby at_323) k) ?_
      show Goes _ _ _ _ _ _ _ (T316.setTop (mkF m 324 #[.val (.int u0), .val (.int u1), .val (.int u2), .val (.int u3), .val (.int u4), .val (.ref b121), .val (.int qq), .val (.int (4 : Int32)), .val (.ref b263), .val (.int rr), .val (.int (2 : Int32)), .val (.int ss)] [(.int (1 : Int32))]))
      refine Goes.of (fun t k => XS.goto X316.here hx rfl (pc0 := 324) (pc' := 328) rfl (hb hby at_324) (by decide) (by decide) k) ?_
      show Goes _ _ _ _ _ _ _ (T316.setTop (mkF m 328 #[.val (.int u0), .val (.int u1), .val (.int u2), .val (.int u3), .val (.int u4), .val (.ref b121), .val (.int qq), .val (.int (4 : Int32)), .val (.ref b263), .val (.int rr), .val (.int (2 : Int32)), .val (.int ss)] [(.int (1 : Int32))]))
      exact Goes.fin X316 hlk (v := some (.int (1 : Int32))) (fun h => by rw [Bd.returns] at h; cases h) (fun fs hr => retN X316 hx (t := .boolean) Bd.returns (by simp) (hb hby at_328) hr) ⟨rfl, N316⟩ (by decide) (by decide)
set_option maxRecDepth 65536 in
set_option maxHeartbeats 40000000 in
theorem comes_1 {Post : Tables → Env → Array Value → State → Outcome → State → Prop} (hpost : ∀ tb e args s v u, (limb_1_1.after args s (.returned v) u = true ∧ limb_1_2.after args s (.returned v) u = true ∧ True) → FrameEnd s (.returned v) u (Jvm.fieldLocs frame_1_writes args s ++ Jvm.arrayLocs frame_1_arrays args s ++ Jvm.staticLocs frame_1_statics s) 16 128 → Post tb e args s (.returned v) u) :
    ArmFor flags0 classFile x code maxLocals ret World_1 tables_1 room_1 Calls_1 rest_1 Pre_1 Post := by
  intro l hfl _ _ p e ha hc hk s m args below hf hA hF happ hP
  obtain ⟨hcalls, hrest, hpre⟩ := hP
  obtain ⟨-, -, -, hnamed, -, -, -, hat⟩ := (Spec.applies_iff hf).mp happ
  obtain ⟨hg, hn⟩ := and_e (Cond.before_iff.mp (show (Jvm.Cond.and given_1 narrow_1).before args s = true from hpre))
  obtain ⟨g317, g318⟩ := and_e hg
  obtain ⟨g319, g320⟩ := and_e g318
  obtain ⟨g321, g322⟩ := and_e g320
  obtain ⟨g323, g324⟩ := and_e g322
  obtain ⟨g325, g326⟩ := and_e g324
  obtain ⟨w0, w1, w2, w3, w4, rfl⟩ : ∃ w0 w1 w2 w3 w4 : Value, args = #[w0, w1, w2, w3, w4] := by
    have hs : args.size = 5 := by simpa [Cond.value, given_1] using g317
    obtain ⟨L⟩ := args
    match L, hs with
    | [w0, w1, w2, w3, w4], _ => exact ⟨w0, w1, w2, w3, w4, rfl⟩
  have hw := fun d (hd : d ∈ tables_1) => atoms_spec (ws := Jvm.Cond.code x code maxLocals ret :: tables_1) hat d (List.mem_cons_of_mem _ hd)
  obtain ⟨i0, ei0⟩ := is_v g319
  obtain rfl : w0 = (.int i0) := Option.some.inj ei0
  obtain ⟨i1, ei1⟩ := is_v g321
  obtain rfl : w1 = (.int i1) := Option.some.inj ei1
  obtain ⟨i2, ei2⟩ := is_v g323
  obtain rfl : w2 = (.int i2) := Option.some.inj ei2
  obtain ⟨i3, ei3⟩ := is_v g325
  obtain rfl : w3 = (.int i3) := Option.some.inj ei3
  obtain ⟨i4, ei4⟩ := is_v g326
  obtain rfl : w4 = (.int i4) := Option.some.inj ei4
  obtain ⟨n, o, h1, h2, h3, _, L, rfl, ⟨rfl, N⟩, hq⟩ := rm0 l s _ hw tables_1 i0 i1 i2 i3 i4 s.heap s.heap.size (Nat.le_refl _) p e ha hc hk s m _ below hf ((Spec.applies_iff_loose hf).mp happ).1 ⟨rfl, State.Warmed39.refl s, rfl⟩ trivial
  exact ⟨n, _, h1, h2, h3, hpost _ _ _ _ _ _ ⟨Cond.after_iff.mpr rfl, Cond.after_iff.mpr (eq_i res_at (Term.int_eval (1)) rfl), trivial⟩ ⟨hq.1, hq.2.1, (hq.2.2.sift fun y hy => Or.inr (N y hy)).mono (by decide) (by decide)⟩⟩
theorem main_1_1 : Claimed_1_1 := comes_1 fun _ _ _ _ _ _ h hF => ⟨h.1, hF⟩
theorem main_1_2 : Claimed_1_2 := comes_1 fun _ _ _ _ _ _ h hF => ⟨h.2.1, hF⟩
end Jvm.Pilot.@@N@@
namespace Jvm.Pilot.@@N@@
open Jvm Jvm.ClassFile Sem Op Lib Jvm.Free Jvm.Stand Jvm.Pilot.@@N@@.Jvm.D
/-! MADE BY PROGRAM (witnessworld.py) out of the Statement's table words and the real class files: 10 classes; the members and pool entries that the words name. The judged class is class 1, her method 1. -/
namespace start1
open Jvm.ClassFile
def u (s : String) : CpInfo := .utf8 (stringToUtf16 s)
/-- a pool by its gaps: so many unusable entries, then the entry; so many at the end -/
def gap : Nat → List CpInfo → List CpInfo
  | 0, r => r
  | n + 1, r => .unusable :: gap n r
def poolList (es : List (Nat × CpInfo)) (last : Nat) : List CpInfo := es.foldr (fun e r => gap e.1 (e.2 :: r)) (gap last [])
def pool (es : List (Nat × CpInfo)) (last : Nat) : Array CpInfo := ⟨poolList es last⟩
def fileOf (pool : Array CpInfo) (this : Nat) (attrs : Array Attribute := #[]) (ms : Array MethodInfo := #[]) (fl : Nat := 33) (sup : Nat := 0) (ifs : Array Nat := #[]) (fds : Array FieldInfo := #[]) : ClassFile where
  minorVersion := 0
  majorVersion := 65
  constantPool := pool
  accessFlags := fl
  thisClass := this
  superClass := sup
  interfaces := ifs
  fields := fds
  methods := ms
  attributes := attrs
def plain (name : String) (sup : Option ClassId) : Class where
  name := name
  kind := .ordinary
  loader := none
  accessFlags := 33
  super := sup
  interfaces := #[]
  cf := none
  fields := #[]
  methods := #[]
  instanceTypes := #[]
  staticTypes := #[]
  resolved := #[]
  callSites := []
  init := .initialized
  statics := none
  mirror := none

def pool0 : Array CpInfo := pool [(5, u "<init>"), (0, u "()V"), (1, .class_ 10), (1, u "java/lang/Object")] 113

def k0c0 : Code := { maxStack := 0, maxLocals := 1, code := object_method_1_code, exceptionTable := #[], attributes := #[] }
def k0m0 : Method := { name := "<init>", desc := "()V", sig := { parameters := [], returnType := none }, accessFlags := 1, code := some k0c0 }
/-- java/lang/Object -/
def k0 : Class := { plain "java/lang/Object" none with
  accessFlags := 33
  interfaces := #[]
  cf := some (fileOf pool0 8 #[] #[{ accessFlags := 1, nameIndex := 5, descriptorIndex := 6, attributes := #[] }] 33 0 #[] #[])
  fields := #[]
  methods := #[k0m0]
  instanceTypes := #[]
  staticTypes := #[]
  resolved := Array.replicate 124 none
  statics := none }

def pool1 : Array CpInfo := pool [(2, .class_ 4), (1, u "java/lang/Object"), (0, u "<init>"), (0, u "()V"), (0, .integer 2147483647), (0, .methodref 9 10), (0, .class_ 11), (0, .nameAndType 12 13), (0, u "com/example/slotwright/slotwright/problems/IndexSetRemovePinLaw"), (0, u "swap"), (0, u "([III)V"), (0, .class_ 15), (0, u "com/example/slotwright/slotwright/problems/IndexSet"), (0, .methodref 14 17), (0, .nameAndType 5 18), (0, u "(I)V"), (0, .methodref 14 20), (0, .nameAndType 21 18), (0, u "add"), (0, .methodref 14 23), (0, .nameAndType 24 18), (0, u "remove"), (0, .methodref 14 26), (0, .nameAndType 27 28), (0, u "size"), (0, u "()I"), (0, .methodref 9 30), (0, .nameAndType 31 32), (0, u "at"), (0, u "(Lcom/example/slotwright/slotwright/problems/IndexSet;[III)Z"), (0, .methodref 9 34), (0, .nameAndType 35 32), (0, u "in"), (0, .methodref 14 37), (0, .nameAndType 38 39), (0, u "get"), (0, u "(I)I"), (0, .methodref 14 41), (0, .nameAndType 42 43), (0, u "contains"), (0, u "(I)Z"), (2, u "law"), (0, u "(IIIII)Z")] 5

def k1m0 : Method := { name := "<init>", desc := "()V", sig := { parameters := [], returnType := none }, accessFlags := 1, code := none }
def k1c1 : Code := { maxStack := 5, maxLocals := 12, code := code, exceptionTable := #[], attributes := #[] }
def k1m1 : Method := { name := "law", desc := "(IIIII)Z", sig := { parameters := [.int, .int, .int, .int, .int], returnType := some .boolean }, accessFlags := 9, code := some k1c1 }
def k1c2 : Code := { maxStack := 4, maxLocals := 4, code := method_3_code, exceptionTable := #[], attributes := #[] }
def k1m2 : Method := { name := "swap", desc := "([III)V", sig := { parameters := [(.array .int), .int, .int], returnType := none }, accessFlags := 10, code := some k1c2 }
def k1c3 : Code := { maxStack := 3, maxLocals := 4, code := method_4_code, exceptionTable := #[], attributes := #[] }
def k1m3 : Method := { name := "at", desc := "(Lcom/example/slotwright/slotwright/problems/IndexSet;[III)Z", sig := { parameters := [(.object "com/example/slotwright/slotwright/problems/IndexSet"), (.array .int), .int, .int], returnType := some .boolean }, accessFlags := 10, code := some k1c3 }
def k1c4 : Code := { maxStack := 2, maxLocals := 5, code := method_5_code, exceptionTable := #[], attributes := #[] }
def k1m4 : Method := { name := "in", desc := "(Lcom/example/slotwright/slotwright/problems/IndexSet;[III)Z", sig := { parameters := [(.object "com/example/slotwright/slotwright/problems/IndexSet"), (.array .int), .int, .int], returnType := some .boolean }, accessFlags := 10, code := some k1c4 }
/-- com/example/slotwright/slotwright/problems/IndexSetRemovePinLaw -/
def k1 : Class := { plain "com/example/slotwright/slotwright/problems/IndexSetRemovePinLaw" (some 0) with
  accessFlags := 49
  interfaces := #[]
  cf := some (fileOf pool1 9 #[] #[{ accessFlags := 1, nameIndex := 5, descriptorIndex := 6, attributes := #[] }, { accessFlags := 9, nameIndex := 46, descriptorIndex := 47, attributes := #[] }, { accessFlags := 10, nameIndex := 12, descriptorIndex := 13, attributes := #[] }, { accessFlags := 10, nameIndex := 31, descriptorIndex := 32, attributes := #[] }, { accessFlags := 10, nameIndex := 35, descriptorIndex := 32, attributes := #[] }] 49 2 #[] #[])
  fields := #[]
  methods := #[k1m0, k1m1, k1m2, k1m3, k1m4]
  instanceTypes := #[]
  staticTypes := #[]
  resolved := Array.replicate 53 none
  statics := none }

def pool2 : Array CpInfo := pool [(1, .methodref 2 3), (0, .class_ 4), (0, .nameAndType 5 6), (0, u "java/lang/Object"), (0, u "<init>"), (0, u "()V"), (0, .fieldref 8 9), (0, .class_ 10), (0, .nameAndType 11 12), (0, u "com/example/slotwright/slotwright/problems/IndexSet"), (0, u "members"), (0, u "[I"), (0, .fieldref 8 14), (0, .nameAndType 15 12), (0, u "positions"), (0, .methodref 17 18), (0, .class_ 19), (0, .nameAndType 20 21), (0, u "java/util/Arrays"), (0, u "fill"), (0, u "([II)V"), (0, .fieldref 8 23), (0, .nameAndType 24 25), (0, u "size"), (0, u "I"), (0, u "(I)V"), (2, u "()I"), (0, u "get"), (0, u "(I)I"), (0, u "contains"), (0, u "(I)Z"), (1, u "add"), (0, u "remove")] 2

def k2c0 : Code := { maxStack := 2, maxLocals := 2, code := prog_12_method_1_code, exceptionTable := #[], attributes := #[] }
def k2m0 : Method := { name := "<init>", desc := "(I)V", sig := { parameters := [.int], returnType := none }, accessFlags := 1, code := some k2c0 }
def k2c1 : Code := { maxStack := 1, maxLocals := 1, code := prog_12_method_2_code, exceptionTable := #[], attributes := #[] }
def k2m1 : Method := { name := "size", desc := "()I", sig := { parameters := [], returnType := some .int }, accessFlags := 1, code := some k2c1 }
def k2c2 : Code := { maxStack := 2, maxLocals := 2, code := prog_12_method_3_code, exceptionTable := #[], attributes := #[] }
def k2m2 : Method := { name := "get", desc := "(I)I", sig := { parameters := [.int], returnType := some .int }, accessFlags := 1, code := some k2c2 }
def k2c3 : Code := { maxStack := 2, maxLocals := 2, code := prog_12_method_4_code, exceptionTable := #[], attributes := #[] }
def k2m3 : Method := { name := "contains", desc := "(I)Z", sig := { parameters := [.int], returnType := some .boolean }, accessFlags := 1, code := some k2c3 }
def k2c4 : Code := { maxStack := 6, maxLocals := 2, code := prog_12_method_5_code, exceptionTable := #[], attributes := #[] }
def k2m4 : Method := { name := "add", desc := "(I)V", sig := { parameters := [.int], returnType := none }, accessFlags := 1, code := some k2c4 }
def k2c5 : Code := { maxStack := 4, maxLocals := 4, code := prog_12_method_6_code, exceptionTable := #[], attributes := #[] }
def k2m5 : Method := { name := "remove", desc := "(I)V", sig := { parameters := [.int], returnType := none }, accessFlags := 1, code := some k2c5 }
/-- com/example/slotwright/slotwright/problems/IndexSet -/
def k2 : Class := { plain "com/example/slotwright/slotwright/problems/IndexSet" (some 0) with
  accessFlags := 49
  interfaces := #[]
  cf := some (fileOf pool2 8 #[] #[{ accessFlags := 1, nameIndex := 5, descriptorIndex := 26, attributes := #[] }, { accessFlags := 1, nameIndex := 24, descriptorIndex := 29, attributes := #[] }, { accessFlags := 1, nameIndex := 30, descriptorIndex := 31, attributes := #[] }, { accessFlags := 1, nameIndex := 32, descriptorIndex := 33, attributes := #[] }, { accessFlags := 1, nameIndex := 35, descriptorIndex := 26, attributes := #[] }, { accessFlags := 1, nameIndex := 36, descriptorIndex := 26, attributes := #[] }] 49 2 #[] #[{ accessFlags := 18, nameIndex := 11, descriptorIndex := 12, attributes := #[] }, { accessFlags := 18, nameIndex := 15, descriptorIndex := 12, attributes := #[] }, { accessFlags := 2, nameIndex := 24, descriptorIndex := 25, attributes := #[] }])
  fields := #[{ name := "members", type := (.array .int), accessFlags := 18, slot := 0, constantValue := 0 }, { name := "positions", type := (.array .int), accessFlags := 18, slot := 1, constantValue := 0 }, { name := "size", type := .int, accessFlags := 2, slot := 2, constantValue := 0 }]
  methods := #[k2m0, k2m1, k2m2, k2m3, k2m4, k2m5]
  instanceTypes := #[(.array .int), (.array .int), .int]
  staticTypes := #[]
  resolved := Array.replicate 39 none
  statics := none }

def pool3 : Array CpInfo := pool [(2, .class_ 4), (1, u "java/lang/Object"), (0, u "<init>"), (0, u "()V"), (7, .class_ 16), (1, u "java/util/Arrays"), (57, .class_ 76), (1, u "java/util/Arrays$NaturalOrder"), (36, .class_ 115), (1, u "java/util/Arrays$LegacyMergeSort"), (1, u "Z"), (257, .class_ 376), (0, u "java/util/Arrays$ArrayList"), (68, u "$assertionsDisabled"), (269, u "MIN_ARRAY_SORT_GRAN"), (0, u "I"), (2, u "INSERTIONSORT_THRESHOLD"), (120, u "fill"), (4, u "([II)V"), (129, .class_ 976), (0, u "java/util/Arrays$ArrayItr")] 52

def k3m0 : Method := { name := "<init>", desc := "()V", sig := { parameters := [], returnType := none }, accessFlags := 2, code := none }
def k3c1 : Code := { maxStack := 3, maxLocals := 4, code := jdk_65_method_103_code, exceptionTable := #[], attributes := #[] }
def k3m1 : Method := { name := "fill", desc := "([II)V", sig := { parameters := [(.array .int), .int], returnType := none }, accessFlags := 9, code := some k3c1 }
/-- java/util/Arrays -/
def k3 : Class := { plain "java/util/Arrays" (some 0) with
  accessFlags := 49
  interfaces := #[]
  cf := some (fileOf pool3 14 #[.nestMembers #[975, 375, 113, 74]] #[{ accessFlags := 2, nameIndex := 5, descriptorIndex := 6, attributes := #[] }, { accessFlags := 9, nameIndex := 840, descriptorIndex := 845, attributes := #[] }] 49 2 #[] #[{ accessFlags := 26, nameIndex := 715, descriptorIndex := 716, attributes := #[] }, { accessFlags := 26, nameIndex := 719, descriptorIndex := 716, attributes := #[] }, { accessFlags := 4120, nameIndex := 445, descriptorIndex := 117, attributes := #[] }])
  fields := #[{ name := "MIN_ARRAY_SORT_GRAN", type := .int, accessFlags := 26, slot := 0, constantValue := 0 }, { name := "INSERTIONSORT_THRESHOLD", type := .int, accessFlags := 26, slot := 1, constantValue := 0 }, { name := "$assertionsDisabled", type := .boolean, accessFlags := 4120, slot := 2, constantValue := 0 }]
  methods := #[k3m0, k3m1]
  instanceTypes := #[]
  staticTypes := #[.int, .int, .boolean]
  resolved := Array.replicate 1029 none
  statics := none }

def pool4 : Array CpInfo := pool [(1, u "java/lang/Cloneable"), (0, .class_ 1), (0, u "java/lang/Object"), (0, .class_ 3)] 3

/-- java/lang/Cloneable -/
def k4 : Class := { plain "java/lang/Cloneable" (some 0) with
  accessFlags := 1537
  interfaces := #[]
  cf := some (fileOf pool4 2 #[] #[] 1537 4 #[] #[])
  fields := #[]
  methods := #[]
  instanceTypes := #[]
  staticTypes := #[]
  resolved := Array.replicate 8 none
  statics := none }

def pool5 : Array CpInfo := pool [(1, u "java/io/Serializable"), (0, .class_ 1), (0, u "java/lang/Object"), (0, .class_ 3)] 3

/-- java/io/Serializable -/
def k5 : Class := { plain "java/io/Serializable" (some 0) with
  accessFlags := 1537
  interfaces := #[]
  cf := some (fileOf pool5 2 #[] #[] 1537 4 #[] #[])
  fields := #[]
  methods := #[]
  instanceTypes := #[]
  staticTypes := #[]
  resolved := Array.replicate 8 none
  statics := none }

/-- the primitive byte -/
def k6 : Class := { plain "byte" none with kind := .primitive 'B', accessFlags := 0x411 }
/-- [B -/
def k7 : Class := { plain "[B" (some 0) with kind := .array 6 .byte, interfaces := #[4, 5], accessFlags := 1041 }

/-- the primitive int -/
def k8 : Class := { plain "int" none with kind := .primitive 'I', accessFlags := 0x411 }
/-- [I -/
def k9 : Class := { plain "[I" (some 0) with kind := .array 8 .int, interfaces := #[4, 5], accessFlags := 1041 }

def heap : Heap := #[]
def classes : Array Class := #[k0, k1, k2, k3, k4, k5, k6, k7, k8, k9]
def interned : List (Array UInt16 × Addr) := []
def slotsUsed : Nat := 0
def theMethod : MethodId := ⟨1, 1⟩
def args0 : Array Value := #[.int 5, .int 7, .int 3, .int 4, .int 6]
def aboutOver (below : List Frame) : State where
  vm := { classes := classes, interned := interned.toArray }
  heap := heap
  slotsUsed := slotsUsed
  threads := #[{ frames := .invoking theMethod args0 :: below }]
def below0 : List Frame := [.native { method := ⟨0, 0⟩, args := #[] }]
def about1 : State := aboutOver below0
def p0 : Program := .bare "" "" ""
def e0 : Env := launch0.env 0 0 0
theorem w_frames : about1.frames = Frame.invoking theMethod args0 :: below0 := rfl
set_option maxRecDepth 65536 in
theorem w_args : argsFit about1.vm theMethod args0 = true := by decide +kernel
set_option maxRecDepth 65536 in
theorem w_heap : heapFits about1 = true := by decide +kernel
set_option maxRecDepth 65536 in
theorem w_runnable : about1.curStatus? = some .runnable := by decide +kernel
set_option maxRecDepth 65536 in
theorem w_alone : about1.alone = true := by decide +kernel
set_option maxRecDepth 65536 in
theorem w_named : about1.methodNamed? x = some theMethod := by decide +kernel
set_option maxRecDepth 65536 in
theorem w_hears : about1.hears theMethod below0 = true := by decide +kernel
set_option maxRecDepth 65536 in
theorem w_ripe : about1.ripe theMethod args0 below0 = true := by decide +kernel
theorem w_running : about1.status = .running := rfl
set_option maxRecDepth 65536 in
theorem w_room : about1.hasRoom e0.platform room_1 = true :=
  launch0.hasRoom_least _ room_1 (by decide +kernel) (by decide +kernel) (by decide +kernel) (by decide +kernel) (by decide +kernel) (by decide +kernel)
theorem allAtoms_all (ts : List Jvm.Cond) (a : Array Jvm.Value) (st : Jvm.State) : (allAtoms ts).before a st = ts.all (fun c => c.before a st) := by
  induction ts with
  | nil => rfl
  | cons c t ih =>
    show (Jvm.Cond.and c (allAtoms t)).before a st = _
    rw [Jvm.Cond.before_and, ih, List.all_cons]
def words1 : List Jvm.Cond := Jvm.Cond.code x code maxLocals ret :: tables_1
/-- a 'code' word, met by the world's own term for the bytes: nothing is compared byte by byte -/
theorem code_word {y : MethodName} {bytes : ByteArray} {mx : Nat} {rt : Option FieldType} {a : Array Value} {s : State} {m : MethodId} {meth : Method} {c : Code} (h1 : s.methodNamed? y = some m) (h2 : s.vm.method? m = some meth) (h3 : meth.code = some c) (h4 : c.code = bytes)
    (h5 : (c.maxLocals == mx && c.exceptionTable.isEmpty && decide (c.maxStack ≤ mostOperands) && decide (meth.sig.returnType = rt) && !meth.locks && decide (parseMethodDescriptor y.desc = some meth.sig)) = true) : (Jvm.Cond.code y bytes mx rt).before a s = true := by
  simp only [Bool.and_eq_true, beq_iff_eq, Bool.not_eq_true', decide_eq_true_eq] at h5
  obtain ⟨⟨⟨⟨⟨g1, g2⟩, g3⟩, g4⟩, g5⟩, g6⟩ := h5
  simp [Cond.before, Cond.holds, Cond.value, h1, h2, h3, h4, g1, g2, g3, g4, g5, g6]
def isCode : Jvm.Cond → Bool
  | .code _ _ _ _ => true
  | _ => false
theorem all_split {L : List Jvm.Cond} {P : Jvm.Cond → Bool} (h1 : L.all (fun c => isCode c || P c) = true) (h2 : ∀ c ∈ L.filter isCode, P c = true) : L.all P = true := by
  refine List.all_eq_true.mpr fun c hc => ?_
  have h := List.all_eq_true.mp h1 c hc
  rcases Bool.eq_false_or_eq_true (isCode c) with hi | hi
  · exact h2 c (List.mem_filter.mpr ⟨hc, hi⟩)
  · simpa [hi] using h
set_option maxRecDepth 65536 in
theorem w_c0 : (Jvm.Cond.code x code maxLocals ret).before args0 about1 = true := code_word (m := ⟨1, 1⟩) (meth := k1m1) (c := k1c1) (by decide +kernel) rfl rfl rfl (by decide +kernel)
set_option maxRecDepth 65536 in
theorem w_c1 : (Jvm.Cond.code ({ cls := "com/example/slotwright/slotwright/problems/IndexSetRemovePinLaw", name := "swap", desc := "([III)V" } : Jvm.MethodName) method_3_code (4 : Nat) (Option.none : Option Jvm.ClassFile.FieldType)).before args0 about1 = true := code_word (m := ⟨1, 2⟩) (meth := k1m2) (c := k1c2) (by decide +kernel) rfl rfl rfl (by decide +kernel)
set_option maxRecDepth 65536 in
theorem w_c2 : (Jvm.Cond.code ({ cls := "com/example/slotwright/slotwright/problems/IndexSet", name := "<init>", desc := "(I)V" } : Jvm.MethodName) prog_12_method_1_code (2 : Nat) (Option.none : Option Jvm.ClassFile.FieldType)).before args0 about1 = true := code_word (m := ⟨2, 0⟩) (meth := k2m0) (c := k2c0) (by decide +kernel) rfl rfl rfl (by decide +kernel)
set_option maxRecDepth 65536 in
theorem w_c3 : (Jvm.Cond.code ({ cls := "java/lang/Object", name := "<init>", desc := "()V" } : Jvm.MethodName) object_method_1_code (1 : Nat) (Option.none : Option Jvm.ClassFile.FieldType)).before args0 about1 = true := code_word (m := ⟨0, 0⟩) (meth := k0m0) (c := k0c0) (by decide +kernel) rfl rfl rfl (by decide +kernel)
set_option maxRecDepth 65536 in
theorem w_c4 : (Jvm.Cond.code ({ cls := "java/util/Arrays", name := "fill", desc := "([II)V" } : Jvm.MethodName) jdk_65_method_103_code (4 : Nat) (Option.none : Option Jvm.ClassFile.FieldType)).before args0 about1 = true := code_word (m := ⟨3, 1⟩) (meth := k3m1) (c := k3c1) (by decide +kernel) rfl rfl rfl (by decide +kernel)
set_option maxRecDepth 65536 in
theorem w_c5 : (Jvm.Cond.code ({ cls := "com/example/slotwright/slotwright/problems/IndexSet", name := "add", desc := "(I)V" } : Jvm.MethodName) prog_12_method_5_code (2 : Nat) (Option.none : Option Jvm.ClassFile.FieldType)).before args0 about1 = true := code_word (m := ⟨2, 4⟩) (meth := k2m4) (c := k2c4) (by decide +kernel) rfl rfl rfl (by decide +kernel)
set_option maxRecDepth 65536 in
theorem w_c6 : (Jvm.Cond.code ({ cls := "com/example/slotwright/slotwright/problems/IndexSet", name := "remove", desc := "(I)V" } : Jvm.MethodName) prog_12_method_6_code (4 : Nat) (Option.none : Option Jvm.ClassFile.FieldType)).before args0 about1 = true := code_word (m := ⟨2, 5⟩) (meth := k2m5) (c := k2c5) (by decide +kernel) rfl rfl rfl (by decide +kernel)
set_option maxRecDepth 65536 in
theorem w_c7 : (Jvm.Cond.code ({ cls := "com/example/slotwright/slotwright/problems/IndexSet", name := "size", desc := "()I" } : Jvm.MethodName) prog_12_method_2_code (1 : Nat) (Option.some Jvm.ClassFile.FieldType.int)).before args0 about1 = true := code_word (m := ⟨2, 1⟩) (meth := k2m1) (c := k2c1) (by decide +kernel) rfl rfl rfl (by decide +kernel)
set_option maxRecDepth 65536 in
theorem w_c8 : (Jvm.Cond.code ({ cls := "com/example/slotwright/slotwright/problems/IndexSetRemovePinLaw", name := "at", desc := "(Lcom/example/slotwright/slotwright/problems/IndexSet;[III)Z" } : Jvm.MethodName) method_4_code (4 : Nat) (Option.some Jvm.ClassFile.FieldType.boolean)).before args0 about1 = true := code_word (m := ⟨1, 3⟩) (meth := k1m3) (c := k1c3) (by decide +kernel) rfl rfl rfl (by decide +kernel)
set_option maxRecDepth 65536 in
theorem w_c9 : (Jvm.Cond.code ({ cls := "com/example/slotwright/slotwright/problems/IndexSet", name := "get", desc := "(I)I" } : Jvm.MethodName) prog_12_method_3_code (2 : Nat) (Option.some Jvm.ClassFile.FieldType.int)).before args0 about1 = true := code_word (m := ⟨2, 2⟩) (meth := k2m2) (c := k2c2) (by decide +kernel) rfl rfl rfl (by decide +kernel)
set_option maxRecDepth 65536 in
theorem w_c10 : (Jvm.Cond.code ({ cls := "com/example/slotwright/slotwright/problems/IndexSetRemovePinLaw", name := "in", desc := "(Lcom/example/slotwright/slotwright/problems/IndexSet;[III)Z" } : Jvm.MethodName) method_5_code (5 : Nat) (Option.some Jvm.ClassFile.FieldType.boolean)).before args0 about1 = true := code_word (m := ⟨1, 4⟩) (meth := k1m4) (c := k1c4) (by decide +kernel) rfl rfl rfl (by decide +kernel)
set_option maxRecDepth 65536 in
theorem w_c11 : (Jvm.Cond.code ({ cls := "com/example/slotwright/slotwright/problems/IndexSet", name := "contains", desc := "(I)Z" } : Jvm.MethodName) prog_12_method_4_code (2 : Nat) (Option.some Jvm.ClassFile.FieldType.boolean)).before args0 about1 = true := code_word (m := ⟨2, 3⟩) (meth := k2m3) (c := k2c3) (by decide +kernel) rfl rfl rfl (by decide +kernel)
def codes1 : List Jvm.Cond := [Jvm.Cond.code x code maxLocals ret, Jvm.Cond.code ({ cls := "com/example/slotwright/slotwright/problems/IndexSetRemovePinLaw", name := "swap", desc := "([III)V" } : Jvm.MethodName) method_3_code (4 : Nat) (Option.none : Option Jvm.ClassFile.FieldType), Jvm.Cond.code ({ cls := "com/example/slotwright/slotwright/problems/IndexSet", name := "<init>", desc := "(I)V" } : Jvm.MethodName) prog_12_method_1_code (2 : Nat) (Option.none : Option Jvm.ClassFile.FieldType), Jvm.Cond.code ({ cls := "java/lang/Object", name := "<init>", desc := "()V" } : Jvm.MethodName) object_method_1_code (1 : Nat) (Option.none : Option Jvm.ClassFile.FieldType), Jvm.Cond.code ({ cls := "java/util/Arrays", name := "fill", desc := "([II)V" } : Jvm.MethodName) jdk_65_method_103_code (4 : Nat) (Option.none : Option Jvm.ClassFile.FieldType), Jvm.Cond.code ({ cls := "com/example/slotwright/slotwright/problems/IndexSet", name := "add", desc := "(I)V" } : Jvm.MethodName) prog_12_method_5_code (2 : Nat) (Option.none : Option Jvm.ClassFile.FieldType), Jvm.Cond.code ({ cls := "com/example/slotwright/slotwright/problems/IndexSet", name := "remove", desc := "(I)V" } : Jvm.MethodName) prog_12_method_6_code (4 : Nat) (Option.none : Option Jvm.ClassFile.FieldType), Jvm.Cond.code ({ cls := "com/example/slotwright/slotwright/problems/IndexSet", name := "size", desc := "()I" } : Jvm.MethodName) prog_12_method_2_code (1 : Nat) (Option.some Jvm.ClassFile.FieldType.int), Jvm.Cond.code ({ cls := "com/example/slotwright/slotwright/problems/IndexSetRemovePinLaw", name := "at", desc := "(Lcom/example/slotwright/slotwright/problems/IndexSet;[III)Z" } : Jvm.MethodName) method_4_code (4 : Nat) (Option.some Jvm.ClassFile.FieldType.boolean), Jvm.Cond.code ({ cls := "com/example/slotwright/slotwright/problems/IndexSet", name := "get", desc := "(I)I" } : Jvm.MethodName) prog_12_method_3_code (2 : Nat) (Option.some Jvm.ClassFile.FieldType.int), Jvm.Cond.code ({ cls := "com/example/slotwright/slotwright/problems/IndexSetRemovePinLaw", name := "in", desc := "(Lcom/example/slotwright/slotwright/problems/IndexSet;[III)Z" } : Jvm.MethodName) method_5_code (5 : Nat) (Option.some Jvm.ClassFile.FieldType.boolean), Jvm.Cond.code ({ cls := "com/example/slotwright/slotwright/problems/IndexSet", name := "contains", desc := "(I)Z" } : Jvm.MethodName) prog_12_method_4_code (2 : Nat) (Option.some Jvm.ClassFile.FieldType.boolean)]
set_option maxRecDepth 65536 in
theorem codes_eq : words1.filter isCode = codes1 := rfl
theorem w_codes : ∀ c ∈ words1.filter isCode, c.before args0 about1 = true := by
  rw [codes_eq]
  intro c hc
  simp only [codes1, List.mem_cons, List.not_mem_nil, or_false] at hc
  rcases hc with rfl | rfl | rfl | rfl | rfl | rfl | rfl | rfl | rfl | rfl | rfl | rfl
  · exact w_c0
  · exact w_c1
  · exact w_c2
  · exact w_c3
  · exact w_c4
  · exact w_c5
  · exact w_c6
  · exact w_c7
  · exact w_c8
  · exact w_c9
  · exact w_c10
  · exact w_c11
set_option maxRecDepth 65536 in
theorem w_t1 : (words1.take 24).all (fun c => isCode c || c.before args0 about1) = true := by decide +kernel
set_option maxRecDepth 65536 in
theorem w_t2 : ((words1.drop 24).take 24).all (fun c => isCode c || c.before args0 about1) = true := by decide +kernel
set_option maxRecDepth 65536 in
theorem w_t3 : ((words1.drop 24).drop 24).all (fun c => isCode c || c.before args0 about1) = true := by decide +kernel
theorem w_tables : (allAtoms (Jvm.Cond.code x code maxLocals ret :: tables_1)).before args0 about1 = true := by
  rw [allAtoms_all]
  show words1.all (fun c => c.before args0 about1) = true
  refine all_split ?_ w_codes
  rw [← List.take_append_drop 24 words1, List.all_append, w_t1, ← List.take_append_drop 24 (words1.drop 24), List.all_append, w_t2, w_t3]
  rfl
set_option maxRecDepth 65536 in
theorem w_case : (Jvm.Cond.and given_1 narrow_1).before args0 about1 = true := by decide +kernel
theorem w_applies : (headSpec (Jvm.Cond.code x code maxLocals ret :: tables_1) room_1).applies x e0.platform about1 = true :=
  (Spec.applies_iff w_frames).mpr ⟨w_running, w_runnable, w_alone, w_named, w_hears, w_ripe, w_room, w_tables⟩
theorem atStart : AtStart classFile x code maxLocals ret World_1 tables_1 room_1 Calls_1 rest_1 Pre_1 launch0 p0 e0 about1 theMethod args0 below0 :=
  ⟨lists_1, trivial, launch0.admits_env _ _ _, launch0.least_env, fairChoices_fair.cas, fairChoices_fair.clock, w_frames, w_args, w_heap, w_applies, trivial, trivial, w_case⟩
end start1
theorem witness_1 : WitnessClaimed_1 := ⟨start1.p0, start1.e0, start1.about1, start1.theMethod, start1.args0, start1.below0, start1.atStart⟩
end Jvm.Pilot.@@N@@
