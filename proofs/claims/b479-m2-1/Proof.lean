import JvmDerived
import JvmDerived.Pilot.@@N@@Statement
import JvmDerived.Pilot.@@N@@Code
set_option linter.unusedVariables false
set_option linter.unusedSimpArgs false
namespace Jvm.RoadKit
open Sem ClassFile Op Lib Jvm.Stand Jvm.Free Jvm.LawKit
section New
variable {p : Program} {l : Launch} {e : Env} {R : Room} {s : State} {m : MethodId} {args : Array Value} {below : List Frame} {meth : Method} {c : Code} {T : State} {locs : List Loc} {cells slots : Nat}
theorem retI (X : Stand p l e R s m args below meth c T locs cells slots) (hx : p.tables.exec = Jvm.exec) {pc : Nat} {Ls : Array Slot} {z : Int32} {rest : List Value} (hret : meth.sig.returnType = some .int) (hd : decode c.code pc = .ok (.ireturn, 1)) {fs : List Frame}
    (hl : ∀ (f : JFrame) (acts : List Action), f.method = m → f.locked = none → f.entered = [] → (doReturn e (T.setTop f) acts (some (.int z))).1 = T.setFrames fs) : Steps p.tables e below (T.setTop (mkF m pc Ls (.int z :: rest))) (T.setFrames fs) := by
  have hm' : T.vm.method? m = some meth := X.method'
  have hn : narrow .int (.int z) = .int z := rfl
  show Steps p.tables e below (T.setTop { method := m, pc := pc, locals := Ls, stack := _ :: rest, locked := none }) _
  jvm_step X.here [X.here.top, hx, hd, hm', hret, hn]
  first | (intro acts; rw [hl _ acts rfl rfl rfl]) | rw [hl _ _ rfl rfl rfl]
  exact Steps.refl _
end New
end Jvm.RoadKit
namespace Jvm.Pilot.@@N@@
open Jvm Jvm.ClassFile Sem Op Lib Jvm.Free Jvm.Stand Jvm.LawKit Jvm.RoadKit Bundle Jvm.Pilot.@@N@@.Jvm.D
section OwnKit
variable {p : Program} {l : Launch} {e : Env} {R : Room} {s : State} {m : MethodId} {args : Array Value} {below : List Frame} {meth : Method} {c : Code} {T : State} {locs : List Loc} {cells slots : Nat}
/-- from S the run comes to a return of which F holds -/
def Goes (tb : Tables) (e : Env) (below : List Frame) (s : State) (F : Option Value → Heap → List Loc → Prop) (k n : Nat) (S : State) : Prop :=
  ∃ s₂ o, Steps tb e below S s₂ ∧ s₂.status = .running ∧ Ended s₂ below o ∧ ∃ v L, o = .returned v ∧ F v s₂.heap L ∧ FrameEnd s o s₂ L k n
theorem Goes.of {tb : Tables} {F : Option Value → Heap → List Loc → Prop} {k n : Nat} {S S' : State} (h : ∀ t, Steps tb e below S' t → Steps tb e below S t) (g : Goes tb e below s F k n S') : Goes tb e below s F k n S := by
  obtain ⟨s₂, o, h1, r⟩ := g
  exact ⟨s₂, o, h _ h1, r⟩
theorem Goes.mono {tb : Tables} {F G : Option Value → Heap → List Loc → Prop} {k n : Nat} {S : State} (h : ∀ v h L, F v h L → G v h L) (g : Goes tb e below s F k n S) : Goes tb e below s G k n S := by
  obtain ⟨s₂, o, h1, h2, h3, v, L, h4, h5, h6⟩ := g
  exact ⟨s₂, o, h1, h2, h3, v, L, h4, h _ _ _ h5, h6⟩
theorem Goes.fin (X : Stand p l e R s m args below meth c T locs cells slots) (hlk : meth.locks = false) {v : Option Value} {F : Option Value → Heap → List Loc → Prop} {k n : Nat} {S : State} (hv : meth.sig.returnType = none → v = none)
    (step : ∀ fs, (∀ (f : JFrame) (acts : List Action), f.method = m → f.locked = none → f.entered = [] → (doReturn e (T.setTop f) acts v).1 = T.setFrames fs) → Steps p.tables e below S (T.setFrames fs)) (hF : F v T.heap locs) (hk : cells ≤ k) (hn : slots ≤ n) : Goes p.tables e below s F k n S := by
  obtain ⟨fs, hr, hrun, hended, hW, hsame⟩ := X.leave hv hlk
  exact ⟨_, _, step fs hr, hrun, hended, v, locs, rfl, hF, ⟨_, rfl⟩, hW, hsame.mono hk hn⟩
end OwnKit
section OwnArr
variable {p : Program} {l : Launch} {e : Env} {R : Room} {s : State} {m : MethodId} {args : Array Value} {below : List Frame} {meth : Method} {c : Code} {T : State} {locs : List Loc} {cells slots : Nat} {Z : State} {h h' : Heap} {a b : Addr} {ty : FieldType} {n i : Nat} {f : Nat → Int32} {ws : List Addr} {sl : Nat} {w : Value}
/-- at a stands an array of n places; place j holds f j -/
def AI (Z : State) (h : Heap) (a : Addr) (ty : FieldType) (n : Nat) (f : Nat → Int32) : Prop :=
  ∃ c : Cell, Arr Z h a c ty ∧ c.slots.size = n ∧ n < 2147483648 ∧ ∀ j, j < n → c.slots[j]? = some (.int (f j)) ∧ fits ty (.int (f j)) = true
def upd (f : Nat → Int32) (i : Nat) (v : Int32) : Nat → Int32 := fun j => if j = i then v else f j
theorem AI.lt (F : AI Z h a ty n f) : a < h.size := by obtain ⟨c, A, -⟩ := F; exact A.lt
theorem AI.ext (F : AI Z h a ty n f) (E : Ext h h') : AI Z h' a ty n f := by obtain ⟨c, A, r⟩ := F; exact ⟨c, A.ext E, r⟩
theorem AI.other (F : AI Z h a ty n f) (W : Wr h h' b sl w) (q : a ≠ b) : AI Z h' a ty n f := by obtain ⟨c, A, r⟩ := F; exact ⟨c, A.other W q, r⟩
theorem AI.keep (F : AI Z h a ty n f) (K : Keep h h' ws) (q : a ∉ ws) : AI Z h' a ty n f := by obtain ⟨c, A, r⟩ := F; exact ⟨c, ⟨K.2.1 a c A.1 q, A.2⟩, r⟩
theorem AI.congr {f' : Nat → Int32} (F : AI Z h a ty n f) (q : ∀ j, j < n → f j = f' j) : AI Z h a ty n f' := by
  obtain ⟨c, A, S, M, H⟩ := F
  exact ⟨c, A, S, M, fun j hj => by rw [← q j hj]; exact H j hj⟩
theorem AI.fits (F : AI Z h a ty n f) {j : Nat} (hj : j < n) : Jvm.fits ty (.int (f j)) = true := by
  obtain ⟨c, A, S, M, H⟩ := F
  exact (H j hj).2
theorem AI.new {cA : ClassId} {z : Int32} (hd : defaultValue ty = .int 0) (hf : Jvm.fits ty (.int 0) = true) (A : Arr Z h a (newA cA ty z) ty) (q : ¬ z < 0) (hn : z.toNatClampNeg = n) : AI Z h a ty n (fun _ => 0) := by
  subst hn
  refine ⟨_, A, sz_new _ _ _, (back32 q).2, fun j hj => ⟨?_, hf⟩⟩
  show (Array.replicate z.toNatClampNeg (defaultValue ty))[j]? = _
  rw [hd, Array.getElem?_replicate, if_pos hj]
theorem AI.set {v : Int32} (F : AI Z h a ty n f) (W : Wr h h' a i (.int v)) (hv : Jvm.fits ty (.int v) = true) : AI Z h' a ty n (upd f i v) := by
  obtain ⟨c, A, S, M, H⟩ := F
  refine ⟨c.setSlot i (.int v), A.same W, by rw [sz_set]; exact S, M, fun j hj => ?_⟩
  show (c.slots.setIfInBounds i (.int v))[j]? = _ ∧ _
  by_cases q : j = i
  · subst q
    rw [Array.getElem?_setIfInBounds_self_of_lt (by omega)]
    have e : upd f j v j = v := if_pos rfl
    rw [e]; exact ⟨rfl, hv⟩
  · rw [Array.getElem?_setIfInBounds_ne (Ne.symm q)]
    have e : upd f i v j = f j := if_neg q
    rw [e]; exact H j hj
theorem own_nn {j : Int32} (h : 0 ≤ j.toInt) : ¬ j < 0 := by
  rw [Int32.lt_iff_toInt_lt, show (0 : Int32).toInt = 0 from rfl]; omega
theorem own_ltn {j : Int32} {n : Nat} (h0 : 0 ≤ j.toInt) (h : j.toInt < n) : j.toNatClampNeg < n := by
  simp only [Int32.toNatClampNeg]; omega
theorem own_tn {z : Int32} {n : Nat} (h : z.toInt = n) : z.toNatClampNeg = n := by
  simp only [Int32.toNatClampNeg]; omega
theorem own_inc {i : Int32} (h : i.toInt < 2147483647) : (i + (1 : Int32)).toInt = i.toInt + 1 := by
  have a := c_iadd i 1
  have r := rng32 (i + 1)
  have r2 := rng32 i
  rw [show (1 : Int32).toInt = 1 from rfl] at a
  omega
theorem own_ilt {a b : Int32} (h : a.toInt < b.toInt) : a < b := by rw [Int32.lt_iff_toInt_lt]; exact h
theorem own_nlt {a b : Int32} (h : b.toInt ≤ a.toInt) : ¬ a < b := by rw [Int32.lt_iff_toInt_lt]; omega
theorem own_ltI {a b : Int32} (h : a < b) : a.toInt < b.toInt := Int32.lt_iff_toInt_lt.mp h
theorem own_geI {a b : Int32} (h : ¬ a < b) : b.toInt ≤ a.toInt := by rw [Int32.lt_iff_toInt_lt] at h; omega
theorem own_neI {a b : Int32} (h : ¬ a = b) : a.toInt ≠ b.toInt := fun q => h (Int32.toInt_inj.mp q)
theorem own_turn {G : Nat → Int32} {n k i : Nat} {w : Int32} (hi : i + (k + 1) = n) (hw : w = G i) : ∀ j, j < n → upd (fun j => if j + (k + 1) < n then G j else 0) i w j = if j + k < n then G j else 0 := by
  intro j hj
  by_cases q : j = i
  · subst q
    rw [if_pos (by omega)]
    exact (if_pos rfl).trans hw
  · refine (if_neg q).trans ?_
    by_cases r : j + (k + 1) < n
    · show (if _ then _ else _) = _
      rw [if_pos r, if_pos (by omega)]
    · show (if _ then _ else _) = _
      rw [if_neg r, if_neg (by omega)]
theorem own_turn2 {D : Nat → Int32} {n k i : Nat} {w : Int32} (hi : i + (k + 1) = n) : ∀ j, j < n → upd (fun j => if j + (k + 1) < n then w else D j) i w j = if j + k < n then w else D j := by
  intro j hj
  by_cases q : j = i
  · subst q
    rw [if_pos (by omega)]
    exact if_pos rfl
  · refine (if_neg q).trans ?_
    by_cases r : j + (k + 1) < n
    · show (if _ then _ else _) = _
      rw [if_pos r, if_pos (by omega)]
    · show (if _ then _ else _) = _
      rw [if_neg r, if_neg (by omega)]
theorem own_in {cl : Cell} {j : Int32} (S : cl.slots.size = n) (h0 : ¬ j < 0) (hi : j.toNatClampNeg = i) (hn : i < n) : ¬ (j < 0 ∨ cl.slots.size ≤ j.toNatClampNeg) := by
  rintro (q | q)
  · exact h0 q
  · omega
theorem ldI (X : Stand p l e R s m args below meth c T locs cells slots) (hx : p.tables.exec = Jvm.exec) (hZ : Z.Warmed39 s.vm) (eT : T.heap = h) (F : AI Z h a .int n f) {j v : Int32} (h0 : ¬ j < 0) (hi : j.toNatClampNeg = i) (hn : i < n) (hv : f i = v) {g : JFrame} (hg : g.method = m) {rest : List Value} (hs : g.stack = .int j :: .ref a :: rest) (hd : decode c.code g.pc = .ok (.iaload, 1)) (t : State)
    (k : Steps p.tables e below (T.setTop { g with pc := g.pc + 1, stack := .int v :: rest }) t) : Steps p.tables e below (T.setTop g) t := by
  obtain ⟨cl, A, S, M, H⟩ := F
  exact X.iaload hx (j := j) (v := .int v) (by rw [eT]; exact A.1) (State.isArrayOf_alike hZ.alike A.2.1) A.2.2 (own_in S h0 hi hn) (by rw [hi, (H i hn).1, hv]) hg hs hd t k
theorem ldB (X : Stand p l e R s m args below meth c T locs cells slots) (hx : p.tables.exec = Jvm.exec) (hZ : Z.Warmed39 s.vm) (eT : T.heap = h) (F : AI Z h a .byte n f) {j v : Int32} (h0 : ¬ j < 0) (hi : j.toNatClampNeg = i) (hn : i < n) (hv : f i = v) {g : JFrame} (hg : g.method = m) {rest : List Value} (hs : g.stack = .int j :: .ref a :: rest) (hd : decode c.code g.pc = .ok (.baload, 1)) (t : State)
    (k : Steps p.tables e below (T.setTop { g with pc := g.pc + 1, stack := .int v :: rest }) t) : Steps p.tables e below (T.setTop g) t := by
  obtain ⟨cl, A, S, M, H⟩ := F
  exact X.baloadBytes hx (j := j) (v := .int v) (by rw [eT]; exact A.1) (State.isArrayOf_alike hZ.alike A.2.1) A.2.2 (own_in S h0 hi hn) (by rw [hi, (H i hn).1, hv]) hg hs hd t k
theorem ldZ (X : Stand p l e R s m args below meth c T locs cells slots) (hx : p.tables.exec = Jvm.exec) (hZ : Z.Warmed39 s.vm) (eT : T.heap = h) (F : AI Z h a .boolean n f) {j v : Int32} (h0 : ¬ j < 0) (hi : j.toNatClampNeg = i) (hn : i < n) (hv : f i = v) {g : JFrame} (hg : g.method = m) {rest : List Value} (hs : g.stack = .int j :: .ref a :: rest) (hd : decode c.code g.pc = .ok (.baload, 1)) (t : State)
    (k : Steps p.tables e below (T.setTop { g with pc := g.pc + 1, stack := .int v :: rest }) t) : Steps p.tables e below (T.setTop g) t := by
  obtain ⟨cl, A, S, M, H⟩ := F
  exact X.baloadBooleans hx (j := j) (v := .int v) (by rw [eT]; exact A.1) (State.isArrayOf_alike hZ.alike A.2.1) A.2.2 (own_in S h0 hi hn) (by rw [hi, (H i hn).1, hv]) hg hs hd t k
theorem putI (X : Stand p l e R s m args below meth c T locs cells slots) (hx : p.tables.exec = Jvm.exec) (hZ : Z.Warmed39 s.vm) (eT : T.heap = h) (F : AI Z h a .int n f) {j x : Int32} (h0 : ¬ j < 0) (hi : j.toNatClampNeg = i) (hn : i < n) {g : JFrame} (hg : g.method = m) {rest : List Value} (hs : g.stack = .int x :: .int j :: .ref a :: rest) (hd : decode c.code g.pc = .ok (.iastore, 1)) :
    ∃ T' h', Stand p l e R s m args below meth c T' (locs ++ [⟨a, i⟩]) cells slots ∧ T'.heap = h' ∧ Wr h h' a i (.int x) ∧ AI Z h' a .int n (upd f i x) ∧ ∀ t, Steps p.tables e below (T'.setTop { g with pc := g.pc + 1, stack := rest }) t → Steps p.tables e below (T.setTop g) t := by
  have F0 := F
  obtain ⟨cl, A, S, M, H⟩ := F
  subst hi
  obtain ⟨T', h', X', e', W, st⟩ := stI X hx hZ eT A (own_in S h0 rfl hn) hg hs hd
  exact ⟨T', h', X', e', W, F0.set W rfl, st⟩
theorem putB (X : Stand p l e R s m args below meth c T locs cells slots) (hx : p.tables.exec = Jvm.exec) (hZ : Z.Warmed39 s.vm) (eT : T.heap = h) (F : AI Z h a .byte n f) {j x : Int32} (h0 : ¬ j < 0) (hi : j.toNatClampNeg = i) (hn : i < n) {g : JFrame} (hg : g.method = m) {rest : List Value} (hs : g.stack = .int x :: .int j :: .ref a :: rest) (hd : decode c.code g.pc = .ok (.bastore, 1)) :
    ∃ T' h', Stand p l e R s m args below meth c T' (locs ++ [⟨a, i⟩]) cells slots ∧ T'.heap = h' ∧ Wr h h' a i (.int x.toInt8.toInt32) ∧ AI Z h' a .byte n (upd f i x.toInt8.toInt32) ∧ ∀ t, Steps p.tables e below (T'.setTop { g with pc := g.pc + 1, stack := rest }) t → Steps p.tables e below (T.setTop g) t := by
  have F0 := F
  obtain ⟨cl, A, S, M, H⟩ := F
  subst hi
  obtain ⟨T', h', X', e', W, st⟩ := stB X hx hZ eT A (own_in S h0 rfl hn) hg hs hd
  exact ⟨T', h', X', e', W, F0.set W (fits_nar_byte x), st⟩
theorem putZ (X : Stand p l e R s m args below meth c T locs cells slots) (hx : p.tables.exec = Jvm.exec) (hZ : Z.Warmed39 s.vm) (eT : T.heap = h) (F : AI Z h a .boolean n f) {j x : Int32} (h0 : ¬ j < 0) (hi : j.toNatClampNeg = i) (hn : i < n) {g : JFrame} (hg : g.method = m) {rest : List Value} (hs : g.stack = .int x :: .int j :: .ref a :: rest) (hd : decode c.code g.pc = .ok (.bastore, 1)) :
    ∃ T' h', Stand p l e R s m args below meth c T' (locs ++ [⟨a, i⟩]) cells slots ∧ T'.heap = h' ∧ Wr h h' a i (.int (x &&& 1)) ∧ AI Z h' a .boolean n (upd f i (x &&& 1)) ∧ ∀ t, Steps p.tables e below (T'.setTop { g with pc := g.pc + 1, stack := rest }) t → Steps p.tables e below (T.setTop g) t := by
  have F0 := F
  obtain ⟨cl, A, S, M, H⟩ := F
  subst hi
  obtain ⟨T', h', X', e', W, st⟩ := stZ X hx hZ eT A (own_in S h0 rfl hn) hg hs hd
  exact ⟨T', h', X', e', W, F0.set W (fits_nar_bool x), st⟩
theorem lenA (X : Stand p l e R s m args below meth c T locs cells slots) (hx : p.tables.exec = Jvm.exec) (hZ : Z.Warmed39 s.vm) (eT : T.heap = h) (F : AI Z h a ty n f) {z : Int32} (hz : z.toInt = n) {g : JFrame} (hg : g.method = m) {rest : List Value} (hs : g.stack = .ref a :: rest) (hd : decode c.code g.pc = .ok (.arraylength, 1)) (t : State)
    (k : Steps p.tables e below (T.setTop { g with pc := g.pc + 1, stack := .int z :: rest }) t) : Steps p.tables e below (T.setTop g) t := by
  obtain ⟨cl, A, S, M, H⟩ := F
  have e1 : cl.slots.size.toInt32 = z := by rw [S]; exact Int32.toInt_inj.mp (by rw [len_toInt M, hz])
  exact X.arraylength hx (by rw [eT]; exact A.1) (State.isArrayOf_alike hZ.alike A.2.1) hg hs hd t (by rw [e1]; exact k)
end OwnArr
theorem d1_0 : decode method_2_code 0 = .ok (.iload_n 0, 1) := by decide +kernel
theorem d1_1 : decode method_2_code 1 = .ok (.ifCond .ge 8, 3) := by decide +kernel
theorem d1_4 : decode method_2_code 4 = .ok (.iconst 0, 1) := by decide +kernel
theorem d1_5 : decode method_2_code 5 = .ok (.istore_n 1, 1) := by decide +kernel
theorem d1_6 : decode method_2_code 6 = .ok (.goto 14, 3) := by decide +kernel
theorem d1_9 : decode method_2_code 9 = .ok (.iload_n 0, 1) := by decide +kernel
theorem d1_10 : decode method_2_code 10 = .ok (.ifCond .ne 8, 3) := by decide +kernel
theorem d1_13 : decode method_2_code 13 = .ok (.iconst 1, 1) := by decide +kernel
theorem d1_14 : decode method_2_code 14 = .ok (.istore_n 1, 1) := by decide +kernel
theorem d1_15 : decode method_2_code 15 = .ok (.goto 5, 3) := by decide +kernel
theorem d1_18 : decode method_2_code 18 = .ok (.iconst 2, 1) := by decide +kernel
theorem d1_19 : decode method_2_code 19 = .ok (.istore_n 1, 1) := by decide +kernel
theorem d1_20 : decode method_2_code 20 = .ok (.iload_n 1, 1) := by decide +kernel
theorem d1_21 : decode method_2_code 21 = .ok (.ireturn, 1) := by decide +kernel
theorem pn_0 : plainName "com/example/dutiful_logic/dutifullogic/OpHoldsPinLaw" = true := by first | (simp [plainName, overriddenIn]; done) | decide +kernel
theorem ef_1 (m : MethodId) (p1 : Int32) : entryFrame m #[(.int p1)] 2 = mkF m 0 #[.val (.int p1), .unset] [] := by first | (simp [entryFrame, mkF, argsToLocals, Value.category]; done) | rfl
def f1 (p1 : Int32) : Int32 :=
  (if p1 < (0 : Int32) then (0 : Int32)
  else (if p1 = (0 : Int32) then (1 : Int32)
    else (2 : Int32)))
def Q1 (p1 : Int32) (h0 : Heap) (n0 : Nat) (v : Option Value) (h : Heap) (L : List Loc) : Prop := v = some (.int (f1 p1)) ∧ Fr n0 L ∧ h = h0
set_option maxRecDepth 65536 in
set_option maxHeartbeats 40000000 in
theorem rm1 (l : Launch) (Z : State) (a0 : Array Value) (hw : ∀ d ∈ tables_1, d.before a0 Z = true) (ws : List Jvm.Cond) (p1 : Int32) (h0 : Heap) (n0 : Nat) :
    MetFree l (⟨"com/example/dutiful_logic/dutifullogic/OpHoldsPinLaw", "signIndex", "(I)I"⟩ : MethodName) (head1 (Jvm.Cond.code (⟨"com/example/dutiful_logic/dutifullogic/OpHoldsPinLaw", "signIndex", "(I)I"⟩ : MethodName) method_2_code 2 (some .int) :: ws) ({ frames := 0, cells := 0, slots := 0, locals := 0 } : Room)) (fun ar' Ur => ar' = #[(.int p1)] ∧ Z.Warmed39 Ur.vm ∧ Ur.heap = h0) (fun _ _ _ _ _ => True) (fun _ Ur or' Us => ∃ v L, or' = .returned v ∧ Q1 p1 h0 n0 v Us.heap L ∧ FrameEnd Ur or' Us L 0 0) := by
  refine MetFree.of_bodySF (plainFor_of_name pn_0) hisR ?_
  intro p e s m args below meth c s₁ Bd hml0 hP hK
  obtain ⟨rfl, hZ, hh⟩ := hP
  have hx := Bd.exec
  have hby := Bd.bytes
  have hlk : meth.locks = false := BodyLoose.notSynchronized Bd
  have hml : c.maxLocals = 2 := hml0
  have hown : s.vm.findClass "com/example/dutiful_logic/dutifullogic/OpHoldsPinLaw" = some m.cls := findClass_of_methodNamed Bd.named
  have X0 : Stand p l e ({ frames := 0, cells := 0, slots := 0, locals := 0 } : Room) s m #[(.int p1)] below meth c s₁ [] 0 0 := Stand.of_body Bd
  have e0 : s₁.heap = h0 := by rw [← hh, Bd.state]; rfl
  have N0 := Fr.nil n0
  show Goes p.tables e below s (Q1 p1 h0 n0) 0 0 (s₁.setTop (entryFrame m #[(.int p1)] 2))
  refine Goes.of (fun t k => castTop (ef_1 m p1) k) ?_
  show Goes _ _ _ _ _ _ _ (s₁.setTop (mkF m 0 #[.val (.int p1), .unset] []))
  refine Goes.of (fun t k => XS.iloadN X0.here hx rfl (hb hby d1_0) rfl k) ?_
  show Goes _ _ _ _ _ _ _ (s₁.setTop (mkF m 1 #[.val (.int p1), .unset] [(.int p1)]))
  by_cases hc2 : p1 < (0 : Int32)
  · refine Goes.of (fun t k => XS.ifNo X0.here hx rfl (hb hby d1_1) rfl ((if0 _ _).trans (tlt hc2).2.1) k) ?_
    show Goes _ _ _ _ _ _ _ (s₁.setTop (mkF m 4 #[.val (.int p1), .unset] []))
    refine Goes.of (fun t k => XS.iconst X0.here hx rfl (hb hby d1_4) k) ?_
    show Goes _ _ _ _ _ _ _ (s₁.setTop (mkF m 5 #[.val (.int p1), .unset] [(.int (0 : Int32))]))
    refine Goes.of (fun t k => XS.istoreN X0.here hx rfl (hb hby d1_5) rfl (l' := #[.val (.int p1), .val (.int (0 : Int32))]) rfl k) ?_
    show Goes _ _ _ _ _ _ _ (s₁.setTop (mkF m 6 #[.val (.int p1), .val (.int (0 : Int32))] []))
    refine Goes.of (fun t k => XS.goto X0.here hx rfl (pc0 := 6) (pc' := 20) rfl (hb hby d1_6) (by decide) (by decide) k) ?_
    show Goes _ _ _ _ _ _ _ (s₁.setTop (mkF m 20 #[.val (.int p1), .val (.int (0 : Int32))] []))
    refine Goes.of (fun t k => XS.iloadN X0.here hx rfl (hb hby d1_20) rfl k) ?_
    show Goes _ _ _ _ _ _ _ (s₁.setTop (mkF m 21 #[.val (.int p1), .val (.int (0 : Int32))] [(.int (0 : Int32))]))
    exact Goes.fin X0 hlk (v := some (.int (0 : Int32))) (fun h => by rw [Bd.returns] at h; cases h) (fun fs hr => retI X0 hx Bd.returns (hb hby d1_21) hr) ⟨congrArg (fun z => some (Value.int z)) (by rw [f1, if_pos hc2] : (0 : Int32) = f1 p1), N0, e0⟩ (by decide) (by decide)
  · refine Goes.of (fun t k => XS.ifYes X0.here hx rfl (pc0 := 1) (pc' := 9) rfl (hb hby d1_1) rfl ((if0 _ _).trans (flt hc2).2.1) (by decide) (by decide) k) ?_
    show Goes _ _ _ _ _ _ _ (s₁.setTop (mkF m 9 #[.val (.int p1), .unset] []))
    refine Goes.of (fun t k => XS.iloadN X0.here hx rfl (hb hby d1_9) rfl k) ?_
    show Goes _ _ _ _ _ _ _ (s₁.setTop (mkF m 10 #[.val (.int p1), .unset] [(.int p1)]))
    by_cases hc3 : p1 = (0 : Int32)
    · refine Goes.of (fun t k => XS.ifNo X0.here hx rfl (hb hby d1_10) rfl ((if0 _ _).trans (teq hc3).2) k) ?_
      show Goes _ _ _ _ _ _ _ (s₁.setTop (mkF m 13 #[.val (.int p1), .unset] []))
      refine Goes.of (fun t k => XS.iconst X0.here hx rfl (hb hby d1_13) k) ?_
      show Goes _ _ _ _ _ _ _ (s₁.setTop (mkF m 14 #[.val (.int p1), .unset] [(.int (1 : Int32))]))
      refine Goes.of (fun t k => XS.istoreN X0.here hx rfl (hb hby d1_14) rfl (l' := #[.val (.int p1), .val (.int (1 : Int32))]) rfl k) ?_
      show Goes _ _ _ _ _ _ _ (s₁.setTop (mkF m 15 #[.val (.int p1), .val (.int (1 : Int32))] []))
      refine Goes.of (fun t k => XS.goto X0.here hx rfl (pc0 := 15) (pc' := 20) rfl (hb hby d1_15) (by decide) (by decide) k) ?_
      show Goes _ _ _ _ _ _ _ (s₁.setTop (mkF m 20 #[.val (.int p1), .val (.int (1 : Int32))] []))
      refine Goes.of (fun t k => XS.iloadN X0.here hx rfl (hb hby d1_20) rfl k) ?_
      show Goes _ _ _ _ _ _ _ (s₁.setTop (mkF m 21 #[.val (.int p1), .val (.int (1 : Int32))] [(.int (1 : Int32))]))
      exact Goes.fin X0 hlk (v := some (.int (1 : Int32))) (fun h => by rw [Bd.returns] at h; cases h) (fun fs hr => retI X0 hx Bd.returns (hb hby d1_21) hr) ⟨congrArg (fun z => some (Value.int z)) (by rw [f1, if_neg hc2, if_pos hc3] : (1 : Int32) = f1 p1), N0, e0⟩ (by decide) (by decide)
    · refine Goes.of (fun t k => XS.ifYes X0.here hx rfl (pc0 := 10) (pc' := 18) rfl (hb hby d1_10) rfl ((if0 _ _).trans (feq hc3).2) (by decide) (by decide) k) ?_
      show Goes _ _ _ _ _ _ _ (s₁.setTop (mkF m 18 #[.val (.int p1), .unset] []))
      refine Goes.of (fun t k => XS.iconst X0.here hx rfl (hb hby d1_18) k) ?_
      show Goes _ _ _ _ _ _ _ (s₁.setTop (mkF m 19 #[.val (.int p1), .unset] [(.int (2 : Int32))]))
      refine Goes.of (fun t k => XS.istoreN X0.here hx rfl (hb hby d1_19) rfl (l' := #[.val (.int p1), .val (.int (2 : Int32))]) rfl k) ?_
      show Goes _ _ _ _ _ _ _ (s₁.setTop (mkF m 20 #[.val (.int p1), .val (.int (2 : Int32))] []))
      refine Goes.of (fun t k => XS.iloadN X0.here hx rfl (hb hby d1_20) rfl k) ?_
      show Goes _ _ _ _ _ _ _ (s₁.setTop (mkF m 21 #[.val (.int p1), .val (.int (2 : Int32))] [(.int (2 : Int32))]))
      exact Goes.fin X0 hlk (v := some (.int (2 : Int32))) (fun h => by rw [Bd.returns] at h; cases h) (fun fs hr => retI X0 hx Bd.returns (hb hby d1_21) hr) ⟨congrArg (fun z => some (Value.int z)) (by rw [f1, if_neg hc2, if_neg hc3] : (2 : Int32) = f1 p1), N0, e0⟩ (by decide) (by decide)
theorem d2_0 : decode prog_78_method_3_code 0 = .ok (.iload_n 0, 1) := by decide +kernel
theorem d2_1 : decode prog_78_method_3_code 1 = .ok (.tableswitch 100 0 4 #[35, 48, 61, 74, 87], 35) := by decide +kernel
theorem d2_36 : decode prog_78_method_3_code 36 = .ok (.iload_n 1, 1) := by decide +kernel
theorem d2_37 : decode prog_78_method_3_code 37 = .ok (.ifCond .ne 7, 3) := by decide +kernel
theorem d2_40 : decode prog_78_method_3_code 40 = .ok (.iconst 1, 1) := by decide +kernel
theorem d2_41 : decode prog_78_method_3_code 41 = .ok (.goto 4, 3) := by decide +kernel
theorem d2_44 : decode prog_78_method_3_code 44 = .ok (.iconst 0, 1) := by decide +kernel
theorem d2_45 : decode prog_78_method_3_code 45 = .ok (.istore_n 2, 1) := by decide +kernel
theorem d2_46 : decode prog_78_method_3_code 46 = .ok (.goto 65, 3) := by decide +kernel
theorem d2_49 : decode prog_78_method_3_code 49 = .ok (.iload_n 1, 1) := by decide +kernel
theorem d2_50 : decode prog_78_method_3_code 50 = .ok (.ifCond .eq 7, 3) := by decide +kernel
theorem d2_53 : decode prog_78_method_3_code 53 = .ok (.iconst 1, 1) := by decide +kernel
theorem d2_54 : decode prog_78_method_3_code 54 = .ok (.goto 4, 3) := by decide +kernel
theorem d2_57 : decode prog_78_method_3_code 57 = .ok (.iconst 0, 1) := by decide +kernel
theorem d2_58 : decode prog_78_method_3_code 58 = .ok (.istore_n 2, 1) := by decide +kernel
theorem d2_59 : decode prog_78_method_3_code 59 = .ok (.goto 52, 3) := by decide +kernel
theorem d2_62 : decode prog_78_method_3_code 62 = .ok (.iload_n 1, 1) := by decide +kernel
theorem d2_63 : decode prog_78_method_3_code 63 = .ok (.ifCond .ge 7, 3) := by decide +kernel
theorem d2_66 : decode prog_78_method_3_code 66 = .ok (.iconst 1, 1) := by decide +kernel
theorem d2_67 : decode prog_78_method_3_code 67 = .ok (.goto 4, 3) := by decide +kernel
theorem d2_70 : decode prog_78_method_3_code 70 = .ok (.iconst 0, 1) := by decide +kernel
theorem d2_71 : decode prog_78_method_3_code 71 = .ok (.istore_n 2, 1) := by decide +kernel
theorem d2_72 : decode prog_78_method_3_code 72 = .ok (.goto 39, 3) := by decide +kernel
theorem d2_75 : decode prog_78_method_3_code 75 = .ok (.iload_n 1, 1) := by decide +kernel
theorem d2_76 : decode prog_78_method_3_code 76 = .ok (.ifCond .gt 7, 3) := by decide +kernel
theorem d2_79 : decode prog_78_method_3_code 79 = .ok (.iconst 1, 1) := by decide +kernel
theorem d2_80 : decode prog_78_method_3_code 80 = .ok (.goto 4, 3) := by decide +kernel
theorem d2_83 : decode prog_78_method_3_code 83 = .ok (.iconst 0, 1) := by decide +kernel
theorem d2_84 : decode prog_78_method_3_code 84 = .ok (.istore_n 2, 1) := by decide +kernel
theorem d2_85 : decode prog_78_method_3_code 85 = .ok (.goto 26, 3) := by decide +kernel
theorem d2_88 : decode prog_78_method_3_code 88 = .ok (.iload_n 1, 1) := by decide +kernel
theorem d2_89 : decode prog_78_method_3_code 89 = .ok (.ifCond .le 7, 3) := by decide +kernel
theorem d2_92 : decode prog_78_method_3_code 92 = .ok (.iconst 1, 1) := by decide +kernel
theorem d2_93 : decode prog_78_method_3_code 93 = .ok (.goto 4, 3) := by decide +kernel
theorem d2_96 : decode prog_78_method_3_code 96 = .ok (.iconst 0, 1) := by decide +kernel
theorem d2_97 : decode prog_78_method_3_code 97 = .ok (.istore_n 2, 1) := by decide +kernel
theorem d2_98 : decode prog_78_method_3_code 98 = .ok (.goto 13, 3) := by decide +kernel
theorem d2_101 : decode prog_78_method_3_code 101 = .ok (.iload_n 1, 1) := by decide +kernel
theorem d2_102 : decode prog_78_method_3_code 102 = .ok (.ifCond .lt 7, 3) := by decide +kernel
theorem d2_105 : decode prog_78_method_3_code 105 = .ok (.iconst 1, 1) := by decide +kernel
theorem d2_106 : decode prog_78_method_3_code 106 = .ok (.goto 4, 3) := by decide +kernel
theorem d2_109 : decode prog_78_method_3_code 109 = .ok (.iconst 0, 1) := by decide +kernel
theorem d2_110 : decode prog_78_method_3_code 110 = .ok (.istore_n 2, 1) := by decide +kernel
theorem d2_111 : decode prog_78_method_3_code 111 = .ok (.iload_n 2, 1) := by decide +kernel
theorem d2_112 : decode prog_78_method_3_code 112 = .ok (.ireturn, 1) := by decide +kernel
theorem pn_1 : plainName "com/example/dutiful_logic/dutifullogic/Op" = true := by first | (simp [plainName, overriddenIn]; done) | decide +kernel
theorem ef_2 (m : MethodId) (p4 : Int32) (p5 : Int32) : entryFrame m #[(.int p4), (.int p5)] 3 = mkF m 0 #[.val (.int p4), .val (.int p5), .unset] [] := by first | (simp [entryFrame, mkF, argsToLocals, Value.category]; done) | rfl
def f2 (p4 : Int32) (p5 : Int32) : Int32 :=
  (if p4 = (0 : Int32) then (if p5 = (0 : Int32) then (1 : Int32)
    else (0 : Int32))
  else (if p4 = (1 : Int32) then (if p5 = (0 : Int32) then (0 : Int32)
      else (1 : Int32))
    else (if p4 = (2 : Int32) then (if p5 < (0 : Int32) then (1 : Int32)
        else (0 : Int32))
      else (if p4 = (3 : Int32) then (if (0 : Int32) < p5 then (0 : Int32)
          else (1 : Int32))
        else (if p4 = (4 : Int32) then (if (0 : Int32) < p5 then (1 : Int32)
            else (0 : Int32))
          else (if p5 < (0 : Int32) then (0 : Int32)
            else (1 : Int32)))))))
def Q2 (p4 : Int32) (p5 : Int32) (h0 : Heap) (n0 : Nat) (v : Option Value) (h : Heap) (L : List Loc) : Prop := v = some (.int (f2 p4 p5)) ∧ Fr n0 L ∧ h = h0
set_option maxRecDepth 65536 in
set_option maxHeartbeats 40000000 in
theorem rm2 (l : Launch) (Z : State) (a0 : Array Value) (hw : ∀ d ∈ tables_1, d.before a0 Z = true) (ws : List Jvm.Cond) (p4 : Int32) (p5 : Int32) (h0 : Heap) (n0 : Nat) :
    MetFree l (⟨"com/example/dutiful_logic/dutifullogic/Op", "holds", "(II)Z"⟩ : MethodName) (head1 (Jvm.Cond.code (⟨"com/example/dutiful_logic/dutifullogic/Op", "holds", "(II)Z"⟩ : MethodName) prog_78_method_3_code 3 (some .boolean) :: ws) ({ frames := 0, cells := 0, slots := 0, locals := 0 } : Room)) (fun ar' Ur => ar' = #[(.int p4), (.int p5)] ∧ Z.Warmed39 Ur.vm ∧ Ur.heap = h0) (fun _ _ _ _ _ => True) (fun _ Ur or' Us => ∃ v L, or' = .returned v ∧ Q2 p4 p5 h0 n0 v Us.heap L ∧ FrameEnd Ur or' Us L 0 0) := by
  refine MetFree.of_bodySF (plainFor_of_name pn_1) hisR ?_
  intro p e s m args below meth c s₁ Bd hml0 hP hK
  obtain ⟨rfl, hZ, hh⟩ := hP
  have hx := Bd.exec
  have hby := Bd.bytes
  have hlk : meth.locks = false := BodyLoose.notSynchronized Bd
  have hml : c.maxLocals = 3 := hml0
  have hown : s.vm.findClass "com/example/dutiful_logic/dutifullogic/Op" = some m.cls := findClass_of_methodNamed Bd.named
  have X0 : Stand p l e ({ frames := 0, cells := 0, slots := 0, locals := 0 } : Room) s m #[(.int p4), (.int p5)] below meth c s₁ [] 0 0 := Stand.of_body Bd
  have e0 : s₁.heap = h0 := by rw [← hh, Bd.state]; rfl
  have N0 := Fr.nil n0
  show Goes p.tables e below s (Q2 p4 p5 h0 n0) 0 0 (s₁.setTop (entryFrame m #[(.int p4), (.int p5)] 3))
  refine Goes.of (fun t k => castTop (ef_2 m p4 p5) k) ?_
  show Goes _ _ _ _ _ _ _ (s₁.setTop (mkF m 0 #[.val (.int p4), .val (.int p5), .unset] []))
  refine Goes.of (fun t k => XS.iloadN X0.here hx rfl (hb hby d2_0) rfl k) ?_
  show Goes _ _ _ _ _ _ _ (s₁.setTop (mkF m 1 #[.val (.int p4), .val (.int p5), .unset] [(.int p4)]))
  by_cases hc6 : p4 = (0 : Int32)
  · refine Goes.of (fun t k => XS.tswIn X0.here hx rfl (pc0 := 1) (pc' := 36) (o := 35) rfl (hb hby d2_1) rfl (by rw [hc6]; decide) (by rw [hc6]; decide) (by decide) (by decide) k) ?_
    show Goes _ _ _ _ _ _ _ (s₁.setTop (mkF m 36 #[.val (.int p4), .val (.int p5), .unset] []))
    refine Goes.of (fun t k => XS.iloadN X0.here hx rfl (hb hby d2_36) rfl k) ?_
    show Goes _ _ _ _ _ _ _ (s₁.setTop (mkF m 37 #[.val (.int p4), .val (.int p5), .unset] [(.int p5)]))
    by_cases hc7 : p5 = (0 : Int32)
    · refine Goes.of (fun t k => XS.ifNo X0.here hx rfl (hb hby d2_37) rfl ((if0 _ _).trans (teq hc7).2) k) ?_
      show Goes _ _ _ _ _ _ _ (s₁.setTop (mkF m 40 #[.val (.int p4), .val (.int p5), .unset] []))
      refine Goes.of (fun t k => XS.iconst X0.here hx rfl (hb hby d2_40) k) ?_
      show Goes _ _ _ _ _ _ _ (s₁.setTop (mkF m 41 #[.val (.int p4), .val (.int p5), .unset] [(.int (1 : Int32))]))
      refine Goes.of (fun t k => XS.goto X0.here hx rfl (pc0 := 41) (pc' := 45) rfl (hb hby d2_41) (by decide) (by decide) k) ?_
      show Goes _ _ _ _ _ _ _ (s₁.setTop (mkF m 45 #[.val (.int p4), .val (.int p5), .unset] [(.int (1 : Int32))]))
      refine Goes.of (fun t k => XS.istoreN X0.here hx rfl (hb hby d2_45) rfl (l' := #[.val (.int p4), .val (.int p5), .val (.int (1 : Int32))]) rfl k) ?_
      show Goes _ _ _ _ _ _ _ (s₁.setTop (mkF m 46 #[.val (.int p4), .val (.int p5), .val (.int (1 : Int32))] []))
      refine Goes.of (fun t k => XS.goto X0.here hx rfl (pc0 := 46) (pc' := 111) rfl (hb hby d2_46) (by decide) (by decide) k) ?_
      show Goes _ _ _ _ _ _ _ (s₁.setTop (mkF m 111 #[.val (.int p4), .val (.int p5), .val (.int (1 : Int32))] []))
      refine Goes.of (fun t k => XS.iloadN X0.here hx rfl (hb hby d2_111) rfl k) ?_
      show Goes _ _ _ _ _ _ _ (s₁.setTop (mkF m 112 #[.val (.int p4), .val (.int p5), .val (.int (1 : Int32))] [(.int (1 : Int32))]))
      exact Goes.fin X0 hlk (v := some (.int (1 : Int32))) (fun h => by rw [Bd.returns] at h; cases h) (fun fs hr => retN X0 hx (t := .boolean) Bd.returns (by simp) (hb hby d2_112) hr) ⟨congrArg (fun z => some (Value.int z)) (by rw [f2, if_pos hc6, if_pos hc7] : (1 : Int32) = f2 p4 p5), N0, e0⟩ (by decide) (by decide)
    · refine Goes.of (fun t k => XS.ifYes X0.here hx rfl (pc0 := 37) (pc' := 44) rfl (hb hby d2_37) rfl ((if0 _ _).trans (feq hc7).2) (by decide) (by decide) k) ?_
      show Goes _ _ _ _ _ _ _ (s₁.setTop (mkF m 44 #[.val (.int p4), .val (.int p5), .unset] []))
      refine Goes.of (fun t k => XS.iconst X0.here hx rfl (hb hby d2_44) k) ?_
      show Goes _ _ _ _ _ _ _ (s₁.setTop (mkF m 45 #[.val (.int p4), .val (.int p5), .unset] [(.int (0 : Int32))]))
      refine Goes.of (fun t k => XS.istoreN X0.here hx rfl (hb hby d2_45) rfl (l' := #[.val (.int p4), .val (.int p5), .val (.int (0 : Int32))]) rfl k) ?_
      show Goes _ _ _ _ _ _ _ (s₁.setTop (mkF m 46 #[.val (.int p4), .val (.int p5), .val (.int (0 : Int32))] []))
      refine Goes.of (fun t k => XS.goto X0.here hx rfl (pc0 := 46) (pc' := 111) rfl (hb hby d2_46) (by decide) (by decide) k) ?_
      show Goes _ _ _ _ _ _ _ (s₁.setTop (mkF m 111 #[.val (.int p4), .val (.int p5), .val (.int (0 : Int32))] []))
      refine Goes.of (fun t k => XS.iloadN X0.here hx rfl (hb hby d2_111) rfl k) ?_
      show Goes _ _ _ _ _ _ _ (s₁.setTop (mkF m 112 #[.val (.int p4), .val (.int p5), .val (.int (0 : Int32))] [(.int (0 : Int32))]))
      exact Goes.fin X0 hlk (v := some (.int (0 : Int32))) (fun h => by rw [Bd.returns] at h; cases h) (fun fs hr => retN X0 hx (t := .boolean) Bd.returns (by simp) (hb hby d2_112) hr) ⟨congrArg (fun z => some (Value.int z)) (by rw [f2, if_pos hc6, if_neg hc7] : (0 : Int32) = f2 p4 p5), N0, e0⟩ (by decide) (by decide)
  by_cases hc8 : p4 = (1 : Int32)
  · refine Goes.of (fun t k => XS.tswIn X0.here hx rfl (pc0 := 1) (pc' := 49) (o := 48) rfl (hb hby d2_1) rfl (by rw [hc8]; decide) (by rw [hc8]; decide) (by decide) (by decide) k) ?_
    show Goes _ _ _ _ _ _ _ (s₁.setTop (mkF m 49 #[.val (.int p4), .val (.int p5), .unset] []))
    refine Goes.of (fun t k => XS.iloadN X0.here hx rfl (hb hby d2_49) rfl k) ?_
    show Goes _ _ _ _ _ _ _ (s₁.setTop (mkF m 50 #[.val (.int p4), .val (.int p5), .unset] [(.int p5)]))
    by_cases hc9 : p5 = (0 : Int32)
    · refine Goes.of (fun t k => XS.ifYes X0.here hx rfl (pc0 := 50) (pc' := 57) rfl (hb hby d2_50) rfl ((if0 _ _).trans (teq hc9).1) (by decide) (by decide) k) ?_
      show Goes _ _ _ _ _ _ _ (s₁.setTop (mkF m 57 #[.val (.int p4), .val (.int p5), .unset] []))
      refine Goes.of (fun t k => XS.iconst X0.here hx rfl (hb hby d2_57) k) ?_
      show Goes _ _ _ _ _ _ _ (s₁.setTop (mkF m 58 #[.val (.int p4), .val (.int p5), .unset] [(.int (0 : Int32))]))
      refine Goes.of (fun t k => XS.istoreN X0.here hx rfl (hb hby d2_58) rfl (l' := #[.val (.int p4), .val (.int p5), .val (.int (0 : Int32))]) rfl k) ?_
      show Goes _ _ _ _ _ _ _ (s₁.setTop (mkF m 59 #[.val (.int p4), .val (.int p5), .val (.int (0 : Int32))] []))
      refine Goes.of (fun t k => XS.goto X0.here hx rfl (pc0 := 59) (pc' := 111) rfl (hb hby d2_59) (by decide) (by decide) k) ?_
      show Goes _ _ _ _ _ _ _ (s₁.setTop (mkF m 111 #[.val (.int p4), .val (.int p5), .val (.int (0 : Int32))] []))
      refine Goes.of (fun t k => XS.iloadN X0.here hx rfl (hb hby d2_111) rfl k) ?_
      show Goes _ _ _ _ _ _ _ (s₁.setTop (mkF m 112 #[.val (.int p4), .val (.int p5), .val (.int (0 : Int32))] [(.int (0 : Int32))]))
      exact Goes.fin X0 hlk (v := some (.int (0 : Int32))) (fun h => by rw [Bd.returns] at h; cases h) (fun fs hr => retN X0 hx (t := .boolean) Bd.returns (by simp) (hb hby d2_112) hr) ⟨congrArg (fun z => some (Value.int z)) (by rw [f2, if_neg hc6, if_pos hc8, if_pos hc9] : (0 : Int32) = f2 p4 p5), N0, e0⟩ (by decide) (by decide)
    · refine Goes.of (fun t k => XS.ifNo X0.here hx rfl (hb hby d2_50) rfl ((if0 _ _).trans (feq hc9).1) k) ?_
      show Goes _ _ _ _ _ _ _ (s₁.setTop (mkF m 53 #[.val (.int p4), .val (.int p5), .unset] []))
      refine Goes.of (fun t k => XS.iconst X0.here hx rfl (hb hby d2_53) k) ?_
      show Goes _ _ _ _ _ _ _ (s₁.setTop (mkF m 54 #[.val (.int p4), .val (.int p5), .unset] [(.int (1 : Int32))]))
      refine Goes.of (fun t k => XS.goto X0.here hx rfl (pc0 := 54) (pc' := 58) rfl (hb hby d2_54) (by decide) (by decide) k) ?_
      show Goes _ _ _ _ _ _ _ (s₁.setTop (mkF m 58 #[.val (.int p4), .val (.int p5), .unset] [(.int (1 : Int32))]))
      refine Goes.of (fun t k => XS.istoreN X0.here hx rfl (hb hby d2_58) rfl (l' := #[.val (.int p4), .val (.int p5), .val (.int (1 : Int32))]) rfl k) ?_
      show Goes _ _ _ _ _ _ _ (s₁.setTop (mkF m 59 #[.val (.int p4), .val (.int p5), .val (.int (1 : Int32))] []))
      refine Goes.of (fun t k => XS.goto X0.here hx rfl (pc0 := 59) (pc' := 111) rfl (hb hby d2_59) (by decide) (by decide) k) ?_
      show Goes _ _ _ _ _ _ _ (s₁.setTop (mkF m 111 #[.val (.int p4), .val (.int p5), .val (.int (1 : Int32))] []))
      refine Goes.of (fun t k => XS.iloadN X0.here hx rfl (hb hby d2_111) rfl k) ?_
      show Goes _ _ _ _ _ _ _ (s₁.setTop (mkF m 112 #[.val (.int p4), .val (.int p5), .val (.int (1 : Int32))] [(.int (1 : Int32))]))
      exact Goes.fin X0 hlk (v := some (.int (1 : Int32))) (fun h => by rw [Bd.returns] at h; cases h) (fun fs hr => retN X0 hx (t := .boolean) Bd.returns (by simp) (hb hby d2_112) hr) ⟨congrArg (fun z => some (Value.int z)) (by rw [f2, if_neg hc6, if_pos hc8, if_neg hc9] : (1 : Int32) = f2 p4 p5), N0, e0⟩ (by decide) (by decide)
  by_cases hc10 : p4 = (2 : Int32)
  · refine Goes.of (fun t k => XS.tswIn X0.here hx rfl (pc0 := 1) (pc' := 62) (o := 61) rfl (hb hby d2_1) rfl (by rw [hc10]; decide) (by rw [hc10]; decide) (by decide) (by decide) k) ?_
    show Goes _ _ _ _ _ _ _ (s₁.setTop (mkF m 62 #[.val (.int p4), .val (.int p5), .unset] []))
    refine Goes.of (fun t k => XS.iloadN X0.here hx rfl (hb hby d2_62) rfl k) ?_
    show Goes _ _ _ _ _ _ _ (s₁.setTop (mkF m 63 #[.val (.int p4), .val (.int p5), .unset] [(.int p5)]))
    by_cases hc11 : p5 < (0 : Int32)
    · refine Goes.of (fun t k => XS.ifNo X0.here hx rfl (hb hby d2_63) rfl ((if0 _ _).trans (tlt hc11).2.1) k) ?_
      show Goes _ _ _ _ _ _ _ (s₁.setTop (mkF m 66 #[.val (.int p4), .val (.int p5), .unset] []))
      refine Goes.of (fun t k => XS.iconst X0.here hx rfl (hb hby d2_66) k) ?_
      show Goes _ _ _ _ _ _ _ (s₁.setTop (mkF m 67 #[.val (.int p4), .val (.int p5), .unset] [(.int (1 : Int32))]))
      refine Goes.of (fun t k => XS.goto X0.here hx rfl (pc0 := 67) (pc' := 71) rfl (hb hby d2_67) (by decide) (by decide) k) ?_
      show Goes _ _ _ _ _ _ _ (s₁.setTop (mkF m 71 #[.val (.int p4), .val (.int p5), .unset] [(.int (1 : Int32))]))
      refine Goes.of (fun t k => XS.istoreN X0.here hx rfl (hb hby d2_71) rfl (l' := #[.val (.int p4), .val (.int p5), .val (.int (1 : Int32))]) rfl k) ?_
      show Goes _ _ _ _ _ _ _ (s₁.setTop (mkF m 72 #[.val (.int p4), .val (.int p5), .val (.int (1 : Int32))] []))
      refine Goes.of (fun t k => XS.goto X0.here hx rfl (pc0 := 72) (pc' := 111) rfl (hb hby d2_72) (by decide) (by decide) k) ?_
      show Goes _ _ _ _ _ _ _ (s₁.setTop (mkF m 111 #[.val (.int p4), .val (.int p5), .val (.int (1 : Int32))] []))
      refine Goes.of (fun t k => XS.iloadN X0.here hx rfl (hb hby d2_111) rfl k) ?_
      show Goes _ _ _ _ _ _ _ (s₁.setTop (mkF m 112 #[.val (.int p4), .val (.int p5), .val (.int (1 : Int32))] [(.int (1 : Int32))]))
      exact Goes.fin X0 hlk (v := some (.int (1 : Int32))) (fun h => by rw [Bd.returns] at h; cases h) (fun fs hr => retN X0 hx (t := .boolean) Bd.returns (by simp) (hb hby d2_112) hr) ⟨congrArg (fun z => some (Value.int z)) (by rw [f2, if_neg hc6, if_neg hc8, if_pos hc10, if_pos hc11] : (1 : Int32) = f2 p4 p5), N0, e0⟩ (by decide) (by decide)
    · refine Goes.of (fun t k => XS.ifYes X0.here hx rfl (pc0 := 63) (pc' := 70) rfl (hb hby d2_63) rfl ((if0 _ _).trans (flt hc11).2.1) (by decide) (by decide) k) ?_
      show Goes _ _ _ _ _ _ _ (s₁.setTop (mkF m 70 #[.val (.int p4), .val (.int p5), .unset] []))
      refine Goes.of (fun t k => XS.iconst X0.here hx rfl (hb hby d2_70) k) ?_
      show Goes _ _ _ _ _ _ _ (s₁.setTop (mkF m 71 #[.val (.int p4), .val (.int p5), .unset] [(.int (0 : Int32))]))
      refine Goes.of (fun t k => XS.istoreN X0.here hx rfl (hb hby d2_71) rfl (l' := #[.val (.int p4), .val (.int p5), .val (.int (0 : Int32))]) rfl k) ?_
      show Goes _ _ _ _ _ _ _ (s₁.setTop (mkF m 72 #[.val (.int p4), .val (.int p5), .val (.int (0 : Int32))] []))
      refine Goes.of (fun t k => XS.goto X0.here hx rfl (pc0 := 72) (pc' := 111) rfl (hb hby d2_72) (by decide) (by decide) k) ?_
      show Goes _ _ _ _ _ _ _ (s₁.setTop (mkF m 111 #[.val (.int p4), .val (.int p5), .val (.int (0 : Int32))] []))
      refine Goes.of (fun t k => XS.iloadN X0.here hx rfl (hb hby d2_111) rfl k) ?_
      show Goes _ _ _ _ _ _ _ (s₁.setTop (mkF m 112 #[.val (.int p4), .val (.int p5), .val (.int (0 : Int32))] [(.int (0 : Int32))]))
      exact Goes.fin X0 hlk (v := some (.int (0 : Int32))) (fun h => by rw [Bd.returns] at h; cases h) (fun fs hr => retN X0 hx (t := .boolean) Bd.returns (by simp) (hb hby d2_112) hr) ⟨congrArg (fun z => some (Value.int z)) (by rw [f2, if_neg hc6, if_neg hc8, if_pos hc10, if_neg hc11] : (0 : Int32) = f2 p4 p5), N0, e0⟩ (by decide) (by decide)
  by_cases hc12 : p4 = (3 : Int32)
  · refine Goes.of (fun t k => XS.tswIn X0.here hx rfl (pc0 := 1) (pc' := 75) (o := 74) rfl (hb hby d2_1) rfl (by rw [hc12]; decide) (by rw [hc12]; decide) (by decide) (by decide) k) ?_
    show Goes _ _ _ _ _ _ _ (s₁.setTop (mkF m 75 #[.val (.int p4), .val (.int p5), .unset] []))
    refine Goes.of (fun t k => XS.iloadN X0.here hx rfl (hb hby d2_75) rfl k) ?_
    show Goes _ _ _ _ _ _ _ (s₁.setTop (mkF m 76 #[.val (.int p4), .val (.int p5), .unset] [(.int p5)]))
    by_cases hc13 : (0 : Int32) < p5
    · refine Goes.of (fun t k => XS.ifYes X0.here hx rfl (pc0 := 76) (pc' := 83) rfl (hb hby d2_76) rfl ((if0 _ _).trans (tlt hc13).2.2.1) (by decide) (by decide) k) ?_
      show Goes _ _ _ _ _ _ _ (s₁.setTop (mkF m 83 #[.val (.int p4), .val (.int p5), .unset] []))
      refine Goes.of (fun t k => XS.iconst X0.here hx rfl (hb hby d2_83) k) ?_
      show Goes _ _ _ _ _ _ _ (s₁.setTop (mkF m 84 #[.val (.int p4), .val (.int p5), .unset] [(.int (0 : Int32))]))
      refine Goes.of (fun t k => XS.istoreN X0.here hx rfl (hb hby d2_84) rfl (l' := #[.val (.int p4), .val (.int p5), .val (.int (0 : Int32))]) rfl k) ?_
      show Goes _ _ _ _ _ _ _ (s₁.setTop (mkF m 85 #[.val (.int p4), .val (.int p5), .val (.int (0 : Int32))] []))
      refine Goes.of (fun t k => XS.goto X0.here hx rfl (pc0 := 85) (pc' := 111) rfl (hb hby d2_85) (by decide) (by decide) k) ?_
      show Goes _ _ _ _ _ _ _ (s₁.setTop (mkF m 111 #[.val (.int p4), .val (.int p5), .val (.int (0 : Int32))] []))
      refine Goes.of (fun t k => XS.iloadN X0.here hx rfl (hb hby d2_111) rfl k) ?_
      show Goes _ _ _ _ _ _ _ (s₁.setTop (mkF m 112 #[.val (.int p4), .val (.int p5), .val (.int (0 : Int32))] [(.int (0 : Int32))]))
      exact Goes.fin X0 hlk (v := some (.int (0 : Int32))) (fun h => by rw [Bd.returns] at h; cases h) (fun fs hr => retN X0 hx (t := .boolean) Bd.returns (by simp) (hb hby d2_112) hr) ⟨congrArg (fun z => some (Value.int z)) (by rw [f2, if_neg hc6, if_neg hc8, if_neg hc10, if_pos hc12, if_pos hc13] : (0 : Int32) = f2 p4 p5), N0, e0⟩ (by decide) (by decide)
    · refine Goes.of (fun t k => XS.ifNo X0.here hx rfl (hb hby d2_76) rfl ((if0 _ _).trans (flt hc13).2.2.1) k) ?_
      show Goes _ _ _ _ _ _ _ (s₁.setTop (mkF m 79 #[.val (.int p4), .val (.int p5), .unset] []))
      refine Goes.of (fun t k => XS.iconst X0.here hx rfl (hb hby d2_79) k) ?_
      show Goes _ _ _ _ _ _ _ (s₁.setTop (mkF m 80 #[.val (.int p4), .val (.int p5), .unset] [(.int (1 : Int32))]))
      refine Goes.of (fun t k => XS.goto X0.here hx rfl (pc0 := 80) (pc' := 84) rfl (hb hby d2_80) (by decide) (by decide) k) ?_
      show Goes _ _ _ _ _ _ _ (s₁.setTop (mkF m 84 #[.val (.int p4), .val (.int p5), .unset] [(.int (1 : Int32))]))
      refine Goes.of (fun t k => XS.istoreN X0.here hx rfl (hb hby d2_84) rfl (l' := #[.val (.int p4), .val (.int p5), .val (.int (1 : Int32))]) rfl k) ?_
      show Goes _ _ _ _ _ _ _ (s₁.setTop (mkF m 85 #[.val (.int p4), .val (.int p5), .val (.int (1 : Int32))] []))
      refine Goes.of (fun t k => XS.goto X0.here hx rfl (pc0 := 85) (pc' := 111) rfl (hb hby d2_85) (by decide) (by decide) k) ?_
      show Goes _ _ _ _ _ _ _ (s₁.setTop (mkF m 111 #[.val (.int p4), .val (.int p5), .val (.int (1 : Int32))] []))
      refine Goes.of (fun t k => XS.iloadN X0.here hx rfl (hb hby d2_111) rfl k) ?_
      show Goes _ _ _ _ _ _ _ (s₁.setTop (mkF m 112 #[.val (.int p4), .val (.int p5), .val (.int (1 : Int32))] [(.int (1 : Int32))]))
      exact Goes.fin X0 hlk (v := some (.int (1 : Int32))) (fun h => by rw [Bd.returns] at h; cases h) (fun fs hr => retN X0 hx (t := .boolean) Bd.returns (by simp) (hb hby d2_112) hr) ⟨congrArg (fun z => some (Value.int z)) (by rw [f2, if_neg hc6, if_neg hc8, if_neg hc10, if_pos hc12, if_neg hc13] : (1 : Int32) = f2 p4 p5), N0, e0⟩ (by decide) (by decide)
  by_cases hc14 : p4 = (4 : Int32)
  · refine Goes.of (fun t k => XS.tswIn X0.here hx rfl (pc0 := 1) (pc' := 88) (o := 87) rfl (hb hby d2_1) rfl (by rw [hc14]; decide) (by rw [hc14]; decide) (by decide) (by decide) k) ?_
    show Goes _ _ _ _ _ _ _ (s₁.setTop (mkF m 88 #[.val (.int p4), .val (.int p5), .unset] []))
    refine Goes.of (fun t k => XS.iloadN X0.here hx rfl (hb hby d2_88) rfl k) ?_
    show Goes _ _ _ _ _ _ _ (s₁.setTop (mkF m 89 #[.val (.int p4), .val (.int p5), .unset] [(.int p5)]))
    by_cases hc15 : (0 : Int32) < p5
    · refine Goes.of (fun t k => XS.ifNo X0.here hx rfl (hb hby d2_89) rfl ((if0 _ _).trans (tlt hc15).2.2.2) k) ?_
      show Goes _ _ _ _ _ _ _ (s₁.setTop (mkF m 92 #[.val (.int p4), .val (.int p5), .unset] []))
      refine Goes.of (fun t k => XS.iconst X0.here hx rfl (hb hby d2_92) k) ?_
      show Goes _ _ _ _ _ _ _ (s₁.setTop (mkF m 93 #[.val (.int p4), .val (.int p5), .unset] [(.int (1 : Int32))]))
      refine Goes.of (fun t k => XS.goto X0.here hx rfl (pc0 := 93) (pc' := 97) rfl (hb hby d2_93) (by decide) (by decide) k) ?_
      show Goes _ _ _ _ _ _ _ (s₁.setTop (mkF m 97 #[.val (.int p4), .val (.int p5), .unset] [(.int (1 : Int32))]))
      refine Goes.of (fun t k => XS.istoreN X0.here hx rfl (hb hby d2_97) rfl (l' := #[.val (.int p4), .val (.int p5), .val (.int (1 : Int32))]) rfl k) ?_
      show Goes _ _ _ _ _ _ _ (s₁.setTop (mkF m 98 #[.val (.int p4), .val (.int p5), .val (.int (1 : Int32))] []))
      refine Goes.of (fun t k => XS.goto X0.here hx rfl (pc0 := 98) (pc' := 111) rfl (hb hby d2_98) (by decide) (by decide) k) ?_
      show Goes _ _ _ _ _ _ _ (s₁.setTop (mkF m 111 #[.val (.int p4), .val (.int p5), .val (.int (1 : Int32))] []))
      refine Goes.of (fun t k => XS.iloadN X0.here hx rfl (hb hby d2_111) rfl k) ?_
      show Goes _ _ _ _ _ _ _ (s₁.setTop (mkF m 112 #[.val (.int p4), .val (.int p5), .val (.int (1 : Int32))] [(.int (1 : Int32))]))
      exact Goes.fin X0 hlk (v := some (.int (1 : Int32))) (fun h => by rw [Bd.returns] at h; cases h) (fun fs hr => retN X0 hx (t := .boolean) Bd.returns (by simp) (hb hby d2_112) hr) ⟨congrArg (fun z => some (Value.int z)) (by rw [f2, if_neg hc6, if_neg hc8, if_neg hc10, if_neg hc12, if_pos hc14, if_pos hc15] : (1 : Int32) = f2 p4 p5), N0, e0⟩ (by decide) (by decide)
    · refine Goes.of (fun t k => XS.ifYes X0.here hx rfl (pc0 := 89) (pc' := 96) rfl (hb hby d2_89) rfl ((if0 _ _).trans (flt hc15).2.2.2) (by decide) (by decide) k) ?_
      show Goes _ _ _ _ _ _ _ (s₁.setTop (mkF m 96 #[.val (.int p4), .val (.int p5), .unset] []))
      refine Goes.of (fun t k => XS.iconst X0.here hx rfl (hb hby d2_96) k) ?_
      show Goes _ _ _ _ _ _ _ (s₁.setTop (mkF m 97 #[.val (.int p4), .val (.int p5), .unset] [(.int (0 : Int32))]))
      refine Goes.of (fun t k => XS.istoreN X0.here hx rfl (hb hby d2_97) rfl (l' := #[.val (.int p4), .val (.int p5), .val (.int (0 : Int32))]) rfl k) ?_
      show Goes _ _ _ _ _ _ _ (s₁.setTop (mkF m 98 #[.val (.int p4), .val (.int p5), .val (.int (0 : Int32))] []))
      refine Goes.of (fun t k => XS.goto X0.here hx rfl (pc0 := 98) (pc' := 111) rfl (hb hby d2_98) (by decide) (by decide) k) ?_
      show Goes _ _ _ _ _ _ _ (s₁.setTop (mkF m 111 #[.val (.int p4), .val (.int p5), .val (.int (0 : Int32))] []))
      refine Goes.of (fun t k => XS.iloadN X0.here hx rfl (hb hby d2_111) rfl k) ?_
      show Goes _ _ _ _ _ _ _ (s₁.setTop (mkF m 112 #[.val (.int p4), .val (.int p5), .val (.int (0 : Int32))] [(.int (0 : Int32))]))
      exact Goes.fin X0 hlk (v := some (.int (0 : Int32))) (fun h => by rw [Bd.returns] at h; cases h) (fun fs hr => retN X0 hx (t := .boolean) Bd.returns (by simp) (hb hby d2_112) hr) ⟨congrArg (fun z => some (Value.int z)) (by rw [f2, if_neg hc6, if_neg hc8, if_neg hc10, if_neg hc12, if_pos hc14, if_neg hc15] : (0 : Int32) = f2 p4 p5), N0, e0⟩ (by decide) (by decide)
  have hout1 : (p4).toInt < 0 ∨ (p4).toInt > 4 := by
    have := (not_congr (Int32.toInt_inj (x := p4) (y := (0 : Int32)))).mpr hc6; rw [show ((0 : Int32)).toInt = 0 from rfl] at this
    have := (not_congr (Int32.toInt_inj (x := p4) (y := (1 : Int32)))).mpr hc8; rw [show ((1 : Int32)).toInt = 1 from rfl] at this
    have := (not_congr (Int32.toInt_inj (x := p4) (y := (2 : Int32)))).mpr hc10; rw [show ((2 : Int32)).toInt = 2 from rfl] at this
    have := (not_congr (Int32.toInt_inj (x := p4) (y := (3 : Int32)))).mpr hc12; rw [show ((3 : Int32)).toInt = 3 from rfl] at this
    have := (not_congr (Int32.toInt_inj (x := p4) (y := (4 : Int32)))).mpr hc14; rw [show ((4 : Int32)).toInt = 4 from rfl] at this
    omega
  refine Goes.of (fun t k => XS.tswOut X0.here hx rfl (pc0 := 1) (pc' := 101) rfl (hb hby d2_1) rfl hout1 (by decide) (by decide) k) ?_
  show Goes _ _ _ _ _ _ _ (s₁.setTop (mkF m 101 #[.val (.int p4), .val (.int p5), .unset] []))
  refine Goes.of (fun t k => XS.iloadN X0.here hx rfl (hb hby d2_101) rfl k) ?_
  show Goes _ _ _ _ _ _ _ (s₁.setTop (mkF m 102 #[.val (.int p4), .val (.int p5), .unset] [(.int p5)]))
  by_cases hc16 : p5 < (0 : Int32)
  · refine Goes.of (fun t k => XS.ifYes X0.here hx rfl (pc0 := 102) (pc' := 109) rfl (hb hby d2_102) rfl ((if0 _ _).trans (tlt hc16).1) (by decide) (by decide) k) ?_
    show Goes _ _ _ _ _ _ _ (s₁.setTop (mkF m 109 #[.val (.int p4), .val (.int p5), .unset] []))
    refine Goes.of (fun t k => XS.iconst X0.here hx rfl (hb hby d2_109) k) ?_
    show Goes _ _ _ _ _ _ _ (s₁.setTop (mkF m 110 #[.val (.int p4), .val (.int p5), .unset] [(.int (0 : Int32))]))
    refine Goes.of (fun t k => XS.istoreN X0.here hx rfl (hb hby d2_110) rfl (l' := #[.val (.int p4), .val (.int p5), .val (.int (0 : Int32))]) rfl k) ?_
    show Goes _ _ _ _ _ _ _ (s₁.setTop (mkF m 111 #[.val (.int p4), .val (.int p5), .val (.int (0 : Int32))] []))
    refine Goes.of (fun t k => XS.iloadN X0.here hx rfl (hb hby d2_111) rfl k) ?_
    show Goes _ _ _ _ _ _ _ (s₁.setTop (mkF m 112 #[.val (.int p4), .val (.int p5), .val (.int (0 : Int32))] [(.int (0 : Int32))]))
    exact Goes.fin X0 hlk (v := some (.int (0 : Int32))) (fun h => by rw [Bd.returns] at h; cases h) (fun fs hr => retN X0 hx (t := .boolean) Bd.returns (by simp) (hb hby d2_112) hr) ⟨congrArg (fun z => some (Value.int z)) (by rw [f2, if_neg hc6, if_neg hc8, if_neg hc10, if_neg hc12, if_neg hc14, if_pos hc16] : (0 : Int32) = f2 p4 p5), N0, e0⟩ (by decide) (by decide)
  · refine Goes.of (fun t k => XS.ifNo X0.here hx rfl (hb hby d2_102) rfl ((if0 _ _).trans (flt hc16).1) k) ?_
    show Goes _ _ _ _ _ _ _ (s₁.setTop (mkF m 105 #[.val (.int p4), .val (.int p5), .unset] []))
    refine Goes.of (fun t k => XS.iconst X0.here hx rfl (hb hby d2_105) k) ?_
    show Goes _ _ _ _ _ _ _ (s₁.setTop (mkF m 106 #[.val (.int p4), .val (.int p5), .unset] [(.int (1 : Int32))]))
    refine Goes.of (fun t k => XS.goto X0.here hx rfl (pc0 := 106) (pc' := 110) rfl (hb hby d2_106) (by decide) (by decide) k) ?_
    show Goes _ _ _ _ _ _ _ (s₁.setTop (mkF m 110 #[.val (.int p4), .val (.int p5), .unset] [(.int (1 : Int32))]))
    refine Goes.of (fun t k => XS.istoreN X0.here hx rfl (hb hby d2_110) rfl (l' := #[.val (.int p4), .val (.int p5), .val (.int (1 : Int32))]) rfl k) ?_
    show Goes _ _ _ _ _ _ _ (s₁.setTop (mkF m 111 #[.val (.int p4), .val (.int p5), .val (.int (1 : Int32))] []))
    refine Goes.of (fun t k => XS.iloadN X0.here hx rfl (hb hby d2_111) rfl k) ?_
    show Goes _ _ _ _ _ _ _ (s₁.setTop (mkF m 112 #[.val (.int p4), .val (.int p5), .val (.int (1 : Int32))] [(.int (1 : Int32))]))
    exact Goes.fin X0 hlk (v := some (.int (1 : Int32))) (fun h => by rw [Bd.returns] at h; cases h) (fun fs hr => retN X0 hx (t := .boolean) Bd.returns (by simp) (hb hby d2_112) hr) ⟨congrArg (fun z => some (Value.int z)) (by rw [f2, if_neg hc6, if_neg hc8, if_neg hc10, if_neg hc12, if_neg hc14, if_neg hc16] : (1 : Int32) = f2 p4 p5), N0, e0⟩ (by decide) (by decide)
theorem own_six (u0 : Int32) : 0 ≤ ((u0 &&& (2147483647 : Int32)) % (6 : Int32)).toInt ∧ ((u0 &&& (2147483647 : Int32)) % (6 : Int32)).toInt < (6 : Nat) := by
  have m := c_and u0 2147483647 (by decide)
  have k := (c_irem (u0 &&& 2147483647) 6 6 rfl).1 m.1
  omega
theorem pd_0 : parseMethodDescriptor "(I)I" = some ⟨[.int], some .int⟩ := by decide +kernel
theorem pd_1 : parseMethodDescriptor "(II)Z" = some ⟨[.int, .int], some .boolean⟩ := by decide +kernel
theorem ef_0 (m : MethodId) (u0 : Int32) (u1 : Int32) : entryFrame m #[(.int u0), (.int u1)] maxLocals = mkF m 0 #[.val (.int u0), .val (.int u1), .unset, .unset, .unset] [] := by first | (simp [entryFrame, mkF, argsToLocals, Value.category, maxLocals]; done) | rfl
def f0 (u0 : Int32) (u1 : Int32) : Int32 :=
  (if ((((upd (upd (upd (upd (upd (upd (fun _ => 0) 0 (2 : Int32)) 1 (5 : Int32)) 2 (1 : Int32)) 3 (3 : Int32)) 4 (4 : Int32)) 5 (6 : Int32)) (((u0 &&& (2147483647 : Int32)) % (6 : Int32))).toNatClampNeg) >>> ((f1 u1) &&& 31)) &&& (1 : Int32)) = (0 : Int32) then (if (f2 ((u0 &&& (2147483647 : Int32)) % (6 : Int32)) u1) = (0 : Int32) then (1 : Int32)
    else (0 : Int32))
  else (if (f2 ((u0 &&& (2147483647 : Int32)) % (6 : Int32)) u1) = (1 : Int32) then (1 : Int32)
    else (0 : Int32)))
def Q0 (u0 : Int32) (u1 : Int32) (n0 : Nat) (v : Option Value) (h : Heap) (L : List Loc) : Prop := v = some (.int (f0 u0 u1)) ∧ Fr n0 L
set_option maxRecDepth 65536 in
set_option maxHeartbeats 40000000 in
theorem rm0 (l : Launch) (Z : State) (a0 : Array Value) (hw : ∀ d ∈ tables_1, d.before a0 Z = true) (ws : List Jvm.Cond) (u0 : Int32) (u1 : Int32) (h0 : Heap) (n0 : Nat) (Z0 : n0 ≤ h0.size) :
    MetFree l x (head1 (Jvm.Cond.code x code maxLocals ret :: ws) room_1) (fun ar' Ur => ar' = #[(.int u0), (.int u1)] ∧ Z.Warmed39 Ur.vm ∧ Ur.heap = h0) (fun _ _ _ _ _ => True) (fun _ Ur or' Us => ∃ v L, or' = .returned v ∧ Q0 u0 u1 n0 v Us.heap L ∧ FrameEnd Ur or' Us L room_1.cells room_1.slots) := by
  refine MetFree.of_bodySF (plainFor_of_name pn_0) hisR ?_
  intro p e s m args below meth c s₁ Bd hml0 hP hK
  obtain ⟨rfl, hZ, hh⟩ := hP
  have hx := Bd.exec
  have hby := Bd.bytes
  have hlk : meth.locks = false := BodyLoose.notSynchronized Bd
  have hml : c.maxLocals = 5 := hml0
  have hown : s.vm.findClass "com/example/dutiful_logic/dutifullogic/OpHoldsPinLaw" = some m.cls := findClass_of_methodNamed Bd.named
  have hnm := (name_of_methodNamed Bd.named Bd.method).1
  have X0 : Stand p l e room_1 s m #[(.int u0), (.int u1)] below meth c s₁ [] 0 0 := Stand.of_body Bd
  have e0 : s₁.heap = h0 := by rw [← hh, Bd.state]; rfl
  have N0 := Fr.nil n0
  show Goes p.tables e below s (Q0 u0 u1 n0) room_1.cells room_1.slots (s₁.setTop (entryFrame m #[(.int u0), (.int u1)] maxLocals))
  refine Goes.of (fun t k => castTop (ef_0 m u0 u1) k) ?_
  show Goes _ _ _ _ _ _ _ (s₁.setTop (mkF m 0 #[.val (.int u0), .val (.int u1), .unset, .unset, .unset] []))
  refine Goes.of (fun t k => XS.iloadN X0.here hx rfl (hb hby at_0) rfl k) ?_
  show Goes _ _ _ _ _ _ _ (s₁.setTop (mkF m 1 #[.val (.int u0), .val (.int u1), .unset, .unset, .unset] [(.int u0)]))
  refine Goes.of (fun t k => X0.ldcInt hx hown (mvT hZ (hw _ (List.mem_of_getElem? (i := 0) rfl))) (g := (mkF m 1 #[.val (.int u0), .val (.int u1), .unset, .unset, .unset] [(.int u0)])) rfl (hb hby at_1) t k) ?_
  show Goes _ _ _ _ _ _ _ (s₁.setTop (mkF m 3 #[.val (.int u0), .val (.int u1), .unset, .unset, .unset] [(.int (2147483647 : Int32)), (.int u0)]))
  refine Goes.of (fun t k => XS.iand X0.here hx rfl (hb hby at_3) rfl k) ?_
  show Goes _ _ _ _ _ _ _ (s₁.setTop (mkF m 4 #[.val (.int u0), .val (.int u1), .unset, .unset, .unset] [(.int (u0 &&& (2147483647 : Int32)))]))
  refine Goes.of (fun t k => XS.bipush X0.here hx rfl (hb hby at_4) k) ?_
  show Goes _ _ _ _ _ _ _ (s₁.setTop (mkF m 6 #[.val (.int u0), .val (.int u1), .unset, .unset, .unset] [(.int (6 : Int32)), (.int (u0 &&& (2147483647 : Int32)))]))
  refine Goes.of (fun t k => iremM X0 hx (g := (mkF m 6 #[.val (.int u0), .val (.int u1), .unset, .unset, .unset] [(.int (6 : Int32)), (.int (u0 &&& (2147483647 : Int32)))])) rfl (hb hby at_6) rfl (by decide) k) ?_
  show Goes _ _ _ _ _ _ _ (s₁.setTop (mkF m 7 #[.val (.int u0), .val (.int u1), .unset, .unset, .unset] [(.int ((u0 &&& (2147483647 : Int32)) % (6 : Int32)))]))
  refine Goes.of (fun t k => XS.istoreN X0.here hx rfl (hb hby at_7) rfl (l' := #[.val (.int u0), .val (.int u1), .val (.int ((u0 &&& (2147483647 : Int32)) % (6 : Int32))), .unset, .unset]) rfl k) ?_
  show Goes _ _ _ _ _ _ _ (s₁.setTop (mkF m 8 #[.val (.int u0), .val (.int u1), .val (.int ((u0 &&& (2147483647 : Int32)) % (6 : Int32))), .unset, .unset] []))
  refine Goes.of (fun t k => XS.bipush X0.here hx rfl (hb hby at_8) k) ?_
  show Goes _ _ _ _ _ _ _ (s₁.setTop (mkF m 10 #[.val (.int u0), .val (.int u1), .val (.int ((u0 &&& (2147483647 : Int32)) % (6 : Int32))), .unset, .unset] [(.int (6 : Int32))]))
  obtain ⟨T17, h17, k17, X17, e17, E17, A17, Ea17, st17⟩ := newPE X0 hx hZ (hw _ (List.mem_of_getElem? (i := 1) rfl)) e0 (g := (mkF m 10 #[.val (.int u0), .val (.int u1), .val (.int ((u0 &&& (2147483647 : Int32)) % (6 : Int32))), .unset, .unset] [(.int (6 : Int32))])) rfl (hb hby at_10) rfl (by decide) (cap := 6) (by decide) (by decide) (by decide) (by decide) (ad := "[I") (by decide)
  obtain ⟨b17, g17⟩ : ∃ z, z = h0.size := ⟨_, rfl⟩
  rw [← g17] at A17 Ea17 st17
  have V17 : AI Z h17 b17 .int 6 (fun _ => 0) := AI.new rfl rfl A17 (by decide) (by decide)
  have g_b17 : n0 ≤ b17 := Nat.le_trans Z0 (Nat.le_of_eq g17.symm)
  have Z17 : n0 ≤ h17.size := Nat.le_trans Z0 E17.1
  refine Goes.of st17 ?_
  show Goes _ _ _ _ _ _ _ (T17.setTop (mkF m 12 #[.val (.int u0), .val (.int u1), .val (.int ((u0 &&& (2147483647 : Int32)) % (6 : Int32))), .unset, .unset] [(.ref b17)]))
  refine Goes.of (fun t k => XS.dup X17.here hx rfl (hb hby at_12) rfl rfl k) ?_
  show Goes _ _ _ _ _ _ _ (T17.setTop (mkF m 13 #[.val (.int u0), .val (.int u1), .val (.int ((u0 &&& (2147483647 : Int32)) % (6 : Int32))), .unset, .unset] [(.ref b17), (.ref b17)]))
  refine Goes.of (fun t k => XS.iconst X17.here hx rfl (hb hby at_13) k) ?_
  show Goes _ _ _ _ _ _ _ (T17.setTop (mkF m 14 #[.val (.int u0), .val (.int u1), .val (.int ((u0 &&& (2147483647 : Int32)) % (6 : Int32))), .unset, .unset] [(.int (0 : Int32)), (.ref b17), (.ref b17)]))
  refine Goes.of (fun t k => XS.iconst X17.here hx rfl (hb hby at_14) k) ?_
  show Goes _ _ _ _ _ _ _ (T17.setTop (mkF m 15 #[.val (.int u0), .val (.int u1), .val (.int ((u0 &&& (2147483647 : Int32)) % (6 : Int32))), .unset, .unset] [(.int (2 : Int32)), (.int (0 : Int32)), (.ref b17), (.ref b17)]))
  obtain ⟨T18, h18, X18, e18, W18, V18, st18⟩ := putI X17 hx hZ e17 V17 (j := (0 : Int32)) (x := (2 : Int32)) (i := 0) (by decide) (by decide) (by decide) (g := (mkF m 15 #[.val (.int u0), .val (.int u1), .val (.int ((u0 &&& (2147483647 : Int32)) % (6 : Int32))), .unset, .unset] [(.int (2 : Int32)), (.int (0 : Int32)), (.ref b17), (.ref b17)])) rfl rfl (hb hby at_15)
  have Z18 : n0 ≤ h18.size := Nat.le_trans Z17 (Keep.of_wr W18).1
  have N18 := Fr.snoc X18 N0 g_b17
  refine Goes.of st18 ?_
  show Goes _ _ _ _ _ _ _ (T18.setTop (mkF m 16 #[.val (.int u0), .val (.int u1), .val (.int ((u0 &&& (2147483647 : Int32)) % (6 : Int32))), .unset, .unset] [(.ref b17)]))
  refine Goes.of (fun t k => XS.dup X18.here hx rfl (hb hby at_16) rfl rfl k) ?_
  show Goes _ _ _ _ _ _ _ (T18.setTop (mkF m 17 #[.val (.int u0), .val (.int u1), .val (.int ((u0 &&& (2147483647 : Int32)) % (6 : Int32))), .unset, .unset] [(.ref b17), (.ref b17)]))
  refine Goes.of (fun t k => XS.iconst X18.here hx rfl (hb hby at_17) k) ?_
  show Goes _ _ _ _ _ _ _ (T18.setTop (mkF m 18 #[.val (.int u0), .val (.int u1), .val (.int ((u0 &&& (2147483647 : Int32)) % (6 : Int32))), .unset, .unset] [(.int (1 : Int32)), (.ref b17), (.ref b17)]))
  refine Goes.of (fun t k => XS.iconst X18.here hx rfl (hb hby at_18) k) ?_
  show Goes _ _ _ _ _ _ _ (T18.setTop (mkF m 19 #[.val (.int u0), .val (.int u1), .val (.int ((u0 &&& (2147483647 : Int32)) % (6 : Int32))), .unset, .unset] [(.int (5 : Int32)), (.int (1 : Int32)), (.ref b17), (.ref b17)]))
  obtain ⟨T19, h19, X19, e19, W19, V19, st19⟩ := putI X18 hx hZ e18 V18 (j := (1 : Int32)) (x := (5 : Int32)) (i := 1) (by decide) (by decide) (by decide) (g := (mkF m 19 #[.val (.int u0), .val (.int u1), .val (.int ((u0 &&& (2147483647 : Int32)) % (6 : Int32))), .unset, .unset] [(.int (5 : Int32)), (.int (1 : Int32)), (.ref b17), (.ref b17)])) rfl rfl (hb hby at_19)
  have Z19 : n0 ≤ h19.size := Nat.le_trans Z18 (Keep.of_wr W19).1
  have N19 := Fr.snoc X19 N18 g_b17
  refine Goes.of st19 ?_
  show Goes _ _ _ _ _ _ _ (T19.setTop (mkF m 20 #[.val (.int u0), .val (.int u1), .val (.int ((u0 &&& (2147483647 : Int32)) % (6 : Int32))), .unset, .unset] [(.ref b17)]))
  refine Goes.of (fun t k => XS.dup X19.here hx rfl (hb hby at_20) rfl rfl k) ?_
  show Goes _ _ _ _ _ _ _ (T19.setTop (mkF m 21 #[.val (.int u0), .val (.int u1), .val (.int ((u0 &&& (2147483647 : Int32)) % (6 : Int32))), .unset, .unset] [(.ref b17), (.ref b17)]))
  refine Goes.of (fun t k => XS.iconst X19.here hx rfl (hb hby at_21) k) ?_
  show Goes _ _ _ _ _ _ _ (T19.setTop (mkF m 22 #[.val (.int u0), .val (.int u1), .val (.int ((u0 &&& (2147483647 : Int32)) % (6 : Int32))), .unset, .unset] [(.int (2 : Int32)), (.ref b17), (.ref b17)]))
  refine Goes.of (fun t k => XS.iconst X19.here hx rfl (hb hby at_22) k) ?_
  show Goes _ _ _ _ _ _ _ (T19.setTop (mkF m 23 #[.val (.int u0), .val (.int u1), .val (.int ((u0 &&& (2147483647 : Int32)) % (6 : Int32))), .unset, .unset] [(.int (1 : Int32)), (.int (2 : Int32)), (.ref b17), (.ref b17)]))
  obtain ⟨T20, h20, X20, e20, W20, V20, st20⟩ := putI X19 hx hZ e19 V19 (j := (2 : Int32)) (x := (1 : Int32)) (i := 2) (by decide) (by decide) (by decide) (g := (mkF m 23 #[.val (.int u0), .val (.int u1), .val (.int ((u0 &&& (2147483647 : Int32)) % (6 : Int32))), .unset, .unset] [(.int (1 : Int32)), (.int (2 : Int32)), (.ref b17), (.ref b17)])) rfl rfl (hb hby at_23)
  have Z20 : n0 ≤ h20.size := Nat.le_trans Z19 (Keep.of_wr W20).1
  have N20 := Fr.snoc X20 N19 g_b17
  refine Goes.of st20 ?_
  show Goes _ _ _ _ _ _ _ (T20.setTop (mkF m 24 #[.val (.int u0), .val (.int u1), .val (.int ((u0 &&& (2147483647 : Int32)) % (6 : Int32))), .unset, .unset] [(.ref b17)]))
  refine Goes.of (fun t k => XS.dup X20.here hx rfl (hb hby at_24) rfl rfl k) ?_
  show Goes _ _ _ _ _ _ _ (T20.setTop (mkF m 25 #[.val (.int u0), .val (.int u1), .val (.int ((u0 &&& (2147483647 : Int32)) % (6 : Int32))), .unset, .unset] [(.ref b17), (.ref b17)]))
  refine Goes.of (fun t k => XS.iconst X20.here hx rfl (hb hby at_25) k) ?_
  show Goes _ _ _ _ _ _ _ (T20.setTop (mkF m 26 #[.val (.int u0), .val (.int u1), .val (.int ((u0 &&& (2147483647 : Int32)) % (6 : Int32))), .unset, .unset] [(.int (3 : Int32)), (.ref b17), (.ref b17)]))
  refine Goes.of (fun t k => XS.iconst X20.here hx rfl (hb hby at_26) k) ?_
  show Goes _ _ _ _ _ _ _ (T20.setTop (mkF m 27 #[.val (.int u0), .val (.int u1), .val (.int ((u0 &&& (2147483647 : Int32)) % (6 : Int32))), .unset, .unset] [(.int (3 : Int32)), (.int (3 : Int32)), (.ref b17), (.ref b17)]))
  obtain ⟨T21, h21, X21, e21, W21, V21, st21⟩ := putI X20 hx hZ e20 V20 (j := (3 : Int32)) (x := (3 : Int32)) (i := 3) (by decide) (by decide) (by decide) (g := (mkF m 27 #[.val (.int u0), .val (.int u1), .val (.int ((u0 &&& (2147483647 : Int32)) % (6 : Int32))), .unset, .unset] [(.int (3 : Int32)), (.int (3 : Int32)), (.ref b17), (.ref b17)])) rfl rfl (hb hby at_27)
  have Z21 : n0 ≤ h21.size := Nat.le_trans Z20 (Keep.of_wr W21).1
  have N21 := Fr.snoc X21 N20 g_b17
  refine Goes.of st21 ?_
  show Goes _ _ _ _ _ _ _ (T21.setTop (mkF m 28 #[.val (.int u0), .val (.int u1), .val (.int ((u0 &&& (2147483647 : Int32)) % (6 : Int32))), .unset, .unset] [(.ref b17)]))
  refine Goes.of (fun t k => XS.dup X21.here hx rfl (hb hby at_28) rfl rfl k) ?_
  show Goes _ _ _ _ _ _ _ (T21.setTop (mkF m 29 #[.val (.int u0), .val (.int u1), .val (.int ((u0 &&& (2147483647 : Int32)) % (6 : Int32))), .unset, .unset] [(.ref b17), (.ref b17)]))
  refine Goes.of (fun t k => XS.iconst X21.here hx rfl (hb hby at_29) k) ?_
  show Goes _ _ _ _ _ _ _ (T21.setTop (mkF m 30 #[.val (.int u0), .val (.int u1), .val (.int ((u0 &&& (2147483647 : Int32)) % (6 : Int32))), .unset, .unset] [(.int (4 : Int32)), (.ref b17), (.ref b17)]))
  refine Goes.of (fun t k => XS.iconst X21.here hx rfl (hb hby at_30) k) ?_
  show Goes _ _ _ _ _ _ _ (T21.setTop (mkF m 31 #[.val (.int u0), .val (.int u1), .val (.int ((u0 &&& (2147483647 : Int32)) % (6 : Int32))), .unset, .unset] [(.int (4 : Int32)), (.int (4 : Int32)), (.ref b17), (.ref b17)]))
  obtain ⟨T22, h22, X22, e22, W22, V22, st22⟩ := putI X21 hx hZ e21 V21 (j := (4 : Int32)) (x := (4 : Int32)) (i := 4) (by decide) (by decide) (by decide) (g := (mkF m 31 #[.val (.int u0), .val (.int u1), .val (.int ((u0 &&& (2147483647 : Int32)) % (6 : Int32))), .unset, .unset] [(.int (4 : Int32)), (.int (4 : Int32)), (.ref b17), (.ref b17)])) rfl rfl (hb hby at_31)
  have Z22 : n0 ≤ h22.size := Nat.le_trans Z21 (Keep.of_wr W22).1
  have N22 := Fr.snoc X22 N21 g_b17
  refine Goes.of st22 ?_
  show Goes _ _ _ _ _ _ _ (T22.setTop (mkF m 32 #[.val (.int u0), .val (.int u1), .val (.int ((u0 &&& (2147483647 : Int32)) % (6 : Int32))), .unset, .unset] [(.ref b17)]))
  refine Goes.of (fun t k => XS.dup X22.here hx rfl (hb hby at_32) rfl rfl k) ?_
  show Goes _ _ _ _ _ _ _ (T22.setTop (mkF m 33 #[.val (.int u0), .val (.int u1), .val (.int ((u0 &&& (2147483647 : Int32)) % (6 : Int32))), .unset, .unset] [(.ref b17), (.ref b17)]))
  refine Goes.of (fun t k => XS.iconst X22.here hx rfl (hb hby at_33) k) ?_
  show Goes _ _ _ _ _ _ _ (T22.setTop (mkF m 34 #[.val (.int u0), .val (.int u1), .val (.int ((u0 &&& (2147483647 : Int32)) % (6 : Int32))), .unset, .unset] [(.int (5 : Int32)), (.ref b17), (.ref b17)]))
  refine Goes.of (fun t k => XS.bipush X22.here hx rfl (hb hby at_34) k) ?_
  show Goes _ _ _ _ _ _ _ (T22.setTop (mkF m 36 #[.val (.int u0), .val (.int u1), .val (.int ((u0 &&& (2147483647 : Int32)) % (6 : Int32))), .unset, .unset] [(.int (6 : Int32)), (.int (5 : Int32)), (.ref b17), (.ref b17)]))
  obtain ⟨T23, h23, X23, e23, W23, V23, st23⟩ := putI X22 hx hZ e22 V22 (j := (5 : Int32)) (x := (6 : Int32)) (i := 5) (by decide) (by decide) (by decide) (g := (mkF m 36 #[.val (.int u0), .val (.int u1), .val (.int ((u0 &&& (2147483647 : Int32)) % (6 : Int32))), .unset, .unset] [(.int (6 : Int32)), (.int (5 : Int32)), (.ref b17), (.ref b17)])) rfl rfl (hb hby at_36)
  have Z23 : n0 ≤ h23.size := Nat.le_trans Z22 (Keep.of_wr W23).1
  have N23 := Fr.snoc X23 N22 g_b17
  refine Goes.of st23 ?_
  show Goes _ _ _ _ _ _ _ (T23.setTop (mkF m 37 #[.val (.int u0), .val (.int u1), .val (.int ((u0 &&& (2147483647 : Int32)) % (6 : Int32))), .unset, .unset] [(.ref b17)]))
  refine Goes.of (fun t k => XS.astoreN X23.here hx rfl (hb hby at_37) rfl rfl (l' := #[.val (.int u0), .val (.int u1), .val (.int ((u0 &&& (2147483647 : Int32)) % (6 : Int32))), .val (.ref b17), .unset]) rfl k) ?_
  show Goes _ _ _ _ _ _ _ (T23.setTop (mkF m 38 #[.val (.int u0), .val (.int u1), .val (.int ((u0 &&& (2147483647 : Int32)) % (6 : Int32))), .val (.ref b17), .unset] []))
  refine Goes.of (fun t k => XS.aloadN X23.here hx rfl (hb hby at_38) rfl rfl k) ?_
  show Goes _ _ _ _ _ _ _ (T23.setTop (mkF m 39 #[.val (.int u0), .val (.int u1), .val (.int ((u0 &&& (2147483647 : Int32)) % (6 : Int32))), .val (.ref b17), .unset] [(.ref b17)]))
  refine Goes.of (fun t k => XS.iloadN X23.here hx rfl (hb hby at_39) rfl k) ?_
  show Goes _ _ _ _ _ _ _ (T23.setTop (mkF m 40 #[.val (.int u0), .val (.int u1), .val (.int ((u0 &&& (2147483647 : Int32)) % (6 : Int32))), .val (.ref b17), .unset] [(.int ((u0 &&& (2147483647 : Int32)) % (6 : Int32))), (.ref b17)]))
  refine Goes.of (fun t k => ldI X23 hx hZ e23 V23 (j := ((u0 &&& (2147483647 : Int32)) % (6 : Int32))) (i := (((u0 &&& (2147483647 : Int32)) % (6 : Int32))).toNatClampNeg) (v := ((upd (upd (upd (upd (upd (upd (fun _ => 0) 0 (2 : Int32)) 1 (5 : Int32)) 2 (1 : Int32)) 3 (3 : Int32)) 4 (4 : Int32)) 5 (6 : Int32)) (((u0 &&& (2147483647 : Int32)) % (6 : Int32))).toNatClampNeg)) (own_nn (own_six u0).1) rfl (own_ltn (own_six u0).1 (own_six u0).2) rfl (g := (mkF m 40 #[.val (.int u0), .val (.int u1), .val (.int ((u0 &&& (2147483647 : Int32)) % (6 : Int32))), .val (.ref b17), .unset] [(.int ((u0 &&& (2147483647 : Int32)) % (6 : Int32))), (.ref b17)])) rfl rfl (hb hby at_40) t k) ?_
  show Goes _ _ _ _ _ _ _ (T23.setTop (mkF m 41 #[.val (.int u0), .val (.int u1), .val (.int ((u0 &&& (2147483647 : Int32)) % (6 : Int32))), .val (.ref b17), .unset] [(.int ((upd (upd (upd (upd (upd (upd (fun _ => 0) 0 (2 : Int32)) 1 (5 : Int32)) 2 (1 : Int32)) 3 (3 : Int32)) 4 (4 : Int32)) 5 (6 : Int32)) (((u0 &&& (2147483647 : Int32)) % (6 : Int32))).toNatClampNeg))]))
  refine Goes.of (fun t k => XS.iloadN X23.here hx rfl (hb hby at_41) rfl k) ?_
  show Goes _ _ _ _ _ _ _ (T23.setTop (mkF m 42 #[.val (.int u0), .val (.int u1), .val (.int ((u0 &&& (2147483647 : Int32)) % (6 : Int32))), .val (.ref b17), .unset] [(.int u1), (.int ((upd (upd (upd (upd (upd (upd (fun _ => 0) 0 (2 : Int32)) 1 (5 : Int32)) 2 (1 : Int32)) 3 (3 : Int32)) 4 (4 : Int32)) 5 (6 : Int32)) (((u0 &&& (2147483647 : Int32)) % (6 : Int32))).toNatClampNeg))]))
  obtain ⟨_, _, ⟨T24, L24, k24, n24⟩, -, X24, ⟨Lc24, hQ24, l24, y24, z24⟩, st24⟩ := Jvm.LawKit.callS X23 hx (y := (⟨"com/example/dutiful_logic/dutifullogic/OpHoldsPinLaw", "signIndex", "(I)I"⟩ : MethodName)) hown (mvT hZ (hw _ (List.mem_of_getElem? (i := 2) rfl))) (mvT hZ (hw _ (List.mem_of_getElem? (i := 3) rfl))) (mvT hZ (hw _ (List.mem_of_getElem? (i := 4) rfl))) (mvT hZ (hw _ (List.mem_of_getElem? (i := 5) rfl))) (by decide) (backOf (W := 1) (rm1 l Z a0 hw [] u1  h23 n0 ) hZ (hw _ (List.mem_of_getElem? (i := 5) rfl)) (hw _ (List.mem_of_getElem? (i := 4) rfl)) (by decide) (by decide)) (g := (mkF m 42 #[.val (.int u0), .val (.int u1), .val (.int ((u0 &&& (2147483647 : Int32)) % (6 : Int32))), .val (.ref b17), .unset] [(.int u1), (.int ((upd (upd (upd (upd (upd (upd (fun _ => 0) 0 (2 : Int32)) 1 (5 : Int32)) 2 (1 : Int32)) 3 (3 : Int32)) 4 (4 : Int32)) 5 (6 : Int32)) (((u0 &&& (2147483647 : Int32)) % (6 : Int32))).toNatClampNeg))])) rfl (by rw [hml]; rfl) (argsL := [(.int u1)]) (rest := [(.int ((upd (upd (upd (upd (upd (upd (fun _ => 0) 0 (2 : Int32)) 1 (5 : Int32)) 2 (1 : Int32)) 3 (3 : Int32)) 4 (4 : Int32)) 5 (6 : Int32)) (((u0 &&& (2147483647 : Int32)) % (6 : Int32))).toNatClampNeg))]) (lenOf pd_0 rfl) rfl (by show 2 * 0 + _ ≤ _; exact Nat.le_of_eq rfl) (hb hby at_42) (fun _ _ => ⟨rfl, e23, (by decide : 1 + 0 ≤ _), (by decide : 6 + 0 ≤ _)⟩)
  dsimp only [Pt.U, Pt.locs, Pt.cells, Pt.slots] at X24 l24 y24 z24 st24 hQ24
  subst l24 y24 z24
  obtain ⟨rfl, N24q, e24⟩ := hQ24
  have N24 := Fr.app N23 N24q
  refine Goes.of st24 ?_
  show Goes _ _ _ _ _ _ _ (T24.setTop (mkF m 45 #[.val (.int u0), .val (.int u1), .val (.int ((u0 &&& (2147483647 : Int32)) % (6 : Int32))), .val (.ref b17), .unset] [(.int (f1 u1)), (.int ((upd (upd (upd (upd (upd (upd (fun _ => 0) 0 (2 : Int32)) 1 (5 : Int32)) 2 (1 : Int32)) 3 (3 : Int32)) 4 (4 : Int32)) 5 (6 : Int32)) (((u0 &&& (2147483647 : Int32)) % (6 : Int32))).toNatClampNeg))]))
  refine Goes.of (fun t k => XS.ishr X24.here hx rfl (hb hby at_45) rfl k) ?_
  show Goes _ _ _ _ _ _ _ (T24.setTop (mkF m 46 #[.val (.int u0), .val (.int u1), .val (.int ((u0 &&& (2147483647 : Int32)) % (6 : Int32))), .val (.ref b17), .unset] [(.int (((upd (upd (upd (upd (upd (upd (fun _ => 0) 0 (2 : Int32)) 1 (5 : Int32)) 2 (1 : Int32)) 3 (3 : Int32)) 4 (4 : Int32)) 5 (6 : Int32)) (((u0 &&& (2147483647 : Int32)) % (6 : Int32))).toNatClampNeg) >>> ((f1 u1) &&& 31)))]))
  refine Goes.of (fun t k => XS.iconst X24.here hx rfl (hb hby at_46) k) ?_
  show Goes _ _ _ _ _ _ _ (T24.setTop (mkF m 47 #[.val (.int u0), .val (.int u1), .val (.int ((u0 &&& (2147483647 : Int32)) % (6 : Int32))), .val (.ref b17), .unset] [(.int (1 : Int32)), (.int (((upd (upd (upd (upd (upd (upd (fun _ => 0) 0 (2 : Int32)) 1 (5 : Int32)) 2 (1 : Int32)) 3 (3 : Int32)) 4 (4 : Int32)) 5 (6 : Int32)) (((u0 &&& (2147483647 : Int32)) % (6 : Int32))).toNatClampNeg) >>> ((f1 u1) &&& 31)))]))
  refine Goes.of (fun t k => XS.iand X24.here hx rfl (hb hby at_47) rfl k) ?_
  show Goes _ _ _ _ _ _ _ (T24.setTop (mkF m 48 #[.val (.int u0), .val (.int u1), .val (.int ((u0 &&& (2147483647 : Int32)) % (6 : Int32))), .val (.ref b17), .unset] [(.int ((((upd (upd (upd (upd (upd (upd (fun _ => 0) 0 (2 : Int32)) 1 (5 : Int32)) 2 (1 : Int32)) 3 (3 : Int32)) 4 (4 : Int32)) 5 (6 : Int32)) (((u0 &&& (2147483647 : Int32)) % (6 : Int32))).toNatClampNeg) >>> ((f1 u1) &&& 31)) &&& (1 : Int32)))]))
  by_cases hc25 : ((((upd (upd (upd (upd (upd (upd (fun _ => 0) 0 (2 : Int32)) 1 (5 : Int32)) 2 (1 : Int32)) 3 (3 : Int32)) 4 (4 : Int32)) 5 (6 : Int32)) (((u0 &&& (2147483647 : Int32)) % (6 : Int32))).toNatClampNeg) >>> ((f1 u1) &&& 31)) &&& (1 : Int32)) = (0 : Int32)
  · refine Goes.of (fun t k => XS.ifYes X24.here hx rfl (pc0 := 48) (pc' := 55) rfl (hb hby at_48) rfl ((if0 _ _).trans (teq hc25).1) (by decide) (by decide) k) ?_
    show Goes _ _ _ _ _ _ _ (T24.setTop (mkF m 55 #[.val (.int u0), .val (.int u1), .val (.int ((u0 &&& (2147483647 : Int32)) % (6 : Int32))), .val (.ref b17), .unset] []))
    refine Goes.of (fun t k => XS.iconst X24.here hx rfl (hb hby at_55) k) ?_
    show Goes _ _ _ _ _ _ _ (T24.setTop (mkF m 56 #[.val (.int u0), .val (.int u1), .val (.int ((u0 &&& (2147483647 : Int32)) % (6 : Int32))), .val (.ref b17), .unset] [(.int (0 : Int32))]))
    refine Goes.of (fun t k => XS.istore X24.here hx rfl (hb hby at_56) rfl (l' := #[.val (.int u0), .val (.int u1), .val (.int ((u0 &&& (2147483647 : Int32)) % (6 : Int32))), .val (.ref b17), .val (.int (0 : Int32))]) rfl k) ?_
    show Goes _ _ _ _ _ _ _ (T24.setTop (mkF m 58 #[.val (.int u0), .val (.int u1), .val (.int ((u0 &&& (2147483647 : Int32)) % (6 : Int32))), .val (.ref b17), .val (.int (0 : Int32))] []))
    refine Goes.of (fun t k => XS.iloadN X24.here hx rfl (hb hby at_58) rfl k) ?_
    show Goes _ _ _ _ _ _ _ (T24.setTop (mkF m 59 #[.val (.int u0), .val (.int u1), .val (.int ((u0 &&& (2147483647 : Int32)) % (6 : Int32))), .val (.ref b17), .val (.int (0 : Int32))] [(.int ((u0 &&& (2147483647 : Int32)) % (6 : Int32)))]))
    refine Goes.of (fun t k => XS.iloadN X24.here hx rfl (hb hby at_59) rfl k) ?_
    show Goes _ _ _ _ _ _ _ (T24.setTop (mkF m 60 #[.val (.int u0), .val (.int u1), .val (.int ((u0 &&& (2147483647 : Int32)) % (6 : Int32))), .val (.ref b17), .val (.int (0 : Int32))] [(.int u1), (.int ((u0 &&& (2147483647 : Int32)) % (6 : Int32)))]))
    obtain ⟨_, _, ⟨T26, L26, k26, n26⟩, -, X26, ⟨Lc26, hQ26, l26, y26, z26⟩, st26⟩ := Jvm.LawKit.callS X24 hx (y := (⟨"com/example/dutiful_logic/dutifullogic/Op", "holds", "(II)Z"⟩ : MethodName)) hown (mvT hZ (hw _ (List.mem_of_getElem? (i := 6) rfl))) (mvT hZ (hw _ (List.mem_of_getElem? (i := 7) rfl))) (mvT hZ (hw _ (List.mem_of_getElem? (i := 8) rfl))) (mvT hZ (hw _ (List.mem_of_getElem? (i := 9) rfl))) (by decide) (backOf (W := 0) (rm2 l Z a0 hw [] ((u0 &&& (2147483647 : Int32)) % (6 : Int32)) u1  h23 n0 ) hZ (hw _ (List.mem_of_getElem? (i := 9) rfl)) (hw _ (List.mem_of_getElem? (i := 8) rfl)) (by decide) (by decide)) (g := (mkF m 60 #[.val (.int u0), .val (.int u1), .val (.int ((u0 &&& (2147483647 : Int32)) % (6 : Int32))), .val (.ref b17), .val (.int (0 : Int32))] [(.int u1), (.int ((u0 &&& (2147483647 : Int32)) % (6 : Int32)))])) rfl (by rw [hml]; rfl) (argsL := [(.int ((u0 &&& (2147483647 : Int32)) % (6 : Int32))), (.int u1)]) (rest := []) (lenOf pd_1 rfl) rfl (by show 2 * 0 + _ ≤ _; exact Nat.le_of_eq rfl) (hb hby at_60) (fun _ _ => ⟨rfl, e24, (by decide : 1 + 0 ≤ _), (by decide : 6 + 0 ≤ _)⟩)
    dsimp only [Pt.U, Pt.locs, Pt.cells, Pt.slots] at X26 l26 y26 z26 st26 hQ26
    subst l26 y26 z26
    obtain ⟨rfl, N26q, e26⟩ := hQ26
    have N26 := Fr.app N24 N26q
    refine Goes.of st26 ?_
    show Goes _ _ _ _ _ _ _ (T26.setTop (mkF m 63 #[.val (.int u0), .val (.int u1), .val (.int ((u0 &&& (2147483647 : Int32)) % (6 : Int32))), .val (.ref b17), .val (.int (0 : Int32))] [(.int (f2 ((u0 &&& (2147483647 : Int32)) % (6 : Int32)) u1))]))
    refine Goes.of (fun t k => XS.iload X26.here hx rfl (hb hby at_63) rfl k) ?_
    show Goes _ _ _ _ _ _ _ (T26.setTop (mkF m 65 #[.val (.int u0), .val (.int u1), .val (.int ((u0 &&& (2147483647 : Int32)) % (6 : Int32))), .val (.ref b17), .val (.int (0 : Int32))] [(.int (0 : Int32)), (.int (f2 ((u0 &&& (2147483647 : Int32)) % (6 : Int32)) u1))]))
    by_cases hc27 : (f2 ((u0 &&& (2147483647 : Int32)) % (6 : Int32)) u1) = (0 : Int32)
    · refine Goes.of (fun t k => XS.icmpNo X26.here hx rfl (hb hby at_65) rfl (teq hc27).2 k) ?_
      show Goes _ _ _ _ _ _ _ (T26.setTop (mkF m 68 #[.val (.int u0), .val (.int u1), .val (.int ((u0 &&& (2147483647 : Int32)) % (6 : Int32))), .val (.ref b17), .val (.int (0 : Int32))] []))
      refine Goes.of (fun t k => XS.iconst X26.here hx rfl (hb hby at_68) k) ?_
      show Goes _ _ _ _ _ _ _ (T26.setTop (mkF m 69 #[.val (.int u0), .val (.int u1), .val (.int ((u0 &&& (2147483647 : Int32)) % (6 : Int32))), .val (.ref b17), .val (.int (0 : Int32))] [(.int (1 : Int32))]))
      refine Goes.of (fun t k => XS.goto X26.here hx rfl (pc0 := 69) (pc' := 73) rfl (hb hby at_69) (by decide) (by decide) k) ?_
      show Goes _ _ _ _ _ _ _ (T26.setTop (mkF m 73 #[.val (.int u0), .val (.int u1), .val (.int ((u0 &&& (2147483647 : Int32)) % (6 : Int32))), .val (.ref b17), .val (.int (0 : Int32))] [(.int (1 : Int32))]))
      exact Goes.fin X26 hlk (v := some (.int (1 : Int32))) (fun h => by rw [Bd.returns] at h; cases h) (fun fs hr => retN X26 hx (t := .boolean) Bd.returns (by simp) (hb hby at_73) hr) ⟨congrArg (fun z => some (Value.int z)) (by rw [f0, if_pos hc25, if_pos hc27] : (1 : Int32) = f0 u0 u1), N26⟩ (by decide) (by decide)
    · refine Goes.of (fun t k => XS.icmpYes X26.here hx rfl (pc0 := 65) (pc' := 72) rfl (hb hby at_65) rfl (feq hc27).2 (by decide) (by decide) k) ?_
      show Goes _ _ _ _ _ _ _ (T26.setTop (mkF m 72 #[.val (.int u0), .val (.int u1), .val (.int ((u0 &&& (2147483647 : Int32)) % (6 : Int32))), .val (.ref b17), .val (.int (0 : Int32))] []))
      refine Goes.of (fun t k => XS.iconst X26.here hx rfl (hb hby at_72) k) ?_
      show Goes _ _ _ _ _ _ _ (T26.setTop (mkF m 73 #[.val (.int u0), .val (.int u1), .val (.int ((u0 &&& (2147483647 : Int32)) % (6 : Int32))), .val (.ref b17), .val (.int (0 : Int32))] [(.int (0 : Int32))]))
      exact Goes.fin X26 hlk (v := some (.int (0 : Int32))) (fun h => by rw [Bd.returns] at h; cases h) (fun fs hr => retN X26 hx (t := .boolean) Bd.returns (by simp) (hb hby at_73) hr) ⟨congrArg (fun z => some (Value.int z)) (by rw [f0, if_pos hc25, if_neg hc27] : (0 : Int32) = f0 u0 u1), N26⟩ (by decide) (by decide)
  · refine Goes.of (fun t k => XS.ifNo X24.here hx rfl (hb hby at_48) rfl ((if0 _ _).trans (feq hc25).1) k) ?_
    show Goes _ _ _ _ _ _ _ (T24.setTop (mkF m 51 #[.val (.int u0), .val (.int u1), .val (.int ((u0 &&& (2147483647 : Int32)) % (6 : Int32))), .val (.ref b17), .unset] []))
    refine Goes.of (fun t k => XS.iconst X24.here hx rfl (hb hby at_51) k) ?_
    show Goes _ _ _ _ _ _ _ (T24.setTop (mkF m 52 #[.val (.int u0), .val (.int u1), .val (.int ((u0 &&& (2147483647 : Int32)) % (6 : Int32))), .val (.ref b17), .unset] [(.int (1 : Int32))]))
    refine Goes.of (fun t k => XS.goto X24.here hx rfl (pc0 := 52) (pc' := 56) rfl (hb hby at_52) (by decide) (by decide) k) ?_
    show Goes _ _ _ _ _ _ _ (T24.setTop (mkF m 56 #[.val (.int u0), .val (.int u1), .val (.int ((u0 &&& (2147483647 : Int32)) % (6 : Int32))), .val (.ref b17), .unset] [(.int (1 : Int32))]))
    refine Goes.of (fun t k => XS.istore X24.here hx rfl (hb hby at_56) rfl (l' := #[.val (.int u0), .val (.int u1), .val (.int ((u0 &&& (2147483647 : Int32)) % (6 : Int32))), .val (.ref b17), .val (.int (1 : Int32))]) rfl k) ?_
    show Goes _ _ _ _ _ _ _ (T24.setTop (mkF m 58 #[.val (.int u0), .val (.int u1), .val (.int ((u0 &&& (2147483647 : Int32)) % (6 : Int32))), .val (.ref b17), .val (.int (1 : Int32))] []))
    refine Goes.of (fun t k => XS.iloadN X24.here hx rfl (hb hby at_58) rfl k) ?_
    show Goes _ _ _ _ _ _ _ (T24.setTop (mkF m 59 #[.val (.int u0), .val (.int u1), .val (.int ((u0 &&& (2147483647 : Int32)) % (6 : Int32))), .val (.ref b17), .val (.int (1 : Int32))] [(.int ((u0 &&& (2147483647 : Int32)) % (6 : Int32)))]))
    refine Goes.of (fun t k => XS.iloadN X24.here hx rfl (hb hby at_59) rfl k) ?_
    show Goes _ _ _ _ _ _ _ (T24.setTop (mkF m 60 #[.val (.int u0), .val (.int u1), .val (.int ((u0 &&& (2147483647 : Int32)) % (6 : Int32))), .val (.ref b17), .val (.int (1 : Int32))] [(.int u1), (.int ((u0 &&& (2147483647 : Int32)) % (6 : Int32)))]))
    obtain ⟨_, _, ⟨T28, L28, k28, n28⟩, -, X28, ⟨Lc28, hQ28, l28, y28, z28⟩, st28⟩ := Jvm.LawKit.callS X24 hx (y := (⟨"com/example/dutiful_logic/dutifullogic/Op", "holds", "(II)Z"⟩ : MethodName)) hown (mvT hZ (hw _ (List.mem_of_getElem? (i := 6) rfl))) (mvT hZ (hw _ (List.mem_of_getElem? (i := 7) rfl))) (mvT hZ (hw _ (List.mem_of_getElem? (i := 8) rfl))) (mvT hZ (hw _ (List.mem_of_getElem? (i := 9) rfl))) (by decide) (backOf (W := 0) (rm2 l Z a0 hw [] ((u0 &&& (2147483647 : Int32)) % (6 : Int32)) u1  h23 n0 ) hZ (hw _ (List.mem_of_getElem? (i := 9) rfl)) (hw _ (List.mem_of_getElem? (i := 8) rfl)) (by decide) (by decide)) (g := (mkF m 60 #[.val (.int u0), .val (.int u1), .val (.int ((u0 &&& (2147483647 : Int32)) % (6 : Int32))), .val (.ref b17), .val (.int (1 : Int32))] [(.int u1), (.int ((u0 &&& (2147483647 : Int32)) % (6 : Int32)))])) rfl (by rw [hml]; rfl) (argsL := [(.int ((u0 &&& (2147483647 : Int32)) % (6 : Int32))), (.int u1)]) (rest := []) (lenOf pd_1 rfl) rfl (by show 2 * 0 + _ ≤ _; exact Nat.le_of_eq rfl) (hb hby at_60) (fun _ _ => ⟨rfl, e24, (by decide : 1 + 0 ≤ _), (by decide : 6 + 0 ≤ _)⟩)
    dsimp only [Pt.U, Pt.locs, Pt.cells, Pt.slots] at X28 l28 y28 z28 st28 hQ28
    subst l28 y28 z28
    obtain ⟨rfl, N28q, e28⟩ := hQ28
    have N28 := Fr.app N24 N28q
    refine Goes.of st28 ?_
    show Goes _ _ _ _ _ _ _ (T28.setTop (mkF m 63 #[.val (.int u0), .val (.int u1), .val (.int ((u0 &&& (2147483647 : Int32)) % (6 : Int32))), .val (.ref b17), .val (.int (1 : Int32))] [(.int (f2 ((u0 &&& (2147483647 : Int32)) % (6 : Int32)) u1))]))
    refine Goes.of (fun t k => XS.iload X28.here hx rfl (hb hby at_63) rfl k) ?_
    show Goes _ _ _ _ _ _ _ (T28.setTop (mkF m 65 #[.val (.int u0), .val (.int u1), .val (.int ((u0 &&& (2147483647 : Int32)) % (6 : Int32))), .val (.ref b17), .val (.int (1 : Int32))] [(.int (1 : Int32)), (.int (f2 ((u0 &&& (2147483647 : Int32)) % (6 : Int32)) u1))]))
    by_cases hc29 : (f2 ((u0 &&& (2147483647 : Int32)) % (6 : Int32)) u1) = (1 : Int32)
    · refine Goes.of (fun t k => XS.icmpNo X28.here hx rfl (hb hby at_65) rfl (teq hc29).2 k) ?_
      show Goes _ _ _ _ _ _ _ (T28.setTop (mkF m 68 #[.val (.int u0), .val (.int u1), .val (.int ((u0 &&& (2147483647 : Int32)) % (6 : Int32))), .val (.ref b17), .val (.int (1 : Int32))] []))
      refine Goes.of (fun t k => XS.iconst X28.here hx rfl (hb hby at_68) k) ?_
      show Goes _ _ _ _ _ _ _ (T28.setTop (mkF m 69 #[.val (.int u0), .val (.int u1), .val (.int ((u0 &&& (2147483647 : Int32)) % (6 : Int32))), .val (.ref b17), .val (.int (1 : Int32))] [(.int (1 : Int32))]))
      refine Goes.of (fun t k => XS.goto X28.here hx rfl (pc0 := 69) (pc' := 73) rfl (hb hby at_69) (by decide) (by decide) k) ?_
      show Goes _ _ _ _ _ _ _ (T28.setTop (mkF m 73 #[.val (.int u0), .val (.int u1), .val (.int ((u0 &&& (2147483647 : Int32)) % (6 : Int32))), .val (.ref b17), .val (.int (1 : Int32))] [(.int (1 : Int32))]))
      exact Goes.fin X28 hlk (v := some (.int (1 : Int32))) (fun h => by rw [Bd.returns] at h; cases h) (fun fs hr => retN X28 hx (t := .boolean) Bd.returns (by simp) (hb hby at_73) hr) ⟨congrArg (fun z => some (Value.int z)) (by rw [f0, if_neg hc25, if_pos hc29] : (1 : Int32) = f0 u0 u1), N28⟩ (by decide) (by decide)
    · refine Goes.of (fun t k => XS.icmpYes X28.here hx rfl (pc0 := 65) (pc' := 72) rfl (hb hby at_65) rfl (feq hc29).2 (by decide) (by decide) k) ?_
      show Goes _ _ _ _ _ _ _ (T28.setTop (mkF m 72 #[.val (.int u0), .val (.int u1), .val (.int ((u0 &&& (2147483647 : Int32)) % (6 : Int32))), .val (.ref b17), .val (.int (1 : Int32))] []))
      refine Goes.of (fun t k => XS.iconst X28.here hx rfl (hb hby at_72) k) ?_
      show Goes _ _ _ _ _ _ _ (T28.setTop (mkF m 73 #[.val (.int u0), .val (.int u1), .val (.int ((u0 &&& (2147483647 : Int32)) % (6 : Int32))), .val (.ref b17), .val (.int (1 : Int32))] [(.int (0 : Int32))]))
      exact Goes.fin X28 hlk (v := some (.int (0 : Int32))) (fun h => by rw [Bd.returns] at h; cases h) (fun fs hr => retN X28 hx (t := .boolean) Bd.returns (by simp) (hb hby at_73) hr) ⟨congrArg (fun z => some (Value.int z)) (by rw [f0, if_neg hc25, if_neg hc29] : (0 : Int32) = f0 u0 u1), N28⟩ (by decide) (by decide)
theorem own_sign (o : Int32) : (o < 0 ∧ ¬ o = 0 ∧ ¬ (0 : Int32) < o ∧ f1 o = 0) ∨ (¬ o < 0 ∧ o = 0 ∧ ¬ (0 : Int32) < o ∧ f1 o = 1) ∨ (¬ o < 0 ∧ ¬ o = 0 ∧ (0 : Int32) < o ∧ f1 o = 2) := by
  have z : (0 : Int32).toInt = 0 := rfl
  by_cases h : o < 0
  · left
    refine ⟨h, fun q => ?_, ?_, by rw [f1, if_pos h]⟩
    · subst q; exact absurd h (by decide)
    · rw [Int32.lt_iff_toInt_lt] at h ⊢; omega
  · by_cases h' : o = 0
    · right; left
      exact ⟨h, h', by rw [h']; decide, by rw [f1, if_neg h, if_pos h']⟩
    · right; right
      refine ⟨h, h', ?_, by rw [f1, if_neg h, if_neg h']⟩
      have : o.toInt ≠ 0 := fun q => h' (Int32.toInt_inj.mp (q.trans z.symm))
      rw [Int32.lt_iff_toInt_lt] at h ⊢; omega
theorem own_law (u0 u1 : Int32) : f0 u0 u1 = 1 := by
  have h6 := own_six u0
  unfold f0
  generalize (u0 &&& (2147483647 : Int32)) % (6 : Int32) = T at h6 ⊢
  have hT : T = 0 ∨ T = 1 ∨ T = 2 ∨ T = 3 ∨ T = 4 ∨ T = 5 := by
    simp only [← Int32.toInt_inj, Int32.reduceToInt]
    omega
  rcases own_sign u1 with ⟨a, b, c, e⟩ | ⟨a, b, c, e⟩ | ⟨a, b, c, e⟩ <;> rcases hT with rfl | rfl | rfl | rfl | rfl | rfl <;>
    simp +decide only [e, f2, a, b, c, if_true, if_false, not_true, not_false_eq_true]
set_option maxRecDepth 65536 in
set_option maxHeartbeats 40000000 in
theorem comes_1 {Post : Tables → Env → Array Value → State → Outcome → State → Prop} (hpost : ∀ tb e args s v u, (limb_1_1.after args s (.returned v) u = true ∧ limb_1_2.after args s (.returned v) u = true ∧ True) → FrameEnd s (.returned v) u (Jvm.fieldLocs frame_1_writes args s ++ Jvm.arrayLocs frame_1_arrays args s ++ Jvm.staticLocs frame_1_statics s) 16 128 → Post tb e args s (.returned v) u) :
    ArmFor flags0 classFile x code maxLocals ret World_1 tables_1 room_1 Calls_1 rest_1 Pre_1 Post := by
  intro l hfl _ _ p e ha hc hk s m args below hf hA hF happ hP
  obtain ⟨hcalls, hrest, hpre⟩ := hP
  obtain ⟨-, -, -, hnamed, -, -, -, hat⟩ := (Spec.applies_iff hf).mp happ
  obtain ⟨hg, hn⟩ := and_e (Cond.before_iff.mp (show (Jvm.Cond.and given_1 narrow_1).before args s = true from hpre))
  obtain ⟨g30, g31⟩ := and_e hg
  obtain ⟨g32, g33⟩ := and_e g31
  obtain ⟨w0, w1, rfl⟩ : ∃ w0 w1 : Value, args = #[w0, w1] := by
    have hs : args.size = 2 := by simpa [Cond.value, given_1] using g30
    obtain ⟨L⟩ := args
    match L, hs with
    | [w0, w1], _ => exact ⟨w0, w1, rfl⟩
  have hw := fun d (hd : d ∈ tables_1) => atoms_spec (ws := Jvm.Cond.code x code maxLocals ret :: tables_1) hat d (List.mem_cons_of_mem _ hd)
  obtain ⟨i0, ei0⟩ := is_v g32
  obtain rfl : w0 = (.int i0) := Option.some.inj ei0
  obtain ⟨i1, ei1⟩ := is_v g33
  obtain rfl : w1 = (.int i1) := Option.some.inj ei1
  obtain ⟨n, o, h1, h2, h3, _, L, rfl, ⟨rfl, N⟩, hq⟩ := rm0 l s _ hw tables_1 i0 i1 s.heap s.heap.size (Nat.le_refl _) p e ha hc hk s m _ below hf ((Spec.applies_iff_loose hf).mp happ).1 ⟨rfl, State.Warmed39.refl s, rfl⟩ trivial
  exact ⟨n, _, h1, h2, h3, hpost _ _ _ _ _ _ ⟨Cond.after_iff.mpr rfl, Cond.after_iff.mpr (eq_i res_at (Term.int_eval (1)) (congrArg Value.int (own_law i0 i1))), trivial⟩ ⟨hq.1, hq.2.1, (hq.2.2.sift fun y hy => Or.inr (N y hy)).mono (by decide) (by decide)⟩⟩
theorem main_1_1 : Claimed_1_1 := comes_1 fun _ _ _ _ _ _ h hF => ⟨h.1, hF⟩
theorem main_1_2 : Claimed_1_2 := comes_1 fun _ _ _ _ _ _ h hF => ⟨h.2.1, hF⟩
end Jvm.Pilot.@@N@@
namespace Jvm.Pilot.@@N@@
open Jvm Jvm.ClassFile Sem Op Lib Jvm.Free Jvm.Stand Jvm.Pilot.@@N@@.Jvm.D
/-! MADE BY PROGRAM (witnessworld.py) out of the Statement's table words and the real class files: 9 classes; the members and pool entries that the words name. The judged class is class 1, her method 2. -/
namespace start1
open Jvm.ClassFile
def u (s : String) : CpInfo := .utf8 (stringToUtf16 s)
/-- a pool by its gaps: so many unusable entries, then the entry; so many at the end -/
def gap : Nat → List CpInfo → List CpInfo
  | 0, r => r
  | n + 1, r => .unusable :: gap n r
def poolList (es : List (Nat × CpInfo)) (last : Nat) : List CpInfo := es.foldr (fun e r => gap e.1 (e.2 :: r)) (gap last [])
def pool (es : List (Nat × CpInfo)) (last : Nat) : Array CpInfo := ⟨poolList es last⟩
def fileOf (pool : Array CpInfo) (this : Nat) (attrs : Array Attribute := #[]) (ms : Array MethodInfo := #[]) (fl : Nat := 33) (sup : Nat := 0) (ifs : Array Nat := #[]) (fds : Array FieldInfo := #[]) : ClassFile where
  minorVersion := 0
  majorVersion := 65
  constantPool := pool
  accessFlags := fl
  thisClass := this
  superClass := sup
  interfaces := ifs
  fields := fds
  methods := ms
  attributes := attrs
def plain (name : String) (sup : Option ClassId) : Class where
  name := name
  kind := .ordinary
  loader := none
  accessFlags := 33
  super := sup
  interfaces := #[]
  cf := none
  fields := #[]
  methods := #[]
  instanceTypes := #[]
  staticTypes := #[]
  resolved := #[]
  callSites := []
  init := .initialized
  statics := none
  mirror := none

def pool0 : Array CpInfo := pool [(5, u "<init>"), (0, u "()V"), (1, .class_ 10), (1, u "java/lang/Object")] 113

def k0m0 : Method := { name := "<init>", desc := "()V", sig := { parameters := [], returnType := none }, accessFlags := 1, code := none }
/-- java/lang/Object -/
def k0 : Class := { plain "java/lang/Object" none with
  accessFlags := 33
  interfaces := #[]
  cf := some (fileOf pool0 8 #[] #[{ accessFlags := 1, nameIndex := 5, descriptorIndex := 6, attributes := #[] }] 33 0 #[] #[])
  fields := #[]
  methods := #[k0m0]
  instanceTypes := #[]
  staticTypes := #[]
  resolved := Array.replicate 124 none
  statics := none }

def pool1 : Array CpInfo := pool [(2, .class_ 4), (1, u "java/lang/Object"), (0, u "<init>"), (0, u "()V"), (0, .integer 2147483647), (0, .methodref 9 10), (0, .class_ 11), (0, .nameAndType 12 13), (0, u "com/example/dutiful_logic/dutifullogic/OpHoldsPinLaw"), (0, u "signIndex"), (0, u "(I)I"), (0, .methodref 15 16), (0, .class_ 17), (0, .nameAndType 18 19), (0, u "com/example/dutiful_logic/dutifullogic/Op"), (0, u "holds"), (0, u "(II)Z"), (3, u "law")] 4

def k1m0 : Method := { name := "<init>", desc := "()V", sig := { parameters := [], returnType := none }, accessFlags := 1, code := none }
def k1c1 : Code := { maxStack := 1, maxLocals := 2, code := method_2_code, exceptionTable := #[], attributes := #[] }
def k1m1 : Method := { name := "signIndex", desc := "(I)I", sig := { parameters := [.int], returnType := some .int }, accessFlags := 10, code := some k1c1 }
def k1c2 : Code := { maxStack := 4, maxLocals := 5, code := code, exceptionTable := #[], attributes := #[] }
def k1m2 : Method := { name := "law", desc := "(II)Z", sig := { parameters := [.int, .int], returnType := some .boolean }, accessFlags := 9, code := some k1c2 }
/-- com/example/dutiful_logic/dutifullogic/OpHoldsPinLaw -/
def k1 : Class := { plain "com/example/dutiful_logic/dutifullogic/OpHoldsPinLaw" (some 0) with
  accessFlags := 49
  interfaces := #[]
  cf := some (fileOf pool1 9 #[] #[{ accessFlags := 1, nameIndex := 5, descriptorIndex := 6, attributes := #[] }, { accessFlags := 10, nameIndex := 12, descriptorIndex := 13, attributes := #[] }, { accessFlags := 9, nameIndex := 23, descriptorIndex := 19, attributes := #[] }] 49 2 #[] #[])
  fields := #[]
  methods := #[k1m0, k1m1, k1m2]
  instanceTypes := #[]
  staticTypes := #[]
  resolved := Array.replicate 28 none
  statics := none }

def pool2 : Array CpInfo := pool [(2, .class_ 4), (1, u "java/lang/Object"), (0, u "<init>"), (0, u "()V"), (0, .class_ 8), (0, u "com/example/dutiful_logic/dutifullogic/Op"), (0, u "GET_X_VAR"), (0, u "I"), (2, u "GET_Y_VAR"), (1, u "GET_X_VAL"), (1, u "GET_Y_VAL"), (1, u "GET_CONST"), (1, u "GET_STRUCT"), (1, u "GET_LIST"), (1, u "UNIFY_X_VAR"), (1, u "UNIFY_Y_VAR"), (1, u "UNIFY_X_VAL"), (1, u "UNIFY_Y_VAL"), (1, u "UNIFY_CONST"), (1, u "UNIFY_VOID"), (1, u "PUT_X_VAR"), (1, u "PUT_Y_VAR"), (1, u "PUT_X_VAL"), (1, u "PUT_Y_VAL"), (1, u "PUT_CONST"), (1, u "PUT_VOID"), (1, u "PUT_STRUCT"), (1, u "PUT_LIST"), (1, u "INIT_Y"), (1, u "ALLOCATE"), (1, u "DEALLOCATE"), (1, u "CALL"), (1, u "EXECUTE"), (1, u "PROCEED"), (1, u "FAIL"), (1, u "GET_LEVEL"), (1, u "SAVE_B"), (1, u "CUT"), (1, u "CUT_Y"), (1, u "TRY_ELSE"), (1, u "JUMP"), (1, u "UNIFY_XX"), (1, u "TEST"), (1, u "COMPARE"), (1, u "EVAL"), (1, u "ARITH2"), (1, u "ARITH1"), (1, u "ARITH_COMPARE"), (1, u "STOP"), (1, u "META_CALL"), (1, u "CATCH_ENTER"), (1, u "CATCH_EXIT"), (1, u "SOLUTION"), (1, u "META_EXECUTE"), (1, u "TEST_VAR"), (0, u "TEST_NONVAR"), (0, u "TEST_ATOM"), (0, u "TEST_INTEGER"), (0, u "TEST_FLOAT"), (0, u "TEST_NUMBER"), (0, u "TEST_ATOMIC"), (0, u "TEST_COMPOUND"), (0, u "TEST_CALLABLE"), (0, u "ORDER_EQUAL"), (0, u "ORDER_NOT_EQUAL"), (0, u "ORDER_LESS"), (0, u "ORDER_NOT_GREATER"), (0, u "ORDER_GREATER"), (0, u "ORDER_NOT_LESS"), (0, u "FN_ADD"), (0, u "FN_SUBTRACT"), (0, u "FN_MULTIPLY"), (0, u "FN_OTHER"), (0, u "FN_QUOTIENT"), (0, u "FN_REMAINDER"), (0, u "FN_MODULO"), (0, u "FN_FLOOR_QUOTIENT"), (0, u "FN_MIN"), (0, u "FN_MAX"), (0, u "FN_AND"), (0, u "FN_OR"), (5, u "holds"), (0, u "(II)Z")] 2

def k2m0 : Method := { name := "<init>", desc := "()V", sig := { parameters := [], returnType := none }, accessFlags := 2, code := none }
def k2c1 : Code := { maxStack := 1, maxLocals := 3, code := prog_78_method_3_code, exceptionTable := #[], attributes := #[] }
def k2m1 : Method := { name := "holds", desc := "(II)Z", sig := { parameters := [.int, .int], returnType := some .boolean }, accessFlags := 8, code := some k2c1 }
/-- com/example/dutiful_logic/dutifullogic/Op -/
def k2 : Class := { plain "com/example/dutiful_logic/dutifullogic/Op" (some 0) with
  accessFlags := 32
  interfaces := #[]
  cf := some (fileOf pool2 7 #[] #[{ accessFlags := 2, nameIndex := 5, descriptorIndex := 6, attributes := #[] }, { accessFlags := 8, nameIndex := 137, descriptorIndex := 138, attributes := #[] }] 32 2 #[] #[{ accessFlags := 24, nameIndex := 9, descriptorIndex := 10, attributes := #[] }, { accessFlags := 24, nameIndex := 13, descriptorIndex := 10, attributes := #[] }, { accessFlags := 24, nameIndex := 15, descriptorIndex := 10, attributes := #[] }, { accessFlags := 24, nameIndex := 17, descriptorIndex := 10, attributes := #[] }, { accessFlags := 24, nameIndex := 19, descriptorIndex := 10, attributes := #[] }, { accessFlags := 24, nameIndex := 21, descriptorIndex := 10, attributes := #[] }, { accessFlags := 24, nameIndex := 23, descriptorIndex := 10, attributes := #[] }, { accessFlags := 24, nameIndex := 25, descriptorIndex := 10, attributes := #[] }, { accessFlags := 24, nameIndex := 27, descriptorIndex := 10, attributes := #[] }, { accessFlags := 24, nameIndex := 29, descriptorIndex := 10, attributes := #[] }, { accessFlags := 24, nameIndex := 31, descriptorIndex := 10, attributes := #[] }, { accessFlags := 24, nameIndex := 33, descriptorIndex := 10, attributes := #[] }, { accessFlags := 24, nameIndex := 35, descriptorIndex := 10, attributes := #[] }, { accessFlags := 24, nameIndex := 37, descriptorIndex := 10, attributes := #[] }, { accessFlags := 24, nameIndex := 39, descriptorIndex := 10, attributes := #[] }, { accessFlags := 24, nameIndex := 41, descriptorIndex := 10, attributes := #[] }, { accessFlags := 24, nameIndex := 43, descriptorIndex := 10, attributes := #[] }, { accessFlags := 24, nameIndex := 45, descriptorIndex := 10, attributes := #[] }, { accessFlags := 24, nameIndex := 47, descriptorIndex := 10, attributes := #[] }, { accessFlags := 24, nameIndex := 49, descriptorIndex := 10, attributes := #[] }, { accessFlags := 24, nameIndex := 51, descriptorIndex := 10, attributes := #[] }, { accessFlags := 24, nameIndex := 53, descriptorIndex := 10, attributes := #[] }, { accessFlags := 24, nameIndex := 55, descriptorIndex := 10, attributes := #[] }, { accessFlags := 24, nameIndex := 57, descriptorIndex := 10, attributes := #[] }, { accessFlags := 24, nameIndex := 59, descriptorIndex := 10, attributes := #[] }, { accessFlags := 24, nameIndex := 61, descriptorIndex := 10, attributes := #[] }, { accessFlags := 24, nameIndex := 63, descriptorIndex := 10, attributes := #[] }, { accessFlags := 24, nameIndex := 65, descriptorIndex := 10, attributes := #[] }, { accessFlags := 24, nameIndex := 67, descriptorIndex := 10, attributes := #[] }, { accessFlags := 24, nameIndex := 69, descriptorIndex := 10, attributes := #[] }, { accessFlags := 24, nameIndex := 71, descriptorIndex := 10, attributes := #[] }, { accessFlags := 24, nameIndex := 73, descriptorIndex := 10, attributes := #[] }, { accessFlags := 24, nameIndex := 75, descriptorIndex := 10, attributes := #[] }, { accessFlags := 24, nameIndex := 77, descriptorIndex := 10, attributes := #[] }, { accessFlags := 24, nameIndex := 79, descriptorIndex := 10, attributes := #[] }, { accessFlags := 24, nameIndex := 81, descriptorIndex := 10, attributes := #[] }, { accessFlags := 24, nameIndex := 83, descriptorIndex := 10, attributes := #[] }, { accessFlags := 24, nameIndex := 85, descriptorIndex := 10, attributes := #[] }, { accessFlags := 24, nameIndex := 87, descriptorIndex := 10, attributes := #[] }, { accessFlags := 24, nameIndex := 89, descriptorIndex := 10, attributes := #[] }, { accessFlags := 24, nameIndex := 91, descriptorIndex := 10, attributes := #[] }, { accessFlags := 24, nameIndex := 93, descriptorIndex := 10, attributes := #[] }, { accessFlags := 24, nameIndex := 95, descriptorIndex := 10, attributes := #[] }, { accessFlags := 24, nameIndex := 97, descriptorIndex := 10, attributes := #[] }, { accessFlags := 24, nameIndex := 99, descriptorIndex := 10, attributes := #[] }, { accessFlags := 24, nameIndex := 101, descriptorIndex := 10, attributes := #[] }, { accessFlags := 24, nameIndex := 103, descriptorIndex := 10, attributes := #[] }, { accessFlags := 24, nameIndex := 105, descriptorIndex := 10, attributes := #[] }, { accessFlags := 24, nameIndex := 106, descriptorIndex := 10, attributes := #[] }, { accessFlags := 24, nameIndex := 107, descriptorIndex := 10, attributes := #[] }, { accessFlags := 24, nameIndex := 108, descriptorIndex := 10, attributes := #[] }, { accessFlags := 24, nameIndex := 109, descriptorIndex := 10, attributes := #[] }, { accessFlags := 24, nameIndex := 110, descriptorIndex := 10, attributes := #[] }, { accessFlags := 24, nameIndex := 111, descriptorIndex := 10, attributes := #[] }, { accessFlags := 24, nameIndex := 112, descriptorIndex := 10, attributes := #[] }, { accessFlags := 24, nameIndex := 113, descriptorIndex := 10, attributes := #[] }, { accessFlags := 24, nameIndex := 114, descriptorIndex := 10, attributes := #[] }, { accessFlags := 24, nameIndex := 115, descriptorIndex := 10, attributes := #[] }, { accessFlags := 24, nameIndex := 116, descriptorIndex := 10, attributes := #[] }, { accessFlags := 24, nameIndex := 117, descriptorIndex := 10, attributes := #[] }, { accessFlags := 24, nameIndex := 118, descriptorIndex := 10, attributes := #[] }, { accessFlags := 24, nameIndex := 119, descriptorIndex := 10, attributes := #[] }, { accessFlags := 24, nameIndex := 120, descriptorIndex := 10, attributes := #[] }, { accessFlags := 24, nameIndex := 121, descriptorIndex := 10, attributes := #[] }, { accessFlags := 24, nameIndex := 122, descriptorIndex := 10, attributes := #[] }, { accessFlags := 24, nameIndex := 123, descriptorIndex := 10, attributes := #[] }, { accessFlags := 24, nameIndex := 124, descriptorIndex := 10, attributes := #[] }, { accessFlags := 24, nameIndex := 125, descriptorIndex := 10, attributes := #[] }, { accessFlags := 24, nameIndex := 126, descriptorIndex := 10, attributes := #[] }, { accessFlags := 24, nameIndex := 127, descriptorIndex := 10, attributes := #[] }, { accessFlags := 24, nameIndex := 128, descriptorIndex := 10, attributes := #[] }, { accessFlags := 24, nameIndex := 129, descriptorIndex := 10, attributes := #[] }, { accessFlags := 24, nameIndex := 130, descriptorIndex := 10, attributes := #[] }, { accessFlags := 24, nameIndex := 131, descriptorIndex := 10, attributes := #[] }])
  fields := #[{ name := "GET_X_VAR", type := .int, accessFlags := 24, slot := 0, constantValue := 0 }, { name := "GET_Y_VAR", type := .int, accessFlags := 24, slot := 1, constantValue := 0 }, { name := "GET_X_VAL", type := .int, accessFlags := 24, slot := 2, constantValue := 0 }, { name := "GET_Y_VAL", type := .int, accessFlags := 24, slot := 3, constantValue := 0 }, { name := "GET_CONST", type := .int, accessFlags := 24, slot := 4, constantValue := 0 }, { name := "GET_STRUCT", type := .int, accessFlags := 24, slot := 5, constantValue := 0 }, { name := "GET_LIST", type := .int, accessFlags := 24, slot := 6, constantValue := 0 }, { name := "UNIFY_X_VAR", type := .int, accessFlags := 24, slot := 7, constantValue := 0 }, { name := "UNIFY_Y_VAR", type := .int, accessFlags := 24, slot := 8, constantValue := 0 }, { name := "UNIFY_X_VAL", type := .int, accessFlags := 24, slot := 9, constantValue := 0 }, { name := "UNIFY_Y_VAL", type := .int, accessFlags := 24, slot := 10, constantValue := 0 }, { name := "UNIFY_CONST", type := .int, accessFlags := 24, slot := 11, constantValue := 0 }, { name := "UNIFY_VOID", type := .int, accessFlags := 24, slot := 12, constantValue := 0 }, { name := "PUT_X_VAR", type := .int, accessFlags := 24, slot := 13, constantValue := 0 }, { name := "PUT_Y_VAR", type := .int, accessFlags := 24, slot := 14, constantValue := 0 }, { name := "PUT_X_VAL", type := .int, accessFlags := 24, slot := 15, constantValue := 0 }, { name := "PUT_Y_VAL", type := .int, accessFlags := 24, slot := 16, constantValue := 0 }, { name := "PUT_CONST", type := .int, accessFlags := 24, slot := 17, constantValue := 0 }, { name := "PUT_VOID", type := .int, accessFlags := 24, slot := 18, constantValue := 0 }, { name := "PUT_STRUCT", type := .int, accessFlags := 24, slot := 19, constantValue := 0 }, { name := "PUT_LIST", type := .int, accessFlags := 24, slot := 20, constantValue := 0 }, { name := "INIT_Y", type := .int, accessFlags := 24, slot := 21, constantValue := 0 }, { name := "ALLOCATE", type := .int, accessFlags := 24, slot := 22, constantValue := 0 }, { name := "DEALLOCATE", type := .int, accessFlags := 24, slot := 23, constantValue := 0 }, { name := "CALL", type := .int, accessFlags := 24, slot := 24, constantValue := 0 }, { name := "EXECUTE", type := .int, accessFlags := 24, slot := 25, constantValue := 0 }, { name := "PROCEED", type := .int, accessFlags := 24, slot := 26, constantValue := 0 }, { name := "FAIL", type := .int, accessFlags := 24, slot := 27, constantValue := 0 }, { name := "GET_LEVEL", type := .int, accessFlags := 24, slot := 28, constantValue := 0 }, { name := "SAVE_B", type := .int, accessFlags := 24, slot := 29, constantValue := 0 }, { name := "CUT", type := .int, accessFlags := 24, slot := 30, constantValue := 0 }, { name := "CUT_Y", type := .int, accessFlags := 24, slot := 31, constantValue := 0 }, { name := "TRY_ELSE", type := .int, accessFlags := 24, slot := 32, constantValue := 0 }, { name := "JUMP", type := .int, accessFlags := 24, slot := 33, constantValue := 0 }, { name := "UNIFY_XX", type := .int, accessFlags := 24, slot := 34, constantValue := 0 }, { name := "TEST", type := .int, accessFlags := 24, slot := 35, constantValue := 0 }, { name := "COMPARE", type := .int, accessFlags := 24, slot := 36, constantValue := 0 }, { name := "EVAL", type := .int, accessFlags := 24, slot := 37, constantValue := 0 }, { name := "ARITH2", type := .int, accessFlags := 24, slot := 38, constantValue := 0 }, { name := "ARITH1", type := .int, accessFlags := 24, slot := 39, constantValue := 0 }, { name := "ARITH_COMPARE", type := .int, accessFlags := 24, slot := 40, constantValue := 0 }, { name := "STOP", type := .int, accessFlags := 24, slot := 41, constantValue := 0 }, { name := "META_CALL", type := .int, accessFlags := 24, slot := 42, constantValue := 0 }, { name := "CATCH_ENTER", type := .int, accessFlags := 24, slot := 43, constantValue := 0 }, { name := "CATCH_EXIT", type := .int, accessFlags := 24, slot := 44, constantValue := 0 }, { name := "SOLUTION", type := .int, accessFlags := 24, slot := 45, constantValue := 0 }, { name := "META_EXECUTE", type := .int, accessFlags := 24, slot := 46, constantValue := 0 }, { name := "TEST_VAR", type := .int, accessFlags := 24, slot := 47, constantValue := 0 }, { name := "TEST_NONVAR", type := .int, accessFlags := 24, slot := 48, constantValue := 0 }, { name := "TEST_ATOM", type := .int, accessFlags := 24, slot := 49, constantValue := 0 }, { name := "TEST_INTEGER", type := .int, accessFlags := 24, slot := 50, constantValue := 0 }, { name := "TEST_FLOAT", type := .int, accessFlags := 24, slot := 51, constantValue := 0 }, { name := "TEST_NUMBER", type := .int, accessFlags := 24, slot := 52, constantValue := 0 }, { name := "TEST_ATOMIC", type := .int, accessFlags := 24, slot := 53, constantValue := 0 }, { name := "TEST_COMPOUND", type := .int, accessFlags := 24, slot := 54, constantValue := 0 }, { name := "TEST_CALLABLE", type := .int, accessFlags := 24, slot := 55, constantValue := 0 }, { name := "ORDER_EQUAL", type := .int, accessFlags := 24, slot := 56, constantValue := 0 }, { name := "ORDER_NOT_EQUAL", type := .int, accessFlags := 24, slot := 57, constantValue := 0 }, { name := "ORDER_LESS", type := .int, accessFlags := 24, slot := 58, constantValue := 0 }, { name := "ORDER_NOT_GREATER", type := .int, accessFlags := 24, slot := 59, constantValue := 0 }, { name := "ORDER_GREATER", type := .int, accessFlags := 24, slot := 60, constantValue := 0 }, { name := "ORDER_NOT_LESS", type := .int, accessFlags := 24, slot := 61, constantValue := 0 }, { name := "FN_ADD", type := .int, accessFlags := 24, slot := 62, constantValue := 0 }, { name := "FN_SUBTRACT", type := .int, accessFlags := 24, slot := 63, constantValue := 0 }, { name := "FN_MULTIPLY", type := .int, accessFlags := 24, slot := 64, constantValue := 0 }, { name := "FN_OTHER", type := .int, accessFlags := 24, slot := 65, constantValue := 0 }, { name := "FN_QUOTIENT", type := .int, accessFlags := 24, slot := 66, constantValue := 0 }, { name := "FN_REMAINDER", type := .int, accessFlags := 24, slot := 67, constantValue := 0 }, { name := "FN_MODULO", type := .int, accessFlags := 24, slot := 68, constantValue := 0 }, { name := "FN_FLOOR_QUOTIENT", type := .int, accessFlags := 24, slot := 69, constantValue := 0 }, { name := "FN_MIN", type := .int, accessFlags := 24, slot := 70, constantValue := 0 }, { name := "FN_MAX", type := .int, accessFlags := 24, slot := 71, constantValue := 0 }, { name := "FN_AND", type := .int, accessFlags := 24, slot := 72, constantValue := 0 }, { name := "FN_OR", type := .int, accessFlags := 24, slot := 73, constantValue := 0 }]
  methods := #[k2m0, k2m1]
  instanceTypes := #[]
  staticTypes := #[.int, .int, .int, .int, .int, .int, .int, .int, .int, .int, .int, .int, .int, .int, .int, .int, .int, .int, .int, .int, .int, .int, .int, .int, .int, .int, .int, .int, .int, .int, .int, .int, .int, .int, .int, .int, .int, .int, .int, .int, .int, .int, .int, .int, .int, .int, .int, .int, .int, .int, .int, .int, .int, .int, .int, .int, .int, .int, .int, .int, .int, .int, .int, .int, .int, .int, .int, .int, .int, .int, .int, .int, .int, .int]
  resolved := Array.replicate 141 none
  statics := none }

def pool3 : Array CpInfo := pool [(1, u "java/lang/Cloneable"), (0, .class_ 1), (0, u "java/lang/Object"), (0, .class_ 3)] 3

/-- java/lang/Cloneable -/
def k3 : Class := { plain "java/lang/Cloneable" (some 0) with
  accessFlags := 1537
  interfaces := #[]
  cf := some (fileOf pool3 2 #[] #[] 1537 4 #[] #[])
  fields := #[]
  methods := #[]
  instanceTypes := #[]
  staticTypes := #[]
  resolved := Array.replicate 8 none
  statics := none }

def pool4 : Array CpInfo := pool [(1, u "java/io/Serializable"), (0, .class_ 1), (0, u "java/lang/Object"), (0, .class_ 3)] 3

/-- java/io/Serializable -/
def k4 : Class := { plain "java/io/Serializable" (some 0) with
  accessFlags := 1537
  interfaces := #[]
  cf := some (fileOf pool4 2 #[] #[] 1537 4 #[] #[])
  fields := #[]
  methods := #[]
  instanceTypes := #[]
  staticTypes := #[]
  resolved := Array.replicate 8 none
  statics := none }

/-- the primitive byte -/
def k5 : Class := { plain "byte" none with kind := .primitive 'B', accessFlags := 0x411 }
/-- [B -/
def k6 : Class := { plain "[B" (some 0) with kind := .array 5 .byte, interfaces := #[3, 4], accessFlags := 1041 }

/-- the primitive int -/
def k7 : Class := { plain "int" none with kind := .primitive 'I', accessFlags := 0x411 }
/-- [I -/
def k8 : Class := { plain "[I" (some 0) with kind := .array 7 .int, interfaces := #[3, 4], accessFlags := 1041 }

def heap : Heap := #[]
def classes : Array Class := #[k0, k1, k2, k3, k4, k5, k6, k7, k8]
def interned : List (Array UInt16 × Addr) := []
def slotsUsed : Nat := 0
def theMethod : MethodId := ⟨1, 2⟩
def args0 : Array Value := #[.int 5, .int 7]
def aboutOver (below : List Frame) : State where
  vm := { classes := classes, interned := interned.toArray }
  heap := heap
  slotsUsed := slotsUsed
  threads := #[{ frames := .invoking theMethod args0 :: below }]
def below0 : List Frame := [.native { method := ⟨0, 0⟩, args := #[] }]
def about1 : State := aboutOver below0
def p0 : Program := .bare "" "" ""
def e0 : Env := launch0.env 0 0 0
theorem w_frames : about1.frames = Frame.invoking theMethod args0 :: below0 := rfl
set_option maxRecDepth 65536 in
theorem w_args : argsFit about1.vm theMethod args0 = true := by decide +kernel
set_option maxRecDepth 65536 in
theorem w_heap : heapFits about1 = true := by decide +kernel
set_option maxRecDepth 65536 in
theorem w_runnable : about1.curStatus? = some .runnable := by decide +kernel
set_option maxRecDepth 65536 in
theorem w_alone : about1.alone = true := by decide +kernel
set_option maxRecDepth 65536 in
theorem w_named : about1.methodNamed? x = some theMethod := by decide +kernel
set_option maxRecDepth 65536 in
theorem w_hears : about1.hears theMethod below0 = true := by decide +kernel
set_option maxRecDepth 65536 in
theorem w_ripe : about1.ripe theMethod args0 below0 = true := by decide +kernel
theorem w_running : about1.status = .running := rfl
set_option maxRecDepth 65536 in
theorem w_room : about1.hasRoom e0.platform room_1 = true :=
  launch0.hasRoom_least _ room_1 (by decide +kernel) (by decide +kernel) (by decide +kernel) (by decide +kernel) (by decide +kernel) (by decide +kernel)
theorem allAtoms_all (ts : List Jvm.Cond) (a : Array Jvm.Value) (st : Jvm.State) : (allAtoms ts).before a st = ts.all (fun c => c.before a st) := by
  induction ts with
  | nil => rfl
  | cons c t ih =>
    show (Jvm.Cond.and c (allAtoms t)).before a st = _
    rw [Jvm.Cond.before_and, ih, List.all_cons]
def words1 : List Jvm.Cond := Jvm.Cond.code x code maxLocals ret :: tables_1
/-- a 'code' word, met by the world's own term for the bytes: nothing is compared byte by byte -/
theorem code_word {y : MethodName} {bytes : ByteArray} {mx : Nat} {rt : Option FieldType} {a : Array Value} {s : State} {m : MethodId} {meth : Method} {c : Code} (h1 : s.methodNamed? y = some m) (h2 : s.vm.method? m = some meth) (h3 : meth.code = some c) (h4 : c.code = bytes)
    (h5 : (c.maxLocals == mx && c.exceptionTable.isEmpty && decide (c.maxStack ≤ mostOperands) && decide (meth.sig.returnType = rt) && !meth.locks && decide (parseMethodDescriptor y.desc = some meth.sig)) = true) : (Jvm.Cond.code y bytes mx rt).before a s = true := by
  simp only [Bool.and_eq_true, beq_iff_eq, Bool.not_eq_true', decide_eq_true_eq] at h5
  obtain ⟨⟨⟨⟨⟨g1, g2⟩, g3⟩, g4⟩, g5⟩, g6⟩ := h5
  simp [Cond.before, Cond.holds, Cond.value, h1, h2, h3, h4, g1, g2, g3, g4, g5, g6]
def isCode : Jvm.Cond → Bool
  | .code _ _ _ _ => true
  | _ => false
theorem all_split {L : List Jvm.Cond} {P : Jvm.Cond → Bool} (h1 : L.all (fun c => isCode c || P c) = true) (h2 : ∀ c ∈ L.filter isCode, P c = true) : L.all P = true := by
  refine List.all_eq_true.mpr fun c hc => ?_
  have h := List.all_eq_true.mp h1 c hc
  rcases Bool.eq_false_or_eq_true (isCode c) with hi | hi
  · exact h2 c (List.mem_filter.mpr ⟨hc, hi⟩)
  · simpa [hi] using h
set_option maxRecDepth 65536 in
theorem w_c0 : (Jvm.Cond.code x code maxLocals ret).before args0 about1 = true := code_word (m := ⟨1, 2⟩) (meth := k1m2) (c := k1c2) (by decide +kernel) rfl rfl rfl (by decide +kernel)
set_option maxRecDepth 65536 in
theorem w_c1 : (Jvm.Cond.code ({ cls := "com/example/dutiful_logic/dutifullogic/OpHoldsPinLaw", name := "signIndex", desc := "(I)I" } : Jvm.MethodName) method_2_code (2 : Nat) (Option.some Jvm.ClassFile.FieldType.int)).before args0 about1 = true := code_word (m := ⟨1, 1⟩) (meth := k1m1) (c := k1c1) (by decide +kernel) rfl rfl rfl (by decide +kernel)
set_option maxRecDepth 65536 in
theorem w_c2 : (Jvm.Cond.code ({ cls := "com/example/dutiful_logic/dutifullogic/Op", name := "holds", desc := "(II)Z" } : Jvm.MethodName) prog_78_method_3_code (3 : Nat) (Option.some Jvm.ClassFile.FieldType.boolean)).before args0 about1 = true := code_word (m := ⟨2, 1⟩) (meth := k2m1) (c := k2c1) (by decide +kernel) rfl rfl rfl (by decide +kernel)
def codes1 : List Jvm.Cond := [Jvm.Cond.code x code maxLocals ret, Jvm.Cond.code ({ cls := "com/example/dutiful_logic/dutifullogic/OpHoldsPinLaw", name := "signIndex", desc := "(I)I" } : Jvm.MethodName) method_2_code (2 : Nat) (Option.some Jvm.ClassFile.FieldType.int), Jvm.Cond.code ({ cls := "com/example/dutiful_logic/dutifullogic/Op", name := "holds", desc := "(II)Z" } : Jvm.MethodName) prog_78_method_3_code (3 : Nat) (Option.some Jvm.ClassFile.FieldType.boolean)]
set_option maxRecDepth 65536 in
theorem codes_eq : words1.filter isCode = codes1 := rfl
theorem w_codes : ∀ c ∈ words1.filter isCode, c.before args0 about1 = true := by
  rw [codes_eq]
  intro c hc
  simp only [codes1, List.mem_cons, List.not_mem_nil, or_false] at hc
  rcases hc with rfl | rfl | rfl
  · exact w_c0
  · exact w_c1
  · exact w_c2
set_option maxRecDepth 65536 in
theorem w_t1 : words1.all (fun c => isCode c || c.before args0 about1) = true := by decide +kernel
theorem w_tables : (allAtoms (Jvm.Cond.code x code maxLocals ret :: tables_1)).before args0 about1 = true := by
  rw [allAtoms_all]
  show words1.all (fun c => c.before args0 about1) = true
  refine all_split ?_ w_codes
  rw [w_t1]
set_option maxRecDepth 65536 in
theorem w_case : (Jvm.Cond.and given_1 narrow_1).before args0 about1 = true := by decide +kernel
theorem w_applies : (headSpec (Jvm.Cond.code x code maxLocals ret :: tables_1) room_1).applies x e0.platform about1 = true :=
  (Spec.applies_iff w_frames).mpr ⟨w_running, w_runnable, w_alone, w_named, w_hears, w_ripe, w_room, w_tables⟩
theorem atStart : AtStart classFile x code maxLocals ret World_1 tables_1 room_1 Calls_1 rest_1 Pre_1 launch0 p0 e0 about1 theMethod args0 below0 :=
  ⟨lists_1, trivial, launch0.admits_env _ _ _, launch0.least_env, fairChoices_fair.cas, fairChoices_fair.clock, w_frames, w_args, w_heap, w_applies, trivial, trivial, w_case⟩
end start1
theorem witness_1 : WitnessClaimed_1 := ⟨start1.p0, start1.e0, start1.about1, start1.theMethod, start1.args0, start1.below0, start1.atStart⟩
end Jvm.Pilot.@@N@@
