import JvmDerived
import JvmDerived.Pilot.@@N@@Statement
import JvmDerived.Pilot.@@N@@Code
set_option linter.unusedVariables false
set_option linter.unusedSimpArgs false
namespace Jvm.RoadKit
open Sem ClassFile Op Lib Jvm.Stand Jvm.Free Jvm.LawKit
section New
variable {p : Program} {l : Launch} {e : Env} {R : Room} {s : State} {m : MethodId} {args : Array Value} {below : List Frame} {meth : Method} {c : Code} {T : State} {locs : List Loc} {cells slots : Nat}
theorem retI (X : Stand p l e R s m args below meth c T locs cells slots) (hx : p.tables.exec = Jvm.exec) {pc : Nat} {Ls : Array Slot} {z : Int32} {rest : List Value} (hret : meth.sig.returnType = some .int) (hd : decode c.code pc = .ok (.ireturn, 1)) {fs : List Frame}
    (hl : ∀ (f : JFrame) (acts : List Action), f.method = m → f.locked = none → f.entered = [] → (doReturn e (T.setTop f) acts (some (.int z))).1 = T.setFrames fs) : Steps p.tables e below (T.setTop (mkF m pc Ls (.int z :: rest))) (T.setFrames fs) := by
  have hm' : T.vm.method? m = some meth := X.method'
  have hn : narrow .int (.int z) = .int z := rfl
  show Steps p.tables e below (T.setTop { method := m, pc := pc, locals := Ls, stack := _ :: rest, locked := none }) _
  jvm_step X.here [X.here.top, hx, hd, hm', hret, hn]
  first | (intro acts; rw [hl _ acts rfl rfl rfl]) | rw [hl _ _ rfl rfl rfl]
  exact Steps.refl _
end New
end Jvm.RoadKit
namespace Jvm.Pilot.@@N@@
open Jvm Jvm.ClassFile Sem Op Lib Jvm.Free Jvm.Stand Jvm.LawKit Jvm.RoadKit Bundle Jvm.Pilot.@@N@@.Jvm.D
section OwnKit
variable {p : Program} {l : Launch} {e : Env} {R : Room} {s : State} {m : MethodId} {args : Array Value} {below : List Frame} {meth : Method} {c : Code} {T : State} {locs : List Loc} {cells slots : Nat}
/-- from S the run comes to a return of which F holds -/
def Goes (tb : Tables) (e : Env) (below : List Frame) (s : State) (F : Option Value → Heap → List Loc → Prop) (k n : Nat) (S : State) : Prop :=
  ∃ s₂ o, Steps tb e below S s₂ ∧ s₂.status = .running ∧ Ended s₂ below o ∧ ∃ v L, o = .returned v ∧ F v s₂.heap L ∧ FrameEnd s o s₂ L k n
theorem Goes.of {tb : Tables} {F : Option Value → Heap → List Loc → Prop} {k n : Nat} {S S' : State} (h : ∀ t, Steps tb e below S' t → Steps tb e below S t) (g : Goes tb e below s F k n S') : Goes tb e below s F k n S := by
  obtain ⟨s₂, o, h1, r⟩ := g
  exact ⟨s₂, o, h _ h1, r⟩
theorem Goes.mono {tb : Tables} {F G : Option Value → Heap → List Loc → Prop} {k n : Nat} {S : State} (h : ∀ v h L, F v h L → G v h L) (g : Goes tb e below s F k n S) : Goes tb e below s G k n S := by
  obtain ⟨s₂, o, h1, h2, h3, v, L, h4, h5, h6⟩ := g
  exact ⟨s₂, o, h1, h2, h3, v, L, h4, h _ _ _ h5, h6⟩
theorem Goes.fin (X : Stand p l e R s m args below meth c T locs cells slots) (hlk : meth.locks = false) {v : Option Value} {F : Option Value → Heap → List Loc → Prop} {k n : Nat} {S : State} (hv : meth.sig.returnType = none → v = none)
    (step : ∀ fs, (∀ (f : JFrame) (acts : List Action), f.method = m → f.locked = none → f.entered = [] → (doReturn e (T.setTop f) acts v).1 = T.setFrames fs) → Steps p.tables e below S (T.setFrames fs)) (hF : F v T.heap locs) (hk : cells ≤ k) (hn : slots ≤ n) : Goes p.tables e below s F k n S := by
  obtain ⟨fs, hr, hrun, hended, hW, hsame⟩ := X.leave hv hlk
  exact ⟨_, _, step fs hr, hrun, hended, v, locs, rfl, hF, ⟨_, rfl⟩, hW, hsame.mono hk hn⟩
end OwnKit
section OwnArr
variable {p : Program} {l : Launch} {e : Env} {R : Room} {s : State} {m : MethodId} {args : Array Value} {below : List Frame} {meth : Method} {c : Code} {T : State} {locs : List Loc} {cells slots : Nat} {Z : State} {h h' : Heap} {a b : Addr} {ty : FieldType} {n i : Nat} {f : Nat → Int32} {ws : List Addr} {sl : Nat} {w : Value}
/-- at a stands an array of n places; place j holds f j -/
def AI (Z : State) (h : Heap) (a : Addr) (ty : FieldType) (n : Nat) (f : Nat → Int32) : Prop :=
  ∃ c : Cell, Arr Z h a c ty ∧ c.slots.size = n ∧ n < 2147483648 ∧ ∀ j, j < n → c.slots[j]? = some (.int (f j)) ∧ fits ty (.int (f j)) = true
def upd (f : Nat → Int32) (i : Nat) (v : Int32) : Nat → Int32 := fun j => if j = i then v else f j
theorem AI.lt (F : AI Z h a ty n f) : a < h.size := by obtain ⟨c, A, -⟩ := F; exact A.lt
theorem AI.ext (F : AI Z h a ty n f) (E : Ext h h') : AI Z h' a ty n f := by obtain ⟨c, A, r⟩ := F; exact ⟨c, A.ext E, r⟩
theorem AI.other (F : AI Z h a ty n f) (W : Wr h h' b sl w) (q : a ≠ b) : AI Z h' a ty n f := by obtain ⟨c, A, r⟩ := F; exact ⟨c, A.other W q, r⟩
theorem AI.keep (F : AI Z h a ty n f) (K : Keep h h' ws) (q : a ∉ ws) : AI Z h' a ty n f := by obtain ⟨c, A, r⟩ := F; exact ⟨c, ⟨K.2.1 a c A.1 q, A.2⟩, r⟩
theorem AI.congr {f' : Nat → Int32} (F : AI Z h a ty n f) (q : ∀ j, j < n → f j = f' j) : AI Z h a ty n f' := by
  obtain ⟨c, A, S, M, H⟩ := F
  exact ⟨c, A, S, M, fun j hj => by rw [← q j hj]; exact H j hj⟩
theorem AI.fits (F : AI Z h a ty n f) {j : Nat} (hj : j < n) : Jvm.fits ty (.int (f j)) = true := by
  obtain ⟨c, A, S, M, H⟩ := F
  exact (H j hj).2
theorem AI.new {cA : ClassId} {z : Int32} (hd : defaultValue ty = .int 0) (hf : Jvm.fits ty (.int 0) = true) (A : Arr Z h a (newA cA ty z) ty) (q : ¬ z < 0) (hn : z.toNatClampNeg = n) : AI Z h a ty n (fun _ => 0) := by
  subst hn
  refine ⟨_, A, sz_new _ _ _, (back32 q).2, fun j hj => ⟨?_, hf⟩⟩
  show (Array.replicate z.toNatClampNeg (defaultValue ty))[j]? = _
  rw [hd, Array.getElem?_replicate, if_pos hj]
theorem AI.set {v : Int32} (F : AI Z h a ty n f) (W : Wr h h' a i (.int v)) (hv : Jvm.fits ty (.int v) = true) : AI Z h' a ty n (upd f i v) := by
  obtain ⟨c, A, S, M, H⟩ := F
  refine ⟨c.setSlot i (.int v), A.same W, by rw [sz_set]; exact S, M, fun j hj => ?_⟩
  show (c.slots.setIfInBounds i (.int v))[j]? = _ ∧ _
  by_cases q : j = i
  · subst q
    rw [Array.getElem?_setIfInBounds_self_of_lt (by omega)]
    have e : upd f j v j = v := if_pos rfl
    rw [e]; exact ⟨rfl, hv⟩
  · rw [Array.getElem?_setIfInBounds_ne (Ne.symm q)]
    have e : upd f i v j = f j := if_neg q
    rw [e]; exact H j hj
theorem own_nn {j : Int32} (h : 0 ≤ j.toInt) : ¬ j < 0 := by
  rw [Int32.lt_iff_toInt_lt, show (0 : Int32).toInt = 0 from rfl]; omega
theorem own_ltn {j : Int32} {n : Nat} (h0 : 0 ≤ j.toInt) (h : j.toInt < n) : j.toNatClampNeg < n := by
  simp only [Int32.toNatClampNeg]; omega
theorem own_tn {z : Int32} {n : Nat} (h : z.toInt = n) : z.toNatClampNeg = n := by
  simp only [Int32.toNatClampNeg]; omega
theorem own_inc {i : Int32} (h : i.toInt < 2147483647) : (i + (1 : Int32)).toInt = i.toInt + 1 := by
  have a := c_iadd i 1
  have r := rng32 (i + 1)
  have r2 := rng32 i
  rw [show (1 : Int32).toInt = 1 from rfl] at a
  omega
theorem own_ilt {a b : Int32} (h : a.toInt < b.toInt) : a < b := by rw [Int32.lt_iff_toInt_lt]; exact h
theorem own_nlt {a b : Int32} (h : b.toInt ≤ a.toInt) : ¬ a < b := by rw [Int32.lt_iff_toInt_lt]; omega
theorem own_ltI {a b : Int32} (h : a < b) : a.toInt < b.toInt := Int32.lt_iff_toInt_lt.mp h
theorem own_geI {a b : Int32} (h : ¬ a < b) : b.toInt ≤ a.toInt := by rw [Int32.lt_iff_toInt_lt] at h; omega
theorem own_neI {a b : Int32} (h : ¬ a = b) : a.toInt ≠ b.toInt := fun q => h (Int32.toInt_inj.mp q)
theorem own_turn {G : Nat → Int32} {n k i : Nat} {w : Int32} (hi : i + (k + 1) = n) (hw : w = G i) : ∀ j, j < n → upd (fun j => if j + (k + 1) < n then G j else 0) i w j = if j + k < n then G j else 0 := by
  intro j hj
  by_cases q : j = i
  · subst q
    rw [if_pos (by omega)]
    exact (if_pos rfl).trans hw
  · refine (if_neg q).trans ?_
    by_cases r : j + (k + 1) < n
    · show (if _ then _ else _) = _
      rw [if_pos r, if_pos (by omega)]
    · show (if _ then _ else _) = _
      rw [if_neg r, if_neg (by omega)]
theorem own_turn2 {D : Nat → Int32} {n k i : Nat} {w : Int32} (hi : i + (k + 1) = n) : ∀ j, j < n → upd (fun j => if j + (k + 1) < n then w else D j) i w j = if j + k < n then w else D j := by
  intro j hj
  by_cases q : j = i
  · subst q
    rw [if_pos (by omega)]
    exact if_pos rfl
  · refine (if_neg q).trans ?_
    by_cases r : j + (k + 1) < n
    · show (if _ then _ else _) = _
      rw [if_pos r, if_pos (by omega)]
    · show (if _ then _ else _) = _
      rw [if_neg r, if_neg (by omega)]
theorem own_in {cl : Cell} {j : Int32} (S : cl.slots.size = n) (h0 : ¬ j < 0) (hi : j.toNatClampNeg = i) (hn : i < n) : ¬ (j < 0 ∨ cl.slots.size ≤ j.toNatClampNeg) := by
  rintro (q | q)
  · exact h0 q
  · omega
theorem ldI (X : Stand p l e R s m args below meth c T locs cells slots) (hx : p.tables.exec = Jvm.exec) (hZ : Z.Warmed39 s.vm) (eT : T.heap = h) (F : AI Z h a .int n f) {j v : Int32} (h0 : ¬ j < 0) (hi : j.toNatClampNeg = i) (hn : i < n) (hv : f i = v) {g : JFrame} (hg : g.method = m) {rest : List Value} (hs : g.stack = .int j :: .ref a :: rest) (hd : decode c.code g.pc = .ok (.iaload, 1)) (t : State)
    (k : Steps p.tables e below (T.setTop { g with pc := g.pc + 1, stack := .int v :: rest }) t) : Steps p.tables e below (T.setTop g) t := by
  obtain ⟨cl, A, S, M, H⟩ := F
  exact X.iaload hx (j := j) (v := .int v) (by rw [eT]; exact A.1) (State.isArrayOf_alike hZ.alike A.2.1) A.2.2 (own_in S h0 hi hn) (by rw [hi, (H i hn).1, hv]) hg hs hd t k
theorem ldB (X : Stand p l e R s m args below meth c T locs cells slots) (hx : p.tables.exec = Jvm.exec) (hZ : Z.Warmed39 s.vm) (eT : T.heap = h) (F : AI Z h a .byte n f) {j v : Int32} (h0 : ¬ j < 0) (hi : j.toNatClampNeg = i) (hn : i < n) (hv : f i = v) {g : JFrame} (hg : g.method = m) {rest : List Value} (hs : g.stack = .int j :: .ref a :: rest) (hd : decode c.code g.pc = .ok (.baload, 1)) (t : State)
    (k : Steps p.tables e below (T.setTop { g with pc := g.pc + 1, stack := .int v :: rest }) t) : Steps p.tables e below (T.setTop g) t := by
  obtain ⟨cl, A, S, M, H⟩ := F
  exact X.baloadBytes hx (j := j) (v := .int v) (by rw [eT]; exact A.1) (State.isArrayOf_alike hZ.alike A.2.1) A.2.2 (own_in S h0 hi hn) (by rw [hi, (H i hn).1, hv]) hg hs hd t k
theorem ldZ (X : Stand p l e R s m args below meth c T locs cells slots) (hx : p.tables.exec = Jvm.exec) (hZ : Z.Warmed39 s.vm) (eT : T.heap = h) (F : AI Z h a .boolean n f) {j v : Int32} (h0 : ¬ j < 0) (hi : j.toNatClampNeg = i) (hn : i < n) (hv : f i = v) {g : JFrame} (hg : g.method = m) {rest : List Value} (hs : g.stack = .int j :: .ref a :: rest) (hd : decode c.code g.pc = .ok (.baload, 1)) (t : State)
    (k : Steps p.tables e below (T.setTop { g with pc := g.pc + 1, stack := .int v :: rest }) t) : Steps p.tables e below (T.setTop g) t := by
  obtain ⟨cl, A, S, M, H⟩ := F
  exact X.baloadBooleans hx (j := j) (v := .int v) (by rw [eT]; exact A.1) (State.isArrayOf_alike hZ.alike A.2.1) A.2.2 (own_in S h0 hi hn) (by rw [hi, (H i hn).1, hv]) hg hs hd t k
theorem putI (X : Stand p l e R s m args below meth c T locs cells slots) (hx : p.tables.exec = Jvm.exec) (hZ : Z.Warmed39 s.vm) (eT : T.heap = h) (F : AI Z h a .int n f) {j x : Int32} (h0 : ¬ j < 0) (hi : j.toNatClampNeg = i) (hn : i < n) {g : JFrame} (hg : g.method = m) {rest : List Value} (hs : g.stack = .int x :: .int j :: .ref a :: rest) (hd : decode c.code g.pc = .ok (.iastore, 1)) :
    ∃ T' h', Stand p l e R s m args below meth c T' (locs ++ [⟨a, i⟩]) cells slots ∧ T'.heap = h' ∧ Wr h h' a i (.int x) ∧ AI Z h' a .int n (upd f i x) ∧ ∀ t, Steps p.tables e below (T'.setTop { g with pc := g.pc + 1, stack := rest }) t → Steps p.tables e below (T.setTop g) t := by
  have F0 := F
  obtain ⟨cl, A, S, M, H⟩ := F
  subst hi
  obtain ⟨T', h', X', e', W, st⟩ := stI X hx hZ eT A (own_in S h0 rfl hn) hg hs hd
  exact ⟨T', h', X', e', W, F0.set W rfl, st⟩
theorem putB (X : Stand p l e R s m args below meth c T locs cells slots) (hx : p.tables.exec = Jvm.exec) (hZ : Z.Warmed39 s.vm) (eT : T.heap = h) (F : AI Z h a .byte n f) {j x : Int32} (h0 : ¬ j < 0) (hi : j.toNatClampNeg = i) (hn : i < n) {g : JFrame} (hg : g.method = m) {rest : List Value} (hs : g.stack = .int x :: .int j :: .ref a :: rest) (hd : decode c.code g.pc = .ok (.bastore, 1)) :
    ∃ T' h', Stand p l e R s m args below meth c T' (locs ++ [⟨a, i⟩]) cells slots ∧ T'.heap = h' ∧ Wr h h' a i (.int x.toInt8.toInt32) ∧ AI Z h' a .byte n (upd f i x.toInt8.toInt32) ∧ ∀ t, Steps p.tables e below (T'.setTop { g with pc := g.pc + 1, stack := rest }) t → Steps p.tables e below (T.setTop g) t := by
  have F0 := F
  obtain ⟨cl, A, S, M, H⟩ := F
  subst hi
  obtain ⟨T', h', X', e', W, st⟩ := stB X hx hZ eT A (own_in S h0 rfl hn) hg hs hd
  exact ⟨T', h', X', e', W, F0.set W (fits_nar_byte x), st⟩
theorem putZ (X : Stand p l e R s m args below meth c T locs cells slots) (hx : p.tables.exec = Jvm.exec) (hZ : Z.Warmed39 s.vm) (eT : T.heap = h) (F : AI Z h a .boolean n f) {j x : Int32} (h0 : ¬ j < 0) (hi : j.toNatClampNeg = i) (hn : i < n) {g : JFrame} (hg : g.method = m) {rest : List Value} (hs : g.stack = .int x :: .int j :: .ref a :: rest) (hd : decode c.code g.pc = .ok (.bastore, 1)) :
    ∃ T' h', Stand p l e R s m args below meth c T' (locs ++ [⟨a, i⟩]) cells slots ∧ T'.heap = h' ∧ Wr h h' a i (.int (x &&& 1)) ∧ AI Z h' a .boolean n (upd f i (x &&& 1)) ∧ ∀ t, Steps p.tables e below (T'.setTop { g with pc := g.pc + 1, stack := rest }) t → Steps p.tables e below (T.setTop g) t := by
  have F0 := F
  obtain ⟨cl, A, S, M, H⟩ := F
  subst hi
  obtain ⟨T', h', X', e', W, st⟩ := stZ X hx hZ eT A (own_in S h0 rfl hn) hg hs hd
  exact ⟨T', h', X', e', W, F0.set W (fits_nar_bool x), st⟩
theorem lenA (X : Stand p l e R s m args below meth c T locs cells slots) (hx : p.tables.exec = Jvm.exec) (hZ : Z.Warmed39 s.vm) (eT : T.heap = h) (F : AI Z h a ty n f) {z : Int32} (hz : z.toInt = n) {g : JFrame} (hg : g.method = m) {rest : List Value} (hs : g.stack = .ref a :: rest) (hd : decode c.code g.pc = .ok (.arraylength, 1)) (t : State)
    (k : Steps p.tables e below (T.setTop { g with pc := g.pc + 1, stack := .int z :: rest }) t) : Steps p.tables e below (T.setTop g) t := by
  obtain ⟨cl, A, S, M, H⟩ := F
  have e1 : cl.slots.size.toInt32 = z := by rw [S]; exact Int32.toInt_inj.mp (by rw [len_toInt M, hz])
  exact X.arraylength hx (by rw [eT]; exact A.1) (State.isArrayOf_alike hZ.alike A.2.1) hg hs hd t (by rw [e1]; exact k)
end OwnArr
theorem d2_0 : decode method_3_code 0 = .ok (.iload_n 0, 1) := by decide +kernel
theorem d2_1 : decode method_3_code 1 = .ok (.ifCond .eq 5, 3) := by decide +kernel
theorem d2_4 : decode method_3_code 4 = .ok (.iconst 1, 1) := by decide +kernel
theorem d2_5 : decode method_3_code 5 = .ok (.ireturn, 1) := by decide +kernel
theorem d2_6 : decode method_3_code 6 = .ok (.iload_n 1, 1) := by decide +kernel
theorem d2_7 : decode method_3_code 7 = .ok (.ifCond .ge 5, 3) := by decide +kernel
theorem d2_10 : decode method_3_code 10 = .ok (.iconst 0, 1) := by decide +kernel
theorem d2_11 : decode method_3_code 11 = .ok (.ireturn, 1) := by decide +kernel
theorem d2_12 : decode method_3_code 12 = .ok (.iconst 1, 1) := by decide +kernel
theorem d2_13 : decode method_3_code 13 = .ok (.ireturn, 1) := by decide +kernel
theorem pn_0 : plainName "com/example/network_attack_odds/networkattackodds/engine/GoalGraphReachedPinLaw" = true := by first | (simp [plainName, overriddenIn]; done) | decide +kernel
theorem ef_2 (m : MethodId) (q0 : Int32) (q1 : Int32) : entryFrame m #[(.int q0), (.int q1)] 2 = mkF m 0 #[.val (.int q0), .val (.int q1)] [] := by first | (simp [entryFrame, mkF, argsToLocals, Value.category]; done) | rfl
def f2 (q0 : Int32) (q1 : Int32) : Int32 :=
  (if q0 = (0 : Int32) then (if q1 < (0 : Int32) then (0 : Int32)
    else (1 : Int32))
  else (1 : Int32))
def Q2 (q0 : Int32) (q1 : Int32) (h0 : Heap) (n0 : Nat) (v : Option Value) (h : Heap) (L : List Loc) : Prop := v = some (.int (f2 q0 q1)) ∧ Fr n0 L ∧ h = h0
set_option maxRecDepth 65536 in
set_option maxHeartbeats 40000000 in
theorem rm2 (l : Launch) (Z : State) (a0 : Array Value) (hw : ∀ d ∈ tables_1, d.before a0 Z = true) (ws : List Jvm.Cond) (q0 : Int32) (q1 : Int32) (h0 : Heap) (n0 : Nat) :
    MetFree l (⟨"com/example/network_attack_odds/networkattackodds/engine/GoalGraphReachedPinLaw", "expected", "(ZI)Z"⟩ : MethodName) (head1 (Jvm.Cond.code (⟨"com/example/network_attack_odds/networkattackodds/engine/GoalGraphReachedPinLaw", "expected", "(ZI)Z"⟩ : MethodName) method_3_code 2 (some .boolean) :: ws) ({ frames := 0, cells := 0, slots := 0, locals := 0 } : Room)) (fun ar' Ur => ar' = #[(.int q0), (.int q1)] ∧ Z.Warmed39 Ur.vm ∧ Ur.heap = h0) (fun _ _ _ _ _ => True) (fun _ Ur or' Us => ∃ v L, or' = .returned v ∧ Q2 q0 q1 h0 n0 v Us.heap L ∧ FrameEnd Ur or' Us L 0 0) := by
  refine MetFree.of_bodySF (plainFor_of_name pn_0) hisR ?_
  intro p e s m args below meth c s₁ Bd hml0 hP hK
  obtain ⟨rfl, hZ, hh⟩ := hP
  have hx := Bd.exec
  have hby := Bd.bytes
  have hlk : meth.locks = false := BodyLoose.notSynchronized Bd
  have hml : c.maxLocals = 2 := hml0
  have hown : s.vm.findClass "com/example/network_attack_odds/networkattackodds/engine/GoalGraphReachedPinLaw" = some m.cls := findClass_of_methodNamed Bd.named
  have X0 : Stand p l e ({ frames := 0, cells := 0, slots := 0, locals := 0 } : Room) s m #[(.int q0), (.int q1)] below meth c s₁ [] 0 0 := Stand.of_body Bd
  have e0 : s₁.heap = h0 := by rw [← hh, Bd.state]; rfl
  have N0 := Fr.nil n0
  show Goes p.tables e below s (Q2 q0 q1 h0 n0) 0 0 (s₁.setTop (entryFrame m #[(.int q0), (.int q1)] 2))
  refine Goes.of (fun t k => castTop (ef_2 m q0 q1) k) ?_
  show Goes _ _ _ _ _ _ _ (s₁.setTop (mkF m 0 #[.val (.int q0), .val (.int q1)] []))
  refine Goes.of (fun t k => XS.iloadN X0.here hx rfl (hb hby d2_0) rfl k) ?_
  show Goes _ _ _ _ _ _ _ (s₁.setTop (mkF m 1 #[.val (.int q0), .val (.int q1)] [(.int q0)]))
  by_cases hc1 : q0 = (0 : Int32)
  · refine Goes.of (fun t k => XS.ifYes X0.here hx rfl (pc0 := 1) (pc' := 6) rfl (hb hby d2_1) rfl ((if0 _ _).trans (teq hc1).1) (by decide) (by decide) k) ?_
    show Goes _ _ _ _ _ _ _ (s₁.setTop (mkF m 6 #[.val (.int q0), .val (.int q1)] []))
    refine Goes.of (fun t k => XS.iloadN X0.here hx rfl (hb hby d2_6) rfl k) ?_
    show Goes _ _ _ _ _ _ _ (s₁.setTop (mkF m 7 #[.val (.int q0), .val (.int q1)] [(.int q1)]))
    by_cases hc2 : q1 < (0 : Int32)
    · refine Goes.of (fun t k => XS.ifNo X0.here hx rfl (hb hby d2_7) rfl ((if0 _ _).trans (tlt hc2).2.1) k) ?_
      show Goes _ _ _ _ _ _ _ (s₁.setTop (mkF m 10 #[.val (.int q0), .val (.int q1)] []))
      refine Goes.of (fun t k => XS.iconst X0.here hx rfl (hb hby d2_10) k) ?_
      show Goes _ _ _ _ _ _ _ (s₁.setTop (mkF m 11 #[.val (.int q0), .val (.int q1)] [(.int (0 : Int32))]))
      exact Goes.fin X0 hlk (v := some (.int (0 : Int32))) (fun h => by rw [Bd.returns] at h; cases h) (fun fs hr => retN X0 hx (t := .boolean) Bd.returns (by simp) (hb hby d2_11) hr) ⟨congrArg (fun z => some (Value.int z)) (by rw [f2, if_pos hc1, if_pos hc2] : (0 : Int32) = f2 q0 q1), N0, e0⟩ (by decide) (by decide)
    · refine Goes.of (fun t k => XS.ifYes X0.here hx rfl (pc0 := 7) (pc' := 12) rfl (hb hby d2_7) rfl ((if0 _ _).trans (flt hc2).2.1) (by decide) (by decide) k) ?_
      show Goes _ _ _ _ _ _ _ (s₁.setTop (mkF m 12 #[.val (.int q0), .val (.int q1)] []))
      refine Goes.of (fun t k => XS.iconst X0.here hx rfl (hb hby d2_12) k) ?_
      show Goes _ _ _ _ _ _ _ (s₁.setTop (mkF m 13 #[.val (.int q0), .val (.int q1)] [(.int (1 : Int32))]))
      exact Goes.fin X0 hlk (v := some (.int (1 : Int32))) (fun h => by rw [Bd.returns] at h; cases h) (fun fs hr => retN X0 hx (t := .boolean) Bd.returns (by simp) (hb hby d2_13) hr) ⟨congrArg (fun z => some (Value.int z)) (by rw [f2, if_pos hc1, if_neg hc2] : (1 : Int32) = f2 q0 q1), N0, e0⟩ (by decide) (by decide)
  · refine Goes.of (fun t k => XS.ifNo X0.here hx rfl (hb hby d2_1) rfl ((if0 _ _).trans (feq hc1).1) k) ?_
    show Goes _ _ _ _ _ _ _ (s₁.setTop (mkF m 4 #[.val (.int q0), .val (.int q1)] []))
    refine Goes.of (fun t k => XS.iconst X0.here hx rfl (hb hby d2_4) k) ?_
    show Goes _ _ _ _ _ _ _ (s₁.setTop (mkF m 5 #[.val (.int q0), .val (.int q1)] [(.int (1 : Int32))]))
    exact Goes.fin X0 hlk (v := some (.int (1 : Int32))) (fun h => by rw [Bd.returns] at h; cases h) (fun fs hr => retN X0 hx (t := .boolean) Bd.returns (by simp) (hb hby d2_5) hr) ⟨congrArg (fun z => some (Value.int z)) (by rw [f2, if_neg hc1] : (1 : Int32) = f2 q0 q1), N0, e0⟩ (by decide) (by decide)
def G1 (f : Nat → Int32) (g : Nat → Int32) (j : Nat) : Int32 := if f j = (0 : Int32) then (if g j < (0 : Int32) then (0 : Int32) else (1 : Int32)) else (1 : Int32)
theorem d1_0 : decode prog_34_method_13_code 0 = .ok (.aload_n 0, 1) := by decide +kernel
theorem d1_1 : decode prog_34_method_13_code 1 = .ok (.arraylength, 1) := by decide +kernel
theorem d1_2 : decode prog_34_method_13_code 2 = .ok (.newarray .boolean, 2) := by decide +kernel
theorem d1_4 : decode prog_34_method_13_code 4 = .ok (.astore_n 2, 1) := by decide +kernel
theorem d1_5 : decode prog_34_method_13_code 5 = .ok (.iconst 0, 1) := by decide +kernel
theorem d1_6 : decode prog_34_method_13_code 6 = .ok (.istore_n 3, 1) := by decide +kernel
theorem d1_7 : decode prog_34_method_13_code 7 = .ok (.iload_n 3, 1) := by decide +kernel
theorem d1_8 : decode prog_34_method_13_code 8 = .ok (.aload_n 2, 1) := by decide +kernel
theorem d1_9 : decode prog_34_method_13_code 9 = .ok (.arraylength, 1) := by decide +kernel
theorem d1_10 : decode prog_34_method_13_code 10 = .ok (.if_icmp .ge 29, 3) := by decide +kernel
theorem d1_13 : decode prog_34_method_13_code 13 = .ok (.aload_n 2, 1) := by decide +kernel
theorem d1_14 : decode prog_34_method_13_code 14 = .ok (.iload_n 3, 1) := by decide +kernel
theorem d1_15 : decode prog_34_method_13_code 15 = .ok (.aload_n 0, 1) := by decide +kernel
theorem d1_16 : decode prog_34_method_13_code 16 = .ok (.iload_n 3, 1) := by decide +kernel
theorem d1_17 : decode prog_34_method_13_code 17 = .ok (.baload, 1) := by decide +kernel
theorem d1_18 : decode prog_34_method_13_code 18 = .ok (.ifCond .ne 9, 3) := by decide +kernel
theorem d1_21 : decode prog_34_method_13_code 21 = .ok (.aload_n 1, 1) := by decide +kernel
theorem d1_22 : decode prog_34_method_13_code 22 = .ok (.iload_n 3, 1) := by decide +kernel
theorem d1_23 : decode prog_34_method_13_code 23 = .ok (.iaload, 1) := by decide +kernel
theorem d1_24 : decode prog_34_method_13_code 24 = .ok (.ifCond .lt 7, 3) := by decide +kernel
theorem d1_27 : decode prog_34_method_13_code 27 = .ok (.iconst 1, 1) := by decide +kernel
theorem d1_28 : decode prog_34_method_13_code 28 = .ok (.goto 4, 3) := by decide +kernel
theorem d1_31 : decode prog_34_method_13_code 31 = .ok (.iconst 0, 1) := by decide +kernel
theorem d1_32 : decode prog_34_method_13_code 32 = .ok (.bastore, 1) := by decide +kernel
theorem d1_33 : decode prog_34_method_13_code 33 = .ok (.iinc 3 1, 3) := by decide +kernel
theorem d1_36 : decode prog_34_method_13_code 36 = .ok (.goto (-29), 3) := by decide +kernel
theorem d1_39 : decode prog_34_method_13_code 39 = .ok (.aload_n 2, 1) := by decide +kernel
theorem d1_40 : decode prog_34_method_13_code 40 = .ok (.areturn, 1) := by decide +kernel
theorem pn_1 : plainName "com/example/network_attack_odds/networkattackodds/engine/GoalGraph" = true := by first | (simp [plainName, overriddenIn]; done) | decide +kernel
theorem ef_1 (m : MethodId) (a : Addr) (b : Addr) : entryFrame m #[(.ref a), (.ref b)] 4 = mkF m 0 #[.val (.ref a), .val (.ref b), .unset, .unset] [] := by first | (simp [entryFrame, mkF, argsToLocals, Value.category]; done) | rfl
def Q1 (Z : State) (n : Nat) (f g : Nat → Int32) (h0 : Heap) (n0 : Nat) (v : Option Value) (h : Heap) (L : List Loc) : Prop := ∃ r : Addr, v = some (.ref r) ∧ Fr n0 L ∧ Keep h0 h [] ∧ h0.size ≤ r ∧ AI Z h r .boolean n (G1 f g)
set_option maxRecDepth 65536 in
set_option maxHeartbeats 40000000 in
theorem rm1 (l : Launch) (Z : State) (a0 : Array Value) (hw : ∀ d ∈ tables_1, d.before a0 Z = true) (ws : List Jvm.Cond) (a : Addr) (b : Addr) (n : Nat) (z : Int32) (f g : Nat → Int32) (h0 : Heap) (n0 : Nat) (Z0 : n0 ≤ h0.size) (V_a : AI Z h0 a .boolean n f) (V_b : AI Z h0 b .int n g) (hz : z.toInt = n) (hcap : n ≤ 3) :
    MetFree l (⟨"com/example/network_attack_odds/networkattackodds/engine/GoalGraph", "reached", "([Z[I)[Z"⟩ : MethodName) (head1 (Jvm.Cond.code (⟨"com/example/network_attack_odds/networkattackodds/engine/GoalGraph", "reached", "([Z[I)[Z"⟩ : MethodName) prog_34_method_13_code 4 (some (.array .boolean)) :: ws) ({ frames := 0, cells := 1, slots := 3, locals := 0 } : Room)) (fun ar' Ur => ar' = #[(.ref a), (.ref b)] ∧ Z.Warmed39 Ur.vm ∧ Ur.heap = h0) (fun _ _ _ _ _ => True) (fun _ Ur or' Us => ∃ v L, or' = .returned v ∧ Q1 Z n f g h0 n0 v Us.heap L ∧ FrameEnd Ur or' Us L 1 3) := by
  refine MetFree.of_bodySF (plainFor_of_name pn_1) hisR ?_
  intro p e s m args below meth c s₁ Bd hml0 hP hK
  obtain ⟨rfl, hZ, hh⟩ := hP
  have hx := Bd.exec
  have hby := Bd.bytes
  have hlk : meth.locks = false := BodyLoose.notSynchronized Bd
  have hml : c.maxLocals = 4 := hml0
  have hown : s.vm.findClass "com/example/network_attack_odds/networkattackodds/engine/GoalGraph" = some m.cls := findClass_of_methodNamed Bd.named
  have hnm := (name_of_methodNamed Bd.named Bd.method).1
  have X0 : Stand p l e ({ frames := 0, cells := 1, slots := 3, locals := 0 } : Room) s m #[(.ref a), (.ref b)] below meth c s₁ [] 0 0 := Stand.of_body Bd
  have e0 : s₁.heap = h0 := by rw [← hh, Bd.state]; rfl
  have N0 := Fr.nil n0
  show Goes p.tables e below s (Q1 Z n f g h0 n0) 1 3 (s₁.setTop (entryFrame m #[(.ref a), (.ref b)] 4))
  refine Goes.of (fun t k => castTop (ef_1 m a b) k) ?_
  show Goes _ _ _ _ _ _ _ (s₁.setTop (mkF m 0 #[.val (.ref a), .val (.ref b), .unset, .unset] []))
  refine Goes.of (fun t k => XS.aloadN X0.here hx rfl (hb hby d1_0) rfl rfl k) ?_
  show Goes _ _ _ _ _ _ _ (s₁.setTop (mkF m 1 #[.val (.ref a), .val (.ref b), .unset, .unset] [(.ref a)]))
  refine Goes.of (fun t k => lenA X0 hx hZ e0 V_a (z := z) hz (g := (mkF m 1 #[.val (.ref a), .val (.ref b), .unset, .unset] [(.ref a)])) rfl rfl (hb hby d1_1) t k) ?_
  show Goes _ _ _ _ _ _ _ (s₁.setTop (mkF m 2 #[.val (.ref a), .val (.ref b), .unset, .unset] [(.int z)]))
  obtain ⟨T3, h3, k3, X3, e3, E3, A3, Ea3, st3⟩ := newPE X0 hx hZ (hw _ (List.mem_of_getElem? (i := 0) rfl)) e0 (g := (mkF m 2 #[.val (.ref a), .val (.ref b), .unset, .unset] [(.int z)])) rfl (hb hby d1_2) rfl (own_nn (by omega)) (cap := 3) (by rw [own_tn hz]; exact hcap) (by decide) (by decide) (by decide) (ad := "[Z") (by decide)
  obtain ⟨b3, g3⟩ : ∃ z, z = h0.size := ⟨_, rfl⟩
  rw [← g3] at A3 Ea3 st3
  have V3 : AI Z h3 b3 .boolean n (fun _ => 0) := AI.new rfl rfl A3 (own_nn (by omega)) (own_tn hz)
  have ne_a_b3 : a ≠ b3 := Nat.ne_of_lt (Nat.lt_of_lt_of_le V_a.lt (Nat.le_of_eq g3.symm))
  have ne_b_b3 : b ≠ b3 := Nat.ne_of_lt (Nat.lt_of_lt_of_le V_b.lt (Nat.le_of_eq g3.symm))
  have g_b3 : n0 ≤ b3 := Nat.le_trans Z0 (Nat.le_of_eq g3.symm)
  have sz_b3 : h0.size ≤ b3 := Nat.le_trans (Keep.refl h0 []).1 (Nat.le_of_eq g3.symm)
  have F4 := V_a.ext E3
  have F5 := V_b.ext E3
  have Z3 : n0 ≤ h3.size := Nat.le_trans Z0 E3.1
  have K3 : Keep h0 h3 [] := (Keep.refl h0 []).ext E3
  refine Goes.of st3 ?_
  show Goes _ _ _ _ _ _ _ (T3.setTop (mkF m 4 #[.val (.ref a), .val (.ref b), .unset, .unset] [(.ref b3)]))
  refine Goes.of (fun t k => XS.astoreN X3.here hx rfl (hb hby d1_4) rfl rfl (l' := #[.val (.ref a), .val (.ref b), .val (.ref b3), .unset]) rfl k) ?_
  show Goes _ _ _ _ _ _ _ (T3.setTop (mkF m 5 #[.val (.ref a), .val (.ref b), .val (.ref b3), .unset] []))
  refine Goes.of (fun t k => XS.iconst X3.here hx rfl (hb hby d1_5) k) ?_
  show Goes _ _ _ _ _ _ _ (T3.setTop (mkF m 6 #[.val (.ref a), .val (.ref b), .val (.ref b3), .unset] [(.int (0 : Int32))]))
  refine Goes.of (fun t k => XS.istoreN X3.here hx rfl (hb hby d1_6) rfl (l' := #[.val (.ref a), .val (.ref b), .val (.ref b3), .val (.int (0 : Int32))]) rfl k) ?_
  show Goes _ _ _ _ _ _ _ (T3.setTop (mkF m 7 #[.val (.ref a), .val (.ref b), .val (.ref b3), .val (.int (0 : Int32))] []))
  have hn31 : n < 2147483648 := by obtain ⟨_, _, _, M, _⟩ := V_a; exact M
  have loop : ∀ (k : Nat), ∀ (i : Int32) (TT : State) (hp : Heap) (lc : List Loc), Stand p l e ({ frames := 0, cells := 1, slots := 3, locals := 0 } : Room) s m #[(.ref a), (.ref b)] below meth c TT lc 1 3 → TT.heap = hp → Fr n0 lc → Keep h0 hp [] → AI Z hp b3 .boolean n (fun j => if j + k < n then (G1 f g) j else 0) → i.toInt + (k : Nat) = n → 0 ≤ i.toInt → Goes p.tables e below s (Q1 Z n f g h0 n0) 1 3 (TT.setTop (mkF m 7 #[.val (.ref a), .val (.ref b), .val (.ref b3), .val (.int i)] [])) := by
    intro k
    induction k with
    | zero =>
      intro i TT hp lc XT eT NT KT VT hi hnn
      have ZT : n0 ≤ hp.size := Nat.le_trans Z0 KT.1
      have FT_a := V_a.keep KT nin0
      have FT_b := V_b.keep KT nin0
      have hlt : ¬ i < z := own_nlt (by omega)
      show Goes _ _ _ _ _ _ _ (TT.setTop (mkF m 7 #[.val (.ref a), .val (.ref b), .val (.ref b3), .val (.int i)] []))
      refine Goes.of (fun t k => XS.iloadN XT.here hx rfl (hb hby d1_7) rfl k) ?_
      show Goes _ _ _ _ _ _ _ (TT.setTop (mkF m 8 #[.val (.ref a), .val (.ref b), .val (.ref b3), .val (.int i)] [(.int i)]))
      refine Goes.of (fun t k => XS.aloadN XT.here hx rfl (hb hby d1_8) rfl rfl k) ?_
      show Goes _ _ _ _ _ _ _ (TT.setTop (mkF m 9 #[.val (.ref a), .val (.ref b), .val (.ref b3), .val (.int i)] [(.ref b3), (.int i)]))
      refine Goes.of (fun t k => lenA XT hx hZ eT VT (z := z) hz (g := (mkF m 9 #[.val (.ref a), .val (.ref b), .val (.ref b3), .val (.int i)] [(.ref b3), (.int i)])) rfl rfl (hb hby d1_9) t k) ?_
      show Goes _ _ _ _ _ _ _ (TT.setTop (mkF m 10 #[.val (.ref a), .val (.ref b), .val (.ref b3), .val (.int i)] [(.int z), (.int i)]))
      refine Goes.of (fun t k => XS.icmpYes XT.here hx rfl (pc0 := 10) (pc' := 39) rfl (hb hby d1_10) rfl (flt hlt).2.1 (by decide) (by decide) k) ?_
      show Goes _ _ _ _ _ _ _ (TT.setTop (mkF m 39 #[.val (.ref a), .val (.ref b), .val (.ref b3), .val (.int i)] []))
      refine Goes.of (fun t k => XS.aloadN XT.here hx rfl (hb hby d1_39) rfl rfl k) ?_
      show Goes _ _ _ _ _ _ _ (TT.setTop (mkF m 40 #[.val (.ref a), .val (.ref b), .val (.ref b3), .val (.int i)] [(.ref b3)]))
      exact Goes.fin XT hlk (v := some (.ref b3)) (fun h => by rw [Bd.returns] at h; cases h) (fun fs hr => retOut XT hx Bd.returns (by rfl) (Or.inr (Or.inr (Or.inr (Or.inr ⟨rfl, rfl, rfl⟩)))) (hb hby d1_40) hr) (by rw [eT]; exact ⟨b3, rfl, NT, KT, sz_b3, VT.congr fun j hj => if_pos hj⟩) (by decide) (by decide)
    | succ k ih =>
      intro i TT hp lc XT eT NT KT VT hi hnn
      have ZT : n0 ≤ hp.size := Nat.le_trans Z0 KT.1
      have FT_a := V_a.keep KT nin0
      have FT_b := V_b.keep KT nin0
      have hlt : i < z := own_ilt (by omega)
      show Goes _ _ _ _ _ _ _ (TT.setTop (mkF m 7 #[.val (.ref a), .val (.ref b), .val (.ref b3), .val (.int i)] []))
      refine Goes.of (fun t k => XS.iloadN XT.here hx rfl (hb hby d1_7) rfl k) ?_
      show Goes _ _ _ _ _ _ _ (TT.setTop (mkF m 8 #[.val (.ref a), .val (.ref b), .val (.ref b3), .val (.int i)] [(.int i)]))
      refine Goes.of (fun t k => XS.aloadN XT.here hx rfl (hb hby d1_8) rfl rfl k) ?_
      show Goes _ _ _ _ _ _ _ (TT.setTop (mkF m 9 #[.val (.ref a), .val (.ref b), .val (.ref b3), .val (.int i)] [(.ref b3), (.int i)]))
      refine Goes.of (fun t k => lenA XT hx hZ eT VT (z := z) hz (g := (mkF m 9 #[.val (.ref a), .val (.ref b), .val (.ref b3), .val (.int i)] [(.ref b3), (.int i)])) rfl rfl (hb hby d1_9) t k) ?_
      show Goes _ _ _ _ _ _ _ (TT.setTop (mkF m 10 #[.val (.ref a), .val (.ref b), .val (.ref b3), .val (.int i)] [(.int z), (.int i)]))
      refine Goes.of (fun t k => XS.icmpNo XT.here hx rfl (hb hby d1_10) rfl (tlt hlt).2.1 k) ?_
      show Goes _ _ _ _ _ _ _ (TT.setTop (mkF m 13 #[.val (.ref a), .val (.ref b), .val (.ref b3), .val (.int i)] []))
      refine Goes.of (fun t k => XS.aloadN XT.here hx rfl (hb hby d1_13) rfl rfl k) ?_
      show Goes _ _ _ _ _ _ _ (TT.setTop (mkF m 14 #[.val (.ref a), .val (.ref b), .val (.ref b3), .val (.int i)] [(.ref b3)]))
      refine Goes.of (fun t k => XS.iloadN XT.here hx rfl (hb hby d1_14) rfl k) ?_
      show Goes _ _ _ _ _ _ _ (TT.setTop (mkF m 15 #[.val (.ref a), .val (.ref b), .val (.ref b3), .val (.int i)] [(.int i), (.ref b3)]))
      refine Goes.of (fun t k => XS.aloadN XT.here hx rfl (hb hby d1_15) rfl rfl k) ?_
      show Goes _ _ _ _ _ _ _ (TT.setTop (mkF m 16 #[.val (.ref a), .val (.ref b), .val (.ref b3), .val (.int i)] [(.ref a), (.int i), (.ref b3)]))
      refine Goes.of (fun t k => XS.iloadN XT.here hx rfl (hb hby d1_16) rfl k) ?_
      show Goes _ _ _ _ _ _ _ (TT.setTop (mkF m 17 #[.val (.ref a), .val (.ref b), .val (.ref b3), .val (.int i)] [(.int i), (.ref a), (.int i), (.ref b3)]))
      refine Goes.of (fun t k => ldZ XT hx hZ eT FT_a (j := i) (i := i.toNatClampNeg) (v := (f i.toNatClampNeg)) (own_nn (by omega)) rfl (own_ltn (by omega) (by omega)) rfl (g := (mkF m 17 #[.val (.ref a), .val (.ref b), .val (.ref b3), .val (.int i)] [(.int i), (.ref a), (.int i), (.ref b3)])) rfl rfl (hb hby d1_17) t k) ?_
      show Goes _ _ _ _ _ _ _ (TT.setTop (mkF m 18 #[.val (.ref a), .val (.ref b), .val (.ref b3), .val (.int i)] [(.int (f i.toNatClampNeg)), (.int i), (.ref b3)]))
      by_cases hc6 : (f i.toNatClampNeg) = (0 : Int32)
      · refine Goes.of (fun t k => XS.ifNo XT.here hx rfl (hb hby d1_18) rfl ((if0 _ _).trans (teq hc6).2) k) ?_
        show Goes _ _ _ _ _ _ _ (TT.setTop (mkF m 21 #[.val (.ref a), .val (.ref b), .val (.ref b3), .val (.int i)] [(.int i), (.ref b3)]))
        refine Goes.of (fun t k => XS.aloadN XT.here hx rfl (hb hby d1_21) rfl rfl k) ?_
        show Goes _ _ _ _ _ _ _ (TT.setTop (mkF m 22 #[.val (.ref a), .val (.ref b), .val (.ref b3), .val (.int i)] [(.ref b), (.int i), (.ref b3)]))
        refine Goes.of (fun t k => XS.iloadN XT.here hx rfl (hb hby d1_22) rfl k) ?_
        show Goes _ _ _ _ _ _ _ (TT.setTop (mkF m 23 #[.val (.ref a), .val (.ref b), .val (.ref b3), .val (.int i)] [(.int i), (.ref b), (.int i), (.ref b3)]))
        refine Goes.of (fun t k => ldI XT hx hZ eT FT_b (j := i) (i := i.toNatClampNeg) (v := (g i.toNatClampNeg)) (own_nn (by omega)) rfl (own_ltn (by omega) (by omega)) rfl (g := (mkF m 23 #[.val (.ref a), .val (.ref b), .val (.ref b3), .val (.int i)] [(.int i), (.ref b), (.int i), (.ref b3)])) rfl rfl (hb hby d1_23) t k) ?_
        show Goes _ _ _ _ _ _ _ (TT.setTop (mkF m 24 #[.val (.ref a), .val (.ref b), .val (.ref b3), .val (.int i)] [(.int (g i.toNatClampNeg)), (.int i), (.ref b3)]))
        by_cases hc7 : (g i.toNatClampNeg) < (0 : Int32)
        · refine Goes.of (fun t k => XS.ifYes XT.here hx rfl (pc0 := 24) (pc' := 31) rfl (hb hby d1_24) rfl ((if0 _ _).trans (tlt hc7).1) (by decide) (by decide) k) ?_
          show Goes _ _ _ _ _ _ _ (TT.setTop (mkF m 31 #[.val (.ref a), .val (.ref b), .val (.ref b3), .val (.int i)] [(.int i), (.ref b3)]))
          refine Goes.of (fun t k => XS.iconst XT.here hx rfl (hb hby d1_31) k) ?_
          show Goes _ _ _ _ _ _ _ (TT.setTop (mkF m 32 #[.val (.ref a), .val (.ref b), .val (.ref b3), .val (.int i)] [(.int (0 : Int32)), (.int i), (.ref b3)]))
          obtain ⟨T8, h8, X8, e8, W8, V8, st8⟩ := putZ XT hx hZ eT VT (j := i) (x := (0 : Int32)) (i := i.toNatClampNeg) (own_nn (by omega)) rfl (own_ltn (by omega) (by omega)) (g := (mkF m 32 #[.val (.ref a), .val (.ref b), .val (.ref b3), .val (.int i)] [(.int (0 : Int32)), (.int i), (.ref b3)])) rfl rfl (hb hby d1_32)
          have F9 := FT_a.other W8 ne_a_b3
          have F10 := FT_b.other W8 ne_b_b3
          have Z8 : n0 ≤ h8.size := Nat.le_trans ZT (Keep.of_wr W8).1
          have K8 : Keep h0 h8 [] := KT.wr W8 (Or.inr sz_b3)
          have N8 := Fr.snoc X8 NT g_b3
          refine Goes.of st8 ?_
          show Goes _ _ _ _ _ _ _ (T8.setTop (mkF m 33 #[.val (.ref a), .val (.ref b), .val (.ref b3), .val (.int i)] []))
          refine Goes.of (fun t k => XS.iinc X8.here hx rfl (hb hby d1_33) rfl (l' := #[.val (.ref a), .val (.ref b), .val (.ref b3), .val (.int (i + (1 : Int32)))]) rfl k) ?_
          show Goes _ _ _ _ _ _ _ (T8.setTop (mkF m 36 #[.val (.ref a), .val (.ref b), .val (.ref b3), .val (.int (i + (1 : Int32)))] []))
          refine Goes.of (fun t k => XS.goto X8.here hx rfl (pc0 := 36) (pc' := 7) rfl (hb hby d1_36) (by decide) (by decide) k) ?_
          show Goes _ _ _ _ _ _ _ (T8.setTop (mkF m 7 #[.val (.ref a), .val (.ref b), .val (.ref b3), .val (.int (i + (1 : Int32)))] []))
          exact ih _ _ _ _ X8 e8 N8 K8 (V8.congr (own_turn (by have := nat_of (own_nn (j := i) hnn); omega) (by rw [G1, if_pos hc6, if_pos hc7]; rfl))) (by rw [own_inc (by omega)]; omega) (by rw [own_inc (by omega)]; omega)
        · refine Goes.of (fun t k => XS.ifNo XT.here hx rfl (hb hby d1_24) rfl ((if0 _ _).trans (flt hc7).1) k) ?_
          show Goes _ _ _ _ _ _ _ (TT.setTop (mkF m 27 #[.val (.ref a), .val (.ref b), .val (.ref b3), .val (.int i)] [(.int i), (.ref b3)]))
          refine Goes.of (fun t k => XS.iconst XT.here hx rfl (hb hby d1_27) k) ?_
          show Goes _ _ _ _ _ _ _ (TT.setTop (mkF m 28 #[.val (.ref a), .val (.ref b), .val (.ref b3), .val (.int i)] [(.int (1 : Int32)), (.int i), (.ref b3)]))
          refine Goes.of (fun t k => XS.goto XT.here hx rfl (pc0 := 28) (pc' := 32) rfl (hb hby d1_28) (by decide) (by decide) k) ?_
          show Goes _ _ _ _ _ _ _ (TT.setTop (mkF m 32 #[.val (.ref a), .val (.ref b), .val (.ref b3), .val (.int i)] [(.int (1 : Int32)), (.int i), (.ref b3)]))
          obtain ⟨T11, h11, X11, e11, W11, V11, st11⟩ := putZ XT hx hZ eT VT (j := i) (x := (1 : Int32)) (i := i.toNatClampNeg) (own_nn (by omega)) rfl (own_ltn (by omega) (by omega)) (g := (mkF m 32 #[.val (.ref a), .val (.ref b), .val (.ref b3), .val (.int i)] [(.int (1 : Int32)), (.int i), (.ref b3)])) rfl rfl (hb hby d1_32)
          have F12 := FT_a.other W11 ne_a_b3
          have F13 := FT_b.other W11 ne_b_b3
          have Z11 : n0 ≤ h11.size := Nat.le_trans ZT (Keep.of_wr W11).1
          have K11 : Keep h0 h11 [] := KT.wr W11 (Or.inr sz_b3)
          have N11 := Fr.snoc X11 NT g_b3
          refine Goes.of st11 ?_
          show Goes _ _ _ _ _ _ _ (T11.setTop (mkF m 33 #[.val (.ref a), .val (.ref b), .val (.ref b3), .val (.int i)] []))
          refine Goes.of (fun t k => XS.iinc X11.here hx rfl (hb hby d1_33) rfl (l' := #[.val (.ref a), .val (.ref b), .val (.ref b3), .val (.int (i + (1 : Int32)))]) rfl k) ?_
          show Goes _ _ _ _ _ _ _ (T11.setTop (mkF m 36 #[.val (.ref a), .val (.ref b), .val (.ref b3), .val (.int (i + (1 : Int32)))] []))
          refine Goes.of (fun t k => XS.goto X11.here hx rfl (pc0 := 36) (pc' := 7) rfl (hb hby d1_36) (by decide) (by decide) k) ?_
          show Goes _ _ _ _ _ _ _ (T11.setTop (mkF m 7 #[.val (.ref a), .val (.ref b), .val (.ref b3), .val (.int (i + (1 : Int32)))] []))
          exact ih _ _ _ _ X11 e11 N11 K11 (V11.congr (own_turn (by have := nat_of (own_nn (j := i) hnn); omega) (by rw [G1, if_pos hc6, if_neg hc7]; rfl))) (by rw [own_inc (by omega)]; omega) (by rw [own_inc (by omega)]; omega)
      · refine Goes.of (fun t k => XS.ifYes XT.here hx rfl (pc0 := 18) (pc' := 27) rfl (hb hby d1_18) rfl ((if0 _ _).trans (feq hc6).2) (by decide) (by decide) k) ?_
        show Goes _ _ _ _ _ _ _ (TT.setTop (mkF m 27 #[.val (.ref a), .val (.ref b), .val (.ref b3), .val (.int i)] [(.int i), (.ref b3)]))
        refine Goes.of (fun t k => XS.iconst XT.here hx rfl (hb hby d1_27) k) ?_
        show Goes _ _ _ _ _ _ _ (TT.setTop (mkF m 28 #[.val (.ref a), .val (.ref b), .val (.ref b3), .val (.int i)] [(.int (1 : Int32)), (.int i), (.ref b3)]))
        refine Goes.of (fun t k => XS.goto XT.here hx rfl (pc0 := 28) (pc' := 32) rfl (hb hby d1_28) (by decide) (by decide) k) ?_
        show Goes _ _ _ _ _ _ _ (TT.setTop (mkF m 32 #[.val (.ref a), .val (.ref b), .val (.ref b3), .val (.int i)] [(.int (1 : Int32)), (.int i), (.ref b3)]))
        obtain ⟨T14, h14, X14, e14, W14, V14, st14⟩ := putZ XT hx hZ eT VT (j := i) (x := (1 : Int32)) (i := i.toNatClampNeg) (own_nn (by omega)) rfl (own_ltn (by omega) (by omega)) (g := (mkF m 32 #[.val (.ref a), .val (.ref b), .val (.ref b3), .val (.int i)] [(.int (1 : Int32)), (.int i), (.ref b3)])) rfl rfl (hb hby d1_32)
        have F15 := FT_a.other W14 ne_a_b3
        have F16 := FT_b.other W14 ne_b_b3
        have Z14 : n0 ≤ h14.size := Nat.le_trans ZT (Keep.of_wr W14).1
        have K14 : Keep h0 h14 [] := KT.wr W14 (Or.inr sz_b3)
        have N14 := Fr.snoc X14 NT g_b3
        refine Goes.of st14 ?_
        show Goes _ _ _ _ _ _ _ (T14.setTop (mkF m 33 #[.val (.ref a), .val (.ref b), .val (.ref b3), .val (.int i)] []))
        refine Goes.of (fun t k => XS.iinc X14.here hx rfl (hb hby d1_33) rfl (l' := #[.val (.ref a), .val (.ref b), .val (.ref b3), .val (.int (i + (1 : Int32)))]) rfl k) ?_
        show Goes _ _ _ _ _ _ _ (T14.setTop (mkF m 36 #[.val (.ref a), .val (.ref b), .val (.ref b3), .val (.int (i + (1 : Int32)))] []))
        refine Goes.of (fun t k => XS.goto X14.here hx rfl (pc0 := 36) (pc' := 7) rfl (hb hby d1_36) (by decide) (by decide) k) ?_
        show Goes _ _ _ _ _ _ _ (T14.setTop (mkF m 7 #[.val (.ref a), .val (.ref b), .val (.ref b3), .val (.int (i + (1 : Int32)))] []))
        exact ih _ _ _ _ X14 e14 N14 K14 (V14.congr (own_turn (by have := nat_of (own_nn (j := i) hnn); omega) (by rw [G1, if_neg hc6]; rfl))) (by rw [own_inc (by omega)]; omega) (by rw [own_inc (by omega)]; omega)
  exact loop n _ _ _ _ X3 e3 N0 K3 (V3.congr fun j hj => (if_neg (by omega)).symm) (by rw [show (0 : Int32).toInt = 0 from rfl]; omega) (by decide)
theorem own_t1 {t : Int32} (h : t = (0 : Int32) ∨ t = (1 : Int32)) : (t &&& 1) = t := by rcases h with rfl | rfl <;> rfl
def own_re (t c : Int32) : Int32 := if (t &&& 1) = (0 : Int32) then (if c < (0 : Int32) then (0 : Int32) else (1 : Int32)) else (1 : Int32)
theorem own_req {t : Int32} (c : Int32) (h : t = (0 : Int32) ∨ t = (1 : Int32)) : own_re t c = f2 t c := by
  unfold own_re f2
  rw [own_t1 h]
theorem own_3 (u : Int32) : (u &&& (3 : Int32)) = 0 ∨ (u &&& (3 : Int32)) = 1 ∨ (u &&& (3 : Int32)) = 2 ∨ (u &&& (3 : Int32)) = 3 := by
  have m := c_and u 3 (by decide)
  rw [show (3 : Int32).toInt = 3 from rfl] at m
  simp only [← Int32.toInt_inj, Int32.reduceToInt]
  omega
theorem pd_0 : parseMethodDescriptor "([Z[I)[Z" = some ⟨[(.array .boolean), (.array .int)], some (.array .boolean)⟩ := by decide +kernel
theorem pd_1 : parseMethodDescriptor "(ZI)Z" = some ⟨[.boolean, .int], some .boolean⟩ := by decide +kernel
theorem ef_0 (m : MethodId) (u0 : Int32) (u1 : Int32) (u2 : Int32) (u3 : Int32) : entryFrame m #[(.int u0), (.int u1), (.int u2), (.int u3)] maxLocals = mkF m 0 #[.val (.int u0), .val (.int u1), .val (.int u2), .val (.int u3), .unset, .unset, .unset, .unset, .unset, .unset, .unset, .unset] [] := by first | (simp [entryFrame, mkF, argsToLocals, Value.category, maxLocals]; done) | rfl
def Q0 (n0 : Nat) (v : Option Value) (h : Heap) (L : List Loc) : Prop := v = some (.int 1) ∧ Fr n0 L
set_option maxRecDepth 65536 in
set_option maxHeartbeats 40000000 in
theorem rm0 (l : Launch) (Z : State) (a0 : Array Value) (hw : ∀ d ∈ tables_1, d.before a0 Z = true) (ws : List Jvm.Cond) (u0 : Int32) (u1 : Int32) (u2 : Int32) (u3 : Int32) (h0 : Heap) (n0 : Nat) (Z0 : n0 ≤ h0.size) :
    MetFree l x (head1 (Jvm.Cond.code x code maxLocals ret :: ws) room_1) (fun ar' Ur => ar' = #[(.int u0), (.int u1), (.int u2), (.int u3)] ∧ Z.Warmed39 Ur.vm ∧ Ur.heap = h0) (fun _ _ _ _ _ => True) (fun _ Ur or' Us => ∃ v L, or' = .returned v ∧ Q0 n0 v Us.heap L ∧ FrameEnd Ur or' Us L room_1.cells room_1.slots) := by
  refine MetFree.of_bodySF (plainFor_of_name pn_0) hisR ?_
  intro p e s m args below meth c s₁ Bd hml0 hP hK
  obtain ⟨rfl, hZ, hh⟩ := hP
  have hx := Bd.exec
  have hby := Bd.bytes
  have hlk : meth.locks = false := BodyLoose.notSynchronized Bd
  have hml : c.maxLocals = 12 := hml0
  have hown : s.vm.findClass "com/example/network_attack_odds/networkattackodds/engine/GoalGraphReachedPinLaw" = some m.cls := findClass_of_methodNamed Bd.named
  have hnm := (name_of_methodNamed Bd.named Bd.method).1
  have X0 : Stand p l e room_1 s m #[(.int u0), (.int u1), (.int u2), (.int u3)] below meth c s₁ [] 0 0 := Stand.of_body Bd
  have e0 : s₁.heap = h0 := by rw [← hh, Bd.state]; rfl
  have N0 := Fr.nil n0
  show Goes p.tables e below s (Q0 n0) room_1.cells room_1.slots (s₁.setTop (entryFrame m #[(.int u0), (.int u1), (.int u2), (.int u3)] maxLocals))
  refine Goes.of (fun t k => castTop (ef_0 m u0 u1 u2 u3) k) ?_
  show Goes _ _ _ _ _ _ _ (s₁.setTop (mkF m 0 #[.val (.int u0), .val (.int u1), .val (.int u2), .val (.int u3), .unset, .unset, .unset, .unset, .unset, .unset, .unset, .unset] []))
  refine Goes.of (fun t k => XS.iloadN X0.here hx rfl (hb hby at_0) rfl k) ?_
  show Goes _ _ _ _ _ _ _ (s₁.setTop (mkF m 1 #[.val (.int u0), .val (.int u1), .val (.int u2), .val (.int u3), .unset, .unset, .unset, .unset, .unset, .unset, .unset, .unset] [(.int u0)]))
  refine Goes.of (fun t k => XS.iconst X0.here hx rfl (hb hby at_1) k) ?_
  show Goes _ _ _ _ _ _ _ (s₁.setTop (mkF m 2 #[.val (.int u0), .val (.int u1), .val (.int u2), .val (.int u3), .unset, .unset, .unset, .unset, .unset, .unset, .unset, .unset] [(.int (3 : Int32)), (.int u0)]))
  refine Goes.of (fun t k => XS.iushr X0.here hx rfl (hb hby at_2) rfl k) ?_
  show Goes _ _ _ _ _ _ _ (s₁.setTop (mkF m 3 #[.val (.int u0), .val (.int u1), .val (.int u2), .val (.int u3), .unset, .unset, .unset, .unset, .unset, .unset, .unset, .unset] [(.int ((u0.toUInt32 >>> ((3 : Int32) &&& 31).toUInt32).toInt32))]))
  refine Goes.of (fun t k => XS.iconst X0.here hx rfl (hb hby at_3) k) ?_
  show Goes _ _ _ _ _ _ _ (s₁.setTop (mkF m 4 #[.val (.int u0), .val (.int u1), .val (.int u2), .val (.int u3), .unset, .unset, .unset, .unset, .unset, .unset, .unset, .unset] [(.int (3 : Int32)), (.int ((u0.toUInt32 >>> ((3 : Int32) &&& 31).toUInt32).toInt32))]))
  refine Goes.of (fun t k => XS.iand X0.here hx rfl (hb hby at_4) rfl k) ?_
  show Goes _ _ _ _ _ _ _ (s₁.setTop (mkF m 5 #[.val (.int u0), .val (.int u1), .val (.int u2), .val (.int u3), .unset, .unset, .unset, .unset, .unset, .unset, .unset, .unset] [(.int (((u0.toUInt32 >>> ((3 : Int32) &&& 31).toUInt32).toInt32) &&& (3 : Int32)))]))
  refine Goes.of (fun t k => XS.istore X0.here hx rfl (hb hby at_5) rfl (l' := #[.val (.int u0), .val (.int u1), .val (.int u2), .val (.int u3), .val (.int (((u0.toUInt32 >>> ((3 : Int32) &&& 31).toUInt32).toInt32) &&& (3 : Int32))), .unset, .unset, .unset, .unset, .unset, .unset, .unset]) rfl k) ?_
  show Goes _ _ _ _ _ _ _ (s₁.setTop (mkF m 7 #[.val (.int u0), .val (.int u1), .val (.int u2), .val (.int u3), .val (.int (((u0.toUInt32 >>> ((3 : Int32) &&& 31).toUInt32).toInt32) &&& (3 : Int32))), .unset, .unset, .unset, .unset, .unset, .unset, .unset] []))
  obtain ⟨zz, hy_zz⟩ : ∃ z, z = (((u0.toUInt32 >>> ((3 : Int32) &&& 31).toUInt32).toInt32) &&& (3 : Int32)) := ⟨_, rfl⟩
  rw [← hy_zz]
  show Goes _ _ _ _ _ _ _ (s₁.setTop (mkF m 7 #[.val (.int u0), .val (.int u1), .val (.int u2), .val (.int u3), .val (.int zz), .unset, .unset, .unset, .unset, .unset, .unset, .unset] []))
  have j17 : ∀ (T17 : State) (lc17 : List Loc) (t0 : Int32), Stand p l e room_1 s m #[(.int u0), (.int u1), (.int u2), (.int u3)] below meth c T17 lc17 0 0 → T17.heap = h0 → Fr n0 lc17 → (t0 = (0 : Int32) ∨ t0 = (1 : Int32)) → Goes p.tables e below s (Q0 n0) room_1.cells room_1.slots (T17.setTop (mkF m 20 #[.val (.int u0), .val (.int u1), .val (.int u2), .val (.int u3), .val (.int zz), .val (.int t0), .unset, .unset, .unset, .unset, .unset, .unset] [])) := by
    intro T17 lc17 t0 X17 e17 N17 hg17_t0_0
    show Goes _ _ _ _ _ _ _ (T17.setTop (mkF m 20 #[.val (.int u0), .val (.int u1), .val (.int u2), .val (.int u3), .val (.int zz), .val (.int t0), .unset, .unset, .unset, .unset, .unset, .unset] []))
    have j18 : ∀ (T18 : State) (lc18 : List Loc) (t1 : Int32), Stand p l e room_1 s m #[(.int u0), (.int u1), (.int u2), (.int u3)] below meth c T18 lc18 0 0 → T18.heap = h0 → Fr n0 lc18 → (t1 = (0 : Int32) ∨ t1 = (1 : Int32)) → Goes p.tables e below s (Q0 n0) room_1.cells room_1.slots (T18.setTop (mkF m 33 #[.val (.int u0), .val (.int u1), .val (.int u2), .val (.int u3), .val (.int zz), .val (.int t0), .val (.int t1), .unset, .unset, .unset, .unset, .unset] [])) := by
      intro T18 lc18 t1 X18 e18 N18 hg18_t1_0
      show Goes _ _ _ _ _ _ _ (T18.setTop (mkF m 33 #[.val (.int u0), .val (.int u1), .val (.int u2), .val (.int u3), .val (.int zz), .val (.int t0), .val (.int t1), .unset, .unset, .unset, .unset, .unset] []))
      have j19 : ∀ (T19 : State) (lc19 : List Loc) (t2 : Int32), Stand p l e room_1 s m #[(.int u0), (.int u1), (.int u2), (.int u3)] below meth c T19 lc19 0 0 → T19.heap = h0 → Fr n0 lc19 → (t2 = (0 : Int32) ∨ t2 = (1 : Int32)) → Goes p.tables e below s (Q0 n0) room_1.cells room_1.slots (T19.setTop (mkF m 46 #[.val (.int u0), .val (.int u1), .val (.int u2), .val (.int u3), .val (.int zz), .val (.int t0), .val (.int t1), .val (.int t2), .unset, .unset, .unset, .unset] [])) := by
        intro T19 lc19 t2 X19 e19 N19 hg19_t2_0
        show Goes _ _ _ _ _ _ _ (T19.setTop (mkF m 46 #[.val (.int u0), .val (.int u1), .val (.int u2), .val (.int u3), .val (.int zz), .val (.int t0), .val (.int t1), .val (.int t2), .unset, .unset, .unset, .unset] []))
        have h3 := own_3 ((u0.toUInt32 >>> ((3 : Int32) &&& 31).toUInt32).toInt32)
        rw [← hy_zz] at h3
        rcases h3 with h3 | h3 | h3 | h3
        · rw [h3]
          show Goes _ _ _ _ _ _ _ (T19.setTop (mkF m 46 #[.val (.int u0), .val (.int u1), .val (.int u2), .val (.int u3), .val (.int (0 : Int32)), .val (.int t0), .val (.int t1), .val (.int t2), .unset, .unset, .unset, .unset] []))
          refine Goes.of (fun t k => XS.iload X19.here hx rfl (hb hby at_46) rfl k) ?_
          show Goes _ _ _ _ _ _ _ (T19.setTop (mkF m 48 #[.val (.int u0), .val (.int u1), .val (.int u2), .val (.int u3), .val (.int (0 : Int32)), .val (.int t0), .val (.int t1), .val (.int t2), .unset, .unset, .unset, .unset] [(.int (0 : Int32))]))
          obtain ⟨T20, h20, k20, X20, e20, E20, A20, Ea20, st20⟩ := newPE X19 hx hZ (hw _ (List.mem_of_getElem? (i := 0) rfl)) e19 (g := (mkF m 48 #[.val (.int u0), .val (.int u1), .val (.int u2), .val (.int u3), .val (.int (0 : Int32)), .val (.int t0), .val (.int t1), .val (.int t2), .unset, .unset, .unset, .unset] [(.int (0 : Int32))])) rfl (hb hby at_48) rfl (by decide) (cap := 0) (by decide) (by decide) (by decide) (by decide) (ad := "[Z") (by decide)
          obtain ⟨b20, g20⟩ : ∃ z, z = h0.size := ⟨_, rfl⟩
          rw [← g20] at A20 Ea20 st20
          have V20 : AI Z h20 b20 .boolean 0 (fun _ => 0) := AI.new rfl rfl A20 (by decide) (by decide)
          have g_b20 : n0 ≤ b20 := Nat.le_trans Z0 (Nat.le_of_eq g20.symm)
          have Z20 : n0 ≤ h20.size := Nat.le_trans Z0 E20.1
          refine Goes.of st20 ?_
          show Goes _ _ _ _ _ _ _ (T20.setTop (mkF m 50 #[.val (.int u0), .val (.int u1), .val (.int u2), .val (.int u3), .val (.int (0 : Int32)), .val (.int t0), .val (.int t1), .val (.int t2), .unset, .unset, .unset, .unset] [(.ref b20)]))
          refine Goes.of (fun t k => XS.astore X20.here hx rfl (hb hby at_50) rfl rfl (l' := #[.val (.int u0), .val (.int u1), .val (.int u2), .val (.int u3), .val (.int (0 : Int32)), .val (.int t0), .val (.int t1), .val (.int t2), .val (.ref b20), .unset, .unset, .unset]) rfl k) ?_
          show Goes _ _ _ _ _ _ _ (T20.setTop (mkF m 52 #[.val (.int u0), .val (.int u1), .val (.int u2), .val (.int u3), .val (.int (0 : Int32)), .val (.int t0), .val (.int t1), .val (.int t2), .val (.ref b20), .unset, .unset, .unset] []))
          refine Goes.of (fun t k => XS.iload X20.here hx rfl (hb hby at_52) rfl k) ?_
          show Goes _ _ _ _ _ _ _ (T20.setTop (mkF m 54 #[.val (.int u0), .val (.int u1), .val (.int u2), .val (.int u3), .val (.int (0 : Int32)), .val (.int t0), .val (.int t1), .val (.int t2), .val (.ref b20), .unset, .unset, .unset] [(.int (0 : Int32))]))
          obtain ⟨T21, h21, k21, X21, e21, E21, A21, Ea21, st21⟩ := newPE X20 hx hZ (hw _ (List.mem_of_getElem? (i := 1) rfl)) e20 (g := (mkF m 54 #[.val (.int u0), .val (.int u1), .val (.int u2), .val (.int u3), .val (.int (0 : Int32)), .val (.int t0), .val (.int t1), .val (.int t2), .val (.ref b20), .unset, .unset, .unset] [(.int (0 : Int32))])) rfl (hb hby at_54) rfl (by decide) (cap := 0) (by decide) (by decide) (by decide) (by decide) (ad := "[I") (by decide)
          obtain ⟨b21, g21⟩ : ∃ z, z = h20.size := ⟨_, rfl⟩
          rw [← g21] at A21 Ea21 st21
          have V21 : AI Z h21 b21 .int 0 (fun _ => 0) := AI.new rfl rfl A21 (by decide) (by decide)
          have ne_b20_b21 : b20 ≠ b21 := Nat.ne_of_lt (Nat.lt_of_lt_of_le V20.lt (Nat.le_of_eq g21.symm))
          have g_b21 : n0 ≤ b21 := Nat.le_trans Z20 (Nat.le_of_eq g21.symm)
          have F22 := V20.ext E21
          have Z21 : n0 ≤ h21.size := Nat.le_trans Z20 E21.1
          refine Goes.of st21 ?_
          show Goes _ _ _ _ _ _ _ (T21.setTop (mkF m 56 #[.val (.int u0), .val (.int u1), .val (.int u2), .val (.int u3), .val (.int (0 : Int32)), .val (.int t0), .val (.int t1), .val (.int t2), .val (.ref b20), .unset, .unset, .unset] [(.ref b21)]))
          refine Goes.of (fun t k => XS.astore X21.here hx rfl (hb hby at_56) rfl rfl (l' := #[.val (.int u0), .val (.int u1), .val (.int u2), .val (.int u3), .val (.int (0 : Int32)), .val (.int t0), .val (.int t1), .val (.int t2), .val (.ref b20), .val (.ref b21), .unset, .unset]) rfl k) ?_
          show Goes _ _ _ _ _ _ _ (T21.setTop (mkF m 58 #[.val (.int u0), .val (.int u1), .val (.int u2), .val (.int u3), .val (.int (0 : Int32)), .val (.int t0), .val (.int t1), .val (.int t2), .val (.ref b20), .val (.ref b21), .unset, .unset] []))
          refine Goes.of (fun t k => XS.iload X21.here hx rfl (hb hby at_58) rfl k) ?_
          show Goes _ _ _ _ _ _ _ (T21.setTop (mkF m 60 #[.val (.int u0), .val (.int u1), .val (.int u2), .val (.int u3), .val (.int (0 : Int32)), .val (.int t0), .val (.int t1), .val (.int t2), .val (.ref b20), .val (.ref b21), .unset, .unset] [(.int (0 : Int32))]))
          refine Goes.of (fun t k => XS.ifYes X21.here hx rfl (pc0 := 60) (pc' := 74) rfl (hb hby at_60) rfl ((if0 _ _).trans (flt (by decide : ¬ ((0 : Int32) < (0 : Int32)))).2.2.2) (by decide) (by decide) k) ?_
          show Goes _ _ _ _ _ _ _ (T21.setTop (mkF m 74 #[.val (.int u0), .val (.int u1), .val (.int u2), .val (.int u3), .val (.int (0 : Int32)), .val (.int t0), .val (.int t1), .val (.int t2), .val (.ref b20), .val (.ref b21), .unset, .unset] []))
          refine Goes.of (fun t k => XS.iload X21.here hx rfl (hb hby at_74) rfl k) ?_
          show Goes _ _ _ _ _ _ _ (T21.setTop (mkF m 76 #[.val (.int u0), .val (.int u1), .val (.int u2), .val (.int u3), .val (.int (0 : Int32)), .val (.int t0), .val (.int t1), .val (.int t2), .val (.ref b20), .val (.ref b21), .unset, .unset] [(.int (0 : Int32))]))
          refine Goes.of (fun t k => XS.iconst X21.here hx rfl (hb hby at_76) k) ?_
          show Goes _ _ _ _ _ _ _ (T21.setTop (mkF m 77 #[.val (.int u0), .val (.int u1), .val (.int u2), .val (.int u3), .val (.int (0 : Int32)), .val (.int t0), .val (.int t1), .val (.int t2), .val (.ref b20), .val (.ref b21), .unset, .unset] [(.int (1 : Int32)), (.int (0 : Int32))]))
          refine Goes.of (fun t k => XS.icmpYes X21.here hx rfl (pc0 := 77) (pc' := 91) rfl (hb hby at_77) rfl (flt (by decide : ¬ ((1 : Int32) < (0 : Int32)))).2.2.2 (by decide) (by decide) k) ?_
          show Goes _ _ _ _ _ _ _ (T21.setTop (mkF m 91 #[.val (.int u0), .val (.int u1), .val (.int u2), .val (.int u3), .val (.int (0 : Int32)), .val (.int t0), .val (.int t1), .val (.int t2), .val (.ref b20), .val (.ref b21), .unset, .unset] []))
          refine Goes.of (fun t k => XS.iload X21.here hx rfl (hb hby at_91) rfl k) ?_
          show Goes _ _ _ _ _ _ _ (T21.setTop (mkF m 93 #[.val (.int u0), .val (.int u1), .val (.int u2), .val (.int u3), .val (.int (0 : Int32)), .val (.int t0), .val (.int t1), .val (.int t2), .val (.ref b20), .val (.ref b21), .unset, .unset] [(.int (0 : Int32))]))
          refine Goes.of (fun t k => XS.iconst X21.here hx rfl (hb hby at_93) k) ?_
          show Goes _ _ _ _ _ _ _ (T21.setTop (mkF m 94 #[.val (.int u0), .val (.int u1), .val (.int u2), .val (.int u3), .val (.int (0 : Int32)), .val (.int t0), .val (.int t1), .val (.int t2), .val (.ref b20), .val (.ref b21), .unset, .unset] [(.int (2 : Int32)), (.int (0 : Int32))]))
          refine Goes.of (fun t k => XS.icmpYes X21.here hx rfl (pc0 := 94) (pc' := 108) rfl (hb hby at_94) rfl (flt (by decide : ¬ ((2 : Int32) < (0 : Int32)))).2.2.2 (by decide) (by decide) k) ?_
          show Goes _ _ _ _ _ _ _ (T21.setTop (mkF m 108 #[.val (.int u0), .val (.int u1), .val (.int u2), .val (.int u3), .val (.int (0 : Int32)), .val (.int t0), .val (.int t1), .val (.int t2), .val (.ref b20), .val (.ref b21), .unset, .unset] []))
          refine Goes.of (fun t k => XS.aload X21.here hx rfl (hb hby at_108) rfl rfl k) ?_
          show Goes _ _ _ _ _ _ _ (T21.setTop (mkF m 110 #[.val (.int u0), .val (.int u1), .val (.int u2), .val (.int u3), .val (.int (0 : Int32)), .val (.int t0), .val (.int t1), .val (.int t2), .val (.ref b20), .val (.ref b21), .unset, .unset] [(.ref b20)]))
          refine Goes.of (fun t k => XS.aload X21.here hx rfl (hb hby at_110) rfl rfl k) ?_
          show Goes _ _ _ _ _ _ _ (T21.setTop (mkF m 112 #[.val (.int u0), .val (.int u1), .val (.int u2), .val (.int u3), .val (.int (0 : Int32)), .val (.int t0), .val (.int t1), .val (.int t2), .val (.ref b20), .val (.ref b21), .unset, .unset] [(.ref b21), (.ref b20)]))
          obtain ⟨ff, hf_ff⟩ : ∃ f : Nat → Int32, f = (fun _ => 0) := ⟨_, rfl⟩
          rw [← hf_ff] at F22
          obtain ⟨gg, hf_gg⟩ : ∃ f : Nat → Int32, f = (fun _ => 0) := ⟨_, rfl⟩
          rw [← hf_gg] at V21
          obtain ⟨_, _, ⟨T23, L23, k23, n23⟩, -, X23, ⟨Lc23, hQ23, l23, y23, z23⟩, st23⟩ := Jvm.LawKit.callS X21 hx (y := (⟨"com/example/network_attack_odds/networkattackodds/engine/GoalGraph", "reached", "([Z[I)[Z"⟩ : MethodName)) hown (mvT hZ (hw _ (List.mem_of_getElem? (i := 2) rfl))) (mvT hZ (hw _ (List.mem_of_getElem? (i := 3) rfl))) (mvT hZ (hw _ (List.mem_of_getElem? (i := 4) rfl))) (mvT hZ (hw _ (List.mem_of_getElem? (i := 5) rfl))) (by decide) (backOf (W := 0) (rm1 l Z a0 hw [] b20 b21 0 (0 : Int32) ff gg h21 n0 Z21 F22 V21 (by decide) (by decide)) hZ (hw _ (List.mem_of_getElem? (i := 5) rfl)) (hw _ (List.mem_of_getElem? (i := 4) rfl)) (by decide) (by decide)) (g := (mkF m 112 #[.val (.int u0), .val (.int u1), .val (.int u2), .val (.int u3), .val (.int (0 : Int32)), .val (.int t0), .val (.int t1), .val (.int t2), .val (.ref b20), .val (.ref b21), .unset, .unset] [(.ref b21), (.ref b20)])) rfl (by rw [hml]; rfl) (argsL := [(.ref b20), (.ref b21)]) (rest := []) (lenOf pd_0 rfl) rfl (by show 2 * 0 + _ ≤ _; exact Nat.le_of_eq rfl) (hb hby at_112) (fun _ _ => ⟨rfl, e21, (by decide : 2 + 1 ≤ _), (by decide : 0 + 3 ≤ _)⟩)
          dsimp only [Pt.U, Pt.locs, Pt.cells, Pt.slots] at X23 l23 y23 z23 st23 hQ23
          subst l23 y23 z23
          obtain ⟨r23, rfl, N23q, K23, sz23, V23⟩ := hQ23
          have ne_b20_r23 : b20 ≠ r23 := Nat.ne_of_lt (Nat.lt_of_lt_of_le F22.lt sz23)
          have ne_b21_r23 : b21 ≠ r23 := Nat.ne_of_lt (Nat.lt_of_lt_of_le V21.lt sz23)
          have F24 := F22.keep K23 nin0
          have F25 := V21.keep K23 nin0
          have g_r23 : n0 ≤ r23 := Nat.le_trans Z21 sz23
          have Z23 : n0 ≤ T23.heap.size := Nat.le_trans Z21 K23.1
          have N23 := Fr.app N19 N23q
          refine Goes.of st23 ?_
          show Goes _ _ _ _ _ _ _ (T23.setTop (mkF m 115 #[.val (.int u0), .val (.int u1), .val (.int u2), .val (.int u3), .val (.int (0 : Int32)), .val (.int t0), .val (.int t1), .val (.int t2), .val (.ref b20), .val (.ref b21), .unset, .unset] [(.ref r23)]))
          refine Goes.of (fun t k => XS.astore X23.here hx rfl (hb hby at_115) rfl rfl (l' := #[.val (.int u0), .val (.int u1), .val (.int u2), .val (.int u3), .val (.int (0 : Int32)), .val (.int t0), .val (.int t1), .val (.int t2), .val (.ref b20), .val (.ref b21), .val (.ref r23), .unset]) rfl k) ?_
          show Goes _ _ _ _ _ _ _ (T23.setTop (mkF m 117 #[.val (.int u0), .val (.int u1), .val (.int u2), .val (.int u3), .val (.int (0 : Int32)), .val (.int t0), .val (.int t1), .val (.int t2), .val (.ref b20), .val (.ref b21), .val (.ref r23), .unset] []))
          refine Goes.of (fun t k => XS.aload X23.here hx rfl (hb hby at_117) rfl rfl k) ?_
          show Goes _ _ _ _ _ _ _ (T23.setTop (mkF m 119 #[.val (.int u0), .val (.int u1), .val (.int u2), .val (.int u3), .val (.int (0 : Int32)), .val (.int t0), .val (.int t1), .val (.int t2), .val (.ref b20), .val (.ref b21), .val (.ref r23), .unset] [(.ref r23)]))
          refine Goes.of (fun t k => XS.ifnullNo X23.here hx rfl (hb hby at_119) rfl k) ?_
          show Goes _ _ _ _ _ _ _ (T23.setTop (mkF m 122 #[.val (.int u0), .val (.int u1), .val (.int u2), .val (.int u3), .val (.int (0 : Int32)), .val (.int t0), .val (.int t1), .val (.int t2), .val (.ref b20), .val (.ref b21), .val (.ref r23), .unset] []))
          refine Goes.of (fun t k => XS.aload X23.here hx rfl (hb hby at_122) rfl rfl k) ?_
          show Goes _ _ _ _ _ _ _ (T23.setTop (mkF m 124 #[.val (.int u0), .val (.int u1), .val (.int u2), .val (.int u3), .val (.int (0 : Int32)), .val (.int t0), .val (.int t1), .val (.int t2), .val (.ref b20), .val (.ref b21), .val (.ref r23), .unset] [(.ref r23)]))
          refine Goes.of (fun t k => lenA X23 hx hZ rfl V23 (z := (0 : Int32)) (by decide) (g := (mkF m 124 #[.val (.int u0), .val (.int u1), .val (.int u2), .val (.int u3), .val (.int (0 : Int32)), .val (.int t0), .val (.int t1), .val (.int t2), .val (.ref b20), .val (.ref b21), .val (.ref r23), .unset] [(.ref r23)])) rfl rfl (hb hby at_124) t k) ?_
          show Goes _ _ _ _ _ _ _ (T23.setTop (mkF m 125 #[.val (.int u0), .val (.int u1), .val (.int u2), .val (.int u3), .val (.int (0 : Int32)), .val (.int t0), .val (.int t1), .val (.int t2), .val (.ref b20), .val (.ref b21), .val (.ref r23), .unset] [(.int (0 : Int32))]))
          refine Goes.of (fun t k => XS.iload X23.here hx rfl (hb hby at_125) rfl k) ?_
          show Goes _ _ _ _ _ _ _ (T23.setTop (mkF m 127 #[.val (.int u0), .val (.int u1), .val (.int u2), .val (.int u3), .val (.int (0 : Int32)), .val (.int t0), .val (.int t1), .val (.int t2), .val (.ref b20), .val (.ref b21), .val (.ref r23), .unset] [(.int (0 : Int32)), (.int (0 : Int32))]))
          refine Goes.of (fun t k => XS.icmpYes X23.here hx rfl (pc0 := 127) (pc' := 132) rfl (hb hby at_127) rfl (teq (rfl : (0 : Int32) = (0 : Int32))).1 (by decide) (by decide) k) ?_
          show Goes _ _ _ _ _ _ _ (T23.setTop (mkF m 132 #[.val (.int u0), .val (.int u1), .val (.int u2), .val (.int u3), .val (.int (0 : Int32)), .val (.int t0), .val (.int t1), .val (.int t2), .val (.ref b20), .val (.ref b21), .val (.ref r23), .unset] []))
          refine Goes.of (fun t k => XS.iconst X23.here hx rfl (hb hby at_132) k) ?_
          show Goes _ _ _ _ _ _ _ (T23.setTop (mkF m 133 #[.val (.int u0), .val (.int u1), .val (.int u2), .val (.int u3), .val (.int (0 : Int32)), .val (.int t0), .val (.int t1), .val (.int t2), .val (.ref b20), .val (.ref b21), .val (.ref r23), .unset] [(.int (1 : Int32))]))
          refine Goes.of (fun t k => XS.istore X23.here hx rfl (hb hby at_133) rfl (l' := #[.val (.int u0), .val (.int u1), .val (.int u2), .val (.int u3), .val (.int (0 : Int32)), .val (.int t0), .val (.int t1), .val (.int t2), .val (.ref b20), .val (.ref b21), .val (.ref r23), .val (.int (1 : Int32))]) rfl k) ?_
          show Goes _ _ _ _ _ _ _ (T23.setTop (mkF m 135 #[.val (.int u0), .val (.int u1), .val (.int u2), .val (.int u3), .val (.int (0 : Int32)), .val (.int t0), .val (.int t1), .val (.int t2), .val (.ref b20), .val (.ref b21), .val (.ref r23), .val (.int (1 : Int32))] []))
          refine Goes.of (fun t k => XS.iload X23.here hx rfl (hb hby at_135) rfl k) ?_
          show Goes _ _ _ _ _ _ _ (T23.setTop (mkF m 137 #[.val (.int u0), .val (.int u1), .val (.int u2), .val (.int u3), .val (.int (0 : Int32)), .val (.int t0), .val (.int t1), .val (.int t2), .val (.ref b20), .val (.ref b21), .val (.ref r23), .val (.int (1 : Int32))] [(.int (0 : Int32))]))
          refine Goes.of (fun t k => XS.ifYes X23.here hx rfl (pc0 := 137) (pc' := 182) rfl (hb hby at_137) rfl ((if0 _ _).trans (flt (by decide : ¬ ((0 : Int32) < (0 : Int32)))).2.2.2) (by decide) (by decide) k) ?_
          show Goes _ _ _ _ _ _ _ (T23.setTop (mkF m 182 #[.val (.int u0), .val (.int u1), .val (.int u2), .val (.int u3), .val (.int (0 : Int32)), .val (.int t0), .val (.int t1), .val (.int t2), .val (.ref b20), .val (.ref b21), .val (.ref r23), .val (.int (1 : Int32))] []))
          refine Goes.of (fun t k => XS.iload X23.here hx rfl (hb hby at_182) rfl k) ?_
          show Goes _ _ _ _ _ _ _ (T23.setTop (mkF m 184 #[.val (.int u0), .val (.int u1), .val (.int u2), .val (.int u3), .val (.int (0 : Int32)), .val (.int t0), .val (.int t1), .val (.int t2), .val (.ref b20), .val (.ref b21), .val (.ref r23), .val (.int (1 : Int32))] [(.int (0 : Int32))]))
          refine Goes.of (fun t k => XS.iconst X23.here hx rfl (hb hby at_184) k) ?_
          show Goes _ _ _ _ _ _ _ (T23.setTop (mkF m 185 #[.val (.int u0), .val (.int u1), .val (.int u2), .val (.int u3), .val (.int (0 : Int32)), .val (.int t0), .val (.int t1), .val (.int t2), .val (.ref b20), .val (.ref b21), .val (.ref r23), .val (.int (1 : Int32))] [(.int (1 : Int32)), (.int (0 : Int32))]))
          refine Goes.of (fun t k => XS.icmpYes X23.here hx rfl (pc0 := 185) (pc' := 230) rfl (hb hby at_185) rfl (flt (by decide : ¬ ((1 : Int32) < (0 : Int32)))).2.2.2 (by decide) (by decide) k) ?_
          show Goes _ _ _ _ _ _ _ (T23.setTop (mkF m 230 #[.val (.int u0), .val (.int u1), .val (.int u2), .val (.int u3), .val (.int (0 : Int32)), .val (.int t0), .val (.int t1), .val (.int t2), .val (.ref b20), .val (.ref b21), .val (.ref r23), .val (.int (1 : Int32))] []))
          refine Goes.of (fun t k => XS.iload X23.here hx rfl (hb hby at_230) rfl k) ?_
          show Goes _ _ _ _ _ _ _ (T23.setTop (mkF m 232 #[.val (.int u0), .val (.int u1), .val (.int u2), .val (.int u3), .val (.int (0 : Int32)), .val (.int t0), .val (.int t1), .val (.int t2), .val (.ref b20), .val (.ref b21), .val (.ref r23), .val (.int (1 : Int32))] [(.int (0 : Int32))]))
          refine Goes.of (fun t k => XS.iconst X23.here hx rfl (hb hby at_232) k) ?_
          show Goes _ _ _ _ _ _ _ (T23.setTop (mkF m 233 #[.val (.int u0), .val (.int u1), .val (.int u2), .val (.int u3), .val (.int (0 : Int32)), .val (.int t0), .val (.int t1), .val (.int t2), .val (.ref b20), .val (.ref b21), .val (.ref r23), .val (.int (1 : Int32))] [(.int (2 : Int32)), (.int (0 : Int32))]))
          refine Goes.of (fun t k => XS.icmpYes X23.here hx rfl (pc0 := 233) (pc' := 278) rfl (hb hby at_233) rfl (flt (by decide : ¬ ((2 : Int32) < (0 : Int32)))).2.2.2 (by decide) (by decide) k) ?_
          show Goes _ _ _ _ _ _ _ (T23.setTop (mkF m 278 #[.val (.int u0), .val (.int u1), .val (.int u2), .val (.int u3), .val (.int (0 : Int32)), .val (.int t0), .val (.int t1), .val (.int t2), .val (.ref b20), .val (.ref b21), .val (.ref r23), .val (.int (1 : Int32))] []))
          refine Goes.of (fun t k => XS.iload X23.here hx rfl (hb hby at_278) rfl k) ?_
          show Goes _ _ _ _ _ _ _ (T23.setTop (mkF m 280 #[.val (.int u0), .val (.int u1), .val (.int u2), .val (.int u3), .val (.int (0 : Int32)), .val (.int t0), .val (.int t1), .val (.int t2), .val (.ref b20), .val (.ref b21), .val (.ref r23), .val (.int (1 : Int32))] [(.int (1 : Int32))]))
          exact Goes.fin X23 hlk (v := some (.int (1 : Int32))) (fun h => by rw [Bd.returns] at h; cases h) (fun fs hr => retN X23 hx (t := .boolean) Bd.returns (by simp) (hb hby at_280) hr) ⟨rfl, N23⟩ (by decide) (by decide)
        · rw [h3]
          show Goes _ _ _ _ _ _ _ (T19.setTop (mkF m 46 #[.val (.int u0), .val (.int u1), .val (.int u2), .val (.int u3), .val (.int (1 : Int32)), .val (.int t0), .val (.int t1), .val (.int t2), .unset, .unset, .unset, .unset] []))
          refine Goes.of (fun t k => XS.iload X19.here hx rfl (hb hby at_46) rfl k) ?_
          show Goes _ _ _ _ _ _ _ (T19.setTop (mkF m 48 #[.val (.int u0), .val (.int u1), .val (.int u2), .val (.int u3), .val (.int (1 : Int32)), .val (.int t0), .val (.int t1), .val (.int t2), .unset, .unset, .unset, .unset] [(.int (1 : Int32))]))
          obtain ⟨T26, h26, k26, X26, e26, E26, A26, Ea26, st26⟩ := newPE X19 hx hZ (hw _ (List.mem_of_getElem? (i := 0) rfl)) e19 (g := (mkF m 48 #[.val (.int u0), .val (.int u1), .val (.int u2), .val (.int u3), .val (.int (1 : Int32)), .val (.int t0), .val (.int t1), .val (.int t2), .unset, .unset, .unset, .unset] [(.int (1 : Int32))])) rfl (hb hby at_48) rfl (by decide) (cap := 1) (by decide) (by decide) (by decide) (by decide) (ad := "[Z") (by decide)
          obtain ⟨b26, g26⟩ : ∃ z, z = h0.size := ⟨_, rfl⟩
          rw [← g26] at A26 Ea26 st26
          have V26 : AI Z h26 b26 .boolean 1 (fun _ => 0) := AI.new rfl rfl A26 (by decide) (by decide)
          have g_b26 : n0 ≤ b26 := Nat.le_trans Z0 (Nat.le_of_eq g26.symm)
          have Z26 : n0 ≤ h26.size := Nat.le_trans Z0 E26.1
          refine Goes.of st26 ?_
          show Goes _ _ _ _ _ _ _ (T26.setTop (mkF m 50 #[.val (.int u0), .val (.int u1), .val (.int u2), .val (.int u3), .val (.int (1 : Int32)), .val (.int t0), .val (.int t1), .val (.int t2), .unset, .unset, .unset, .unset] [(.ref b26)]))
          refine Goes.of (fun t k => XS.astore X26.here hx rfl (hb hby at_50) rfl rfl (l' := #[.val (.int u0), .val (.int u1), .val (.int u2), .val (.int u3), .val (.int (1 : Int32)), .val (.int t0), .val (.int t1), .val (.int t2), .val (.ref b26), .unset, .unset, .unset]) rfl k) ?_
          show Goes _ _ _ _ _ _ _ (T26.setTop (mkF m 52 #[.val (.int u0), .val (.int u1), .val (.int u2), .val (.int u3), .val (.int (1 : Int32)), .val (.int t0), .val (.int t1), .val (.int t2), .val (.ref b26), .unset, .unset, .unset] []))
          refine Goes.of (fun t k => XS.iload X26.here hx rfl (hb hby at_52) rfl k) ?_
          show Goes _ _ _ _ _ _ _ (T26.setTop (mkF m 54 #[.val (.int u0), .val (.int u1), .val (.int u2), .val (.int u3), .val (.int (1 : Int32)), .val (.int t0), .val (.int t1), .val (.int t2), .val (.ref b26), .unset, .unset, .unset] [(.int (1 : Int32))]))
          obtain ⟨T27, h27, k27, X27, e27, E27, A27, Ea27, st27⟩ := newPE X26 hx hZ (hw _ (List.mem_of_getElem? (i := 1) rfl)) e26 (g := (mkF m 54 #[.val (.int u0), .val (.int u1), .val (.int u2), .val (.int u3), .val (.int (1 : Int32)), .val (.int t0), .val (.int t1), .val (.int t2), .val (.ref b26), .unset, .unset, .unset] [(.int (1 : Int32))])) rfl (hb hby at_54) rfl (by decide) (cap := 1) (by decide) (by decide) (by decide) (by decide) (ad := "[I") (by decide)
          obtain ⟨b27, g27⟩ : ∃ z, z = h26.size := ⟨_, rfl⟩
          rw [← g27] at A27 Ea27 st27
          have V27 : AI Z h27 b27 .int 1 (fun _ => 0) := AI.new rfl rfl A27 (by decide) (by decide)
          have ne_b26_b27 : b26 ≠ b27 := Nat.ne_of_lt (Nat.lt_of_lt_of_le V26.lt (Nat.le_of_eq g27.symm))
          have g_b27 : n0 ≤ b27 := Nat.le_trans Z26 (Nat.le_of_eq g27.symm)
          have F28 := V26.ext E27
          have Z27 : n0 ≤ h27.size := Nat.le_trans Z26 E27.1
          refine Goes.of st27 ?_
          show Goes _ _ _ _ _ _ _ (T27.setTop (mkF m 56 #[.val (.int u0), .val (.int u1), .val (.int u2), .val (.int u3), .val (.int (1 : Int32)), .val (.int t0), .val (.int t1), .val (.int t2), .val (.ref b26), .unset, .unset, .unset] [(.ref b27)]))
          refine Goes.of (fun t k => XS.astore X27.here hx rfl (hb hby at_56) rfl rfl (l' := #[.val (.int u0), .val (.int u1), .val (.int u2), .val (.int u3), .val (.int (1 : Int32)), .val (.int t0), .val (.int t1), .val (.int t2), .val (.ref b26), .val (.ref b27), .unset, .unset]) rfl k) ?_
          show Goes _ _ _ _ _ _ _ (T27.setTop (mkF m 58 #[.val (.int u0), .val (.int u1), .val (.int u2), .val (.int u3), .val (.int (1 : Int32)), .val (.int t0), .val (.int t1), .val (.int t2), .val (.ref b26), .val (.ref b27), .unset, .unset] []))
          refine Goes.of (fun t k => XS.iload X27.here hx rfl (hb hby at_58) rfl k) ?_
          show Goes _ _ _ _ _ _ _ (T27.setTop (mkF m 60 #[.val (.int u0), .val (.int u1), .val (.int u2), .val (.int u3), .val (.int (1 : Int32)), .val (.int t0), .val (.int t1), .val (.int t2), .val (.ref b26), .val (.ref b27), .unset, .unset] [(.int (1 : Int32))]))
          refine Goes.of (fun t k => XS.ifNo X27.here hx rfl (hb hby at_60) rfl ((if0 _ _).trans (tlt (by decide : (0 : Int32) < (1 : Int32))).2.2.2) k) ?_
          show Goes _ _ _ _ _ _ _ (T27.setTop (mkF m 63 #[.val (.int u0), .val (.int u1), .val (.int u2), .val (.int u3), .val (.int (1 : Int32)), .val (.int t0), .val (.int t1), .val (.int t2), .val (.ref b26), .val (.ref b27), .unset, .unset] []))
          refine Goes.of (fun t k => XS.aload X27.here hx rfl (hb hby at_63) rfl rfl k) ?_
          show Goes _ _ _ _ _ _ _ (T27.setTop (mkF m 65 #[.val (.int u0), .val (.int u1), .val (.int u2), .val (.int u3), .val (.int (1 : Int32)), .val (.int t0), .val (.int t1), .val (.int t2), .val (.ref b26), .val (.ref b27), .unset, .unset] [(.ref b26)]))
          refine Goes.of (fun t k => XS.iconst X27.here hx rfl (hb hby at_65) k) ?_
          show Goes _ _ _ _ _ _ _ (T27.setTop (mkF m 66 #[.val (.int u0), .val (.int u1), .val (.int u2), .val (.int u3), .val (.int (1 : Int32)), .val (.int t0), .val (.int t1), .val (.int t2), .val (.ref b26), .val (.ref b27), .unset, .unset] [(.int (0 : Int32)), (.ref b26)]))
          refine Goes.of (fun t k => XS.iload X27.here hx rfl (hb hby at_66) rfl k) ?_
          show Goes _ _ _ _ _ _ _ (T27.setTop (mkF m 68 #[.val (.int u0), .val (.int u1), .val (.int u2), .val (.int u3), .val (.int (1 : Int32)), .val (.int t0), .val (.int t1), .val (.int t2), .val (.ref b26), .val (.ref b27), .unset, .unset] [(.int t0), (.int (0 : Int32)), (.ref b26)]))
          obtain ⟨T29, h29, X29, e29, W29, V29, st29⟩ := putZ X27 hx hZ e27 F28 (j := (0 : Int32)) (x := t0) (i := 0) (by decide) (by decide) (by decide) (g := (mkF m 68 #[.val (.int u0), .val (.int u1), .val (.int u2), .val (.int u3), .val (.int (1 : Int32)), .val (.int t0), .val (.int t1), .val (.int t2), .val (.ref b26), .val (.ref b27), .unset, .unset] [(.int t0), (.int (0 : Int32)), (.ref b26)])) rfl rfl (hb hby at_68)
          have F30 := V27.other W29 (Ne.symm ne_b26_b27)
          have Z29 : n0 ≤ h29.size := Nat.le_trans Z27 (Keep.of_wr W29).1
          have N29 := Fr.snoc X29 N19 g_b26
          refine Goes.of st29 ?_
          show Goes _ _ _ _ _ _ _ (T29.setTop (mkF m 69 #[.val (.int u0), .val (.int u1), .val (.int u2), .val (.int u3), .val (.int (1 : Int32)), .val (.int t0), .val (.int t1), .val (.int t2), .val (.ref b26), .val (.ref b27), .unset, .unset] []))
          refine Goes.of (fun t k => XS.aload X29.here hx rfl (hb hby at_69) rfl rfl k) ?_
          show Goes _ _ _ _ _ _ _ (T29.setTop (mkF m 71 #[.val (.int u0), .val (.int u1), .val (.int u2), .val (.int u3), .val (.int (1 : Int32)), .val (.int t0), .val (.int t1), .val (.int t2), .val (.ref b26), .val (.ref b27), .unset, .unset] [(.ref b27)]))
          refine Goes.of (fun t k => XS.iconst X29.here hx rfl (hb hby at_71) k) ?_
          show Goes _ _ _ _ _ _ _ (T29.setTop (mkF m 72 #[.val (.int u0), .val (.int u1), .val (.int u2), .val (.int u3), .val (.int (1 : Int32)), .val (.int t0), .val (.int t1), .val (.int t2), .val (.ref b26), .val (.ref b27), .unset, .unset] [(.int (0 : Int32)), (.ref b27)]))
          refine Goes.of (fun t k => XS.iloadN X29.here hx rfl (hb hby at_72) rfl k) ?_
          show Goes _ _ _ _ _ _ _ (T29.setTop (mkF m 73 #[.val (.int u0), .val (.int u1), .val (.int u2), .val (.int u3), .val (.int (1 : Int32)), .val (.int t0), .val (.int t1), .val (.int t2), .val (.ref b26), .val (.ref b27), .unset, .unset] [(.int u1), (.int (0 : Int32)), (.ref b27)]))
          obtain ⟨T31, h31, X31, e31, W31, V31, st31⟩ := putI X29 hx hZ e29 F30 (j := (0 : Int32)) (x := u1) (i := 0) (by decide) (by decide) (by decide) (g := (mkF m 73 #[.val (.int u0), .val (.int u1), .val (.int u2), .val (.int u3), .val (.int (1 : Int32)), .val (.int t0), .val (.int t1), .val (.int t2), .val (.ref b26), .val (.ref b27), .unset, .unset] [(.int u1), (.int (0 : Int32)), (.ref b27)])) rfl rfl (hb hby at_73)
          have F32 := V29.other W31 ne_b26_b27
          have Z31 : n0 ≤ h31.size := Nat.le_trans Z29 (Keep.of_wr W31).1
          have N31 := Fr.snoc X31 N29 g_b27
          refine Goes.of st31 ?_
          show Goes _ _ _ _ _ _ _ (T31.setTop (mkF m 74 #[.val (.int u0), .val (.int u1), .val (.int u2), .val (.int u3), .val (.int (1 : Int32)), .val (.int t0), .val (.int t1), .val (.int t2), .val (.ref b26), .val (.ref b27), .unset, .unset] []))
          refine Goes.of (fun t k => XS.iload X31.here hx rfl (hb hby at_74) rfl k) ?_
          show Goes _ _ _ _ _ _ _ (T31.setTop (mkF m 76 #[.val (.int u0), .val (.int u1), .val (.int u2), .val (.int u3), .val (.int (1 : Int32)), .val (.int t0), .val (.int t1), .val (.int t2), .val (.ref b26), .val (.ref b27), .unset, .unset] [(.int (1 : Int32))]))
          refine Goes.of (fun t k => XS.iconst X31.here hx rfl (hb hby at_76) k) ?_
          show Goes _ _ _ _ _ _ _ (T31.setTop (mkF m 77 #[.val (.int u0), .val (.int u1), .val (.int u2), .val (.int u3), .val (.int (1 : Int32)), .val (.int t0), .val (.int t1), .val (.int t2), .val (.ref b26), .val (.ref b27), .unset, .unset] [(.int (1 : Int32)), (.int (1 : Int32))]))
          refine Goes.of (fun t k => XS.icmpYes X31.here hx rfl (pc0 := 77) (pc' := 91) rfl (hb hby at_77) rfl (flt (by decide : ¬ ((1 : Int32) < (1 : Int32)))).2.2.2 (by decide) (by decide) k) ?_
          show Goes _ _ _ _ _ _ _ (T31.setTop (mkF m 91 #[.val (.int u0), .val (.int u1), .val (.int u2), .val (.int u3), .val (.int (1 : Int32)), .val (.int t0), .val (.int t1), .val (.int t2), .val (.ref b26), .val (.ref b27), .unset, .unset] []))
          refine Goes.of (fun t k => XS.iload X31.here hx rfl (hb hby at_91) rfl k) ?_
          show Goes _ _ _ _ _ _ _ (T31.setTop (mkF m 93 #[.val (.int u0), .val (.int u1), .val (.int u2), .val (.int u3), .val (.int (1 : Int32)), .val (.int t0), .val (.int t1), .val (.int t2), .val (.ref b26), .val (.ref b27), .unset, .unset] [(.int (1 : Int32))]))
          refine Goes.of (fun t k => XS.iconst X31.here hx rfl (hb hby at_93) k) ?_
          show Goes _ _ _ _ _ _ _ (T31.setTop (mkF m 94 #[.val (.int u0), .val (.int u1), .val (.int u2), .val (.int u3), .val (.int (1 : Int32)), .val (.int t0), .val (.int t1), .val (.int t2), .val (.ref b26), .val (.ref b27), .unset, .unset] [(.int (2 : Int32)), (.int (1 : Int32))]))
          refine Goes.of (fun t k => XS.icmpYes X31.here hx rfl (pc0 := 94) (pc' := 108) rfl (hb hby at_94) rfl (flt (by decide : ¬ ((2 : Int32) < (1 : Int32)))).2.2.2 (by decide) (by decide) k) ?_
          show Goes _ _ _ _ _ _ _ (T31.setTop (mkF m 108 #[.val (.int u0), .val (.int u1), .val (.int u2), .val (.int u3), .val (.int (1 : Int32)), .val (.int t0), .val (.int t1), .val (.int t2), .val (.ref b26), .val (.ref b27), .unset, .unset] []))
          refine Goes.of (fun t k => XS.aload X31.here hx rfl (hb hby at_108) rfl rfl k) ?_
          show Goes _ _ _ _ _ _ _ (T31.setTop (mkF m 110 #[.val (.int u0), .val (.int u1), .val (.int u2), .val (.int u3), .val (.int (1 : Int32)), .val (.int t0), .val (.int t1), .val (.int t2), .val (.ref b26), .val (.ref b27), .unset, .unset] [(.ref b26)]))
          refine Goes.of (fun t k => XS.aload X31.here hx rfl (hb hby at_110) rfl rfl k) ?_
          show Goes _ _ _ _ _ _ _ (T31.setTop (mkF m 112 #[.val (.int u0), .val (.int u1), .val (.int u2), .val (.int u3), .val (.int (1 : Int32)), .val (.int t0), .val (.int t1), .val (.int t2), .val (.ref b26), .val (.ref b27), .unset, .unset] [(.ref b27), (.ref b26)]))
          obtain ⟨ff, hf_ff⟩ : ∃ f : Nat → Int32, f = (upd (fun _ => 0) 0 (t0 &&& 1)) := ⟨_, rfl⟩
          rw [← hf_ff] at F32
          obtain ⟨gg, hf_gg⟩ : ∃ f : Nat → Int32, f = (upd (fun _ => 0) 0 u1) := ⟨_, rfl⟩
          rw [← hf_gg] at V31
          obtain ⟨_, _, ⟨T33, L33, k33, n33⟩, -, X33, ⟨Lc33, hQ33, l33, y33, z33⟩, st33⟩ := Jvm.LawKit.callS X31 hx (y := (⟨"com/example/network_attack_odds/networkattackodds/engine/GoalGraph", "reached", "([Z[I)[Z"⟩ : MethodName)) hown (mvT hZ (hw _ (List.mem_of_getElem? (i := 2) rfl))) (mvT hZ (hw _ (List.mem_of_getElem? (i := 3) rfl))) (mvT hZ (hw _ (List.mem_of_getElem? (i := 4) rfl))) (mvT hZ (hw _ (List.mem_of_getElem? (i := 5) rfl))) (by decide) (backOf (W := 0) (rm1 l Z a0 hw [] b26 b27 1 (1 : Int32) ff gg h31 n0 Z31 F32 V31 (by decide) (by decide)) hZ (hw _ (List.mem_of_getElem? (i := 5) rfl)) (hw _ (List.mem_of_getElem? (i := 4) rfl)) (by decide) (by decide)) (g := (mkF m 112 #[.val (.int u0), .val (.int u1), .val (.int u2), .val (.int u3), .val (.int (1 : Int32)), .val (.int t0), .val (.int t1), .val (.int t2), .val (.ref b26), .val (.ref b27), .unset, .unset] [(.ref b27), (.ref b26)])) rfl (by rw [hml]; rfl) (argsL := [(.ref b26), (.ref b27)]) (rest := []) (lenOf pd_0 rfl) rfl (by show 2 * 0 + _ ≤ _; exact Nat.le_of_eq rfl) (hb hby at_112) (fun _ _ => ⟨rfl, e31, (by decide : 2 + 1 ≤ _), (by decide : 2 + 3 ≤ _)⟩)
          dsimp only [Pt.U, Pt.locs, Pt.cells, Pt.slots] at X33 l33 y33 z33 st33 hQ33
          subst l33 y33 z33
          obtain ⟨r33, rfl, N33q, K33, sz33, V33⟩ := hQ33
          have ne_b26_r33 : b26 ≠ r33 := Nat.ne_of_lt (Nat.lt_of_lt_of_le F32.lt sz33)
          have ne_b27_r33 : b27 ≠ r33 := Nat.ne_of_lt (Nat.lt_of_lt_of_le V31.lt sz33)
          have F34 := F32.keep K33 nin0
          have F35 := V31.keep K33 nin0
          have g_r33 : n0 ≤ r33 := Nat.le_trans Z31 sz33
          have Z33 : n0 ≤ T33.heap.size := Nat.le_trans Z31 K33.1
          have N33 := Fr.app N31 N33q
          refine Goes.of st33 ?_
          show Goes _ _ _ _ _ _ _ (T33.setTop (mkF m 115 #[.val (.int u0), .val (.int u1), .val (.int u2), .val (.int u3), .val (.int (1 : Int32)), .val (.int t0), .val (.int t1), .val (.int t2), .val (.ref b26), .val (.ref b27), .unset, .unset] [(.ref r33)]))
          refine Goes.of (fun t k => XS.astore X33.here hx rfl (hb hby at_115) rfl rfl (l' := #[.val (.int u0), .val (.int u1), .val (.int u2), .val (.int u3), .val (.int (1 : Int32)), .val (.int t0), .val (.int t1), .val (.int t2), .val (.ref b26), .val (.ref b27), .val (.ref r33), .unset]) rfl k) ?_
          show Goes _ _ _ _ _ _ _ (T33.setTop (mkF m 117 #[.val (.int u0), .val (.int u1), .val (.int u2), .val (.int u3), .val (.int (1 : Int32)), .val (.int t0), .val (.int t1), .val (.int t2), .val (.ref b26), .val (.ref b27), .val (.ref r33), .unset] []))
          refine Goes.of (fun t k => XS.aload X33.here hx rfl (hb hby at_117) rfl rfl k) ?_
          show Goes _ _ _ _ _ _ _ (T33.setTop (mkF m 119 #[.val (.int u0), .val (.int u1), .val (.int u2), .val (.int u3), .val (.int (1 : Int32)), .val (.int t0), .val (.int t1), .val (.int t2), .val (.ref b26), .val (.ref b27), .val (.ref r33), .unset] [(.ref r33)]))
          refine Goes.of (fun t k => XS.ifnullNo X33.here hx rfl (hb hby at_119) rfl k) ?_
          show Goes _ _ _ _ _ _ _ (T33.setTop (mkF m 122 #[.val (.int u0), .val (.int u1), .val (.int u2), .val (.int u3), .val (.int (1 : Int32)), .val (.int t0), .val (.int t1), .val (.int t2), .val (.ref b26), .val (.ref b27), .val (.ref r33), .unset] []))
          refine Goes.of (fun t k => XS.aload X33.here hx rfl (hb hby at_122) rfl rfl k) ?_
          show Goes _ _ _ _ _ _ _ (T33.setTop (mkF m 124 #[.val (.int u0), .val (.int u1), .val (.int u2), .val (.int u3), .val (.int (1 : Int32)), .val (.int t0), .val (.int t1), .val (.int t2), .val (.ref b26), .val (.ref b27), .val (.ref r33), .unset] [(.ref r33)]))
          refine Goes.of (fun t k => lenA X33 hx hZ rfl V33 (z := (1 : Int32)) (by decide) (g := (mkF m 124 #[.val (.int u0), .val (.int u1), .val (.int u2), .val (.int u3), .val (.int (1 : Int32)), .val (.int t0), .val (.int t1), .val (.int t2), .val (.ref b26), .val (.ref b27), .val (.ref r33), .unset] [(.ref r33)])) rfl rfl (hb hby at_124) t k) ?_
          show Goes _ _ _ _ _ _ _ (T33.setTop (mkF m 125 #[.val (.int u0), .val (.int u1), .val (.int u2), .val (.int u3), .val (.int (1 : Int32)), .val (.int t0), .val (.int t1), .val (.int t2), .val (.ref b26), .val (.ref b27), .val (.ref r33), .unset] [(.int (1 : Int32))]))
          refine Goes.of (fun t k => XS.iload X33.here hx rfl (hb hby at_125) rfl k) ?_
          show Goes _ _ _ _ _ _ _ (T33.setTop (mkF m 127 #[.val (.int u0), .val (.int u1), .val (.int u2), .val (.int u3), .val (.int (1 : Int32)), .val (.int t0), .val (.int t1), .val (.int t2), .val (.ref b26), .val (.ref b27), .val (.ref r33), .unset] [(.int (1 : Int32)), (.int (1 : Int32))]))
          refine Goes.of (fun t k => XS.icmpYes X33.here hx rfl (pc0 := 127) (pc' := 132) rfl (hb hby at_127) rfl (teq (rfl : (1 : Int32) = (1 : Int32))).1 (by decide) (by decide) k) ?_
          show Goes _ _ _ _ _ _ _ (T33.setTop (mkF m 132 #[.val (.int u0), .val (.int u1), .val (.int u2), .val (.int u3), .val (.int (1 : Int32)), .val (.int t0), .val (.int t1), .val (.int t2), .val (.ref b26), .val (.ref b27), .val (.ref r33), .unset] []))
          refine Goes.of (fun t k => XS.iconst X33.here hx rfl (hb hby at_132) k) ?_
          show Goes _ _ _ _ _ _ _ (T33.setTop (mkF m 133 #[.val (.int u0), .val (.int u1), .val (.int u2), .val (.int u3), .val (.int (1 : Int32)), .val (.int t0), .val (.int t1), .val (.int t2), .val (.ref b26), .val (.ref b27), .val (.ref r33), .unset] [(.int (1 : Int32))]))
          refine Goes.of (fun t k => XS.istore X33.here hx rfl (hb hby at_133) rfl (l' := #[.val (.int u0), .val (.int u1), .val (.int u2), .val (.int u3), .val (.int (1 : Int32)), .val (.int t0), .val (.int t1), .val (.int t2), .val (.ref b26), .val (.ref b27), .val (.ref r33), .val (.int (1 : Int32))]) rfl k) ?_
          show Goes _ _ _ _ _ _ _ (T33.setTop (mkF m 135 #[.val (.int u0), .val (.int u1), .val (.int u2), .val (.int u3), .val (.int (1 : Int32)), .val (.int t0), .val (.int t1), .val (.int t2), .val (.ref b26), .val (.ref b27), .val (.ref r33), .val (.int (1 : Int32))] []))
          refine Goes.of (fun t k => XS.iload X33.here hx rfl (hb hby at_135) rfl k) ?_
          show Goes _ _ _ _ _ _ _ (T33.setTop (mkF m 137 #[.val (.int u0), .val (.int u1), .val (.int u2), .val (.int u3), .val (.int (1 : Int32)), .val (.int t0), .val (.int t1), .val (.int t2), .val (.ref b26), .val (.ref b27), .val (.ref r33), .val (.int (1 : Int32))] [(.int (1 : Int32))]))
          refine Goes.of (fun t k => XS.ifNo X33.here hx rfl (hb hby at_137) rfl ((if0 _ _).trans (tlt (by decide : (0 : Int32) < (1 : Int32))).2.2.2) k) ?_
          show Goes _ _ _ _ _ _ _ (T33.setTop (mkF m 140 #[.val (.int u0), .val (.int u1), .val (.int u2), .val (.int u3), .val (.int (1 : Int32)), .val (.int t0), .val (.int t1), .val (.int t2), .val (.ref b26), .val (.ref b27), .val (.ref r33), .val (.int (1 : Int32))] []))
          refine Goes.of (fun t k => XS.iload X33.here hx rfl (hb hby at_140) rfl k) ?_
          show Goes _ _ _ _ _ _ _ (T33.setTop (mkF m 142 #[.val (.int u0), .val (.int u1), .val (.int u2), .val (.int u3), .val (.int (1 : Int32)), .val (.int t0), .val (.int t1), .val (.int t2), .val (.ref b26), .val (.ref b27), .val (.ref r33), .val (.int (1 : Int32))] [(.int (1 : Int32))]))
          refine Goes.of (fun t k => XS.ifNo X33.here hx rfl (hb hby at_142) rfl ((if0 _ _).trans (feq (by decide : ¬ ((1 : Int32) = (0 : Int32)))).1) k) ?_
          show Goes _ _ _ _ _ _ _ (T33.setTop (mkF m 145 #[.val (.int u0), .val (.int u1), .val (.int u2), .val (.int u3), .val (.int (1 : Int32)), .val (.int t0), .val (.int t1), .val (.int t2), .val (.ref b26), .val (.ref b27), .val (.ref r33), .val (.int (1 : Int32))] []))
          refine Goes.of (fun t k => XS.aload X33.here hx rfl (hb hby at_145) rfl rfl k) ?_
          show Goes _ _ _ _ _ _ _ (T33.setTop (mkF m 147 #[.val (.int u0), .val (.int u1), .val (.int u2), .val (.int u3), .val (.int (1 : Int32)), .val (.int t0), .val (.int t1), .val (.int t2), .val (.ref b26), .val (.ref b27), .val (.ref r33), .val (.int (1 : Int32))] [(.ref r33)]))
          refine Goes.of (fun t k => XS.iconst X33.here hx rfl (hb hby at_147) k) ?_
          show Goes _ _ _ _ _ _ _ (T33.setTop (mkF m 148 #[.val (.int u0), .val (.int u1), .val (.int u2), .val (.int u3), .val (.int (1 : Int32)), .val (.int t0), .val (.int t1), .val (.int t2), .val (.ref b26), .val (.ref b27), .val (.ref r33), .val (.int (1 : Int32))] [(.int (0 : Int32)), (.ref r33)]))
          refine Goes.of (fun t k => ldZ X33 hx hZ rfl V33 (j := (0 : Int32)) (i := 0) (v := (own_re t0 u1)) (by decide) (by decide) (by decide) (by rw [hf_ff, hf_gg]; rfl) (g := (mkF m 148 #[.val (.int u0), .val (.int u1), .val (.int u2), .val (.int u3), .val (.int (1 : Int32)), .val (.int t0), .val (.int t1), .val (.int t2), .val (.ref b26), .val (.ref b27), .val (.ref r33), .val (.int (1 : Int32))] [(.int (0 : Int32)), (.ref r33)])) rfl rfl (hb hby at_148) t k) ?_
          show Goes _ _ _ _ _ _ _ (T33.setTop (mkF m 149 #[.val (.int u0), .val (.int u1), .val (.int u2), .val (.int u3), .val (.int (1 : Int32)), .val (.int t0), .val (.int t1), .val (.int t2), .val (.ref b26), .val (.ref b27), .val (.ref r33), .val (.int (1 : Int32))] [(.int (own_re t0 u1))]))
          refine Goes.of (fun t k => XS.iload X33.here hx rfl (hb hby at_149) rfl k) ?_
          show Goes _ _ _ _ _ _ _ (T33.setTop (mkF m 151 #[.val (.int u0), .val (.int u1), .val (.int u2), .val (.int u3), .val (.int (1 : Int32)), .val (.int t0), .val (.int t1), .val (.int t2), .val (.ref b26), .val (.ref b27), .val (.ref r33), .val (.int (1 : Int32))] [(.int t0), (.int (own_re t0 u1))]))
          refine Goes.of (fun t k => XS.iloadN X33.here hx rfl (hb hby at_151) rfl k) ?_
          show Goes _ _ _ _ _ _ _ (T33.setTop (mkF m 152 #[.val (.int u0), .val (.int u1), .val (.int u2), .val (.int u3), .val (.int (1 : Int32)), .val (.int t0), .val (.int t1), .val (.int t2), .val (.ref b26), .val (.ref b27), .val (.ref r33), .val (.int (1 : Int32))] [(.int u1), (.int t0), (.int (own_re t0 u1))]))
          obtain ⟨_, _, ⟨T36, L36, k36, n36⟩, -, X36, ⟨Lc36, hQ36, l36, y36, z36⟩, st36⟩ := Jvm.LawKit.callS X33 hx (y := (⟨"com/example/network_attack_odds/networkattackodds/engine/GoalGraphReachedPinLaw", "expected", "(ZI)Z"⟩ : MethodName)) hown (mvT hZ (hw _ (List.mem_of_getElem? (i := 6) rfl))) (mvT hZ (hw _ (List.mem_of_getElem? (i := 7) rfl))) (mvT hZ (hw _ (List.mem_of_getElem? (i := 8) rfl))) (mvT hZ (hw _ (List.mem_of_getElem? (i := 9) rfl))) (by decide) (backOf (W := 1) (rm2 l Z a0 hw [] t0 u1  T33.heap n0 ) hZ (hw _ (List.mem_of_getElem? (i := 9) rfl)) (hw _ (List.mem_of_getElem? (i := 8) rfl)) (by decide) (by decide)) (g := (mkF m 152 #[.val (.int u0), .val (.int u1), .val (.int u2), .val (.int u3), .val (.int (1 : Int32)), .val (.int t0), .val (.int t1), .val (.int t2), .val (.ref b26), .val (.ref b27), .val (.ref r33), .val (.int (1 : Int32))] [(.int u1), (.int t0), (.int (own_re t0 u1))])) rfl (by rw [hml]; rfl) (argsL := [(.int t0), (.int u1)]) (rest := [(.int (own_re t0 u1))]) (lenOf pd_1 rfl) rfl (by show 2 * 0 + _ ≤ _; exact Nat.le_of_eq rfl) (hb hby at_152) (fun _ _ => ⟨rfl, rfl, (by decide : 3 + 0 ≤ _), (by decide : 5 + 0 ≤ _)⟩)
          dsimp only [Pt.U, Pt.locs, Pt.cells, Pt.slots] at X36 l36 y36 z36 st36 hQ36
          subst l36 y36 z36
          obtain ⟨rfl, N36q, e36⟩ := hQ36
          have N36 := Fr.app N33 N36q
          refine Goes.of st36 ?_
          show Goes _ _ _ _ _ _ _ (T36.setTop (mkF m 155 #[.val (.int u0), .val (.int u1), .val (.int u2), .val (.int u3), .val (.int (1 : Int32)), .val (.int t0), .val (.int t1), .val (.int t2), .val (.ref b26), .val (.ref b27), .val (.ref r33), .val (.int (1 : Int32))] [(.int (f2 t0 u1)), (.int (own_re t0 u1))]))
          refine Goes.of (fun t k => XS.icmpNo X36.here hx rfl (hb hby at_155) rfl (teq (own_req u1 hg17_t0_0)).2 k) ?_
          show Goes _ _ _ _ _ _ _ (T36.setTop (mkF m 158 #[.val (.int u0), .val (.int u1), .val (.int u2), .val (.int u3), .val (.int (1 : Int32)), .val (.int t0), .val (.int t1), .val (.int t2), .val (.ref b26), .val (.ref b27), .val (.ref r33), .val (.int (1 : Int32))] []))
          refine Goes.of (fun t k => XS.aload X36.here hx rfl (hb hby at_158) rfl rfl k) ?_
          show Goes _ _ _ _ _ _ _ (T36.setTop (mkF m 160 #[.val (.int u0), .val (.int u1), .val (.int u2), .val (.int u3), .val (.int (1 : Int32)), .val (.int t0), .val (.int t1), .val (.int t2), .val (.ref b26), .val (.ref b27), .val (.ref r33), .val (.int (1 : Int32))] [(.ref b26)]))
          refine Goes.of (fun t k => XS.iconst X36.here hx rfl (hb hby at_160) k) ?_
          show Goes _ _ _ _ _ _ _ (T36.setTop (mkF m 161 #[.val (.int u0), .val (.int u1), .val (.int u2), .val (.int u3), .val (.int (1 : Int32)), .val (.int t0), .val (.int t1), .val (.int t2), .val (.ref b26), .val (.ref b27), .val (.ref r33), .val (.int (1 : Int32))] [(.int (0 : Int32)), (.ref b26)]))
          refine Goes.of (fun t k => ldZ X36 hx hZ e36 F34 (j := (0 : Int32)) (i := 0) (v := t0) (by decide) (by decide) (by decide) (by rw [hf_ff]; exact own_t1 hg17_t0_0) (g := (mkF m 161 #[.val (.int u0), .val (.int u1), .val (.int u2), .val (.int u3), .val (.int (1 : Int32)), .val (.int t0), .val (.int t1), .val (.int t2), .val (.ref b26), .val (.ref b27), .val (.ref r33), .val (.int (1 : Int32))] [(.int (0 : Int32)), (.ref b26)])) rfl rfl (hb hby at_161) t k) ?_
          show Goes _ _ _ _ _ _ _ (T36.setTop (mkF m 162 #[.val (.int u0), .val (.int u1), .val (.int u2), .val (.int u3), .val (.int (1 : Int32)), .val (.int t0), .val (.int t1), .val (.int t2), .val (.ref b26), .val (.ref b27), .val (.ref r33), .val (.int (1 : Int32))] [(.int t0)]))
          refine Goes.of (fun t k => XS.iload X36.here hx rfl (hb hby at_162) rfl k) ?_
          show Goes _ _ _ _ _ _ _ (T36.setTop (mkF m 164 #[.val (.int u0), .val (.int u1), .val (.int u2), .val (.int u3), .val (.int (1 : Int32)), .val (.int t0), .val (.int t1), .val (.int t2), .val (.ref b26), .val (.ref b27), .val (.ref r33), .val (.int (1 : Int32))] [(.int t0), (.int t0)]))
          refine Goes.of (fun t k => XS.icmpNo X36.here hx rfl (hb hby at_164) rfl (teq (rfl : t0 = t0)).2 k) ?_
          show Goes _ _ _ _ _ _ _ (T36.setTop (mkF m 167 #[.val (.int u0), .val (.int u1), .val (.int u2), .val (.int u3), .val (.int (1 : Int32)), .val (.int t0), .val (.int t1), .val (.int t2), .val (.ref b26), .val (.ref b27), .val (.ref r33), .val (.int (1 : Int32))] []))
          refine Goes.of (fun t k => XS.aload X36.here hx rfl (hb hby at_167) rfl rfl k) ?_
          show Goes _ _ _ _ _ _ _ (T36.setTop (mkF m 169 #[.val (.int u0), .val (.int u1), .val (.int u2), .val (.int u3), .val (.int (1 : Int32)), .val (.int t0), .val (.int t1), .val (.int t2), .val (.ref b26), .val (.ref b27), .val (.ref r33), .val (.int (1 : Int32))] [(.ref b27)]))
          refine Goes.of (fun t k => XS.iconst X36.here hx rfl (hb hby at_169) k) ?_
          show Goes _ _ _ _ _ _ _ (T36.setTop (mkF m 170 #[.val (.int u0), .val (.int u1), .val (.int u2), .val (.int u3), .val (.int (1 : Int32)), .val (.int t0), .val (.int t1), .val (.int t2), .val (.ref b26), .val (.ref b27), .val (.ref r33), .val (.int (1 : Int32))] [(.int (0 : Int32)), (.ref b27)]))
          refine Goes.of (fun t k => ldI X36 hx hZ e36 F35 (j := (0 : Int32)) (i := 0) (v := u1) (by decide) (by decide) (by decide) (by rw [hf_gg]; rfl) (g := (mkF m 170 #[.val (.int u0), .val (.int u1), .val (.int u2), .val (.int u3), .val (.int (1 : Int32)), .val (.int t0), .val (.int t1), .val (.int t2), .val (.ref b26), .val (.ref b27), .val (.ref r33), .val (.int (1 : Int32))] [(.int (0 : Int32)), (.ref b27)])) rfl rfl (hb hby at_170) t k) ?_
          show Goes _ _ _ _ _ _ _ (T36.setTop (mkF m 171 #[.val (.int u0), .val (.int u1), .val (.int u2), .val (.int u3), .val (.int (1 : Int32)), .val (.int t0), .val (.int t1), .val (.int t2), .val (.ref b26), .val (.ref b27), .val (.ref r33), .val (.int (1 : Int32))] [(.int u1)]))
          refine Goes.of (fun t k => XS.iloadN X36.here hx rfl (hb hby at_171) rfl k) ?_
          show Goes _ _ _ _ _ _ _ (T36.setTop (mkF m 172 #[.val (.int u0), .val (.int u1), .val (.int u2), .val (.int u3), .val (.int (1 : Int32)), .val (.int t0), .val (.int t1), .val (.int t2), .val (.ref b26), .val (.ref b27), .val (.ref r33), .val (.int (1 : Int32))] [(.int u1), (.int u1)]))
          refine Goes.of (fun t k => XS.icmpNo X36.here hx rfl (hb hby at_172) rfl (teq (rfl : u1 = u1)).2 k) ?_
          show Goes _ _ _ _ _ _ _ (T36.setTop (mkF m 175 #[.val (.int u0), .val (.int u1), .val (.int u2), .val (.int u3), .val (.int (1 : Int32)), .val (.int t0), .val (.int t1), .val (.int t2), .val (.ref b26), .val (.ref b27), .val (.ref r33), .val (.int (1 : Int32))] []))
          refine Goes.of (fun t k => XS.iconst X36.here hx rfl (hb hby at_175) k) ?_
          show Goes _ _ _ _ _ _ _ (T36.setTop (mkF m 176 #[.val (.int u0), .val (.int u1), .val (.int u2), .val (.int u3), .val (.int (1 : Int32)), .val (.int t0), .val (.int t1), .val (.int t2), .val (.ref b26), .val (.ref b27), .val (.ref r33), .val (.int (1 : Int32))] [(.int (1 : Int32))]))
          refine Goes.of (fun t k => XS.goto X36.here hx rfl (pc0 := 176) (pc' := 180) rfl (hb hby at_176) (by decide) (by decide) k) ?_
          show Goes _ _ _ _ _ _ _ (T36.setTop (mkF m 180 #[.val (.int u0), .val (.int u1), .val (.int u2), .val (.int u3), .val (.int (1 : Int32)), .val (.int t0), .val (.int t1), .val (.int t2), .val (.ref b26), .val (.ref b27), .val (.ref r33), .val (.int (1 : Int32))] [(.int (1 : Int32))]))
          refine Goes.of (fun t k => XS.istore X36.here hx rfl (hb hby at_180) rfl (l' := #[.val (.int u0), .val (.int u1), .val (.int u2), .val (.int u3), .val (.int (1 : Int32)), .val (.int t0), .val (.int t1), .val (.int t2), .val (.ref b26), .val (.ref b27), .val (.ref r33), .val (.int (1 : Int32))]) rfl k) ?_
          show Goes _ _ _ _ _ _ _ (T36.setTop (mkF m 182 #[.val (.int u0), .val (.int u1), .val (.int u2), .val (.int u3), .val (.int (1 : Int32)), .val (.int t0), .val (.int t1), .val (.int t2), .val (.ref b26), .val (.ref b27), .val (.ref r33), .val (.int (1 : Int32))] []))
          refine Goes.of (fun t k => XS.iload X36.here hx rfl (hb hby at_182) rfl k) ?_
          show Goes _ _ _ _ _ _ _ (T36.setTop (mkF m 184 #[.val (.int u0), .val (.int u1), .val (.int u2), .val (.int u3), .val (.int (1 : Int32)), .val (.int t0), .val (.int t1), .val (.int t2), .val (.ref b26), .val (.ref b27), .val (.ref r33), .val (.int (1 : Int32))] [(.int (1 : Int32))]))
          refine Goes.of (fun t k => XS.iconst X36.here hx rfl (hb hby at_184) k) ?_
          show Goes _ _ _ _ _ _ _ (T36.setTop (mkF m 185 #[.val (.int u0), .val (.int u1), .val (.int u2), .val (.int u3), .val (.int (1 : Int32)), .val (.int t0), .val (.int t1), .val (.int t2), .val (.ref b26), .val (.ref b27), .val (.ref r33), .val (.int (1 : Int32))] [(.int (1 : Int32)), (.int (1 : Int32))]))
          refine Goes.of (fun t k => XS.icmpYes X36.here hx rfl (pc0 := 185) (pc' := 230) rfl (hb hby at_185) rfl (flt (by decide : ¬ ((1 : Int32) < (1 : Int32)))).2.2.2 (by decide) (by decide) k) ?_
          show Goes _ _ _ _ _ _ _ (T36.setTop (mkF m 230 #[.val (.int u0), .val (.int u1), .val (.int u2), .val (.int u3), .val (.int (1 : Int32)), .val (.int t0), .val (.int t1), .val (.int t2), .val (.ref b26), .val (.ref b27), .val (.ref r33), .val (.int (1 : Int32))] []))
          refine Goes.of (fun t k => XS.iload X36.here hx rfl (hb hby at_230) rfl k) ?_
          show Goes _ _ _ _ _ _ _ (T36.setTop (mkF m 232 #[.val (.int u0), .val (.int u1), .val (.int u2), .val (.int u3), .val (.int (1 : Int32)), .val (.int t0), .val (.int t1), .val (.int t2), .val (.ref b26), .val (.ref b27), .val (.ref r33), .val (.int (1 : Int32))] [(.int (1 : Int32))]))
          refine Goes.of (fun t k => XS.iconst X36.here hx rfl (hb hby at_232) k) ?_
          show Goes _ _ _ _ _ _ _ (T36.setTop (mkF m 233 #[.val (.int u0), .val (.int u1), .val (.int u2), .val (.int u3), .val (.int (1 : Int32)), .val (.int t0), .val (.int t1), .val (.int t2), .val (.ref b26), .val (.ref b27), .val (.ref r33), .val (.int (1 : Int32))] [(.int (2 : Int32)), (.int (1 : Int32))]))
          refine Goes.of (fun t k => XS.icmpYes X36.here hx rfl (pc0 := 233) (pc' := 278) rfl (hb hby at_233) rfl (flt (by decide : ¬ ((2 : Int32) < (1 : Int32)))).2.2.2 (by decide) (by decide) k) ?_
          show Goes _ _ _ _ _ _ _ (T36.setTop (mkF m 278 #[.val (.int u0), .val (.int u1), .val (.int u2), .val (.int u3), .val (.int (1 : Int32)), .val (.int t0), .val (.int t1), .val (.int t2), .val (.ref b26), .val (.ref b27), .val (.ref r33), .val (.int (1 : Int32))] []))
          refine Goes.of (fun t k => XS.iload X36.here hx rfl (hb hby at_278) rfl k) ?_
          show Goes _ _ _ _ _ _ _ (T36.setTop (mkF m 280 #[.val (.int u0), .val (.int u1), .val (.int u2), .val (.int u3), .val (.int (1 : Int32)), .val (.int t0), .val (.int t1), .val (.int t2), .val (.ref b26), .val (.ref b27), .val (.ref r33), .val (.int (1 : Int32))] [(.int (1 : Int32))]))
          exact Goes.fin X36 hlk (v := some (.int (1 : Int32))) (fun h => by rw [Bd.returns] at h; cases h) (fun fs hr => retN X36 hx (t := .boolean) Bd.returns (by simp) (hb hby at_280) hr) ⟨rfl, N36⟩ (by decide) (by decide)
        · rw [h3]
          show Goes _ _ _ _ _ _ _ (T19.setTop (mkF m 46 #[.val (.int u0), .val (.int u1), .val (.int u2), .val (.int u3), .val (.int (2 : Int32)), .val (.int t0), .val (.int t1), .val (.int t2), .unset, .unset, .unset, .unset] []))
          refine Goes.of (fun t k => XS.iload X19.here hx rfl (hb hby at_46) rfl k) ?_
          show Goes _ _ _ _ _ _ _ (T19.setTop (mkF m 48 #[.val (.int u0), .val (.int u1), .val (.int u2), .val (.int u3), .val (.int (2 : Int32)), .val (.int t0), .val (.int t1), .val (.int t2), .unset, .unset, .unset, .unset] [(.int (2 : Int32))]))
          obtain ⟨T37, h37, k37, X37, e37, E37, A37, Ea37, st37⟩ := newPE X19 hx hZ (hw _ (List.mem_of_getElem? (i := 0) rfl)) e19 (g := (mkF m 48 #[.val (.int u0), .val (.int u1), .val (.int u2), .val (.int u3), .val (.int (2 : Int32)), .val (.int t0), .val (.int t1), .val (.int t2), .unset, .unset, .unset, .unset] [(.int (2 : Int32))])) rfl (hb hby at_48) rfl (by decide) (cap := 2) (by decide) (by decide) (by decide) (by decide) (ad := "[Z") (by decide)
          obtain ⟨b37, g37⟩ : ∃ z, z = h0.size := ⟨_, rfl⟩
          rw [← g37] at A37 Ea37 st37
          have V37 : AI Z h37 b37 .boolean 2 (fun _ => 0) := AI.new rfl rfl A37 (by decide) (by decide)
          have g_b37 : n0 ≤ b37 := Nat.le_trans Z0 (Nat.le_of_eq g37.symm)
          have Z37 : n0 ≤ h37.size := Nat.le_trans Z0 E37.1
          refine Goes.of st37 ?_
          show Goes _ _ _ _ _ _ _ (T37.setTop (mkF m 50 #[.val (.int u0), .val (.int u1), .val (.int u2), .val (.int u3), .val (.int (2 : Int32)), .val (.int t0), .val (.int t1), .val (.int t2), .unset, .unset, .unset, .unset] [(.ref b37)]))
          refine Goes.of (fun t k => XS.astore X37.here hx rfl (hb hby at_50) rfl rfl (l' := #[.val (.int u0), .val (.int u1), .val (.int u2), .val (.int u3), .val (.int (2 : Int32)), .val (.int t0), .val (.int t1), .val (.int t2), .val (.ref b37), .unset, .unset, .unset]) rfl k) ?_
          show Goes _ _ _ _ _ _ _ (T37.setTop (mkF m 52 #[.val (.int u0), .val (.int u1), .val (.int u2), .val (.int u3), .val (.int (2 : Int32)), .val (.int t0), .val (.int t1), .val (.int t2), .val (.ref b37), .unset, .unset, .unset] []))
          refine Goes.of (fun t k => XS.iload X37.here hx rfl (hb hby at_52) rfl k) ?_
          show Goes _ _ _ _ _ _ _ (T37.setTop (mkF m 54 #[.val (.int u0), .val (.int u1), .val (.int u2), .val (.int u3), .val (.int (2 : Int32)), .val (.int t0), .val (.int t1), .val (.int t2), .val (.ref b37), .unset, .unset, .unset] [(.int (2 : Int32))]))
          obtain ⟨T38, h38, k38, X38, e38, E38, A38, Ea38, st38⟩ := newPE X37 hx hZ (hw _ (List.mem_of_getElem? (i := 1) rfl)) e37 (g := (mkF m 54 #[.val (.int u0), .val (.int u1), .val (.int u2), .val (.int u3), .val (.int (2 : Int32)), .val (.int t0), .val (.int t1), .val (.int t2), .val (.ref b37), .unset, .unset, .unset] [(.int (2 : Int32))])) rfl (hb hby at_54) rfl (by decide) (cap := 2) (by decide) (by decide) (by decide) (by decide) (ad := "[I") (by decide)
          obtain ⟨b38, g38⟩ : ∃ z, z = h37.size := ⟨_, rfl⟩
          rw [← g38] at A38 Ea38 st38
          have V38 : AI Z h38 b38 .int 2 (fun _ => 0) := AI.new rfl rfl A38 (by decide) (by decide)
          have ne_b37_b38 : b37 ≠ b38 := Nat.ne_of_lt (Nat.lt_of_lt_of_le V37.lt (Nat.le_of_eq g38.symm))
          have g_b38 : n0 ≤ b38 := Nat.le_trans Z37 (Nat.le_of_eq g38.symm)
          have F39 := V37.ext E38
          have Z38 : n0 ≤ h38.size := Nat.le_trans Z37 E38.1
          refine Goes.of st38 ?_
          show Goes _ _ _ _ _ _ _ (T38.setTop (mkF m 56 #[.val (.int u0), .val (.int u1), .val (.int u2), .val (.int u3), .val (.int (2 : Int32)), .val (.int t0), .val (.int t1), .val (.int t2), .val (.ref b37), .unset, .unset, .unset] [(.ref b38)]))
          refine Goes.of (fun t k => XS.astore X38.here hx rfl (hb hby at_56) rfl rfl (l' := #[.val (.int u0), .val (.int u1), .val (.int u2), .val (.int u3), .val (.int (2 : Int32)), .val (.int t0), .val (.int t1), .val (.int t2), .val (.ref b37), .val (.ref b38), .unset, .unset]) rfl k) ?_
          show Goes _ _ _ _ _ _ _ (T38.setTop (mkF m 58 #[.val (.int u0), .val (.int u1), .val (.int u2), .val (.int u3), .val (.int (2 : Int32)), .val (.int t0), .val (.int t1), .val (.int t2), .val (.ref b37), .val (.ref b38), .unset, .unset] []))
          refine Goes.of (fun t k => XS.iload X38.here hx rfl (hb hby at_58) rfl k) ?_
          show Goes _ _ _ _ _ _ _ (T38.setTop (mkF m 60 #[.val (.int u0), .val (.int u1), .val (.int u2), .val (.int u3), .val (.int (2 : Int32)), .val (.int t0), .val (.int t1), .val (.int t2), .val (.ref b37), .val (.ref b38), .unset, .unset] [(.int (2 : Int32))]))
          refine Goes.of (fun t k => XS.ifNo X38.here hx rfl (hb hby at_60) rfl ((if0 _ _).trans (tlt (by decide : (0 : Int32) < (2 : Int32))).2.2.2) k) ?_
          show Goes _ _ _ _ _ _ _ (T38.setTop (mkF m 63 #[.val (.int u0), .val (.int u1), .val (.int u2), .val (.int u3), .val (.int (2 : Int32)), .val (.int t0), .val (.int t1), .val (.int t2), .val (.ref b37), .val (.ref b38), .unset, .unset] []))
          refine Goes.of (fun t k => XS.aload X38.here hx rfl (hb hby at_63) rfl rfl k) ?_
          show Goes _ _ _ _ _ _ _ (T38.setTop (mkF m 65 #[.val (.int u0), .val (.int u1), .val (.int u2), .val (.int u3), .val (.int (2 : Int32)), .val (.int t0), .val (.int t1), .val (.int t2), .val (.ref b37), .val (.ref b38), .unset, .unset] [(.ref b37)]))
          refine Goes.of (fun t k => XS.iconst X38.here hx rfl (hb hby at_65) k) ?_
          show Goes _ _ _ _ _ _ _ (T38.setTop (mkF m 66 #[.val (.int u0), .val (.int u1), .val (.int u2), .val (.int u3), .val (.int (2 : Int32)), .val (.int t0), .val (.int t1), .val (.int t2), .val (.ref b37), .val (.ref b38), .unset, .unset] [(.int (0 : Int32)), (.ref b37)]))
          refine Goes.of (fun t k => XS.iload X38.here hx rfl (hb hby at_66) rfl k) ?_
          show Goes _ _ _ _ _ _ _ (T38.setTop (mkF m 68 #[.val (.int u0), .val (.int u1), .val (.int u2), .val (.int u3), .val (.int (2 : Int32)), .val (.int t0), .val (.int t1), .val (.int t2), .val (.ref b37), .val (.ref b38), .unset, .unset] [(.int t0), (.int (0 : Int32)), (.ref b37)]))
          obtain ⟨T40, h40, X40, e40, W40, V40, st40⟩ := putZ X38 hx hZ e38 F39 (j := (0 : Int32)) (x := t0) (i := 0) (by decide) (by decide) (by decide) (g := (mkF m 68 #[.val (.int u0), .val (.int u1), .val (.int u2), .val (.int u3), .val (.int (2 : Int32)), .val (.int t0), .val (.int t1), .val (.int t2), .val (.ref b37), .val (.ref b38), .unset, .unset] [(.int t0), (.int (0 : Int32)), (.ref b37)])) rfl rfl (hb hby at_68)
          have F41 := V38.other W40 (Ne.symm ne_b37_b38)
          have Z40 : n0 ≤ h40.size := Nat.le_trans Z38 (Keep.of_wr W40).1
          have N40 := Fr.snoc X40 N19 g_b37
          refine Goes.of st40 ?_
          show Goes _ _ _ _ _ _ _ (T40.setTop (mkF m 69 #[.val (.int u0), .val (.int u1), .val (.int u2), .val (.int u3), .val (.int (2 : Int32)), .val (.int t0), .val (.int t1), .val (.int t2), .val (.ref b37), .val (.ref b38), .unset, .unset] []))
          refine Goes.of (fun t k => XS.aload X40.here hx rfl (hb hby at_69) rfl rfl k) ?_
          show Goes _ _ _ _ _ _ _ (T40.setTop (mkF m 71 #[.val (.int u0), .val (.int u1), .val (.int u2), .val (.int u3), .val (.int (2 : Int32)), .val (.int t0), .val (.int t1), .val (.int t2), .val (.ref b37), .val (.ref b38), .unset, .unset] [(.ref b38)]))
          refine Goes.of (fun t k => XS.iconst X40.here hx rfl (hb hby at_71) k) ?_
          show Goes _ _ _ _ _ _ _ (T40.setTop (mkF m 72 #[.val (.int u0), .val (.int u1), .val (.int u2), .val (.int u3), .val (.int (2 : Int32)), .val (.int t0), .val (.int t1), .val (.int t2), .val (.ref b37), .val (.ref b38), .unset, .unset] [(.int (0 : Int32)), (.ref b38)]))
          refine Goes.of (fun t k => XS.iloadN X40.here hx rfl (hb hby at_72) rfl k) ?_
          show Goes _ _ _ _ _ _ _ (T40.setTop (mkF m 73 #[.val (.int u0), .val (.int u1), .val (.int u2), .val (.int u3), .val (.int (2 : Int32)), .val (.int t0), .val (.int t1), .val (.int t2), .val (.ref b37), .val (.ref b38), .unset, .unset] [(.int u1), (.int (0 : Int32)), (.ref b38)]))
          obtain ⟨T42, h42, X42, e42, W42, V42, st42⟩ := putI X40 hx hZ e40 F41 (j := (0 : Int32)) (x := u1) (i := 0) (by decide) (by decide) (by decide) (g := (mkF m 73 #[.val (.int u0), .val (.int u1), .val (.int u2), .val (.int u3), .val (.int (2 : Int32)), .val (.int t0), .val (.int t1), .val (.int t2), .val (.ref b37), .val (.ref b38), .unset, .unset] [(.int u1), (.int (0 : Int32)), (.ref b38)])) rfl rfl (hb hby at_73)
          have F43 := V40.other W42 ne_b37_b38
          have Z42 : n0 ≤ h42.size := Nat.le_trans Z40 (Keep.of_wr W42).1
          have N42 := Fr.snoc X42 N40 g_b38
          refine Goes.of st42 ?_
          show Goes _ _ _ _ _ _ _ (T42.setTop (mkF m 74 #[.val (.int u0), .val (.int u1), .val (.int u2), .val (.int u3), .val (.int (2 : Int32)), .val (.int t0), .val (.int t1), .val (.int t2), .val (.ref b37), .val (.ref b38), .unset, .unset] []))
          refine Goes.of (fun t k => XS.iload X42.here hx rfl (hb hby at_74) rfl k) ?_
          show Goes _ _ _ _ _ _ _ (T42.setTop (mkF m 76 #[.val (.int u0), .val (.int u1), .val (.int u2), .val (.int u3), .val (.int (2 : Int32)), .val (.int t0), .val (.int t1), .val (.int t2), .val (.ref b37), .val (.ref b38), .unset, .unset] [(.int (2 : Int32))]))
          refine Goes.of (fun t k => XS.iconst X42.here hx rfl (hb hby at_76) k) ?_
          show Goes _ _ _ _ _ _ _ (T42.setTop (mkF m 77 #[.val (.int u0), .val (.int u1), .val (.int u2), .val (.int u3), .val (.int (2 : Int32)), .val (.int t0), .val (.int t1), .val (.int t2), .val (.ref b37), .val (.ref b38), .unset, .unset] [(.int (1 : Int32)), (.int (2 : Int32))]))
          refine Goes.of (fun t k => XS.icmpNo X42.here hx rfl (hb hby at_77) rfl (tlt (by decide : (1 : Int32) < (2 : Int32))).2.2.2 k) ?_
          show Goes _ _ _ _ _ _ _ (T42.setTop (mkF m 80 #[.val (.int u0), .val (.int u1), .val (.int u2), .val (.int u3), .val (.int (2 : Int32)), .val (.int t0), .val (.int t1), .val (.int t2), .val (.ref b37), .val (.ref b38), .unset, .unset] []))
          refine Goes.of (fun t k => XS.aload X42.here hx rfl (hb hby at_80) rfl rfl k) ?_
          show Goes _ _ _ _ _ _ _ (T42.setTop (mkF m 82 #[.val (.int u0), .val (.int u1), .val (.int u2), .val (.int u3), .val (.int (2 : Int32)), .val (.int t0), .val (.int t1), .val (.int t2), .val (.ref b37), .val (.ref b38), .unset, .unset] [(.ref b37)]))
          refine Goes.of (fun t k => XS.iconst X42.here hx rfl (hb hby at_82) k) ?_
          show Goes _ _ _ _ _ _ _ (T42.setTop (mkF m 83 #[.val (.int u0), .val (.int u1), .val (.int u2), .val (.int u3), .val (.int (2 : Int32)), .val (.int t0), .val (.int t1), .val (.int t2), .val (.ref b37), .val (.ref b38), .unset, .unset] [(.int (1 : Int32)), (.ref b37)]))
          refine Goes.of (fun t k => XS.iload X42.here hx rfl (hb hby at_83) rfl k) ?_
          show Goes _ _ _ _ _ _ _ (T42.setTop (mkF m 85 #[.val (.int u0), .val (.int u1), .val (.int u2), .val (.int u3), .val (.int (2 : Int32)), .val (.int t0), .val (.int t1), .val (.int t2), .val (.ref b37), .val (.ref b38), .unset, .unset] [(.int t1), (.int (1 : Int32)), (.ref b37)]))
          obtain ⟨T44, h44, X44, e44, W44, V44, st44⟩ := putZ X42 hx hZ e42 F43 (j := (1 : Int32)) (x := t1) (i := 1) (by decide) (by decide) (by decide) (g := (mkF m 85 #[.val (.int u0), .val (.int u1), .val (.int u2), .val (.int u3), .val (.int (2 : Int32)), .val (.int t0), .val (.int t1), .val (.int t2), .val (.ref b37), .val (.ref b38), .unset, .unset] [(.int t1), (.int (1 : Int32)), (.ref b37)])) rfl rfl (hb hby at_85)
          have F45 := V42.other W44 (Ne.symm ne_b37_b38)
          have Z44 : n0 ≤ h44.size := Nat.le_trans Z42 (Keep.of_wr W44).1
          have N44 := Fr.snoc X44 N42 g_b37
          refine Goes.of st44 ?_
          show Goes _ _ _ _ _ _ _ (T44.setTop (mkF m 86 #[.val (.int u0), .val (.int u1), .val (.int u2), .val (.int u3), .val (.int (2 : Int32)), .val (.int t0), .val (.int t1), .val (.int t2), .val (.ref b37), .val (.ref b38), .unset, .unset] []))
          refine Goes.of (fun t k => XS.aload X44.here hx rfl (hb hby at_86) rfl rfl k) ?_
          show Goes _ _ _ _ _ _ _ (T44.setTop (mkF m 88 #[.val (.int u0), .val (.int u1), .val (.int u2), .val (.int u3), .val (.int (2 : Int32)), .val (.int t0), .val (.int t1), .val (.int t2), .val (.ref b37), .val (.ref b38), .unset, .unset] [(.ref b38)]))
          refine Goes.of (fun t k => XS.iconst X44.here hx rfl (hb hby at_88) k) ?_
          show Goes _ _ _ _ _ _ _ (T44.setTop (mkF m 89 #[.val (.int u0), .val (.int u1), .val (.int u2), .val (.int u3), .val (.int (2 : Int32)), .val (.int t0), .val (.int t1), .val (.int t2), .val (.ref b37), .val (.ref b38), .unset, .unset] [(.int (1 : Int32)), (.ref b38)]))
          refine Goes.of (fun t k => XS.iloadN X44.here hx rfl (hb hby at_89) rfl k) ?_
          show Goes _ _ _ _ _ _ _ (T44.setTop (mkF m 90 #[.val (.int u0), .val (.int u1), .val (.int u2), .val (.int u3), .val (.int (2 : Int32)), .val (.int t0), .val (.int t1), .val (.int t2), .val (.ref b37), .val (.ref b38), .unset, .unset] [(.int u2), (.int (1 : Int32)), (.ref b38)]))
          obtain ⟨T46, h46, X46, e46, W46, V46, st46⟩ := putI X44 hx hZ e44 F45 (j := (1 : Int32)) (x := u2) (i := 1) (by decide) (by decide) (by decide) (g := (mkF m 90 #[.val (.int u0), .val (.int u1), .val (.int u2), .val (.int u3), .val (.int (2 : Int32)), .val (.int t0), .val (.int t1), .val (.int t2), .val (.ref b37), .val (.ref b38), .unset, .unset] [(.int u2), (.int (1 : Int32)), (.ref b38)])) rfl rfl (hb hby at_90)
          have F47 := V44.other W46 ne_b37_b38
          have Z46 : n0 ≤ h46.size := Nat.le_trans Z44 (Keep.of_wr W46).1
          have N46 := Fr.snoc X46 N44 g_b38
          refine Goes.of st46 ?_
          show Goes _ _ _ _ _ _ _ (T46.setTop (mkF m 91 #[.val (.int u0), .val (.int u1), .val (.int u2), .val (.int u3), .val (.int (2 : Int32)), .val (.int t0), .val (.int t1), .val (.int t2), .val (.ref b37), .val (.ref b38), .unset, .unset] []))
          refine Goes.of (fun t k => XS.iload X46.here hx rfl (hb hby at_91) rfl k) ?_
          show Goes _ _ _ _ _ _ _ (T46.setTop (mkF m 93 #[.val (.int u0), .val (.int u1), .val (.int u2), .val (.int u3), .val (.int (2 : Int32)), .val (.int t0), .val (.int t1), .val (.int t2), .val (.ref b37), .val (.ref b38), .unset, .unset] [(.int (2 : Int32))]))
          refine Goes.of (fun t k => XS.iconst X46.here hx rfl (hb hby at_93) k) ?_
          show Goes _ _ _ _ _ _ _ (T46.setTop (mkF m 94 #[.val (.int u0), .val (.int u1), .val (.int u2), .val (.int u3), .val (.int (2 : Int32)), .val (.int t0), .val (.int t1), .val (.int t2), .val (.ref b37), .val (.ref b38), .unset, .unset] [(.int (2 : Int32)), (.int (2 : Int32))]))
          refine Goes.of (fun t k => XS.icmpYes X46.here hx rfl (pc0 := 94) (pc' := 108) rfl (hb hby at_94) rfl (flt (by decide : ¬ ((2 : Int32) < (2 : Int32)))).2.2.2 (by decide) (by decide) k) ?_
          show Goes _ _ _ _ _ _ _ (T46.setTop (mkF m 108 #[.val (.int u0), .val (.int u1), .val (.int u2), .val (.int u3), .val (.int (2 : Int32)), .val (.int t0), .val (.int t1), .val (.int t2), .val (.ref b37), .val (.ref b38), .unset, .unset] []))
          refine Goes.of (fun t k => XS.aload X46.here hx rfl (hb hby at_108) rfl rfl k) ?_
          show Goes _ _ _ _ _ _ _ (T46.setTop (mkF m 110 #[.val (.int u0), .val (.int u1), .val (.int u2), .val (.int u3), .val (.int (2 : Int32)), .val (.int t0), .val (.int t1), .val (.int t2), .val (.ref b37), .val (.ref b38), .unset, .unset] [(.ref b37)]))
          refine Goes.of (fun t k => XS.aload X46.here hx rfl (hb hby at_110) rfl rfl k) ?_
          show Goes _ _ _ _ _ _ _ (T46.setTop (mkF m 112 #[.val (.int u0), .val (.int u1), .val (.int u2), .val (.int u3), .val (.int (2 : Int32)), .val (.int t0), .val (.int t1), .val (.int t2), .val (.ref b37), .val (.ref b38), .unset, .unset] [(.ref b38), (.ref b37)]))
          obtain ⟨ff, hf_ff⟩ : ∃ f : Nat → Int32, f = (upd (upd (fun _ => 0) 0 (t0 &&& 1)) 1 (t1 &&& 1)) := ⟨_, rfl⟩
          rw [← hf_ff] at F47
          obtain ⟨gg, hf_gg⟩ : ∃ f : Nat → Int32, f = (upd (upd (fun _ => 0) 0 u1) 1 u2) := ⟨_, rfl⟩
          rw [← hf_gg] at V46
          obtain ⟨_, _, ⟨T48, L48, k48, n48⟩, -, X48, ⟨Lc48, hQ48, l48, y48, z48⟩, st48⟩ := Jvm.LawKit.callS X46 hx (y := (⟨"com/example/network_attack_odds/networkattackodds/engine/GoalGraph", "reached", "([Z[I)[Z"⟩ : MethodName)) hown (mvT hZ (hw _ (List.mem_of_getElem? (i := 2) rfl))) (mvT hZ (hw _ (List.mem_of_getElem? (i := 3) rfl))) (mvT hZ (hw _ (List.mem_of_getElem? (i := 4) rfl))) (mvT hZ (hw _ (List.mem_of_getElem? (i := 5) rfl))) (by decide) (backOf (W := 0) (rm1 l Z a0 hw [] b37 b38 2 (2 : Int32) ff gg h46 n0 Z46 F47 V46 (by decide) (by decide)) hZ (hw _ (List.mem_of_getElem? (i := 5) rfl)) (hw _ (List.mem_of_getElem? (i := 4) rfl)) (by decide) (by decide)) (g := (mkF m 112 #[.val (.int u0), .val (.int u1), .val (.int u2), .val (.int u3), .val (.int (2 : Int32)), .val (.int t0), .val (.int t1), .val (.int t2), .val (.ref b37), .val (.ref b38), .unset, .unset] [(.ref b38), (.ref b37)])) rfl (by rw [hml]; rfl) (argsL := [(.ref b37), (.ref b38)]) (rest := []) (lenOf pd_0 rfl) rfl (by show 2 * 0 + _ ≤ _; exact Nat.le_of_eq rfl) (hb hby at_112) (fun _ _ => ⟨rfl, e46, (by decide : 2 + 1 ≤ _), (by decide : 4 + 3 ≤ _)⟩)
          dsimp only [Pt.U, Pt.locs, Pt.cells, Pt.slots] at X48 l48 y48 z48 st48 hQ48
          subst l48 y48 z48
          obtain ⟨r48, rfl, N48q, K48, sz48, V48⟩ := hQ48
          have ne_b37_r48 : b37 ≠ r48 := Nat.ne_of_lt (Nat.lt_of_lt_of_le F47.lt sz48)
          have ne_b38_r48 : b38 ≠ r48 := Nat.ne_of_lt (Nat.lt_of_lt_of_le V46.lt sz48)
          have F49 := F47.keep K48 nin0
          have F50 := V46.keep K48 nin0
          have g_r48 : n0 ≤ r48 := Nat.le_trans Z46 sz48
          have Z48 : n0 ≤ T48.heap.size := Nat.le_trans Z46 K48.1
          have N48 := Fr.app N46 N48q
          refine Goes.of st48 ?_
          show Goes _ _ _ _ _ _ _ (T48.setTop (mkF m 115 #[.val (.int u0), .val (.int u1), .val (.int u2), .val (.int u3), .val (.int (2 : Int32)), .val (.int t0), .val (.int t1), .val (.int t2), .val (.ref b37), .val (.ref b38), .unset, .unset] [(.ref r48)]))
          refine Goes.of (fun t k => XS.astore X48.here hx rfl (hb hby at_115) rfl rfl (l' := #[.val (.int u0), .val (.int u1), .val (.int u2), .val (.int u3), .val (.int (2 : Int32)), .val (.int t0), .val (.int t1), .val (.int t2), .val (.ref b37), .val (.ref b38), .val (.ref r48), .unset]) rfl k) ?_
          show Goes _ _ _ _ _ _ _ (T48.setTop (mkF m 117 #[.val (.int u0), .val (.int u1), .val (.int u2), .val (.int u3), .val (.int (2 : Int32)), .val (.int t0), .val (.int t1), .val (.int t2), .val (.ref b37), .val (.ref b38), .val (.ref r48), .unset] []))
          refine Goes.of (fun t k => XS.aload X48.here hx rfl (hb hby at_117) rfl rfl k) ?_
          show Goes _ _ _ _ _ _ _ (T48.setTop (mkF m 119 #[.val (.int u0), .val (.int u1), .val (.int u2), .val (.int u3), .val (.int (2 : Int32)), .val (.int t0), .val (.int t1), .val (.int t2), .val (.ref b37), .val (.ref b38), .val (.ref r48), .unset] [(.ref r48)]))
          refine Goes.of (fun t k => XS.ifnullNo X48.here hx rfl (hb hby at_119) rfl k) ?_
          show Goes _ _ _ _ _ _ _ (T48.setTop (mkF m 122 #[.val (.int u0), .val (.int u1), .val (.int u2), .val (.int u3), .val (.int (2 : Int32)), .val (.int t0), .val (.int t1), .val (.int t2), .val (.ref b37), .val (.ref b38), .val (.ref r48), .unset] []))
          refine Goes.of (fun t k => XS.aload X48.here hx rfl (hb hby at_122) rfl rfl k) ?_
          show Goes _ _ _ _ _ _ _ (T48.setTop (mkF m 124 #[.val (.int u0), .val (.int u1), .val (.int u2), .val (.int u3), .val (.int (2 : Int32)), .val (.int t0), .val (.int t1), .val (.int t2), .val (.ref b37), .val (.ref b38), .val (.ref r48), .unset] [(.ref r48)]))
          refine Goes.of (fun t k => lenA X48 hx hZ rfl V48 (z := (2 : Int32)) (by decide) (g := (mkF m 124 #[.val (.int u0), .val (.int u1), .val (.int u2), .val (.int u3), .val (.int (2 : Int32)), .val (.int t0), .val (.int t1), .val (.int t2), .val (.ref b37), .val (.ref b38), .val (.ref r48), .unset] [(.ref r48)])) rfl rfl (hb hby at_124) t k) ?_
          show Goes _ _ _ _ _ _ _ (T48.setTop (mkF m 125 #[.val (.int u0), .val (.int u1), .val (.int u2), .val (.int u3), .val (.int (2 : Int32)), .val (.int t0), .val (.int t1), .val (.int t2), .val (.ref b37), .val (.ref b38), .val (.ref r48), .unset] [(.int (2 : Int32))]))
          refine Goes.of (fun t k => XS.iload X48.here hx rfl (hb hby at_125) rfl k) ?_
          show Goes _ _ _ _ _ _ _ (T48.setTop (mkF m 127 #[.val (.int u0), .val (.int u1), .val (.int u2), .val (.int u3), .val (.int (2 : Int32)), .val (.int t0), .val (.int t1), .val (.int t2), .val (.ref b37), .val (.ref b38), .val (.ref r48), .unset] [(.int (2 : Int32)), (.int (2 : Int32))]))
          refine Goes.of (fun t k => XS.icmpYes X48.here hx rfl (pc0 := 127) (pc' := 132) rfl (hb hby at_127) rfl (teq (rfl : (2 : Int32) = (2 : Int32))).1 (by decide) (by decide) k) ?_
          show Goes _ _ _ _ _ _ _ (T48.setTop (mkF m 132 #[.val (.int u0), .val (.int u1), .val (.int u2), .val (.int u3), .val (.int (2 : Int32)), .val (.int t0), .val (.int t1), .val (.int t2), .val (.ref b37), .val (.ref b38), .val (.ref r48), .unset] []))
          refine Goes.of (fun t k => XS.iconst X48.here hx rfl (hb hby at_132) k) ?_
          show Goes _ _ _ _ _ _ _ (T48.setTop (mkF m 133 #[.val (.int u0), .val (.int u1), .val (.int u2), .val (.int u3), .val (.int (2 : Int32)), .val (.int t0), .val (.int t1), .val (.int t2), .val (.ref b37), .val (.ref b38), .val (.ref r48), .unset] [(.int (1 : Int32))]))
          refine Goes.of (fun t k => XS.istore X48.here hx rfl (hb hby at_133) rfl (l' := #[.val (.int u0), .val (.int u1), .val (.int u2), .val (.int u3), .val (.int (2 : Int32)), .val (.int t0), .val (.int t1), .val (.int t2), .val (.ref b37), .val (.ref b38), .val (.ref r48), .val (.int (1 : Int32))]) rfl k) ?_
          show Goes _ _ _ _ _ _ _ (T48.setTop (mkF m 135 #[.val (.int u0), .val (.int u1), .val (.int u2), .val (.int u3), .val (.int (2 : Int32)), .val (.int t0), .val (.int t1), .val (.int t2), .val (.ref b37), .val (.ref b38), .val (.ref r48), .val (.int (1 : Int32))] []))
          refine Goes.of (fun t k => XS.iload X48.here hx rfl (hb hby at_135) rfl k) ?_
          show Goes _ _ _ _ _ _ _ (T48.setTop (mkF m 137 #[.val (.int u0), .val (.int u1), .val (.int u2), .val (.int u3), .val (.int (2 : Int32)), .val (.int t0), .val (.int t1), .val (.int t2), .val (.ref b37), .val (.ref b38), .val (.ref r48), .val (.int (1 : Int32))] [(.int (2 : Int32))]))
          refine Goes.of (fun t k => XS.ifNo X48.here hx rfl (hb hby at_137) rfl ((if0 _ _).trans (tlt (by decide : (0 : Int32) < (2 : Int32))).2.2.2) k) ?_
          show Goes _ _ _ _ _ _ _ (T48.setTop (mkF m 140 #[.val (.int u0), .val (.int u1), .val (.int u2), .val (.int u3), .val (.int (2 : Int32)), .val (.int t0), .val (.int t1), .val (.int t2), .val (.ref b37), .val (.ref b38), .val (.ref r48), .val (.int (1 : Int32))] []))
          refine Goes.of (fun t k => XS.iload X48.here hx rfl (hb hby at_140) rfl k) ?_
          show Goes _ _ _ _ _ _ _ (T48.setTop (mkF m 142 #[.val (.int u0), .val (.int u1), .val (.int u2), .val (.int u3), .val (.int (2 : Int32)), .val (.int t0), .val (.int t1), .val (.int t2), .val (.ref b37), .val (.ref b38), .val (.ref r48), .val (.int (1 : Int32))] [(.int (1 : Int32))]))
          refine Goes.of (fun t k => XS.ifNo X48.here hx rfl (hb hby at_142) rfl ((if0 _ _).trans (feq (by decide : ¬ ((1 : Int32) = (0 : Int32)))).1) k) ?_
          show Goes _ _ _ _ _ _ _ (T48.setTop (mkF m 145 #[.val (.int u0), .val (.int u1), .val (.int u2), .val (.int u3), .val (.int (2 : Int32)), .val (.int t0), .val (.int t1), .val (.int t2), .val (.ref b37), .val (.ref b38), .val (.ref r48), .val (.int (1 : Int32))] []))
          refine Goes.of (fun t k => XS.aload X48.here hx rfl (hb hby at_145) rfl rfl k) ?_
          show Goes _ _ _ _ _ _ _ (T48.setTop (mkF m 147 #[.val (.int u0), .val (.int u1), .val (.int u2), .val (.int u3), .val (.int (2 : Int32)), .val (.int t0), .val (.int t1), .val (.int t2), .val (.ref b37), .val (.ref b38), .val (.ref r48), .val (.int (1 : Int32))] [(.ref r48)]))
          refine Goes.of (fun t k => XS.iconst X48.here hx rfl (hb hby at_147) k) ?_
          show Goes _ _ _ _ _ _ _ (T48.setTop (mkF m 148 #[.val (.int u0), .val (.int u1), .val (.int u2), .val (.int u3), .val (.int (2 : Int32)), .val (.int t0), .val (.int t1), .val (.int t2), .val (.ref b37), .val (.ref b38), .val (.ref r48), .val (.int (1 : Int32))] [(.int (0 : Int32)), (.ref r48)]))
          refine Goes.of (fun t k => ldZ X48 hx hZ rfl V48 (j := (0 : Int32)) (i := 0) (v := (own_re t0 u1)) (by decide) (by decide) (by decide) (by rw [hf_ff, hf_gg]; rfl) (g := (mkF m 148 #[.val (.int u0), .val (.int u1), .val (.int u2), .val (.int u3), .val (.int (2 : Int32)), .val (.int t0), .val (.int t1), .val (.int t2), .val (.ref b37), .val (.ref b38), .val (.ref r48), .val (.int (1 : Int32))] [(.int (0 : Int32)), (.ref r48)])) rfl rfl (hb hby at_148) t k) ?_
          show Goes _ _ _ _ _ _ _ (T48.setTop (mkF m 149 #[.val (.int u0), .val (.int u1), .val (.int u2), .val (.int u3), .val (.int (2 : Int32)), .val (.int t0), .val (.int t1), .val (.int t2), .val (.ref b37), .val (.ref b38), .val (.ref r48), .val (.int (1 : Int32))] [(.int (own_re t0 u1))]))
          refine Goes.of (fun t k => XS.iload X48.here hx rfl (hb hby at_149) rfl k) ?_
          show Goes _ _ _ _ _ _ _ (T48.setTop (mkF m 151 #[.val (.int u0), .val (.int u1), .val (.int u2), .val (.int u3), .val (.int (2 : Int32)), .val (.int t0), .val (.int t1), .val (.int t2), .val (.ref b37), .val (.ref b38), .val (.ref r48), .val (.int (1 : Int32))] [(.int t0), (.int (own_re t0 u1))]))
          refine Goes.of (fun t k => XS.iloadN X48.here hx rfl (hb hby at_151) rfl k) ?_
          show Goes _ _ _ _ _ _ _ (T48.setTop (mkF m 152 #[.val (.int u0), .val (.int u1), .val (.int u2), .val (.int u3), .val (.int (2 : Int32)), .val (.int t0), .val (.int t1), .val (.int t2), .val (.ref b37), .val (.ref b38), .val (.ref r48), .val (.int (1 : Int32))] [(.int u1), (.int t0), (.int (own_re t0 u1))]))
          obtain ⟨_, _, ⟨T51, L51, k51, n51⟩, -, X51, ⟨Lc51, hQ51, l51, y51, z51⟩, st51⟩ := Jvm.LawKit.callS X48 hx (y := (⟨"com/example/network_attack_odds/networkattackodds/engine/GoalGraphReachedPinLaw", "expected", "(ZI)Z"⟩ : MethodName)) hown (mvT hZ (hw _ (List.mem_of_getElem? (i := 6) rfl))) (mvT hZ (hw _ (List.mem_of_getElem? (i := 7) rfl))) (mvT hZ (hw _ (List.mem_of_getElem? (i := 8) rfl))) (mvT hZ (hw _ (List.mem_of_getElem? (i := 9) rfl))) (by decide) (backOf (W := 1) (rm2 l Z a0 hw [] t0 u1  T48.heap n0 ) hZ (hw _ (List.mem_of_getElem? (i := 9) rfl)) (hw _ (List.mem_of_getElem? (i := 8) rfl)) (by decide) (by decide)) (g := (mkF m 152 #[.val (.int u0), .val (.int u1), .val (.int u2), .val (.int u3), .val (.int (2 : Int32)), .val (.int t0), .val (.int t1), .val (.int t2), .val (.ref b37), .val (.ref b38), .val (.ref r48), .val (.int (1 : Int32))] [(.int u1), (.int t0), (.int (own_re t0 u1))])) rfl (by rw [hml]; rfl) (argsL := [(.int t0), (.int u1)]) (rest := [(.int (own_re t0 u1))]) (lenOf pd_1 rfl) rfl (by show 2 * 0 + _ ≤ _; exact Nat.le_of_eq rfl) (hb hby at_152) (fun _ _ => ⟨rfl, rfl, (by decide : 3 + 0 ≤ _), (by decide : 7 + 0 ≤ _)⟩)
          dsimp only [Pt.U, Pt.locs, Pt.cells, Pt.slots] at X51 l51 y51 z51 st51 hQ51
          subst l51 y51 z51
          obtain ⟨rfl, N51q, e51⟩ := hQ51
          have N51 := Fr.app N48 N51q
          refine Goes.of st51 ?_
          show Goes _ _ _ _ _ _ _ (T51.setTop (mkF m 155 #[.val (.int u0), .val (.int u1), .val (.int u2), .val (.int u3), .val (.int (2 : Int32)), .val (.int t0), .val (.int t1), .val (.int t2), .val (.ref b37), .val (.ref b38), .val (.ref r48), .val (.int (1 : Int32))] [(.int (f2 t0 u1)), (.int (own_re t0 u1))]))
          refine Goes.of (fun t k => XS.icmpNo X51.here hx rfl (hb hby at_155) rfl (teq (own_req u1 hg17_t0_0)).2 k) ?_
          show Goes _ _ _ _ _ _ _ (T51.setTop (mkF m 158 #[.val (.int u0), .val (.int u1), .val (.int u2), .val (.int u3), .val (.int (2 : Int32)), .val (.int t0), .val (.int t1), .val (.int t2), .val (.ref b37), .val (.ref b38), .val (.ref r48), .val (.int (1 : Int32))] []))
          refine Goes.of (fun t k => XS.aload X51.here hx rfl (hb hby at_158) rfl rfl k) ?_
          show Goes _ _ _ _ _ _ _ (T51.setTop (mkF m 160 #[.val (.int u0), .val (.int u1), .val (.int u2), .val (.int u3), .val (.int (2 : Int32)), .val (.int t0), .val (.int t1), .val (.int t2), .val (.ref b37), .val (.ref b38), .val (.ref r48), .val (.int (1 : Int32))] [(.ref b37)]))
          refine Goes.of (fun t k => XS.iconst X51.here hx rfl (hb hby at_160) k) ?_
          show Goes _ _ _ _ _ _ _ (T51.setTop (mkF m 161 #[.val (.int u0), .val (.int u1), .val (.int u2), .val (.int u3), .val (.int (2 : Int32)), .val (.int t0), .val (.int t1), .val (.int t2), .val (.ref b37), .val (.ref b38), .val (.ref r48), .val (.int (1 : Int32))] [(.int (0 : Int32)), (.ref b37)]))
          refine Goes.of (fun t k => ldZ X51 hx hZ e51 F49 (j := (0 : Int32)) (i := 0) (v := t0) (by decide) (by decide) (by decide) (by rw [hf_ff]; exact own_t1 hg17_t0_0) (g := (mkF m 161 #[.val (.int u0), .val (.int u1), .val (.int u2), .val (.int u3), .val (.int (2 : Int32)), .val (.int t0), .val (.int t1), .val (.int t2), .val (.ref b37), .val (.ref b38), .val (.ref r48), .val (.int (1 : Int32))] [(.int (0 : Int32)), (.ref b37)])) rfl rfl (hb hby at_161) t k) ?_
          show Goes _ _ _ _ _ _ _ (T51.setTop (mkF m 162 #[.val (.int u0), .val (.int u1), .val (.int u2), .val (.int u3), .val (.int (2 : Int32)), .val (.int t0), .val (.int t1), .val (.int t2), .val (.ref b37), .val (.ref b38), .val (.ref r48), .val (.int (1 : Int32))] [(.int t0)]))
          refine Goes.of (fun t k => XS.iload X51.here hx rfl (hb hby at_162) rfl k) ?_
          show Goes _ _ _ _ _ _ _ (T51.setTop (mkF m 164 #[.val (.int u0), .val (.int u1), .val (.int u2), .val (.int u3), .val (.int (2 : Int32)), .val (.int t0), .val (.int t1), .val (.int t2), .val (.ref b37), .val (.ref b38), .val (.ref r48), .val (.int (1 : Int32))] [(.int t0), (.int t0)]))
          refine Goes.of (fun t k => XS.icmpNo X51.here hx rfl (hb hby at_164) rfl (teq (rfl : t0 = t0)).2 k) ?_
          show Goes _ _ _ _ _ _ _ (T51.setTop (mkF m 167 #[.val (.int u0), .val (.int u1), .val (.int u2), .val (.int u3), .val (.int (2 : Int32)), .val (.int t0), .val (.int t1), .val (.int t2), .val (.ref b37), .val (.ref b38), .val (.ref r48), .val (.int (1 : Int32))] []))
          refine Goes.of (fun t k => XS.aload X51.here hx rfl (hb hby at_167) rfl rfl k) ?_
          show Goes _ _ _ _ _ _ _ (T51.setTop (mkF m 169 #[.val (.int u0), .val (.int u1), .val (.int u2), .val (.int u3), .val (.int (2 : Int32)), .val (.int t0), .val (.int t1), .val (.int t2), .val (.ref b37), .val (.ref b38), .val (.ref r48), .val (.int (1 : Int32))] [(.ref b38)]))
          refine Goes.of (fun t k => XS.iconst X51.here hx rfl (hb hby at_169) k) ?_
          show Goes _ _ _ _ _ _ _ (T51.setTop (mkF m 170 #[.val (.int u0), .val (.int u1), .val (.int u2), .val (.int u3), .val (.int (2 : Int32)), .val (.int t0), .val (.int t1), .val (.int t2), .val (.ref b37), .val (.ref b38), .val (.ref r48), .val (.int (1 : Int32))] [(.int (0 : Int32)), (.ref b38)]))
          refine Goes.of (fun t k => ldI X51 hx hZ e51 F50 (j := (0 : Int32)) (i := 0) (v := u1) (by decide) (by decide) (by decide) (by rw [hf_gg]; rfl) (g := (mkF m 170 #[.val (.int u0), .val (.int u1), .val (.int u2), .val (.int u3), .val (.int (2 : Int32)), .val (.int t0), .val (.int t1), .val (.int t2), .val (.ref b37), .val (.ref b38), .val (.ref r48), .val (.int (1 : Int32))] [(.int (0 : Int32)), (.ref b38)])) rfl rfl (hb hby at_170) t k) ?_
          show Goes _ _ _ _ _ _ _ (T51.setTop (mkF m 171 #[.val (.int u0), .val (.int u1), .val (.int u2), .val (.int u3), .val (.int (2 : Int32)), .val (.int t0), .val (.int t1), .val (.int t2), .val (.ref b37), .val (.ref b38), .val (.ref r48), .val (.int (1 : Int32))] [(.int u1)]))
          refine Goes.of (fun t k => XS.iloadN X51.here hx rfl (hb hby at_171) rfl k) ?_
          show Goes _ _ _ _ _ _ _ (T51.setTop (mkF m 172 #[.val (.int u0), .val (.int u1), .val (.int u2), .val (.int u3), .val (.int (2 : Int32)), .val (.int t0), .val (.int t1), .val (.int t2), .val (.ref b37), .val (.ref b38), .val (.ref r48), .val (.int (1 : Int32))] [(.int u1), (.int u1)]))
          refine Goes.of (fun t k => XS.icmpNo X51.here hx rfl (hb hby at_172) rfl (teq (rfl : u1 = u1)).2 k) ?_
          show Goes _ _ _ _ _ _ _ (T51.setTop (mkF m 175 #[.val (.int u0), .val (.int u1), .val (.int u2), .val (.int u3), .val (.int (2 : Int32)), .val (.int t0), .val (.int t1), .val (.int t2), .val (.ref b37), .val (.ref b38), .val (.ref r48), .val (.int (1 : Int32))] []))
          refine Goes.of (fun t k => XS.iconst X51.here hx rfl (hb hby at_175) k) ?_
          show Goes _ _ _ _ _ _ _ (T51.setTop (mkF m 176 #[.val (.int u0), .val (.int u1), .val (.int u2), .val (.int u3), .val (.int (2 : Int32)), .val (.int t0), .val (.int t1), .val (.int t2), .val (.ref b37), .val (.ref b38), .val (.ref r48), .val (.int (1 : Int32))] [(.int (1 : Int32))]))
          refine Goes.of (fun t k => XS.goto X51.here hx rfl (pc0 := 176) (pc' := 180) rfl (hb hby at_176) (by decide) (by decide) k) ?_
          show Goes _ _ _ _ _ _ _ (T51.setTop (mkF m 180 #[.val (.int u0), .val (.int u1), .val (.int u2), .val (.int u3), .val (.int (2 : Int32)), .val (.int t0), .val (.int t1), .val (.int t2), .val (.ref b37), .val (.ref b38), .val (.ref r48), .val (.int (1 : Int32))] [(.int (1 : Int32))]))
          refine Goes.of (fun t k => XS.istore X51.here hx rfl (hb hby at_180) rfl (l' := #[.val (.int u0), .val (.int u1), .val (.int u2), .val (.int u3), .val (.int (2 : Int32)), .val (.int t0), .val (.int t1), .val (.int t2), .val (.ref b37), .val (.ref b38), .val (.ref r48), .val (.int (1 : Int32))]) rfl k) ?_
          show Goes _ _ _ _ _ _ _ (T51.setTop (mkF m 182 #[.val (.int u0), .val (.int u1), .val (.int u2), .val (.int u3), .val (.int (2 : Int32)), .val (.int t0), .val (.int t1), .val (.int t2), .val (.ref b37), .val (.ref b38), .val (.ref r48), .val (.int (1 : Int32))] []))
          refine Goes.of (fun t k => XS.iload X51.here hx rfl (hb hby at_182) rfl k) ?_
          show Goes _ _ _ _ _ _ _ (T51.setTop (mkF m 184 #[.val (.int u0), .val (.int u1), .val (.int u2), .val (.int u3), .val (.int (2 : Int32)), .val (.int t0), .val (.int t1), .val (.int t2), .val (.ref b37), .val (.ref b38), .val (.ref r48), .val (.int (1 : Int32))] [(.int (2 : Int32))]))
          refine Goes.of (fun t k => XS.iconst X51.here hx rfl (hb hby at_184) k) ?_
          show Goes _ _ _ _ _ _ _ (T51.setTop (mkF m 185 #[.val (.int u0), .val (.int u1), .val (.int u2), .val (.int u3), .val (.int (2 : Int32)), .val (.int t0), .val (.int t1), .val (.int t2), .val (.ref b37), .val (.ref b38), .val (.ref r48), .val (.int (1 : Int32))] [(.int (1 : Int32)), (.int (2 : Int32))]))
          refine Goes.of (fun t k => XS.icmpNo X51.here hx rfl (hb hby at_185) rfl (tlt (by decide : (1 : Int32) < (2 : Int32))).2.2.2 k) ?_
          show Goes _ _ _ _ _ _ _ (T51.setTop (mkF m 188 #[.val (.int u0), .val (.int u1), .val (.int u2), .val (.int u3), .val (.int (2 : Int32)), .val (.int t0), .val (.int t1), .val (.int t2), .val (.ref b37), .val (.ref b38), .val (.ref r48), .val (.int (1 : Int32))] []))
          refine Goes.of (fun t k => XS.iload X51.here hx rfl (hb hby at_188) rfl k) ?_
          show Goes _ _ _ _ _ _ _ (T51.setTop (mkF m 190 #[.val (.int u0), .val (.int u1), .val (.int u2), .val (.int u3), .val (.int (2 : Int32)), .val (.int t0), .val (.int t1), .val (.int t2), .val (.ref b37), .val (.ref b38), .val (.ref r48), .val (.int (1 : Int32))] [(.int (1 : Int32))]))
          refine Goes.of (fun t k => XS.ifNo X51.here hx rfl (hb hby at_190) rfl ((if0 _ _).trans (feq (by decide : ¬ ((1 : Int32) = (0 : Int32)))).1) k) ?_
          show Goes _ _ _ _ _ _ _ (T51.setTop (mkF m 193 #[.val (.int u0), .val (.int u1), .val (.int u2), .val (.int u3), .val (.int (2 : Int32)), .val (.int t0), .val (.int t1), .val (.int t2), .val (.ref b37), .val (.ref b38), .val (.ref r48), .val (.int (1 : Int32))] []))
          refine Goes.of (fun t k => XS.aload X51.here hx rfl (hb hby at_193) rfl rfl k) ?_
          show Goes _ _ _ _ _ _ _ (T51.setTop (mkF m 195 #[.val (.int u0), .val (.int u1), .val (.int u2), .val (.int u3), .val (.int (2 : Int32)), .val (.int t0), .val (.int t1), .val (.int t2), .val (.ref b37), .val (.ref b38), .val (.ref r48), .val (.int (1 : Int32))] [(.ref r48)]))
          refine Goes.of (fun t k => XS.iconst X51.here hx rfl (hb hby at_195) k) ?_
          show Goes _ _ _ _ _ _ _ (T51.setTop (mkF m 196 #[.val (.int u0), .val (.int u1), .val (.int u2), .val (.int u3), .val (.int (2 : Int32)), .val (.int t0), .val (.int t1), .val (.int t2), .val (.ref b37), .val (.ref b38), .val (.ref r48), .val (.int (1 : Int32))] [(.int (1 : Int32)), (.ref r48)]))
          refine Goes.of (fun t k => ldZ X51 hx hZ e51 V48 (j := (1 : Int32)) (i := 1) (v := (own_re t1 u2)) (by decide) (by decide) (by decide) (by rw [hf_ff, hf_gg]; rfl) (g := (mkF m 196 #[.val (.int u0), .val (.int u1), .val (.int u2), .val (.int u3), .val (.int (2 : Int32)), .val (.int t0), .val (.int t1), .val (.int t2), .val (.ref b37), .val (.ref b38), .val (.ref r48), .val (.int (1 : Int32))] [(.int (1 : Int32)), (.ref r48)])) rfl rfl (hb hby at_196) t k) ?_
          show Goes _ _ _ _ _ _ _ (T51.setTop (mkF m 197 #[.val (.int u0), .val (.int u1), .val (.int u2), .val (.int u3), .val (.int (2 : Int32)), .val (.int t0), .val (.int t1), .val (.int t2), .val (.ref b37), .val (.ref b38), .val (.ref r48), .val (.int (1 : Int32))] [(.int (own_re t1 u2))]))
          refine Goes.of (fun t k => XS.iload X51.here hx rfl (hb hby at_197) rfl k) ?_
          show Goes _ _ _ _ _ _ _ (T51.setTop (mkF m 199 #[.val (.int u0), .val (.int u1), .val (.int u2), .val (.int u3), .val (.int (2 : Int32)), .val (.int t0), .val (.int t1), .val (.int t2), .val (.ref b37), .val (.ref b38), .val (.ref r48), .val (.int (1 : Int32))] [(.int t1), (.int (own_re t1 u2))]))
          refine Goes.of (fun t k => XS.iloadN X51.here hx rfl (hb hby at_199) rfl k) ?_
          show Goes _ _ _ _ _ _ _ (T51.setTop (mkF m 200 #[.val (.int u0), .val (.int u1), .val (.int u2), .val (.int u3), .val (.int (2 : Int32)), .val (.int t0), .val (.int t1), .val (.int t2), .val (.ref b37), .val (.ref b38), .val (.ref r48), .val (.int (1 : Int32))] [(.int u2), (.int t1), (.int (own_re t1 u2))]))
          obtain ⟨_, _, ⟨T52, L52, k52, n52⟩, -, X52, ⟨Lc52, hQ52, l52, y52, z52⟩, st52⟩ := Jvm.LawKit.callS X51 hx (y := (⟨"com/example/network_attack_odds/networkattackodds/engine/GoalGraphReachedPinLaw", "expected", "(ZI)Z"⟩ : MethodName)) hown (mvT hZ (hw _ (List.mem_of_getElem? (i := 6) rfl))) (mvT hZ (hw _ (List.mem_of_getElem? (i := 7) rfl))) (mvT hZ (hw _ (List.mem_of_getElem? (i := 8) rfl))) (mvT hZ (hw _ (List.mem_of_getElem? (i := 9) rfl))) (by decide) (backOf (W := 1) (rm2 l Z a0 hw [] t1 u2  T48.heap n0 ) hZ (hw _ (List.mem_of_getElem? (i := 9) rfl)) (hw _ (List.mem_of_getElem? (i := 8) rfl)) (by decide) (by decide)) (g := (mkF m 200 #[.val (.int u0), .val (.int u1), .val (.int u2), .val (.int u3), .val (.int (2 : Int32)), .val (.int t0), .val (.int t1), .val (.int t2), .val (.ref b37), .val (.ref b38), .val (.ref r48), .val (.int (1 : Int32))] [(.int u2), (.int t1), (.int (own_re t1 u2))])) rfl (by rw [hml]; rfl) (argsL := [(.int t1), (.int u2)]) (rest := [(.int (own_re t1 u2))]) (lenOf pd_1 rfl) rfl (by show 2 * 0 + _ ≤ _; exact Nat.le_of_eq rfl) (hb hby at_200) (fun _ _ => ⟨rfl, e51, (by decide : 3 + 0 ≤ _), (by decide : 7 + 0 ≤ _)⟩)
          dsimp only [Pt.U, Pt.locs, Pt.cells, Pt.slots] at X52 l52 y52 z52 st52 hQ52
          subst l52 y52 z52
          obtain ⟨rfl, N52q, e52⟩ := hQ52
          have N52 := Fr.app N51 N52q
          refine Goes.of st52 ?_
          show Goes _ _ _ _ _ _ _ (T52.setTop (mkF m 203 #[.val (.int u0), .val (.int u1), .val (.int u2), .val (.int u3), .val (.int (2 : Int32)), .val (.int t0), .val (.int t1), .val (.int t2), .val (.ref b37), .val (.ref b38), .val (.ref r48), .val (.int (1 : Int32))] [(.int (f2 t1 u2)), (.int (own_re t1 u2))]))
          refine Goes.of (fun t k => XS.icmpNo X52.here hx rfl (hb hby at_203) rfl (teq (own_req u2 hg18_t1_0)).2 k) ?_
          show Goes _ _ _ _ _ _ _ (T52.setTop (mkF m 206 #[.val (.int u0), .val (.int u1), .val (.int u2), .val (.int u3), .val (.int (2 : Int32)), .val (.int t0), .val (.int t1), .val (.int t2), .val (.ref b37), .val (.ref b38), .val (.ref r48), .val (.int (1 : Int32))] []))
          refine Goes.of (fun t k => XS.aload X52.here hx rfl (hb hby at_206) rfl rfl k) ?_
          show Goes _ _ _ _ _ _ _ (T52.setTop (mkF m 208 #[.val (.int u0), .val (.int u1), .val (.int u2), .val (.int u3), .val (.int (2 : Int32)), .val (.int t0), .val (.int t1), .val (.int t2), .val (.ref b37), .val (.ref b38), .val (.ref r48), .val (.int (1 : Int32))] [(.ref b37)]))
          refine Goes.of (fun t k => XS.iconst X52.here hx rfl (hb hby at_208) k) ?_
          show Goes _ _ _ _ _ _ _ (T52.setTop (mkF m 209 #[.val (.int u0), .val (.int u1), .val (.int u2), .val (.int u3), .val (.int (2 : Int32)), .val (.int t0), .val (.int t1), .val (.int t2), .val (.ref b37), .val (.ref b38), .val (.ref r48), .val (.int (1 : Int32))] [(.int (1 : Int32)), (.ref b37)]))
          refine Goes.of (fun t k => ldZ X52 hx hZ e52 F49 (j := (1 : Int32)) (i := 1) (v := t1) (by decide) (by decide) (by decide) (by rw [hf_ff]; exact own_t1 hg18_t1_0) (g := (mkF m 209 #[.val (.int u0), .val (.int u1), .val (.int u2), .val (.int u3), .val (.int (2 : Int32)), .val (.int t0), .val (.int t1), .val (.int t2), .val (.ref b37), .val (.ref b38), .val (.ref r48), .val (.int (1 : Int32))] [(.int (1 : Int32)), (.ref b37)])) rfl rfl (hb hby at_209) t k) ?_
          show Goes _ _ _ _ _ _ _ (T52.setTop (mkF m 210 #[.val (.int u0), .val (.int u1), .val (.int u2), .val (.int u3), .val (.int (2 : Int32)), .val (.int t0), .val (.int t1), .val (.int t2), .val (.ref b37), .val (.ref b38), .val (.ref r48), .val (.int (1 : Int32))] [(.int t1)]))
          refine Goes.of (fun t k => XS.iload X52.here hx rfl (hb hby at_210) rfl k) ?_
          show Goes _ _ _ _ _ _ _ (T52.setTop (mkF m 212 #[.val (.int u0), .val (.int u1), .val (.int u2), .val (.int u3), .val (.int (2 : Int32)), .val (.int t0), .val (.int t1), .val (.int t2), .val (.ref b37), .val (.ref b38), .val (.ref r48), .val (.int (1 : Int32))] [(.int t1), (.int t1)]))
          refine Goes.of (fun t k => XS.icmpNo X52.here hx rfl (hb hby at_212) rfl (teq (rfl : t1 = t1)).2 k) ?_
          show Goes _ _ _ _ _ _ _ (T52.setTop (mkF m 215 #[.val (.int u0), .val (.int u1), .val (.int u2), .val (.int u3), .val (.int (2 : Int32)), .val (.int t0), .val (.int t1), .val (.int t2), .val (.ref b37), .val (.ref b38), .val (.ref r48), .val (.int (1 : Int32))] []))
          refine Goes.of (fun t k => XS.aload X52.here hx rfl (hb hby at_215) rfl rfl k) ?_
          show Goes _ _ _ _ _ _ _ (T52.setTop (mkF m 217 #[.val (.int u0), .val (.int u1), .val (.int u2), .val (.int u3), .val (.int (2 : Int32)), .val (.int t0), .val (.int t1), .val (.int t2), .val (.ref b37), .val (.ref b38), .val (.ref r48), .val (.int (1 : Int32))] [(.ref b38)]))
          refine Goes.of (fun t k => XS.iconst X52.here hx rfl (hb hby at_217) k) ?_
          show Goes _ _ _ _ _ _ _ (T52.setTop (mkF m 218 #[.val (.int u0), .val (.int u1), .val (.int u2), .val (.int u3), .val (.int (2 : Int32)), .val (.int t0), .val (.int t1), .val (.int t2), .val (.ref b37), .val (.ref b38), .val (.ref r48), .val (.int (1 : Int32))] [(.int (1 : Int32)), (.ref b38)]))
          refine Goes.of (fun t k => ldI X52 hx hZ e52 F50 (j := (1 : Int32)) (i := 1) (v := u2) (by decide) (by decide) (by decide) (by rw [hf_gg]; rfl) (g := (mkF m 218 #[.val (.int u0), .val (.int u1), .val (.int u2), .val (.int u3), .val (.int (2 : Int32)), .val (.int t0), .val (.int t1), .val (.int t2), .val (.ref b37), .val (.ref b38), .val (.ref r48), .val (.int (1 : Int32))] [(.int (1 : Int32)), (.ref b38)])) rfl rfl (hb hby at_218) t k) ?_
          show Goes _ _ _ _ _ _ _ (T52.setTop (mkF m 219 #[.val (.int u0), .val (.int u1), .val (.int u2), .val (.int u3), .val (.int (2 : Int32)), .val (.int t0), .val (.int t1), .val (.int t2), .val (.ref b37), .val (.ref b38), .val (.ref r48), .val (.int (1 : Int32))] [(.int u2)]))
          refine Goes.of (fun t k => XS.iloadN X52.here hx rfl (hb hby at_219) rfl k) ?_
          show Goes _ _ _ _ _ _ _ (T52.setTop (mkF m 220 #[.val (.int u0), .val (.int u1), .val (.int u2), .val (.int u3), .val (.int (2 : Int32)), .val (.int t0), .val (.int t1), .val (.int t2), .val (.ref b37), .val (.ref b38), .val (.ref r48), .val (.int (1 : Int32))] [(.int u2), (.int u2)]))
          refine Goes.of (fun t k => XS.icmpNo X52.here hx rfl (hb hby at_220) rfl (teq (rfl : u2 = u2)).2 k) ?_
          show Goes _ _ _ _ _ _ _ (T52.setTop (mkF m 223 #[.val (.int u0), .val (.int u1), .val (.int u2), .val (.int u3), .val (.int (2 : Int32)), .val (.int t0), .val (.int t1), .val (.int t2), .val (.ref b37), .val (.ref b38), .val (.ref r48), .val (.int (1 : Int32))] []))
          refine Goes.of (fun t k => XS.iconst X52.here hx rfl (hb hby at_223) k) ?_
          show Goes _ _ _ _ _ _ _ (T52.setTop (mkF m 224 #[.val (.int u0), .val (.int u1), .val (.int u2), .val (.int u3), .val (.int (2 : Int32)), .val (.int t0), .val (.int t1), .val (.int t2), .val (.ref b37), .val (.ref b38), .val (.ref r48), .val (.int (1 : Int32))] [(.int (1 : Int32))]))
          refine Goes.of (fun t k => XS.goto X52.here hx rfl (pc0 := 224) (pc' := 228) rfl (hb hby at_224) (by decide) (by decide) k) ?_
          show Goes _ _ _ _ _ _ _ (T52.setTop (mkF m 228 #[.val (.int u0), .val (.int u1), .val (.int u2), .val (.int u3), .val (.int (2 : Int32)), .val (.int t0), .val (.int t1), .val (.int t2), .val (.ref b37), .val (.ref b38), .val (.ref r48), .val (.int (1 : Int32))] [(.int (1 : Int32))]))
          refine Goes.of (fun t k => XS.istore X52.here hx rfl (hb hby at_228) rfl (l' := #[.val (.int u0), .val (.int u1), .val (.int u2), .val (.int u3), .val (.int (2 : Int32)), .val (.int t0), .val (.int t1), .val (.int t2), .val (.ref b37), .val (.ref b38), .val (.ref r48), .val (.int (1 : Int32))]) rfl k) ?_
          show Goes _ _ _ _ _ _ _ (T52.setTop (mkF m 230 #[.val (.int u0), .val (.int u1), .val (.int u2), .val (.int u3), .val (.int (2 : Int32)), .val (.int t0), .val (.int t1), .val (.int t2), .val (.ref b37), .val (.ref b38), .val (.ref r48), .val (.int (1 : Int32))] []))
          refine Goes.of (fun t k => XS.iload X52.here hx rfl (hb hby at_230) rfl k) ?_
          show Goes _ _ _ _ _ _ _ (T52.setTop (mkF m 232 #[.val (.int u0), .val (.int u1), .val (.int u2), .val (.int u3), .val (.int (2 : Int32)), .val (.int t0), .val (.int t1), .val (.int t2), .val (.ref b37), .val (.ref b38), .val (.ref r48), .val (.int (1 : Int32))] [(.int (2 : Int32))]))
          refine Goes.of (fun t k => XS.iconst X52.here hx rfl (hb hby at_232) k) ?_
          show Goes _ _ _ _ _ _ _ (T52.setTop (mkF m 233 #[.val (.int u0), .val (.int u1), .val (.int u2), .val (.int u3), .val (.int (2 : Int32)), .val (.int t0), .val (.int t1), .val (.int t2), .val (.ref b37), .val (.ref b38), .val (.ref r48), .val (.int (1 : Int32))] [(.int (2 : Int32)), (.int (2 : Int32))]))
          refine Goes.of (fun t k => XS.icmpYes X52.here hx rfl (pc0 := 233) (pc' := 278) rfl (hb hby at_233) rfl (flt (by decide : ¬ ((2 : Int32) < (2 : Int32)))).2.2.2 (by decide) (by decide) k) ?_
          show Goes _ _ _ _ _ _ _ (T52.setTop (mkF m 278 #[.val (.int u0), .val (.int u1), .val (.int u2), .val (.int u3), .val (.int (2 : Int32)), .val (.int t0), .val (.int t1), .val (.int t2), .val (.ref b37), .val (.ref b38), .val (.ref r48), .val (.int (1 : Int32))] []))
          refine Goes.of (fun t k => XS.iload X52.here hx rfl (hb hby at_278) rfl k) ?_
          show Goes _ _ _ _ _ _ _ (T52.setTop (mkF m 280 #[.val (.int u0), .val (.int u1), .val (.int u2), .val (.int u3), .val (.int (2 : Int32)), .val (.int t0), .val (.int t1), .val (.int t2), .val (.ref b37), .val (.ref b38), .val (.ref r48), .val (.int (1 : Int32))] [(.int (1 : Int32))]))
          exact Goes.fin X52 hlk (v := some (.int (1 : Int32))) (fun h => by rw [Bd.returns] at h; cases h) (fun fs hr => retN X52 hx (t := .boolean) Bd.returns (by simp) (hb hby at_280) hr) ⟨rfl, N52⟩ (by decide) (by decide)
        · rw [h3]
          show Goes _ _ _ _ _ _ _ (T19.setTop (mkF m 46 #[.val (.int u0), .val (.int u1), .val (.int u2), .val (.int u3), .val (.int (3 : Int32)), .val (.int t0), .val (.int t1), .val (.int t2), .unset, .unset, .unset, .unset] []))
          refine Goes.of (fun t k => XS.iload X19.here hx rfl (hb hby at_46) rfl k) ?_
          show Goes _ _ _ _ _ _ _ (T19.setTop (mkF m 48 #[.val (.int u0), .val (.int u1), .val (.int u2), .val (.int u3), .val (.int (3 : Int32)), .val (.int t0), .val (.int t1), .val (.int t2), .unset, .unset, .unset, .unset] [(.int (3 : Int32))]))
          obtain ⟨T53, h53, k53, X53, e53, E53, A53, Ea53, st53⟩ := newPE X19 hx hZ (hw _ (List.mem_of_getElem? (i := 0) rfl)) e19 (g := (mkF m 48 #[.val (.int u0), .val (.int u1), .val (.int u2), .val (.int u3), .val (.int (3 : Int32)), .val (.int t0), .val (.int t1), .val (.int t2), .unset, .unset, .unset, .unset] [(.int (3 : Int32))])) rfl (hb hby at_48) rfl (by decide) (cap := 3) (by decide) (by decide) (by decide) (by decide) (ad := "[Z") (by decide)
          obtain ⟨b53, g53⟩ : ∃ z, z = h0.size := ⟨_, rfl⟩
          rw [← g53] at A53 Ea53 st53
          have V53 : AI Z h53 b53 .boolean 3 (fun _ => 0) := AI.new rfl rfl A53 (by decide) (by decide)
          have g_b53 : n0 ≤ b53 := Nat.le_trans Z0 (Nat.le_of_eq g53.symm)
          have Z53 : n0 ≤ h53.size := Nat.le_trans Z0 E53.1
          refine Goes.of st53 ?_
          show Goes _ _ _ _ _ _ _ (T53.setTop (mkF m 50 #[.val (.int u0), .val (.int u1), .val (.int u2), .val (.int u3), .val (.int (3 : Int32)), .val (.int t0), .val (.int t1), .val (.int t2), .unset, .unset, .unset, .unset] [(.ref b53)]))
          refine Goes.of (fun t k => XS.astore X53.here hx rfl (hb hby at_50) rfl rfl (l' := #[.val (.int u0), .val (.int u1), .val (.int u2), .val (.int u3), .val (.int (3 : Int32)), .val (.int t0), .val (.int t1), .val (.int t2), .val (.ref b53), .unset, .unset, .unset]) rfl k) ?_
          show Goes _ _ _ _ _ _ _ (T53.setTop (mkF m 52 #[.val (.int u0), .val (.int u1), .val (.int u2), .val (.int u3), .val (.int (3 : Int32)), .val (.int t0), .val (.int t1), .val (.int t2), .val (.ref b53), .unset, .unset, .unset] []))
          refine Goes.of (fun t k => XS.iload X53.here hx rfl (hb hby at_52) rfl k) ?_
          show Goes _ _ _ _ _ _ _ (T53.setTop (mkF m 54 #[.val (.int u0), .val (.int u1), .val (.int u2), .val (.int u3), .val (.int (3 : Int32)), .val (.int t0), .val (.int t1), .val (.int t2), .val (.ref b53), .unset, .unset, .unset] [(.int (3 : Int32))]))
          obtain ⟨T54, h54, k54, X54, e54, E54, A54, Ea54, st54⟩ := newPE X53 hx hZ (hw _ (List.mem_of_getElem? (i := 1) rfl)) e53 (g := (mkF m 54 #[.val (.int u0), .val (.int u1), .val (.int u2), .val (.int u3), .val (.int (3 : Int32)), .val (.int t0), .val (.int t1), .val (.int t2), .val (.ref b53), .unset, .unset, .unset] [(.int (3 : Int32))])) rfl (hb hby at_54) rfl (by decide) (cap := 3) (by decide) (by decide) (by decide) (by decide) (ad := "[I") (by decide)
          obtain ⟨b54, g54⟩ : ∃ z, z = h53.size := ⟨_, rfl⟩
          rw [← g54] at A54 Ea54 st54
          have V54 : AI Z h54 b54 .int 3 (fun _ => 0) := AI.new rfl rfl A54 (by decide) (by decide)
          have ne_b53_b54 : b53 ≠ b54 := Nat.ne_of_lt (Nat.lt_of_lt_of_le V53.lt (Nat.le_of_eq g54.symm))
          have g_b54 : n0 ≤ b54 := Nat.le_trans Z53 (Nat.le_of_eq g54.symm)
          have F55 := V53.ext E54
          have Z54 : n0 ≤ h54.size := Nat.le_trans Z53 E54.1
          refine Goes.of st54 ?_
          show Goes _ _ _ _ _ _ _ (T54.setTop (mkF m 56 #[.val (.int u0), .val (.int u1), .val (.int u2), .val (.int u3), .val (.int (3 : Int32)), .val (.int t0), .val (.int t1), .val (.int t2), .val (.ref b53), .unset, .unset, .unset] [(.ref b54)]))
          refine Goes.of (fun t k => XS.astore X54.here hx rfl (hb hby at_56) rfl rfl (l' := #[.val (.int u0), .val (.int u1), .val (.int u2), .val (.int u3), .val (.int (3 : Int32)), .val (.int t0), .val (.int t1), .val (.int t2), .val (.ref b53), .val (.ref b54), .unset, .unset]) rfl k) ?_
          show Goes _ _ _ _ _ _ _ (T54.setTop (mkF m 58 #[.val (.int u0), .val (.int u1), .val (.int u2), .val (.int u3), .val (.int (3 : Int32)), .val (.int t0), .val (.int t1), .val (.int t2), .val (.ref b53), .val (.ref b54), .unset, .unset] []))
          refine Goes.of (fun t k => XS.iload X54.here hx rfl (hb hby at_58) rfl k) ?_
          show Goes _ _ _ _ _ _ _ (T54.setTop (mkF m 60 #[.val (.int u0), .val (.int u1), .val (.int u2), .val (.int u3), .val (.int (3 : Int32)), .val (.int t0), .val (.int t1), .val (.int t2), .val (.ref b53), .val (.ref b54), .unset, .unset] [(.int (3 : Int32))]))
          refine Goes.of (fun t k => XS.ifNo X54.here hx rfl (hb hby at_60) rfl ((if0 _ _).trans (tlt (by decide : (0 : Int32) < (3 : Int32))).2.2.2) k) ?_
          show Goes _ _ _ _ _ _ _ (T54.setTop (mkF m 63 #[.val (.int u0), .val (.int u1), .val (.int u2), .val (.int u3), .val (.int (3 : Int32)), .val (.int t0), .val (.int t1), .val (.int t2), .val (.ref b53), .val (.ref b54), .unset, .unset] []))
          refine Goes.of (fun t k => XS.aload X54.here hx rfl (hb hby at_63) rfl rfl k) ?_
          show Goes _ _ _ _ _ _ _ (T54.setTop (mkF m 65 #[.val (.int u0), .val (.int u1), .val (.int u2), .val (.int u3), .val (.int (3 : Int32)), .val (.int t0), .val (.int t1), .val (.int t2), .val (.ref b53), .val (.ref b54), .unset, .unset] [(.ref b53)]))
          refine Goes.of (fun t k => XS.iconst X54.here hx rfl (hb hby at_65) k) ?_
          show Goes _ _ _ _ _ _ _ (T54.setTop (mkF m 66 #[.val (.int u0), .val (.int u1), .val (.int u2), .val (.int u3), .val (.int (3 : Int32)), .val (.int t0), .val (.int t1), .val (.int t2), .val (.ref b53), .val (.ref b54), .unset, .unset] [(.int (0 : Int32)), (.ref b53)]))
          refine Goes.of (fun t k => XS.iload X54.here hx rfl (hb hby at_66) rfl k) ?_
          show Goes _ _ _ _ _ _ _ (T54.setTop (mkF m 68 #[.val (.int u0), .val (.int u1), .val (.int u2), .val (.int u3), .val (.int (3 : Int32)), .val (.int t0), .val (.int t1), .val (.int t2), .val (.ref b53), .val (.ref b54), .unset, .unset] [(.int t0), (.int (0 : Int32)), (.ref b53)]))
          obtain ⟨T56, h56, X56, e56, W56, V56, st56⟩ := putZ X54 hx hZ e54 F55 (j := (0 : Int32)) (x := t0) (i := 0) (by decide) (by decide) (by decide) (g := (mkF m 68 #[.val (.int u0), .val (.int u1), .val (.int u2), .val (.int u3), .val (.int (3 : Int32)), .val (.int t0), .val (.int t1), .val (.int t2), .val (.ref b53), .val (.ref b54), .unset, .unset] [(.int t0), (.int (0 : Int32)), (.ref b53)])) rfl rfl (hb hby at_68)
          have F57 := V54.other W56 (Ne.symm ne_b53_b54)
          have Z56 : n0 ≤ h56.size := Nat.le_trans Z54 (Keep.of_wr W56).1
          have N56 := Fr.snoc X56 N19 g_b53
          refine Goes.of st56 ?_
          show Goes _ _ _ _ _ _ _ (T56.setTop (mkF m 69 #[.val (.int u0), .val (.int u1), .val (.int u2), .val (.int u3), .val (.int (3 : Int32)), .val (.int t0), .val (.int t1), .val (.int t2), .val (.ref b53), .val (.ref b54), .unset, .unset] []))
          refine Goes.of (fun t k => XS.aload X56.here hx rfl (hb hby at_69) rfl rfl k) ?_
          show Goes _ _ _ _ _ _ _ (T56.setTop (mkF m 71 #[.val (.int u0), .val (.int u1), .val (.int u2), .val (.int u3), .val (.int (3 : Int32)), .val (.int t0), .val (.int t1), .val (.int t2), .val (.ref b53), .val (.ref b54), .unset, .unset] [(.ref b54)]))
          refine Goes.of (fun t k => XS.iconst X56.here hx rfl (hb hby at_71) k) ?_
          show Goes _ _ _ _ _ _ _ (T56.setTop (mkF m 72 #[.val (.int u0), .val (.int u1), .val (.int u2), .val (.int u3), .val (.int (3 : Int32)), .val (.int t0), .val (.int t1), .val (.int t2), .val (.ref b53), .val (.ref b54), .unset, .unset] [(.int (0 : Int32)), (.ref b54)]))
          refine Goes.of (fun t k => XS.iloadN X56.here hx rfl (hb hby at_72) rfl k) ?_
          show Goes _ _ _ _ _ _ _ (T56.setTop (mkF m 73 #[.val (.int u0), .val (.int u1), .val (.int u2), .val (.int u3), .val (.int (3 : Int32)), .val (.int t0), .val (.int t1), .val (.int t2), .val (.ref b53), .val (.ref b54), .unset, .unset] [(.int u1), (.int (0 : Int32)), (.ref b54)]))
          obtain ⟨T58, h58, X58, e58, W58, V58, st58⟩ := putI X56 hx hZ e56 F57 (j := (0 : Int32)) (x := u1) (i := 0) (by decide) (by decide) (by decide) (g := (mkF m 73 #[.val (.int u0), .val (.int u1), .val (.int u2), .val (.int u3), .val (.int (3 : Int32)), .val (.int t0), .val (.int t1), .val (.int t2), .val (.ref b53), .val (.ref b54), .unset, .unset] [(.int u1), (.int (0 : Int32)), (.ref b54)])) rfl rfl (hb hby at_73)
          have F59 := V56.other W58 ne_b53_b54
          have Z58 : n0 ≤ h58.size := Nat.le_trans Z56 (Keep.of_wr W58).1
          have N58 := Fr.snoc X58 N56 g_b54
          refine Goes.of st58 ?_
          show Goes _ _ _ _ _ _ _ (T58.setTop (mkF m 74 #[.val (.int u0), .val (.int u1), .val (.int u2), .val (.int u3), .val (.int (3 : Int32)), .val (.int t0), .val (.int t1), .val (.int t2), .val (.ref b53), .val (.ref b54), .unset, .unset] []))
          refine Goes.of (fun t k => XS.iload X58.here hx rfl (hb hby at_74) rfl k) ?_
          show Goes _ _ _ _ _ _ _ (T58.setTop (mkF m 76 #[.val (.int u0), .val (.int u1), .val (.int u2), .val (.int u3), .val (.int (3 : Int32)), .val (.int t0), .val (.int t1), .val (.int t2), .val (.ref b53), .val (.ref b54), .unset, .unset] [(.int (3 : Int32))]))
          refine Goes.of (fun t k => XS.iconst X58.here hx rfl (hb hby at_76) k) ?_
          show Goes _ _ _ _ _ _ _ (T58.setTop (mkF m 77 #[.val (.int u0), .val (.int u1), .val (.int u2), .val (.int u3), .val (.int (3 : Int32)), .val (.int t0), .val (.int t1), .val (.int t2), .val (.ref b53), .val (.ref b54), .unset, .unset] [(.int (1 : Int32)), (.int (3 : Int32))]))
          refine Goes.of (fun t k => XS.icmpNo X58.here hx rfl (hb hby at_77) rfl (tlt (by decide : (1 : Int32) < (3 : Int32))).2.2.2 k) ?_
          show Goes _ _ _ _ _ _ _ (T58.setTop (mkF m 80 #[.val (.int u0), .val (.int u1), .val (.int u2), .val (.int u3), .val (.int (3 : Int32)), .val (.int t0), .val (.int t1), .val (.int t2), .val (.ref b53), .val (.ref b54), .unset, .unset] []))
          refine Goes.of (fun t k => XS.aload X58.here hx rfl (hb hby at_80) rfl rfl k) ?_
          show Goes _ _ _ _ _ _ _ (T58.setTop (mkF m 82 #[.val (.int u0), .val (.int u1), .val (.int u2), .val (.int u3), .val (.int (3 : Int32)), .val (.int t0), .val (.int t1), .val (.int t2), .val (.ref b53), .val (.ref b54), .unset, .unset] [(.ref b53)]))
          refine Goes.of (fun t k => XS.iconst X58.here hx rfl (hb hby at_82) k) ?_
          show Goes _ _ _ _ _ _ _ (T58.setTop (mkF m 83 #[.val (.int u0), .val (.int u1), .val (.int u2), .val (.int u3), .val (.int (3 : Int32)), .val (.int t0), .val (.int t1), .val (.int t2), .val (.ref b53), .val (.ref b54), .unset, .unset] [(.int (1 : Int32)), (.ref b53)]))
          refine Goes.of (fun t k => XS.iload X58.here hx rfl (hb hby at_83) rfl k) ?_
          show Goes _ _ _ _ _ _ _ (T58.setTop (mkF m 85 #[.val (.int u0), .val (.int u1), .val (.int u2), .val (.int u3), .val (.int (3 : Int32)), .val (.int t0), .val (.int t1), .val (.int t2), .val (.ref b53), .val (.ref b54), .unset, .unset] [(.int t1), (.int (1 : Int32)), (.ref b53)]))
          obtain ⟨T60, h60, X60, e60, W60, V60, st60⟩ := putZ X58 hx hZ e58 F59 (j := (1 : Int32)) (x := t1) (i := 1) (by decide) (by decide) (by decide) (g := (mkF m 85 #[.val (.int u0), .val (.int u1), .val (.int u2), .val (.int u3), .val (.int (3 : Int32)), .val (.int t0), .val (.int t1), .val (.int t2), .val (.ref b53), .val (.ref b54), .unset, .unset] [(.int t1), (.int (1 : Int32)), (.ref b53)])) rfl rfl (hb hby at_85)
          have F61 := V58.other W60 (Ne.symm ne_b53_b54)
          have Z60 : n0 ≤ h60.size := Nat.le_trans Z58 (Keep.of_wr W60).1
          have N60 := Fr.snoc X60 N58 g_b53
          refine Goes.of st60 ?_
          show Goes _ _ _ _ _ _ _ (T60.setTop (mkF m 86 #[.val (.int u0), .val (.int u1), .val (.int u2), .val (.int u3), .val (.int (3 : Int32)), .val (.int t0), .val (.int t1), .val (.int t2), .val (.ref b53), .val (.ref b54), .unset, .unset] []))
          refine Goes.of (fun t k => XS.aload X60.here hx rfl (hb hby at_86) rfl rfl k) ?_
          show Goes _ _ _ _ _ _ _ (T60.setTop (mkF m 88 #[.val (.int u0), .val (.int u1), .val (.int u2), .val (.int u3), .val (.int (3 : Int32)), .val (.int t0), .val (.int t1), .val (.int t2), .val (.ref b53), .val (.ref b54), .unset, .unset] [(.ref b54)]))
          refine Goes.of (fun t k => XS.iconst X60.here hx rfl (hb hby at_88) k) ?_
          show Goes _ _ _ _ _ _ _ (T60.setTop (mkF m 89 #[.val (.int u0), .val (.int u1), .val (.int u2), .val (.int u3), .val (.int (3 : Int32)), .val (.int t0), .val (.int t1), .val (.int t2), .val (.ref b53), .val (.ref b54), .unset, .unset] [(.int (1 : Int32)), (.ref b54)]))
          refine Goes.of (fun t k => XS.iloadN X60.here hx rfl (hb hby at_89) rfl k) ?_
          show Goes _ _ _ _ _ _ _ (T60.setTop (mkF m 90 #[.val (.int u0), .val (.int u1), .val (.int u2), .val (.int u3), .val (.int (3 : Int32)), .val (.int t0), .val (.int t1), .val (.int t2), .val (.ref b53), .val (.ref b54), .unset, .unset] [(.int u2), (.int (1 : Int32)), (.ref b54)]))
          obtain ⟨T62, h62, X62, e62, W62, V62, st62⟩ := putI X60 hx hZ e60 F61 (j := (1 : Int32)) (x := u2) (i := 1) (by decide) (by decide) (by decide) (g := (mkF m 90 #[.val (.int u0), .val (.int u1), .val (.int u2), .val (.int u3), .val (.int (3 : Int32)), .val (.int t0), .val (.int t1), .val (.int t2), .val (.ref b53), .val (.ref b54), .unset, .unset] [(.int u2), (.int (1 : Int32)), (.ref b54)])) rfl rfl (hb hby at_90)
          have F63 := V60.other W62 ne_b53_b54
          have Z62 : n0 ≤ h62.size := Nat.le_trans Z60 (Keep.of_wr W62).1
          have N62 := Fr.snoc X62 N60 g_b54
          refine Goes.of st62 ?_
          show Goes _ _ _ _ _ _ _ (T62.setTop (mkF m 91 #[.val (.int u0), .val (.int u1), .val (.int u2), .val (.int u3), .val (.int (3 : Int32)), .val (.int t0), .val (.int t1), .val (.int t2), .val (.ref b53), .val (.ref b54), .unset, .unset] []))
          refine Goes.of (fun t k => XS.iload X62.here hx rfl (hb hby at_91) rfl k) ?_
          show Goes _ _ _ _ _ _ _ (T62.setTop (mkF m 93 #[.val (.int u0), .val (.int u1), .val (.int u2), .val (.int u3), .val (.int (3 : Int32)), .val (.int t0), .val (.int t1), .val (.int t2), .val (.ref b53), .val (.ref b54), .unset, .unset] [(.int (3 : Int32))]))
          refine Goes.of (fun t k => XS.iconst X62.here hx rfl (hb hby at_93) k) ?_
          show Goes _ _ _ _ _ _ _ (T62.setTop (mkF m 94 #[.val (.int u0), .val (.int u1), .val (.int u2), .val (.int u3), .val (.int (3 : Int32)), .val (.int t0), .val (.int t1), .val (.int t2), .val (.ref b53), .val (.ref b54), .unset, .unset] [(.int (2 : Int32)), (.int (3 : Int32))]))
          refine Goes.of (fun t k => XS.icmpNo X62.here hx rfl (hb hby at_94) rfl (tlt (by decide : (2 : Int32) < (3 : Int32))).2.2.2 k) ?_
          show Goes _ _ _ _ _ _ _ (T62.setTop (mkF m 97 #[.val (.int u0), .val (.int u1), .val (.int u2), .val (.int u3), .val (.int (3 : Int32)), .val (.int t0), .val (.int t1), .val (.int t2), .val (.ref b53), .val (.ref b54), .unset, .unset] []))
          refine Goes.of (fun t k => XS.aload X62.here hx rfl (hb hby at_97) rfl rfl k) ?_
          show Goes _ _ _ _ _ _ _ (T62.setTop (mkF m 99 #[.val (.int u0), .val (.int u1), .val (.int u2), .val (.int u3), .val (.int (3 : Int32)), .val (.int t0), .val (.int t1), .val (.int t2), .val (.ref b53), .val (.ref b54), .unset, .unset] [(.ref b53)]))
          refine Goes.of (fun t k => XS.iconst X62.here hx rfl (hb hby at_99) k) ?_
          show Goes _ _ _ _ _ _ _ (T62.setTop (mkF m 100 #[.val (.int u0), .val (.int u1), .val (.int u2), .val (.int u3), .val (.int (3 : Int32)), .val (.int t0), .val (.int t1), .val (.int t2), .val (.ref b53), .val (.ref b54), .unset, .unset] [(.int (2 : Int32)), (.ref b53)]))
          refine Goes.of (fun t k => XS.iload X62.here hx rfl (hb hby at_100) rfl k) ?_
          show Goes _ _ _ _ _ _ _ (T62.setTop (mkF m 102 #[.val (.int u0), .val (.int u1), .val (.int u2), .val (.int u3), .val (.int (3 : Int32)), .val (.int t0), .val (.int t1), .val (.int t2), .val (.ref b53), .val (.ref b54), .unset, .unset] [(.int t2), (.int (2 : Int32)), (.ref b53)]))
          obtain ⟨T64, h64, X64, e64, W64, V64, st64⟩ := putZ X62 hx hZ e62 F63 (j := (2 : Int32)) (x := t2) (i := 2) (by decide) (by decide) (by decide) (g := (mkF m 102 #[.val (.int u0), .val (.int u1), .val (.int u2), .val (.int u3), .val (.int (3 : Int32)), .val (.int t0), .val (.int t1), .val (.int t2), .val (.ref b53), .val (.ref b54), .unset, .unset] [(.int t2), (.int (2 : Int32)), (.ref b53)])) rfl rfl (hb hby at_102)
          have F65 := V62.other W64 (Ne.symm ne_b53_b54)
          have Z64 : n0 ≤ h64.size := Nat.le_trans Z62 (Keep.of_wr W64).1
          have N64 := Fr.snoc X64 N62 g_b53
          refine Goes.of st64 ?_
          show Goes _ _ _ _ _ _ _ (T64.setTop (mkF m 103 #[.val (.int u0), .val (.int u1), .val (.int u2), .val (.int u3), .val (.int (3 : Int32)), .val (.int t0), .val (.int t1), .val (.int t2), .val (.ref b53), .val (.ref b54), .unset, .unset] []))
          refine Goes.of (fun t k => XS.aload X64.here hx rfl (hb hby at_103) rfl rfl k) ?_
          show Goes _ _ _ _ _ _ _ (T64.setTop (mkF m 105 #[.val (.int u0), .val (.int u1), .val (.int u2), .val (.int u3), .val (.int (3 : Int32)), .val (.int t0), .val (.int t1), .val (.int t2), .val (.ref b53), .val (.ref b54), .unset, .unset] [(.ref b54)]))
          refine Goes.of (fun t k => XS.iconst X64.here hx rfl (hb hby at_105) k) ?_
          show Goes _ _ _ _ _ _ _ (T64.setTop (mkF m 106 #[.val (.int u0), .val (.int u1), .val (.int u2), .val (.int u3), .val (.int (3 : Int32)), .val (.int t0), .val (.int t1), .val (.int t2), .val (.ref b53), .val (.ref b54), .unset, .unset] [(.int (2 : Int32)), (.ref b54)]))
          refine Goes.of (fun t k => XS.iloadN X64.here hx rfl (hb hby at_106) rfl k) ?_
          show Goes _ _ _ _ _ _ _ (T64.setTop (mkF m 107 #[.val (.int u0), .val (.int u1), .val (.int u2), .val (.int u3), .val (.int (3 : Int32)), .val (.int t0), .val (.int t1), .val (.int t2), .val (.ref b53), .val (.ref b54), .unset, .unset] [(.int u3), (.int (2 : Int32)), (.ref b54)]))
          obtain ⟨T66, h66, X66, e66, W66, V66, st66⟩ := putI X64 hx hZ e64 F65 (j := (2 : Int32)) (x := u3) (i := 2) (by decide) (by decide) (by decide) (g := (mkF m 107 #[.val (.int u0), .val (.int u1), .val (.int u2), .val (.int u3), .val (.int (3 : Int32)), .val (.int t0), .val (.int t1), .val (.int t2), .val (.ref b53), .val (.ref b54), .unset, .unset] [(.int u3), (.int (2 : Int32)), (.ref b54)])) rfl rfl (hb hby at_107)
          have F67 := V64.other W66 ne_b53_b54
          have Z66 : n0 ≤ h66.size := Nat.le_trans Z64 (Keep.of_wr W66).1
          have N66 := Fr.snoc X66 N64 g_b54
          refine Goes.of st66 ?_
          show Goes _ _ _ _ _ _ _ (T66.setTop (mkF m 108 #[.val (.int u0), .val (.int u1), .val (.int u2), .val (.int u3), .val (.int (3 : Int32)), .val (.int t0), .val (.int t1), .val (.int t2), .val (.ref b53), .val (.ref b54), .unset, .unset] []))
          refine Goes.of (fun t k => XS.aload X66.here hx rfl (hb hby at_108) rfl rfl k) ?_
          show Goes _ _ _ _ _ _ _ (T66.setTop (mkF m 110 #[.val (.int u0), .val (.int u1), .val (.int u2), .val (.int u3), .val (.int (3 : Int32)), .val (.int t0), .val (.int t1), .val (.int t2), .val (.ref b53), .val (.ref b54), .unset, .unset] [(.ref b53)]))
          refine Goes.of (fun t k => XS.aload X66.here hx rfl (hb hby at_110) rfl rfl k) ?_
          show Goes _ _ _ _ _ _ _ (T66.setTop (mkF m 112 #[.val (.int u0), .val (.int u1), .val (.int u2), .val (.int u3), .val (.int (3 : Int32)), .val (.int t0), .val (.int t1), .val (.int t2), .val (.ref b53), .val (.ref b54), .unset, .unset] [(.ref b54), (.ref b53)]))
          obtain ⟨ff, hf_ff⟩ : ∃ f : Nat → Int32, f = (upd (upd (upd (fun _ => 0) 0 (t0 &&& 1)) 1 (t1 &&& 1)) 2 (t2 &&& 1)) := ⟨_, rfl⟩
          rw [← hf_ff] at F67
          obtain ⟨gg, hf_gg⟩ : ∃ f : Nat → Int32, f = (upd (upd (upd (fun _ => 0) 0 u1) 1 u2) 2 u3) := ⟨_, rfl⟩
          rw [← hf_gg] at V66
          obtain ⟨_, _, ⟨T68, L68, k68, n68⟩, -, X68, ⟨Lc68, hQ68, l68, y68, z68⟩, st68⟩ := Jvm.LawKit.callS X66 hx (y := (⟨"com/example/network_attack_odds/networkattackodds/engine/GoalGraph", "reached", "([Z[I)[Z"⟩ : MethodName)) hown (mvT hZ (hw _ (List.mem_of_getElem? (i := 2) rfl))) (mvT hZ (hw _ (List.mem_of_getElem? (i := 3) rfl))) (mvT hZ (hw _ (List.mem_of_getElem? (i := 4) rfl))) (mvT hZ (hw _ (List.mem_of_getElem? (i := 5) rfl))) (by decide) (backOf (W := 0) (rm1 l Z a0 hw [] b53 b54 3 (3 : Int32) ff gg h66 n0 Z66 F67 V66 (by decide) (by decide)) hZ (hw _ (List.mem_of_getElem? (i := 5) rfl)) (hw _ (List.mem_of_getElem? (i := 4) rfl)) (by decide) (by decide)) (g := (mkF m 112 #[.val (.int u0), .val (.int u1), .val (.int u2), .val (.int u3), .val (.int (3 : Int32)), .val (.int t0), .val (.int t1), .val (.int t2), .val (.ref b53), .val (.ref b54), .unset, .unset] [(.ref b54), (.ref b53)])) rfl (by rw [hml]; rfl) (argsL := [(.ref b53), (.ref b54)]) (rest := []) (lenOf pd_0 rfl) rfl (by show 2 * 0 + _ ≤ _; exact Nat.le_of_eq rfl) (hb hby at_112) (fun _ _ => ⟨rfl, e66, (by decide : 2 + 1 ≤ _), (by decide : 6 + 3 ≤ _)⟩)
          dsimp only [Pt.U, Pt.locs, Pt.cells, Pt.slots] at X68 l68 y68 z68 st68 hQ68
          subst l68 y68 z68
          obtain ⟨r68, rfl, N68q, K68, sz68, V68⟩ := hQ68
          have ne_b53_r68 : b53 ≠ r68 := Nat.ne_of_lt (Nat.lt_of_lt_of_le F67.lt sz68)
          have ne_b54_r68 : b54 ≠ r68 := Nat.ne_of_lt (Nat.lt_of_lt_of_le V66.lt sz68)
          have F69 := F67.keep K68 nin0
          have F70 := V66.keep K68 nin0
          have g_r68 : n0 ≤ r68 := Nat.le_trans Z66 sz68
          have Z68 : n0 ≤ T68.heap.size := Nat.le_trans Z66 K68.1
          have N68 := Fr.app N66 N68q
          refine Goes.of st68 ?_
          show Goes _ _ _ _ _ _ _ (T68.setTop (mkF m 115 #[.val (.int u0), .val (.int u1), .val (.int u2), .val (.int u3), .val (.int (3 : Int32)), .val (.int t0), .val (.int t1), .val (.int t2), .val (.ref b53), .val (.ref b54), .unset, .unset] [(.ref r68)]))
          refine Goes.of (fun t k => XS.astore X68.here hx rfl (hb hby at_115) rfl rfl (l' := #[.val (.int u0), .val (.int u1), .val (.int u2), .val (.int u3), .val (.int (3 : Int32)), .val (.int t0), .val (.int t1), .val (.int t2), .val (.ref b53), .val (.ref b54), .val (.ref r68), .unset]) rfl k) ?_
          show Goes _ _ _ _ _ _ _ (T68.setTop (mkF m 117 #[.val (.int u0), .val (.int u1), .val (.int u2), .val (.int u3), .val (.int (3 : Int32)), .val (.int t0), .val (.int t1), .val (.int t2), .val (.ref b53), .val (.ref b54), .val (.ref r68), .unset] []))
          refine Goes.of (fun t k => XS.aload X68.here hx rfl (hb hby at_117) rfl rfl k) ?_
          show Goes _ _ _ _ _ _ _ (T68.setTop (mkF m 119 #[.val (.int u0), .val (.int u1), .val (.int u2), .val (.int u3), .val (.int (3 : Int32)), .val (.int t0), .val (.int t1), .val (.int t2), .val (.ref b53), .val (.ref b54), .val (.ref r68), .unset] [(.ref r68)]))
          refine Goes.of (fun t k => XS.ifnullNo X68.here hx rfl (hb hby at_119) rfl k) ?_
          show Goes _ _ _ _ _ _ _ (T68.setTop (mkF m 122 #[.val (.int u0), .val (.int u1), .val (.int u2), .val (.int u3), .val (.int (3 : Int32)), .val (.int t0), .val (.int t1), .val (.int t2), .val (.ref b53), .val (.ref b54), .val (.ref r68), .unset] []))
          refine Goes.of (fun t k => XS.aload X68.here hx rfl (hb hby at_122) rfl rfl k) ?_
          show Goes _ _ _ _ _ _ _ (T68.setTop (mkF m 124 #[.val (.int u0), .val (.int u1), .val (.int u2), .val (.int u3), .val (.int (3 : Int32)), .val (.int t0), .val (.int t1), .val (.int t2), .val (.ref b53), .val (.ref b54), .val (.ref r68), .unset] [(.ref r68)]))
          refine Goes.of (fun t k => lenA X68 hx hZ rfl V68 (z := (3 : Int32)) (by decide) (g := (mkF m 124 #[.val (.int u0), .val (.int u1), .val (.int u2), .val (.int u3), .val (.int (3 : Int32)), .val (.int t0), .val (.int t1), .val (.int t2), .val (.ref b53), .val (.ref b54), .val (.ref r68), .unset] [(.ref r68)])) rfl rfl (hb hby at_124) t k) ?_
          show Goes _ _ _ _ _ _ _ (T68.setTop (mkF m 125 #[.val (.int u0), .val (.int u1), .val (.int u2), .val (.int u3), .val (.int (3 : Int32)), .val (.int t0), .val (.int t1), .val (.int t2), .val (.ref b53), .val (.ref b54), .val (.ref r68), .unset] [(.int (3 : Int32))]))
          refine Goes.of (fun t k => XS.iload X68.here hx rfl (hb hby at_125) rfl k) ?_
          show Goes _ _ _ _ _ _ _ (T68.setTop (mkF m 127 #[.val (.int u0), .val (.int u1), .val (.int u2), .val (.int u3), .val (.int (3 : Int32)), .val (.int t0), .val (.int t1), .val (.int t2), .val (.ref b53), .val (.ref b54), .val (.ref r68), .unset] [(.int (3 : Int32)), (.int (3 : Int32))]))
          refine Goes.of (fun t k => XS.icmpYes X68.here hx rfl (pc0 := 127) (pc' := 132) rfl (hb hby at_127) rfl (teq (rfl : (3 : Int32) = (3 : Int32))).1 (by decide) (by decide) k) ?_
          show Goes _ _ _ _ _ _ _ (T68.setTop (mkF m 132 #[.val (.int u0), .val (.int u1), .val (.int u2), .val (.int u3), .val (.int (3 : Int32)), .val (.int t0), .val (.int t1), .val (.int t2), .val (.ref b53), .val (.ref b54), .val (.ref r68), .unset] []))
          refine Goes.of (fun t k => XS.iconst X68.here hx rfl (hb hby at_132) k) ?_
          show Goes _ _ _ _ _ _ _ (T68.setTop (mkF m 133 #[.val (.int u0), .val (.int u1), .val (.int u2), .val (.int u3), .val (.int (3 : Int32)), .val (.int t0), .val (.int t1), .val (.int t2), .val (.ref b53), .val (.ref b54), .val (.ref r68), .unset] [(.int (1 : Int32))]))
          refine Goes.of (fun t k => XS.istore X68.here hx rfl (hb hby at_133) rfl (l' := #[.val (.int u0), .val (.int u1), .val (.int u2), .val (.int u3), .val (.int (3 : Int32)), .val (.int t0), .val (.int t1), .val (.int t2), .val (.ref b53), .val (.ref b54), .val (.ref r68), .val (.int (1 : Int32))]) rfl k) ?_
          show Goes _ _ _ _ _ _ _ (T68.setTop (mkF m 135 #[.val (.int u0), .val (.int u1), .val (.int u2), .val (.int u3), .val (.int (3 : Int32)), .val (.int t0), .val (.int t1), .val (.int t2), .val (.ref b53), .val (.ref b54), .val (.ref r68), .val (.int (1 : Int32))] []))
          refine Goes.of (fun t k => XS.iload X68.here hx rfl (hb hby at_135) rfl k) ?_
          show Goes _ _ _ _ _ _ _ (T68.setTop (mkF m 137 #[.val (.int u0), .val (.int u1), .val (.int u2), .val (.int u3), .val (.int (3 : Int32)), .val (.int t0), .val (.int t1), .val (.int t2), .val (.ref b53), .val (.ref b54), .val (.ref r68), .val (.int (1 : Int32))] [(.int (3 : Int32))]))
          refine Goes.of (fun t k => XS.ifNo X68.here hx rfl (hb hby at_137) rfl ((if0 _ _).trans (tlt (by decide : (0 : Int32) < (3 : Int32))).2.2.2) k) ?_
          show Goes _ _ _ _ _ _ _ (T68.setTop (mkF m 140 #[.val (.int u0), .val (.int u1), .val (.int u2), .val (.int u3), .val (.int (3 : Int32)), .val (.int t0), .val (.int t1), .val (.int t2), .val (.ref b53), .val (.ref b54), .val (.ref r68), .val (.int (1 : Int32))] []))
          refine Goes.of (fun t k => XS.iload X68.here hx rfl (hb hby at_140) rfl k) ?_
          show Goes _ _ _ _ _ _ _ (T68.setTop (mkF m 142 #[.val (.int u0), .val (.int u1), .val (.int u2), .val (.int u3), .val (.int (3 : Int32)), .val (.int t0), .val (.int t1), .val (.int t2), .val (.ref b53), .val (.ref b54), .val (.ref r68), .val (.int (1 : Int32))] [(.int (1 : Int32))]))
          refine Goes.of (fun t k => XS.ifNo X68.here hx rfl (hb hby at_142) rfl ((if0 _ _).trans (feq (by decide : ¬ ((1 : Int32) = (0 : Int32)))).1) k) ?_
          show Goes _ _ _ _ _ _ _ (T68.setTop (mkF m 145 #[.val (.int u0), .val (.int u1), .val (.int u2), .val (.int u3), .val (.int (3 : Int32)), .val (.int t0), .val (.int t1), .val (.int t2), .val (.ref b53), .val (.ref b54), .val (.ref r68), .val (.int (1 : Int32))] []))
          refine Goes.of (fun t k => XS.aload X68.here hx rfl (hb hby at_145) rfl rfl k) ?_
          show Goes _ _ _ _ _ _ _ (T68.setTop (mkF m 147 #[.val (.int u0), .val (.int u1), .val (.int u2), .val (.int u3), .val (.int (3 : Int32)), .val (.int t0), .val (.int t1), .val (.int t2), .val (.ref b53), .val (.ref b54), .val (.ref r68), .val (.int (1 : Int32))] [(.ref r68)]))
          refine Goes.of (fun t k => XS.iconst X68.here hx rfl (hb hby at_147) k) ?_
          show Goes _ _ _ _ _ _ _ (T68.setTop (mkF m 148 #[.val (.int u0), .val (.int u1), .val (.int u2), .val (.int u3), .val (.int (3 : Int32)), .val (.int t0), .val (.int t1), .val (.int t2), .val (.ref b53), .val (.ref b54), .val (.ref r68), .val (.int (1 : Int32))] [(.int (0 : Int32)), (.ref r68)]))
          refine Goes.of (fun t k => ldZ X68 hx hZ rfl V68 (j := (0 : Int32)) (i := 0) (v := (own_re t0 u1)) (by decide) (by decide) (by decide) (by rw [hf_ff, hf_gg]; rfl) (g := (mkF m 148 #[.val (.int u0), .val (.int u1), .val (.int u2), .val (.int u3), .val (.int (3 : Int32)), .val (.int t0), .val (.int t1), .val (.int t2), .val (.ref b53), .val (.ref b54), .val (.ref r68), .val (.int (1 : Int32))] [(.int (0 : Int32)), (.ref r68)])) rfl rfl (hb hby at_148) t k) ?_
          show Goes _ _ _ _ _ _ _ (T68.setTop (mkF m 149 #[.val (.int u0), .val (.int u1), .val (.int u2), .val (.int u3), .val (.int (3 : Int32)), .val (.int t0), .val (.int t1), .val (.int t2), .val (.ref b53), .val (.ref b54), .val (.ref r68), .val (.int (1 : Int32))] [(.int (own_re t0 u1))]))
          refine Goes.of (fun t k => XS.iload X68.here hx rfl (hb hby at_149) rfl k) ?_
          show Goes _ _ _ _ _ _ _ (T68.setTop (mkF m 151 #[.val (.int u0), .val (.int u1), .val (.int u2), .val (.int u3), .val (.int (3 : Int32)), .val (.int t0), .val (.int t1), .val (.int t2), .val (.ref b53), .val (.ref b54), .val (.ref r68), .val (.int (1 : Int32))] [(.int t0), (.int (own_re t0 u1))]))
          refine Goes.of (fun t k => XS.iloadN X68.here hx rfl (hb hby at_151) rfl k) ?_
          show Goes _ _ _ _ _ _ _ (T68.setTop (mkF m 152 #[.val (.int u0), .val (.int u1), .val (.int u2), .val (.int u3), .val (.int (3 : Int32)), .val (.int t0), .val (.int t1), .val (.int t2), .val (.ref b53), .val (.ref b54), .val (.ref r68), .val (.int (1 : Int32))] [(.int u1), (.int t0), (.int (own_re t0 u1))]))
          obtain ⟨_, _, ⟨T71, L71, k71, n71⟩, -, X71, ⟨Lc71, hQ71, l71, y71, z71⟩, st71⟩ := Jvm.LawKit.callS X68 hx (y := (⟨"com/example/network_attack_odds/networkattackodds/engine/GoalGraphReachedPinLaw", "expected", "(ZI)Z"⟩ : MethodName)) hown (mvT hZ (hw _ (List.mem_of_getElem? (i := 6) rfl))) (mvT hZ (hw _ (List.mem_of_getElem? (i := 7) rfl))) (mvT hZ (hw _ (List.mem_of_getElem? (i := 8) rfl))) (mvT hZ (hw _ (List.mem_of_getElem? (i := 9) rfl))) (by decide) (backOf (W := 1) (rm2 l Z a0 hw [] t0 u1  T68.heap n0 ) hZ (hw _ (List.mem_of_getElem? (i := 9) rfl)) (hw _ (List.mem_of_getElem? (i := 8) rfl)) (by decide) (by decide)) (g := (mkF m 152 #[.val (.int u0), .val (.int u1), .val (.int u2), .val (.int u3), .val (.int (3 : Int32)), .val (.int t0), .val (.int t1), .val (.int t2), .val (.ref b53), .val (.ref b54), .val (.ref r68), .val (.int (1 : Int32))] [(.int u1), (.int t0), (.int (own_re t0 u1))])) rfl (by rw [hml]; rfl) (argsL := [(.int t0), (.int u1)]) (rest := [(.int (own_re t0 u1))]) (lenOf pd_1 rfl) rfl (by show 2 * 0 + _ ≤ _; exact Nat.le_of_eq rfl) (hb hby at_152) (fun _ _ => ⟨rfl, rfl, (by decide : 3 + 0 ≤ _), (by decide : 9 + 0 ≤ _)⟩)
          dsimp only [Pt.U, Pt.locs, Pt.cells, Pt.slots] at X71 l71 y71 z71 st71 hQ71
          subst l71 y71 z71
          obtain ⟨rfl, N71q, e71⟩ := hQ71
          have N71 := Fr.app N68 N71q
          refine Goes.of st71 ?_
          show Goes _ _ _ _ _ _ _ (T71.setTop (mkF m 155 #[.val (.int u0), .val (.int u1), .val (.int u2), .val (.int u3), .val (.int (3 : Int32)), .val (.int t0), .val (.int t1), .val (.int t2), .val (.ref b53), .val (.ref b54), .val (.ref r68), .val (.int (1 : Int32))] [(.int (f2 t0 u1)), (.int (own_re t0 u1))]))
          refine Goes.of (fun t k => XS.icmpNo X71.here hx rfl (hb hby at_155) rfl (teq (own_req u1 hg17_t0_0)).2 k) ?_
          show Goes _ _ _ _ _ _ _ (T71.setTop (mkF m 158 #[.val (.int u0), .val (.int u1), .val (.int u2), .val (.int u3), .val (.int (3 : Int32)), .val (.int t0), .val (.int t1), .val (.int t2), .val (.ref b53), .val (.ref b54), .val (.ref r68), .val (.int (1 : Int32))] []))
          refine Goes.of (fun t k => XS.aload X71.here hx rfl (hb hby at_158) rfl rfl k) ?_
          show Goes _ _ _ _ _ _ _ (T71.setTop (mkF m 160 #[.val (.int u0), .val (.int u1), .val (.int u2), .val (.int u3), .val (.int (3 : Int32)), .val (.int t0), .val (.int t1), .val (.int t2), .val (.ref b53), .val (.ref b54), .val (.ref r68), .val (.int (1 : Int32))] [(.ref b53)]))
          refine Goes.of (fun t k => XS.iconst X71.here hx rfl (hb hby at_160) k) ?_
          show Goes _ _ _ _ _ _ _ (T71.setTop (mkF m 161 #[.val (.int u0), .val (.int u1), .val (.int u2), .val (.int u3), .val (.int (3 : Int32)), .val (.int t0), .val (.int t1), .val (.int t2), .val (.ref b53), .val (.ref b54), .val (.ref r68), .val (.int (1 : Int32))] [(.int (0 : Int32)), (.ref b53)]))
          refine Goes.of (fun t k => ldZ X71 hx hZ e71 F69 (j := (0 : Int32)) (i := 0) (v := t0) (by decide) (by decide) (by decide) (by rw [hf_ff]; exact own_t1 hg17_t0_0) (g := (mkF m 161 #[.val (.int u0), .val (.int u1), .val (.int u2), .val (.int u3), .val (.int (3 : Int32)), .val (.int t0), .val (.int t1), .val (.int t2), .val (.ref b53), .val (.ref b54), .val (.ref r68), .val (.int (1 : Int32))] [(.int (0 : Int32)), (.ref b53)])) rfl rfl (hb hby at_161) t k) ?_
          show Goes _ _ _ _ _ _ _ (T71.setTop (mkF m 162 #[.val (.int u0), .val (.int u1), .val (.int u2), .val (.int u3), .val (.int (3 : Int32)), .val (.int t0), .val (.int t1), .val (.int t2), .val (.ref b53), .val (.ref b54), .val (.ref r68), .val (.int (1 : Int32))] [(.int t0)]))
          refine Goes.of (fun t k => XS.iload X71.here hx rfl (hb hby at_162) rfl k) ?_
          show Goes _ _ _ _ _ _ _ (T71.setTop (mkF m 164 #[.val (.int u0), .val (.int u1), .val (.int u2), .val (.int u3), .val (.int (3 : Int32)), .val (.int t0), .val (.int t1), .val (.int t2), .val (.ref b53), .val (.ref b54), .val (.ref r68), .val (.int (1 : Int32))] [(.int t0), (.int t0)]))
          refine Goes.of (fun t k => XS.icmpNo X71.here hx rfl (hb hby at_164) rfl (teq (rfl : t0 = t0)).2 k) ?_
          show Goes _ _ _ _ _ _ _ (T71.setTop (mkF m 167 #[.val (.int u0), .val (.int u1), .val (.int u2), .val (.int u3), .val (.int (3 : Int32)), .val (.int t0), .val (.int t1), .val (.int t2), .val (.ref b53), .val (.ref b54), .val (.ref r68), .val (.int (1 : Int32))] []))
          refine Goes.of (fun t k => XS.aload X71.here hx rfl (hb hby at_167) rfl rfl k) ?_
          show Goes _ _ _ _ _ _ _ (T71.setTop (mkF m 169 #[.val (.int u0), .val (.int u1), .val (.int u2), .val (.int u3), .val (.int (3 : Int32)), .val (.int t0), .val (.int t1), .val (.int t2), .val (.ref b53), .val (.ref b54), .val (.ref r68), .val (.int (1 : Int32))] [(.ref b54)]))
          refine Goes.of (fun t k => XS.iconst X71.here hx rfl (hb hby at_169) k) ?_
          show Goes _ _ _ _ _ _ _ (T71.setTop (mkF m 170 #[.val (.int u0), .val (.int u1), .val (.int u2), .val (.int u3), .val (.int (3 : Int32)), .val (.int t0), .val (.int t1), .val (.int t2), .val (.ref b53), .val (.ref b54), .val (.ref r68), .val (.int (1 : Int32))] [(.int (0 : Int32)), (.ref b54)]))
          refine Goes.of (fun t k => ldI X71 hx hZ e71 F70 (j := (0 : Int32)) (i := 0) (v := u1) (by decide) (by decide) (by decide) (by rw [hf_gg]; rfl) (g := (mkF m 170 #[.val (.int u0), .val (.int u1), .val (.int u2), .val (.int u3), .val (.int (3 : Int32)), .val (.int t0), .val (.int t1), .val (.int t2), .val (.ref b53), .val (.ref b54), .val (.ref r68), .val (.int (1 : Int32))] [(.int (0 : Int32)), (.ref b54)])) rfl rfl (hb hby at_170) t k) ?_
          show Goes _ _ _ _ _ _ _ (T71.setTop (mkF m 171 #[.val (.int u0), .val (.int u1), .val (.int u2), .val (.int u3), .val (.int (3 : Int32)), .val (.int t0), .val (.int t1), .val (.int t2), .val (.ref b53), .val (.ref b54), .val (.ref r68), .val (.int (1 : Int32))] [(.int u1)]))
          refine Goes.of (fun t k => XS.iloadN X71.here hx rfl (hb hby at_171) rfl k) ?_
          show Goes _ _ _ _ _ _ _ (T71.setTop (mkF m 172 #[.val (.int u0), .val (.int u1), .val (.int u2), .val (.int u3), .val (.int (3 : Int32)), .val (.int t0), .val (.int t1), .val (.int t2), .val (.ref b53), .val (.ref b54), .val (.ref r68), .val (.int (1 : Int32))] [(.int u1), (.int u1)]))
          refine Goes.of (fun t k => XS.icmpNo X71.here hx rfl (hb hby at_172) rfl (teq (rfl : u1 = u1)).2 k) ?_
          show Goes _ _ _ _ _ _ _ (T71.setTop (mkF m 175 #[.val (.int u0), .val (.int u1), .val (.int u2), .val (.int u3), .val (.int (3 : Int32)), .val (.int t0), .val (.int t1), .val (.int t2), .val (.ref b53), .val (.ref b54), .val (.ref r68), .val (.int (1 : Int32))] []))
          refine Goes.of (fun t k => XS.iconst X71.here hx rfl (hb hby at_175) k) ?_
          show Goes _ _ _ _ _ _ _ (T71.setTop (mkF m 176 #[.val (.int u0), .val (.int u1), .val (.int u2), .val (.int u3), .val (.int (3 : Int32)), .val (.int t0), .val (.int t1), .val (.int t2), .val (.ref b53), .val (.ref b54), .val (.ref r68), .val (.int (1 : Int32))] [(.int (1 : Int32))]))
          refine Goes.of (fun t k => XS.goto X71.here hx rfl (pc0 := 176) (pc' := 180) rfl (hb hby at_176) (by decide) (by decide) k) ?_
          show Goes _ _ _ _ _ _ _ (T71.setTop (mkF m 180 #[.val (.int u0), .val (.int u1), .val (.int u2), .val (.int u3), .val (.int (3 : Int32)), .val (.int t0), .val (.int t1), .val (.int t2), .val (.ref b53), .val (.ref b54), .val (.ref r68), .val (.int (1 : Int32))] [(.int (1 : Int32))]))
          refine Goes.of (fun t k => XS.istore X71.here hx rfl (hb hby at_180) rfl (l' := #[.val (.int u0), .val (.int u1), .val (.int u2), .val (.int u3), .val (.int (3 : Int32)), .val (.int t0), .val (.int t1), .val (.int t2), .val (.ref b53), .val (.ref b54), .val (.ref r68), .val (.int (1 : Int32))]) rfl k) ?_
          show Goes _ _ _ _ _ _ _ (T71.setTop (mkF m 182 #[.val (.int u0), .val (.int u1), .val (.int u2), .val (.int u3), .val (.int (3 : Int32)), .val (.int t0), .val (.int t1), .val (.int t2), .val (.ref b53), .val (.ref b54), .val (.ref r68), .val (.int (1 : Int32))] []))
          refine Goes.of (fun t k => XS.iload X71.here hx rfl (hb hby at_182) rfl k) ?_
          show Goes _ _ _ _ _ _ _ (T71.setTop (mkF m 184 #[.val (.int u0), .val (.int u1), .val (.int u2), .val (.int u3), .val (.int (3 : Int32)), .val (.int t0), .val (.int t1), .val (.int t2), .val (.ref b53), .val (.ref b54), .val (.ref r68), .val (.int (1 : Int32))] [(.int (3 : Int32))]))
          refine Goes.of (fun t k => XS.iconst X71.here hx rfl (hb hby at_184) k) ?_
          show Goes _ _ _ _ _ _ _ (T71.setTop (mkF m 185 #[.val (.int u0), .val (.int u1), .val (.int u2), .val (.int u3), .val (.int (3 : Int32)), .val (.int t0), .val (.int t1), .val (.int t2), .val (.ref b53), .val (.ref b54), .val (.ref r68), .val (.int (1 : Int32))] [(.int (1 : Int32)), (.int (3 : Int32))]))
          refine Goes.of (fun t k => XS.icmpNo X71.here hx rfl (hb hby at_185) rfl (tlt (by decide : (1 : Int32) < (3 : Int32))).2.2.2 k) ?_
          show Goes _ _ _ _ _ _ _ (T71.setTop (mkF m 188 #[.val (.int u0), .val (.int u1), .val (.int u2), .val (.int u3), .val (.int (3 : Int32)), .val (.int t0), .val (.int t1), .val (.int t2), .val (.ref b53), .val (.ref b54), .val (.ref r68), .val (.int (1 : Int32))] []))
          refine Goes.of (fun t k => XS.iload X71.here hx rfl (hb hby at_188) rfl k) ?_
          show Goes _ _ _ _ _ _ _ (T71.setTop (mkF m 190 #[.val (.int u0), .val (.int u1), .val (.int u2), .val (.int u3), .val (.int (3 : Int32)), .val (.int t0), .val (.int t1), .val (.int t2), .val (.ref b53), .val (.ref b54), .val (.ref r68), .val (.int (1 : Int32))] [(.int (1 : Int32))]))
          refine Goes.of (fun t k => XS.ifNo X71.here hx rfl (hb hby at_190) rfl ((if0 _ _).trans (feq (by decide : ¬ ((1 : Int32) = (0 : Int32)))).1) k) ?_
          show Goes _ _ _ _ _ _ _ (T71.setTop (mkF m 193 #[.val (.int u0), .val (.int u1), .val (.int u2), .val (.int u3), .val (.int (3 : Int32)), .val (.int t0), .val (.int t1), .val (.int t2), .val (.ref b53), .val (.ref b54), .val (.ref r68), .val (.int (1 : Int32))] []))
          refine Goes.of (fun t k => XS.aload X71.here hx rfl (hb hby at_193) rfl rfl k) ?_
          show Goes _ _ _ _ _ _ _ (T71.setTop (mkF m 195 #[.val (.int u0), .val (.int u1), .val (.int u2), .val (.int u3), .val (.int (3 : Int32)), .val (.int t0), .val (.int t1), .val (.int t2), .val (.ref b53), .val (.ref b54), .val (.ref r68), .val (.int (1 : Int32))] [(.ref r68)]))
          refine Goes.of (fun t k => XS.iconst X71.here hx rfl (hb hby at_195) k) ?_
          show Goes _ _ _ _ _ _ _ (T71.setTop (mkF m 196 #[.val (.int u0), .val (.int u1), .val (.int u2), .val (.int u3), .val (.int (3 : Int32)), .val (.int t0), .val (.int t1), .val (.int t2), .val (.ref b53), .val (.ref b54), .val (.ref r68), .val (.int (1 : Int32))] [(.int (1 : Int32)), (.ref r68)]))
          refine Goes.of (fun t k => ldZ X71 hx hZ e71 V68 (j := (1 : Int32)) (i := 1) (v := (own_re t1 u2)) (by decide) (by decide) (by decide) (by rw [hf_ff, hf_gg]; rfl) (g := (mkF m 196 #[.val (.int u0), .val (.int u1), .val (.int u2), .val (.int u3), .val (.int (3 : Int32)), .val (.int t0), .val (.int t1), .val (.int t2), .val (.ref b53), .val (.ref b54), .val (.ref r68), .val (.int (1 : Int32))] [(.int (1 : Int32)), (.ref r68)])) rfl rfl (hb hby at_196) t k) ?_
          show Goes _ _ _ _ _ _ _ (T71.setTop (mkF m 197 #[.val (.int u0), .val (.int u1), .val (.int u2), .val (.int u3), .val (.int (3 : Int32)), .val (.int t0), .val (.int t1), .val (.int t2), .val (.ref b53), .val (.ref b54), .val (.ref r68), .val (.int (1 : Int32))] [(.int (own_re t1 u2))]))
          refine Goes.of (fun t k => XS.iload X71.here hx rfl (hb hby at_197) rfl k) ?_
          show Goes _ _ _ _ _ _ _ (T71.setTop (mkF m 199 #[.val (.int u0), .val (.int u1), .val (.int u2), .val (.int u3), .val (.int (3 : Int32)), .val (.int t0), .val (.int t1), .val (.int t2), .val (.ref b53), .val (.ref b54), .val (.ref r68), .val (.int (1 : Int32))] [(.int t1), (.int (own_re t1 u2))]))
          refine Goes.of (fun t k => XS.iloadN X71.here hx rfl (hb hby at_199) rfl k) ?_
          show Goes _ _ _ _ _ _ _ (T71.setTop (mkF m 200 #[.val (.int u0), .val (.int u1), .val (.int u2), .val (.int u3), .val (.int (3 : Int32)), .val (.int t0), .val (.int t1), .val (.int t2), .val (.ref b53), .val (.ref b54), .val (.ref r68), .val (.int (1 : Int32))] [(.int u2), (.int t1), (.int (own_re t1 u2))]))
          obtain ⟨_, _, ⟨T72, L72, k72, n72⟩, -, X72, ⟨Lc72, hQ72, l72, y72, z72⟩, st72⟩ := Jvm.LawKit.callS X71 hx (y := (⟨"com/example/network_attack_odds/networkattackodds/engine/GoalGraphReachedPinLaw", "expected", "(ZI)Z"⟩ : MethodName)) hown (mvT hZ (hw _ (List.mem_of_getElem? (i := 6) rfl))) (mvT hZ (hw _ (List.mem_of_getElem? (i := 7) rfl))) (mvT hZ (hw _ (List.mem_of_getElem? (i := 8) rfl))) (mvT hZ (hw _ (List.mem_of_getElem? (i := 9) rfl))) (by decide) (backOf (W := 1) (rm2 l Z a0 hw [] t1 u2  T68.heap n0 ) hZ (hw _ (List.mem_of_getElem? (i := 9) rfl)) (hw _ (List.mem_of_getElem? (i := 8) rfl)) (by decide) (by decide)) (g := (mkF m 200 #[.val (.int u0), .val (.int u1), .val (.int u2), .val (.int u3), .val (.int (3 : Int32)), .val (.int t0), .val (.int t1), .val (.int t2), .val (.ref b53), .val (.ref b54), .val (.ref r68), .val (.int (1 : Int32))] [(.int u2), (.int t1), (.int (own_re t1 u2))])) rfl (by rw [hml]; rfl) (argsL := [(.int t1), (.int u2)]) (rest := [(.int (own_re t1 u2))]) (lenOf pd_1 rfl) rfl (by show 2 * 0 + _ ≤ _; exact Nat.le_of_eq rfl) (hb hby at_200) (fun _ _ => ⟨rfl, e71, (by decide : 3 + 0 ≤ _), (by decide : 9 + 0 ≤ _)⟩)
          dsimp only [Pt.U, Pt.locs, Pt.cells, Pt.slots] at X72 l72 y72 z72 st72 hQ72
          subst l72 y72 z72
          obtain ⟨rfl, N72q, e72⟩ := hQ72
          have N72 := Fr.app N71 N72q
          refine Goes.of st72 ?_
          show Goes _ _ _ _ _ _ _ (T72.setTop (mkF m 203 #[.val (.int u0), .val (.int u1), .val (.int u2), .val (.int u3), .val (.int (3 : Int32)), .val (.int t0), .val (.int t1), .val (.int t2), .val (.ref b53), .val (.ref b54), .val (.ref r68), .val (.int (1 : Int32))] [(.int (f2 t1 u2)), (.int (own_re t1 u2))]))
          refine Goes.of (fun t k => XS.icmpNo X72.here hx rfl (hb hby at_203) rfl (teq (own_req u2 hg18_t1_0)).2 k) ?_
          show Goes _ _ _ _ _ _ _ (T72.setTop (mkF m 206 #[.val (.int u0), .val (.int u1), .val (.int u2), .val (.int u3), .val (.int (3 : Int32)), .val (.int t0), .val (.int t1), .val (.int t2), .val (.ref b53), .val (.ref b54), .val (.ref r68), .val (.int (1 : Int32))] []))
          refine Goes.of (fun t k => XS.aload X72.here hx rfl (hb hby at_206) rfl rfl k) ?_
          show Goes _ _ _ _ _ _ _ (T72.setTop (mkF m 208 #[.val (.int u0), .val (.int u1), .val (.int u2), .val (.int u3), .val (.int (3 : Int32)), .val (.int t0), .val (.int t1), .val (.int t2), .val (.ref b53), .val (.ref b54), .val (.ref r68), .val (.int (1 : Int32))] [(.ref b53)]))
          refine Goes.of (fun t k => XS.iconst X72.here hx rfl (hb hby at_208) k) ?_
          show Goes _ _ _ _ _ _ _ (T72.setTop (mkF m 209 #[.val (.int u0), .val (.int u1), .val (.int u2), .val (.int u3), .val (.int (3 : Int32)), .val (.int t0), .val (.int t1), .val (.int t2), .val (.ref b53), .val (.ref b54), .val (.ref r68), .val (.int (1 : Int32))] [(.int (1 : Int32)), (.ref b53)]))
          refine Goes.of (fun t k => ldZ X72 hx hZ e72 F69 (j := (1 : Int32)) (i := 1) (v := t1) (by decide) (by decide) (by decide) (by rw [hf_ff]; exact own_t1 hg18_t1_0) (g := (mkF m 209 #[.val (.int u0), .val (.int u1), .val (.int u2), .val (.int u3), .val (.int (3 : Int32)), .val (.int t0), .val (.int t1), .val (.int t2), .val (.ref b53), .val (.ref b54), .val (.ref r68), .val (.int (1 : Int32))] [(.int (1 : Int32)), (.ref b53)])) rfl rfl (hb hby at_209) t k) ?_
          show Goes _ _ _ _ _ _ _ (T72.setTop (mkF m 210 #[.val (.int u0), .val (.int u1), .val (.int u2), .val (.int u3), .val (.int (3 : Int32)), .val (.int t0), .val (.int t1), .val (.int t2), .val (.ref b53), .val (.ref b54), .val (.ref r68), .val (.int (1 : Int32))] [(.int t1)]))
          refine Goes.of (fun t k => XS.iload X72.here hx rfl (hb hby at_210) rfl k) ?_
          show Goes _ _ _ _ _ _ _ (T72.setTop (mkF m 212 #[.val (.int u0), .val (.int u1), .val (.int u2), .val (.int u3), .val (.int (3 : Int32)), .val (.int t0), .val (.int t1), .val (.int t2), .val (.ref b53), .val (.ref b54), .val (.ref r68), .val (.int (1 : Int32))] [(.int t1), (.int t1)]))
          refine Goes.of (fun t k => XS.icmpNo X72.here hx rfl (hb hby at_212) rfl (teq (rfl : t1 = t1)).2 k) ?_
          show Goes _ _ _ _ _ _ _ (T72.setTop (mkF m 215 #[.val (.int u0), .val (.int u1), .val (.int u2), .val (.int u3), .val (.int (3 : Int32)), .val (.int t0), .val (.int t1), .val (.int t2), .val (.ref b53), .val (.ref b54), .val (.ref r68), .val (.int (1 : Int32))] []))
          refine Goes.of (fun t k => XS.aload X72.here hx rfl (hb hby at_215) rfl rfl k) ?_
          show Goes _ _ _ _ _ _ _ (T72.setTop (mkF m 217 #[.val (.int u0), .val (.int u1), .val (.int u2), .val (.int u3), .val (.int (3 : Int32)), .val (.int t0), .val (.int t1), .val (.int t2), .val (.ref b53), .val (.ref b54), .val (.ref r68), .val (.int (1 : Int32))] [(.ref b54)]))
          refine Goes.of (fun t k => XS.iconst X72.here hx rfl (hb hby at_217) k) ?_
          show Goes _ _ _ _ _ _ _ (T72.setTop (mkF m 218 #[.val (.int u0), .val (.int u1), .val (.int u2), .val (.int u3), .val (.int (3 : Int32)), .val (.int t0), .val (.int t1), .val (.int t2), .val (.ref b53), .val (.ref b54), .val (.ref r68), .val (.int (1 : Int32))] [(.int (1 : Int32)), (.ref b54)]))
          refine Goes.of (fun t k => ldI X72 hx hZ e72 F70 (j := (1 : Int32)) (i := 1) (v := u2) (by decide) (by decide) (by decide) (by rw [hf_gg]; rfl) (g := (mkF m 218 #[.val (.int u0), .val (.int u1), .val (.int u2), .val (.int u3), .val (.int (3 : Int32)), .val (.int t0), .val (.int t1), .val (.int t2), .val (.ref b53), .val (.ref b54), .val (.ref r68), .val (.int (1 : Int32))] [(.int (1 : Int32)), (.ref b54)])) rfl rfl (hb hby at_218) t k) ?_
          show Goes _ _ _ _ _ _ _ (T72.setTop (mkF m 219 #[.val (.int u0), .val (.int u1), .val (.int u2), .val (.int u3), .val (.int (3 : Int32)), .val (.int t0), .val (.int t1), .val (.int t2), .val (.ref b53), .val (.ref b54), .val (.ref r68), .val (.int (1 : Int32))] [(.int u2)]))
          refine Goes.of (fun t k => XS.iloadN X72.here hx rfl (hb hby at_219) rfl k) ?_
          show Goes _ _ _ _ _ _ _ (T72.setTop (mkF m 220 #[.val (.int u0), .val (.int u1), .val (.int u2), .val (.int u3), .val (.int (3 : Int32)), .val (.int t0), .val (.int t1), .val (.int t2), .val (.ref b53), .val (.ref b54), .val (.ref r68), .val (.int (1 : Int32))] [(.int u2), (.int u2)]))
          refine Goes.of (fun t k => XS.icmpNo X72.here hx rfl (hb hby at_220) rfl (teq (rfl : u2 = u2)).2 k) ?_
          show Goes _ _ _ _ _ _ _ (T72.setTop (mkF m 223 #[.val (.int u0), .val (.int u1), .val (.int u2), .val (.int u3), .val (.int (3 : Int32)), .val (.int t0), .val (.int t1), .val (.int t2), .val (.ref b53), .val (.ref b54), .val (.ref r68), .val (.int (1 : Int32))] []))
          refine Goes.of (fun t k => XS.iconst X72.here hx rfl (hb hby at_223) k) ?_
          show Goes _ _ _ _ _ _ _ (T72.setTop (mkF m 224 #[.val (.int u0), .val (.int u1), .val (.int u2), .val (.int u3), .val (.int (3 : Int32)), .val (.int t0), .val (.int t1), .val (.int t2), .val (.ref b53), .val (.ref b54), .val (.ref r68), .val (.int (1 : Int32))] [(.int (1 : Int32))]))
          refine Goes.of (fun t k => XS.goto X72.here hx rfl (pc0 := 224) (pc' := 228) rfl (hb hby at_224) (by decide) (by decide) k) ?_
          show Goes _ _ _ _ _ _ _ (T72.setTop (mkF m 228 #[.val (.int u0), .val (.int u1), .val (.int u2), .val (.int u3), .val (.int (3 : Int32)), .val (.int t0), .val (.int t1), .val (.int t2), .val (.ref b53), .val (.ref b54), .val (.ref r68), .val (.int (1 : Int32))] [(.int (1 : Int32))]))
          refine Goes.of (fun t k => XS.istore X72.here hx rfl (hb hby at_228) rfl (l' := #[.val (.int u0), .val (.int u1), .val (.int u2), .val (.int u3), .val (.int (3 : Int32)), .val (.int t0), .val (.int t1), .val (.int t2), .val (.ref b53), .val (.ref b54), .val (.ref r68), .val (.int (1 : Int32))]) rfl k) ?_
          show Goes _ _ _ _ _ _ _ (T72.setTop (mkF m 230 #[.val (.int u0), .val (.int u1), .val (.int u2), .val (.int u3), .val (.int (3 : Int32)), .val (.int t0), .val (.int t1), .val (.int t2), .val (.ref b53), .val (.ref b54), .val (.ref r68), .val (.int (1 : Int32))] []))
          refine Goes.of (fun t k => XS.iload X72.here hx rfl (hb hby at_230) rfl k) ?_
          show Goes _ _ _ _ _ _ _ (T72.setTop (mkF m 232 #[.val (.int u0), .val (.int u1), .val (.int u2), .val (.int u3), .val (.int (3 : Int32)), .val (.int t0), .val (.int t1), .val (.int t2), .val (.ref b53), .val (.ref b54), .val (.ref r68), .val (.int (1 : Int32))] [(.int (3 : Int32))]))
          refine Goes.of (fun t k => XS.iconst X72.here hx rfl (hb hby at_232) k) ?_
          show Goes _ _ _ _ _ _ _ (T72.setTop (mkF m 233 #[.val (.int u0), .val (.int u1), .val (.int u2), .val (.int u3), .val (.int (3 : Int32)), .val (.int t0), .val (.int t1), .val (.int t2), .val (.ref b53), .val (.ref b54), .val (.ref r68), .val (.int (1 : Int32))] [(.int (2 : Int32)), (.int (3 : Int32))]))
          refine Goes.of (fun t k => XS.icmpNo X72.here hx rfl (hb hby at_233) rfl (tlt (by decide : (2 : Int32) < (3 : Int32))).2.2.2 k) ?_
          show Goes _ _ _ _ _ _ _ (T72.setTop (mkF m 236 #[.val (.int u0), .val (.int u1), .val (.int u2), .val (.int u3), .val (.int (3 : Int32)), .val (.int t0), .val (.int t1), .val (.int t2), .val (.ref b53), .val (.ref b54), .val (.ref r68), .val (.int (1 : Int32))] []))
          refine Goes.of (fun t k => XS.iload X72.here hx rfl (hb hby at_236) rfl k) ?_
          show Goes _ _ _ _ _ _ _ (T72.setTop (mkF m 238 #[.val (.int u0), .val (.int u1), .val (.int u2), .val (.int u3), .val (.int (3 : Int32)), .val (.int t0), .val (.int t1), .val (.int t2), .val (.ref b53), .val (.ref b54), .val (.ref r68), .val (.int (1 : Int32))] [(.int (1 : Int32))]))
          refine Goes.of (fun t k => XS.ifNo X72.here hx rfl (hb hby at_238) rfl ((if0 _ _).trans (feq (by decide : ¬ ((1 : Int32) = (0 : Int32)))).1) k) ?_
          show Goes _ _ _ _ _ _ _ (T72.setTop (mkF m 241 #[.val (.int u0), .val (.int u1), .val (.int u2), .val (.int u3), .val (.int (3 : Int32)), .val (.int t0), .val (.int t1), .val (.int t2), .val (.ref b53), .val (.ref b54), .val (.ref r68), .val (.int (1 : Int32))] []))
          refine Goes.of (fun t k => XS.aload X72.here hx rfl (hb hby at_241) rfl rfl k) ?_
          show Goes _ _ _ _ _ _ _ (T72.setTop (mkF m 243 #[.val (.int u0), .val (.int u1), .val (.int u2), .val (.int u3), .val (.int (3 : Int32)), .val (.int t0), .val (.int t1), .val (.int t2), .val (.ref b53), .val (.ref b54), .val (.ref r68), .val (.int (1 : Int32))] [(.ref r68)]))
          refine Goes.of (fun t k => XS.iconst X72.here hx rfl (hb hby at_243) k) ?_
          show Goes _ _ _ _ _ _ _ (T72.setTop (mkF m 244 #[.val (.int u0), .val (.int u1), .val (.int u2), .val (.int u3), .val (.int (3 : Int32)), .val (.int t0), .val (.int t1), .val (.int t2), .val (.ref b53), .val (.ref b54), .val (.ref r68), .val (.int (1 : Int32))] [(.int (2 : Int32)), (.ref r68)]))
          refine Goes.of (fun t k => ldZ X72 hx hZ e72 V68 (j := (2 : Int32)) (i := 2) (v := (own_re t2 u3)) (by decide) (by decide) (by decide) (by rw [hf_ff, hf_gg]; rfl) (g := (mkF m 244 #[.val (.int u0), .val (.int u1), .val (.int u2), .val (.int u3), .val (.int (3 : Int32)), .val (.int t0), .val (.int t1), .val (.int t2), .val (.ref b53), .val (.ref b54), .val (.ref r68), .val (.int (1 : Int32))] [(.int (2 : Int32)), (.ref r68)])) rfl rfl (hb hby at_244) t k) ?_
          show Goes _ _ _ _ _ _ _ (T72.setTop (mkF m 245 #[.val (.int u0), .val (.int u1), .val (.int u2), .val (.int u3), .val (.int (3 : Int32)), .val (.int t0), .val (.int t1), .val (.int t2), .val (.ref b53), .val (.ref b54), .val (.ref r68), .val (.int (1 : Int32))] [(.int (own_re t2 u3))]))
          refine Goes.of (fun t k => XS.iload X72.here hx rfl (hb hby at_245) rfl k) ?_
          show Goes _ _ _ _ _ _ _ (T72.setTop (mkF m 247 #[.val (.int u0), .val (.int u1), .val (.int u2), .val (.int u3), .val (.int (3 : Int32)), .val (.int t0), .val (.int t1), .val (.int t2), .val (.ref b53), .val (.ref b54), .val (.ref r68), .val (.int (1 : Int32))] [(.int t2), (.int (own_re t2 u3))]))
          refine Goes.of (fun t k => XS.iloadN X72.here hx rfl (hb hby at_247) rfl k) ?_
          show Goes _ _ _ _ _ _ _ (T72.setTop (mkF m 248 #[.val (.int u0), .val (.int u1), .val (.int u2), .val (.int u3), .val (.int (3 : Int32)), .val (.int t0), .val (.int t1), .val (.int t2), .val (.ref b53), .val (.ref b54), .val (.ref r68), .val (.int (1 : Int32))] [(.int u3), (.int t2), (.int (own_re t2 u3))]))
          obtain ⟨_, _, ⟨T73, L73, k73, n73⟩, -, X73, ⟨Lc73, hQ73, l73, y73, z73⟩, st73⟩ := Jvm.LawKit.callS X72 hx (y := (⟨"com/example/network_attack_odds/networkattackodds/engine/GoalGraphReachedPinLaw", "expected", "(ZI)Z"⟩ : MethodName)) hown (mvT hZ (hw _ (List.mem_of_getElem? (i := 6) rfl))) (mvT hZ (hw _ (List.mem_of_getElem? (i := 7) rfl))) (mvT hZ (hw _ (List.mem_of_getElem? (i := 8) rfl))) (mvT hZ (hw _ (List.mem_of_getElem? (i := 9) rfl))) (by decide) (backOf (W := 1) (rm2 l Z a0 hw [] t2 u3  T68.heap n0 ) hZ (hw _ (List.mem_of_getElem? (i := 9) rfl)) (hw _ (List.mem_of_getElem? (i := 8) rfl)) (by decide) (by decide)) (g := (mkF m 248 #[.val (.int u0), .val (.int u1), .val (.int u2), .val (.int u3), .val (.int (3 : Int32)), .val (.int t0), .val (.int t1), .val (.int t2), .val (.ref b53), .val (.ref b54), .val (.ref r68), .val (.int (1 : Int32))] [(.int u3), (.int t2), (.int (own_re t2 u3))])) rfl (by rw [hml]; rfl) (argsL := [(.int t2), (.int u3)]) (rest := [(.int (own_re t2 u3))]) (lenOf pd_1 rfl) rfl (by show 2 * 0 + _ ≤ _; exact Nat.le_of_eq rfl) (hb hby at_248) (fun _ _ => ⟨rfl, e72, (by decide : 3 + 0 ≤ _), (by decide : 9 + 0 ≤ _)⟩)
          dsimp only [Pt.U, Pt.locs, Pt.cells, Pt.slots] at X73 l73 y73 z73 st73 hQ73
          subst l73 y73 z73
          obtain ⟨rfl, N73q, e73⟩ := hQ73
          have N73 := Fr.app N72 N73q
          refine Goes.of st73 ?_
          show Goes _ _ _ _ _ _ _ (T73.setTop (mkF m 251 #[.val (.int u0), .val (.int u1), .val (.int u2), .val (.int u3), .val (.int (3 : Int32)), .val (.int t0), .val (.int t1), .val (.int t2), .val (.ref b53), .val (.ref b54), .val (.ref r68), .val (.int (1 : Int32))] [(.int (f2 t2 u3)), (.int (own_re t2 u3))]))
          refine Goes.of (fun t k => XS.icmpNo X73.here hx rfl (hb hby at_251) rfl (teq (own_req u3 hg19_t2_0)).2 k) ?_
          show Goes _ _ _ _ _ _ _ (T73.setTop (mkF m 254 #[.val (.int u0), .val (.int u1), .val (.int u2), .val (.int u3), .val (.int (3 : Int32)), .val (.int t0), .val (.int t1), .val (.int t2), .val (.ref b53), .val (.ref b54), .val (.ref r68), .val (.int (1 : Int32))] []))
          refine Goes.of (fun t k => XS.aload X73.here hx rfl (hb hby at_254) rfl rfl k) ?_
          show Goes _ _ _ _ _ _ _ (T73.setTop (mkF m 256 #[.val (.int u0), .val (.int u1), .val (.int u2), .val (.int u3), .val (.int (3 : Int32)), .val (.int t0), .val (.int t1), .val (.int t2), .val (.ref b53), .val (.ref b54), .val (.ref r68), .val (.int (1 : Int32))] [(.ref b53)]))
          refine Goes.of (fun t k => XS.iconst X73.here hx rfl (hb hby at_256) k) ?_
          show Goes _ _ _ _ _ _ _ (T73.setTop (mkF m 257 #[.val (.int u0), .val (.int u1), .val (.int u2), .val (.int u3), .val (.int (3 : Int32)), .val (.int t0), .val (.int t1), .val (.int t2), .val (.ref b53), .val (.ref b54), .val (.ref r68), .val (.int (1 : Int32))] [(.int (2 : Int32)), (.ref b53)]))
          refine Goes.of (fun t k => ldZ X73 hx hZ e73 F69 (j := (2 : Int32)) (i := 2) (v := t2) (by decide) (by decide) (by decide) (by rw [hf_ff]; exact own_t1 hg19_t2_0) (g := (mkF m 257 #[.val (.int u0), .val (.int u1), .val (.int u2), .val (.int u3), .val (.int (3 : Int32)), .val (.int t0), .val (.int t1), .val (.int t2), .val (.ref b53), .val (.ref b54), .val (.ref r68), .val (.int (1 : Int32))] [(.int (2 : Int32)), (.ref b53)])) rfl rfl (hb hby at_257) t k) ?_
          show Goes _ _ _ _ _ _ _ (T73.setTop (mkF m 258 #[.val (.int u0), .val (.int u1), .val (.int u2), .val (.int u3), .val (.int (3 : Int32)), .val (.int t0), .val (.int t1), .val (.int t2), .val (.ref b53), .val (.ref b54), .val (.ref r68), .val (.int (1 : Int32))] [(.int t2)]))
          refine Goes.of (fun t k => XS.iload X73.here hx rfl (hb hby at_258) rfl k) ?_
          show Goes _ _ _ _ _ _ _ (T73.setTop (mkF m 260 #[.val (.int u0), .val (.int u1), .val (.int u2), .val (.int u3), .val (.int (3 : Int32)), .val (.int t0), .val (.int t1), .val (.int t2), .val (.ref b53), .val (.ref b54), .val (.ref r68), .val (.int (1 : Int32))] [(.int t2), (.int t2)]))
          refine Goes.of (fun t k => XS.icmpNo X73.here hx rfl (hb hby at_260) rfl (teq (rfl : t2 = t2)).2 k) ?_
          show Goes _ _ _ _ _ _ _ (T73.setTop (mkF m 263 #[.val (.int u0), .val (.int u1), .val (.int u2), .val (.int u3), .val (.int (3 : Int32)), .val (.int t0), .val (.int t1), .val (.int t2), .val (.ref b53), .val (.ref b54), .val (.ref r68), .val (.int (1 : Int32))] []))
          refine Goes.of (fun t k => XS.aload X73.here hx rfl (hb hby at_263) rfl rfl k) ?_
          show Goes _ _ _ _ _ _ _ (T73.setTop (mkF m 265 #[.val (.int u0), .val (.int u1), .val (.int u2), .val (.int u3), .val (.int (3 : Int32)), .val (.int t0), .val (.int t1), .val (.int t2), .val (.ref b53), .val (.ref b54), .val (.ref r68), .val (.int (1 : Int32))] [(.ref b54)]))
          refine Goes.of (fun t k => XS.iconst X73.here hx rfl (hb hby at_265) k) ?_
          show Goes _ _ _ _ _ _ _ (T73.setTop (mkF m 266 #[.val (.int u0), .val (.int u1), .val (.int u2), .val (.int u3), .val (.int (3 : Int32)), .val (.int t0), .val (.int t1), .val (.int t2), .val (.ref b53), .val (.ref b54), .val (.ref r68), .val (.int (1 : Int32))] [(.int (2 : Int32)), (.ref b54)]))
          refine Goes.of (fun t k => ldI X73 hx hZ e73 F70 (j := (2 : Int32)) (i := 2) (v := u3) (by decide) (by decide) (by decide) (by rw [hf_gg]; rfl) (g := (mkF m 266 #[.val (.int u0), .val (.int u1), .val (.int u2), .val (.int u3), .val (.int (3 : Int32)), .val (.int t0), .val (.int t1), .val (.int t2), .val (.ref b53), .val (.ref b54), .val (.ref r68), .val (.int (1 : Int32))] [(.int (2 : Int32)), (.ref b54)])) rfl rfl (hb hby at_266) t k) ?_
          show Goes _ _ _ _ _ _ _ (T73.setTop (mkF m 267 #[.val (.int u0), .val (.int u1), .val (.int u2), .val (.int u3), .val (.int (3 : Int32)), .val (.int t0), .val (.int t1), .val (.int t2), .val (.ref b53), .val (.ref b54), .val (.ref r68), .val (.int (1 : Int32))] [(.int u3)]))
          refine Goes.of (fun t k => XS.iloadN X73.here hx rfl (hb hby at_267) rfl k) ?_
          show Goes _ _ _ _ _ _ _ (T73.setTop (mkF m 268 #[.val (.int u0), .val (.int u1), .val (.int u2), .val (.int u3), .val (.int (3 : Int32)), .val (.int t0), .val (.int t1), .val (.int t2), .val (.ref b53), .val (.ref b54), .val (.ref r68), .val (.int (1 : Int32))] [(.int u3), (.int u3)]))
          refine Goes.of (fun t k => XS.icmpNo X73.here hx rfl (hb hby at_268) rfl (teq (rfl : u3 = u3)).2 k) ?_
          show Goes _ _ _ _ _ _ _ (T73.setTop (mkF m 271 #[.val (.int u0), .val (.int u1), .val (.int u2), .val (.int u3), .val (.int (3 : Int32)), .val (.int t0), .val (.int t1), .val (.int t2), .val (.ref b53), .val (.ref b54), .val (.ref r68), .val (.int (1 : Int32))] []))
          refine Goes.of (fun t k => XS.iconst X73.here hx rfl (hb hby at_271) k) ?_
          show Goes _ _ _ _ _ _ _ (T73.setTop (mkF m 272 #[.val (.int u0), .val (.int u1), .val (.int u2), .val (.int u3), .val (.int (3 : Int32)), .val (.int t0), .val (.int t1), .val (.int t2), .val (.ref b53), .val (.ref b54), .val (.ref r68), .val (.int (1 : Int32))] [(.int (1 : Int32))]))
          refine Goes.of (fun t k => XS.goto X73.here hx rfl (pc0 := 272) (pc' := 276) rfl (hb hby at_272) (by decide) (by decide) k) ?_
          show Goes _ _ _ _ _ _ _ (T73.setTop (mkF m 276 #[.val (.int u0), .val (.int u1), .val (.int u2), .val (.int u3), .val (.int (3 : Int32)), .val (.int t0), .val (.int t1), .val (.int t2), .val (.ref b53), .val (.ref b54), .val (.ref r68), .val (.int (1 : Int32))] [(.int (1 : Int32))]))
          refine Goes.of (fun t k => XS.istore X73.here hx rfl (hb hby at_276) rfl (l' := #[.val (.int u0), .val (.int u1), .val (.int u2), .val (.int u3), .val (.int (3 : Int32)), .val (.int t0), .val (.int t1), .val (.int t2), .val (.ref b53), .val (.ref b54), .val (.ref r68), .val (.int (1 : Int32))]) rfl k) ?_
          show Goes _ _ _ _ _ _ _ (T73.setTop (mkF m 278 #[.val (.int u0), .val (.int u1), .val (.int u2), .val (.int u3), .val (.int (3 : Int32)), .val (.int t0), .val (.int t1), .val (.int t2), .val (.ref b53), .val (.ref b54), .val (.ref r68), .val (.int (1 : Int32))] []))
          refine Goes.of (fun t k => XS.iload X73.here hx rfl (hb hby at_278) rfl k) ?_
          show Goes _ _ _ _ _ _ _ (T73.setTop (mkF m 280 #[.val (.int u0), .val (.int u1), .val (.int u2), .val (.int u3), .val (.int (3 : Int32)), .val (.int t0), .val (.int t1), .val (.int t2), .val (.ref b53), .val (.ref b54), .val (.ref r68), .val (.int (1 : Int32))] [(.int (1 : Int32))]))
          exact Goes.fin X73 hlk (v := some (.int (1 : Int32))) (fun h => by rw [Bd.returns] at h; cases h) (fun fs hr => retN X73 hx (t := .boolean) Bd.returns (by simp) (hb hby at_280) hr) ⟨rfl, N73⟩ (by decide) (by decide)
      refine Goes.of (fun t k => XS.iloadN X18.here hx rfl (hb hby at_33) rfl k) ?_
      show Goes _ _ _ _ _ _ _ (T18.setTop (mkF m 34 #[.val (.int u0), .val (.int u1), .val (.int u2), .val (.int u3), .val (.int zz), .val (.int t0), .val (.int t1), .unset, .unset, .unset, .unset, .unset] [(.int u0)]))
      refine Goes.of (fun t k => XS.iconst X18.here hx rfl (hb hby at_34) k) ?_
      show Goes _ _ _ _ _ _ _ (T18.setTop (mkF m 35 #[.val (.int u0), .val (.int u1), .val (.int u2), .val (.int u3), .val (.int zz), .val (.int t0), .val (.int t1), .unset, .unset, .unset, .unset, .unset] [(.int (4 : Int32)), (.int u0)]))
      refine Goes.of (fun t k => XS.iand X18.here hx rfl (hb hby at_35) rfl k) ?_
      show Goes _ _ _ _ _ _ _ (T18.setTop (mkF m 36 #[.val (.int u0), .val (.int u1), .val (.int u2), .val (.int u3), .val (.int zz), .val (.int t0), .val (.int t1), .unset, .unset, .unset, .unset, .unset] [(.int (u0 &&& (4 : Int32)))]))
      by_cases hc74 : (u0 &&& (4 : Int32)) = (0 : Int32)
      · refine Goes.of (fun t k => XS.ifYes X18.here hx rfl (pc0 := 36) (pc' := 43) rfl (hb hby at_36) rfl ((if0 _ _).trans (teq hc74).1) (by decide) (by decide) k) ?_
        show Goes _ _ _ _ _ _ _ (T18.setTop (mkF m 43 #[.val (.int u0), .val (.int u1), .val (.int u2), .val (.int u3), .val (.int zz), .val (.int t0), .val (.int t1), .unset, .unset, .unset, .unset, .unset] []))
        refine Goes.of (fun t k => XS.iconst X18.here hx rfl (hb hby at_43) k) ?_
        show Goes _ _ _ _ _ _ _ (T18.setTop (mkF m 44 #[.val (.int u0), .val (.int u1), .val (.int u2), .val (.int u3), .val (.int zz), .val (.int t0), .val (.int t1), .unset, .unset, .unset, .unset, .unset] [(.int (0 : Int32))]))
        refine Goes.of (fun t k => XS.istore X18.here hx rfl (hb hby at_44) rfl (l' := #[.val (.int u0), .val (.int u1), .val (.int u2), .val (.int u3), .val (.int zz), .val (.int t0), .val (.int t1), .val (.int (0 : Int32)), .unset, .unset, .unset, .unset]) rfl k) ?_
        show Goes _ _ _ _ _ _ _ (T18.setTop (mkF m 46 #[.val (.int u0), .val (.int u1), .val (.int u2), .val (.int u3), .val (.int zz), .val (.int t0), .val (.int t1), .val (.int (0 : Int32)), .unset, .unset, .unset, .unset] []))
        exact j19 _ _ (0 : Int32) X18 e18 N18 (Or.inl rfl)
      · refine Goes.of (fun t k => XS.ifNo X18.here hx rfl (hb hby at_36) rfl ((if0 _ _).trans (feq hc74).1) k) ?_
        show Goes _ _ _ _ _ _ _ (T18.setTop (mkF m 39 #[.val (.int u0), .val (.int u1), .val (.int u2), .val (.int u3), .val (.int zz), .val (.int t0), .val (.int t1), .unset, .unset, .unset, .unset, .unset] []))
        refine Goes.of (fun t k => XS.iconst X18.here hx rfl (hb hby at_39) k) ?_
        show Goes _ _ _ _ _ _ _ (T18.setTop (mkF m 40 #[.val (.int u0), .val (.int u1), .val (.int u2), .val (.int u3), .val (.int zz), .val (.int t0), .val (.int t1), .unset, .unset, .unset, .unset, .unset] [(.int (1 : Int32))]))
        refine Goes.of (fun t k => XS.goto X18.here hx rfl (pc0 := 40) (pc' := 44) rfl (hb hby at_40) (by decide) (by decide) k) ?_
        show Goes _ _ _ _ _ _ _ (T18.setTop (mkF m 44 #[.val (.int u0), .val (.int u1), .val (.int u2), .val (.int u3), .val (.int zz), .val (.int t0), .val (.int t1), .unset, .unset, .unset, .unset, .unset] [(.int (1 : Int32))]))
        refine Goes.of (fun t k => XS.istore X18.here hx rfl (hb hby at_44) rfl (l' := #[.val (.int u0), .val (.int u1), .val (.int u2), .val (.int u3), .val (.int zz), .val (.int t0), .val (.int t1), .val (.int (1 : Int32)), .unset, .unset, .unset, .unset]) rfl k) ?_
        show Goes _ _ _ _ _ _ _ (T18.setTop (mkF m 46 #[.val (.int u0), .val (.int u1), .val (.int u2), .val (.int u3), .val (.int zz), .val (.int t0), .val (.int t1), .val (.int (1 : Int32)), .unset, .unset, .unset, .unset] []))
        exact j19 _ _ (1 : Int32) X18 e18 N18 (Or.inr rfl)
    refine Goes.of (fun t k => XS.iloadN X17.here hx rfl (hb hby at_20) rfl k) ?_
    show Goes _ _ _ _ _ _ _ (T17.setTop (mkF m 21 #[.val (.int u0), .val (.int u1), .val (.int u2), .val (.int u3), .val (.int zz), .val (.int t0), .unset, .unset, .unset, .unset, .unset, .unset] [(.int u0)]))
    refine Goes.of (fun t k => XS.iconst X17.here hx rfl (hb hby at_21) k) ?_
    show Goes _ _ _ _ _ _ _ (T17.setTop (mkF m 22 #[.val (.int u0), .val (.int u1), .val (.int u2), .val (.int u3), .val (.int zz), .val (.int t0), .unset, .unset, .unset, .unset, .unset, .unset] [(.int (2 : Int32)), (.int u0)]))
    refine Goes.of (fun t k => XS.iand X17.here hx rfl (hb hby at_22) rfl k) ?_
    show Goes _ _ _ _ _ _ _ (T17.setTop (mkF m 23 #[.val (.int u0), .val (.int u1), .val (.int u2), .val (.int u3), .val (.int zz), .val (.int t0), .unset, .unset, .unset, .unset, .unset, .unset] [(.int (u0 &&& (2 : Int32)))]))
    by_cases hc75 : (u0 &&& (2 : Int32)) = (0 : Int32)
    · refine Goes.of (fun t k => XS.ifYes X17.here hx rfl (pc0 := 23) (pc' := 30) rfl (hb hby at_23) rfl ((if0 _ _).trans (teq hc75).1) (by decide) (by decide) k) ?_
      show Goes _ _ _ _ _ _ _ (T17.setTop (mkF m 30 #[.val (.int u0), .val (.int u1), .val (.int u2), .val (.int u3), .val (.int zz), .val (.int t0), .unset, .unset, .unset, .unset, .unset, .unset] []))
      refine Goes.of (fun t k => XS.iconst X17.here hx rfl (hb hby at_30) k) ?_
      show Goes _ _ _ _ _ _ _ (T17.setTop (mkF m 31 #[.val (.int u0), .val (.int u1), .val (.int u2), .val (.int u3), .val (.int zz), .val (.int t0), .unset, .unset, .unset, .unset, .unset, .unset] [(.int (0 : Int32))]))
      refine Goes.of (fun t k => XS.istore X17.here hx rfl (hb hby at_31) rfl (l' := #[.val (.int u0), .val (.int u1), .val (.int u2), .val (.int u3), .val (.int zz), .val (.int t0), .val (.int (0 : Int32)), .unset, .unset, .unset, .unset, .unset]) rfl k) ?_
      show Goes _ _ _ _ _ _ _ (T17.setTop (mkF m 33 #[.val (.int u0), .val (.int u1), .val (.int u2), .val (.int u3), .val (.int zz), .val (.int t0), .val (.int (0 : Int32)), .unset, .unset, .unset, .unset, .unset] []))
      exact j18 _ _ (0 : Int32) X17 e17 N17 (Or.inl rfl)
    · refine Goes.of (fun t k => XS.ifNo X17.here hx rfl (hb hby at_23) rfl ((if0 _ _).trans (feq hc75).1) k) ?_
      show Goes _ _ _ _ _ _ _ (T17.setTop (mkF m 26 #[.val (.int u0), .val (.int u1), .val (.int u2), .val (.int u3), .val (.int zz), .val (.int t0), .unset, .unset, .unset, .unset, .unset, .unset] []))
      refine Goes.of (fun t k => XS.iconst X17.here hx rfl (hb hby at_26) k) ?_
      show Goes _ _ _ _ _ _ _ (T17.setTop (mkF m 27 #[.val (.int u0), .val (.int u1), .val (.int u2), .val (.int u3), .val (.int zz), .val (.int t0), .unset, .unset, .unset, .unset, .unset, .unset] [(.int (1 : Int32))]))
      refine Goes.of (fun t k => XS.goto X17.here hx rfl (pc0 := 27) (pc' := 31) rfl (hb hby at_27) (by decide) (by decide) k) ?_
      show Goes _ _ _ _ _ _ _ (T17.setTop (mkF m 31 #[.val (.int u0), .val (.int u1), .val (.int u2), .val (.int u3), .val (.int zz), .val (.int t0), .unset, .unset, .unset, .unset, .unset, .unset] [(.int (1 : Int32))]))
      refine Goes.of (fun t k => XS.istore X17.here hx rfl (hb hby at_31) rfl (l' := #[.val (.int u0), .val (.int u1), .val (.int u2), .val (.int u3), .val (.int zz), .val (.int t0), .val (.int (1 : Int32)), .unset, .unset, .unset, .unset, .unset]) rfl k) ?_
      show Goes _ _ _ _ _ _ _ (T17.setTop (mkF m 33 #[.val (.int u0), .val (.int u1), .val (.int u2), .val (.int u3), .val (.int zz), .val (.int t0), .val (.int (1 : Int32)), .unset, .unset, .unset, .unset, .unset] []))
      exact j18 _ _ (1 : Int32) X17 e17 N17 (Or.inr rfl)
  refine Goes.of (fun t k => XS.iloadN X0.here hx rfl (hb hby at_7) rfl k) ?_
  show Goes _ _ _ _ _ _ _ (s₁.setTop (mkF m 8 #[.val (.int u0), .val (.int u1), .val (.int u2), .val (.int u3), .val (.int zz), .unset, .unset, .unset, .unset, .unset, .unset, .unset] [(.int u0)]))
  refine Goes.of (fun t k => XS.iconst X0.here hx rfl (hb hby at_8) k) ?_
  show Goes _ _ _ _ _ _ _ (s₁.setTop (mkF m 9 #[.val (.int u0), .val (.int u1), .val (.int u2), .val (.int u3), .val (.int zz), .unset, .unset, .unset, .unset, .unset, .unset, .unset] [(.int (1 : Int32)), (.int u0)]))
  refine Goes.of (fun t k => XS.iand X0.here hx rfl (hb hby at_9) rfl k) ?_
  show Goes _ _ _ _ _ _ _ (s₁.setTop (mkF m 10 #[.val (.int u0), .val (.int u1), .val (.int u2), .val (.int u3), .val (.int zz), .unset, .unset, .unset, .unset, .unset, .unset, .unset] [(.int (u0 &&& (1 : Int32)))]))
  by_cases hc76 : (u0 &&& (1 : Int32)) = (0 : Int32)
  · refine Goes.of (fun t k => XS.ifYes X0.here hx rfl (pc0 := 10) (pc' := 17) rfl (hb hby at_10) rfl ((if0 _ _).trans (teq hc76).1) (by decide) (by decide) k) ?_
    show Goes _ _ _ _ _ _ _ (s₁.setTop (mkF m 17 #[.val (.int u0), .val (.int u1), .val (.int u2), .val (.int u3), .val (.int zz), .unset, .unset, .unset, .unset, .unset, .unset, .unset] []))
    refine Goes.of (fun t k => XS.iconst X0.here hx rfl (hb hby at_17) k) ?_
    show Goes _ _ _ _ _ _ _ (s₁.setTop (mkF m 18 #[.val (.int u0), .val (.int u1), .val (.int u2), .val (.int u3), .val (.int zz), .unset, .unset, .unset, .unset, .unset, .unset, .unset] [(.int (0 : Int32))]))
    refine Goes.of (fun t k => XS.istore X0.here hx rfl (hb hby at_18) rfl (l' := #[.val (.int u0), .val (.int u1), .val (.int u2), .val (.int u3), .val (.int zz), .val (.int (0 : Int32)), .unset, .unset, .unset, .unset, .unset, .unset]) rfl k) ?_
    show Goes _ _ _ _ _ _ _ (s₁.setTop (mkF m 20 #[.val (.int u0), .val (.int u1), .val (.int u2), .val (.int u3), .val (.int zz), .val (.int (0 : Int32)), .unset, .unset, .unset, .unset, .unset, .unset] []))
    exact j17 _ _ (0 : Int32) X0 e0 N0 (Or.inl rfl)
  · refine Goes.of (fun t k => XS.ifNo X0.here hx rfl (hb hby at_10) rfl ((if0 _ _).trans (feq hc76).1) k) ?_
    show Goes _ _ _ _ _ _ _ (s₁.setTop (mkF m 13 #[.val (.int u0), .val (.int u1), .val (.int u2), .val (.int u3), .val (.int zz), .unset, .unset, .unset, .unset, .unset, .unset, .unset] []))
    refine Goes.of (fun t k => XS.iconst X0.here hx rfl (hb hby at_13) k) ?_
    show Goes _ _ _ _ _ _ _ (s₁.setTop (mkF m 14 #[.val (.int u0), .val (.int u1), .val (.int u2), .val (.int u3), .val (.int zz), .unset, .unset, .unset, .unset, .unset, .unset, .unset] [(.int (1 : Int32))]))
    refine Goes.of (fun t k => XS.goto X0.here hx rfl (pc0 := 14) (pc' := 18) rfl (hb hby at_14) (by decide) (by decide) k) ?_
    show Goes _ _ _ _ _ _ _ (s₁.setTop (mkF m 18 #[.val (.int u0), .val (.int u1), .val (.int u2), .val (.int u3), .val (.int zz), .unset, .unset, .unset, .unset, .unset, .unset, .unset] [(.int (1 : Int32))]))
    refine Goes.of (fun t k => XS.istore X0.here hx rfl (hb hby at_18) rfl (l' := #[.val (.int u0), .val (.int u1), .val (.int u2), .val (.int u3), .val (.int zz), .val (.int (1 : Int32)), .unset, .unset, .unset, .unset, .unset, .unset]) rfl k) ?_
    show Goes _ _ _ _ _ _ _ (s₁.setTop (mkF m 20 #[.val (.int u0), .val (.int u1), .val (.int u2), .val (.int u3), .val (.int zz), .val (.int (1 : Int32)), .unset, .unset, .unset, .unset, .unset, .unset] []))
    exact j17 _ _ (1 : Int32) X0 e0 N0 (Or.inr rfl)
set_option maxRecDepth 65536 in
set_option maxHeartbeats 40000000 in
theorem comes_1 {Post : Tables → Env → Array Value → State → Outcome → State → Prop} (hpost : ∀ tb e args s v u, (limb_1_1.after args s (.returned v) u = true ∧ limb_1_2.after args s (.returned v) u = true ∧ True) → FrameEnd s (.returned v) u (Jvm.fieldLocs frame_1_writes args s ++ Jvm.arrayLocs frame_1_arrays args s ++ Jvm.staticLocs frame_1_statics s) 16 128 → Post tb e args s (.returned v) u) :
    ArmFor flags0 classFile x code maxLocals ret World_1 tables_1 room_1 Calls_1 rest_1 Pre_1 Post := by
  intro l hfl _ _ p e ha hc hk s m args below hf hA hF happ hP
  obtain ⟨hcalls, hrest, hpre⟩ := hP
  obtain ⟨-, -, -, hnamed, -, -, -, hat⟩ := (Spec.applies_iff hf).mp happ
  obtain ⟨hg, hn⟩ := and_e (Cond.before_iff.mp (show (Jvm.Cond.and given_1 narrow_1).before args s = true from hpre))
  obtain ⟨g77, g78⟩ := and_e hg
  obtain ⟨g79, g80⟩ := and_e g78
  obtain ⟨g81, g82⟩ := and_e g80
  obtain ⟨g83, g84⟩ := and_e g82
  obtain ⟨w0, w1, w2, w3, rfl⟩ : ∃ w0 w1 w2 w3 : Value, args = #[w0, w1, w2, w3] := by
    have hs : args.size = 4 := by simpa [Cond.value, given_1] using g77
    obtain ⟨L⟩ := args
    match L, hs with
    | [w0, w1, w2, w3], _ => exact ⟨w0, w1, w2, w3, rfl⟩
  have hw := fun d (hd : d ∈ tables_1) => atoms_spec (ws := Jvm.Cond.code x code maxLocals ret :: tables_1) hat d (List.mem_cons_of_mem _ hd)
  obtain ⟨i0, ei0⟩ := is_v g79
  obtain rfl : w0 = (.int i0) := Option.some.inj ei0
  obtain ⟨i1, ei1⟩ := is_v g81
  obtain rfl : w1 = (.int i1) := Option.some.inj ei1
  obtain ⟨i2, ei2⟩ := is_v g83
  obtain rfl : w2 = (.int i2) := Option.some.inj ei2
  obtain ⟨i3, ei3⟩ := is_v g84
  obtain rfl : w3 = (.int i3) := Option.some.inj ei3
  obtain ⟨n, o, h1, h2, h3, _, L, rfl, ⟨rfl, N⟩, hq⟩ := rm0 l s _ hw tables_1 i0 i1 i2 i3 s.heap s.heap.size (Nat.le_refl _) p e ha hc hk s m _ below hf ((Spec.applies_iff_loose hf).mp happ).1 ⟨rfl, State.Warmed39.refl s, rfl⟩ trivial
  exact ⟨n, _, h1, h2, h3, hpost _ _ _ _ _ _ ⟨Cond.after_iff.mpr rfl, Cond.after_iff.mpr (eq_i res_at (Term.int_eval (1)) rfl), trivial⟩ ⟨hq.1, hq.2.1, (hq.2.2.sift fun y hy => Or.inr (N y hy)).mono (by decide) (by decide)⟩⟩
theorem main_1_1 : Claimed_1_1 := comes_1 fun _ _ _ _ _ _ h hF => ⟨h.1, hF⟩
theorem main_1_2 : Claimed_1_2 := comes_1 fun _ _ _ _ _ _ h hF => ⟨h.2.1, hF⟩
end Jvm.Pilot.@@N@@
namespace Jvm.Pilot.@@N@@
open Jvm Jvm.ClassFile Sem Op Lib Jvm.Free Jvm.Stand Jvm.Pilot.@@N@@.Jvm.D
/-! MADE BY PROGRAM (witnessworld.py) out of the Statement's table words and the real class files: 11 classes; the members and pool entries that the words name. The judged class is class 1, her method 1. -/
namespace start1
open Jvm.ClassFile
def u (s : String) : CpInfo := .utf8 (stringToUtf16 s)
/-- a pool by its gaps: so many unusable entries, then the entry; so many at the end -/
def gap : Nat → List CpInfo → List CpInfo
  | 0, r => r
  | n + 1, r => .unusable :: gap n r
def poolList (es : List (Nat × CpInfo)) (last : Nat) : List CpInfo := es.foldr (fun e r => gap e.1 (e.2 :: r)) (gap last [])
def pool (es : List (Nat × CpInfo)) (last : Nat) : Array CpInfo := ⟨poolList es last⟩
def fileOf (pool : Array CpInfo) (this : Nat) (attrs : Array Attribute := #[]) (ms : Array MethodInfo := #[]) (fl : Nat := 33) (sup : Nat := 0) (ifs : Array Nat := #[]) (fds : Array FieldInfo := #[]) : ClassFile where
  minorVersion := 0
  majorVersion := 65
  constantPool := pool
  accessFlags := fl
  thisClass := this
  superClass := sup
  interfaces := ifs
  fields := fds
  methods := ms
  attributes := attrs
def plain (name : String) (sup : Option ClassId) : Class where
  name := name
  kind := .ordinary
  loader := none
  accessFlags := 33
  super := sup
  interfaces := #[]
  cf := none
  fields := #[]
  methods := #[]
  instanceTypes := #[]
  staticTypes := #[]
  resolved := #[]
  callSites := []
  init := .initialized
  statics := none
  mirror := none

def pool0 : Array CpInfo := pool [(5, u "<init>"), (0, u "()V"), (1, .class_ 10), (1, u "java/lang/Object")] 113

def k0m0 : Method := { name := "<init>", desc := "()V", sig := { parameters := [], returnType := none }, accessFlags := 1, code := none }
/-- java/lang/Object -/
def k0 : Class := { plain "java/lang/Object" none with
  accessFlags := 33
  interfaces := #[]
  cf := some (fileOf pool0 8 #[] #[{ accessFlags := 1, nameIndex := 5, descriptorIndex := 6, attributes := #[] }] 33 0 #[] #[])
  fields := #[]
  methods := #[k0m0]
  instanceTypes := #[]
  staticTypes := #[]
  resolved := Array.replicate 124 none
  statics := none }

def pool1 : Array CpInfo := pool [(2, .class_ 4), (1, u "java/lang/Object"), (0, u "<init>"), (0, u "()V"), (0, .methodref 8 9), (0, .class_ 10), (0, .nameAndType 11 12), (0, u "com/example/network_attack_odds/networkattackodds/engine/GoalGraph"), (0, u "reached"), (0, u "([Z[I)[Z"), (0, .methodref 14 15), (0, .class_ 16), (0, .nameAndType 17 18), (0, u "com/example/network_attack_odds/networkattackodds/engine/GoalGraphReachedPinLaw"), (0, u "expected"), (0, u "(ZI)Z"), (2, u "law"), (0, u "(IIII)Z")] 7

def k1m0 : Method := { name := "<init>", desc := "()V", sig := { parameters := [], returnType := none }, accessFlags := 1, code := none }
def k1c1 : Code := { maxStack := 3, maxLocals := 12, code := code, exceptionTable := #[], attributes := #[] }
def k1m1 : Method := { name := "law", desc := "(IIII)Z", sig := { parameters := [.int, .int, .int, .int], returnType := some .boolean }, accessFlags := 9, code := some k1c1 }
def k1c2 : Code := { maxStack := 1, maxLocals := 2, code := method_3_code, exceptionTable := #[], attributes := #[] }
def k1m2 : Method := { name := "expected", desc := "(ZI)Z", sig := { parameters := [.boolean, .int], returnType := some .boolean }, accessFlags := 10, code := some k1c2 }
/-- com/example/network_attack_odds/networkattackodds/engine/GoalGraphReachedPinLaw -/
def k1 : Class := { plain "com/example/network_attack_odds/networkattackodds/engine/GoalGraphReachedPinLaw" (some 0) with
  accessFlags := 49
  interfaces := #[]
  cf := some (fileOf pool1 14 #[] #[{ accessFlags := 1, nameIndex := 5, descriptorIndex := 6, attributes := #[] }, { accessFlags := 9, nameIndex := 21, descriptorIndex := 22, attributes := #[] }, { accessFlags := 10, nameIndex := 17, descriptorIndex := 18, attributes := #[] }] 49 2 #[] #[])
  fields := #[]
  methods := #[k1m0, k1m1, k1m2]
  instanceTypes := #[]
  staticTypes := #[]
  resolved := Array.replicate 30 none
  statics := none }

def pool2 : Array CpInfo := pool [(2, .class_ 4), (1, u "java/lang/Object"), (3, .class_ 10), (1, u "com/example/network_attack_odds/networkattackodds/engine/GoalGraph"), (0, u "space"), (0, u "Lcom/example/network_attack_odds/networkattackodds/engine/StateSpace;"), (8, u "starts"), (0, u "[I"), (9, u "sources"), (2, u "sourceChoices"), (49, u "reached"), (0, u "([Z[I)[Z")] 45

def k2c0 : Code := { maxStack := 4, maxLocals := 4, code := prog_34_method_13_code, exceptionTable := #[], attributes := #[] }
def k2m0 : Method := { name := "reached", desc := "([Z[I)[Z", sig := { parameters := [(.array .boolean), (.array .int)], returnType := some (.array .boolean) }, accessFlags := 8, code := some k2c0 }
/-- com/example/network_attack_odds/networkattackodds/engine/GoalGraph -/
def k2 : Class := { plain "com/example/network_attack_odds/networkattackodds/engine/GoalGraph" (some 0) with
  accessFlags := 32
  interfaces := #[]
  cf := some (fileOf pool2 8 #[] #[{ accessFlags := 8, nameIndex := 85, descriptorIndex := 86, attributes := #[] }] 32 2 #[] #[{ accessFlags := 18, nameIndex := 11, descriptorIndex := 12, attributes := #[] }, { accessFlags := 18, nameIndex := 21, descriptorIndex := 22, attributes := #[] }, { accessFlags := 18, nameIndex := 32, descriptorIndex := 22, attributes := #[] }, { accessFlags := 18, nameIndex := 35, descriptorIndex := 22, attributes := #[] }])
  fields := #[{ name := "space", type := (.object "com/example/network_attack_odds/networkattackodds/engine/StateSpace"), accessFlags := 18, slot := 0, constantValue := 0 }, { name := "starts", type := (.array .int), accessFlags := 18, slot := 1, constantValue := 0 }, { name := "sources", type := (.array .int), accessFlags := 18, slot := 2, constantValue := 0 }, { name := "sourceChoices", type := (.array .int), accessFlags := 18, slot := 3, constantValue := 0 }]
  methods := #[k2m0]
  instanceTypes := #[(.object "com/example/network_attack_odds/networkattackodds/engine/StateSpace"), (.array .int), (.array .int), (.array .int)]
  staticTypes := #[]
  resolved := Array.replicate 132 none
  statics := none }

def pool3 : Array CpInfo := pool [(1, u "java/lang/Cloneable"), (0, .class_ 1), (0, u "java/lang/Object"), (0, .class_ 3)] 3

/-- java/lang/Cloneable -/
def k3 : Class := { plain "java/lang/Cloneable" (some 0) with
  accessFlags := 1537
  interfaces := #[]
  cf := some (fileOf pool3 2 #[] #[] 1537 4 #[] #[])
  fields := #[]
  methods := #[]
  instanceTypes := #[]
  staticTypes := #[]
  resolved := Array.replicate 8 none
  statics := none }

def pool4 : Array CpInfo := pool [(1, u "java/io/Serializable"), (0, .class_ 1), (0, u "java/lang/Object"), (0, .class_ 3)] 3

/-- java/io/Serializable -/
def k4 : Class := { plain "java/io/Serializable" (some 0) with
  accessFlags := 1537
  interfaces := #[]
  cf := some (fileOf pool4 2 #[] #[] 1537 4 #[] #[])
  fields := #[]
  methods := #[]
  instanceTypes := #[]
  staticTypes := #[]
  resolved := Array.replicate 8 none
  statics := none }

/-- the primitive boolean -/
def k5 : Class := { plain "boolean" none with kind := .primitive 'Z', accessFlags := 0x411 }
/-- [Z -/
def k6 : Class := { plain "[Z" (some 0) with kind := .array 5 .boolean, interfaces := #[3, 4], accessFlags := 1041 }

/-- the primitive byte -/
def k7 : Class := { plain "byte" none with kind := .primitive 'B', accessFlags := 0x411 }
/-- [B -/
def k8 : Class := { plain "[B" (some 0) with kind := .array 7 .byte, interfaces := #[3, 4], accessFlags := 1041 }

/-- the primitive int -/
def k9 : Class := { plain "int" none with kind := .primitive 'I', accessFlags := 0x411 }
/-- [I -/
def k10 : Class := { plain "[I" (some 0) with kind := .array 9 .int, interfaces := #[3, 4], accessFlags := 1041 }

def heap : Heap := #[]
def classes : Array Class := #[k0, k1, k2, k3, k4, k5, k6, k7, k8, k9, k10]
def interned : List (Array UInt16 × Addr) := []
def slotsUsed : Nat := 0
def theMethod : MethodId := ⟨1, 1⟩
def args0 : Array Value := #[.int 29, .int 7, .int 3, .int 4]
def aboutOver (below : List Frame) : State where
  vm := { classes := classes, interned := interned.toArray }
  heap := heap
  slotsUsed := slotsUsed
  threads := #[{ frames := .invoking theMethod args0 :: below }]
def below0 : List Frame := [.native { method := ⟨0, 0⟩, args := #[] }]
def about1 : State := aboutOver below0
def p0 : Program := .bare "" "" ""
def e0 : Env := launch0.env 0 0 0
theorem w_frames : about1.frames = Frame.invoking theMethod args0 :: below0 := rfl
set_option maxRecDepth 65536 in
theorem w_args : argsFit about1.vm theMethod args0 = true := by decide +kernel
set_option maxRecDepth 65536 in
theorem w_heap : heapFits about1 = true := by decide +kernel
set_option maxRecDepth 65536 in
theorem w_runnable : about1.curStatus? = some .runnable := by decide +kernel
set_option maxRecDepth 65536 in
theorem w_alone : about1.alone = true := by decide +kernel
set_option maxRecDepth 65536 in
theorem w_named : about1.methodNamed? x = some theMethod := by decide +kernel
set_option maxRecDepth 65536 in
theorem w_hears : about1.hears theMethod below0 = true := by decide +kernel
set_option maxRecDepth 65536 in
theorem w_ripe : about1.ripe theMethod args0 below0 = true := by decide +kernel
theorem w_running : about1.status = .running := rfl
set_option maxRecDepth 65536 in
theorem w_room : about1.hasRoom e0.platform room_1 = true :=
  launch0.hasRoom_least _ room_1 (by decide +kernel) (by decide +kernel) (by decide +kernel) (by decide +kernel) (by decide +kernel) (by decide +kernel)
theorem allAtoms_all (ts : List Jvm.Cond) (a : Array Jvm.Value) (st : Jvm.State) : (allAtoms ts).before a st = ts.all (fun c => c.before a st) := by
  induction ts with
  | nil => rfl
  | cons c t ih =>
    show (Jvm.Cond.and c (allAtoms t)).before a st = _
    rw [Jvm.Cond.before_and, ih, List.all_cons]
def words1 : List Jvm.Cond := Jvm.Cond.code x code maxLocals ret :: tables_1
/-- a 'code' word, met by the world's own term for the bytes: nothing is compared byte by byte -/
theorem code_word {y : MethodName} {bytes : ByteArray} {mx : Nat} {rt : Option FieldType} {a : Array Value} {s : State} {m : MethodId} {meth : Method} {c : Code} (h1 : s.methodNamed? y = some m) (h2 : s.vm.method? m = some meth) (h3 : meth.code = some c) (h4 : c.code = bytes)
    (h5 : (c.maxLocals == mx && c.exceptionTable.isEmpty && decide (c.maxStack ≤ mostOperands) && decide (meth.sig.returnType = rt) && !meth.locks && decide (parseMethodDescriptor y.desc = some meth.sig)) = true) : (Jvm.Cond.code y bytes mx rt).before a s = true := by
  simp only [Bool.and_eq_true, beq_iff_eq, Bool.not_eq_true', decide_eq_true_eq] at h5
  obtain ⟨⟨⟨⟨⟨g1, g2⟩, g3⟩, g4⟩, g5⟩, g6⟩ := h5
  simp [Cond.before, Cond.holds, Cond.value, h1, h2, h3, h4, g1, g2, g3, g4, g5, g6]
def isCode : Jvm.Cond → Bool
  | .code _ _ _ _ => true
  | _ => false
theorem all_split {L : List Jvm.Cond} {P : Jvm.Cond → Bool} (h1 : L.all (fun c => isCode c || P c) = true) (h2 : ∀ c ∈ L.filter isCode, P c = true) : L.all P = true := by
  refine List.all_eq_true.mpr fun c hc => ?_
  have h := List.all_eq_true.mp h1 c hc
  rcases Bool.eq_false_or_eq_true (isCode c) with hi | hi
  · exact h2 c (List.mem_filter.mpr ⟨hc, hi⟩)
  · simpa [hi] using h
set_option maxRecDepth 65536 in
theorem w_c0 : (Jvm.Cond.code x code maxLocals ret).before args0 about1 = true := code_word (m := ⟨1, 1⟩) (meth := k1m1) (c := k1c1) (by decide +kernel) rfl rfl rfl (by decide +kernel)
set_option maxRecDepth 65536 in
theorem w_c1 : (Jvm.Cond.code ({ cls := "com/example/network_attack_odds/networkattackodds/engine/GoalGraph", name := "reached", desc := "([Z[I)[Z" } : Jvm.MethodName) prog_34_method_13_code (4 : Nat) (Option.some (Jvm.ClassFile.FieldType.array Jvm.ClassFile.FieldType.boolean))).before args0 about1 = true := code_word (m := ⟨2, 0⟩) (meth := k2m0) (c := k2c0) (by decide +kernel) rfl rfl rfl (by decide +kernel)
set_option maxRecDepth 65536 in
theorem w_c2 : (Jvm.Cond.code ({ cls := "com/example/network_attack_odds/networkattackodds/engine/GoalGraphReachedPinLaw", name := "expected", desc := "(ZI)Z" } : Jvm.MethodName) method_3_code (2 : Nat) (Option.some Jvm.ClassFile.FieldType.boolean)).before args0 about1 = true := code_word (m := ⟨1, 2⟩) (meth := k1m2) (c := k1c2) (by decide +kernel) rfl rfl rfl (by decide +kernel)
def codes1 : List Jvm.Cond := [Jvm.Cond.code x code maxLocals ret, Jvm.Cond.code ({ cls := "com/example/network_attack_odds/networkattackodds/engine/GoalGraph", name := "reached", desc := "([Z[I)[Z" } : Jvm.MethodName) prog_34_method_13_code (4 : Nat) (Option.some (Jvm.ClassFile.FieldType.array Jvm.ClassFile.FieldType.boolean)), Jvm.Cond.code ({ cls := "com/example/network_attack_odds/networkattackodds/engine/GoalGraphReachedPinLaw", name := "expected", desc := "(ZI)Z" } : Jvm.MethodName) method_3_code (2 : Nat) (Option.some Jvm.ClassFile.FieldType.boolean)]
set_option maxRecDepth 65536 in
theorem codes_eq : words1.filter isCode = codes1 := rfl
theorem w_codes : ∀ c ∈ words1.filter isCode, c.before args0 about1 = true := by
  rw [codes_eq]
  intro c hc
  simp only [codes1, List.mem_cons, List.not_mem_nil, or_false] at hc
  rcases hc with rfl | rfl | rfl
  · exact w_c0
  · exact w_c1
  · exact w_c2
set_option maxRecDepth 65536 in
theorem w_t1 : words1.all (fun c => isCode c || c.before args0 about1) = true := by decide +kernel
theorem w_tables : (allAtoms (Jvm.Cond.code x code maxLocals ret :: tables_1)).before args0 about1 = true := by
  rw [allAtoms_all]
  show words1.all (fun c => c.before args0 about1) = true
  refine all_split ?_ w_codes
  rw [w_t1]
set_option maxRecDepth 65536 in
theorem w_case : (Jvm.Cond.and given_1 narrow_1).before args0 about1 = true := by decide +kernel
theorem w_applies : (headSpec (Jvm.Cond.code x code maxLocals ret :: tables_1) room_1).applies x e0.platform about1 = true :=
  (Spec.applies_iff w_frames).mpr ⟨w_running, w_runnable, w_alone, w_named, w_hears, w_ripe, w_room, w_tables⟩
theorem atStart : AtStart classFile x code maxLocals ret World_1 tables_1 room_1 Calls_1 rest_1 Pre_1 launch0 p0 e0 about1 theMethod args0 below0 :=
  ⟨lists_1, trivial, launch0.admits_env _ _ _, launch0.least_env, fairChoices_fair.cas, fairChoices_fair.clock, w_frames, w_args, w_heap, w_applies, trivial, trivial, w_case⟩
end start1
theorem witness_1 : WitnessClaimed_1 := ⟨start1.p0, start1.e0, start1.about1, start1.theMethod, start1.args0, start1.below0, start1.atStart⟩
end Jvm.Pilot.@@N@@
