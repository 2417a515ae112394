import JvmDerived
import JvmDerived.Pilot.@@N@@Statement
import JvmDerived.Pilot.@@N@@Code
set_option linter.unusedVariables false
set_option linter.unusedSimpArgs false
namespace Jvm.RoadKit
open Sem ClassFile Op Lib Jvm.Stand Jvm.Free Jvm.LawKit
section New
variable {p : Program} {l : Launch} {e : Env} {R : Room} {s : State} {m : MethodId} {args : Array Value} {below : List Frame} {meth : Method} {c : Code} {T : State} {locs : List Loc} {cells slots : Nat}
theorem retI (X : Stand p l e R s m args below meth c T locs cells slots) (hx : p.tables.exec = Jvm.exec) {pc : Nat} {Ls : Array Slot} {z : Int32} {rest : List Value} (hret : meth.sig.returnType = some .int) (hd : decode c.code pc = .ok (.ireturn, 1)) {fs : List Frame}
    (hl : ∀ (f : JFrame) (acts : List Action), f.method = m → f.locked = none → f.entered = [] → (doReturn e (T.setTop f) acts (some (.int z))).1 = T.setFrames fs) : Steps p.tables e below (T.setTop (mkF m pc Ls (.int z :: rest))) (T.setFrames fs) := by
  have hm' : T.vm.method? m = some meth := X.method'
  have hn : narrow .int (.int z) = .int z := rfl
  show Steps p.tables e below (T.setTop { method := m, pc := pc, locals := Ls, stack := _ :: rest, locked := none }) _
  jvm_step X.here [X.here.top, hx, hd, hm', hret, hn]
  first | (intro acts; rw [hl _ acts rfl rfl rfl]) | rw [hl _ _ rfl rfl rfl]
  exact Steps.refl _
end New
end Jvm.RoadKit
namespace Jvm.Pilot.@@N@@
open Jvm Jvm.ClassFile Sem Op Lib Jvm.Free Jvm.Stand Jvm.LawKit Jvm.RoadKit Bundle Jvm.Pilot.@@N@@.Jvm.D
section OwnKit
variable {p : Program} {l : Launch} {e : Env} {R : Room} {s : State} {m : MethodId} {args : Array Value} {below : List Frame} {meth : Method} {c : Code} {T : State} {locs : List Loc} {cells slots : Nat}
/-- from S the run comes to a return of which F holds -/
def Goes (tb : Tables) (e : Env) (below : List Frame) (s : State) (F : Option Value → Heap → List Loc → Prop) (k n : Nat) (S : State) : Prop :=
  ∃ s₂ o, Steps tb e below S s₂ ∧ s₂.status = .running ∧ Ended s₂ below o ∧ ∃ v L, o = .returned v ∧ F v s₂.heap L ∧ FrameEnd s o s₂ L k n
theorem Goes.of {tb : Tables} {F : Option Value → Heap → List Loc → Prop} {k n : Nat} {S S' : State} (h : ∀ t, Steps tb e below S' t → Steps tb e below S t) (g : Goes tb e below s F k n S') : Goes tb e below s F k n S := by
  obtain ⟨s₂, o, h1, r⟩ := g
  exact ⟨s₂, o, h _ h1, r⟩
theorem Goes.mono {tb : Tables} {F G : Option Value → Heap → List Loc → Prop} {k n : Nat} {S : State} (h : ∀ v h L, F v h L → G v h L) (g : Goes tb e below s F k n S) : Goes tb e below s G k n S := by
  obtain ⟨s₂, o, h1, h2, h3, v, L, h4, h5, h6⟩ := g
  exact ⟨s₂, o, h1, h2, h3, v, L, h4, h _ _ _ h5, h6⟩
theorem Goes.fin (X : Stand p l e R s m args below meth c T locs cells slots) (hlk : meth.locks = false) {v : Option Value} {F : Option Value → Heap → List Loc → Prop} {k n : Nat} {S : State} (hv : meth.sig.returnType = none → v = none)
    (step : ∀ fs, (∀ (f : JFrame) (acts : List Action), f.method = m → f.locked = none → f.entered = [] → (doReturn e (T.setTop f) acts v).1 = T.setFrames fs) → Steps p.tables e below S (T.setFrames fs)) (hF : F v T.heap locs) (hk : cells ≤ k) (hn : slots ≤ n) : Goes p.tables e below s F k n S := by
  obtain ⟨fs, hr, hrun, hended, hW, hsame⟩ := X.leave hv hlk
  exact ⟨_, _, step fs hr, hrun, hended, v, locs, rfl, hF, ⟨_, rfl⟩, hW, hsame.mono hk hn⟩
end OwnKit
section OwnArr
variable {p : Program} {l : Launch} {e : Env} {R : Room} {s : State} {m : MethodId} {args : Array Value} {below : List Frame} {meth : Method} {c : Code} {T : State} {locs : List Loc} {cells slots : Nat} {Z : State} {h h' : Heap} {a b : Addr} {ty : FieldType} {n i : Nat} {f : Nat → Int32} {ws : List Addr} {sl : Nat} {w : Value}
/-- at a stands an array of n places; place j holds f j -/
def AI (Z : State) (h : Heap) (a : Addr) (ty : FieldType) (n : Nat) (f : Nat → Int32) : Prop :=
  ∃ c : Cell, Arr Z h a c ty ∧ c.slots.size = n ∧ n < 2147483648 ∧ ∀ j, j < n → c.slots[j]? = some (.int (f j)) ∧ fits ty (.int (f j)) = true
def upd (f : Nat → Int32) (i : Nat) (v : Int32) : Nat → Int32 := fun j => if j = i then v else f j
theorem AI.lt (F : AI Z h a ty n f) : a < h.size := by obtain ⟨c, A, -⟩ := F; exact A.lt
theorem AI.ext (F : AI Z h a ty n f) (E : Ext h h') : AI Z h' a ty n f := by obtain ⟨c, A, r⟩ := F; exact ⟨c, A.ext E, r⟩
theorem AI.other (F : AI Z h a ty n f) (W : Wr h h' b sl w) (q : a ≠ b) : AI Z h' a ty n f := by obtain ⟨c, A, r⟩ := F; exact ⟨c, A.other W q, r⟩
theorem AI.keep (F : AI Z h a ty n f) (K : Keep h h' ws) (q : a ∉ ws) : AI Z h' a ty n f := by obtain ⟨c, A, r⟩ := F; exact ⟨c, ⟨K.2.1 a c A.1 q, A.2⟩, r⟩
theorem AI.congr {f' : Nat → Int32} (F : AI Z h a ty n f) (q : ∀ j, j < n → f j = f' j) : AI Z h a ty n f' := by
  obtain ⟨c, A, S, M, H⟩ := F
  exact ⟨c, A, S, M, fun j hj => by rw [← q j hj]; exact H j hj⟩
theorem AI.fits (F : AI Z h a ty n f) {j : Nat} (hj : j < n) : Jvm.fits ty (.int (f j)) = true := by
  obtain ⟨c, A, S, M, H⟩ := F
  exact (H j hj).2
theorem AI.new {cA : ClassId} {z : Int32} (hd : defaultValue ty = .int 0) (hf : Jvm.fits ty (.int 0) = true) (A : Arr Z h a (newA cA ty z) ty) (q : ¬ z < 0) (hn : z.toNatClampNeg = n) : AI Z h a ty n (fun _ => 0) := by
  subst hn
  refine ⟨_, A, sz_new _ _ _, (back32 q).2, fun j hj => ⟨?_, hf⟩⟩
  show (Array.replicate z.toNatClampNeg (defaultValue ty))[j]? = _
  rw [hd, Array.getElem?_replicate, if_pos hj]
theorem AI.set {v : Int32} (F : AI Z h a ty n f) (W : Wr h h' a i (.int v)) (hv : Jvm.fits ty (.int v) = true) : AI Z h' a ty n (upd f i v) := by
  obtain ⟨c, A, S, M, H⟩ := F
  refine ⟨c.setSlot i (.int v), A.same W, by rw [sz_set]; exact S, M, fun j hj => ?_⟩
  show (c.slots.setIfInBounds i (.int v))[j]? = _ ∧ _
  by_cases q : j = i
  · subst q
    rw [Array.getElem?_setIfInBounds_self_of_lt (by omega)]
    have e : upd f j v j = v := if_pos rfl
    rw [e]; exact ⟨rfl, hv⟩
  · rw [Array.getElem?_setIfInBounds_ne (Ne.symm q)]
    have e : upd f i v j = f j := if_neg q
    rw [e]; exact H j hj
theorem own_nn {j : Int32} (h : 0 ≤ j.toInt) : ¬ j < 0 := by
  rw [Int32.lt_iff_toInt_lt, show (0 : Int32).toInt = 0 from rfl]; omega
theorem own_ltn {j : Int32} {n : Nat} (h0 : 0 ≤ j.toInt) (h : j.toInt < n) : j.toNatClampNeg < n := by
  simp only [Int32.toNatClampNeg]; omega
theorem own_tn {z : Int32} {n : Nat} (h : z.toInt = n) : z.toNatClampNeg = n := by
  simp only [Int32.toNatClampNeg]; omega
theorem own_inc {i : Int32} (h : i.toInt < 2147483647) : (i + (1 : Int32)).toInt = i.toInt + 1 := by
  have a := c_iadd i 1
  have r := rng32 (i + 1)
  have r2 := rng32 i
  rw [show (1 : Int32).toInt = 1 from rfl] at a
  omega
theorem own_ilt {a b : Int32} (h : a.toInt < b.toInt) : a < b := by rw [Int32.lt_iff_toInt_lt]; exact h
theorem own_nlt {a b : Int32} (h : b.toInt ≤ a.toInt) : ¬ a < b := by rw [Int32.lt_iff_toInt_lt]; omega
theorem own_ltI {a b : Int32} (h : a < b) : a.toInt < b.toInt := Int32.lt_iff_toInt_lt.mp h
theorem own_geI {a b : Int32} (h : ¬ a < b) : b.toInt ≤ a.toInt := by rw [Int32.lt_iff_toInt_lt] at h; omega
theorem own_neI {a b : Int32} (h : ¬ a = b) : a.toInt ≠ b.toInt := fun q => h (Int32.toInt_inj.mp q)
theorem own_turn {G : Nat → Int32} {n k i : Nat} {w : Int32} (hi : i + (k + 1) = n) (hw : w = G i) : ∀ j, j < n → upd (fun j => if j + (k + 1) < n then G j else 0) i w j = if j + k < n then G j else 0 := by
  intro j hj
  by_cases q : j = i
  · subst q
    rw [if_pos (by omega)]
    exact (if_pos rfl).trans hw
  · refine (if_neg q).trans ?_
    by_cases r : j + (k + 1) < n
    · show (if _ then _ else _) = _
      rw [if_pos r, if_pos (by omega)]
    · show (if _ then _ else _) = _
      rw [if_neg r, if_neg (by omega)]
theorem own_turn2 {D : Nat → Int32} {n k i : Nat} {w : Int32} (hi : i + (k + 1) = n) : ∀ j, j < n → upd (fun j => if j + (k + 1) < n then w else D j) i w j = if j + k < n then w else D j := by
  intro j hj
  by_cases q : j = i
  · subst q
    rw [if_pos (by omega)]
    exact if_pos rfl
  · refine (if_neg q).trans ?_
    by_cases r : j + (k + 1) < n
    · show (if _ then _ else _) = _
      rw [if_pos r, if_pos (by omega)]
    · show (if _ then _ else _) = _
      rw [if_neg r, if_neg (by omega)]
theorem own_in {cl : Cell} {j : Int32} (S : cl.slots.size = n) (h0 : ¬ j < 0) (hi : j.toNatClampNeg = i) (hn : i < n) : ¬ (j < 0 ∨ cl.slots.size ≤ j.toNatClampNeg) := by
  rintro (q | q)
  · exact h0 q
  · omega
theorem ldI (X : Stand p l e R s m args below meth c T locs cells slots) (hx : p.tables.exec = Jvm.exec) (hZ : Z.Warmed39 s.vm) (eT : T.heap = h) (F : AI Z h a .int n f) {j v : Int32} (h0 : ¬ j < 0) (hi : j.toNatClampNeg = i) (hn : i < n) (hv : f i = v) {g : JFrame} (hg : g.method = m) {rest : List Value} (hs : g.stack = .int j :: .ref a :: rest) (hd : decode c.code g.pc = .ok (.iaload, 1)) (t : State)
    (k : Steps p.tables e below (T.setTop { g with pc := g.pc + 1, stack := .int v :: rest }) t) : Steps p.tables e below (T.setTop g) t := by
  obtain ⟨cl, A, S, M, H⟩ := F
  exact X.iaload hx (j := j) (v := .int v) (by rw [eT]; exact A.1) (State.isArrayOf_alike hZ.alike A.2.1) A.2.2 (own_in S h0 hi hn) (by rw [hi, (H i hn).1, hv]) hg hs hd t k
theorem ldB (X : Stand p l e R s m args below meth c T locs cells slots) (hx : p.tables.exec = Jvm.exec) (hZ : Z.Warmed39 s.vm) (eT : T.heap = h) (F : AI Z h a .byte n f) {j v : Int32} (h0 : ¬ j < 0) (hi : j.toNatClampNeg = i) (hn : i < n) (hv : f i = v) {g : JFrame} (hg : g.method = m) {rest : List Value} (hs : g.stack = .int j :: .ref a :: rest) (hd : decode c.code g.pc = .ok (.baload, 1)) (t : State)
    (k : Steps p.tables e below (T.setTop { g with pc := g.pc + 1, stack := .int v :: rest }) t) : Steps p.tables e below (T.setTop g) t := by
  obtain ⟨cl, A, S, M, H⟩ := F
  exact X.baloadBytes hx (j := j) (v := .int v) (by rw [eT]; exact A.1) (State.isArrayOf_alike hZ.alike A.2.1) A.2.2 (own_in S h0 hi hn) (by rw [hi, (H i hn).1, hv]) hg hs hd t k
theorem ldZ (X : Stand p l e R s m args below meth c T locs cells slots) (hx : p.tables.exec = Jvm.exec) (hZ : Z.Warmed39 s.vm) (eT : T.heap = h) (F : AI Z h a .boolean n f) {j v : Int32} (h0 : ¬ j < 0) (hi : j.toNatClampNeg = i) (hn : i < n) (hv : f i = v) {g : JFrame} (hg : g.method = m) {rest : List Value} (hs : g.stack = .int j :: .ref a :: rest) (hd : decode c.code g.pc = .ok (.baload, 1)) (t : State)
    (k : Steps p.tables e below (T.setTop { g with pc := g.pc + 1, stack := .int v :: rest }) t) : Steps p.tables e below (T.setTop g) t := by
  obtain ⟨cl, A, S, M, H⟩ := F
  exact X.baloadBooleans hx (j := j) (v := .int v) (by rw [eT]; exact A.1) (State.isArrayOf_alike hZ.alike A.2.1) A.2.2 (own_in S h0 hi hn) (by rw [hi, (H i hn).1, hv]) hg hs hd t k
theorem putI (X : Stand p l e R s m args below meth c T locs cells slots) (hx : p.tables.exec = Jvm.exec) (hZ : Z.Warmed39 s.vm) (eT : T.heap = h) (F : AI Z h a .int n f) {j x : Int32} (h0 : ¬ j < 0) (hi : j.toNatClampNeg = i) (hn : i < n) {g : JFrame} (hg : g.method = m) {rest : List Value} (hs : g.stack = .int x :: .int j :: .ref a :: rest) (hd : decode c.code g.pc = .ok (.iastore, 1)) :
    ∃ T' h', Stand p l e R s m args below meth c T' (locs ++ [⟨a, i⟩]) cells slots ∧ T'.heap = h' ∧ Wr h h' a i (.int x) ∧ AI Z h' a .int n (upd f i x) ∧ ∀ t, Steps p.tables e below (T'.setTop { g with pc := g.pc + 1, stack := rest }) t → Steps p.tables e below (T.setTop g) t := by
  have F0 := F
  obtain ⟨cl, A, S, M, H⟩ := F
  subst hi
  obtain ⟨T', h', X', e', W, st⟩ := stI X hx hZ eT A (own_in S h0 rfl hn) hg hs hd
  exact ⟨T', h', X', e', W, F0.set W rfl, st⟩
theorem putB (X : Stand p l e R s m args below meth c T locs cells slots) (hx : p.tables.exec = Jvm.exec) (hZ : Z.Warmed39 s.vm) (eT : T.heap = h) (F : AI Z h a .byte n f) {j x : Int32} (h0 : ¬ j < 0) (hi : j.toNatClampNeg = i) (hn : i < n) {g : JFrame} (hg : g.method = m) {rest : List Value} (hs : g.stack = .int x :: .int j :: .ref a :: rest) (hd : decode c.code g.pc = .ok (.bastore, 1)) :
    ∃ T' h', Stand p l e R s m args below meth c T' (locs ++ [⟨a, i⟩]) cells slots ∧ T'.heap = h' ∧ Wr h h' a i (.int x.toInt8.toInt32) ∧ AI Z h' a .byte n (upd f i x.toInt8.toInt32) ∧ ∀ t, Steps p.tables e below (T'.setTop { g with pc := g.pc + 1, stack := rest }) t → Steps p.tables e below (T.setTop g) t := by
  have F0 := F
  obtain ⟨cl, A, S, M, H⟩ := F
  subst hi
  obtain ⟨T', h', X', e', W, st⟩ := stB X hx hZ eT A (own_in S h0 rfl hn) hg hs hd
  exact ⟨T', h', X', e', W, F0.set W (fits_nar_byte x), st⟩
theorem putZ (X : Stand p l e R s m args below meth c T locs cells slots) (hx : p.tables.exec = Jvm.exec) (hZ : Z.Warmed39 s.vm) (eT : T.heap = h) (F : AI Z h a .boolean n f) {j x : Int32} (h0 : ¬ j < 0) (hi : j.toNatClampNeg = i) (hn : i < n) {g : JFrame} (hg : g.method = m) {rest : List Value} (hs : g.stack = .int x :: .int j :: .ref a :: rest) (hd : decode c.code g.pc = .ok (.bastore, 1)) :
    ∃ T' h', Stand p l e R s m args below meth c T' (locs ++ [⟨a, i⟩]) cells slots ∧ T'.heap = h' ∧ Wr h h' a i (.int (x &&& 1)) ∧ AI Z h' a .boolean n (upd f i (x &&& 1)) ∧ ∀ t, Steps p.tables e below (T'.setTop { g with pc := g.pc + 1, stack := rest }) t → Steps p.tables e below (T.setTop g) t := by
  have F0 := F
  obtain ⟨cl, A, S, M, H⟩ := F
  subst hi
  obtain ⟨T', h', X', e', W, st⟩ := stZ X hx hZ eT A (own_in S h0 rfl hn) hg hs hd
  exact ⟨T', h', X', e', W, F0.set W (fits_nar_bool x), st⟩
theorem lenA (X : Stand p l e R s m args below meth c T locs cells slots) (hx : p.tables.exec = Jvm.exec) (hZ : Z.Warmed39 s.vm) (eT : T.heap = h) (F : AI Z h a ty n f) {z : Int32} (hz : z.toInt = n) {g : JFrame} (hg : g.method = m) {rest : List Value} (hs : g.stack = .ref a :: rest) (hd : decode c.code g.pc = .ok (.arraylength, 1)) (t : State)
    (k : Steps p.tables e below (T.setTop { g with pc := g.pc + 1, stack := .int z :: rest }) t) : Steps p.tables e below (T.setTop g) t := by
  obtain ⟨cl, A, S, M, H⟩ := F
  have e1 : cl.slots.size.toInt32 = z := by rw [S]; exact Int32.toInt_inj.mp (by rw [len_toInt M, hz])
  exact X.arraylength hx (by rw [eT]; exact A.1) (State.isArrayOf_alike hZ.alike A.2.1) hg hs hd t (by rw [e1]; exact k)
end OwnArr
theorem d1_0 : decode method_2_code 0 = .ok (.iload_n 0, 1) := by decide +kernel
theorem d1_1 : decode method_2_code 1 = .ok (.iload_n 1, 1) := by decide +kernel
theorem d1_2 : decode method_2_code 2 = .ok (.iushr, 1) := by decide +kernel
theorem d1_3 : decode method_2_code 3 = .ok (.iconst 1, 1) := by decide +kernel
theorem d1_4 : decode method_2_code 4 = .ok (.iand, 1) := by decide +kernel
theorem d1_5 : decode method_2_code 5 = .ok (.ifCond .eq 7, 3) := by decide +kernel
theorem d1_8 : decode method_2_code 8 = .ok (.iconst 1, 1) := by decide +kernel
theorem d1_9 : decode method_2_code 9 = .ok (.goto 4, 3) := by decide +kernel
theorem d1_12 : decode method_2_code 12 = .ok (.iconst 0, 1) := by decide +kernel
theorem d1_13 : decode method_2_code 13 = .ok (.ireturn, 1) := by decide +kernel
theorem pn_0 : plainName "com/example/network_attack_odds/networkattackodds/engine/GoalGraphMinusPinLaw" = true := by first | (simp [plainName, overriddenIn]; done) | decide +kernel
theorem ef_1 (m : MethodId) (q0 : Int32) (q1 : Int32) : entryFrame m #[(.int q0), (.int q1)] 2 = mkF m 0 #[.val (.int q0), .val (.int q1)] [] := by first | (simp [entryFrame, mkF, argsToLocals, Value.category]; done) | rfl
def f1 (q0 : Int32) (q1 : Int32) : Int32 :=
  (if (((q0.toUInt32 >>> (q1 &&& 31).toUInt32).toInt32) &&& (1 : Int32)) = (0 : Int32) then (0 : Int32)
  else (1 : Int32))
def Q1 (q0 : Int32) (q1 : Int32) (h0 : Heap) (n0 : Nat) (v : Option Value) (h : Heap) (L : List Loc) : Prop := v = some (.int (f1 q0 q1)) ∧ Fr n0 L ∧ h = h0
set_option maxRecDepth 65536 in
set_option maxHeartbeats 40000000 in
theorem rm1 (l : Launch) (Z : State) (a0 : Array Value) (hw : ∀ d ∈ tables_1, d.before a0 Z = true) (ws : List Jvm.Cond) (q0 : Int32) (q1 : Int32) (h0 : Heap) (n0 : Nat) :
    MetFree l (⟨"com/example/network_attack_odds/networkattackodds/engine/GoalGraphMinusPinLaw", "bit", "(II)Z"⟩ : MethodName) (head1 (Jvm.Cond.code (⟨"com/example/network_attack_odds/networkattackodds/engine/GoalGraphMinusPinLaw", "bit", "(II)Z"⟩ : MethodName) method_2_code 2 (some .boolean) :: ws) ({ frames := 0, cells := 0, slots := 0, locals := 0 } : Room)) (fun ar' Ur => ar' = #[(.int q0), (.int q1)] ∧ Z.Warmed39 Ur.vm ∧ Ur.heap = h0) (fun _ _ _ _ _ => True) (fun _ Ur or' Us => ∃ v L, or' = .returned v ∧ Q1 q0 q1 h0 n0 v Us.heap L ∧ FrameEnd Ur or' Us L 0 0) := by
  refine MetFree.of_bodySF (plainFor_of_name pn_0) hisR ?_
  intro p e s m args below meth c s₁ Bd hml0 hP hK
  obtain ⟨rfl, hZ, hh⟩ := hP
  have hx := Bd.exec
  have hby := Bd.bytes
  have hlk : meth.locks = false := BodyLoose.notSynchronized Bd
  have hml : c.maxLocals = 2 := hml0
  have hown : s.vm.findClass "com/example/network_attack_odds/networkattackodds/engine/GoalGraphMinusPinLaw" = some m.cls := findClass_of_methodNamed Bd.named
  have X0 : Stand p l e ({ frames := 0, cells := 0, slots := 0, locals := 0 } : Room) s m #[(.int q0), (.int q1)] below meth c s₁ [] 0 0 := Stand.of_body Bd
  have e0 : s₁.heap = h0 := by rw [← hh, Bd.state]; rfl
  have N0 := Fr.nil n0
  show Goes p.tables e below s (Q1 q0 q1 h0 n0) 0 0 (s₁.setTop (entryFrame m #[(.int q0), (.int q1)] 2))
  refine Goes.of (fun t k => castTop (ef_1 m q0 q1) k) ?_
  show Goes _ _ _ _ _ _ _ (s₁.setTop (mkF m 0 #[.val (.int q0), .val (.int q1)] []))
  refine Goes.of (fun t k => XS.iloadN X0.here hx rfl (hb hby d1_0) rfl k) ?_
  show Goes _ _ _ _ _ _ _ (s₁.setTop (mkF m 1 #[.val (.int q0), .val (.int q1)] [(.int q0)]))
  refine Goes.of (fun t k => XS.iloadN X0.here hx rfl (hb hby d1_1) rfl k) ?_
  show Goes _ _ _ _ _ _ _ (s₁.setTop (mkF m 2 #[.val (.int q0), .val (.int q1)] [(.int q1), (.int q0)]))
  refine Goes.of (fun t k => XS.iushr X0.here hx rfl (hb hby d1_2) rfl k) ?_
  show Goes _ _ _ _ _ _ _ (s₁.setTop (mkF m 3 #[.val (.int q0), .val (.int q1)] [(.int ((q0.toUInt32 >>> (q1 &&& 31).toUInt32).toInt32))]))
  refine Goes.of (fun t k => XS.iconst X0.here hx rfl (hb hby d1_3) k) ?_
  show Goes _ _ _ _ _ _ _ (s₁.setTop (mkF m 4 #[.val (.int q0), .val (.int q1)] [(.int (1 : Int32)), (.int ((q0.toUInt32 >>> (q1 &&& 31).toUInt32).toInt32))]))
  refine Goes.of (fun t k => XS.iand X0.here hx rfl (hb hby d1_4) rfl k) ?_
  show Goes _ _ _ _ _ _ _ (s₁.setTop (mkF m 5 #[.val (.int q0), .val (.int q1)] [(.int (((q0.toUInt32 >>> (q1 &&& 31).toUInt32).toInt32) &&& (1 : Int32)))]))
  by_cases hc1 : (((q0.toUInt32 >>> (q1 &&& 31).toUInt32).toInt32) &&& (1 : Int32)) = (0 : Int32)
  · refine Goes.of (fun t k => XS.ifYes X0.here hx rfl (pc0 := 5) (pc' := 12) rfl (hb hby d1_5) rfl ((if0 _ _).trans (teq hc1).1) (by decide) (by decide) k) ?_
    show Goes _ _ _ _ _ _ _ (s₁.setTop (mkF m 12 #[.val (.int q0), .val (.int q1)] []))
    refine Goes.of (fun t k => XS.iconst X0.here hx rfl (hb hby d1_12) k) ?_
    show Goes _ _ _ _ _ _ _ (s₁.setTop (mkF m 13 #[.val (.int q0), .val (.int q1)] [(.int (0 : Int32))]))
    exact Goes.fin X0 hlk (v := some (.int (0 : Int32))) (fun h => by rw [Bd.returns] at h; cases h) (fun fs hr => retN X0 hx (t := .boolean) Bd.returns (by simp) (hb hby d1_13) hr) ⟨congrArg (fun z => some (Value.int z)) (by rw [f1, if_pos hc1] : (0 : Int32) = f1 q0 q1), N0, e0⟩ (by decide) (by decide)
  · refine Goes.of (fun t k => XS.ifNo X0.here hx rfl (hb hby d1_5) rfl ((if0 _ _).trans (feq hc1).1) k) ?_
    show Goes _ _ _ _ _ _ _ (s₁.setTop (mkF m 8 #[.val (.int q0), .val (.int q1)] []))
    refine Goes.of (fun t k => XS.iconst X0.here hx rfl (hb hby d1_8) k) ?_
    show Goes _ _ _ _ _ _ _ (s₁.setTop (mkF m 9 #[.val (.int q0), .val (.int q1)] [(.int (1 : Int32))]))
    refine Goes.of (fun t k => XS.goto X0.here hx rfl (pc0 := 9) (pc' := 13) rfl (hb hby d1_9) (by decide) (by decide) k) ?_
    show Goes _ _ _ _ _ _ _ (s₁.setTop (mkF m 13 #[.val (.int q0), .val (.int q1)] [(.int (1 : Int32))]))
    exact Goes.fin X0 hlk (v := some (.int (1 : Int32))) (fun h => by rw [Bd.returns] at h; cases h) (fun fs hr => retN X0 hx (t := .boolean) Bd.returns (by simp) (hb hby d1_13) hr) ⟨congrArg (fun z => some (Value.int z)) (by rw [f1, if_neg hc1] : (1 : Int32) = f1 q0 q1), N0, e0⟩ (by decide) (by decide)
def G2 (f : Nat → Int32) (g : Nat → Int32) (j : Nat) : Int32 := if f j = (0 : Int32) then (0 : Int32) else (if g j = (0 : Int32) then (1 : Int32) else (0 : Int32))
theorem d2_0 : decode prog_34_method_15_code 0 = .ok (.aload_n 0, 1) := by decide +kernel
theorem d2_1 : decode prog_34_method_15_code 1 = .ok (.arraylength, 1) := by decide +kernel
theorem d2_2 : decode prog_34_method_15_code 2 = .ok (.newarray .boolean, 2) := by decide +kernel
theorem d2_4 : decode prog_34_method_15_code 4 = .ok (.astore_n 2, 1) := by decide +kernel
theorem d2_5 : decode prog_34_method_15_code 5 = .ok (.iconst 0, 1) := by decide +kernel
theorem d2_6 : decode prog_34_method_15_code 6 = .ok (.istore_n 3, 1) := by decide +kernel
theorem d2_7 : decode prog_34_method_15_code 7 = .ok (.iload_n 3, 1) := by decide +kernel
theorem d2_8 : decode prog_34_method_15_code 8 = .ok (.aload_n 0, 1) := by decide +kernel
theorem d2_9 : decode prog_34_method_15_code 9 = .ok (.arraylength, 1) := by decide +kernel
theorem d2_10 : decode prog_34_method_15_code 10 = .ok (.if_icmp .ge 29, 3) := by decide +kernel
theorem d2_13 : decode prog_34_method_15_code 13 = .ok (.aload_n 2, 1) := by decide +kernel
theorem d2_14 : decode prog_34_method_15_code 14 = .ok (.iload_n 3, 1) := by decide +kernel
theorem d2_15 : decode prog_34_method_15_code 15 = .ok (.aload_n 0, 1) := by decide +kernel
theorem d2_16 : decode prog_34_method_15_code 16 = .ok (.iload_n 3, 1) := by decide +kernel
theorem d2_17 : decode prog_34_method_15_code 17 = .ok (.baload, 1) := by decide +kernel
theorem d2_18 : decode prog_34_method_15_code 18 = .ok (.ifCond .eq 13, 3) := by decide +kernel
theorem d2_21 : decode prog_34_method_15_code 21 = .ok (.aload_n 1, 1) := by decide +kernel
theorem d2_22 : decode prog_34_method_15_code 22 = .ok (.iload_n 3, 1) := by decide +kernel
theorem d2_23 : decode prog_34_method_15_code 23 = .ok (.baload, 1) := by decide +kernel
theorem d2_24 : decode prog_34_method_15_code 24 = .ok (.ifCond .ne 7, 3) := by decide +kernel
theorem d2_27 : decode prog_34_method_15_code 27 = .ok (.iconst 1, 1) := by decide +kernel
theorem d2_28 : decode prog_34_method_15_code 28 = .ok (.goto 4, 3) := by decide +kernel
theorem d2_31 : decode prog_34_method_15_code 31 = .ok (.iconst 0, 1) := by decide +kernel
theorem d2_32 : decode prog_34_method_15_code 32 = .ok (.bastore, 1) := by decide +kernel
theorem d2_33 : decode prog_34_method_15_code 33 = .ok (.iinc 3 1, 3) := by decide +kernel
theorem d2_36 : decode prog_34_method_15_code 36 = .ok (.goto (-29), 3) := by decide +kernel
theorem d2_39 : decode prog_34_method_15_code 39 = .ok (.aload_n 2, 1) := by decide +kernel
theorem d2_40 : decode prog_34_method_15_code 40 = .ok (.areturn, 1) := by decide +kernel
theorem pn_1 : plainName "com/example/network_attack_odds/networkattackodds/engine/GoalGraph" = true := by first | (simp [plainName, overriddenIn]; done) | decide +kernel
theorem ef_2 (m : MethodId) (a : Addr) (b : Addr) : entryFrame m #[(.ref a), (.ref b)] 4 = mkF m 0 #[.val (.ref a), .val (.ref b), .unset, .unset] [] := by first | (simp [entryFrame, mkF, argsToLocals, Value.category]; done) | rfl
def Q2 (Z : State) (n : Nat) (f g : Nat → Int32) (h0 : Heap) (n0 : Nat) (v : Option Value) (h : Heap) (L : List Loc) : Prop := ∃ r : Addr, v = some (.ref r) ∧ Fr n0 L ∧ Keep h0 h [] ∧ h0.size ≤ r ∧ AI Z h r .boolean n (G2 f g)
set_option maxRecDepth 65536 in
set_option maxHeartbeats 40000000 in
theorem rm2 (l : Launch) (Z : State) (a0 : Array Value) (hw : ∀ d ∈ tables_1, d.before a0 Z = true) (ws : List Jvm.Cond) (a : Addr) (b : Addr) (n : Nat) (z : Int32) (f g : Nat → Int32) (h0 : Heap) (n0 : Nat) (Z0 : n0 ≤ h0.size) (V_a : AI Z h0 a .boolean n f) (V_b : AI Z h0 b .boolean n g) (hz : z.toInt = n) (hcap : n ≤ 4) :
    MetFree l (⟨"com/example/network_attack_odds/networkattackodds/engine/GoalGraph", "minus", "([Z[Z)[Z"⟩ : MethodName) (head1 (Jvm.Cond.code (⟨"com/example/network_attack_odds/networkattackodds/engine/GoalGraph", "minus", "([Z[Z)[Z"⟩ : MethodName) prog_34_method_15_code 4 (some (.array .boolean)) :: ws) ({ frames := 0, cells := 1, slots := 4, locals := 0 } : Room)) (fun ar' Ur => ar' = #[(.ref a), (.ref b)] ∧ Z.Warmed39 Ur.vm ∧ Ur.heap = h0) (fun _ _ _ _ _ => True) (fun _ Ur or' Us => ∃ v L, or' = .returned v ∧ Q2 Z n f g h0 n0 v Us.heap L ∧ FrameEnd Ur or' Us L 1 4) := by
  refine MetFree.of_bodySF (plainFor_of_name pn_1) hisR ?_
  intro p e s m args below meth c s₁ Bd hml0 hP hK
  obtain ⟨rfl, hZ, hh⟩ := hP
  have hx := Bd.exec
  have hby := Bd.bytes
  have hlk : meth.locks = false := BodyLoose.notSynchronized Bd
  have hml : c.maxLocals = 4 := hml0
  have hown : s.vm.findClass "com/example/network_attack_odds/networkattackodds/engine/GoalGraph" = some m.cls := findClass_of_methodNamed Bd.named
  have hnm := (name_of_methodNamed Bd.named Bd.method).1
  have X0 : Stand p l e ({ frames := 0, cells := 1, slots := 4, locals := 0 } : Room) s m #[(.ref a), (.ref b)] below meth c s₁ [] 0 0 := Stand.of_body Bd
  have e0 : s₁.heap = h0 := by rw [← hh, Bd.state]; rfl
  have N0 := Fr.nil n0
  show Goes p.tables e below s (Q2 Z n f g h0 n0) 1 4 (s₁.setTop (entryFrame m #[(.ref a), (.ref b)] 4))
  refine Goes.of (fun t k => castTop (ef_2 m a b) k) ?_
  show Goes _ _ _ _ _ _ _ (s₁.setTop (mkF m 0 #[.val (.ref a), .val (.ref b), .unset, .unset] []))
  refine Goes.of (fun t k => XS.aloadN X0.here hx rfl (hb hby d2_0) rfl rfl k) ?_
  show Goes _ _ _ _ _ _ _ (s₁.setTop (mkF m 1 #[.val (.ref a), .val (.ref b), .unset, .unset] [(.ref a)]))
  refine Goes.of (fun t k => lenA X0 hx hZ e0 V_a (z := z) hz (g := (mkF m 1 #[.val (.ref a), .val (.ref b), .unset, .unset] [(.ref a)])) rfl rfl (hb hby d2_1) t k) ?_
  show Goes _ _ _ _ _ _ _ (s₁.setTop (mkF m 2 #[.val (.ref a), .val (.ref b), .unset, .unset] [(.int z)]))
  obtain ⟨T2, h2, k2, X2, e2, E2, A2, Ea2, st2⟩ := newPE X0 hx hZ (hw _ (List.mem_of_getElem? (i := 0) rfl)) e0 (g := (mkF m 2 #[.val (.ref a), .val (.ref b), .unset, .unset] [(.int z)])) rfl (hb hby d2_2) rfl (own_nn (by omega)) (cap := 4) (by rw [own_tn hz]; exact hcap) (by decide) (by decide) (by decide) (ad := "[Z") (by decide)
  obtain ⟨b2, g2⟩ : ∃ z, z = h0.size := ⟨_, rfl⟩
  rw [← g2] at A2 Ea2 st2
  have V2 : AI Z h2 b2 .boolean n (fun _ => 0) := AI.new rfl rfl A2 (own_nn (by omega)) (own_tn hz)
  have ne_a_b2 : a ≠ b2 := Nat.ne_of_lt (Nat.lt_of_lt_of_le V_a.lt (Nat.le_of_eq g2.symm))
  have ne_b_b2 : b ≠ b2 := Nat.ne_of_lt (Nat.lt_of_lt_of_le V_b.lt (Nat.le_of_eq g2.symm))
  have g_b2 : n0 ≤ b2 := Nat.le_trans Z0 (Nat.le_of_eq g2.symm)
  have sz_b2 : h0.size ≤ b2 := Nat.le_trans (Keep.refl h0 []).1 (Nat.le_of_eq g2.symm)
  have F3 := V_a.ext E2
  have F4 := V_b.ext E2
  have Z2 : n0 ≤ h2.size := Nat.le_trans Z0 E2.1
  have K2 : Keep h0 h2 [] := (Keep.refl h0 []).ext E2
  refine Goes.of st2 ?_
  show Goes _ _ _ _ _ _ _ (T2.setTop (mkF m 4 #[.val (.ref a), .val (.ref b), .unset, .unset] [(.ref b2)]))
  refine Goes.of (fun t k => XS.astoreN X2.here hx rfl (hb hby d2_4) rfl rfl (l' := #[.val (.ref a), .val (.ref b), .val (.ref b2), .unset]) rfl k) ?_
  show Goes _ _ _ _ _ _ _ (T2.setTop (mkF m 5 #[.val (.ref a), .val (.ref b), .val (.ref b2), .unset] []))
  refine Goes.of (fun t k => XS.iconst X2.here hx rfl (hb hby d2_5) k) ?_
  show Goes _ _ _ _ _ _ _ (T2.setTop (mkF m 6 #[.val (.ref a), .val (.ref b), .val (.ref b2), .unset] [(.int (0 : Int32))]))
  refine Goes.of (fun t k => XS.istoreN X2.here hx rfl (hb hby d2_6) rfl (l' := #[.val (.ref a), .val (.ref b), .val (.ref b2), .val (.int (0 : Int32))]) rfl k) ?_
  show Goes _ _ _ _ _ _ _ (T2.setTop (mkF m 7 #[.val (.ref a), .val (.ref b), .val (.ref b2), .val (.int (0 : Int32))] []))
  have hn31 : n < 2147483648 := by obtain ⟨_, _, _, M, _⟩ := V_a; exact M
  have loop : ∀ (k : Nat), ∀ (i : Int32) (TT : State) (hp : Heap) (lc : List Loc), Stand p l e ({ frames := 0, cells := 1, slots := 4, locals := 0 } : Room) s m #[(.ref a), (.ref b)] below meth c TT lc 1 4 → TT.heap = hp → Fr n0 lc → Keep h0 hp [] → AI Z hp b2 .boolean n (fun j => if j + k < n then (G2 f g) j else 0) → i.toInt + (k : Nat) = n → 0 ≤ i.toInt → Goes p.tables e below s (Q2 Z n f g h0 n0) 1 4 (TT.setTop (mkF m 7 #[.val (.ref a), .val (.ref b), .val (.ref b2), .val (.int i)] [])) := by
    intro k
    induction k with
    | zero =>
      intro i TT hp lc XT eT NT KT VT hi hnn
      have ZT : n0 ≤ hp.size := Nat.le_trans Z0 KT.1
      have FT_a := V_a.keep KT nin0
      have FT_b := V_b.keep KT nin0
      have hlt : ¬ i < z := own_nlt (by omega)
      show Goes _ _ _ _ _ _ _ (TT.setTop (mkF m 7 #[.val (.ref a), .val (.ref b), .val (.ref b2), .val (.int i)] []))
      refine Goes.of (fun t k => XS.iloadN XT.here hx rfl (hb hby d2_7) rfl k) ?_
      show Goes _ _ _ _ _ _ _ (TT.setTop (mkF m 8 #[.val (.ref a), .val (.ref b), .val (.ref b2), .val (.int i)] [(.int i)]))
      refine Goes.of (fun t k => XS.aloadN XT.here hx rfl (hb hby d2_8) rfl rfl k) ?_
      show Goes _ _ _ _ _ _ _ (TT.setTop (mkF m 9 #[.val (.ref a), .val (.ref b), .val (.ref b2), .val (.int i)] [(.ref a), (.int i)]))
      refine Goes.of (fun t k => lenA XT hx hZ eT FT_a (z := z) hz (g := (mkF m 9 #[.val (.ref a), .val (.ref b), .val (.ref b2), .val (.int i)] [(.ref a), (.int i)])) rfl rfl (hb hby d2_9) t k) ?_
      show Goes _ _ _ _ _ _ _ (TT.setTop (mkF m 10 #[.val (.ref a), .val (.ref b), .val (.ref b2), .val (.int i)] [(.int z), (.int i)]))
      refine Goes.of (fun t k => XS.icmpYes XT.here hx rfl (pc0 := 10) (pc' := 39) rfl (hb hby d2_10) rfl (flt hlt).2.1 (by decide) (by decide) k) ?_
      show Goes _ _ _ _ _ _ _ (TT.setTop (mkF m 39 #[.val (.ref a), .val (.ref b), .val (.ref b2), .val (.int i)] []))
      refine Goes.of (fun t k => XS.aloadN XT.here hx rfl (hb hby d2_39) rfl rfl k) ?_
      show Goes _ _ _ _ _ _ _ (TT.setTop (mkF m 40 #[.val (.ref a), .val (.ref b), .val (.ref b2), .val (.int i)] [(.ref b2)]))
      exact Goes.fin XT hlk (v := some (.ref b2)) (fun h => by rw [Bd.returns] at h; cases h) (fun fs hr => retOut XT hx Bd.returns (by rfl) (Or.inr (Or.inr (Or.inr (Or.inr ⟨rfl, rfl, rfl⟩)))) (hb hby d2_40) hr) (by rw [eT]; exact ⟨b2, rfl, NT, KT, sz_b2, VT.congr fun j hj => if_pos hj⟩) (by decide) (by decide)
    | succ k ih =>
      intro i TT hp lc XT eT NT KT VT hi hnn
      have ZT : n0 ≤ hp.size := Nat.le_trans Z0 KT.1
      have FT_a := V_a.keep KT nin0
      have FT_b := V_b.keep KT nin0
      have hlt : i < z := own_ilt (by omega)
      show Goes _ _ _ _ _ _ _ (TT.setTop (mkF m 7 #[.val (.ref a), .val (.ref b), .val (.ref b2), .val (.int i)] []))
      refine Goes.of (fun t k => XS.iloadN XT.here hx rfl (hb hby d2_7) rfl k) ?_
      show Goes _ _ _ _ _ _ _ (TT.setTop (mkF m 8 #[.val (.ref a), .val (.ref b), .val (.ref b2), .val (.int i)] [(.int i)]))
      refine Goes.of (fun t k => XS.aloadN XT.here hx rfl (hb hby d2_8) rfl rfl k) ?_
      show Goes _ _ _ _ _ _ _ (TT.setTop (mkF m 9 #[.val (.ref a), .val (.ref b), .val (.ref b2), .val (.int i)] [(.ref a), (.int i)]))
      refine Goes.of (fun t k => lenA XT hx hZ eT FT_a (z := z) hz (g := (mkF m 9 #[.val (.ref a), .val (.ref b), .val (.ref b2), .val (.int i)] [(.ref a), (.int i)])) rfl rfl (hb hby d2_9) t k) ?_
      show Goes _ _ _ _ _ _ _ (TT.setTop (mkF m 10 #[.val (.ref a), .val (.ref b), .val (.ref b2), .val (.int i)] [(.int z), (.int i)]))
      refine Goes.of (fun t k => XS.icmpNo XT.here hx rfl (hb hby d2_10) rfl (tlt hlt).2.1 k) ?_
      show Goes _ _ _ _ _ _ _ (TT.setTop (mkF m 13 #[.val (.ref a), .val (.ref b), .val (.ref b2), .val (.int i)] []))
      refine Goes.of (fun t k => XS.aloadN XT.here hx rfl (hb hby d2_13) rfl rfl k) ?_
      show Goes _ _ _ _ _ _ _ (TT.setTop (mkF m 14 #[.val (.ref a), .val (.ref b), .val (.ref b2), .val (.int i)] [(.ref b2)]))
      refine Goes.of (fun t k => XS.iloadN XT.here hx rfl (hb hby d2_14) rfl k) ?_
      show Goes _ _ _ _ _ _ _ (TT.setTop (mkF m 15 #[.val (.ref a), .val (.ref b), .val (.ref b2), .val (.int i)] [(.int i), (.ref b2)]))
      refine Goes.of (fun t k => XS.aloadN XT.here hx rfl (hb hby d2_15) rfl rfl k) ?_
      show Goes _ _ _ _ _ _ _ (TT.setTop (mkF m 16 #[.val (.ref a), .val (.ref b), .val (.ref b2), .val (.int i)] [(.ref a), (.int i), (.ref b2)]))
      refine Goes.of (fun t k => XS.iloadN XT.here hx rfl (hb hby d2_16) rfl k) ?_
      show Goes _ _ _ _ _ _ _ (TT.setTop (mkF m 17 #[.val (.ref a), .val (.ref b), .val (.ref b2), .val (.int i)] [(.int i), (.ref a), (.int i), (.ref b2)]))
      refine Goes.of (fun t k => ldZ XT hx hZ eT FT_a (j := i) (i := i.toNatClampNeg) (v := (f i.toNatClampNeg)) (own_nn (by omega)) rfl (own_ltn (by omega) (by omega)) rfl (g := (mkF m 17 #[.val (.ref a), .val (.ref b), .val (.ref b2), .val (.int i)] [(.int i), (.ref a), (.int i), (.ref b2)])) rfl rfl (hb hby d2_17) t k) ?_
      show Goes _ _ _ _ _ _ _ (TT.setTop (mkF m 18 #[.val (.ref a), .val (.ref b), .val (.ref b2), .val (.int i)] [(.int (f i.toNatClampNeg)), (.int i), (.ref b2)]))
      by_cases hc5 : (f i.toNatClampNeg) = (0 : Int32)
      · refine Goes.of (fun t k => XS.ifYes XT.here hx rfl (pc0 := 18) (pc' := 31) rfl (hb hby d2_18) rfl ((if0 _ _).trans (teq hc5).1) (by decide) (by decide) k) ?_
        show Goes _ _ _ _ _ _ _ (TT.setTop (mkF m 31 #[.val (.ref a), .val (.ref b), .val (.ref b2), .val (.int i)] [(.int i), (.ref b2)]))
        refine Goes.of (fun t k => XS.iconst XT.here hx rfl (hb hby d2_31) k) ?_
        show Goes _ _ _ _ _ _ _ (TT.setTop (mkF m 32 #[.val (.ref a), .val (.ref b), .val (.ref b2), .val (.int i)] [(.int (0 : Int32)), (.int i), (.ref b2)]))
        obtain ⟨T6, h6, X6, e6, W6, V6, st6⟩ := putZ XT hx hZ eT VT (j := i) (x := (0 : Int32)) (i := i.toNatClampNeg) (own_nn (by omega)) rfl (own_ltn (by omega) (by omega)) (g := (mkF m 32 #[.val (.ref a), .val (.ref b), .val (.ref b2), .val (.int i)] [(.int (0 : Int32)), (.int i), (.ref b2)])) rfl rfl (hb hby d2_32)
        have F7 := FT_a.other W6 ne_a_b2
        have F8 := FT_b.other W6 ne_b_b2
        have Z6 : n0 ≤ h6.size := Nat.le_trans ZT (Keep.of_wr W6).1
        have K6 : Keep h0 h6 [] := KT.wr W6 (Or.inr sz_b2)
        have N6 := Fr.snoc X6 NT g_b2
        refine Goes.of st6 ?_
        show Goes _ _ _ _ _ _ _ (T6.setTop (mkF m 33 #[.val (.ref a), .val (.ref b), .val (.ref b2), .val (.int i)] []))
        refine Goes.of (fun t k => XS.iinc X6.here hx rfl (hb hby d2_33) rfl (l' := #[.val (.ref a), .val (.ref b), .val (.ref b2), .val (.int (i + (1 : Int32)))]) rfl k) ?_
        show Goes _ _ _ _ _ _ _ (T6.setTop (mkF m 36 #[.val (.ref a), .val (.ref b), .val (.ref b2), .val (.int (i + (1 : Int32)))] []))
        refine Goes.of (fun t k => XS.goto X6.here hx rfl (pc0 := 36) (pc' := 7) rfl (hb hby d2_36) (by decide) (by decide) k) ?_
        show Goes _ _ _ _ _ _ _ (T6.setTop (mkF m 7 #[.val (.ref a), .val (.ref b), .val (.ref b2), .val (.int (i + (1 : Int32)))] []))
        exact ih _ _ _ _ X6 e6 N6 K6 (V6.congr (own_turn (by have := nat_of (own_nn (j := i) hnn); omega) (by rw [G2, if_pos hc5]; rfl))) (by rw [own_inc (by omega)]; omega) (by rw [own_inc (by omega)]; omega)
      · refine Goes.of (fun t k => XS.ifNo XT.here hx rfl (hb hby d2_18) rfl ((if0 _ _).trans (feq hc5).1) k) ?_
        show Goes _ _ _ _ _ _ _ (TT.setTop (mkF m 21 #[.val (.ref a), .val (.ref b), .val (.ref b2), .val (.int i)] [(.int i), (.ref b2)]))
        refine Goes.of (fun t k => XS.aloadN XT.here hx rfl (hb hby d2_21) rfl rfl k) ?_
        show Goes _ _ _ _ _ _ _ (TT.setTop (mkF m 22 #[.val (.ref a), .val (.ref b), .val (.ref b2), .val (.int i)] [(.ref b), (.int i), (.ref b2)]))
        refine Goes.of (fun t k => XS.iloadN XT.here hx rfl (hb hby d2_22) rfl k) ?_
        show Goes _ _ _ _ _ _ _ (TT.setTop (mkF m 23 #[.val (.ref a), .val (.ref b), .val (.ref b2), .val (.int i)] [(.int i), (.ref b), (.int i), (.ref b2)]))
        refine Goes.of (fun t k => ldZ XT hx hZ eT FT_b (j := i) (i := i.toNatClampNeg) (v := (g i.toNatClampNeg)) (own_nn (by omega)) rfl (own_ltn (by omega) (by omega)) rfl (g := (mkF m 23 #[.val (.ref a), .val (.ref b), .val (.ref b2), .val (.int i)] [(.int i), (.ref b), (.int i), (.ref b2)])) rfl rfl (hb hby d2_23) t k) ?_
        show Goes _ _ _ _ _ _ _ (TT.setTop (mkF m 24 #[.val (.ref a), .val (.ref b), .val (.ref b2), .val (.int i)] [(.int (g i.toNatClampNeg)), (.int i), (.ref b2)]))
        by_cases hc9 : (g i.toNatClampNeg) = (0 : Int32)
        · refine Goes.of (fun t k => XS.ifNo XT.here hx rfl (hb hby d2_24) rfl ((if0 _ _).trans (teq hc9).2) k) ?_
          show Goes _ _ _ _ _ _ _ (TT.setTop (mkF m 27 #[.val (.ref a), .val (.ref b), .val (.ref b2), .val (.int i)] [(.int i), (.ref b2)]))
          refine Goes.of (fun t k => XS.iconst XT.here hx rfl (hb hby d2_27) k) ?_
          show Goes _ _ _ _ _ _ _ (TT.setTop (mkF m 28 #[.val (.ref a), .val (.ref b), .val (.ref b2), .val (.int i)] [(.int (1 : Int32)), (.int i), (.ref b2)]))
          refine Goes.of (fun t k => XS.goto XT.here hx rfl (pc0 := 28) (pc' := 32) rfl (hb hby d2_28) (by decide) (by decide) k) ?_
          show Goes _ _ _ _ _ _ _ (TT.setTop (mkF m 32 #[.val (.ref a), .val (.ref b), .val (.ref b2), .val (.int i)] [(.int (1 : Int32)), (.int i), (.ref b2)]))
          obtain ⟨T10, h10, X10, e10, W10, V10, st10⟩ := putZ XT hx hZ eT VT (j := i) (x := (1 : Int32)) (i := i.toNatClampNeg) (own_nn (by omega)) rfl (own_ltn (by omega) (by omega)) (g := (mkF m 32 #[.val (.ref a), .val (.ref b), .val (.ref b2), .val (.int i)] [(.int (1 : Int32)), (.int i), (.ref b2)])) rfl rfl (hb hby d2_32)
          have F11 := FT_a.other W10 ne_a_b2
          have F12 := FT_b.other W10 ne_b_b2
          have Z10 : n0 ≤ h10.size := Nat.le_trans ZT (Keep.of_wr W10).1
          have K10 : Keep h0 h10 [] := KT.wr W10 (Or.inr sz_b2)
          have N10 := Fr.snoc X10 NT g_b2
          refine Goes.of st10 ?_
          show Goes _ _ _ _ _ _ _ (T10.setTop (mkF m 33 #[.val (.ref a), .val (.ref b), .val (.ref b2), .val (.int i)] []))
          refine Goes.of (fun t k => XS.iinc X10.here hx rfl (hb hby d2_33) rfl (l' := #[.val (.ref a), .val (.ref b), .val (.ref b2), .val (.int (i + (1 : Int32)))]) rfl k) ?_
          show Goes _ _ _ _ _ _ _ (T10.setTop (mkF m 36 #[.val (.ref a), .val (.ref b), .val (.ref b2), .val (.int (i + (1 : Int32)))] []))
          refine Goes.of (fun t k => XS.goto X10.here hx rfl (pc0 := 36) (pc' := 7) rfl (hb hby d2_36) (by decide) (by decide) k) ?_
          show Goes _ _ _ _ _ _ _ (T10.setTop (mkF m 7 #[.val (.ref a), .val (.ref b), .val (.ref b2), .val (.int (i + (1 : Int32)))] []))
          exact ih _ _ _ _ X10 e10 N10 K10 (V10.congr (own_turn (by have := nat_of (own_nn (j := i) hnn); omega) (by rw [G2, if_neg hc5, if_pos hc9]; rfl))) (by rw [own_inc (by omega)]; omega) (by rw [own_inc (by omega)]; omega)
        · refine Goes.of (fun t k => XS.ifYes XT.here hx rfl (pc0 := 24) (pc' := 31) rfl (hb hby d2_24) rfl ((if0 _ _).trans (feq hc9).2) (by decide) (by decide) k) ?_
          show Goes _ _ _ _ _ _ _ (TT.setTop (mkF m 31 #[.val (.ref a), .val (.ref b), .val (.ref b2), .val (.int i)] [(.int i), (.ref b2)]))
          refine Goes.of (fun t k => XS.iconst XT.here hx rfl (hb hby d2_31) k) ?_
          show Goes _ _ _ _ _ _ _ (TT.setTop (mkF m 32 #[.val (.ref a), .val (.ref b), .val (.ref b2), .val (.int i)] [(.int (0 : Int32)), (.int i), (.ref b2)]))
          obtain ⟨T13, h13, X13, e13, W13, V13, st13⟩ := putZ XT hx hZ eT VT (j := i) (x := (0 : Int32)) (i := i.toNatClampNeg) (own_nn (by omega)) rfl (own_ltn (by omega) (by omega)) (g := (mkF m 32 #[.val (.ref a), .val (.ref b), .val (.ref b2), .val (.int i)] [(.int (0 : Int32)), (.int i), (.ref b2)])) rfl rfl (hb hby d2_32)
          have F14 := FT_a.other W13 ne_a_b2
          have F15 := FT_b.other W13 ne_b_b2
          have Z13 : n0 ≤ h13.size := Nat.le_trans ZT (Keep.of_wr W13).1
          have K13 : Keep h0 h13 [] := KT.wr W13 (Or.inr sz_b2)
          have N13 := Fr.snoc X13 NT g_b2
          refine Goes.of st13 ?_
          show Goes _ _ _ _ _ _ _ (T13.setTop (mkF m 33 #[.val (.ref a), .val (.ref b), .val (.ref b2), .val (.int i)] []))
          refine Goes.of (fun t k => XS.iinc X13.here hx rfl (hb hby d2_33) rfl (l' := #[.val (.ref a), .val (.ref b), .val (.ref b2), .val (.int (i + (1 : Int32)))]) rfl k) ?_
          show Goes _ _ _ _ _ _ _ (T13.setTop (mkF m 36 #[.val (.ref a), .val (.ref b), .val (.ref b2), .val (.int (i + (1 : Int32)))] []))
          refine Goes.of (fun t k => XS.goto X13.here hx rfl (pc0 := 36) (pc' := 7) rfl (hb hby d2_36) (by decide) (by decide) k) ?_
          show Goes _ _ _ _ _ _ _ (T13.setTop (mkF m 7 #[.val (.ref a), .val (.ref b), .val (.ref b2), .val (.int (i + (1 : Int32)))] []))
          exact ih _ _ _ _ X13 e13 N13 K13 (V13.congr (own_turn (by have := nat_of (own_nn (j := i) hnn); omega) (by rw [G2, if_neg hc5, if_neg hc9]; rfl))) (by rw [own_inc (by omega)]; omega) (by rw [own_inc (by omega)]; omega)
  exact loop n _ _ _ _ X2 e2 N0 K2 (V2.congr fun j hj => (if_neg (by omega)).symm) (by rw [show (0 : Int32).toInt = 0 from rfl]; omega) (by decide)
theorem own_b (x i : Int32) : f1 x i = 0 ∨ f1 x i = 1 := by
  unfold f1
  split
  · exact Or.inl rfl
  · exact Or.inr rfl
theorem own_b1 (x i : Int32) : (f1 x i &&& 1) = f1 x i := by rcases own_b x i with h | h <;> rw [h] <;> rfl
def own_mi (a b : Int32) : Int32 := if (a &&& 1) = (0 : Int32) then (0 : Int32) else (if (b &&& 1) = (0 : Int32) then (1 : Int32) else (0 : Int32))
theorem own_m0 {x i y j : Int32} (h : f1 x i = 0) : own_mi (f1 x i) (f1 y j) = 0 := by rw [own_mi, own_b1, if_pos h]
theorem own_m1 {x i y j : Int32} (h : ¬ f1 x i = 0) (h' : f1 y j = 0) : own_mi (f1 x i) (f1 y j) = 1 := by rw [own_mi, own_b1, if_neg h, own_b1, if_pos h']
theorem own_m2 {x i y j : Int32} (h : ¬ f1 x i = 0) (h' : ¬ f1 y j = 0) : own_mi (f1 x i) (f1 y j) = 0 := by rw [own_mi, own_b1, if_neg h, own_b1, if_neg h']
theorem pd_0 : parseMethodDescriptor "(II)Z" = some ⟨[.int, .int], some .boolean⟩ := by decide +kernel
theorem pd_1 : parseMethodDescriptor "([Z[Z)[Z" = some ⟨[(.array .boolean), (.array .boolean)], some (.array .boolean)⟩ := by decide +kernel
theorem ef_0 (m : MethodId) (u0 : Int32) (u1 : Int32) : entryFrame m #[(.int u0), (.int u1)] maxLocals = mkF m 0 #[.val (.int u0), .val (.int u1), .unset, .unset, .unset, .unset, .unset] [] := by first | (simp [entryFrame, mkF, argsToLocals, Value.category, maxLocals]; done) | rfl
def Q0 (n0 : Nat) (v : Option Value) (h : Heap) (L : List Loc) : Prop := v = some (.int 1) ∧ Fr n0 L
set_option maxRecDepth 65536 in
set_option maxHeartbeats 40000000 in
theorem rm0 (l : Launch) (Z : State) (a0 : Array Value) (hw : ∀ d ∈ tables_1, d.before a0 Z = true) (ws : List Jvm.Cond) (u0 : Int32) (u1 : Int32) (h0 : Heap) (n0 : Nat) (Z0 : n0 ≤ h0.size) :
    MetFree l x (head1 (Jvm.Cond.code x code maxLocals ret :: ws) room_1) (fun ar' Ur => ar' = #[(.int u0), (.int u1)] ∧ Z.Warmed39 Ur.vm ∧ Ur.heap = h0) (fun _ _ _ _ _ => True) (fun _ Ur or' Us => ∃ v L, or' = .returned v ∧ Q0 n0 v Us.heap L ∧ FrameEnd Ur or' Us L room_1.cells room_1.slots) := by
  refine MetFree.of_bodySF (plainFor_of_name pn_0) hisR ?_
  intro p e s m args below meth c s₁ Bd hml0 hP hK
  obtain ⟨rfl, hZ, hh⟩ := hP
  have hx := Bd.exec
  have hby := Bd.bytes
  have hlk : meth.locks = false := BodyLoose.notSynchronized Bd
  have hml : c.maxLocals = 7 := hml0
  have hown : s.vm.findClass "com/example/network_attack_odds/networkattackodds/engine/GoalGraphMinusPinLaw" = some m.cls := findClass_of_methodNamed Bd.named
  have hnm := (name_of_methodNamed Bd.named Bd.method).1
  have X0 : Stand p l e room_1 s m #[(.int u0), (.int u1)] below meth c s₁ [] 0 0 := Stand.of_body Bd
  have e0 : s₁.heap = h0 := by rw [← hh, Bd.state]; rfl
  have N0 := Fr.nil n0
  show Goes p.tables e below s (Q0 n0) room_1.cells room_1.slots (s₁.setTop (entryFrame m #[(.int u0), (.int u1)] maxLocals))
  refine Goes.of (fun t k => castTop (ef_0 m u0 u1) k) ?_
  show Goes _ _ _ _ _ _ _ (s₁.setTop (mkF m 0 #[.val (.int u0), .val (.int u1), .unset, .unset, .unset, .unset, .unset] []))
  refine Goes.of (fun t k => XS.iconst X0.here hx rfl (hb hby at_0) k) ?_
  show Goes _ _ _ _ _ _ _ (s₁.setTop (mkF m 1 #[.val (.int u0), .val (.int u1), .unset, .unset, .unset, .unset, .unset] [(.int (4 : Int32))]))
  obtain ⟨T16, h16, k16, X16, e16, E16, A16, Ea16, st16⟩ := newPE X0 hx hZ (hw _ (List.mem_of_getElem? (i := 0) rfl)) e0 (g := (mkF m 1 #[.val (.int u0), .val (.int u1), .unset, .unset, .unset, .unset, .unset] [(.int (4 : Int32))])) rfl (hb hby at_1) rfl (by decide) (cap := 4) (by decide) (by decide) (by decide) (by decide) (ad := "[Z") (by decide)
  obtain ⟨b16, g16⟩ : ∃ z, z = h0.size := ⟨_, rfl⟩
  rw [← g16] at A16 Ea16 st16
  have V16 : AI Z h16 b16 .boolean 4 (fun _ => 0) := AI.new rfl rfl A16 (by decide) (by decide)
  have g_b16 : n0 ≤ b16 := Nat.le_trans Z0 (Nat.le_of_eq g16.symm)
  have Z16 : n0 ≤ h16.size := Nat.le_trans Z0 E16.1
  refine Goes.of st16 ?_
  show Goes _ _ _ _ _ _ _ (T16.setTop (mkF m 3 #[.val (.int u0), .val (.int u1), .unset, .unset, .unset, .unset, .unset] [(.ref b16)]))
  refine Goes.of (fun t k => XS.astoreN X16.here hx rfl (hb hby at_3) rfl rfl (l' := #[.val (.int u0), .val (.int u1), .val (.ref b16), .unset, .unset, .unset, .unset]) rfl k) ?_
  show Goes _ _ _ _ _ _ _ (T16.setTop (mkF m 4 #[.val (.int u0), .val (.int u1), .val (.ref b16), .unset, .unset, .unset, .unset] []))
  refine Goes.of (fun t k => XS.iconst X16.here hx rfl (hb hby at_4) k) ?_
  show Goes _ _ _ _ _ _ _ (T16.setTop (mkF m 5 #[.val (.int u0), .val (.int u1), .val (.ref b16), .unset, .unset, .unset, .unset] [(.int (4 : Int32))]))
  obtain ⟨T17, h17, k17, X17, e17, E17, A17, Ea17, st17⟩ := newPE X16 hx hZ (hw _ (List.mem_of_getElem? (i := 0) rfl)) e16 (g := (mkF m 5 #[.val (.int u0), .val (.int u1), .val (.ref b16), .unset, .unset, .unset, .unset] [(.int (4 : Int32))])) rfl (hb hby at_5) rfl (by decide) (cap := 4) (by decide) (by decide) (by decide) (by decide) (ad := "[Z") (by decide)
  obtain ⟨b17, g17⟩ : ∃ z, z = h16.size := ⟨_, rfl⟩
  rw [← g17] at A17 Ea17 st17
  have V17 : AI Z h17 b17 .boolean 4 (fun _ => 0) := AI.new rfl rfl A17 (by decide) (by decide)
  have ne_b16_b17 : b16 ≠ b17 := Nat.ne_of_lt (Nat.lt_of_lt_of_le V16.lt (Nat.le_of_eq g17.symm))
  have g_b17 : n0 ≤ b17 := Nat.le_trans Z16 (Nat.le_of_eq g17.symm)
  have F18 := V16.ext E17
  have Z17 : n0 ≤ h17.size := Nat.le_trans Z16 E17.1
  refine Goes.of st17 ?_
  show Goes _ _ _ _ _ _ _ (T17.setTop (mkF m 7 #[.val (.int u0), .val (.int u1), .val (.ref b16), .unset, .unset, .unset, .unset] [(.ref b17)]))
  refine Goes.of (fun t k => XS.astoreN X17.here hx rfl (hb hby at_7) rfl rfl (l' := #[.val (.int u0), .val (.int u1), .val (.ref b16), .val (.ref b17), .unset, .unset, .unset]) rfl k) ?_
  show Goes _ _ _ _ _ _ _ (T17.setTop (mkF m 8 #[.val (.int u0), .val (.int u1), .val (.ref b16), .val (.ref b17), .unset, .unset, .unset] []))
  refine Goes.of (fun t k => XS.aloadN X17.here hx rfl (hb hby at_8) rfl rfl k) ?_
  show Goes _ _ _ _ _ _ _ (T17.setTop (mkF m 9 #[.val (.int u0), .val (.int u1), .val (.ref b16), .val (.ref b17), .unset, .unset, .unset] [(.ref b16)]))
  refine Goes.of (fun t k => XS.iconst X17.here hx rfl (hb hby at_9) k) ?_
  show Goes _ _ _ _ _ _ _ (T17.setTop (mkF m 10 #[.val (.int u0), .val (.int u1), .val (.ref b16), .val (.ref b17), .unset, .unset, .unset] [(.int (0 : Int32)), (.ref b16)]))
  refine Goes.of (fun t k => XS.iloadN X17.here hx rfl (hb hby at_10) rfl k) ?_
  show Goes _ _ _ _ _ _ _ (T17.setTop (mkF m 11 #[.val (.int u0), .val (.int u1), .val (.ref b16), .val (.ref b17), .unset, .unset, .unset] [(.int u0), (.int (0 : Int32)), (.ref b16)]))
  refine Goes.of (fun t k => XS.iconst X17.here hx rfl (hb hby at_11) k) ?_
  show Goes _ _ _ _ _ _ _ (T17.setTop (mkF m 12 #[.val (.int u0), .val (.int u1), .val (.ref b16), .val (.ref b17), .unset, .unset, .unset] [(.int (0 : Int32)), (.int u0), (.int (0 : Int32)), (.ref b16)]))
  obtain ⟨_, _, ⟨T19, L19, k19, n19⟩, -, X19, ⟨Lc19, hQ19, l19, y19, z19⟩, st19⟩ := Jvm.LawKit.callS X17 hx (y := (⟨"com/example/network_attack_odds/networkattackodds/engine/GoalGraphMinusPinLaw", "bit", "(II)Z"⟩ : MethodName)) hown (mvT hZ (hw _ (List.mem_of_getElem? (i := 1) rfl))) (mvT hZ (hw _ (List.mem_of_getElem? (i := 2) rfl))) (mvT hZ (hw _ (List.mem_of_getElem? (i := 3) rfl))) (mvT hZ (hw _ (List.mem_of_getElem? (i := 4) rfl))) (by decide) (backOf (W := 2) (rm1 l Z a0 hw [] u0 (0 : Int32)  h17 n0 ) hZ (hw _ (List.mem_of_getElem? (i := 4) rfl)) (hw _ (List.mem_of_getElem? (i := 3) rfl)) (by decide) (by decide)) (g := (mkF m 12 #[.val (.int u0), .val (.int u1), .val (.ref b16), .val (.ref b17), .unset, .unset, .unset] [(.int (0 : Int32)), (.int u0), (.int (0 : Int32)), (.ref b16)])) rfl (by rw [hml]; rfl) (argsL := [(.int u0), (.int (0 : Int32))]) (rest := [(.int (0 : Int32)), (.ref b16)]) (lenOf pd_0 rfl) rfl (by show 2 * 0 + _ ≤ _; exact Nat.le_of_eq rfl) (hb hby at_12) (fun _ _ => ⟨rfl, e17, (by decide : 2 + 0 ≤ _), (by decide : 8 + 0 ≤ _)⟩)
  dsimp only [Pt.U, Pt.locs, Pt.cells, Pt.slots] at X19 l19 y19 z19 st19 hQ19
  subst l19 y19 z19
  obtain ⟨rfl, N19q, e19⟩ := hQ19
  have N19 := Fr.app N0 N19q
  refine Goes.of st19 ?_
  show Goes _ _ _ _ _ _ _ (T19.setTop (mkF m 15 #[.val (.int u0), .val (.int u1), .val (.ref b16), .val (.ref b17), .unset, .unset, .unset] [(.int (f1 u0 (0 : Int32))), (.int (0 : Int32)), (.ref b16)]))
  obtain ⟨T20, h20, X20, e20, W20, V20, st20⟩ := putZ X19 hx hZ e19 F18 (j := (0 : Int32)) (x := (f1 u0 (0 : Int32))) (i := 0) (by decide) (by decide) (by decide) (g := (mkF m 15 #[.val (.int u0), .val (.int u1), .val (.ref b16), .val (.ref b17), .unset, .unset, .unset] [(.int (f1 u0 (0 : Int32))), (.int (0 : Int32)), (.ref b16)])) rfl rfl (hb hby at_15)
  have F21 := V17.other W20 (Ne.symm ne_b16_b17)
  have Z20 : n0 ≤ h20.size := Nat.le_trans Z17 (Keep.of_wr W20).1
  have N20 := Fr.snoc X20 N19 g_b16
  refine Goes.of st20 ?_
  show Goes _ _ _ _ _ _ _ (T20.setTop (mkF m 16 #[.val (.int u0), .val (.int u1), .val (.ref b16), .val (.ref b17), .unset, .unset, .unset] []))
  refine Goes.of (fun t k => XS.aloadN X20.here hx rfl (hb hby at_16) rfl rfl k) ?_
  show Goes _ _ _ _ _ _ _ (T20.setTop (mkF m 17 #[.val (.int u0), .val (.int u1), .val (.ref b16), .val (.ref b17), .unset, .unset, .unset] [(.ref b16)]))
  refine Goes.of (fun t k => XS.iconst X20.here hx rfl (hb hby at_17) k) ?_
  show Goes _ _ _ _ _ _ _ (T20.setTop (mkF m 18 #[.val (.int u0), .val (.int u1), .val (.ref b16), .val (.ref b17), .unset, .unset, .unset] [(.int (1 : Int32)), (.ref b16)]))
  refine Goes.of (fun t k => XS.iloadN X20.here hx rfl (hb hby at_18) rfl k) ?_
  show Goes _ _ _ _ _ _ _ (T20.setTop (mkF m 19 #[.val (.int u0), .val (.int u1), .val (.ref b16), .val (.ref b17), .unset, .unset, .unset] [(.int u0), (.int (1 : Int32)), (.ref b16)]))
  refine Goes.of (fun t k => XS.iconst X20.here hx rfl (hb hby at_19) k) ?_
  show Goes _ _ _ _ _ _ _ (T20.setTop (mkF m 20 #[.val (.int u0), .val (.int u1), .val (.ref b16), .val (.ref b17), .unset, .unset, .unset] [(.int (1 : Int32)), (.int u0), (.int (1 : Int32)), (.ref b16)]))
  obtain ⟨_, _, ⟨T22, L22, k22, n22⟩, -, X22, ⟨Lc22, hQ22, l22, y22, z22⟩, st22⟩ := Jvm.LawKit.callS X20 hx (y := (⟨"com/example/network_attack_odds/networkattackodds/engine/GoalGraphMinusPinLaw", "bit", "(II)Z"⟩ : MethodName)) hown (mvT hZ (hw _ (List.mem_of_getElem? (i := 1) rfl))) (mvT hZ (hw _ (List.mem_of_getElem? (i := 2) rfl))) (mvT hZ (hw _ (List.mem_of_getElem? (i := 3) rfl))) (mvT hZ (hw _ (List.mem_of_getElem? (i := 4) rfl))) (by decide) (backOf (W := 2) (rm1 l Z a0 hw [] u0 (1 : Int32)  h20 n0 ) hZ (hw _ (List.mem_of_getElem? (i := 4) rfl)) (hw _ (List.mem_of_getElem? (i := 3) rfl)) (by decide) (by decide)) (g := (mkF m 20 #[.val (.int u0), .val (.int u1), .val (.ref b16), .val (.ref b17), .unset, .unset, .unset] [(.int (1 : Int32)), (.int u0), (.int (1 : Int32)), (.ref b16)])) rfl (by rw [hml]; rfl) (argsL := [(.int u0), (.int (1 : Int32))]) (rest := [(.int (1 : Int32)), (.ref b16)]) (lenOf pd_0 rfl) rfl (by show 2 * 0 + _ ≤ _; exact Nat.le_of_eq rfl) (hb hby at_20) (fun _ _ => ⟨rfl, e20, (by decide : 2 + 0 ≤ _), (by decide : 8 + 0 ≤ _)⟩)
  dsimp only [Pt.U, Pt.locs, Pt.cells, Pt.slots] at X22 l22 y22 z22 st22 hQ22
  subst l22 y22 z22
  obtain ⟨rfl, N22q, e22⟩ := hQ22
  have N22 := Fr.app N20 N22q
  refine Goes.of st22 ?_
  show Goes _ _ _ _ _ _ _ (T22.setTop (mkF m 23 #[.val (.int u0), .val (.int u1), .val (.ref b16), .val (.ref b17), .unset, .unset, .unset] [(.int (f1 u0 (1 : Int32))), (.int (1 : Int32)), (.ref b16)]))
  obtain ⟨T23, h23, X23, e23, W23, V23, st23⟩ := putZ X22 hx hZ e22 V20 (j := (1 : Int32)) (x := (f1 u0 (1 : Int32))) (i := 1) (by decide) (by decide) (by decide) (g := (mkF m 23 #[.val (.int u0), .val (.int u1), .val (.ref b16), .val (.ref b17), .unset, .unset, .unset] [(.int (f1 u0 (1 : Int32))), (.int (1 : Int32)), (.ref b16)])) rfl rfl (hb hby at_23)
  have F24 := F21.other W23 (Ne.symm ne_b16_b17)
  have Z23 : n0 ≤ h23.size := Nat.le_trans Z20 (Keep.of_wr W23).1
  have N23 := Fr.snoc X23 N22 g_b16
  refine Goes.of st23 ?_
  show Goes _ _ _ _ _ _ _ (T23.setTop (mkF m 24 #[.val (.int u0), .val (.int u1), .val (.ref b16), .val (.ref b17), .unset, .unset, .unset] []))
  refine Goes.of (fun t k => XS.aloadN X23.here hx rfl (hb hby at_24) rfl rfl k) ?_
  show Goes _ _ _ _ _ _ _ (T23.setTop (mkF m 25 #[.val (.int u0), .val (.int u1), .val (.ref b16), .val (.ref b17), .unset, .unset, .unset] [(.ref b16)]))
  refine Goes.of (fun t k => XS.iconst X23.here hx rfl (hb hby at_25) k) ?_
  show Goes _ _ _ _ _ _ _ (T23.setTop (mkF m 26 #[.val (.int u0), .val (.int u1), .val (.ref b16), .val (.ref b17), .unset, .unset, .unset] [(.int (2 : Int32)), (.ref b16)]))
  refine Goes.of (fun t k => XS.iloadN X23.here hx rfl (hb hby at_26) rfl k) ?_
  show Goes _ _ _ _ _ _ _ (T23.setTop (mkF m 27 #[.val (.int u0), .val (.int u1), .val (.ref b16), .val (.ref b17), .unset, .unset, .unset] [(.int u0), (.int (2 : Int32)), (.ref b16)]))
  refine Goes.of (fun t k => XS.iconst X23.here hx rfl (hb hby at_27) k) ?_
  show Goes _ _ _ _ _ _ _ (T23.setTop (mkF m 28 #[.val (.int u0), .val (.int u1), .val (.ref b16), .val (.ref b17), .unset, .unset, .unset] [(.int (2 : Int32)), (.int u0), (.int (2 : Int32)), (.ref b16)]))
  obtain ⟨_, _, ⟨T25, L25, k25, n25⟩, -, X25, ⟨Lc25, hQ25, l25, y25, z25⟩, st25⟩ := Jvm.LawKit.callS X23 hx (y := (⟨"com/example/network_attack_odds/networkattackodds/engine/GoalGraphMinusPinLaw", "bit", "(II)Z"⟩ : MethodName)) hown (mvT hZ (hw _ (List.mem_of_getElem? (i := 1) rfl))) (mvT hZ (hw _ (List.mem_of_getElem? (i := 2) rfl))) (mvT hZ (hw _ (List.mem_of_getElem? (i := 3) rfl))) (mvT hZ (hw _ (List.mem_of_getElem? (i := 4) rfl))) (by decide) (backOf (W := 2) (rm1 l Z a0 hw [] u0 (2 : Int32)  h23 n0 ) hZ (hw _ (List.mem_of_getElem? (i := 4) rfl)) (hw _ (List.mem_of_getElem? (i := 3) rfl)) (by decide) (by decide)) (g := (mkF m 28 #[.val (.int u0), .val (.int u1), .val (.ref b16), .val (.ref b17), .unset, .unset, .unset] [(.int (2 : Int32)), (.int u0), (.int (2 : Int32)), (.ref b16)])) rfl (by rw [hml]; rfl) (argsL := [(.int u0), (.int (2 : Int32))]) (rest := [(.int (2 : Int32)), (.ref b16)]) (lenOf pd_0 rfl) rfl (by show 2 * 0 + _ ≤ _; exact Nat.le_of_eq rfl) (hb hby at_28) (fun _ _ => ⟨rfl, e23, (by decide : 2 + 0 ≤ _), (by decide : 8 + 0 ≤ _)⟩)
  dsimp only [Pt.U, Pt.locs, Pt.cells, Pt.slots] at X25 l25 y25 z25 st25 hQ25
  subst l25 y25 z25
  obtain ⟨rfl, N25q, e25⟩ := hQ25
  have N25 := Fr.app N23 N25q
  refine Goes.of st25 ?_
  show Goes _ _ _ _ _ _ _ (T25.setTop (mkF m 31 #[.val (.int u0), .val (.int u1), .val (.ref b16), .val (.ref b17), .unset, .unset, .unset] [(.int (f1 u0 (2 : Int32))), (.int (2 : Int32)), (.ref b16)]))
  obtain ⟨T26, h26, X26, e26, W26, V26, st26⟩ := putZ X25 hx hZ e25 V23 (j := (2 : Int32)) (x := (f1 u0 (2 : Int32))) (i := 2) (by decide) (by decide) (by decide) (g := (mkF m 31 #[.val (.int u0), .val (.int u1), .val (.ref b16), .val (.ref b17), .unset, .unset, .unset] [(.int (f1 u0 (2 : Int32))), (.int (2 : Int32)), (.ref b16)])) rfl rfl (hb hby at_31)
  have F27 := F24.other W26 (Ne.symm ne_b16_b17)
  have Z26 : n0 ≤ h26.size := Nat.le_trans Z23 (Keep.of_wr W26).1
  have N26 := Fr.snoc X26 N25 g_b16
  refine Goes.of st26 ?_
  show Goes _ _ _ _ _ _ _ (T26.setTop (mkF m 32 #[.val (.int u0), .val (.int u1), .val (.ref b16), .val (.ref b17), .unset, .unset, .unset] []))
  refine Goes.of (fun t k => XS.aloadN X26.here hx rfl (hb hby at_32) rfl rfl k) ?_
  show Goes _ _ _ _ _ _ _ (T26.setTop (mkF m 33 #[.val (.int u0), .val (.int u1), .val (.ref b16), .val (.ref b17), .unset, .unset, .unset] [(.ref b16)]))
  refine Goes.of (fun t k => XS.iconst X26.here hx rfl (hb hby at_33) k) ?_
  show Goes _ _ _ _ _ _ _ (T26.setTop (mkF m 34 #[.val (.int u0), .val (.int u1), .val (.ref b16), .val (.ref b17), .unset, .unset, .unset] [(.int (3 : Int32)), (.ref b16)]))
  refine Goes.of (fun t k => XS.iloadN X26.here hx rfl (hb hby at_34) rfl k) ?_
  show Goes _ _ _ _ _ _ _ (T26.setTop (mkF m 35 #[.val (.int u0), .val (.int u1), .val (.ref b16), .val (.ref b17), .unset, .unset, .unset] [(.int u0), (.int (3 : Int32)), (.ref b16)]))
  refine Goes.of (fun t k => XS.iconst X26.here hx rfl (hb hby at_35) k) ?_
  show Goes _ _ _ _ _ _ _ (T26.setTop (mkF m 36 #[.val (.int u0), .val (.int u1), .val (.ref b16), .val (.ref b17), .unset, .unset, .unset] [(.int (3 : Int32)), (.int u0), (.int (3 : Int32)), (.ref b16)]))
  obtain ⟨_, _, ⟨T28, L28, k28, n28⟩, -, X28, ⟨Lc28, hQ28, l28, y28, z28⟩, st28⟩ := Jvm.LawKit.callS X26 hx (y := (⟨"com/example/network_attack_odds/networkattackodds/engine/GoalGraphMinusPinLaw", "bit", "(II)Z"⟩ : MethodName)) hown (mvT hZ (hw _ (List.mem_of_getElem? (i := 1) rfl))) (mvT hZ (hw _ (List.mem_of_getElem? (i := 2) rfl))) (mvT hZ (hw _ (List.mem_of_getElem? (i := 3) rfl))) (mvT hZ (hw _ (List.mem_of_getElem? (i := 4) rfl))) (by decide) (backOf (W := 2) (rm1 l Z a0 hw [] u0 (3 : Int32)  h26 n0 ) hZ (hw _ (List.mem_of_getElem? (i := 4) rfl)) (hw _ (List.mem_of_getElem? (i := 3) rfl)) (by decide) (by decide)) (g := (mkF m 36 #[.val (.int u0), .val (.int u1), .val (.ref b16), .val (.ref b17), .unset, .unset, .unset] [(.int (3 : Int32)), (.int u0), (.int (3 : Int32)), (.ref b16)])) rfl (by rw [hml]; rfl) (argsL := [(.int u0), (.int (3 : Int32))]) (rest := [(.int (3 : Int32)), (.ref b16)]) (lenOf pd_0 rfl) rfl (by show 2 * 0 + _ ≤ _; exact Nat.le_of_eq rfl) (hb hby at_36) (fun _ _ => ⟨rfl, e26, (by decide : 2 + 0 ≤ _), (by decide : 8 + 0 ≤ _)⟩)
  dsimp only [Pt.U, Pt.locs, Pt.cells, Pt.slots] at X28 l28 y28 z28 st28 hQ28
  subst l28 y28 z28
  obtain ⟨rfl, N28q, e28⟩ := hQ28
  have N28 := Fr.app N26 N28q
  refine Goes.of st28 ?_
  show Goes _ _ _ _ _ _ _ (T28.setTop (mkF m 39 #[.val (.int u0), .val (.int u1), .val (.ref b16), .val (.ref b17), .unset, .unset, .unset] [(.int (f1 u0 (3 : Int32))), (.int (3 : Int32)), (.ref b16)]))
  obtain ⟨T29, h29, X29, e29, W29, V29, st29⟩ := putZ X28 hx hZ e28 V26 (j := (3 : Int32)) (x := (f1 u0 (3 : Int32))) (i := 3) (by decide) (by decide) (by decide) (g := (mkF m 39 #[.val (.int u0), .val (.int u1), .val (.ref b16), .val (.ref b17), .unset, .unset, .unset] [(.int (f1 u0 (3 : Int32))), (.int (3 : Int32)), (.ref b16)])) rfl rfl (hb hby at_39)
  have F30 := F27.other W29 (Ne.symm ne_b16_b17)
  have Z29 : n0 ≤ h29.size := Nat.le_trans Z26 (Keep.of_wr W29).1
  have N29 := Fr.snoc X29 N28 g_b16
  refine Goes.of st29 ?_
  show Goes _ _ _ _ _ _ _ (T29.setTop (mkF m 40 #[.val (.int u0), .val (.int u1), .val (.ref b16), .val (.ref b17), .unset, .unset, .unset] []))
  refine Goes.of (fun t k => XS.aloadN X29.here hx rfl (hb hby at_40) rfl rfl k) ?_
  show Goes _ _ _ _ _ _ _ (T29.setTop (mkF m 41 #[.val (.int u0), .val (.int u1), .val (.ref b16), .val (.ref b17), .unset, .unset, .unset] [(.ref b17)]))
  refine Goes.of (fun t k => XS.iconst X29.here hx rfl (hb hby at_41) k) ?_
  show Goes _ _ _ _ _ _ _ (T29.setTop (mkF m 42 #[.val (.int u0), .val (.int u1), .val (.ref b16), .val (.ref b17), .unset, .unset, .unset] [(.int (0 : Int32)), (.ref b17)]))
  refine Goes.of (fun t k => XS.iloadN X29.here hx rfl (hb hby at_42) rfl k) ?_
  show Goes _ _ _ _ _ _ _ (T29.setTop (mkF m 43 #[.val (.int u0), .val (.int u1), .val (.ref b16), .val (.ref b17), .unset, .unset, .unset] [(.int u1), (.int (0 : Int32)), (.ref b17)]))
  refine Goes.of (fun t k => XS.iconst X29.here hx rfl (hb hby at_43) k) ?_
  show Goes _ _ _ _ _ _ _ (T29.setTop (mkF m 44 #[.val (.int u0), .val (.int u1), .val (.ref b16), .val (.ref b17), .unset, .unset, .unset] [(.int (0 : Int32)), (.int u1), (.int (0 : Int32)), (.ref b17)]))
  obtain ⟨_, _, ⟨T31, L31, k31, n31⟩, -, X31, ⟨Lc31, hQ31, l31, y31, z31⟩, st31⟩ := Jvm.LawKit.callS X29 hx (y := (⟨"com/example/network_attack_odds/networkattackodds/engine/GoalGraphMinusPinLaw", "bit", "(II)Z"⟩ : MethodName)) hown (mvT hZ (hw _ (List.mem_of_getElem? (i := 1) rfl))) (mvT hZ (hw _ (List.mem_of_getElem? (i := 2) rfl))) (mvT hZ (hw _ (List.mem_of_getElem? (i := 3) rfl))) (mvT hZ (hw _ (List.mem_of_getElem? (i := 4) rfl))) (by decide) (backOf (W := 2) (rm1 l Z a0 hw [] u1 (0 : Int32)  h29 n0 ) hZ (hw _ (List.mem_of_getElem? (i := 4) rfl)) (hw _ (List.mem_of_getElem? (i := 3) rfl)) (by decide) (by decide)) (g := (mkF m 44 #[.val (.int u0), .val (.int u1), .val (.ref b16), .val (.ref b17), .unset, .unset, .unset] [(.int (0 : Int32)), (.int u1), (.int (0 : Int32)), (.ref b17)])) rfl (by rw [hml]; rfl) (argsL := [(.int u1), (.int (0 : Int32))]) (rest := [(.int (0 : Int32)), (.ref b17)]) (lenOf pd_0 rfl) rfl (by show 2 * 0 + _ ≤ _; exact Nat.le_of_eq rfl) (hb hby at_44) (fun _ _ => ⟨rfl, e29, (by decide : 2 + 0 ≤ _), (by decide : 8 + 0 ≤ _)⟩)
  dsimp only [Pt.U, Pt.locs, Pt.cells, Pt.slots] at X31 l31 y31 z31 st31 hQ31
  subst l31 y31 z31
  obtain ⟨rfl, N31q, e31⟩ := hQ31
  have N31 := Fr.app N29 N31q
  refine Goes.of st31 ?_
  show Goes _ _ _ _ _ _ _ (T31.setTop (mkF m 47 #[.val (.int u0), .val (.int u1), .val (.ref b16), .val (.ref b17), .unset, .unset, .unset] [(.int (f1 u1 (0 : Int32))), (.int (0 : Int32)), (.ref b17)]))
  obtain ⟨T32, h32, X32, e32, W32, V32, st32⟩ := putZ X31 hx hZ e31 F30 (j := (0 : Int32)) (x := (f1 u1 (0 : Int32))) (i := 0) (by decide) (by decide) (by decide) (g := (mkF m 47 #[.val (.int u0), .val (.int u1), .val (.ref b16), .val (.ref b17), .unset, .unset, .unset] [(.int (f1 u1 (0 : Int32))), (.int (0 : Int32)), (.ref b17)])) rfl rfl (hb hby at_47)
  have F33 := V29.other W32 ne_b16_b17
  have Z32 : n0 ≤ h32.size := Nat.le_trans Z29 (Keep.of_wr W32).1
  have N32 := Fr.snoc X32 N31 g_b17
  refine Goes.of st32 ?_
  show Goes _ _ _ _ _ _ _ (T32.setTop (mkF m 48 #[.val (.int u0), .val (.int u1), .val (.ref b16), .val (.ref b17), .unset, .unset, .unset] []))
  refine Goes.of (fun t k => XS.aloadN X32.here hx rfl (hb hby at_48) rfl rfl k) ?_
  show Goes _ _ _ _ _ _ _ (T32.setTop (mkF m 49 #[.val (.int u0), .val (.int u1), .val (.ref b16), .val (.ref b17), .unset, .unset, .unset] [(.ref b17)]))
  refine Goes.of (fun t k => XS.iconst X32.here hx rfl (hb hby at_49) k) ?_
  show Goes _ _ _ _ _ _ _ (T32.setTop (mkF m 50 #[.val (.int u0), .val (.int u1), .val (.ref b16), .val (.ref b17), .unset, .unset, .unset] [(.int (1 : Int32)), (.ref b17)]))
  refine Goes.of (fun t k => XS.iloadN X32.here hx rfl (hb hby at_50) rfl k) ?_
  show Goes _ _ _ _ _ _ _ (T32.setTop (mkF m 51 #[.val (.int u0), .val (.int u1), .val (.ref b16), .val (.ref b17), .unset, .unset, .unset] [(.int u1), (.int (1 : Int32)), (.ref b17)]))
  refine Goes.of (fun t k => XS.iconst X32.here hx rfl (hb hby at_51) k) ?_
  show Goes _ _ _ _ _ _ _ (T32.setTop (mkF m 52 #[.val (.int u0), .val (.int u1), .val (.ref b16), .val (.ref b17), .unset, .unset, .unset] [(.int (1 : Int32)), (.int u1), (.int (1 : Int32)), (.ref b17)]))
  obtain ⟨_, _, ⟨T34, L34, k34, n34⟩, -, X34, ⟨Lc34, hQ34, l34, y34, z34⟩, st34⟩ := Jvm.LawKit.callS X32 hx (y := (⟨"com/example/network_attack_odds/networkattackodds/engine/GoalGraphMinusPinLaw", "bit", "(II)Z"⟩ : MethodName)) hown (mvT hZ (hw _ (List.mem_of_getElem? (i := 1) rfl))) (mvT hZ (hw _ (List.mem_of_getElem? (i := 2) rfl))) (mvT hZ (hw _ (List.mem_of_getElem? (i := 3) rfl))) (mvT hZ (hw _ (List.mem_of_getElem? (i := 4) rfl))) (by decide) (backOf (W := 2) (rm1 l Z a0 hw [] u1 (1 : Int32)  h32 n0 ) hZ (hw _ (List.mem_of_getElem? (i := 4) rfl)) (hw _ (List.mem_of_getElem? (i := 3) rfl)) (by decide) (by decide)) (g := (mkF m 52 #[.val (.int u0), .val (.int u1), .val (.ref b16), .val (.ref b17), .unset, .unset, .unset] [(.int (1 : Int32)), (.int u1), (.int (1 : Int32)), (.ref b17)])) rfl (by rw [hml]; rfl) (argsL := [(.int u1), (.int (1 : Int32))]) (rest := [(.int (1 : Int32)), (.ref b17)]) (lenOf pd_0 rfl) rfl (by show 2 * 0 + _ ≤ _; exact Nat.le_of_eq rfl) (hb hby at_52) (fun _ _ => ⟨rfl, e32, (by decide : 2 + 0 ≤ _), (by decide : 8 + 0 ≤ _)⟩)
  dsimp only [Pt.U, Pt.locs, Pt.cells, Pt.slots] at X34 l34 y34 z34 st34 hQ34
  subst l34 y34 z34
  obtain ⟨rfl, N34q, e34⟩ := hQ34
  have N34 := Fr.app N32 N34q
  refine Goes.of st34 ?_
  show Goes _ _ _ _ _ _ _ (T34.setTop (mkF m 55 #[.val (.int u0), .val (.int u1), .val (.ref b16), .val (.ref b17), .unset, .unset, .unset] [(.int (f1 u1 (1 : Int32))), (.int (1 : Int32)), (.ref b17)]))
  obtain ⟨T35, h35, X35, e35, W35, V35, st35⟩ := putZ X34 hx hZ e34 V32 (j := (1 : Int32)) (x := (f1 u1 (1 : Int32))) (i := 1) (by decide) (by decide) (by decide) (g := (mkF m 55 #[.val (.int u0), .val (.int u1), .val (.ref b16), .val (.ref b17), .unset, .unset, .unset] [(.int (f1 u1 (1 : Int32))), (.int (1 : Int32)), (.ref b17)])) rfl rfl (hb hby at_55)
  have F36 := F33.other W35 ne_b16_b17
  have Z35 : n0 ≤ h35.size := Nat.le_trans Z32 (Keep.of_wr W35).1
  have N35 := Fr.snoc X35 N34 g_b17
  refine Goes.of st35 ?_
  show Goes _ _ _ _ _ _ _ (T35.setTop (mkF m 56 #[.val (.int u0), .val (.int u1), .val (.ref b16), .val (.ref b17), .unset, .unset, .unset] []))
  refine Goes.of (fun t k => XS.aloadN X35.here hx rfl (hb hby at_56) rfl rfl k) ?_
  show Goes _ _ _ _ _ _ _ (T35.setTop (mkF m 57 #[.val (.int u0), .val (.int u1), .val (.ref b16), .val (.ref b17), .unset, .unset, .unset] [(.ref b17)]))
  refine Goes.of (fun t k => XS.iconst X35.here hx rfl (hb hby at_57) k) ?_
  show Goes _ _ _ _ _ _ _ (T35.setTop (mkF m 58 #[.val (.int u0), .val (.int u1), .val (.ref b16), .val (.ref b17), .unset, .unset, .unset] [(.int (2 : Int32)), (.ref b17)]))
  refine Goes.of (fun t k => XS.iloadN X35.here hx rfl (hb hby at_58) rfl k) ?_
  show Goes _ _ _ _ _ _ _ (T35.setTop (mkF m 59 #[.val (.int u0), .val (.int u1), .val (.ref b16), .val (.ref b17), .unset, .unset, .unset] [(.int u1), (.int (2 : Int32)), (.ref b17)]))
  refine Goes.of (fun t k => XS.iconst X35.here hx rfl (hb hby at_59) k) ?_
  show Goes _ _ _ _ _ _ _ (T35.setTop (mkF m 60 #[.val (.int u0), .val (.int u1), .val (.ref b16), .val (.ref b17), .unset, .unset, .unset] [(.int (2 : Int32)), (.int u1), (.int (2 : Int32)), (.ref b17)]))
  obtain ⟨_, _, ⟨T37, L37, k37, n37⟩, -, X37, ⟨Lc37, hQ37, l37, y37, z37⟩, st37⟩ := Jvm.LawKit.callS X35 hx (y := (⟨"com/example/network_attack_odds/networkattackodds/engine/GoalGraphMinusPinLaw", "bit", "(II)Z"⟩ : MethodName)) hown (mvT hZ (hw _ (List.mem_of_getElem? (i := 1) rfl))) (mvT hZ (hw _ (List.mem_of_getElem? (i := 2) rfl))) (mvT hZ (hw _ (List.mem_of_getElem? (i := 3) rfl))) (mvT hZ (hw _ (List.mem_of_getElem? (i := 4) rfl))) (by decide) (backOf (W := 2) (rm1 l Z a0 hw [] u1 (2 : Int32)  h35 n0 ) hZ (hw _ (List.mem_of_getElem? (i := 4) rfl)) (hw _ (List.mem_of_getElem? (i := 3) rfl)) (by decide) (by decide)) (g := (mkF m 60 #[.val (.int u0), .val (.int u1), .val (.ref b16), .val (.ref b17), .unset, .unset, .unset] [(.int (2 : Int32)), (.int u1), (.int (2 : Int32)), (.ref b17)])) rfl (by rw [hml]; rfl) (argsL := [(.int u1), (.int (2 : Int32))]) (rest := [(.int (2 : Int32)), (.ref b17)]) (lenOf pd_0 rfl) rfl (by show 2 * 0 + _ ≤ _; exact Nat.le_of_eq rfl) (hb hby at_60) (fun _ _ => ⟨rfl, e35, (by decide : 2 + 0 ≤ _), (by decide : 8 + 0 ≤ _)⟩)
  dsimp only [Pt.U, Pt.locs, Pt.cells, Pt.slots] at X37 l37 y37 z37 st37 hQ37
  subst l37 y37 z37
  obtain ⟨rfl, N37q, e37⟩ := hQ37
  have N37 := Fr.app N35 N37q
  refine Goes.of st37 ?_
  show Goes _ _ _ _ _ _ _ (T37.setTop (mkF m 63 #[.val (.int u0), .val (.int u1), .val (.ref b16), .val (.ref b17), .unset, .unset, .unset] [(.int (f1 u1 (2 : Int32))), (.int (2 : Int32)), (.ref b17)]))
  obtain ⟨T38, h38, X38, e38, W38, V38, st38⟩ := putZ X37 hx hZ e37 V35 (j := (2 : Int32)) (x := (f1 u1 (2 : Int32))) (i := 2) (by decide) (by decide) (by decide) (g := (mkF m 63 #[.val (.int u0), .val (.int u1), .val (.ref b16), .val (.ref b17), .unset, .unset, .unset] [(.int (f1 u1 (2 : Int32))), (.int (2 : Int32)), (.ref b17)])) rfl rfl (hb hby at_63)
  have F39 := F36.other W38 ne_b16_b17
  have Z38 : n0 ≤ h38.size := Nat.le_trans Z35 (Keep.of_wr W38).1
  have N38 := Fr.snoc X38 N37 g_b17
  refine Goes.of st38 ?_
  show Goes _ _ _ _ _ _ _ (T38.setTop (mkF m 64 #[.val (.int u0), .val (.int u1), .val (.ref b16), .val (.ref b17), .unset, .unset, .unset] []))
  refine Goes.of (fun t k => XS.aloadN X38.here hx rfl (hb hby at_64) rfl rfl k) ?_
  show Goes _ _ _ _ _ _ _ (T38.setTop (mkF m 65 #[.val (.int u0), .val (.int u1), .val (.ref b16), .val (.ref b17), .unset, .unset, .unset] [(.ref b17)]))
  refine Goes.of (fun t k => XS.iconst X38.here hx rfl (hb hby at_65) k) ?_
  show Goes _ _ _ _ _ _ _ (T38.setTop (mkF m 66 #[.val (.int u0), .val (.int u1), .val (.ref b16), .val (.ref b17), .unset, .unset, .unset] [(.int (3 : Int32)), (.ref b17)]))
  refine Goes.of (fun t k => XS.iloadN X38.here hx rfl (hb hby at_66) rfl k) ?_
  show Goes _ _ _ _ _ _ _ (T38.setTop (mkF m 67 #[.val (.int u0), .val (.int u1), .val (.ref b16), .val (.ref b17), .unset, .unset, .unset] [(.int u1), (.int (3 : Int32)), (.ref b17)]))
  refine Goes.of (fun t k => XS.iconst X38.here hx rfl (hb hby at_67) k) ?_
  show Goes _ _ _ _ _ _ _ (T38.setTop (mkF m 68 #[.val (.int u0), .val (.int u1), .val (.ref b16), .val (.ref b17), .unset, .unset, .unset] [(.int (3 : Int32)), (.int u1), (.int (3 : Int32)), (.ref b17)]))
  obtain ⟨_, _, ⟨T40, L40, k40, n40⟩, -, X40, ⟨Lc40, hQ40, l40, y40, z40⟩, st40⟩ := Jvm.LawKit.callS X38 hx (y := (⟨"com/example/network_attack_odds/networkattackodds/engine/GoalGraphMinusPinLaw", "bit", "(II)Z"⟩ : MethodName)) hown (mvT hZ (hw _ (List.mem_of_getElem? (i := 1) rfl))) (mvT hZ (hw _ (List.mem_of_getElem? (i := 2) rfl))) (mvT hZ (hw _ (List.mem_of_getElem? (i := 3) rfl))) (mvT hZ (hw _ (List.mem_of_getElem? (i := 4) rfl))) (by decide) (backOf (W := 2) (rm1 l Z a0 hw [] u1 (3 : Int32)  h38 n0 ) hZ (hw _ (List.mem_of_getElem? (i := 4) rfl)) (hw _ (List.mem_of_getElem? (i := 3) rfl)) (by decide) (by decide)) (g := (mkF m 68 #[.val (.int u0), .val (.int u1), .val (.ref b16), .val (.ref b17), .unset, .unset, .unset] [(.int (3 : Int32)), (.int u1), (.int (3 : Int32)), (.ref b17)])) rfl (by rw [hml]; rfl) (argsL := [(.int u1), (.int (3 : Int32))]) (rest := [(.int (3 : Int32)), (.ref b17)]) (lenOf pd_0 rfl) rfl (by show 2 * 0 + _ ≤ _; exact Nat.le_of_eq rfl) (hb hby at_68) (fun _ _ => ⟨rfl, e38, (by decide : 2 + 0 ≤ _), (by decide : 8 + 0 ≤ _)⟩)
  dsimp only [Pt.U, Pt.locs, Pt.cells, Pt.slots] at X40 l40 y40 z40 st40 hQ40
  subst l40 y40 z40
  obtain ⟨rfl, N40q, e40⟩ := hQ40
  have N40 := Fr.app N38 N40q
  refine Goes.of st40 ?_
  show Goes _ _ _ _ _ _ _ (T40.setTop (mkF m 71 #[.val (.int u0), .val (.int u1), .val (.ref b16), .val (.ref b17), .unset, .unset, .unset] [(.int (f1 u1 (3 : Int32))), (.int (3 : Int32)), (.ref b17)]))
  obtain ⟨T41, h41, X41, e41, W41, V41, st41⟩ := putZ X40 hx hZ e40 V38 (j := (3 : Int32)) (x := (f1 u1 (3 : Int32))) (i := 3) (by decide) (by decide) (by decide) (g := (mkF m 71 #[.val (.int u0), .val (.int u1), .val (.ref b16), .val (.ref b17), .unset, .unset, .unset] [(.int (f1 u1 (3 : Int32))), (.int (3 : Int32)), (.ref b17)])) rfl rfl (hb hby at_71)
  have F42 := F39.other W41 ne_b16_b17
  have Z41 : n0 ≤ h41.size := Nat.le_trans Z38 (Keep.of_wr W41).1
  have N41 := Fr.snoc X41 N40 g_b17
  refine Goes.of st41 ?_
  show Goes _ _ _ _ _ _ _ (T41.setTop (mkF m 72 #[.val (.int u0), .val (.int u1), .val (.ref b16), .val (.ref b17), .unset, .unset, .unset] []))
  refine Goes.of (fun t k => XS.aloadN X41.here hx rfl (hb hby at_72) rfl rfl k) ?_
  show Goes _ _ _ _ _ _ _ (T41.setTop (mkF m 73 #[.val (.int u0), .val (.int u1), .val (.ref b16), .val (.ref b17), .unset, .unset, .unset] [(.ref b16)]))
  refine Goes.of (fun t k => XS.aloadN X41.here hx rfl (hb hby at_73) rfl rfl k) ?_
  show Goes _ _ _ _ _ _ _ (T41.setTop (mkF m 74 #[.val (.int u0), .val (.int u1), .val (.ref b16), .val (.ref b17), .unset, .unset, .unset] [(.ref b17), (.ref b16)]))
  obtain ⟨fs, hf_fs⟩ : ∃ f : Nat → Int32, f = (upd (upd (upd (upd (fun _ => 0) 0 ((f1 u0 (0 : Int32)) &&& 1)) 1 ((f1 u0 (1 : Int32)) &&& 1)) 2 ((f1 u0 (2 : Int32)) &&& 1)) 3 ((f1 u0 (3 : Int32)) &&& 1)) := ⟨_, rfl⟩
  rw [← hf_fs] at F42
  obtain ⟨fr, hf_fr⟩ : ∃ f : Nat → Int32, f = (upd (upd (upd (upd (fun _ => 0) 0 ((f1 u1 (0 : Int32)) &&& 1)) 1 ((f1 u1 (1 : Int32)) &&& 1)) 2 ((f1 u1 (2 : Int32)) &&& 1)) 3 ((f1 u1 (3 : Int32)) &&& 1)) := ⟨_, rfl⟩
  rw [← hf_fr] at V41
  obtain ⟨_, _, ⟨T43, L43, k43, n43⟩, -, X43, ⟨Lc43, hQ43, l43, y43, z43⟩, st43⟩ := Jvm.LawKit.callS X41 hx (y := (⟨"com/example/network_attack_odds/networkattackodds/engine/GoalGraph", "minus", "([Z[Z)[Z"⟩ : MethodName)) hown (mvT hZ (hw _ (List.mem_of_getElem? (i := 5) rfl))) (mvT hZ (hw _ (List.mem_of_getElem? (i := 6) rfl))) (mvT hZ (hw _ (List.mem_of_getElem? (i := 7) rfl))) (mvT hZ (hw _ (List.mem_of_getElem? (i := 8) rfl))) (by decide) (backOf (W := 0) (rm2 l Z a0 hw [] b16 b17 4 (4 : Int32) fs fr h41 n0 Z41 F42 V41 (by decide) (by decide)) hZ (hw _ (List.mem_of_getElem? (i := 8) rfl)) (hw _ (List.mem_of_getElem? (i := 7) rfl)) (by decide) (by decide)) (g := (mkF m 74 #[.val (.int u0), .val (.int u1), .val (.ref b16), .val (.ref b17), .unset, .unset, .unset] [(.ref b17), (.ref b16)])) rfl (by rw [hml]; rfl) (argsL := [(.ref b16), (.ref b17)]) (rest := []) (lenOf pd_1 rfl) rfl (by show 2 * 0 + _ ≤ _; exact Nat.le_of_eq rfl) (hb hby at_74) (fun _ _ => ⟨rfl, e41, (by decide : 2 + 1 ≤ _), (by decide : 8 + 4 ≤ _)⟩)
  dsimp only [Pt.U, Pt.locs, Pt.cells, Pt.slots] at X43 l43 y43 z43 st43 hQ43
  subst l43 y43 z43
  obtain ⟨r43, rfl, N43q, K43, sz43, V43⟩ := hQ43
  have ne_b16_r43 : b16 ≠ r43 := Nat.ne_of_lt (Nat.lt_of_lt_of_le F42.lt sz43)
  have ne_b17_r43 : b17 ≠ r43 := Nat.ne_of_lt (Nat.lt_of_lt_of_le V41.lt sz43)
  have F44 := F42.keep K43 nin0
  have F45 := V41.keep K43 nin0
  have g_r43 : n0 ≤ r43 := Nat.le_trans Z41 sz43
  have Z43 : n0 ≤ T43.heap.size := Nat.le_trans Z41 K43.1
  have N43 := Fr.app N41 N43q
  refine Goes.of st43 ?_
  show Goes _ _ _ _ _ _ _ (T43.setTop (mkF m 77 #[.val (.int u0), .val (.int u1), .val (.ref b16), .val (.ref b17), .unset, .unset, .unset] [(.ref r43)]))
  refine Goes.of (fun t k => XS.astore X43.here hx rfl (hb hby at_77) rfl rfl (l' := #[.val (.int u0), .val (.int u1), .val (.ref b16), .val (.ref b17), .val (.ref r43), .unset, .unset]) rfl k) ?_
  show Goes _ _ _ _ _ _ _ (T43.setTop (mkF m 79 #[.val (.int u0), .val (.int u1), .val (.ref b16), .val (.ref b17), .val (.ref r43), .unset, .unset] []))
  refine Goes.of (fun t k => XS.aload X43.here hx rfl (hb hby at_79) rfl rfl k) ?_
  show Goes _ _ _ _ _ _ _ (T43.setTop (mkF m 81 #[.val (.int u0), .val (.int u1), .val (.ref b16), .val (.ref b17), .val (.ref r43), .unset, .unset] [(.ref r43)]))
  refine Goes.of (fun t k => XS.ifnullNo X43.here hx rfl (hb hby at_81) rfl k) ?_
  show Goes _ _ _ _ _ _ _ (T43.setTop (mkF m 84 #[.val (.int u0), .val (.int u1), .val (.ref b16), .val (.ref b17), .val (.ref r43), .unset, .unset] []))
  refine Goes.of (fun t k => XS.aload X43.here hx rfl (hb hby at_84) rfl rfl k) ?_
  show Goes _ _ _ _ _ _ _ (T43.setTop (mkF m 86 #[.val (.int u0), .val (.int u1), .val (.ref b16), .val (.ref b17), .val (.ref r43), .unset, .unset] [(.ref r43)]))
  refine Goes.of (fun t k => lenA X43 hx hZ rfl V43 (z := (4 : Int32)) (by decide) (g := (mkF m 86 #[.val (.int u0), .val (.int u1), .val (.ref b16), .val (.ref b17), .val (.ref r43), .unset, .unset] [(.ref r43)])) rfl rfl (hb hby at_86) t k) ?_
  show Goes _ _ _ _ _ _ _ (T43.setTop (mkF m 87 #[.val (.int u0), .val (.int u1), .val (.ref b16), .val (.ref b17), .val (.ref r43), .unset, .unset] [(.int (4 : Int32))]))
  refine Goes.of (fun t k => XS.iconst X43.here hx rfl (hb hby at_87) k) ?_
  show Goes _ _ _ _ _ _ _ (T43.setTop (mkF m 88 #[.val (.int u0), .val (.int u1), .val (.ref b16), .val (.ref b17), .val (.ref r43), .unset, .unset] [(.int (4 : Int32)), (.int (4 : Int32))]))
  refine Goes.of (fun t k => XS.icmpYes X43.here hx rfl (pc0 := 88) (pc' := 93) rfl (hb hby at_88) rfl (teq (rfl : (4 : Int32) = (4 : Int32))).1 (by decide) (by decide) k) ?_
  show Goes _ _ _ _ _ _ _ (T43.setTop (mkF m 93 #[.val (.int u0), .val (.int u1), .val (.ref b16), .val (.ref b17), .val (.ref r43), .unset, .unset] []))
  have j46 : ∀ (T46 : State) (lc46 : List Loc), Stand p l e room_1 s m #[(.int u0), (.int u1)] below meth c T46 lc46 3 12 → T46.heap = T43.heap → Fr n0 lc46 → Goes p.tables e below s (Q0 n0) room_1.cells room_1.slots (T46.setTop (mkF m 121 #[.val (.int u0), .val (.int u1), .val (.ref b16), .val (.ref b17), .val (.ref r43), .unset, .unset] [])) := by
    intro T46 lc46  X46 e46 N46 
    show Goes _ _ _ _ _ _ _ (T46.setTop (mkF m 121 #[.val (.int u0), .val (.int u1), .val (.ref b16), .val (.ref b17), .val (.ref r43), .unset, .unset] []))
    have j47 : ∀ (T47 : State) (lc47 : List Loc), Stand p l e room_1 s m #[(.int u0), (.int u1)] below meth c T47 lc47 3 12 → T47.heap = T43.heap → Fr n0 lc47 → Goes p.tables e below s (Q0 n0) room_1.cells room_1.slots (T47.setTop (mkF m 149 #[.val (.int u0), .val (.int u1), .val (.ref b16), .val (.ref b17), .val (.ref r43), .unset, .unset] [])) := by
      intro T47 lc47  X47 e47 N47 
      show Goes _ _ _ _ _ _ _ (T47.setTop (mkF m 149 #[.val (.int u0), .val (.int u1), .val (.ref b16), .val (.ref b17), .val (.ref r43), .unset, .unset] []))
      have j48 : ∀ (T48 : State) (lc48 : List Loc), Stand p l e room_1 s m #[(.int u0), (.int u1)] below meth c T48 lc48 3 12 → T48.heap = T43.heap → Fr n0 lc48 → Goes p.tables e below s (Q0 n0) room_1.cells room_1.slots (T48.setTop (mkF m 177 #[.val (.int u0), .val (.int u1), .val (.ref b16), .val (.ref b17), .val (.ref r43), .unset, .unset] [])) := by
        intro T48 lc48  X48 e48 N48 
        show Goes _ _ _ _ _ _ _ (T48.setTop (mkF m 177 #[.val (.int u0), .val (.int u1), .val (.ref b16), .val (.ref b17), .val (.ref r43), .unset, .unset] []))
        have j49 : ∀ (T49 : State) (lc49 : List Loc), Stand p l e room_1 s m #[(.int u0), (.int u1)] below meth c T49 lc49 3 12 → T49.heap = T43.heap → Fr n0 lc49 → Goes p.tables e below s (Q0 n0) room_1.cells room_1.slots (T49.setTop (mkF m 205 #[.val (.int u0), .val (.int u1), .val (.ref b16), .val (.ref b17), .val (.ref r43), .unset, .unset] [])) := by
          intro T49 lc49  X49 e49 N49 
          show Goes _ _ _ _ _ _ _ (T49.setTop (mkF m 205 #[.val (.int u0), .val (.int u1), .val (.ref b16), .val (.ref b17), .val (.ref r43), .unset, .unset] []))
          refine Goes.of (fun t k => XS.iconst X49.here hx rfl (hb hby at_205) k) ?_
          show Goes _ _ _ _ _ _ _ (T49.setTop (mkF m 206 #[.val (.int u0), .val (.int u1), .val (.ref b16), .val (.ref b17), .val (.ref r43), .unset, .unset] [(.int (1 : Int32))]))
          refine Goes.of (fun t k => XS.goto X49.here hx rfl (pc0 := 206) (pc' := 210) rfl (hb hby at_206) (by decide) (by decide) k) ?_
          show Goes _ _ _ _ _ _ _ (T49.setTop (mkF m 210 #[.val (.int u0), .val (.int u1), .val (.ref b16), .val (.ref b17), .val (.ref r43), .unset, .unset] [(.int (1 : Int32))]))
          refine Goes.of (fun t k => XS.istore X49.here hx rfl (hb hby at_210) rfl (l' := #[.val (.int u0), .val (.int u1), .val (.ref b16), .val (.ref b17), .val (.ref r43), .val (.int (1 : Int32)), .unset]) rfl k) ?_
          show Goes _ _ _ _ _ _ _ (T49.setTop (mkF m 212 #[.val (.int u0), .val (.int u1), .val (.ref b16), .val (.ref b17), .val (.ref r43), .val (.int (1 : Int32)), .unset] []))
          refine Goes.of (fun t k => XS.aloadN X49.here hx rfl (hb hby at_212) rfl rfl k) ?_
          show Goes _ _ _ _ _ _ _ (T49.setTop (mkF m 213 #[.val (.int u0), .val (.int u1), .val (.ref b16), .val (.ref b17), .val (.ref r43), .val (.int (1 : Int32)), .unset] [(.ref b16)]))
          refine Goes.of (fun t k => XS.iconst X49.here hx rfl (hb hby at_213) k) ?_
          show Goes _ _ _ _ _ _ _ (T49.setTop (mkF m 214 #[.val (.int u0), .val (.int u1), .val (.ref b16), .val (.ref b17), .val (.ref r43), .val (.int (1 : Int32)), .unset] [(.int (0 : Int32)), (.ref b16)]))
          refine Goes.of (fun t k => ldZ X49 hx hZ e49 F44 (j := (0 : Int32)) (i := 0) (v := (f1 u0 (0 : Int32))) (by decide) (by decide) (by decide) (by rw [hf_fs]; exact own_b1 _ _) (g := (mkF m 214 #[.val (.int u0), .val (.int u1), .val (.ref b16), .val (.ref b17), .val (.ref r43), .val (.int (1 : Int32)), .unset] [(.int (0 : Int32)), (.ref b16)])) rfl rfl (hb hby at_214) t k) ?_
          show Goes _ _ _ _ _ _ _ (T49.setTop (mkF m 215 #[.val (.int u0), .val (.int u1), .val (.ref b16), .val (.ref b17), .val (.ref r43), .val (.int (1 : Int32)), .unset] [(.int (f1 u0 (0 : Int32)))]))
          refine Goes.of (fun t k => XS.iloadN X49.here hx rfl (hb hby at_215) rfl k) ?_
          show Goes _ _ _ _ _ _ _ (T49.setTop (mkF m 216 #[.val (.int u0), .val (.int u1), .val (.ref b16), .val (.ref b17), .val (.ref r43), .val (.int (1 : Int32)), .unset] [(.int u0), (.int (f1 u0 (0 : Int32)))]))
          refine Goes.of (fun t k => XS.iconst X49.here hx rfl (hb hby at_216) k) ?_
          show Goes _ _ _ _ _ _ _ (T49.setTop (mkF m 217 #[.val (.int u0), .val (.int u1), .val (.ref b16), .val (.ref b17), .val (.ref r43), .val (.int (1 : Int32)), .unset] [(.int (0 : Int32)), (.int u0), (.int (f1 u0 (0 : Int32)))]))
          obtain ⟨_, _, ⟨T50, L50, k50, n50⟩, -, X50, ⟨Lc50, hQ50, l50, y50, z50⟩, st50⟩ := Jvm.LawKit.callS X49 hx (y := (⟨"com/example/network_attack_odds/networkattackodds/engine/GoalGraphMinusPinLaw", "bit", "(II)Z"⟩ : MethodName)) hown (mvT hZ (hw _ (List.mem_of_getElem? (i := 1) rfl))) (mvT hZ (hw _ (List.mem_of_getElem? (i := 2) rfl))) (mvT hZ (hw _ (List.mem_of_getElem? (i := 3) rfl))) (mvT hZ (hw _ (List.mem_of_getElem? (i := 4) rfl))) (by decide) (backOf (W := 1) (rm1 l Z a0 hw [] u0 (0 : Int32)  T43.heap n0 ) hZ (hw _ (List.mem_of_getElem? (i := 4) rfl)) (hw _ (List.mem_of_getElem? (i := 3) rfl)) (by decide) (by decide)) (g := (mkF m 217 #[.val (.int u0), .val (.int u1), .val (.ref b16), .val (.ref b17), .val (.ref r43), .val (.int (1 : Int32)), .unset] [(.int (0 : Int32)), (.int u0), (.int (f1 u0 (0 : Int32)))])) rfl (by rw [hml]; rfl) (argsL := [(.int u0), (.int (0 : Int32))]) (rest := [(.int (f1 u0 (0 : Int32)))]) (lenOf pd_0 rfl) rfl (by show 2 * 0 + _ ≤ _; exact Nat.le_of_eq rfl) (hb hby at_217) (fun _ _ => ⟨rfl, e49, (by decide : 3 + 0 ≤ _), (by decide : 12 + 0 ≤ _)⟩)
          dsimp only [Pt.U, Pt.locs, Pt.cells, Pt.slots] at X50 l50 y50 z50 st50 hQ50
          subst l50 y50 z50
          obtain ⟨rfl, N50q, e50⟩ := hQ50
          have N50 := Fr.app N49 N50q
          refine Goes.of st50 ?_
          show Goes _ _ _ _ _ _ _ (T50.setTop (mkF m 220 #[.val (.int u0), .val (.int u1), .val (.ref b16), .val (.ref b17), .val (.ref r43), .val (.int (1 : Int32)), .unset] [(.int (f1 u0 (0 : Int32))), (.int (f1 u0 (0 : Int32)))]))
          refine Goes.of (fun t k => XS.icmpNo X50.here hx rfl (hb hby at_220) rfl (teq (rfl : (f1 u0 (0 : Int32)) = (f1 u0 (0 : Int32)))).2 k) ?_
          show Goes _ _ _ _ _ _ _ (T50.setTop (mkF m 223 #[.val (.int u0), .val (.int u1), .val (.ref b16), .val (.ref b17), .val (.ref r43), .val (.int (1 : Int32)), .unset] []))
          refine Goes.of (fun t k => XS.aloadN X50.here hx rfl (hb hby at_223) rfl rfl k) ?_
          show Goes _ _ _ _ _ _ _ (T50.setTop (mkF m 224 #[.val (.int u0), .val (.int u1), .val (.ref b16), .val (.ref b17), .val (.ref r43), .val (.int (1 : Int32)), .unset] [(.ref b16)]))
          refine Goes.of (fun t k => XS.iconst X50.here hx rfl (hb hby at_224) k) ?_
          show Goes _ _ _ _ _ _ _ (T50.setTop (mkF m 225 #[.val (.int u0), .val (.int u1), .val (.ref b16), .val (.ref b17), .val (.ref r43), .val (.int (1 : Int32)), .unset] [(.int (1 : Int32)), (.ref b16)]))
          refine Goes.of (fun t k => ldZ X50 hx hZ e50 F44 (j := (1 : Int32)) (i := 1) (v := (f1 u0 (1 : Int32))) (by decide) (by decide) (by decide) (by rw [hf_fs]; exact own_b1 _ _) (g := (mkF m 225 #[.val (.int u0), .val (.int u1), .val (.ref b16), .val (.ref b17), .val (.ref r43), .val (.int (1 : Int32)), .unset] [(.int (1 : Int32)), (.ref b16)])) rfl rfl (hb hby at_225) t k) ?_
          show Goes _ _ _ _ _ _ _ (T50.setTop (mkF m 226 #[.val (.int u0), .val (.int u1), .val (.ref b16), .val (.ref b17), .val (.ref r43), .val (.int (1 : Int32)), .unset] [(.int (f1 u0 (1 : Int32)))]))
          refine Goes.of (fun t k => XS.iloadN X50.here hx rfl (hb hby at_226) rfl k) ?_
          show Goes _ _ _ _ _ _ _ (T50.setTop (mkF m 227 #[.val (.int u0), .val (.int u1), .val (.ref b16), .val (.ref b17), .val (.ref r43), .val (.int (1 : Int32)), .unset] [(.int u0), (.int (f1 u0 (1 : Int32)))]))
          refine Goes.of (fun t k => XS.iconst X50.here hx rfl (hb hby at_227) k) ?_
          show Goes _ _ _ _ _ _ _ (T50.setTop (mkF m 228 #[.val (.int u0), .val (.int u1), .val (.ref b16), .val (.ref b17), .val (.ref r43), .val (.int (1 : Int32)), .unset] [(.int (1 : Int32)), (.int u0), (.int (f1 u0 (1 : Int32)))]))
          obtain ⟨_, _, ⟨T51, L51, k51, n51⟩, -, X51, ⟨Lc51, hQ51, l51, y51, z51⟩, st51⟩ := Jvm.LawKit.callS X50 hx (y := (⟨"com/example/network_attack_odds/networkattackodds/engine/GoalGraphMinusPinLaw", "bit", "(II)Z"⟩ : MethodName)) hown (mvT hZ (hw _ (List.mem_of_getElem? (i := 1) rfl))) (mvT hZ (hw _ (List.mem_of_getElem? (i := 2) rfl))) (mvT hZ (hw _ (List.mem_of_getElem? (i := 3) rfl))) (mvT hZ (hw _ (List.mem_of_getElem? (i := 4) rfl))) (by decide) (backOf (W := 1) (rm1 l Z a0 hw [] u0 (1 : Int32)  T43.heap n0 ) hZ (hw _ (List.mem_of_getElem? (i := 4) rfl)) (hw _ (List.mem_of_getElem? (i := 3) rfl)) (by decide) (by decide)) (g := (mkF m 228 #[.val (.int u0), .val (.int u1), .val (.ref b16), .val (.ref b17), .val (.ref r43), .val (.int (1 : Int32)), .unset] [(.int (1 : Int32)), (.int u0), (.int (f1 u0 (1 : Int32)))])) rfl (by rw [hml]; rfl) (argsL := [(.int u0), (.int (1 : Int32))]) (rest := [(.int (f1 u0 (1 : Int32)))]) (lenOf pd_0 rfl) rfl (by show 2 * 0 + _ ≤ _; exact Nat.le_of_eq rfl) (hb hby at_228) (fun _ _ => ⟨rfl, e50, (by decide : 3 + 0 ≤ _), (by decide : 12 + 0 ≤ _)⟩)
          dsimp only [Pt.U, Pt.locs, Pt.cells, Pt.slots] at X51 l51 y51 z51 st51 hQ51
          subst l51 y51 z51
          obtain ⟨rfl, N51q, e51⟩ := hQ51
          have N51 := Fr.app N50 N51q
          refine Goes.of st51 ?_
          show Goes _ _ _ _ _ _ _ (T51.setTop (mkF m 231 #[.val (.int u0), .val (.int u1), .val (.ref b16), .val (.ref b17), .val (.ref r43), .val (.int (1 : Int32)), .unset] [(.int (f1 u0 (1 : Int32))), (.int (f1 u0 (1 : Int32)))]))
          refine Goes.of (fun t k => XS.icmpNo X51.here hx rfl (hb hby at_231) rfl (teq (rfl : (f1 u0 (1 : Int32)) = (f1 u0 (1 : Int32)))).2 k) ?_
          show Goes _ _ _ _ _ _ _ (T51.setTop (mkF m 234 #[.val (.int u0), .val (.int u1), .val (.ref b16), .val (.ref b17), .val (.ref r43), .val (.int (1 : Int32)), .unset] []))
          refine Goes.of (fun t k => XS.aloadN X51.here hx rfl (hb hby at_234) rfl rfl k) ?_
          show Goes _ _ _ _ _ _ _ (T51.setTop (mkF m 235 #[.val (.int u0), .val (.int u1), .val (.ref b16), .val (.ref b17), .val (.ref r43), .val (.int (1 : Int32)), .unset] [(.ref b16)]))
          refine Goes.of (fun t k => XS.iconst X51.here hx rfl (hb hby at_235) k) ?_
          show Goes _ _ _ _ _ _ _ (T51.setTop (mkF m 236 #[.val (.int u0), .val (.int u1), .val (.ref b16), .val (.ref b17), .val (.ref r43), .val (.int (1 : Int32)), .unset] [(.int (2 : Int32)), (.ref b16)]))
          refine Goes.of (fun t k => ldZ X51 hx hZ e51 F44 (j := (2 : Int32)) (i := 2) (v := (f1 u0 (2 : Int32))) (by decide) (by decide) (by decide) (by rw [hf_fs]; exact own_b1 _ _) (g := (mkF m 236 #[.val (.int u0), .val (.int u1), .val (.ref b16), .val (.ref b17), .val (.ref r43), .val (.int (1 : Int32)), .unset] [(.int (2 : Int32)), (.ref b16)])) rfl rfl (hb hby at_236) t k) ?_
          show Goes _ _ _ _ _ _ _ (T51.setTop (mkF m 237 #[.val (.int u0), .val (.int u1), .val (.ref b16), .val (.ref b17), .val (.ref r43), .val (.int (1 : Int32)), .unset] [(.int (f1 u0 (2 : Int32)))]))
          refine Goes.of (fun t k => XS.iloadN X51.here hx rfl (hb hby at_237) rfl k) ?_
          show Goes _ _ _ _ _ _ _ (T51.setTop (mkF m 238 #[.val (.int u0), .val (.int u1), .val (.ref b16), .val (.ref b17), .val (.ref r43), .val (.int (1 : Int32)), .unset] [(.int u0), (.int (f1 u0 (2 : Int32)))]))
          refine Goes.of (fun t k => XS.iconst X51.here hx rfl (hb hby at_238) k) ?_
          show Goes _ _ _ _ _ _ _ (T51.setTop (mkF m 239 #[.val (.int u0), .val (.int u1), .val (.ref b16), .val (.ref b17), .val (.ref r43), .val (.int (1 : Int32)), .unset] [(.int (2 : Int32)), (.int u0), (.int (f1 u0 (2 : Int32)))]))
          obtain ⟨_, _, ⟨T52, L52, k52, n52⟩, -, X52, ⟨Lc52, hQ52, l52, y52, z52⟩, st52⟩ := Jvm.LawKit.callS X51 hx (y := (⟨"com/example/network_attack_odds/networkattackodds/engine/GoalGraphMinusPinLaw", "bit", "(II)Z"⟩ : MethodName)) hown (mvT hZ (hw _ (List.mem_of_getElem? (i := 1) rfl))) (mvT hZ (hw _ (List.mem_of_getElem? (i := 2) rfl))) (mvT hZ (hw _ (List.mem_of_getElem? (i := 3) rfl))) (mvT hZ (hw _ (List.mem_of_getElem? (i := 4) rfl))) (by decide) (backOf (W := 1) (rm1 l Z a0 hw [] u0 (2 : Int32)  T43.heap n0 ) hZ (hw _ (List.mem_of_getElem? (i := 4) rfl)) (hw _ (List.mem_of_getElem? (i := 3) rfl)) (by decide) (by decide)) (g := (mkF m 239 #[.val (.int u0), .val (.int u1), .val (.ref b16), .val (.ref b17), .val (.ref r43), .val (.int (1 : Int32)), .unset] [(.int (2 : Int32)), (.int u0), (.int (f1 u0 (2 : Int32)))])) rfl (by rw [hml]; rfl) (argsL := [(.int u0), (.int (2 : Int32))]) (rest := [(.int (f1 u0 (2 : Int32)))]) (lenOf pd_0 rfl) rfl (by show 2 * 0 + _ ≤ _; exact Nat.le_of_eq rfl) (hb hby at_239) (fun _ _ => ⟨rfl, e51, (by decide : 3 + 0 ≤ _), (by decide : 12 + 0 ≤ _)⟩)
          dsimp only [Pt.U, Pt.locs, Pt.cells, Pt.slots] at X52 l52 y52 z52 st52 hQ52
          subst l52 y52 z52
          obtain ⟨rfl, N52q, e52⟩ := hQ52
          have N52 := Fr.app N51 N52q
          refine Goes.of st52 ?_
          show Goes _ _ _ _ _ _ _ (T52.setTop (mkF m 242 #[.val (.int u0), .val (.int u1), .val (.ref b16), .val (.ref b17), .val (.ref r43), .val (.int (1 : Int32)), .unset] [(.int (f1 u0 (2 : Int32))), (.int (f1 u0 (2 : Int32)))]))
          refine Goes.of (fun t k => XS.icmpNo X52.here hx rfl (hb hby at_242) rfl (teq (rfl : (f1 u0 (2 : Int32)) = (f1 u0 (2 : Int32)))).2 k) ?_
          show Goes _ _ _ _ _ _ _ (T52.setTop (mkF m 245 #[.val (.int u0), .val (.int u1), .val (.ref b16), .val (.ref b17), .val (.ref r43), .val (.int (1 : Int32)), .unset] []))
          refine Goes.of (fun t k => XS.aloadN X52.here hx rfl (hb hby at_245) rfl rfl k) ?_
          show Goes _ _ _ _ _ _ _ (T52.setTop (mkF m 246 #[.val (.int u0), .val (.int u1), .val (.ref b16), .val (.ref b17), .val (.ref r43), .val (.int (1 : Int32)), .unset] [(.ref b16)]))
          refine Goes.of (fun t k => XS.iconst X52.here hx rfl (hb hby at_246) k) ?_
          show Goes _ _ _ _ _ _ _ (T52.setTop (mkF m 247 #[.val (.int u0), .val (.int u1), .val (.ref b16), .val (.ref b17), .val (.ref r43), .val (.int (1 : Int32)), .unset] [(.int (3 : Int32)), (.ref b16)]))
          refine Goes.of (fun t k => ldZ X52 hx hZ e52 F44 (j := (3 : Int32)) (i := 3) (v := (f1 u0 (3 : Int32))) (by decide) (by decide) (by decide) (by rw [hf_fs]; exact own_b1 _ _) (g := (mkF m 247 #[.val (.int u0), .val (.int u1), .val (.ref b16), .val (.ref b17), .val (.ref r43), .val (.int (1 : Int32)), .unset] [(.int (3 : Int32)), (.ref b16)])) rfl rfl (hb hby at_247) t k) ?_
          show Goes _ _ _ _ _ _ _ (T52.setTop (mkF m 248 #[.val (.int u0), .val (.int u1), .val (.ref b16), .val (.ref b17), .val (.ref r43), .val (.int (1 : Int32)), .unset] [(.int (f1 u0 (3 : Int32)))]))
          refine Goes.of (fun t k => XS.iloadN X52.here hx rfl (hb hby at_248) rfl k) ?_
          show Goes _ _ _ _ _ _ _ (T52.setTop (mkF m 249 #[.val (.int u0), .val (.int u1), .val (.ref b16), .val (.ref b17), .val (.ref r43), .val (.int (1 : Int32)), .unset] [(.int u0), (.int (f1 u0 (3 : Int32)))]))
          refine Goes.of (fun t k => XS.iconst X52.here hx rfl (hb hby at_249) k) ?_
          show Goes _ _ _ _ _ _ _ (T52.setTop (mkF m 250 #[.val (.int u0), .val (.int u1), .val (.ref b16), .val (.ref b17), .val (.ref r43), .val (.int (1 : Int32)), .unset] [(.int (3 : Int32)), (.int u0), (.int (f1 u0 (3 : Int32)))]))
          obtain ⟨_, _, ⟨T53, L53, k53, n53⟩, -, X53, ⟨Lc53, hQ53, l53, y53, z53⟩, st53⟩ := Jvm.LawKit.callS X52 hx (y := (⟨"com/example/network_attack_odds/networkattackodds/engine/GoalGraphMinusPinLaw", "bit", "(II)Z"⟩ : MethodName)) hown (mvT hZ (hw _ (List.mem_of_getElem? (i := 1) rfl))) (mvT hZ (hw _ (List.mem_of_getElem? (i := 2) rfl))) (mvT hZ (hw _ (List.mem_of_getElem? (i := 3) rfl))) (mvT hZ (hw _ (List.mem_of_getElem? (i := 4) rfl))) (by decide) (backOf (W := 1) (rm1 l Z a0 hw [] u0 (3 : Int32)  T43.heap n0 ) hZ (hw _ (List.mem_of_getElem? (i := 4) rfl)) (hw _ (List.mem_of_getElem? (i := 3) rfl)) (by decide) (by decide)) (g := (mkF m 250 #[.val (.int u0), .val (.int u1), .val (.ref b16), .val (.ref b17), .val (.ref r43), .val (.int (1 : Int32)), .unset] [(.int (3 : Int32)), (.int u0), (.int (f1 u0 (3 : Int32)))])) rfl (by rw [hml]; rfl) (argsL := [(.int u0), (.int (3 : Int32))]) (rest := [(.int (f1 u0 (3 : Int32)))]) (lenOf pd_0 rfl) rfl (by show 2 * 0 + _ ≤ _; exact Nat.le_of_eq rfl) (hb hby at_250) (fun _ _ => ⟨rfl, e52, (by decide : 3 + 0 ≤ _), (by decide : 12 + 0 ≤ _)⟩)
          dsimp only [Pt.U, Pt.locs, Pt.cells, Pt.slots] at X53 l53 y53 z53 st53 hQ53
          subst l53 y53 z53
          obtain ⟨rfl, N53q, e53⟩ := hQ53
          have N53 := Fr.app N52 N53q
          refine Goes.of st53 ?_
          show Goes _ _ _ _ _ _ _ (T53.setTop (mkF m 253 #[.val (.int u0), .val (.int u1), .val (.ref b16), .val (.ref b17), .val (.ref r43), .val (.int (1 : Int32)), .unset] [(.int (f1 u0 (3 : Int32))), (.int (f1 u0 (3 : Int32)))]))
          refine Goes.of (fun t k => XS.icmpNo X53.here hx rfl (hb hby at_253) rfl (teq (rfl : (f1 u0 (3 : Int32)) = (f1 u0 (3 : Int32)))).2 k) ?_
          show Goes _ _ _ _ _ _ _ (T53.setTop (mkF m 256 #[.val (.int u0), .val (.int u1), .val (.ref b16), .val (.ref b17), .val (.ref r43), .val (.int (1 : Int32)), .unset] []))
          refine Goes.of (fun t k => XS.aloadN X53.here hx rfl (hb hby at_256) rfl rfl k) ?_
          show Goes _ _ _ _ _ _ _ (T53.setTop (mkF m 257 #[.val (.int u0), .val (.int u1), .val (.ref b16), .val (.ref b17), .val (.ref r43), .val (.int (1 : Int32)), .unset] [(.ref b17)]))
          refine Goes.of (fun t k => XS.iconst X53.here hx rfl (hb hby at_257) k) ?_
          show Goes _ _ _ _ _ _ _ (T53.setTop (mkF m 258 #[.val (.int u0), .val (.int u1), .val (.ref b16), .val (.ref b17), .val (.ref r43), .val (.int (1 : Int32)), .unset] [(.int (0 : Int32)), (.ref b17)]))
          refine Goes.of (fun t k => ldZ X53 hx hZ e53 F45 (j := (0 : Int32)) (i := 0) (v := (f1 u1 (0 : Int32))) (by decide) (by decide) (by decide) (by rw [hf_fr]; exact own_b1 _ _) (g := (mkF m 258 #[.val (.int u0), .val (.int u1), .val (.ref b16), .val (.ref b17), .val (.ref r43), .val (.int (1 : Int32)), .unset] [(.int (0 : Int32)), (.ref b17)])) rfl rfl (hb hby at_258) t k) ?_
          show Goes _ _ _ _ _ _ _ (T53.setTop (mkF m 259 #[.val (.int u0), .val (.int u1), .val (.ref b16), .val (.ref b17), .val (.ref r43), .val (.int (1 : Int32)), .unset] [(.int (f1 u1 (0 : Int32)))]))
          refine Goes.of (fun t k => XS.iloadN X53.here hx rfl (hb hby at_259) rfl k) ?_
          show Goes _ _ _ _ _ _ _ (T53.setTop (mkF m 260 #[.val (.int u0), .val (.int u1), .val (.ref b16), .val (.ref b17), .val (.ref r43), .val (.int (1 : Int32)), .unset] [(.int u1), (.int (f1 u1 (0 : Int32)))]))
          refine Goes.of (fun t k => XS.iconst X53.here hx rfl (hb hby at_260) k) ?_
          show Goes _ _ _ _ _ _ _ (T53.setTop (mkF m 261 #[.val (.int u0), .val (.int u1), .val (.ref b16), .val (.ref b17), .val (.ref r43), .val (.int (1 : Int32)), .unset] [(.int (0 : Int32)), (.int u1), (.int (f1 u1 (0 : Int32)))]))
          obtain ⟨_, _, ⟨T54, L54, k54, n54⟩, -, X54, ⟨Lc54, hQ54, l54, y54, z54⟩, st54⟩ := Jvm.LawKit.callS X53 hx (y := (⟨"com/example/network_attack_odds/networkattackodds/engine/GoalGraphMinusPinLaw", "bit", "(II)Z"⟩ : MethodName)) hown (mvT hZ (hw _ (List.mem_of_getElem? (i := 1) rfl))) (mvT hZ (hw _ (List.mem_of_getElem? (i := 2) rfl))) (mvT hZ (hw _ (List.mem_of_getElem? (i := 3) rfl))) (mvT hZ (hw _ (List.mem_of_getElem? (i := 4) rfl))) (by decide) (backOf (W := 1) (rm1 l Z a0 hw [] u1 (0 : Int32)  T43.heap n0 ) hZ (hw _ (List.mem_of_getElem? (i := 4) rfl)) (hw _ (List.mem_of_getElem? (i := 3) rfl)) (by decide) (by decide)) (g := (mkF m 261 #[.val (.int u0), .val (.int u1), .val (.ref b16), .val (.ref b17), .val (.ref r43), .val (.int (1 : Int32)), .unset] [(.int (0 : Int32)), (.int u1), (.int (f1 u1 (0 : Int32)))])) rfl (by rw [hml]; rfl) (argsL := [(.int u1), (.int (0 : Int32))]) (rest := [(.int (f1 u1 (0 : Int32)))]) (lenOf pd_0 rfl) rfl (by show 2 * 0 + _ ≤ _; exact Nat.le_of_eq rfl) (hb hby at_261) (fun _ _ => ⟨rfl, e53, (by decide : 3 + 0 ≤ _), (by decide : 12 + 0 ≤ _)⟩)
          dsimp only [Pt.U, Pt.locs, Pt.cells, Pt.slots] at X54 l54 y54 z54 st54 hQ54
          subst l54 y54 z54
          obtain ⟨rfl, N54q, e54⟩ := hQ54
          have N54 := Fr.app N53 N54q
          refine Goes.of st54 ?_
          show Goes _ _ _ _ _ _ _ (T54.setTop (mkF m 264 #[.val (.int u0), .val (.int u1), .val (.ref b16), .val (.ref b17), .val (.ref r43), .val (.int (1 : Int32)), .unset] [(.int (f1 u1 (0 : Int32))), (.int (f1 u1 (0 : Int32)))]))
          refine Goes.of (fun t k => XS.icmpNo X54.here hx rfl (hb hby at_264) rfl (teq (rfl : (f1 u1 (0 : Int32)) = (f1 u1 (0 : Int32)))).2 k) ?_
          show Goes _ _ _ _ _ _ _ (T54.setTop (mkF m 267 #[.val (.int u0), .val (.int u1), .val (.ref b16), .val (.ref b17), .val (.ref r43), .val (.int (1 : Int32)), .unset] []))
          refine Goes.of (fun t k => XS.aloadN X54.here hx rfl (hb hby at_267) rfl rfl k) ?_
          show Goes _ _ _ _ _ _ _ (T54.setTop (mkF m 268 #[.val (.int u0), .val (.int u1), .val (.ref b16), .val (.ref b17), .val (.ref r43), .val (.int (1 : Int32)), .unset] [(.ref b17)]))
          refine Goes.of (fun t k => XS.iconst X54.here hx rfl (hb hby at_268) k) ?_
          show Goes _ _ _ _ _ _ _ (T54.setTop (mkF m 269 #[.val (.int u0), .val (.int u1), .val (.ref b16), .val (.ref b17), .val (.ref r43), .val (.int (1 : Int32)), .unset] [(.int (1 : Int32)), (.ref b17)]))
          refine Goes.of (fun t k => ldZ X54 hx hZ e54 F45 (j := (1 : Int32)) (i := 1) (v := (f1 u1 (1 : Int32))) (by decide) (by decide) (by decide) (by rw [hf_fr]; exact own_b1 _ _) (g := (mkF m 269 #[.val (.int u0), .val (.int u1), .val (.ref b16), .val (.ref b17), .val (.ref r43), .val (.int (1 : Int32)), .unset] [(.int (1 : Int32)), (.ref b17)])) rfl rfl (hb hby at_269) t k) ?_
          show Goes _ _ _ _ _ _ _ (T54.setTop (mkF m 270 #[.val (.int u0), .val (.int u1), .val (.ref b16), .val (.ref b17), .val (.ref r43), .val (.int (1 : Int32)), .unset] [(.int (f1 u1 (1 : Int32)))]))
          refine Goes.of (fun t k => XS.iloadN X54.here hx rfl (hb hby at_270) rfl k) ?_
          show Goes _ _ _ _ _ _ _ (T54.setTop (mkF m 271 #[.val (.int u0), .val (.int u1), .val (.ref b16), .val (.ref b17), .val (.ref r43), .val (.int (1 : Int32)), .unset] [(.int u1), (.int (f1 u1 (1 : Int32)))]))
          refine Goes.of (fun t k => XS.iconst X54.here hx rfl (hb hby at_271) k) ?_
          show Goes _ _ _ _ _ _ _ (T54.setTop (mkF m 272 #[.val (.int u0), .val (.int u1), .val (.ref b16), .val (.ref b17), .val (.ref r43), .val (.int (1 : Int32)), .unset] [(.int (1 : Int32)), (.int u1), (.int (f1 u1 (1 : Int32)))]))
          obtain ⟨_, _, ⟨T55, L55, k55, n55⟩, -, X55, ⟨Lc55, hQ55, l55, y55, z55⟩, st55⟩ := Jvm.LawKit.callS X54 hx (y := (⟨"com/example/network_attack_odds/networkattackodds/engine/GoalGraphMinusPinLaw", "bit", "(II)Z"⟩ : MethodName)) hown (mvT hZ (hw _ (List.mem_of_getElem? (i := 1) rfl))) (mvT hZ (hw _ (List.mem_of_getElem? (i := 2) rfl))) (mvT hZ (hw _ (List.mem_of_getElem? (i := 3) rfl))) (mvT hZ (hw _ (List.mem_of_getElem? (i := 4) rfl))) (by decide) (backOf (W := 1) (rm1 l Z a0 hw [] u1 (1 : Int32)  T43.heap n0 ) hZ (hw _ (List.mem_of_getElem? (i := 4) rfl)) (hw _ (List.mem_of_getElem? (i := 3) rfl)) (by decide) (by decide)) (g := (mkF m 272 #[.val (.int u0), .val (.int u1), .val (.ref b16), .val (.ref b17), .val (.ref r43), .val (.int (1 : Int32)), .unset] [(.int (1 : Int32)), (.int u1), (.int (f1 u1 (1 : Int32)))])) rfl (by rw [hml]; rfl) (argsL := [(.int u1), (.int (1 : Int32))]) (rest := [(.int (f1 u1 (1 : Int32)))]) (lenOf pd_0 rfl) rfl (by show 2 * 0 + _ ≤ _; exact Nat.le_of_eq rfl) (hb hby at_272) (fun _ _ => ⟨rfl, e54, (by decide : 3 + 0 ≤ _), (by decide : 12 + 0 ≤ _)⟩)
          dsimp only [Pt.U, Pt.locs, Pt.cells, Pt.slots] at X55 l55 y55 z55 st55 hQ55
          subst l55 y55 z55
          obtain ⟨rfl, N55q, e55⟩ := hQ55
          have N55 := Fr.app N54 N55q
          refine Goes.of st55 ?_
          show Goes _ _ _ _ _ _ _ (T55.setTop (mkF m 275 #[.val (.int u0), .val (.int u1), .val (.ref b16), .val (.ref b17), .val (.ref r43), .val (.int (1 : Int32)), .unset] [(.int (f1 u1 (1 : Int32))), (.int (f1 u1 (1 : Int32)))]))
          refine Goes.of (fun t k => XS.icmpNo X55.here hx rfl (hb hby at_275) rfl (teq (rfl : (f1 u1 (1 : Int32)) = (f1 u1 (1 : Int32)))).2 k) ?_
          show Goes _ _ _ _ _ _ _ (T55.setTop (mkF m 278 #[.val (.int u0), .val (.int u1), .val (.ref b16), .val (.ref b17), .val (.ref r43), .val (.int (1 : Int32)), .unset] []))
          refine Goes.of (fun t k => XS.aloadN X55.here hx rfl (hb hby at_278) rfl rfl k) ?_
          show Goes _ _ _ _ _ _ _ (T55.setTop (mkF m 279 #[.val (.int u0), .val (.int u1), .val (.ref b16), .val (.ref b17), .val (.ref r43), .val (.int (1 : Int32)), .unset] [(.ref b17)]))
          refine Goes.of (fun t k => XS.iconst X55.here hx rfl (hb hby at_279) k) ?_
          show Goes _ _ _ _ _ _ _ (T55.setTop (mkF m 280 #[.val (.int u0), .val (.int u1), .val (.ref b16), .val (.ref b17), .val (.ref r43), .val (.int (1 : Int32)), .unset] [(.int (2 : Int32)), (.ref b17)]))
          refine Goes.of (fun t k => ldZ X55 hx hZ e55 F45 (j := (2 : Int32)) (i := 2) (v := (f1 u1 (2 : Int32))) (by decide) (by decide) (by decide) (by rw [hf_fr]; exact own_b1 _ _) (g := (mkF m 280 #[.val (.int u0), .val (.int u1), .val (.ref b16), .val (.ref b17), .val (.ref r43), .val (.int (1 : Int32)), .unset] [(.int (2 : Int32)), (.ref b17)])) rfl rfl (hb hby at_280) t k) ?_
          show Goes _ _ _ _ _ _ _ (T55.setTop (mkF m 281 #[.val (.int u0), .val (.int u1), .val (.ref b16), .val (.ref b17), .val (.ref r43), .val (.int (1 : Int32)), .unset] [(.int (f1 u1 (2 : Int32)))]))
          refine Goes.of (fun t k => XS.iloadN X55.here hx rfl (hb hby at_281) rfl k) ?_
          show Goes _ _ _ _ _ _ _ (T55.setTop (mkF m 282 #[.val (.int u0), .val (.int u1), .val (.ref b16), .val (.ref b17), .val (.ref r43), .val (.int (1 : Int32)), .unset] [(.int u1), (.int (f1 u1 (2 : Int32)))]))
          refine Goes.of (fun t k => XS.iconst X55.here hx rfl (hb hby at_282) k) ?_
          show Goes _ _ _ _ _ _ _ (T55.setTop (mkF m 283 #[.val (.int u0), .val (.int u1), .val (.ref b16), .val (.ref b17), .val (.ref r43), .val (.int (1 : Int32)), .unset] [(.int (2 : Int32)), (.int u1), (.int (f1 u1 (2 : Int32)))]))
          obtain ⟨_, _, ⟨T56, L56, k56, n56⟩, -, X56, ⟨Lc56, hQ56, l56, y56, z56⟩, st56⟩ := Jvm.LawKit.callS X55 hx (y := (⟨"com/example/network_attack_odds/networkattackodds/engine/GoalGraphMinusPinLaw", "bit", "(II)Z"⟩ : MethodName)) hown (mvT hZ (hw _ (List.mem_of_getElem? (i := 1) rfl))) (mvT hZ (hw _ (List.mem_of_getElem? (i := 2) rfl))) (mvT hZ (hw _ (List.mem_of_getElem? (i := 3) rfl))) (mvT hZ (hw _ (List.mem_of_getElem? (i := 4) rfl))) (by decide) (backOf (W := 1) (rm1 l Z a0 hw [] u1 (2 : Int32)  T43.heap n0 ) hZ (hw _ (List.mem_of_getElem? (i := 4) rfl)) (hw _ (List.mem_of_getElem? (i := 3) rfl)) (by decide) (by decide)) (g := (mkF m 283 #[.val (.int u0), .val (.int u1), .val (.ref b16), .val (.ref b17), .val (.ref r43), .val (.int (1 : Int32)), .unset] [(.int (2 : Int32)), (.int u1), (.int (f1 u1 (2 : Int32)))])) rfl (by rw [hml]; rfl) (argsL := [(.int u1), (.int (2 : Int32))]) (rest := [(.int (f1 u1 (2 : Int32)))]) (lenOf pd_0 rfl) rfl (by show 2 * 0 + _ ≤ _; exact Nat.le_of_eq rfl) (hb hby at_283) (fun _ _ => ⟨rfl, e55, (by decide : 3 + 0 ≤ _), (by decide : 12 + 0 ≤ _)⟩)
          dsimp only [Pt.U, Pt.locs, Pt.cells, Pt.slots] at X56 l56 y56 z56 st56 hQ56
          subst l56 y56 z56
          obtain ⟨rfl, N56q, e56⟩ := hQ56
          have N56 := Fr.app N55 N56q
          refine Goes.of st56 ?_
          show Goes _ _ _ _ _ _ _ (T56.setTop (mkF m 286 #[.val (.int u0), .val (.int u1), .val (.ref b16), .val (.ref b17), .val (.ref r43), .val (.int (1 : Int32)), .unset] [(.int (f1 u1 (2 : Int32))), (.int (f1 u1 (2 : Int32)))]))
          refine Goes.of (fun t k => XS.icmpNo X56.here hx rfl (hb hby at_286) rfl (teq (rfl : (f1 u1 (2 : Int32)) = (f1 u1 (2 : Int32)))).2 k) ?_
          show Goes _ _ _ _ _ _ _ (T56.setTop (mkF m 289 #[.val (.int u0), .val (.int u1), .val (.ref b16), .val (.ref b17), .val (.ref r43), .val (.int (1 : Int32)), .unset] []))
          refine Goes.of (fun t k => XS.aloadN X56.here hx rfl (hb hby at_289) rfl rfl k) ?_
          show Goes _ _ _ _ _ _ _ (T56.setTop (mkF m 290 #[.val (.int u0), .val (.int u1), .val (.ref b16), .val (.ref b17), .val (.ref r43), .val (.int (1 : Int32)), .unset] [(.ref b17)]))
          refine Goes.of (fun t k => XS.iconst X56.here hx rfl (hb hby at_290) k) ?_
          show Goes _ _ _ _ _ _ _ (T56.setTop (mkF m 291 #[.val (.int u0), .val (.int u1), .val (.ref b16), .val (.ref b17), .val (.ref r43), .val (.int (1 : Int32)), .unset] [(.int (3 : Int32)), (.ref b17)]))
          refine Goes.of (fun t k => ldZ X56 hx hZ e56 F45 (j := (3 : Int32)) (i := 3) (v := (f1 u1 (3 : Int32))) (by decide) (by decide) (by decide) (by rw [hf_fr]; exact own_b1 _ _) (g := (mkF m 291 #[.val (.int u0), .val (.int u1), .val (.ref b16), .val (.ref b17), .val (.ref r43), .val (.int (1 : Int32)), .unset] [(.int (3 : Int32)), (.ref b17)])) rfl rfl (hb hby at_291) t k) ?_
          show Goes _ _ _ _ _ _ _ (T56.setTop (mkF m 292 #[.val (.int u0), .val (.int u1), .val (.ref b16), .val (.ref b17), .val (.ref r43), .val (.int (1 : Int32)), .unset] [(.int (f1 u1 (3 : Int32)))]))
          refine Goes.of (fun t k => XS.iloadN X56.here hx rfl (hb hby at_292) rfl k) ?_
          show Goes _ _ _ _ _ _ _ (T56.setTop (mkF m 293 #[.val (.int u0), .val (.int u1), .val (.ref b16), .val (.ref b17), .val (.ref r43), .val (.int (1 : Int32)), .unset] [(.int u1), (.int (f1 u1 (3 : Int32)))]))
          refine Goes.of (fun t k => XS.iconst X56.here hx rfl (hb hby at_293) k) ?_
          show Goes _ _ _ _ _ _ _ (T56.setTop (mkF m 294 #[.val (.int u0), .val (.int u1), .val (.ref b16), .val (.ref b17), .val (.ref r43), .val (.int (1 : Int32)), .unset] [(.int (3 : Int32)), (.int u1), (.int (f1 u1 (3 : Int32)))]))
          obtain ⟨_, _, ⟨T57, L57, k57, n57⟩, -, X57, ⟨Lc57, hQ57, l57, y57, z57⟩, st57⟩ := Jvm.LawKit.callS X56 hx (y := (⟨"com/example/network_attack_odds/networkattackodds/engine/GoalGraphMinusPinLaw", "bit", "(II)Z"⟩ : MethodName)) hown (mvT hZ (hw _ (List.mem_of_getElem? (i := 1) rfl))) (mvT hZ (hw _ (List.mem_of_getElem? (i := 2) rfl))) (mvT hZ (hw _ (List.mem_of_getElem? (i := 3) rfl))) (mvT hZ (hw _ (List.mem_of_getElem? (i := 4) rfl))) (by decide) (backOf (W := 1) (rm1 l Z a0 hw [] u1 (3 : Int32)  T43.heap n0 ) hZ (hw _ (List.mem_of_getElem? (i := 4) rfl)) (hw _ (List.mem_of_getElem? (i := 3) rfl)) (by decide) (by decide)) (g := (mkF m 294 #[.val (.int u0), .val (.int u1), .val (.ref b16), .val (.ref b17), .val (.ref r43), .val (.int (1 : Int32)), .unset] [(.int (3 : Int32)), (.int u1), (.int (f1 u1 (3 : Int32)))])) rfl (by rw [hml]; rfl) (argsL := [(.int u1), (.int (3 : Int32))]) (rest := [(.int (f1 u1 (3 : Int32)))]) (lenOf pd_0 rfl) rfl (by show 2 * 0 + _ ≤ _; exact Nat.le_of_eq rfl) (hb hby at_294) (fun _ _ => ⟨rfl, e56, (by decide : 3 + 0 ≤ _), (by decide : 12 + 0 ≤ _)⟩)
          dsimp only [Pt.U, Pt.locs, Pt.cells, Pt.slots] at X57 l57 y57 z57 st57 hQ57
          subst l57 y57 z57
          obtain ⟨rfl, N57q, e57⟩ := hQ57
          have N57 := Fr.app N56 N57q
          refine Goes.of st57 ?_
          show Goes _ _ _ _ _ _ _ (T57.setTop (mkF m 297 #[.val (.int u0), .val (.int u1), .val (.ref b16), .val (.ref b17), .val (.ref r43), .val (.int (1 : Int32)), .unset] [(.int (f1 u1 (3 : Int32))), (.int (f1 u1 (3 : Int32)))]))
          refine Goes.of (fun t k => XS.icmpNo X57.here hx rfl (hb hby at_297) rfl (teq (rfl : (f1 u1 (3 : Int32)) = (f1 u1 (3 : Int32)))).2 k) ?_
          show Goes _ _ _ _ _ _ _ (T57.setTop (mkF m 300 #[.val (.int u0), .val (.int u1), .val (.ref b16), .val (.ref b17), .val (.ref r43), .val (.int (1 : Int32)), .unset] []))
          refine Goes.of (fun t k => XS.iconst X57.here hx rfl (hb hby at_300) k) ?_
          show Goes _ _ _ _ _ _ _ (T57.setTop (mkF m 301 #[.val (.int u0), .val (.int u1), .val (.ref b16), .val (.ref b17), .val (.ref r43), .val (.int (1 : Int32)), .unset] [(.int (1 : Int32))]))
          refine Goes.of (fun t k => XS.goto X57.here hx rfl (pc0 := 301) (pc' := 305) rfl (hb hby at_301) (by decide) (by decide) k) ?_
          show Goes _ _ _ _ _ _ _ (T57.setTop (mkF m 305 #[.val (.int u0), .val (.int u1), .val (.ref b16), .val (.ref b17), .val (.ref r43), .val (.int (1 : Int32)), .unset] [(.int (1 : Int32))]))
          refine Goes.of (fun t k => XS.istore X57.here hx rfl (hb hby at_305) rfl (l' := #[.val (.int u0), .val (.int u1), .val (.ref b16), .val (.ref b17), .val (.ref r43), .val (.int (1 : Int32)), .val (.int (1 : Int32))]) rfl k) ?_
          show Goes _ _ _ _ _ _ _ (T57.setTop (mkF m 307 #[.val (.int u0), .val (.int u1), .val (.ref b16), .val (.ref b17), .val (.ref r43), .val (.int (1 : Int32)), .val (.int (1 : Int32))] []))
          refine Goes.of (fun t k => XS.iload X57.here hx rfl (hb hby at_307) rfl k) ?_
          show Goes _ _ _ _ _ _ _ (T57.setTop (mkF m 309 #[.val (.int u0), .val (.int u1), .val (.ref b16), .val (.ref b17), .val (.ref r43), .val (.int (1 : Int32)), .val (.int (1 : Int32))] [(.int (1 : Int32))]))
          refine Goes.of (fun t k => XS.ifNo X57.here hx rfl (hb hby at_309) rfl ((if0 _ _).trans (feq (by decide : ¬ ((1 : Int32) = (0 : Int32)))).1) k) ?_
          show Goes _ _ _ _ _ _ _ (T57.setTop (mkF m 312 #[.val (.int u0), .val (.int u1), .val (.ref b16), .val (.ref b17), .val (.ref r43), .val (.int (1 : Int32)), .val (.int (1 : Int32))] []))
          refine Goes.of (fun t k => XS.iload X57.here hx rfl (hb hby at_312) rfl k) ?_
          show Goes _ _ _ _ _ _ _ (T57.setTop (mkF m 314 #[.val (.int u0), .val (.int u1), .val (.ref b16), .val (.ref b17), .val (.ref r43), .val (.int (1 : Int32)), .val (.int (1 : Int32))] [(.int (1 : Int32))]))
          refine Goes.of (fun t k => XS.ifNo X57.here hx rfl (hb hby at_314) rfl ((if0 _ _).trans (feq (by decide : ¬ ((1 : Int32) = (0 : Int32)))).1) k) ?_
          show Goes _ _ _ _ _ _ _ (T57.setTop (mkF m 317 #[.val (.int u0), .val (.int u1), .val (.ref b16), .val (.ref b17), .val (.ref r43), .val (.int (1 : Int32)), .val (.int (1 : Int32))] []))
          refine Goes.of (fun t k => XS.iconst X57.here hx rfl (hb hby at_317) k) ?_
          show Goes _ _ _ _ _ _ _ (T57.setTop (mkF m 318 #[.val (.int u0), .val (.int u1), .val (.ref b16), .val (.ref b17), .val (.ref r43), .val (.int (1 : Int32)), .val (.int (1 : Int32))] [(.int (1 : Int32))]))
          refine Goes.of (fun t k => XS.goto X57.here hx rfl (pc0 := 318) (pc' := 322) rfl (hb hby at_318) (by decide) (by decide) k) ?_
          show Goes _ _ _ _ _ _ _ (T57.setTop (mkF m 322 #[.val (.int u0), .val (.int u1), .val (.ref b16), .val (.ref b17), .val (.ref r43), .val (.int (1 : Int32)), .val (.int (1 : Int32))] [(.int (1 : Int32))]))
          exact Goes.fin X57 hlk (v := some (.int (1 : Int32))) (fun h => by rw [Bd.returns] at h; cases h) (fun fs hr => retN X57 hx (t := .boolean) Bd.returns (by simp) (hb hby at_322) hr) ⟨rfl, N57⟩ (by decide) (by decide)
        refine Goes.of (fun t k => XS.aload X48.here hx rfl (hb hby at_177) rfl rfl k) ?_
        show Goes _ _ _ _ _ _ _ (T48.setTop (mkF m 179 #[.val (.int u0), .val (.int u1), .val (.ref b16), .val (.ref b17), .val (.ref r43), .unset, .unset] [(.ref r43)]))
        refine Goes.of (fun t k => XS.iconst X48.here hx rfl (hb hby at_179) k) ?_
        show Goes _ _ _ _ _ _ _ (T48.setTop (mkF m 180 #[.val (.int u0), .val (.int u1), .val (.ref b16), .val (.ref b17), .val (.ref r43), .unset, .unset] [(.int (3 : Int32)), (.ref r43)]))
        refine Goes.of (fun t k => ldZ X48 hx hZ e48 V43 (j := (3 : Int32)) (i := 3) (v := (own_mi (f1 u0 (3 : Int32)) (f1 u1 (3 : Int32)))) (by decide) (by decide) (by decide) (by rw [hf_fs, hf_fr]; rfl) (g := (mkF m 180 #[.val (.int u0), .val (.int u1), .val (.ref b16), .val (.ref b17), .val (.ref r43), .unset, .unset] [(.int (3 : Int32)), (.ref r43)])) rfl rfl (hb hby at_180) t k) ?_
        show Goes _ _ _ _ _ _ _ (T48.setTop (mkF m 181 #[.val (.int u0), .val (.int u1), .val (.ref b16), .val (.ref b17), .val (.ref r43), .unset, .unset] [(.int (own_mi (f1 u0 (3 : Int32)) (f1 u1 (3 : Int32))))]))
        refine Goes.of (fun t k => XS.iloadN X48.here hx rfl (hb hby at_181) rfl k) ?_
        show Goes _ _ _ _ _ _ _ (T48.setTop (mkF m 182 #[.val (.int u0), .val (.int u1), .val (.ref b16), .val (.ref b17), .val (.ref r43), .unset, .unset] [(.int u0), (.int (own_mi (f1 u0 (3 : Int32)) (f1 u1 (3 : Int32))))]))
        refine Goes.of (fun t k => XS.iconst X48.here hx rfl (hb hby at_182) k) ?_
        show Goes _ _ _ _ _ _ _ (T48.setTop (mkF m 183 #[.val (.int u0), .val (.int u1), .val (.ref b16), .val (.ref b17), .val (.ref r43), .unset, .unset] [(.int (3 : Int32)), (.int u0), (.int (own_mi (f1 u0 (3 : Int32)) (f1 u1 (3 : Int32))))]))
        obtain ⟨_, _, ⟨T58, L58, k58, n58⟩, -, X58, ⟨Lc58, hQ58, l58, y58, z58⟩, st58⟩ := Jvm.LawKit.callS X48 hx (y := (⟨"com/example/network_attack_odds/networkattackodds/engine/GoalGraphMinusPinLaw", "bit", "(II)Z"⟩ : MethodName)) hown (mvT hZ (hw _ (List.mem_of_getElem? (i := 1) rfl))) (mvT hZ (hw _ (List.mem_of_getElem? (i := 2) rfl))) (mvT hZ (hw _ (List.mem_of_getElem? (i := 3) rfl))) (mvT hZ (hw _ (List.mem_of_getElem? (i := 4) rfl))) (by decide) (backOf (W := 1) (rm1 l Z a0 hw [] u0 (3 : Int32)  T43.heap n0 ) hZ (hw _ (List.mem_of_getElem? (i := 4) rfl)) (hw _ (List.mem_of_getElem? (i := 3) rfl)) (by decide) (by decide)) (g := (mkF m 183 #[.val (.int u0), .val (.int u1), .val (.ref b16), .val (.ref b17), .val (.ref r43), .unset, .unset] [(.int (3 : Int32)), (.int u0), (.int (own_mi (f1 u0 (3 : Int32)) (f1 u1 (3 : Int32))))])) rfl (by rw [hml]; rfl) (argsL := [(.int u0), (.int (3 : Int32))]) (rest := [(.int (own_mi (f1 u0 (3 : Int32)) (f1 u1 (3 : Int32))))]) (lenOf pd_0 rfl) rfl (by show 2 * 0 + _ ≤ _; exact Nat.le_of_eq rfl) (hb hby at_183) (fun _ _ => ⟨rfl, e48, (by decide : 3 + 0 ≤ _), (by decide : 12 + 0 ≤ _)⟩)
        dsimp only [Pt.U, Pt.locs, Pt.cells, Pt.slots] at X58 l58 y58 z58 st58 hQ58
        subst l58 y58 z58
        obtain ⟨rfl, N58q, e58⟩ := hQ58
        have N58 := Fr.app N48 N58q
        refine Goes.of st58 ?_
        show Goes _ _ _ _ _ _ _ (T58.setTop (mkF m 186 #[.val (.int u0), .val (.int u1), .val (.ref b16), .val (.ref b17), .val (.ref r43), .unset, .unset] [(.int (f1 u0 (3 : Int32))), (.int (own_mi (f1 u0 (3 : Int32)) (f1 u1 (3 : Int32))))]))
        by_cases hc59 : (f1 u0 (3 : Int32)) = (0 : Int32)
        · refine Goes.of (fun t k => XS.ifYes X58.here hx rfl (pc0 := 186) (pc' := 201) rfl (hb hby at_186) rfl ((if0 _ _).trans (teq hc59).1) (by decide) (by decide) k) ?_
          show Goes _ _ _ _ _ _ _ (T58.setTop (mkF m 201 #[.val (.int u0), .val (.int u1), .val (.ref b16), .val (.ref b17), .val (.ref r43), .unset, .unset] [(.int (own_mi (f1 u0 (3 : Int32)) (f1 u1 (3 : Int32))))]))
          refine Goes.of (fun t k => XS.iconst X58.here hx rfl (hb hby at_201) k) ?_
          show Goes _ _ _ _ _ _ _ (T58.setTop (mkF m 202 #[.val (.int u0), .val (.int u1), .val (.ref b16), .val (.ref b17), .val (.ref r43), .unset, .unset] [(.int (0 : Int32)), (.int (own_mi (f1 u0 (3 : Int32)) (f1 u1 (3 : Int32))))]))
          refine Goes.of (fun t k => XS.icmpNo X58.here hx rfl (hb hby at_202) rfl (teq (own_m0 hc59)).2 k) ?_
          show Goes _ _ _ _ _ _ _ (T58.setTop (mkF m 205 #[.val (.int u0), .val (.int u1), .val (.ref b16), .val (.ref b17), .val (.ref r43), .unset, .unset] []))
          exact j49 _ _  X58 e58 N58 
        · refine Goes.of (fun t k => XS.ifNo X58.here hx rfl (hb hby at_186) rfl ((if0 _ _).trans (feq hc59).1) k) ?_
          show Goes _ _ _ _ _ _ _ (T58.setTop (mkF m 189 #[.val (.int u0), .val (.int u1), .val (.ref b16), .val (.ref b17), .val (.ref r43), .unset, .unset] [(.int (own_mi (f1 u0 (3 : Int32)) (f1 u1 (3 : Int32))))]))
          refine Goes.of (fun t k => XS.iloadN X58.here hx rfl (hb hby at_189) rfl k) ?_
          show Goes _ _ _ _ _ _ _ (T58.setTop (mkF m 190 #[.val (.int u0), .val (.int u1), .val (.ref b16), .val (.ref b17), .val (.ref r43), .unset, .unset] [(.int u1), (.int (own_mi (f1 u0 (3 : Int32)) (f1 u1 (3 : Int32))))]))
          refine Goes.of (fun t k => XS.iconst X58.here hx rfl (hb hby at_190) k) ?_
          show Goes _ _ _ _ _ _ _ (T58.setTop (mkF m 191 #[.val (.int u0), .val (.int u1), .val (.ref b16), .val (.ref b17), .val (.ref r43), .unset, .unset] [(.int (3 : Int32)), (.int u1), (.int (own_mi (f1 u0 (3 : Int32)) (f1 u1 (3 : Int32))))]))
          obtain ⟨_, _, ⟨T60, L60, k60, n60⟩, -, X60, ⟨Lc60, hQ60, l60, y60, z60⟩, st60⟩ := Jvm.LawKit.callS X58 hx (y := (⟨"com/example/network_attack_odds/networkattackodds/engine/GoalGraphMinusPinLaw", "bit", "(II)Z"⟩ : MethodName)) hown (mvT hZ (hw _ (List.mem_of_getElem? (i := 1) rfl))) (mvT hZ (hw _ (List.mem_of_getElem? (i := 2) rfl))) (mvT hZ (hw _ (List.mem_of_getElem? (i := 3) rfl))) (mvT hZ (hw _ (List.mem_of_getElem? (i := 4) rfl))) (by decide) (backOf (W := 1) (rm1 l Z a0 hw [] u1 (3 : Int32)  T43.heap n0 ) hZ (hw _ (List.mem_of_getElem? (i := 4) rfl)) (hw _ (List.mem_of_getElem? (i := 3) rfl)) (by decide) (by decide)) (g := (mkF m 191 #[.val (.int u0), .val (.int u1), .val (.ref b16), .val (.ref b17), .val (.ref r43), .unset, .unset] [(.int (3 : Int32)), (.int u1), (.int (own_mi (f1 u0 (3 : Int32)) (f1 u1 (3 : Int32))))])) rfl (by rw [hml]; rfl) (argsL := [(.int u1), (.int (3 : Int32))]) (rest := [(.int (own_mi (f1 u0 (3 : Int32)) (f1 u1 (3 : Int32))))]) (lenOf pd_0 rfl) rfl (by show 2 * 0 + _ ≤ _; exact Nat.le_of_eq rfl) (hb hby at_191) (fun _ _ => ⟨rfl, e58, (by decide : 3 + 0 ≤ _), (by decide : 12 + 0 ≤ _)⟩)
          dsimp only [Pt.U, Pt.locs, Pt.cells, Pt.slots] at X60 l60 y60 z60 st60 hQ60
          subst l60 y60 z60
          obtain ⟨rfl, N60q, e60⟩ := hQ60
          have N60 := Fr.app N58 N60q
          refine Goes.of st60 ?_
          show Goes _ _ _ _ _ _ _ (T60.setTop (mkF m 194 #[.val (.int u0), .val (.int u1), .val (.ref b16), .val (.ref b17), .val (.ref r43), .unset, .unset] [(.int (f1 u1 (3 : Int32))), (.int (own_mi (f1 u0 (3 : Int32)) (f1 u1 (3 : Int32))))]))
          by_cases hc61 : (f1 u1 (3 : Int32)) = (0 : Int32)
          · refine Goes.of (fun t k => XS.ifNo X60.here hx rfl (hb hby at_194) rfl ((if0 _ _).trans (teq hc61).2) k) ?_
            show Goes _ _ _ _ _ _ _ (T60.setTop (mkF m 197 #[.val (.int u0), .val (.int u1), .val (.ref b16), .val (.ref b17), .val (.ref r43), .unset, .unset] [(.int (own_mi (f1 u0 (3 : Int32)) (f1 u1 (3 : Int32))))]))
            refine Goes.of (fun t k => XS.iconst X60.here hx rfl (hb hby at_197) k) ?_
            show Goes _ _ _ _ _ _ _ (T60.setTop (mkF m 198 #[.val (.int u0), .val (.int u1), .val (.ref b16), .val (.ref b17), .val (.ref r43), .unset, .unset] [(.int (1 : Int32)), (.int (own_mi (f1 u0 (3 : Int32)) (f1 u1 (3 : Int32))))]))
            refine Goes.of (fun t k => XS.goto X60.here hx rfl (pc0 := 198) (pc' := 202) rfl (hb hby at_198) (by decide) (by decide) k) ?_
            show Goes _ _ _ _ _ _ _ (T60.setTop (mkF m 202 #[.val (.int u0), .val (.int u1), .val (.ref b16), .val (.ref b17), .val (.ref r43), .unset, .unset] [(.int (1 : Int32)), (.int (own_mi (f1 u0 (3 : Int32)) (f1 u1 (3 : Int32))))]))
            refine Goes.of (fun t k => XS.icmpNo X60.here hx rfl (hb hby at_202) rfl (teq (own_m1 hc59 hc61)).2 k) ?_
            show Goes _ _ _ _ _ _ _ (T60.setTop (mkF m 205 #[.val (.int u0), .val (.int u1), .val (.ref b16), .val (.ref b17), .val (.ref r43), .unset, .unset] []))
            exact j49 _ _  X60 e60 N60 
          · refine Goes.of (fun t k => XS.ifYes X60.here hx rfl (pc0 := 194) (pc' := 201) rfl (hb hby at_194) rfl ((if0 _ _).trans (feq hc61).2) (by decide) (by decide) k) ?_
            show Goes _ _ _ _ _ _ _ (T60.setTop (mkF m 201 #[.val (.int u0), .val (.int u1), .val (.ref b16), .val (.ref b17), .val (.ref r43), .unset, .unset] [(.int (own_mi (f1 u0 (3 : Int32)) (f1 u1 (3 : Int32))))]))
            refine Goes.of (fun t k => XS.iconst X60.here hx rfl (hb hby at_201) k) ?_
            show Goes _ _ _ _ _ _ _ (T60.setTop (mkF m 202 #[.val (.int u0), .val (.int u1), .val (.ref b16), .val (.ref b17), .val (.ref r43), .unset, .unset] [(.int (0 : Int32)), (.int (own_mi (f1 u0 (3 : Int32)) (f1 u1 (3 : Int32))))]))
            refine Goes.of (fun t k => XS.icmpNo X60.here hx rfl (hb hby at_202) rfl (teq (own_m2 hc59 hc61)).2 k) ?_
            show Goes _ _ _ _ _ _ _ (T60.setTop (mkF m 205 #[.val (.int u0), .val (.int u1), .val (.ref b16), .val (.ref b17), .val (.ref r43), .unset, .unset] []))
            exact j49 _ _  X60 e60 N60 
      refine Goes.of (fun t k => XS.aload X47.here hx rfl (hb hby at_149) rfl rfl k) ?_
      show Goes _ _ _ _ _ _ _ (T47.setTop (mkF m 151 #[.val (.int u0), .val (.int u1), .val (.ref b16), .val (.ref b17), .val (.ref r43), .unset, .unset] [(.ref r43)]))
      refine Goes.of (fun t k => XS.iconst X47.here hx rfl (hb hby at_151) k) ?_
      show Goes _ _ _ _ _ _ _ (T47.setTop (mkF m 152 #[.val (.int u0), .val (.int u1), .val (.ref b16), .val (.ref b17), .val (.ref r43), .unset, .unset] [(.int (2 : Int32)), (.ref r43)]))
      refine Goes.of (fun t k => ldZ X47 hx hZ e47 V43 (j := (2 : Int32)) (i := 2) (v := (own_mi (f1 u0 (2 : Int32)) (f1 u1 (2 : Int32)))) (by decide) (by decide) (by decide) (by rw [hf_fs, hf_fr]; rfl) (g := (mkF m 152 #[.val (.int u0), .val (.int u1), .val (.ref b16), .val (.ref b17), .val (.ref r43), .unset, .unset] [(.int (2 : Int32)), (.ref r43)])) rfl rfl (hb hby at_152) t k) ?_
      show Goes _ _ _ _ _ _ _ (T47.setTop (mkF m 153 #[.val (.int u0), .val (.int u1), .val (.ref b16), .val (.ref b17), .val (.ref r43), .unset, .unset] [(.int (own_mi (f1 u0 (2 : Int32)) (f1 u1 (2 : Int32))))]))
      refine Goes.of (fun t k => XS.iloadN X47.here hx rfl (hb hby at_153) rfl k) ?_
      show Goes _ _ _ _ _ _ _ (T47.setTop (mkF m 154 #[.val (.int u0), .val (.int u1), .val (.ref b16), .val (.ref b17), .val (.ref r43), .unset, .unset] [(.int u0), (.int (own_mi (f1 u0 (2 : Int32)) (f1 u1 (2 : Int32))))]))
      refine Goes.of (fun t k => XS.iconst X47.here hx rfl (hb hby at_154) k) ?_
      show Goes _ _ _ _ _ _ _ (T47.setTop (mkF m 155 #[.val (.int u0), .val (.int u1), .val (.ref b16), .val (.ref b17), .val (.ref r43), .unset, .unset] [(.int (2 : Int32)), (.int u0), (.int (own_mi (f1 u0 (2 : Int32)) (f1 u1 (2 : Int32))))]))
      obtain ⟨_, _, ⟨T62, L62, k62, n62⟩, -, X62, ⟨Lc62, hQ62, l62, y62, z62⟩, st62⟩ := Jvm.LawKit.callS X47 hx (y := (⟨"com/example/network_attack_odds/networkattackodds/engine/GoalGraphMinusPinLaw", "bit", "(II)Z"⟩ : MethodName)) hown (mvT hZ (hw _ (List.mem_of_getElem? (i := 1) rfl))) (mvT hZ (hw _ (List.mem_of_getElem? (i := 2) rfl))) (mvT hZ (hw _ (List.mem_of_getElem? (i := 3) rfl))) (mvT hZ (hw _ (List.mem_of_getElem? (i := 4) rfl))) (by decide) (backOf (W := 1) (rm1 l Z a0 hw [] u0 (2 : Int32)  T43.heap n0 ) hZ (hw _ (List.mem_of_getElem? (i := 4) rfl)) (hw _ (List.mem_of_getElem? (i := 3) rfl)) (by decide) (by decide)) (g := (mkF m 155 #[.val (.int u0), .val (.int u1), .val (.ref b16), .val (.ref b17), .val (.ref r43), .unset, .unset] [(.int (2 : Int32)), (.int u0), (.int (own_mi (f1 u0 (2 : Int32)) (f1 u1 (2 : Int32))))])) rfl (by rw [hml]; rfl) (argsL := [(.int u0), (.int (2 : Int32))]) (rest := [(.int (own_mi (f1 u0 (2 : Int32)) (f1 u1 (2 : Int32))))]) (lenOf pd_0 rfl) rfl (by show 2 * 0 + _ ≤ _; exact Nat.le_of_eq rfl) (hb hby at_155) (fun _ _ => ⟨rfl, e47, (by decide : 3 + 0 ≤ _), (by decide : 12 + 0 ≤ _)⟩)
      dsimp only [Pt.U, Pt.locs, Pt.cells, Pt.slots] at X62 l62 y62 z62 st62 hQ62
      subst l62 y62 z62
      obtain ⟨rfl, N62q, e62⟩ := hQ62
      have N62 := Fr.app N47 N62q
      refine Goes.of st62 ?_
      show Goes _ _ _ _ _ _ _ (T62.setTop (mkF m 158 #[.val (.int u0), .val (.int u1), .val (.ref b16), .val (.ref b17), .val (.ref r43), .unset, .unset] [(.int (f1 u0 (2 : Int32))), (.int (own_mi (f1 u0 (2 : Int32)) (f1 u1 (2 : Int32))))]))
      by_cases hc63 : (f1 u0 (2 : Int32)) = (0 : Int32)
      · refine Goes.of (fun t k => XS.ifYes X62.here hx rfl (pc0 := 158) (pc' := 173) rfl (hb hby at_158) rfl ((if0 _ _).trans (teq hc63).1) (by decide) (by decide) k) ?_
        show Goes _ _ _ _ _ _ _ (T62.setTop (mkF m 173 #[.val (.int u0), .val (.int u1), .val (.ref b16), .val (.ref b17), .val (.ref r43), .unset, .unset] [(.int (own_mi (f1 u0 (2 : Int32)) (f1 u1 (2 : Int32))))]))
        refine Goes.of (fun t k => XS.iconst X62.here hx rfl (hb hby at_173) k) ?_
        show Goes _ _ _ _ _ _ _ (T62.setTop (mkF m 174 #[.val (.int u0), .val (.int u1), .val (.ref b16), .val (.ref b17), .val (.ref r43), .unset, .unset] [(.int (0 : Int32)), (.int (own_mi (f1 u0 (2 : Int32)) (f1 u1 (2 : Int32))))]))
        refine Goes.of (fun t k => XS.icmpNo X62.here hx rfl (hb hby at_174) rfl (teq (own_m0 hc63)).2 k) ?_
        show Goes _ _ _ _ _ _ _ (T62.setTop (mkF m 177 #[.val (.int u0), .val (.int u1), .val (.ref b16), .val (.ref b17), .val (.ref r43), .unset, .unset] []))
        exact j48 _ _  X62 e62 N62 
      · refine Goes.of (fun t k => XS.ifNo X62.here hx rfl (hb hby at_158) rfl ((if0 _ _).trans (feq hc63).1) k) ?_
        show Goes _ _ _ _ _ _ _ (T62.setTop (mkF m 161 #[.val (.int u0), .val (.int u1), .val (.ref b16), .val (.ref b17), .val (.ref r43), .unset, .unset] [(.int (own_mi (f1 u0 (2 : Int32)) (f1 u1 (2 : Int32))))]))
        refine Goes.of (fun t k => XS.iloadN X62.here hx rfl (hb hby at_161) rfl k) ?_
        show Goes _ _ _ _ _ _ _ (T62.setTop (mkF m 162 #[.val (.int u0), .val (.int u1), .val (.ref b16), .val (.ref b17), .val (.ref r43), .unset, .unset] [(.int u1), (.int (own_mi (f1 u0 (2 : Int32)) (f1 u1 (2 : Int32))))]))
        refine Goes.of (fun t k => XS.iconst X62.here hx rfl (hb hby at_162) k) ?_
        show Goes _ _ _ _ _ _ _ (T62.setTop (mkF m 163 #[.val (.int u0), .val (.int u1), .val (.ref b16), .val (.ref b17), .val (.ref r43), .unset, .unset] [(.int (2 : Int32)), (.int u1), (.int (own_mi (f1 u0 (2 : Int32)) (f1 u1 (2 : Int32))))]))
        obtain ⟨_, _, ⟨T64, L64, k64, n64⟩, -, X64, ⟨Lc64, hQ64, l64, y64, z64⟩, st64⟩ := Jvm.LawKit.callS X62 hx (y := (⟨"com/example/network_attack_odds/networkattackodds/engine/GoalGraphMinusPinLaw", "bit", "(II)Z"⟩ : MethodName)) hown (mvT hZ (hw _ (List.mem_of_getElem? (i := 1) rfl))) (mvT hZ (hw _ (List.mem_of_getElem? (i := 2) rfl))) (mvT hZ (hw _ (List.mem_of_getElem? (i := 3) rfl))) (mvT hZ (hw _ (List.mem_of_getElem? (i := 4) rfl))) (by decide) (backOf (W := 1) (rm1 l Z a0 hw [] u1 (2 : Int32)  T43.heap n0 ) hZ (hw _ (List.mem_of_getElem? (i := 4) rfl)) (hw _ (List.mem_of_getElem? (i := 3) rfl)) (by decide) (by decide)) (g := (mkF m 163 #[.val (.int u0), .val (.int u1), .val (.ref b16), .val (.ref b17), .val (.ref r43), .unset, .unset] [(.int (2 : Int32)), (.int u1), (.int (own_mi (f1 u0 (2 : Int32)) (f1 u1 (2 : Int32))))])) rfl (by rw [hml]; rfl) (argsL := [(.int u1), (.int (2 : Int32))]) (rest := [(.int (own_mi (f1 u0 (2 : Int32)) (f1 u1 (2 : Int32))))]) (lenOf pd_0 rfl) rfl (by show 2 * 0 + _ ≤ _; exact Nat.le_of_eq rfl) (hb hby at_163) (fun _ _ => ⟨rfl, e62, (by decide : 3 + 0 ≤ _), (by decide : 12 + 0 ≤ _)⟩)
        dsimp only [Pt.U, Pt.locs, Pt.cells, Pt.slots] at X64 l64 y64 z64 st64 hQ64
        subst l64 y64 z64
        obtain ⟨rfl, N64q, e64⟩ := hQ64
        have N64 := Fr.app N62 N64q
        refine Goes.of st64 ?_
        show Goes _ _ _ _ _ _ _ (T64.setTop (mkF m 166 #[.val (.int u0), .val (.int u1), .val (.ref b16), .val (.ref b17), .val (.ref r43), .unset, .unset] [(.int (f1 u1 (2 : Int32))), (.int (own_mi (f1 u0 (2 : Int32)) (f1 u1 (2 : Int32))))]))
        by_cases hc65 : (f1 u1 (2 : Int32)) = (0 : Int32)
        · refine Goes.of (fun t k => XS.ifNo X64.here hx rfl (hb hby at_166) rfl ((if0 _ _).trans (teq hc65).2) k) ?_
          show Goes _ _ _ _ _ _ _ (T64.setTop (mkF m 169 #[.val (.int u0), .val (.int u1), .val (.ref b16), .val (.ref b17), .val (.ref r43), .unset, .unset] [(.int (own_mi (f1 u0 (2 : Int32)) (f1 u1 (2 : Int32))))]))
          refine Goes.of (fun t k => XS.iconst X64.here hx rfl (hb hby at_169) k) ?_
          show Goes _ _ _ _ _ _ _ (T64.setTop (mkF m 170 #[.val (.int u0), .val (.int u1), .val (.ref b16), .val (.ref b17), .val (.ref r43), .unset, .unset] [(.int (1 : Int32)), (.int (own_mi (f1 u0 (2 : Int32)) (f1 u1 (2 : Int32))))]))
          refine Goes.of (fun t k => XS.goto X64.here hx rfl (pc0 := 170) (pc' := 174) rfl (hb hby at_170) (by decide) (by decide) k) ?_
          show Goes _ _ _ _ _ _ _ (T64.setTop (mkF m 174 #[.val (.int u0), .val (.int u1), .val (.ref b16), .val (.ref b17), .val (.ref r43), .unset, .unset] [(.int (1 : Int32)), (.int (own_mi (f1 u0 (2 : Int32)) (f1 u1 (2 : Int32))))]))
          refine Goes.of (fun t k => XS.icmpNo X64.here hx rfl (hb hby at_174) rfl (teq (own_m1 hc63 hc65)).2 k) ?_
          show Goes _ _ _ _ _ _ _ (T64.setTop (mkF m 177 #[.val (.int u0), .val (.int u1), .val (.ref b16), .val (.ref b17), .val (.ref r43), .unset, .unset] []))
          exact j48 _ _  X64 e64 N64 
        · refine Goes.of (fun t k => XS.ifYes X64.here hx rfl (pc0 := 166) (pc' := 173) rfl (hb hby at_166) rfl ((if0 _ _).trans (feq hc65).2) (by decide) (by decide) k) ?_
          show Goes _ _ _ _ _ _ _ (T64.setTop (mkF m 173 #[.val (.int u0), .val (.int u1), .val (.ref b16), .val (.ref b17), .val (.ref r43), .unset, .unset] [(.int (own_mi (f1 u0 (2 : Int32)) (f1 u1 (2 : Int32))))]))
          refine Goes.of (fun t k => XS.iconst X64.here hx rfl (hb hby at_173) k) ?_
          show Goes _ _ _ _ _ _ _ (T64.setTop (mkF m 174 #[.val (.int u0), .val (.int u1), .val (.ref b16), .val (.ref b17), .val (.ref r43), .unset, .unset] [(.int (0 : Int32)), (.int (own_mi (f1 u0 (2 : Int32)) (f1 u1 (2 : Int32))))]))
          refine Goes.of (fun t k => XS.icmpNo X64.here hx rfl (hb hby at_174) rfl (teq (own_m2 hc63 hc65)).2 k) ?_
          show Goes _ _ _ _ _ _ _ (T64.setTop (mkF m 177 #[.val (.int u0), .val (.int u1), .val (.ref b16), .val (.ref b17), .val (.ref r43), .unset, .unset] []))
          exact j48 _ _  X64 e64 N64 
    refine Goes.of (fun t k => XS.aload X46.here hx rfl (hb hby at_121) rfl rfl k) ?_
    show Goes _ _ _ _ _ _ _ (T46.setTop (mkF m 123 #[.val (.int u0), .val (.int u1), .val (.ref b16), .val (.ref b17), .val (.ref r43), .unset, .unset] [(.ref r43)]))
    refine Goes.of (fun t k => XS.iconst X46.here hx rfl (hb hby at_123) k) ?_
    show Goes _ _ _ _ _ _ _ (T46.setTop (mkF m 124 #[.val (.int u0), .val (.int u1), .val (.ref b16), .val (.ref b17), .val (.ref r43), .unset, .unset] [(.int (1 : Int32)), (.ref r43)]))
    refine Goes.of (fun t k => ldZ X46 hx hZ e46 V43 (j := (1 : Int32)) (i := 1) (v := (own_mi (f1 u0 (1 : Int32)) (f1 u1 (1 : Int32)))) (by decide) (by decide) (by decide) (by rw [hf_fs, hf_fr]; rfl) (g := (mkF m 124 #[.val (.int u0), .val (.int u1), .val (.ref b16), .val (.ref b17), .val (.ref r43), .unset, .unset] [(.int (1 : Int32)), (.ref r43)])) rfl rfl (hb hby at_124) t k) ?_
    show Goes _ _ _ _ _ _ _ (T46.setTop (mkF m 125 #[.val (.int u0), .val (.int u1), .val (.ref b16), .val (.ref b17), .val (.ref r43), .unset, .unset] [(.int (own_mi (f1 u0 (1 : Int32)) (f1 u1 (1 : Int32))))]))
    refine Goes.of (fun t k => XS.iloadN X46.here hx rfl (hb hby at_125) rfl k) ?_
    show Goes _ _ _ _ _ _ _ (T46.setTop (mkF m 126 #[.val (.int u0), .val (.int u1), .val (.ref b16), .val (.ref b17), .val (.ref r43), .unset, .unset] [(.int u0), (.int (own_mi (f1 u0 (1 : Int32)) (f1 u1 (1 : Int32))))]))
    refine Goes.of (fun t k => XS.iconst X46.here hx rfl (hb hby at_126) k) ?_
    show Goes _ _ _ _ _ _ _ (T46.setTop (mkF m 127 #[.val (.int u0), .val (.int u1), .val (.ref b16), .val (.ref b17), .val (.ref r43), .unset, .unset] [(.int (1 : Int32)), (.int u0), (.int (own_mi (f1 u0 (1 : Int32)) (f1 u1 (1 : Int32))))]))
    obtain ⟨_, _, ⟨T66, L66, k66, n66⟩, -, X66, ⟨Lc66, hQ66, l66, y66, z66⟩, st66⟩ := Jvm.LawKit.callS X46 hx (y := (⟨"com/example/network_attack_odds/networkattackodds/engine/GoalGraphMinusPinLaw", "bit", "(II)Z"⟩ : MethodName)) hown (mvT hZ (hw _ (List.mem_of_getElem? (i := 1) rfl))) (mvT hZ (hw _ (List.mem_of_getElem? (i := 2) rfl))) (mvT hZ (hw _ (List.mem_of_getElem? (i := 3) rfl))) (mvT hZ (hw _ (List.mem_of_getElem? (i := 4) rfl))) (by decide) (backOf (W := 1) (rm1 l Z a0 hw [] u0 (1 : Int32)  T43.heap n0 ) hZ (hw _ (List.mem_of_getElem? (i := 4) rfl)) (hw _ (List.mem_of_getElem? (i := 3) rfl)) (by decide) (by decide)) (g := (mkF m 127 #[.val (.int u0), .val (.int u1), .val (.ref b16), .val (.ref b17), .val (.ref r43), .unset, .unset] [(.int (1 : Int32)), (.int u0), (.int (own_mi (f1 u0 (1 : Int32)) (f1 u1 (1 : Int32))))])) rfl (by rw [hml]; rfl) (argsL := [(.int u0), (.int (1 : Int32))]) (rest := [(.int (own_mi (f1 u0 (1 : Int32)) (f1 u1 (1 : Int32))))]) (lenOf pd_0 rfl) rfl (by show 2 * 0 + _ ≤ _; exact Nat.le_of_eq rfl) (hb hby at_127) (fun _ _ => ⟨rfl, e46, (by decide : 3 + 0 ≤ _), (by decide : 12 + 0 ≤ _)⟩)
    dsimp only [Pt.U, Pt.locs, Pt.cells, Pt.slots] at X66 l66 y66 z66 st66 hQ66
    subst l66 y66 z66
    obtain ⟨rfl, N66q, e66⟩ := hQ66
    have N66 := Fr.app N46 N66q
    refine Goes.of st66 ?_
    show Goes _ _ _ _ _ _ _ (T66.setTop (mkF m 130 #[.val (.int u0), .val (.int u1), .val (.ref b16), .val (.ref b17), .val (.ref r43), .unset, .unset] [(.int (f1 u0 (1 : Int32))), (.int (own_mi (f1 u0 (1 : Int32)) (f1 u1 (1 : Int32))))]))
    by_cases hc67 : (f1 u0 (1 : Int32)) = (0 : Int32)
    · refine Goes.of (fun t k => XS.ifYes X66.here hx rfl (pc0 := 130) (pc' := 145) rfl (hb hby at_130) rfl ((if0 _ _).trans (teq hc67).1) (by decide) (by decide) k) ?_
      show Goes _ _ _ _ _ _ _ (T66.setTop (mkF m 145 #[.val (.int u0), .val (.int u1), .val (.ref b16), .val (.ref b17), .val (.ref r43), .unset, .unset] [(.int (own_mi (f1 u0 (1 : Int32)) (f1 u1 (1 : Int32))))]))
      refine Goes.of (fun t k => XS.iconst X66.here hx rfl (hb hby at_145) k) ?_
      show Goes _ _ _ _ _ _ _ (T66.setTop (mkF m 146 #[.val (.int u0), .val (.int u1), .val (.ref b16), .val (.ref b17), .val (.ref r43), .unset, .unset] [(.int (0 : Int32)), (.int (own_mi (f1 u0 (1 : Int32)) (f1 u1 (1 : Int32))))]))
      refine Goes.of (fun t k => XS.icmpNo X66.here hx rfl (hb hby at_146) rfl (teq (own_m0 hc67)).2 k) ?_
      show Goes _ _ _ _ _ _ _ (T66.setTop (mkF m 149 #[.val (.int u0), .val (.int u1), .val (.ref b16), .val (.ref b17), .val (.ref r43), .unset, .unset] []))
      exact j47 _ _  X66 e66 N66 
    · refine Goes.of (fun t k => XS.ifNo X66.here hx rfl (hb hby at_130) rfl ((if0 _ _).trans (feq hc67).1) k) ?_
      show Goes _ _ _ _ _ _ _ (T66.setTop (mkF m 133 #[.val (.int u0), .val (.int u1), .val (.ref b16), .val (.ref b17), .val (.ref r43), .unset, .unset] [(.int (own_mi (f1 u0 (1 : Int32)) (f1 u1 (1 : Int32))))]))
      refine Goes.of (fun t k => XS.iloadN X66.here hx rfl (hb hby at_133) rfl k) ?_
      show Goes _ _ _ _ _ _ _ (T66.setTop (mkF m 134 #[.val (.int u0), .val (.int u1), .val (.ref b16), .val (.ref b17), .val (.ref r43), .unset, .unset] [(.int u1), (.int (own_mi (f1 u0 (1 : Int32)) (f1 u1 (1 : Int32))))]))
      refine Goes.of (fun t k => XS.iconst X66.here hx rfl (hb hby at_134) k) ?_
      show Goes _ _ _ _ _ _ _ (T66.setTop (mkF m 135 #[.val (.int u0), .val (.int u1), .val (.ref b16), .val (.ref b17), .val (.ref r43), .unset, .unset] [(.int (1 : Int32)), (.int u1), (.int (own_mi (f1 u0 (1 : Int32)) (f1 u1 (1 : Int32))))]))
      obtain ⟨_, _, ⟨T68, L68, k68, n68⟩, -, X68, ⟨Lc68, hQ68, l68, y68, z68⟩, st68⟩ := Jvm.LawKit.callS X66 hx (y := (⟨"com/example/network_attack_odds/networkattackodds/engine/GoalGraphMinusPinLaw", "bit", "(II)Z"⟩ : MethodName)) hown (mvT hZ (hw _ (List.mem_of_getElem? (i := 1) rfl))) (mvT hZ (hw _ (List.mem_of_getElem? (i := 2) rfl))) (mvT hZ (hw _ (List.mem_of_getElem? (i := 3) rfl))) (mvT hZ (hw _ (List.mem_of_getElem? (i := 4) rfl))) (by decide) (backOf (W := 1) (rm1 l Z a0 hw [] u1 (1 : Int32)  T43.heap n0 ) hZ (hw _ (List.mem_of_getElem? (i := 4) rfl)) (hw _ (List.mem_of_getElem? (i := 3) rfl)) (by decide) (by decide)) (g := (mkF m 135 #[.val (.int u0), .val (.int u1), .val (.ref b16), .val (.ref b17), .val (.ref r43), .unset, .unset] [(.int (1 : Int32)), (.int u1), (.int (own_mi (f1 u0 (1 : Int32)) (f1 u1 (1 : Int32))))])) rfl (by rw [hml]; rfl) (argsL := [(.int u1), (.int (1 : Int32))]) (rest := [(.int (own_mi (f1 u0 (1 : Int32)) (f1 u1 (1 : Int32))))]) (lenOf pd_0 rfl) rfl (by show 2 * 0 + _ ≤ _; exact Nat.le_of_eq rfl) (hb hby at_135) (fun _ _ => ⟨rfl, e66, (by decide : 3 + 0 ≤ _), (by decide : 12 + 0 ≤ _)⟩)
      dsimp only [Pt.U, Pt.locs, Pt.cells, Pt.slots] at X68 l68 y68 z68 st68 hQ68
      subst l68 y68 z68
      obtain ⟨rfl, N68q, e68⟩ := hQ68
      have N68 := Fr.app N66 N68q
      refine Goes.of st68 ?_
      show Goes _ _ _ _ _ _ _ (T68.setTop (mkF m 138 #[.val (.int u0), .val (.int u1), .val (.ref b16), .val (.ref b17), .val (.ref r43), .unset, .unset] [(.int (f1 u1 (1 : Int32))), (.int (own_mi (f1 u0 (1 : Int32)) (f1 u1 (1 : Int32))))]))
      by_cases hc69 : (f1 u1 (1 : Int32)) = (0 : Int32)
      · refine Goes.of (fun t k => XS.ifNo X68.here hx rfl (hb hby at_138) rfl ((if0 _ _).trans (teq hc69).2) k) ?_
        show Goes _ _ _ _ _ _ _ (T68.setTop (mkF m 141 #[.val (.int u0), .val (.int u1), .val (.ref b16), .val (.ref b17), .val (.ref r43), .unset, .unset] [(.int (own_mi (f1 u0 (1 : Int32)) (f1 u1 (1 : Int32))))]))
        refine Goes.of (fun t k => XS.iconst X68.here hx rfl (hb hby at_141) k) ?_
        show Goes _ _ _ _ _ _ _ (T68.setTop (mkF m 142 #[.val (.int u0), .val (.int u1), .val (.ref b16), .val (.ref b17), .val (.ref r43), .unset, .unset] [(.int (1 : Int32)), (.int (own_mi (f1 u0 (1 : Int32)) (f1 u1 (1 : Int32))))]))
        refine Goes.of (fun t k => XS.goto X68.here hx rfl (pc0 := 142) (pc' := 146) rfl (hb hby at_142) (by decide) (by decide) k) ?_
        show Goes _ _ _ _ _ _ _ (T68.setTop (mkF m 146 #[.val (.int u0), .val (.int u1), .val (.ref b16), .val (.ref b17), .val (.ref r43), .unset, .unset] [(.int (1 : Int32)), (.int (own_mi (f1 u0 (1 : Int32)) (f1 u1 (1 : Int32))))]))
        refine Goes.of (fun t k => XS.icmpNo X68.here hx rfl (hb hby at_146) rfl (teq (own_m1 hc67 hc69)).2 k) ?_
        show Goes _ _ _ _ _ _ _ (T68.setTop (mkF m 149 #[.val (.int u0), .val (.int u1), .val (.ref b16), .val (.ref b17), .val (.ref r43), .unset, .unset] []))
        exact j47 _ _  X68 e68 N68 
      · refine Goes.of (fun t k => XS.ifYes X68.here hx rfl (pc0 := 138) (pc' := 145) rfl (hb hby at_138) rfl ((if0 _ _).trans (feq hc69).2) (by decide) (by decide) k) ?_
        show Goes _ _ _ _ _ _ _ (T68.setTop (mkF m 145 #[.val (.int u0), .val (.int u1), .val (.ref b16), .val (.ref b17), .val (.ref r43), .unset, .unset] [(.int (own_mi (f1 u0 (1 : Int32)) (f1 u1 (1 : Int32))))]))
        refine Goes.of (fun t k => XS.iconst X68.here hx rfl (hb hby at_145) k) ?_
        show Goes _ _ _ _ _ _ _ (T68.setTop (mkF m 146 #[.val (.int u0), .val (.int u1), .val (.ref b16), .val (.ref b17), .val (.ref r43), .unset, .unset] [(.int (0 : Int32)), (.int (own_mi (f1 u0 (1 : Int32)) (f1 u1 (1 : Int32))))]))
        refine Goes.of (fun t k => XS.icmpNo X68.here hx rfl (hb hby at_146) rfl (teq (own_m2 hc67 hc69)).2 k) ?_
        show Goes _ _ _ _ _ _ _ (T68.setTop (mkF m 149 #[.val (.int u0), .val (.int u1), .val (.ref b16), .val (.ref b17), .val (.ref r43), .unset, .unset] []))
        exact j47 _ _  X68 e68 N68 
  refine Goes.of (fun t k => XS.aload X43.here hx rfl (hb hby at_93) rfl rfl k) ?_
  show Goes _ _ _ _ _ _ _ (T43.setTop (mkF m 95 #[.val (.int u0), .val (.int u1), .val (.ref b16), .val (.ref b17), .val (.ref r43), .unset, .unset] [(.ref r43)]))
  refine Goes.of (fun t k => XS.iconst X43.here hx rfl (hb hby at_95) k) ?_
  show Goes _ _ _ _ _ _ _ (T43.setTop (mkF m 96 #[.val (.int u0), .val (.int u1), .val (.ref b16), .val (.ref b17), .val (.ref r43), .unset, .unset] [(.int (0 : Int32)), (.ref r43)]))
  refine Goes.of (fun t k => ldZ X43 hx hZ rfl V43 (j := (0 : Int32)) (i := 0) (v := (own_mi (f1 u0 (0 : Int32)) (f1 u1 (0 : Int32)))) (by decide) (by decide) (by decide) (by rw [hf_fs, hf_fr]; rfl) (g := (mkF m 96 #[.val (.int u0), .val (.int u1), .val (.ref b16), .val (.ref b17), .val (.ref r43), .unset, .unset] [(.int (0 : Int32)), (.ref r43)])) rfl rfl (hb hby at_96) t k) ?_
  show Goes _ _ _ _ _ _ _ (T43.setTop (mkF m 97 #[.val (.int u0), .val (.int u1), .val (.ref b16), .val (.ref b17), .val (.ref r43), .unset, .unset] [(.int (own_mi (f1 u0 (0 : Int32)) (f1 u1 (0 : Int32))))]))
  refine Goes.of (fun t k => XS.iloadN X43.here hx rfl (hb hby at_97) rfl k) ?_
  show Goes _ _ _ _ _ _ _ (T43.setTop (mkF m 98 #[.val (.int u0), .val (.int u1), .val (.ref b16), .val (.ref b17), .val (.ref r43), .unset, .unset] [(.int u0), (.int (own_mi (f1 u0 (0 : Int32)) (f1 u1 (0 : Int32))))]))
  refine Goes.of (fun t k => XS.iconst X43.here hx rfl (hb hby at_98) k) ?_
  show Goes _ _ _ _ _ _ _ (T43.setTop (mkF m 99 #[.val (.int u0), .val (.int u1), .val (.ref b16), .val (.ref b17), .val (.ref r43), .unset, .unset] [(.int (0 : Int32)), (.int u0), (.int (own_mi (f1 u0 (0 : Int32)) (f1 u1 (0 : Int32))))]))
  obtain ⟨_, _, ⟨T70, L70, k70, n70⟩, -, X70, ⟨Lc70, hQ70, l70, y70, z70⟩, st70⟩ := Jvm.LawKit.callS X43 hx (y := (⟨"com/example/network_attack_odds/networkattackodds/engine/GoalGraphMinusPinLaw", "bit", "(II)Z"⟩ : MethodName)) hown (mvT hZ (hw _ (List.mem_of_getElem? (i := 1) rfl))) (mvT hZ (hw _ (List.mem_of_getElem? (i := 2) rfl))) (mvT hZ (hw _ (List.mem_of_getElem? (i := 3) rfl))) (mvT hZ (hw _ (List.mem_of_getElem? (i := 4) rfl))) (by decide) (backOf (W := 1) (rm1 l Z a0 hw [] u0 (0 : Int32)  T43.heap n0 ) hZ (hw _ (List.mem_of_getElem? (i := 4) rfl)) (hw _ (List.mem_of_getElem? (i := 3) rfl)) (by decide) (by decide)) (g := (mkF m 99 #[.val (.int u0), .val (.int u1), .val (.ref b16), .val (.ref b17), .val (.ref r43), .unset, .unset] [(.int (0 : Int32)), (.int u0), (.int (own_mi (f1 u0 (0 : Int32)) (f1 u1 (0 : Int32))))])) rfl (by rw [hml]; rfl) (argsL := [(.int u0), (.int (0 : Int32))]) (rest := [(.int (own_mi (f1 u0 (0 : Int32)) (f1 u1 (0 : Int32))))]) (lenOf pd_0 rfl) rfl (by show 2 * 0 + _ ≤ _; exact Nat.le_of_eq rfl) (hb hby at_99) (fun _ _ => ⟨rfl, rfl, (by decide : 3 + 0 ≤ _), (by decide : 12 + 0 ≤ _)⟩)
  dsimp only [Pt.U, Pt.locs, Pt.cells, Pt.slots] at X70 l70 y70 z70 st70 hQ70
  subst l70 y70 z70
  obtain ⟨rfl, N70q, e70⟩ := hQ70
  have N70 := Fr.app N43 N70q
  refine Goes.of st70 ?_
  show Goes _ _ _ _ _ _ _ (T70.setTop (mkF m 102 #[.val (.int u0), .val (.int u1), .val (.ref b16), .val (.ref b17), .val (.ref r43), .unset, .unset] [(.int (f1 u0 (0 : Int32))), (.int (own_mi (f1 u0 (0 : Int32)) (f1 u1 (0 : Int32))))]))
  by_cases hc71 : (f1 u0 (0 : Int32)) = (0 : Int32)
  · refine Goes.of (fun t k => XS.ifYes X70.here hx rfl (pc0 := 102) (pc' := 117) rfl (hb hby at_102) rfl ((if0 _ _).trans (teq hc71).1) (by decide) (by decide) k) ?_
    show Goes _ _ _ _ _ _ _ (T70.setTop (mkF m 117 #[.val (.int u0), .val (.int u1), .val (.ref b16), .val (.ref b17), .val (.ref r43), .unset, .unset] [(.int (own_mi (f1 u0 (0 : Int32)) (f1 u1 (0 : Int32))))]))
    refine Goes.of (fun t k => XS.iconst X70.here hx rfl (hb hby at_117) k) ?_
    show Goes _ _ _ _ _ _ _ (T70.setTop (mkF m 118 #[.val (.int u0), .val (.int u1), .val (.ref b16), .val (.ref b17), .val (.ref r43), .unset, .unset] [(.int (0 : Int32)), (.int (own_mi (f1 u0 (0 : Int32)) (f1 u1 (0 : Int32))))]))
    refine Goes.of (fun t k => XS.icmpNo X70.here hx rfl (hb hby at_118) rfl (teq (own_m0 hc71)).2 k) ?_
    show Goes _ _ _ _ _ _ _ (T70.setTop (mkF m 121 #[.val (.int u0), .val (.int u1), .val (.ref b16), .val (.ref b17), .val (.ref r43), .unset, .unset] []))
    exact j46 _ _  X70 e70 N70 
  · refine Goes.of (fun t k => XS.ifNo X70.here hx rfl (hb hby at_102) rfl ((if0 _ _).trans (feq hc71).1) k) ?_
    show Goes _ _ _ _ _ _ _ (T70.setTop (mkF m 105 #[.val (.int u0), .val (.int u1), .val (.ref b16), .val (.ref b17), .val (.ref r43), .unset, .unset] [(.int (own_mi (f1 u0 (0 : Int32)) (f1 u1 (0 : Int32))))]))
    refine Goes.of (fun t k => XS.iloadN X70.here hx rfl (hb hby at_105) rfl k) ?_
    show Goes _ _ _ _ _ _ _ (T70.setTop (mkF m 106 #[.val (.int u0), .val (.int u1), .val (.ref b16), .val (.ref b17), .val (.ref r43), .unset, .unset] [(.int u1), (.int (own_mi (f1 u0 (0 : Int32)) (f1 u1 (0 : Int32))))]))
    refine Goes.of (fun t k => XS.iconst X70.here hx rfl (hb hby at_106) k) ?_
    show Goes _ _ _ _ _ _ _ (T70.setTop (mkF m 107 #[.val (.int u0), .val (.int u1), .val (.ref b16), .val (.ref b17), .val (.ref r43), .unset, .unset] [(.int (0 : Int32)), (.int u1), (.int (own_mi (f1 u0 (0 : Int32)) (f1 u1 (0 : Int32))))]))
    obtain ⟨_, _, ⟨T72, L72, k72, n72⟩, -, X72, ⟨Lc72, hQ72, l72, y72, z72⟩, st72⟩ := Jvm.LawKit.callS X70 hx (y := (⟨"com/example/network_attack_odds/networkattackodds/engine/GoalGraphMinusPinLaw", "bit", "(II)Z"⟩ : MethodName)) hown (mvT hZ (hw _ (List.mem_of_getElem? (i := 1) rfl))) (mvT hZ (hw _ (List.mem_of_getElem? (i := 2) rfl))) (mvT hZ (hw _ (List.mem_of_getElem? (i := 3) rfl))) (mvT hZ (hw _ (List.mem_of_getElem? (i := 4) rfl))) (by decide) (backOf (W := 1) (rm1 l Z a0 hw [] u1 (0 : Int32)  T43.heap n0 ) hZ (hw _ (List.mem_of_getElem? (i := 4) rfl)) (hw _ (List.mem_of_getElem? (i := 3) rfl)) (by decide) (by decide)) (g := (mkF m 107 #[.val (.int u0), .val (.int u1), .val (.ref b16), .val (.ref b17), .val (.ref r43), .unset, .unset] [(.int (0 : Int32)), (.int u1), (.int (own_mi (f1 u0 (0 : Int32)) (f1 u1 (0 : Int32))))])) rfl (by rw [hml]; rfl) (argsL := [(.int u1), (.int (0 : Int32))]) (rest := [(.int (own_mi (f1 u0 (0 : Int32)) (f1 u1 (0 : Int32))))]) (lenOf pd_0 rfl) rfl (by show 2 * 0 + _ ≤ _; exact Nat.le_of_eq rfl) (hb hby at_107) (fun _ _ => ⟨rfl, e70, (by decide : 3 + 0 ≤ _), (by decide : 12 + 0 ≤ _)⟩)
    dsimp only [Pt.U, Pt.locs, Pt.cells, Pt.slots] at X72 l72 y72 z72 st72 hQ72
    subst l72 y72 z72
    obtain ⟨rfl, N72q, e72⟩ := hQ72
    have N72 := Fr.app N70 N72q
    refine Goes.of st72 ?_
    show Goes _ _ _ _ _ _ _ (T72.setTop (mkF m 110 #[.val (.int u0), .val (.int u1), .val (.ref b16), .val (.ref b17), .val (.ref r43), .unset, .unset] [(.int (f1 u1 (0 : Int32))), (.int (own_mi (f1 u0 (0 : Int32)) (f1 u1 (0 : Int32))))]))
    by_cases hc73 : (f1 u1 (0 : Int32)) = (0 : Int32)
    · refine Goes.of (fun t k => XS.ifNo X72.here hx rfl (hb hby at_110) rfl ((if0 _ _).trans (teq hc73).2) k) ?_
      show Goes _ _ _ _ _ _ _ (T72.setTop (mkF m 113 #[.val (.int u0), .val (.int u1), .val (.ref b16), .val (.ref b17), .val (.ref r43), .unset, .unset] [(.int (own_mi (f1 u0 (0 : Int32)) (f1 u1 (0 : Int32))))]))
      refine Goes.of (fun t k => XS.iconst X72.here hx rfl (hb hby at_113) k) ?_
      show Goes _ _ _ _ _ _ _ (T72.setTop (mkF m 114 #[.val (.int u0), .val (.int u1), .val (.ref b16), .val (.ref b17), .val (.ref r43), .unset, .unset] [(.int (1 : Int32)), (.int (own_mi (f1 u0 (0 : Int32)) (f1 u1 (0 : Int32))))]))
      refine Goes.of (fun t k => XS.goto X72.here hx rfl (pc0 := 114) (pc' := 118) rfl (hb hby at_114) (by decide) (by decide) k) ?_
      show Goes _ _ _ _ _ _ _ (T72.setTop (mkF m 118 #[.val (.int u0), .val (.int u1), .val (.ref b16), .val (.ref b17), .val (.ref r43), .unset, .unset] [(.int (1 : Int32)), (.int (own_mi (f1 u0 (0 : Int32)) (f1 u1 (0 : Int32))))]))
      refine Goes.of (fun t k => XS.icmpNo X72.here hx rfl (hb hby at_118) rfl (teq (own_m1 hc71 hc73)).2 k) ?_
      show Goes _ _ _ _ _ _ _ (T72.setTop (mkF m 121 #[.val (.int u0), .val (.int u1), .val (.ref b16), .val (.ref b17), .val (.ref r43), .unset, .unset] []))
      exact j46 _ _  X72 e72 N72 
    · refine Goes.of (fun t k => XS.ifYes X72.here hx rfl (pc0 := 110) (pc' := 117) rfl (hb hby at_110) rfl ((if0 _ _).trans (feq hc73).2) (by decide) (by decide) k) ?_
      show Goes _ _ _ _ _ _ _ (T72.setTop (mkF m 117 #[.val (.int u0), .val (.int u1), .val (.ref b16), .val (.ref b17), .val (.ref r43), .unset, .unset] [(.int (own_mi (f1 u0 (0 : Int32)) (f1 u1 (0 : Int32))))]))
      refine Goes.of (fun t k => XS.iconst X72.here hx rfl (hb hby at_117) k) ?_
      show Goes _ _ _ _ _ _ _ (T72.setTop (mkF m 118 #[.val (.int u0), .val (.int u1), .val (.ref b16), .val (.ref b17), .val (.ref r43), .unset, .unset] [(.int (0 : Int32)), (.int (own_mi (f1 u0 (0 : Int32)) (f1 u1 (0 : Int32))))]))
      refine Goes.of (fun t k => XS.icmpNo X72.here hx rfl (hb hby at_118) rfl (teq (own_m2 hc71 hc73)).2 k) ?_
      show Goes _ _ _ _ _ _ _ (T72.setTop (mkF m 121 #[.val (.int u0), .val (.int u1), .val (.ref b16), .val (.ref b17), .val (.ref r43), .unset, .unset] []))
      exact j46 _ _  X72 e72 N72 
set_option maxRecDepth 65536 in
set_option maxHeartbeats 40000000 in
theorem comes_1 {Post : Tables → Env → Array Value → State → Outcome → State → Prop} (hpost : ∀ tb e args s v u, (limb_1_1.after args s (.returned v) u = true ∧ limb_1_2.after args s (.returned v) u = true ∧ True) → FrameEnd s (.returned v) u (Jvm.fieldLocs frame_1_writes args s ++ Jvm.arrayLocs frame_1_arrays args s ++ Jvm.staticLocs frame_1_statics s) 16 128 → Post tb e args s (.returned v) u) :
    ArmFor flags0 classFile x code maxLocals ret World_1 tables_1 room_1 Calls_1 rest_1 Pre_1 Post := by
  intro l hfl _ _ p e ha hc hk s m args below hf hA hF happ hP
  obtain ⟨hcalls, hrest, hpre⟩ := hP
  obtain ⟨-, -, -, hnamed, -, -, -, hat⟩ := (Spec.applies_iff hf).mp happ
  obtain ⟨hg, hn⟩ := and_e (Cond.before_iff.mp (show (Jvm.Cond.and given_1 narrow_1).before args s = true from hpre))
  obtain ⟨g74, g75⟩ := and_e hg
  obtain ⟨g76, g77⟩ := and_e g75
  obtain ⟨w0, w1, rfl⟩ : ∃ w0 w1 : Value, args = #[w0, w1] := by
    have hs : args.size = 2 := by simpa [Cond.value, given_1] using g74
    obtain ⟨L⟩ := args
    match L, hs with
    | [w0, w1], _ => exact ⟨w0, w1, rfl⟩
  have hw := fun d (hd : d ∈ tables_1) => atoms_spec (ws := Jvm.Cond.code x code maxLocals ret :: tables_1) hat d (List.mem_cons_of_mem _ hd)
  obtain ⟨i0, ei0⟩ := is_v g76
  obtain rfl : w0 = (.int i0) := Option.some.inj ei0
  obtain ⟨i1, ei1⟩ := is_v g77
  obtain rfl : w1 = (.int i1) := Option.some.inj ei1
  obtain ⟨n, o, h1, h2, h3, _, L, rfl, ⟨rfl, N⟩, hq⟩ := rm0 l s _ hw tables_1 i0 i1 s.heap s.heap.size (Nat.le_refl _) p e ha hc hk s m _ below hf ((Spec.applies_iff_loose hf).mp happ).1 ⟨rfl, State.Warmed39.refl s, rfl⟩ trivial
  exact ⟨n, _, h1, h2, h3, hpost _ _ _ _ _ _ ⟨Cond.after_iff.mpr rfl, Cond.after_iff.mpr (eq_i res_at (Term.int_eval (1)) rfl), trivial⟩ ⟨hq.1, hq.2.1, (hq.2.2.sift fun y hy => Or.inr (N y hy)).mono (by decide) (by decide)⟩⟩
theorem main_1_1 : Claimed_1_1 := comes_1 fun _ _ _ _ _ _ h hF => ⟨h.1, hF⟩
theorem main_1_2 : Claimed_1_2 := comes_1 fun _ _ _ _ _ _ h hF => ⟨h.2.1, hF⟩
end Jvm.Pilot.@@N@@
namespace Jvm.Pilot.@@N@@
open Jvm Jvm.ClassFile Sem Op Lib Jvm.Free Jvm.Stand Jvm.Pilot.@@N@@.Jvm.D
/-! MADE BY PROGRAM (witnessworld.py) out of the Statement's table words and the real class files: 11 classes; the members and pool entries that the words name. The judged class is class 1, her method 2. -/
namespace start1
open Jvm.ClassFile
def u (s : String) : CpInfo := .utf8 (stringToUtf16 s)
/-- a pool by its gaps: so many unusable entries, then the entry; so many at the end -/
def gap : Nat → List CpInfo → List CpInfo
  | 0, r => r
  | n + 1, r => .unusable :: gap n r
def poolList (es : List (Nat × CpInfo)) (last : Nat) : List CpInfo := es.foldr (fun e r => gap e.1 (e.2 :: r)) (gap last [])
def pool (es : List (Nat × CpInfo)) (last : Nat) : Array CpInfo := ⟨poolList es last⟩
def fileOf (pool : Array CpInfo) (this : Nat) (attrs : Array Attribute := #[]) (ms : Array MethodInfo := #[]) (fl : Nat := 33) (sup : Nat := 0) (ifs : Array Nat := #[]) (fds : Array FieldInfo := #[]) : ClassFile where
  minorVersion := 0
  majorVersion := 65
  constantPool := pool
  accessFlags := fl
  thisClass := this
  superClass := sup
  interfaces := ifs
  fields := fds
  methods := ms
  attributes := attrs
def plain (name : String) (sup : Option ClassId) : Class where
  name := name
  kind := .ordinary
  loader := none
  accessFlags := 33
  super := sup
  interfaces := #[]
  cf := none
  fields := #[]
  methods := #[]
  instanceTypes := #[]
  staticTypes := #[]
  resolved := #[]
  callSites := []
  init := .initialized
  statics := none
  mirror := none

def pool0 : Array CpInfo := pool [(5, u "<init>"), (0, u "()V"), (1, .class_ 10), (1, u "java/lang/Object")] 113

def k0m0 : Method := { name := "<init>", desc := "()V", sig := { parameters := [], returnType := none }, accessFlags := 1, code := none }
/-- java/lang/Object -/
def k0 : Class := { plain "java/lang/Object" none with
  accessFlags := 33
  interfaces := #[]
  cf := some (fileOf pool0 8 #[] #[{ accessFlags := 1, nameIndex := 5, descriptorIndex := 6, attributes := #[] }] 33 0 #[] #[])
  fields := #[]
  methods := #[k0m0]
  instanceTypes := #[]
  staticTypes := #[]
  resolved := Array.replicate 124 none
  statics := none }

def pool1 : Array CpInfo := pool [(2, .class_ 4), (1, u "java/lang/Object"), (0, u "<init>"), (0, u "()V"), (0, .methodref 8 9), (0, .class_ 10), (0, .nameAndType 11 12), (0, u "com/example/network_attack_odds/networkattackodds/engine/GoalGraphMinusPinLaw"), (0, u "bit"), (0, u "(II)Z"), (0, .methodref 14 15), (0, .class_ 16), (0, .nameAndType 17 18), (0, u "com/example/network_attack_odds/networkattackodds/engine/GoalGraph"), (0, u "minus"), (0, u "([Z[Z)[Z"), (3, u "law")] 4

def k1m0 : Method := { name := "<init>", desc := "()V", sig := { parameters := [], returnType := none }, accessFlags := 1, code := none }
def k1c1 : Code := { maxStack := 2, maxLocals := 2, code := method_2_code, exceptionTable := #[], attributes := #[] }
def k1m1 : Method := { name := "bit", desc := "(II)Z", sig := { parameters := [.int, .int], returnType := some .boolean }, accessFlags := 10, code := some k1c1 }
def k1c2 : Code := { maxStack := 4, maxLocals := 7, code := code, exceptionTable := #[], attributes := #[] }
def k1m2 : Method := { name := "law", desc := "(II)Z", sig := { parameters := [.int, .int], returnType := some .boolean }, accessFlags := 9, code := some k1c2 }
/-- com/example/network_attack_odds/networkattackodds/engine/GoalGraphMinusPinLaw -/
def k1 : Class := { plain "com/example/network_attack_odds/networkattackodds/engine/GoalGraphMinusPinLaw" (some 0) with
  accessFlags := 49
  interfaces := #[]
  cf := some (fileOf pool1 8 #[] #[{ accessFlags := 1, nameIndex := 5, descriptorIndex := 6, attributes := #[] }, { accessFlags := 10, nameIndex := 11, descriptorIndex := 12, attributes := #[] }, { accessFlags := 9, nameIndex := 22, descriptorIndex := 12, attributes := #[] }] 49 2 #[] #[])
  fields := #[]
  methods := #[k1m0, k1m1, k1m2]
  instanceTypes := #[]
  staticTypes := #[]
  resolved := Array.replicate 27 none
  statics := none }

def pool2 : Array CpInfo := pool [(2, .class_ 4), (1, u "java/lang/Object"), (3, .class_ 10), (1, u "com/example/network_attack_odds/networkattackodds/engine/GoalGraph"), (0, u "space"), (0, u "Lcom/example/network_attack_odds/networkattackodds/engine/StateSpace;"), (8, u "starts"), (0, u "[I"), (9, u "sources"), (2, u "sourceChoices"), (77, u "minus"), (0, u "([Z[Z)[Z")] 17

def k2c0 : Code := { maxStack := 4, maxLocals := 4, code := prog_34_method_15_code, exceptionTable := #[], attributes := #[] }
def k2m0 : Method := { name := "minus", desc := "([Z[Z)[Z", sig := { parameters := [(.array .boolean), (.array .boolean)], returnType := some (.array .boolean) }, accessFlags := 8, code := some k2c0 }
/-- com/example/network_attack_odds/networkattackodds/engine/GoalGraph -/
def k2 : Class := { plain "com/example/network_attack_odds/networkattackodds/engine/GoalGraph" (some 0) with
  accessFlags := 32
  interfaces := #[]
  cf := some (fileOf pool2 8 #[] #[{ accessFlags := 8, nameIndex := 113, descriptorIndex := 114, attributes := #[] }] 32 2 #[] #[{ accessFlags := 18, nameIndex := 11, descriptorIndex := 12, attributes := #[] }, { accessFlags := 18, nameIndex := 21, descriptorIndex := 22, attributes := #[] }, { accessFlags := 18, nameIndex := 32, descriptorIndex := 22, attributes := #[] }, { accessFlags := 18, nameIndex := 35, descriptorIndex := 22, attributes := #[] }])
  fields := #[{ name := "space", type := (.object "com/example/network_attack_odds/networkattackodds/engine/StateSpace"), accessFlags := 18, slot := 0, constantValue := 0 }, { name := "starts", type := (.array .int), accessFlags := 18, slot := 1, constantValue := 0 }, { name := "sources", type := (.array .int), accessFlags := 18, slot := 2, constantValue := 0 }, { name := "sourceChoices", type := (.array .int), accessFlags := 18, slot := 3, constantValue := 0 }]
  methods := #[k2m0]
  instanceTypes := #[(.object "com/example/network_attack_odds/networkattackodds/engine/StateSpace"), (.array .int), (.array .int), (.array .int)]
  staticTypes := #[]
  resolved := Array.replicate 132 none
  statics := none }

def pool3 : Array CpInfo := pool [(1, u "java/lang/Cloneable"), (0, .class_ 1), (0, u "java/lang/Object"), (0, .class_ 3)] 3

/-- java/lang/Cloneable -/
def k3 : Class := { plain "java/lang/Cloneable" (some 0) with
  accessFlags := 1537
  interfaces := #[]
  cf := some (fileOf pool3 2 #[] #[] 1537 4 #[] #[])
  fields := #[]
  methods := #[]
  instanceTypes := #[]
  staticTypes := #[]
  resolved := Array.replicate 8 none
  statics := none }

def pool4 : Array CpInfo := pool [(1, u "java/io/Serializable"), (0, .class_ 1), (0, u "java/lang/Object"), (0, .class_ 3)] 3

/-- java/io/Serializable -/
def k4 : Class := { plain "java/io/Serializable" (some 0) with
  accessFlags := 1537
  interfaces := #[]
  cf := some (fileOf pool4 2 #[] #[] 1537 4 #[] #[])
  fields := #[]
  methods := #[]
  instanceTypes := #[]
  staticTypes := #[]
  resolved := Array.replicate 8 none
  statics := none }

/-- the primitive boolean -/
def k5 : Class := { plain "boolean" none with kind := .primitive 'Z', accessFlags := 0x411 }
/-- [Z -/
def k6 : Class := { plain "[Z" (some 0) with kind := .array 5 .boolean, interfaces := #[3, 4], accessFlags := 1041 }

/-- the primitive byte -/
def k7 : Class := { plain "byte" none with kind := .primitive 'B', accessFlags := 0x411 }
/-- [B -/
def k8 : Class := { plain "[B" (some 0) with kind := .array 7 .byte, interfaces := #[3, 4], accessFlags := 1041 }

/-- the primitive int -/
def k9 : Class := { plain "int" none with kind := .primitive 'I', accessFlags := 0x411 }
/-- [I -/
def k10 : Class := { plain "[I" (some 0) with kind := .array 9 .int, interfaces := #[3, 4], accessFlags := 1041 }

def heap : Heap := #[]
def classes : Array Class := #[k0, k1, k2, k3, k4, k5, k6, k7, k8, k9, k10]
def interned : List (Array UInt16 × Addr) := []
def slotsUsed : Nat := 0
def theMethod : MethodId := ⟨1, 2⟩
def args0 : Array Value := #[.int 5, .int 7]
def aboutOver (below : List Frame) : State where
  vm := { classes := classes, interned := interned.toArray }
  heap := heap
  slotsUsed := slotsUsed
  threads := #[{ frames := .invoking theMethod args0 :: below }]
def below0 : List Frame := [.native { method := ⟨0, 0⟩, args := #[] }]
def about1 : State := aboutOver below0
def p0 : Program := .bare "" "" ""
def e0 : Env := launch0.env 0 0 0
theorem w_frames : about1.frames = Frame.invoking theMethod args0 :: below0 := rfl
set_option maxRecDepth 65536 in
theorem w_args : argsFit about1.vm theMethod args0 = true := by decide +kernel
set_option maxRecDepth 65536 in
theorem w_heap : heapFits about1 = true := by decide +kernel
set_option maxRecDepth 65536 in
theorem w_runnable : about1.curStatus? = some .runnable := by decide +kernel
set_option maxRecDepth 65536 in
theorem w_alone : about1.alone = true := by decide +kernel
set_option maxRecDepth 65536 in
theorem w_named : about1.methodNamed? x = some theMethod := by decide +kernel
set_option maxRecDepth 65536 in
theorem w_hears : about1.hears theMethod below0 = true := by decide +kernel
set_option maxRecDepth 65536 in
theorem w_ripe : about1.ripe theMethod args0 below0 = true := by decide +kernel
theorem w_running : about1.status = .running := rfl
set_option maxRecDepth 65536 in
theorem w_room : about1.hasRoom e0.platform room_1 = true :=
  launch0.hasRoom_least _ room_1 (by decide +kernel) (by decide +kernel) (by decide +kernel) (by decide +kernel) (by decide +kernel) (by decide +kernel)
theorem allAtoms_all (ts : List Jvm.Cond) (a : Array Jvm.Value) (st : Jvm.State) : (allAtoms ts).before a st = ts.all (fun c => c.before a st) := by
  induction ts with
  | nil => rfl
  | cons c t ih =>
    show (Jvm.Cond.and c (allAtoms t)).before a st = _
    rw [Jvm.Cond.before_and, ih, List.all_cons]
def words1 : List Jvm.Cond := Jvm.Cond.code x code maxLocals ret :: tables_1
/-- a 'code' word, met by the world's own term for the bytes: nothing is compared byte by byte -/
theorem code_word {y : MethodName} {bytes : ByteArray} {mx : Nat} {rt : Option FieldType} {a : Array Value} {s : State} {m : MethodId} {meth : Method} {c : Code} (h1 : s.methodNamed? y = some m) (h2 : s.vm.method? m = some meth) (h3 : meth.code = some c) (h4 : c.code = bytes)
    (h5 : (c.maxLocals == mx && c.exceptionTable.isEmpty && decide (c.maxStack ≤ mostOperands) && decide (meth.sig.returnType = rt) && !meth.locks && decide (parseMethodDescriptor y.desc = some meth.sig)) = true) : (Jvm.Cond.code y bytes mx rt).before a s = true := by
  simp only [Bool.and_eq_true, beq_iff_eq, Bool.not_eq_true', decide_eq_true_eq] at h5
  obtain ⟨⟨⟨⟨⟨g1, g2⟩, g3⟩, g4⟩, g5⟩, g6⟩ := h5
  simp [Cond.before, Cond.holds, Cond.value, h1, h2, h3, h4, g1, g2, g3, g4, g5, g6]
def isCode : Jvm.Cond → Bool
  | .code _ _ _ _ => true
  | _ => false
theorem all_split {L : List Jvm.Cond} {P : Jvm.Cond → Bool} (h1 : L.all (fun c => isCode c || P c) = true) (h2 : ∀ c ∈ L.filter isCode, P c = true) : L.all P = true := by
  refine List.all_eq_true.mpr fun c hc => ?_
  have h := List.all_eq_true.mp h1 c hc
  rcases Bool.eq_false_or_eq_true (isCode c) with hi | hi
  · exact h2 c (List.mem_filter.mpr ⟨hc, hi⟩)
  · simpa [hi] using h
set_option maxRecDepth 65536 in
theorem w_c0 : (Jvm.Cond.code x code maxLocals ret).before args0 about1 = true := code_word (m := ⟨1, 2⟩) (meth := k1m2) (c := k1c2) (by decide +kernel) rfl rfl rfl (by decide +kernel)
set_option maxRecDepth 65536 in
theorem w_c1 : (Jvm.Cond.code ({ cls := "com/example/network_attack_odds/networkattackodds/engine/GoalGraphMinusPinLaw", name := "bit", desc := "(II)Z" } : Jvm.MethodName) method_2_code (2 : Nat) (Option.some Jvm.ClassFile.FieldType.boolean)).before args0 about1 = true := code_word (m := ⟨1, 1⟩) (meth := k1m1) (c := k1c1) (by decide +kernel) rfl rfl rfl (by decide +kernel)
set_option maxRecDepth 65536 in
theorem w_c2 : (Jvm.Cond.code ({ cls := "com/example/network_attack_odds/networkattackodds/engine/GoalGraph", name := "minus", desc := "([Z[Z)[Z" } : Jvm.MethodName) prog_34_method_15_code (4 : Nat) (Option.some (Jvm.ClassFile.FieldType.array Jvm.ClassFile.FieldType.boolean))).before args0 about1 = true := code_word (m := ⟨2, 0⟩) (meth := k2m0) (c := k2c0) (by decide +kernel) rfl rfl rfl (by decide +kernel)
def codes1 : List Jvm.Cond := [Jvm.Cond.code x code maxLocals ret, Jvm.Cond.code ({ cls := "com/example/network_attack_odds/networkattackodds/engine/GoalGraphMinusPinLaw", name := "bit", desc := "(II)Z" } : Jvm.MethodName) method_2_code (2 : Nat) (Option.some Jvm.ClassFile.FieldType.boolean), Jvm.Cond.code ({ cls := "com/example/network_attack_odds/networkattackodds/engine/GoalGraph", name := "minus", desc := "([Z[Z)[Z" } : Jvm.MethodName) prog_34_method_15_code (4 : Nat) (Option.some (Jvm.ClassFile.FieldType.array Jvm.ClassFile.FieldType.boolean))]
set_option maxRecDepth 65536 in
theorem codes_eq : words1.filter isCode = codes1 := rfl
theorem w_codes : ∀ c ∈ words1.filter isCode, c.before args0 about1 = true := by
  rw [codes_eq]
  intro c hc
  simp only [codes1, List.mem_cons, List.not_mem_nil, or_false] at hc
  rcases hc with rfl | rfl | rfl
  · exact w_c0
  · exact w_c1
  · exact w_c2
set_option maxRecDepth 65536 in
theorem w_t1 : words1.all (fun c => isCode c || c.before args0 about1) = true := by decide +kernel
theorem w_tables : (allAtoms (Jvm.Cond.code x code maxLocals ret :: tables_1)).before args0 about1 = true := by
  rw [allAtoms_all]
  show words1.all (fun c => c.before args0 about1) = true
  refine all_split ?_ w_codes
  rw [w_t1]
set_option maxRecDepth 65536 in
theorem w_case : (Jvm.Cond.and given_1 narrow_1).before args0 about1 = true := by decide +kernel
theorem w_applies : (headSpec (Jvm.Cond.code x code maxLocals ret :: tables_1) room_1).applies x e0.platform about1 = true :=
  (Spec.applies_iff w_frames).mpr ⟨w_running, w_runnable, w_alone, w_named, w_hears, w_ripe, w_room, w_tables⟩
theorem atStart : AtStart classFile x code maxLocals ret World_1 tables_1 room_1 Calls_1 rest_1 Pre_1 launch0 p0 e0 about1 theMethod args0 below0 :=
  ⟨lists_1, trivial, launch0.admits_env _ _ _, launch0.least_env, fairChoices_fair.cas, fairChoices_fair.clock, w_frames, w_args, w_heap, w_applies, trivial, trivial, w_case⟩
end start1
theorem witness_1 : WitnessClaimed_1 := ⟨start1.p0, start1.e0, start1.about1, start1.theMethod, start1.args0, start1.below0, start1.atStart⟩
end Jvm.Pilot.@@N@@
