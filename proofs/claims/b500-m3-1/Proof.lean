import JvmDerived
import JvmDerived.Pilot.@@N@@Statement
import JvmDerived.Pilot.@@N@@Code
set_option linter.unusedVariables false
set_option linter.unusedSimpArgs false
namespace Jvm.RoadKit
open Sem ClassFile Op Lib Jvm.Stand Jvm.Free Jvm.LawKit
section New
variable {p : Program} {l : Launch} {e : Env} {R : Room} {s : State} {m : MethodId} {args : Array Value} {below : List Frame} {meth : Method} {c : Code} {T : State} {locs : List Loc} {cells slots : Nat}
theorem retI (X : Stand p l e R s m args below meth c T locs cells slots) (hx : p.tables.exec = Jvm.exec) {pc : Nat} {Ls : Array Slot} {z : Int32} {rest : List Value} (hret : meth.sig.returnType = some .int) (hd : decode c.code pc = .ok (.ireturn, 1)) {fs : List Frame}
    (hl : ∀ (f : JFrame) (acts : List Action), f.method = m → f.locked = none → f.entered = [] → (doReturn e (T.setTop f) acts (some (.int z))).1 = T.setFrames fs) : Steps p.tables e below (T.setTop (mkF m pc Ls (.int z :: rest))) (T.setFrames fs) := by
  have hm' : T.vm.method? m = some meth := X.method'
  have hn : narrow .int (.int z) = .int z := rfl
  show Steps p.tables e below (T.setTop { method := m, pc := pc, locals := Ls, stack := _ :: rest, locked := none }) _
  jvm_step X.here [X.here.top, hx, hd, hm', hret, hn]
  first | (intro acts; rw [hl _ acts rfl rfl rfl]) | rw [hl _ _ rfl rfl rfl]
  exact Steps.refl _
end New
end Jvm.RoadKit
namespace Jvm.Pilot.@@N@@
open Jvm Jvm.ClassFile Sem Op Lib Jvm.Free Jvm.Stand Jvm.LawKit Jvm.RoadKit Bundle Jvm.Pilot.@@N@@.Jvm.D
section OwnKit
variable {p : Program} {l : Launch} {e : Env} {R : Room} {s : State} {m : MethodId} {args : Array Value} {below : List Frame} {meth : Method} {c : Code} {T : State} {locs : List Loc} {cells slots : Nat}
/-- from S the run comes to a return of which F holds -/
def Goes (tb : Tables) (e : Env) (below : List Frame) (s : State) (F : Option Value → Heap → List Loc → Prop) (k n : Nat) (S : State) : Prop :=
  ∃ s₂ o, Steps tb e below S s₂ ∧ s₂.status = .running ∧ Ended s₂ below o ∧ ∃ v L, o = .returned v ∧ F v s₂.heap L ∧ FrameEnd s o s₂ L k n
theorem Goes.of {tb : Tables} {F : Option Value → Heap → List Loc → Prop} {k n : Nat} {S S' : State} (h : ∀ t, Steps tb e below S' t → Steps tb e below S t) (g : Goes tb e below s F k n S') : Goes tb e below s F k n S := by
  obtain ⟨s₂, o, h1, r⟩ := g
  exact ⟨s₂, o, h _ h1, r⟩
theorem Goes.mono {tb : Tables} {F G : Option Value → Heap → List Loc → Prop} {k n : Nat} {S : State} (h : ∀ v h L, F v h L → G v h L) (g : Goes tb e below s F k n S) : Goes tb e below s G k n S := by
  obtain ⟨s₂, o, h1, h2, h3, v, L, h4, h5, h6⟩ := g
  exact ⟨s₂, o, h1, h2, h3, v, L, h4, h _ _ _ h5, h6⟩
theorem Goes.fin (X : Stand p l e R s m args below meth c T locs cells slots) (hlk : meth.locks = false) {v : Option Value} {F : Option Value → Heap → List Loc → Prop} {k n : Nat} {S : State} (hv : meth.sig.returnType = none → v = none)
    (step : ∀ fs, (∀ (f : JFrame) (acts : List Action), f.method = m → f.locked = none → f.entered = [] → (doReturn e (T.setTop f) acts v).1 = T.setFrames fs) → Steps p.tables e below S (T.setFrames fs)) (hF : F v T.heap locs) (hk : cells ≤ k) (hn : slots ≤ n) : Goes p.tables e below s F k n S := by
  obtain ⟨fs, hr, hrun, hended, hW, hsame⟩ := X.leave hv hlk
  exact ⟨_, _, step fs hr, hrun, hended, v, locs, rfl, hF, ⟨_, rfl⟩, hW, hsame.mono hk hn⟩
end OwnKit
section OwnArr
variable {p : Program} {l : Launch} {e : Env} {R : Room} {s : State} {m : MethodId} {args : Array Value} {below : List Frame} {meth : Method} {c : Code} {T : State} {locs : List Loc} {cells slots : Nat} {Z : State} {h h' : Heap} {a b : Addr} {ty : FieldType} {n i : Nat} {f : Nat → Int32} {ws : List Addr} {sl : Nat} {w : Value}
/-- at a stands an array of n places; place j holds f j -/
def AI (Z : State) (h : Heap) (a : Addr) (ty : FieldType) (n : Nat) (f : Nat → Int32) : Prop :=
  ∃ c : Cell, Arr Z h a c ty ∧ c.slots.size = n ∧ n < 2147483648 ∧ ∀ j, j < n → c.slots[j]? = some (.int (f j)) ∧ fits ty (.int (f j)) = true
def upd (f : Nat → Int32) (i : Nat) (v : Int32) : Nat → Int32 := fun j => if j = i then v else f j
theorem AI.lt (F : AI Z h a ty n f) : a < h.size := by obtain ⟨c, A, -⟩ := F; exact A.lt
theorem AI.ext (F : AI Z h a ty n f) (E : Ext h h') : AI Z h' a ty n f := by obtain ⟨c, A, r⟩ := F; exact ⟨c, A.ext E, r⟩
theorem AI.other (F : AI Z h a ty n f) (W : Wr h h' b sl w) (q : a ≠ b) : AI Z h' a ty n f := by obtain ⟨c, A, r⟩ := F; exact ⟨c, A.other W q, r⟩
theorem AI.keep (F : AI Z h a ty n f) (K : Keep h h' ws) (q : a ∉ ws) : AI Z h' a ty n f := by obtain ⟨c, A, r⟩ := F; exact ⟨c, ⟨K.2.1 a c A.1 q, A.2⟩, r⟩
theorem AI.congr {f' : Nat → Int32} (F : AI Z h a ty n f) (q : ∀ j, j < n → f j = f' j) : AI Z h a ty n f' := by
  obtain ⟨c, A, S, M, H⟩ := F
  exact ⟨c, A, S, M, fun j hj => by rw [← q j hj]; exact H j hj⟩
theorem AI.fits (F : AI Z h a ty n f) {j : Nat} (hj : j < n) : Jvm.fits ty (.int (f j)) = true := by
  obtain ⟨c, A, S, M, H⟩ := F
  exact (H j hj).2
theorem AI.new {cA : ClassId} {z : Int32} (hd : defaultValue ty = .int 0) (hf : Jvm.fits ty (.int 0) = true) (A : Arr Z h a (newA cA ty z) ty) (q : ¬ z < 0) (hn : z.toNatClampNeg = n) : AI Z h a ty n (fun _ => 0) := by
  subst hn
  refine ⟨_, A, sz_new _ _ _, (back32 q).2, fun j hj => ⟨?_, hf⟩⟩
  show (Array.replicate z.toNatClampNeg (defaultValue ty))[j]? = _
  rw [hd, Array.getElem?_replicate, if_pos hj]
theorem AI.set {v : Int32} (F : AI Z h a ty n f) (W : Wr h h' a i (.int v)) (hv : Jvm.fits ty (.int v) = true) : AI Z h' a ty n (upd f i v) := by
  obtain ⟨c, A, S, M, H⟩ := F
  refine ⟨c.setSlot i (.int v), A.same W, by rw [sz_set]; exact S, M, fun j hj => ?_⟩
  show (c.slots.setIfInBounds i (.int v))[j]? = _ ∧ _
  by_cases q : j = i
  · subst q
    rw [Array.getElem?_setIfInBounds_self_of_lt (by omega)]
    have e : upd f j v j = v := if_pos rfl
    rw [e]; exact ⟨rfl, hv⟩
  · rw [Array.getElem?_setIfInBounds_ne (Ne.symm q)]
    have e : upd f i v j = f j := if_neg q
    rw [e]; exact H j hj
theorem own_nn {j : Int32} (h : 0 ≤ j.toInt) : ¬ j < 0 := by
  rw [Int32.lt_iff_toInt_lt, show (0 : Int32).toInt = 0 from rfl]; omega
theorem own_ltn {j : Int32} {n : Nat} (h0 : 0 ≤ j.toInt) (h : j.toInt < n) : j.toNatClampNeg < n := by
  simp only [Int32.toNatClampNeg]; omega
theorem own_tn {z : Int32} {n : Nat} (h : z.toInt = n) : z.toNatClampNeg = n := by
  simp only [Int32.toNatClampNeg]; omega
theorem own_inc {i : Int32} (h : i.toInt < 2147483647) : (i + (1 : Int32)).toInt = i.toInt + 1 := by
  have a := c_iadd i 1
  have r := rng32 (i + 1)
  have r2 := rng32 i
  rw [show (1 : Int32).toInt = 1 from rfl] at a
  omega
theorem own_ilt {a b : Int32} (h : a.toInt < b.toInt) : a < b := by rw [Int32.lt_iff_toInt_lt]; exact h
theorem own_nlt {a b : Int32} (h : b.toInt ≤ a.toInt) : ¬ a < b := by rw [Int32.lt_iff_toInt_lt]; omega
theorem own_ltI {a b : Int32} (h : a < b) : a.toInt < b.toInt := Int32.lt_iff_toInt_lt.mp h
theorem own_geI {a b : Int32} (h : ¬ a < b) : b.toInt ≤ a.toInt := by rw [Int32.lt_iff_toInt_lt] at h; omega
theorem own_neI {a b : Int32} (h : ¬ a = b) : a.toInt ≠ b.toInt := fun q => h (Int32.toInt_inj.mp q)
theorem own_turn {G : Nat → Int32} {n k i : Nat} {w : Int32} (hi : i + (k + 1) = n) (hw : w = G i) : ∀ j, j < n → upd (fun j => if j + (k + 1) < n then G j else 0) i w j = if j + k < n then G j else 0 := by
  intro j hj
  by_cases q : j = i
  · subst q
    rw [if_pos (by omega)]
    exact (if_pos rfl).trans hw
  · refine (if_neg q).trans ?_
    by_cases r : j + (k + 1) < n
    · show (if _ then _ else _) = _
      rw [if_pos r, if_pos (by omega)]
    · show (if _ then _ else _) = _
      rw [if_neg r, if_neg (by omega)]
theorem own_turn2 {D : Nat → Int32} {n k i : Nat} {w : Int32} (hi : i + (k + 1) = n) : ∀ j, j < n → upd (fun j => if j + (k + 1) < n then w else D j) i w j = if j + k < n then w else D j := by
  intro j hj
  by_cases q : j = i
  · subst q
    rw [if_pos (by omega)]
    exact if_pos rfl
  · refine (if_neg q).trans ?_
    by_cases r : j + (k + 1) < n
    · show (if _ then _ else _) = _
      rw [if_pos r, if_pos (by omega)]
    · show (if _ then _ else _) = _
      rw [if_neg r, if_neg (by omega)]
theorem own_in {cl : Cell} {j : Int32} (S : cl.slots.size = n) (h0 : ¬ j < 0) (hi : j.toNatClampNeg = i) (hn : i < n) : ¬ (j < 0 ∨ cl.slots.size ≤ j.toNatClampNeg) := by
  rintro (q | q)
  · exact h0 q
  · omega
theorem ldI (X : Stand p l e R s m args below meth c T locs cells slots) (hx : p.tables.exec = Jvm.exec) (hZ : Z.Warmed39 s.vm) (eT : T.heap = h) (F : AI Z h a .int n f) {j v : Int32} (h0 : ¬ j < 0) (hi : j.toNatClampNeg = i) (hn : i < n) (hv : f i = v) {g : JFrame} (hg : g.method = m) {rest : List Value} (hs : g.stack = .int j :: .ref a :: rest) (hd : decode c.code g.pc = .ok (.iaload, 1)) (t : State)
    (k : Steps p.tables e below (T.setTop { g with pc := g.pc + 1, stack := .int v :: rest }) t) : Steps p.tables e below (T.setTop g) t := by
  obtain ⟨cl, A, S, M, H⟩ := F
  exact X.iaload hx (j := j) (v := .int v) (by rw [eT]; exact A.1) (State.isArrayOf_alike hZ.alike A.2.1) A.2.2 (own_in S h0 hi hn) (by rw [hi, (H i hn).1, hv]) hg hs hd t k
theorem ldB (X : Stand p l e R s m args below meth c T locs cells slots) (hx : p.tables.exec = Jvm.exec) (hZ : Z.Warmed39 s.vm) (eT : T.heap = h) (F : AI Z h a .byte n f) {j v : Int32} (h0 : ¬ j < 0) (hi : j.toNatClampNeg = i) (hn : i < n) (hv : f i = v) {g : JFrame} (hg : g.method = m) {rest : List Value} (hs : g.stack = .int j :: .ref a :: rest) (hd : decode c.code g.pc = .ok (.baload, 1)) (t : State)
    (k : Steps p.tables e below (T.setTop { g with pc := g.pc + 1, stack := .int v :: rest }) t) : Steps p.tables e below (T.setTop g) t := by
  obtain ⟨cl, A, S, M, H⟩ := F
  exact X.baloadBytes hx (j := j) (v := .int v) (by rw [eT]; exact A.1) (State.isArrayOf_alike hZ.alike A.2.1) A.2.2 (own_in S h0 hi hn) (by rw [hi, (H i hn).1, hv]) hg hs hd t k
theorem ldZ (X : Stand p l e R s m args below meth c T locs cells slots) (hx : p.tables.exec = Jvm.exec) (hZ : Z.Warmed39 s.vm) (eT : T.heap = h) (F : AI Z h a .boolean n f) {j v : Int32} (h0 : ¬ j < 0) (hi : j.toNatClampNeg = i) (hn : i < n) (hv : f i = v) {g : JFrame} (hg : g.method = m) {rest : List Value} (hs : g.stack = .int j :: .ref a :: rest) (hd : decode c.code g.pc = .ok (.baload, 1)) (t : State)
    (k : Steps p.tables e below (T.setTop { g with pc := g.pc + 1, stack := .int v :: rest }) t) : Steps p.tables e below (T.setTop g) t := by
  obtain ⟨cl, A, S, M, H⟩ := F
  exact X.baloadBooleans hx (j := j) (v := .int v) (by rw [eT]; exact A.1) (State.isArrayOf_alike hZ.alike A.2.1) A.2.2 (own_in S h0 hi hn) (by rw [hi, (H i hn).1, hv]) hg hs hd t k
theorem putI (X : Stand p l e R s m args below meth c T locs cells slots) (hx : p.tables.exec = Jvm.exec) (hZ : Z.Warmed39 s.vm) (eT : T.heap = h) (F : AI Z h a .int n f) {j x : Int32} (h0 : ¬ j < 0) (hi : j.toNatClampNeg = i) (hn : i < n) {g : JFrame} (hg : g.method = m) {rest : List Value} (hs : g.stack = .int x :: .int j :: .ref a :: rest) (hd : decode c.code g.pc = .ok (.iastore, 1)) :
    ∃ T' h', Stand p l e R s m args below meth c T' (locs ++ [⟨a, i⟩]) cells slots ∧ T'.heap = h' ∧ Wr h h' a i (.int x) ∧ AI Z h' a .int n (upd f i x) ∧ ∀ t, Steps p.tables e below (T'.setTop { g with pc := g.pc + 1, stack := rest }) t → Steps p.tables e below (T.setTop g) t := by
  have F0 := F
  obtain ⟨cl, A, S, M, H⟩ := F
  subst hi
  obtain ⟨T', h', X', e', W, st⟩ := stI X hx hZ eT A (own_in S h0 rfl hn) hg hs hd
  exact ⟨T', h', X', e', W, F0.set W rfl, st⟩
theorem putB (X : Stand p l e R s m args below meth c T locs cells slots) (hx : p.tables.exec = Jvm.exec) (hZ : Z.Warmed39 s.vm) (eT : T.heap = h) (F : AI Z h a .byte n f) {j x : Int32} (h0 : ¬ j < 0) (hi : j.toNatClampNeg = i) (hn : i < n) {g : JFrame} (hg : g.method = m) {rest : List Value} (hs : g.stack = .int x :: .int j :: .ref a :: rest) (hd : decode c.code g.pc = .ok (.bastore, 1)) :
    ∃ T' h', Stand p l e R s m args below meth c T' (locs ++ [⟨a, i⟩]) cells slots ∧ T'.heap = h' ∧ Wr h h' a i (.int x.toInt8.toInt32) ∧ AI Z h' a .byte n (upd f i x.toInt8.toInt32) ∧ ∀ t, Steps p.tables e below (T'.setTop { g with pc := g.pc + 1, stack := rest }) t → Steps p.tables e below (T.setTop g) t := by
  have F0 := F
  obtain ⟨cl, A, S, M, H⟩ := F
  subst hi
  obtain ⟨T', h', X', e', W, st⟩ := stB X hx hZ eT A (own_in S h0 rfl hn) hg hs hd
  exact ⟨T', h', X', e', W, F0.set W (fits_nar_byte x), st⟩
theorem putZ (X : Stand p l e R s m args below meth c T locs cells slots) (hx : p.tables.exec = Jvm.exec) (hZ : Z.Warmed39 s.vm) (eT : T.heap = h) (F : AI Z h a .boolean n f) {j x : Int32} (h0 : ¬ j < 0) (hi : j.toNatClampNeg = i) (hn : i < n) {g : JFrame} (hg : g.method = m) {rest : List Value} (hs : g.stack = .int x :: .int j :: .ref a :: rest) (hd : decode c.code g.pc = .ok (.bastore, 1)) :
    ∃ T' h', Stand p l e R s m args below meth c T' (locs ++ [⟨a, i⟩]) cells slots ∧ T'.heap = h' ∧ Wr h h' a i (.int (x &&& 1)) ∧ AI Z h' a .boolean n (upd f i (x &&& 1)) ∧ ∀ t, Steps p.tables e below (T'.setTop { g with pc := g.pc + 1, stack := rest }) t → Steps p.tables e below (T.setTop g) t := by
  have F0 := F
  obtain ⟨cl, A, S, M, H⟩ := F
  subst hi
  obtain ⟨T', h', X', e', W, st⟩ := stZ X hx hZ eT A (own_in S h0 rfl hn) hg hs hd
  exact ⟨T', h', X', e', W, F0.set W (fits_nar_bool x), st⟩
theorem lenA (X : Stand p l e R s m args below meth c T locs cells slots) (hx : p.tables.exec = Jvm.exec) (hZ : Z.Warmed39 s.vm) (eT : T.heap = h) (F : AI Z h a ty n f) {z : Int32} (hz : z.toInt = n) {g : JFrame} (hg : g.method = m) {rest : List Value} (hs : g.stack = .ref a :: rest) (hd : decode c.code g.pc = .ok (.arraylength, 1)) (t : State)
    (k : Steps p.tables e below (T.setTop { g with pc := g.pc + 1, stack := .int z :: rest }) t) : Steps p.tables e below (T.setTop g) t := by
  obtain ⟨cl, A, S, M, H⟩ := F
  have e1 : cl.slots.size.toInt32 = z := by rw [S]; exact Int32.toInt_inj.mp (by rw [len_toInt M, hz])
  exact X.arraylength hx (by rw [eT]; exact A.1) (State.isArrayOf_alike hZ.alike A.2.1) hg hs hd t (by rw [e1]; exact k)
end OwnArr
theorem d4_0 : decode method_3_code 0 = .ok (.iload_n 0, 1) := by decide +kernel
theorem d4_1 : decode method_3_code 1 = .ok (.iload_n 1, 1) := by decide +kernel
theorem d4_2 : decode method_3_code 2 = .ok (.iushr, 1) := by decide +kernel
theorem d4_3 : decode method_3_code 3 = .ok (.iconst 1, 1) := by decide +kernel
theorem d4_4 : decode method_3_code 4 = .ok (.iand, 1) := by decide +kernel
theorem d4_5 : decode method_3_code 5 = .ok (.ifCond .eq 7, 3) := by decide +kernel
theorem d4_8 : decode method_3_code 8 = .ok (.iconst 1, 1) := by decide +kernel
theorem d4_9 : decode method_3_code 9 = .ok (.goto 4, 3) := by decide +kernel
theorem d4_12 : decode method_3_code 12 = .ok (.iconst 0, 1) := by decide +kernel
theorem d4_13 : decode method_3_code 13 = .ok (.ireturn, 1) := by decide +kernel
theorem pn_0 : plainName "com/example/network_attack_odds/networkattackodds/engine/GoalGraphNotPinLaw" = true := by first | (simp [plainName, overriddenIn]; done) | decide +kernel
theorem ef_4 (m : MethodId) (q0 : Int32) (q1 : Int32) : entryFrame m #[(.int q0), (.int q1)] 2 = mkF m 0 #[.val (.int q0), .val (.int q1)] [] := by first | (simp [entryFrame, mkF, argsToLocals, Value.category]; done) | rfl
def f4 (q0 : Int32) (q1 : Int32) : Int32 :=
  (if (((q0.toUInt32 >>> (q1 &&& 31).toUInt32).toInt32) &&& (1 : Int32)) = (0 : Int32) then (0 : Int32)
  else (1 : Int32))
def Q4 (q0 : Int32) (q1 : Int32) (h0 : Heap) (n0 : Nat) (v : Option Value) (h : Heap) (L : List Loc) : Prop := v = some (.int (f4 q0 q1)) ∧ Fr n0 L ∧ h = h0
set_option maxRecDepth 65536 in
set_option maxHeartbeats 40000000 in
theorem rm4 (l : Launch) (Z : State) (a0 : Array Value) (hw : ∀ d ∈ tables_1, d.before a0 Z = true) (ws : List Jvm.Cond) (q0 : Int32) (q1 : Int32) (h0 : Heap) (n0 : Nat) :
    MetFree l (⟨"com/example/network_attack_odds/networkattackodds/engine/GoalGraphNotPinLaw", "bit", "(II)Z"⟩ : MethodName) (head1 (Jvm.Cond.code (⟨"com/example/network_attack_odds/networkattackodds/engine/GoalGraphNotPinLaw", "bit", "(II)Z"⟩ : MethodName) method_3_code 2 (some .boolean) :: ws) ({ frames := 0, cells := 0, slots := 0, locals := 0 } : Room)) (fun ar' Ur => ar' = #[(.int q0), (.int q1)] ∧ Z.Warmed39 Ur.vm ∧ Ur.heap = h0) (fun _ _ _ _ _ => True) (fun _ Ur or' Us => ∃ v L, or' = .returned v ∧ Q4 q0 q1 h0 n0 v Us.heap L ∧ FrameEnd Ur or' Us L 0 0) := by
  refine MetFree.of_bodySF (plainFor_of_name pn_0) hisR ?_
  intro p e s m args below meth c s₁ Bd hml0 hP hK
  obtain ⟨rfl, hZ, hh⟩ := hP
  have hx := Bd.exec
  have hby := Bd.bytes
  have hlk : meth.locks = false := BodyLoose.notSynchronized Bd
  have hml : c.maxLocals = 2 := hml0
  have hown : s.vm.findClass "com/example/network_attack_odds/networkattackodds/engine/GoalGraphNotPinLaw" = some m.cls := findClass_of_methodNamed Bd.named
  have X0 : Stand p l e ({ frames := 0, cells := 0, slots := 0, locals := 0 } : Room) s m #[(.int q0), (.int q1)] below meth c s₁ [] 0 0 := Stand.of_body Bd
  have e0 : s₁.heap = h0 := by rw [← hh, Bd.state]; rfl
  have N0 := Fr.nil n0
  show Goes p.tables e below s (Q4 q0 q1 h0 n0) 0 0 (s₁.setTop (entryFrame m #[(.int q0), (.int q1)] 2))
  refine Goes.of (fun t k => castTop (ef_4 m q0 q1) k) ?_
  show Goes _ _ _ _ _ _ _ (s₁.setTop (mkF m 0 #[.val (.int q0), .val (.int q1)] []))
  refine Goes.of (fun t k => XS.iloadN X0.here hx rfl (hb hby d4_0) rfl k) ?_
  show Goes _ _ _ _ _ _ _ (s₁.setTop (mkF m 1 #[.val (.int q0), .val (.int q1)] [(.int q0)]))
  refine Goes.of (fun t k => XS.iloadN X0.here hx rfl (hb hby d4_1) rfl k) ?_
  show Goes _ _ _ _ _ _ _ (s₁.setTop (mkF m 2 #[.val (.int q0), .val (.int q1)] [(.int q1), (.int q0)]))
  refine Goes.of (fun t k => XS.iushr X0.here hx rfl (hb hby d4_2) rfl k) ?_
  show Goes _ _ _ _ _ _ _ (s₁.setTop (mkF m 3 #[.val (.int q0), .val (.int q1)] [(.int ((q0.toUInt32 >>> (q1 &&& 31).toUInt32).toInt32))]))
  refine Goes.of (fun t k => XS.iconst X0.here hx rfl (hb hby d4_3) k) ?_
  show Goes _ _ _ _ _ _ _ (s₁.setTop (mkF m 4 #[.val (.int q0), .val (.int q1)] [(.int (1 : Int32)), (.int ((q0.toUInt32 >>> (q1 &&& 31).toUInt32).toInt32))]))
  refine Goes.of (fun t k => XS.iand X0.here hx rfl (hb hby d4_4) rfl k) ?_
  show Goes _ _ _ _ _ _ _ (s₁.setTop (mkF m 5 #[.val (.int q0), .val (.int q1)] [(.int (((q0.toUInt32 >>> (q1 &&& 31).toUInt32).toInt32) &&& (1 : Int32)))]))
  by_cases hc1 : (((q0.toUInt32 >>> (q1 &&& 31).toUInt32).toInt32) &&& (1 : Int32)) = (0 : Int32)
  · refine Goes.of (fun t k => XS.ifYes X0.here hx rfl (pc0 := 5) (pc' := 12) rfl (hb hby d4_5) rfl ((if0 _ _).trans (teq hc1).1) (by decide) (by decide) k) ?_
    show Goes _ _ _ _ _ _ _ (s₁.setTop (mkF m 12 #[.val (.int q0), .val (.int q1)] []))
    refine Goes.of (fun t k => XS.iconst X0.here hx rfl (hb hby d4_12) k) ?_
    show Goes _ _ _ _ _ _ _ (s₁.setTop (mkF m 13 #[.val (.int q0), .val (.int q1)] [(.int (0 : Int32))]))
    exact Goes.fin X0 hlk (v := some (.int (0 : Int32))) (fun h => by rw [Bd.returns] at h; cases h) (fun fs hr => retN X0 hx (t := .boolean) Bd.returns (by simp) (hb hby d4_13) hr) ⟨congrArg (fun z => some (Value.int z)) (by rw [f4, if_pos hc1] : (0 : Int32) = f4 q0 q1), N0, e0⟩ (by decide) (by decide)
  · refine Goes.of (fun t k => XS.ifNo X0.here hx rfl (hb hby d4_5) rfl ((if0 _ _).trans (feq hc1).1) k) ?_
    show Goes _ _ _ _ _ _ _ (s₁.setTop (mkF m 8 #[.val (.int q0), .val (.int q1)] []))
    refine Goes.of (fun t k => XS.iconst X0.here hx rfl (hb hby d4_8) k) ?_
    show Goes _ _ _ _ _ _ _ (s₁.setTop (mkF m 9 #[.val (.int q0), .val (.int q1)] [(.int (1 : Int32))]))
    refine Goes.of (fun t k => XS.goto X0.here hx rfl (pc0 := 9) (pc' := 13) rfl (hb hby d4_9) (by decide) (by decide) k) ?_
    show Goes _ _ _ _ _ _ _ (s₁.setTop (mkF m 13 #[.val (.int q0), .val (.int q1)] [(.int (1 : Int32))]))
    exact Goes.fin X0 hlk (v := some (.int (1 : Int32))) (fun h => by rw [Bd.returns] at h; cases h) (fun fs hr => retN X0 hx (t := .boolean) Bd.returns (by simp) (hb hby d4_13) hr) ⟨congrArg (fun z => some (Value.int z)) (by rw [f4, if_neg hc1] : (1 : Int32) = f4 q0 q1), N0, e0⟩ (by decide) (by decide)
theorem d1_0 : decode method_4_code 0 = .ok (.iload_n 2, 1) := by decide +kernel
theorem d1_1 : decode method_4_code 1 = .ok (.aload_n 0, 1) := by decide +kernel
theorem d1_2 : decode method_4_code 2 = .ok (.arraylength, 1) := by decide +kernel
theorem d1_3 : decode method_4_code 3 = .ok (.if_icmp .ge 11, 3) := by decide +kernel
theorem d1_6 : decode method_4_code 6 = .ok (.aload_n 0, 1) := by decide +kernel
theorem d1_7 : decode method_4_code 7 = .ok (.iload_n 2, 1) := by decide +kernel
theorem d1_8 : decode method_4_code 8 = .ok (.iload_n 1, 1) := by decide +kernel
theorem d1_9 : decode method_4_code 9 = .ok (.iload_n 2, 1) := by decide +kernel
theorem d1_10 : decode method_4_code 10 = .ok (.invokestatic 23, 3) := by decide +kernel
theorem d1_13 : decode method_4_code 13 = .ok (.bastore, 1) := by decide +kernel
theorem d1_14 : decode method_4_code 14 = .ok (.return_, 1) := by decide +kernel
theorem pd_0 : parseMethodDescriptor "(II)Z" = some ⟨[.int, .int], some .boolean⟩ := by decide +kernel
theorem ef_1 (m : MethodId) (a : Addr) (p0 : Int32) (i : Int32) : entryFrame m #[(.ref a), (.int p0), (.int i)] 3 = mkF m 0 #[.val (.ref a), .val (.int p0), .val (.int i)] [] := by first | (simp [entryFrame, mkF, argsToLocals, Value.category]; done) | rfl
def Q1 (Z : State) (a : Addr) (p0 i : Int32) (n : Nat) (f : Nat → Int32) (h0 : Heap) (n0 : Nat) (v : Option Value) (h : Heap) (L : List Loc) : Prop := v = none ∧ Fr n0 L ∧ Keep h0 h [a] ∧ AI Z h a .boolean n (upd f i.toNatClampNeg (f4 p0 i &&& 1))
set_option maxRecDepth 65536 in
set_option maxHeartbeats 40000000 in
theorem rm1 (l : Launch) (Z : State) (a0 : Array Value) (hw : ∀ d ∈ tables_1, d.before a0 Z = true) (ws : List Jvm.Cond) (a : Addr) (p0 : Int32) (i : Int32) (n : Nat) (z : Int32) (f : Nat → Int32) (h0 : Heap) (n0 : Nat) (Z0 : n0 ≤ h0.size) (V_a : AI Z h0 a .boolean n f) (hz : z.toInt = n) (g_a : n0 ≤ a) (hi0 : ¬ i < 0) :
    MetFree l (⟨"com/example/network_attack_odds/networkattackodds/engine/GoalGraphNotPinLaw", "fill", "([ZII)V"⟩ : MethodName) (head1 (Jvm.Cond.code (⟨"com/example/network_attack_odds/networkattackodds/engine/GoalGraphNotPinLaw", "fill", "([ZII)V"⟩ : MethodName) method_4_code 3 none :: ws) ({ frames := 1, cells := 0, slots := 0, locals := 15 } : Room)) (fun ar' Ur => ar' = #[(.ref a), (.int p0), (.int i)] ∧ Z.Warmed39 Ur.vm ∧ Ur.heap = h0) (fun _ _ _ _ _ => True) (fun _ Ur or' Us => ∃ v L, or' = .returned v ∧ Q1 Z a p0 i n f h0 n0 v Us.heap L ∧ FrameEnd Ur or' Us L 0 0) := by
  refine MetFree.of_bodySF (plainFor_of_name pn_0) hisR ?_
  intro p e s m args below meth c s₁ Bd hml0 hP hK
  obtain ⟨rfl, hZ, hh⟩ := hP
  have hx := Bd.exec
  have hby := Bd.bytes
  have hlk : meth.locks = false := BodyLoose.notSynchronized Bd
  have hml : c.maxLocals = 3 := hml0
  have hown : s.vm.findClass "com/example/network_attack_odds/networkattackodds/engine/GoalGraphNotPinLaw" = some m.cls := findClass_of_methodNamed Bd.named
  have hnm := (name_of_methodNamed Bd.named Bd.method).1
  have X0 : Stand p l e ({ frames := 1, cells := 0, slots := 0, locals := 15 } : Room) s m #[(.ref a), (.int p0), (.int i)] below meth c s₁ [] 0 0 := Stand.of_body Bd
  have e0 : s₁.heap = h0 := by rw [← hh, Bd.state]; rfl
  have N0 := Fr.nil n0
  show Goes p.tables e below s (Q1 Z a p0 i n f h0 n0) 0 0 (s₁.setTop (entryFrame m #[(.ref a), (.int p0), (.int i)] 3))
  refine Goes.of (fun t k => castTop (ef_1 m a p0 i) k) ?_
  show Goes _ _ _ _ _ _ _ (s₁.setTop (mkF m 0 #[.val (.ref a), .val (.int p0), .val (.int i)] []))
  refine Goes.of (fun t k => XS.iloadN X0.here hx rfl (hb hby d1_0) rfl k) ?_
  show Goes _ _ _ _ _ _ _ (s₁.setTop (mkF m 1 #[.val (.ref a), .val (.int p0), .val (.int i)] [(.int i)]))
  refine Goes.of (fun t k => XS.aloadN X0.here hx rfl (hb hby d1_1) rfl rfl k) ?_
  show Goes _ _ _ _ _ _ _ (s₁.setTop (mkF m 2 #[.val (.ref a), .val (.int p0), .val (.int i)] [(.ref a), (.int i)]))
  refine Goes.of (fun t k => lenA X0 hx hZ e0 V_a (z := z) hz (g := (mkF m 2 #[.val (.ref a), .val (.int p0), .val (.int i)] [(.ref a), (.int i)])) rfl rfl (hb hby d1_2) t k) ?_
  show Goes _ _ _ _ _ _ _ (s₁.setTop (mkF m 3 #[.val (.ref a), .val (.int p0), .val (.int i)] [(.int z), (.int i)]))
  by_cases hc2 : i < z
  · refine Goes.of (fun t k => XS.icmpNo X0.here hx rfl (hb hby d1_3) rfl (tlt hc2).2.1 k) ?_
    show Goes _ _ _ _ _ _ _ (s₁.setTop (mkF m 6 #[.val (.ref a), .val (.int p0), .val (.int i)] []))
    refine Goes.of (fun t k => XS.aloadN X0.here hx rfl (hb hby d1_6) rfl rfl k) ?_
    show Goes _ _ _ _ _ _ _ (s₁.setTop (mkF m 7 #[.val (.ref a), .val (.int p0), .val (.int i)] [(.ref a)]))
    refine Goes.of (fun t k => XS.iloadN X0.here hx rfl (hb hby d1_7) rfl k) ?_
    show Goes _ _ _ _ _ _ _ (s₁.setTop (mkF m 8 #[.val (.ref a), .val (.int p0), .val (.int i)] [(.int i), (.ref a)]))
    refine Goes.of (fun t k => XS.iloadN X0.here hx rfl (hb hby d1_8) rfl k) ?_
    show Goes _ _ _ _ _ _ _ (s₁.setTop (mkF m 9 #[.val (.ref a), .val (.int p0), .val (.int i)] [(.int p0), (.int i), (.ref a)]))
    refine Goes.of (fun t k => XS.iloadN X0.here hx rfl (hb hby d1_9) rfl k) ?_
    show Goes _ _ _ _ _ _ _ (s₁.setTop (mkF m 10 #[.val (.ref a), .val (.int p0), .val (.int i)] [(.int i), (.int p0), (.int i), (.ref a)]))
    obtain ⟨_, _, ⟨T3, L3, k3, n3⟩, -, X3, ⟨Lc3, hQ3, l3, y3, z3⟩, st3⟩ := Jvm.LawKit.callS X0 hx (y := (⟨"com/example/network_attack_odds/networkattackodds/engine/GoalGraphNotPinLaw", "bit", "(II)Z"⟩ : MethodName)) hown (mvT hZ (hw _ (List.mem_of_getElem? (i := 12) rfl))) (mvT hZ (hw _ (List.mem_of_getElem? (i := 13) rfl))) (mvT hZ (hw _ (List.mem_of_getElem? (i := 3) rfl))) (mvT hZ (hw _ (List.mem_of_getElem? (i := 14) rfl))) (by decide) (backOf (W := 2) (rm4 l Z a0 hw [] p0 i  h0 n0 ) hZ (hw _ (List.mem_of_getElem? (i := 14) rfl)) (hw _ (List.mem_of_getElem? (i := 3) rfl)) (by decide) (by decide)) (g := (mkF m 10 #[.val (.ref a), .val (.int p0), .val (.int i)] [(.int i), (.int p0), (.int i), (.ref a)])) rfl (by rw [hml]; rfl) (argsL := [(.int p0), (.int i)]) (rest := [(.int i), (.ref a)]) (lenOf pd_0 rfl) rfl (by show 2 * 0 + _ ≤ _; exact Nat.le_of_eq rfl) (hb hby d1_10) (fun _ _ => ⟨rfl, e0, (by decide : 0 + 0 ≤ _), (by decide : 0 + 0 ≤ _)⟩)
    dsimp only [Pt.U, Pt.locs, Pt.cells, Pt.slots] at X3 l3 y3 z3 st3 hQ3
    subst l3 y3 z3
    obtain ⟨rfl, N3q, e3⟩ := hQ3
    have N3 := Fr.app N0 N3q
    refine Goes.of st3 ?_
    show Goes _ _ _ _ _ _ _ (T3.setTop (mkF m 13 #[.val (.ref a), .val (.int p0), .val (.int i)] [(.int (f4 p0 i)), (.int i), (.ref a)]))
    have hlt' := Int32.lt_iff_toInt_lt.mp hc2
    have hnn' := nat_of hi0
    obtain ⟨T4, h4, X4, e4, W4, V4, st4⟩ := putZ X3 hx hZ e3 V_a (j := i) (x := (f4 p0 i)) (i := i.toNatClampNeg) hi0 rfl (by omega) (g := (mkF m 13 #[.val (.ref a), .val (.int p0), .val (.int i)] [(.int (f4 p0 i)), (.int i), (.ref a)])) rfl rfl (hb hby d1_13)
    have Z4 : n0 ≤ h4.size := Nat.le_trans Z0 (Keep.of_wr W4).1
    have K4 : Keep h0 h4 [a] := (Keep.refl h0 [a]).wr W4 (Or.inl (List.mem_of_getElem? (i := 0) rfl))
    have N4 := Fr.snoc X4 N3 g_a
    refine Goes.of st4 ?_
    show Goes _ _ _ _ _ _ _ (T4.setTop (mkF m 14 #[.val (.ref a), .val (.int p0), .val (.int i)] []))
    exact Goes.fin X4 hlk (v := none) (fun _ => rfl) (fun fs hr => X4.returnOut hx Bd.returns (hb hby d1_14) hr) (by rw [e4]; exact ⟨rfl, N4, K4, V4⟩) (by decide) (by decide)
  · refine Goes.of (fun t k => XS.icmpYes X0.here hx rfl (pc0 := 3) (pc' := 14) rfl (hb hby d1_3) rfl (flt hc2).2.1 (by decide) (by decide) k) ?_
    show Goes _ _ _ _ _ _ _ (s₁.setTop (mkF m 14 #[.val (.ref a), .val (.int p0), .val (.int i)] []))
    exact Goes.fin X0 hlk (v := none) (fun _ => rfl) (fun fs hr => X0.returnOut hx Bd.returns (hb hby d1_14) hr) (by rw [e0]; exact ⟨rfl, N0, (Keep.refl h0 [a]), (V_a.congr fun j hj => (if_neg (fun q => by subst q; exact hc2 (own_ilt (by rw [hz, nat_of hi0]; omega)))).symm)⟩) (by decide) (by decide)
def G2 (f : Nat → Int32) (j : Nat) : Int32 := if f j = (0 : Int32) then (1 : Int32) else (0 : Int32)
theorem d2_0 : decode prog_34_method_14_code 0 = .ok (.aload_n 0, 1) := by decide +kernel
theorem d2_1 : decode prog_34_method_14_code 1 = .ok (.arraylength, 1) := by decide +kernel
theorem d2_2 : decode prog_34_method_14_code 2 = .ok (.newarray .boolean, 2) := by decide +kernel
theorem d2_4 : decode prog_34_method_14_code 4 = .ok (.astore_n 1, 1) := by decide +kernel
theorem d2_5 : decode prog_34_method_14_code 5 = .ok (.iconst 0, 1) := by decide +kernel
theorem d2_6 : decode prog_34_method_14_code 6 = .ok (.istore_n 2, 1) := by decide +kernel
theorem d2_7 : decode prog_34_method_14_code 7 = .ok (.iload_n 2, 1) := by decide +kernel
theorem d2_8 : decode prog_34_method_14_code 8 = .ok (.aload_n 0, 1) := by decide +kernel
theorem d2_9 : decode prog_34_method_14_code 9 = .ok (.arraylength, 1) := by decide +kernel
theorem d2_10 : decode prog_34_method_14_code 10 = .ok (.if_icmp .ge 23, 3) := by decide +kernel
theorem d2_13 : decode prog_34_method_14_code 13 = .ok (.aload_n 1, 1) := by decide +kernel
theorem d2_14 : decode prog_34_method_14_code 14 = .ok (.iload_n 2, 1) := by decide +kernel
theorem d2_15 : decode prog_34_method_14_code 15 = .ok (.aload_n 0, 1) := by decide +kernel
theorem d2_16 : decode prog_34_method_14_code 16 = .ok (.iload_n 2, 1) := by decide +kernel
theorem d2_17 : decode prog_34_method_14_code 17 = .ok (.baload, 1) := by decide +kernel
theorem d2_18 : decode prog_34_method_14_code 18 = .ok (.ifCond .ne 7, 3) := by decide +kernel
theorem d2_21 : decode prog_34_method_14_code 21 = .ok (.iconst 1, 1) := by decide +kernel
theorem d2_22 : decode prog_34_method_14_code 22 = .ok (.goto 4, 3) := by decide +kernel
theorem d2_25 : decode prog_34_method_14_code 25 = .ok (.iconst 0, 1) := by decide +kernel
theorem d2_26 : decode prog_34_method_14_code 26 = .ok (.bastore, 1) := by decide +kernel
theorem d2_27 : decode prog_34_method_14_code 27 = .ok (.iinc 2 1, 3) := by decide +kernel
theorem d2_30 : decode prog_34_method_14_code 30 = .ok (.goto (-23), 3) := by decide +kernel
theorem d2_33 : decode prog_34_method_14_code 33 = .ok (.aload_n 1, 1) := by decide +kernel
theorem d2_34 : decode prog_34_method_14_code 34 = .ok (.areturn, 1) := by decide +kernel
theorem pn_1 : plainName "com/example/network_attack_odds/networkattackodds/engine/GoalGraph" = true := by first | (simp [plainName, overriddenIn]; done) | decide +kernel
theorem ef_2 (m : MethodId) (a : Addr) : entryFrame m #[(.ref a)] 3 = mkF m 0 #[.val (.ref a), .unset, .unset] [] := by first | (simp [entryFrame, mkF, argsToLocals, Value.category]; done) | rfl
def Q2 (Z : State) (n : Nat) (f : Nat → Int32) (h0 : Heap) (n0 : Nat) (v : Option Value) (h : Heap) (L : List Loc) : Prop := ∃ r : Addr, v = some (.ref r) ∧ Fr n0 L ∧ Keep h0 h [] ∧ h0.size ≤ r ∧ AI Z h r .boolean n (G2 f)
set_option maxRecDepth 65536 in
set_option maxHeartbeats 40000000 in
theorem rm2 (l : Launch) (Z : State) (a0 : Array Value) (hw : ∀ d ∈ tables_1, d.before a0 Z = true) (ws : List Jvm.Cond) (a : Addr) (n : Nat) (z : Int32) (f : Nat → Int32) (h0 : Heap) (n0 : Nat) (Z0 : n0 ≤ h0.size) (V_a : AI Z h0 a .boolean n f) (hz : z.toInt = n) (hcap : n ≤ 7) :
    MetFree l (⟨"com/example/network_attack_odds/networkattackodds/engine/GoalGraph", "not", "([Z)[Z"⟩ : MethodName) (head1 (Jvm.Cond.code (⟨"com/example/network_attack_odds/networkattackodds/engine/GoalGraph", "not", "([Z)[Z"⟩ : MethodName) prog_34_method_14_code 3 (some (.array .boolean)) :: ws) ({ frames := 0, cells := 1, slots := 7, locals := 0 } : Room)) (fun ar' Ur => ar' = #[(.ref a)] ∧ Z.Warmed39 Ur.vm ∧ Ur.heap = h0) (fun _ _ _ _ _ => True) (fun _ Ur or' Us => ∃ v L, or' = .returned v ∧ Q2 Z n f h0 n0 v Us.heap L ∧ FrameEnd Ur or' Us L 1 7) := by
  refine MetFree.of_bodySF (plainFor_of_name pn_1) hisR ?_
  intro p e s m args below meth c s₁ Bd hml0 hP hK
  obtain ⟨rfl, hZ, hh⟩ := hP
  have hx := Bd.exec
  have hby := Bd.bytes
  have hlk : meth.locks = false := BodyLoose.notSynchronized Bd
  have hml : c.maxLocals = 3 := hml0
  have hown : s.vm.findClass "com/example/network_attack_odds/networkattackodds/engine/GoalGraph" = some m.cls := findClass_of_methodNamed Bd.named
  have hnm := (name_of_methodNamed Bd.named Bd.method).1
  have X0 : Stand p l e ({ frames := 0, cells := 1, slots := 7, locals := 0 } : Room) s m #[(.ref a)] below meth c s₁ [] 0 0 := Stand.of_body Bd
  have e0 : s₁.heap = h0 := by rw [← hh, Bd.state]; rfl
  have N0 := Fr.nil n0
  show Goes p.tables e below s (Q2 Z n f h0 n0) 1 7 (s₁.setTop (entryFrame m #[(.ref a)] 3))
  refine Goes.of (fun t k => castTop (ef_2 m a) k) ?_
  show Goes _ _ _ _ _ _ _ (s₁.setTop (mkF m 0 #[.val (.ref a), .unset, .unset] []))
  refine Goes.of (fun t k => XS.aloadN X0.here hx rfl (hb hby d2_0) rfl rfl k) ?_
  show Goes _ _ _ _ _ _ _ (s₁.setTop (mkF m 1 #[.val (.ref a), .unset, .unset] [(.ref a)]))
  refine Goes.of (fun t k => lenA X0 hx hZ e0 V_a (z := z) hz (g := (mkF m 1 #[.val (.ref a), .unset, .unset] [(.ref a)])) rfl rfl (hb hby d2_1) t k) ?_
  show Goes _ _ _ _ _ _ _ (s₁.setTop (mkF m 2 #[.val (.ref a), .unset, .unset] [(.int z)]))
  obtain ⟨T5, h5, k5, X5, e5, E5, A5, Ea5, st5⟩ := newPE X0 hx hZ (hw _ (List.mem_of_getElem? (i := 0) rfl)) e0 (g := (mkF m 2 #[.val (.ref a), .unset, .unset] [(.int z)])) rfl (hb hby d2_2) rfl (own_nn (by omega)) (cap := 7) (by rw [own_tn hz]; exact hcap) (by decide) (by decide) (by decide) (ad := "[Z") (by decide)
  obtain ⟨b5, g5⟩ : ∃ z, z = h0.size := ⟨_, rfl⟩
  rw [← g5] at A5 Ea5 st5
  have V5 : AI Z h5 b5 .boolean n (fun _ => 0) := AI.new rfl rfl A5 (own_nn (by omega)) (own_tn hz)
  have ne_a_b5 : a ≠ b5 := Nat.ne_of_lt (Nat.lt_of_lt_of_le V_a.lt (Nat.le_of_eq g5.symm))
  have g_b5 : n0 ≤ b5 := Nat.le_trans Z0 (Nat.le_of_eq g5.symm)
  have sz_b5 : h0.size ≤ b5 := Nat.le_trans (Keep.refl h0 []).1 (Nat.le_of_eq g5.symm)
  have F6 := V_a.ext E5
  have Z5 : n0 ≤ h5.size := Nat.le_trans Z0 E5.1
  have K5 : Keep h0 h5 [] := (Keep.refl h0 []).ext E5
  refine Goes.of st5 ?_
  show Goes _ _ _ _ _ _ _ (T5.setTop (mkF m 4 #[.val (.ref a), .unset, .unset] [(.ref b5)]))
  refine Goes.of (fun t k => XS.astoreN X5.here hx rfl (hb hby d2_4) rfl rfl (l' := #[.val (.ref a), .val (.ref b5), .unset]) rfl k) ?_
  show Goes _ _ _ _ _ _ _ (T5.setTop (mkF m 5 #[.val (.ref a), .val (.ref b5), .unset] []))
  refine Goes.of (fun t k => XS.iconst X5.here hx rfl (hb hby d2_5) k) ?_
  show Goes _ _ _ _ _ _ _ (T5.setTop (mkF m 6 #[.val (.ref a), .val (.ref b5), .unset] [(.int (0 : Int32))]))
  refine Goes.of (fun t k => XS.istoreN X5.here hx rfl (hb hby d2_6) rfl (l' := #[.val (.ref a), .val (.ref b5), .val (.int (0 : Int32))]) rfl k) ?_
  show Goes _ _ _ _ _ _ _ (T5.setTop (mkF m 7 #[.val (.ref a), .val (.ref b5), .val (.int (0 : Int32))] []))
  have hn31 : n < 2147483648 := by obtain ⟨_, _, _, M, _⟩ := V_a; exact M
  have loop : ∀ (k : Nat), ∀ (i : Int32) (TT : State) (hp : Heap) (lc : List Loc), Stand p l e ({ frames := 0, cells := 1, slots := 7, locals := 0 } : Room) s m #[(.ref a)] below meth c TT lc 1 7 → TT.heap = hp → Fr n0 lc → Keep h0 hp [] → AI Z hp b5 .boolean n (fun j => if j + k < n then (G2 f) j else 0) → i.toInt + (k : Nat) = n → 0 ≤ i.toInt → Goes p.tables e below s (Q2 Z n f h0 n0) 1 7 (TT.setTop (mkF m 7 #[.val (.ref a), .val (.ref b5), .val (.int i)] [])) := by
    intro k
    induction k with
    | zero =>
      intro i TT hp lc XT eT NT KT VT hi hnn
      have ZT : n0 ≤ hp.size := Nat.le_trans Z0 KT.1
      have FT_a := V_a.keep KT nin0
      have hlt : ¬ i < z := own_nlt (by omega)
      show Goes _ _ _ _ _ _ _ (TT.setTop (mkF m 7 #[.val (.ref a), .val (.ref b5), .val (.int i)] []))
      refine Goes.of (fun t k => XS.iloadN XT.here hx rfl (hb hby d2_7) rfl k) ?_
      show Goes _ _ _ _ _ _ _ (TT.setTop (mkF m 8 #[.val (.ref a), .val (.ref b5), .val (.int i)] [(.int i)]))
      refine Goes.of (fun t k => XS.aloadN XT.here hx rfl (hb hby d2_8) rfl rfl k) ?_
      show Goes _ _ _ _ _ _ _ (TT.setTop (mkF m 9 #[.val (.ref a), .val (.ref b5), .val (.int i)] [(.ref a), (.int i)]))
      refine Goes.of (fun t k => lenA XT hx hZ eT FT_a (z := z) hz (g := (mkF m 9 #[.val (.ref a), .val (.ref b5), .val (.int i)] [(.ref a), (.int i)])) rfl rfl (hb hby d2_9) t k) ?_
      show Goes _ _ _ _ _ _ _ (TT.setTop (mkF m 10 #[.val (.ref a), .val (.ref b5), .val (.int i)] [(.int z), (.int i)]))
      refine Goes.of (fun t k => XS.icmpYes XT.here hx rfl (pc0 := 10) (pc' := 33) rfl (hb hby d2_10) rfl (flt hlt).2.1 (by decide) (by decide) k) ?_
      show Goes _ _ _ _ _ _ _ (TT.setTop (mkF m 33 #[.val (.ref a), .val (.ref b5), .val (.int i)] []))
      refine Goes.of (fun t k => XS.aloadN XT.here hx rfl (hb hby d2_33) rfl rfl k) ?_
      show Goes _ _ _ _ _ _ _ (TT.setTop (mkF m 34 #[.val (.ref a), .val (.ref b5), .val (.int i)] [(.ref b5)]))
      exact Goes.fin XT hlk (v := some (.ref b5)) (fun h => by rw [Bd.returns] at h; cases h) (fun fs hr => retOut XT hx Bd.returns (by rfl) (Or.inr (Or.inr (Or.inr (Or.inr ⟨rfl, rfl, rfl⟩)))) (hb hby d2_34) hr) (by rw [eT]; exact ⟨b5, rfl, NT, KT, sz_b5, VT.congr fun j hj => if_pos hj⟩) (by decide) (by decide)
    | succ k ih =>
      intro i TT hp lc XT eT NT KT VT hi hnn
      have ZT : n0 ≤ hp.size := Nat.le_trans Z0 KT.1
      have FT_a := V_a.keep KT nin0
      have hlt : i < z := own_ilt (by omega)
      show Goes _ _ _ _ _ _ _ (TT.setTop (mkF m 7 #[.val (.ref a), .val (.ref b5), .val (.int i)] []))
      refine Goes.of (fun t k => XS.iloadN XT.here hx rfl (hb hby d2_7) rfl k) ?_
      show Goes _ _ _ _ _ _ _ (TT.setTop (mkF m 8 #[.val (.ref a), .val (.ref b5), .val (.int i)] [(.int i)]))
      refine Goes.of (fun t k => XS.aloadN XT.here hx rfl (hb hby d2_8) rfl rfl k) ?_
      show Goes _ _ _ _ _ _ _ (TT.setTop (mkF m 9 #[.val (.ref a), .val (.ref b5), .val (.int i)] [(.ref a), (.int i)]))
      refine Goes.of (fun t k => lenA XT hx hZ eT FT_a (z := z) hz (g := (mkF m 9 #[.val (.ref a), .val (.ref b5), .val (.int i)] [(.ref a), (.int i)])) rfl rfl (hb hby d2_9) t k) ?_
      show Goes _ _ _ _ _ _ _ (TT.setTop (mkF m 10 #[.val (.ref a), .val (.ref b5), .val (.int i)] [(.int z), (.int i)]))
      refine Goes.of (fun t k => XS.icmpNo XT.here hx rfl (hb hby d2_10) rfl (tlt hlt).2.1 k) ?_
      show Goes _ _ _ _ _ _ _ (TT.setTop (mkF m 13 #[.val (.ref a), .val (.ref b5), .val (.int i)] []))
      refine Goes.of (fun t k => XS.aloadN XT.here hx rfl (hb hby d2_13) rfl rfl k) ?_
      show Goes _ _ _ _ _ _ _ (TT.setTop (mkF m 14 #[.val (.ref a), .val (.ref b5), .val (.int i)] [(.ref b5)]))
      refine Goes.of (fun t k => XS.iloadN XT.here hx rfl (hb hby d2_14) rfl k) ?_
      show Goes _ _ _ _ _ _ _ (TT.setTop (mkF m 15 #[.val (.ref a), .val (.ref b5), .val (.int i)] [(.int i), (.ref b5)]))
      refine Goes.of (fun t k => XS.aloadN XT.here hx rfl (hb hby d2_15) rfl rfl k) ?_
      show Goes _ _ _ _ _ _ _ (TT.setTop (mkF m 16 #[.val (.ref a), .val (.ref b5), .val (.int i)] [(.ref a), (.int i), (.ref b5)]))
      refine Goes.of (fun t k => XS.iloadN XT.here hx rfl (hb hby d2_16) rfl k) ?_
      show Goes _ _ _ _ _ _ _ (TT.setTop (mkF m 17 #[.val (.ref a), .val (.ref b5), .val (.int i)] [(.int i), (.ref a), (.int i), (.ref b5)]))
      refine Goes.of (fun t k => ldZ XT hx hZ eT FT_a (j := i) (i := i.toNatClampNeg) (v := (f i.toNatClampNeg)) (own_nn (by omega)) rfl (own_ltn (by omega) (by omega)) rfl (g := (mkF m 17 #[.val (.ref a), .val (.ref b5), .val (.int i)] [(.int i), (.ref a), (.int i), (.ref b5)])) rfl rfl (hb hby d2_17) t k) ?_
      show Goes _ _ _ _ _ _ _ (TT.setTop (mkF m 18 #[.val (.ref a), .val (.ref b5), .val (.int i)] [(.int (f i.toNatClampNeg)), (.int i), (.ref b5)]))
      by_cases hc7 : (f i.toNatClampNeg) = (0 : Int32)
      · refine Goes.of (fun t k => XS.ifNo XT.here hx rfl (hb hby d2_18) rfl ((if0 _ _).trans (teq hc7).2) k) ?_
        show Goes _ _ _ _ _ _ _ (TT.setTop (mkF m 21 #[.val (.ref a), .val (.ref b5), .val (.int i)] [(.int i), (.ref b5)]))
        refine Goes.of (fun t k => XS.iconst XT.here hx rfl (hb hby d2_21) k) ?_
        show Goes _ _ _ _ _ _ _ (TT.setTop (mkF m 22 #[.val (.ref a), .val (.ref b5), .val (.int i)] [(.int (1 : Int32)), (.int i), (.ref b5)]))
        refine Goes.of (fun t k => XS.goto XT.here hx rfl (pc0 := 22) (pc' := 26) rfl (hb hby d2_22) (by decide) (by decide) k) ?_
        show Goes _ _ _ _ _ _ _ (TT.setTop (mkF m 26 #[.val (.ref a), .val (.ref b5), .val (.int i)] [(.int (1 : Int32)), (.int i), (.ref b5)]))
        obtain ⟨T8, h8, X8, e8, W8, V8, st8⟩ := putZ XT hx hZ eT VT (j := i) (x := (1 : Int32)) (i := i.toNatClampNeg) (own_nn (by omega)) rfl (own_ltn (by omega) (by omega)) (g := (mkF m 26 #[.val (.ref a), .val (.ref b5), .val (.int i)] [(.int (1 : Int32)), (.int i), (.ref b5)])) rfl rfl (hb hby d2_26)
        have F9 := FT_a.other W8 ne_a_b5
        have Z8 : n0 ≤ h8.size := Nat.le_trans ZT (Keep.of_wr W8).1
        have K8 : Keep h0 h8 [] := KT.wr W8 (Or.inr sz_b5)
        have N8 := Fr.snoc X8 NT g_b5
        refine Goes.of st8 ?_
        show Goes _ _ _ _ _ _ _ (T8.setTop (mkF m 27 #[.val (.ref a), .val (.ref b5), .val (.int i)] []))
        refine Goes.of (fun t k => XS.iinc X8.here hx rfl (hb hby d2_27) rfl (l' := #[.val (.ref a), .val (.ref b5), .val (.int (i + (1 : Int32)))]) rfl k) ?_
        show Goes _ _ _ _ _ _ _ (T8.setTop (mkF m 30 #[.val (.ref a), .val (.ref b5), .val (.int (i + (1 : Int32)))] []))
        refine Goes.of (fun t k => XS.goto X8.here hx rfl (pc0 := 30) (pc' := 7) rfl (hb hby d2_30) (by decide) (by decide) k) ?_
        show Goes _ _ _ _ _ _ _ (T8.setTop (mkF m 7 #[.val (.ref a), .val (.ref b5), .val (.int (i + (1 : Int32)))] []))
        exact ih _ _ _ _ X8 e8 N8 K8 (V8.congr (own_turn (by have := nat_of (own_nn (j := i) hnn); omega) (by rw [G2, if_pos hc7]; rfl))) (by rw [own_inc (by omega)]; omega) (by rw [own_inc (by omega)]; omega)
      · refine Goes.of (fun t k => XS.ifYes XT.here hx rfl (pc0 := 18) (pc' := 25) rfl (hb hby d2_18) rfl ((if0 _ _).trans (feq hc7).2) (by decide) (by decide) k) ?_
        show Goes _ _ _ _ _ _ _ (TT.setTop (mkF m 25 #[.val (.ref a), .val (.ref b5), .val (.int i)] [(.int i), (.ref b5)]))
        refine Goes.of (fun t k => XS.iconst XT.here hx rfl (hb hby d2_25) k) ?_
        show Goes _ _ _ _ _ _ _ (TT.setTop (mkF m 26 #[.val (.ref a), .val (.ref b5), .val (.int i)] [(.int (0 : Int32)), (.int i), (.ref b5)]))
        obtain ⟨T10, h10, X10, e10, W10, V10, st10⟩ := putZ XT hx hZ eT VT (j := i) (x := (0 : Int32)) (i := i.toNatClampNeg) (own_nn (by omega)) rfl (own_ltn (by omega) (by omega)) (g := (mkF m 26 #[.val (.ref a), .val (.ref b5), .val (.int i)] [(.int (0 : Int32)), (.int i), (.ref b5)])) rfl rfl (hb hby d2_26)
        have F11 := FT_a.other W10 ne_a_b5
        have Z10 : n0 ≤ h10.size := Nat.le_trans ZT (Keep.of_wr W10).1
        have K10 : Keep h0 h10 [] := KT.wr W10 (Or.inr sz_b5)
        have N10 := Fr.snoc X10 NT g_b5
        refine Goes.of st10 ?_
        show Goes _ _ _ _ _ _ _ (T10.setTop (mkF m 27 #[.val (.ref a), .val (.ref b5), .val (.int i)] []))
        refine Goes.of (fun t k => XS.iinc X10.here hx rfl (hb hby d2_27) rfl (l' := #[.val (.ref a), .val (.ref b5), .val (.int (i + (1 : Int32)))]) rfl k) ?_
        show Goes _ _ _ _ _ _ _ (T10.setTop (mkF m 30 #[.val (.ref a), .val (.ref b5), .val (.int (i + (1 : Int32)))] []))
        refine Goes.of (fun t k => XS.goto X10.here hx rfl (pc0 := 30) (pc' := 7) rfl (hb hby d2_30) (by decide) (by decide) k) ?_
        show Goes _ _ _ _ _ _ _ (T10.setTop (mkF m 7 #[.val (.ref a), .val (.ref b5), .val (.int (i + (1 : Int32)))] []))
        exact ih _ _ _ _ X10 e10 N10 K10 (V10.congr (own_turn (by have := nat_of (own_nn (j := i) hnn); omega) (by rw [G2, if_neg hc7]; rfl))) (by rw [own_inc (by omega)]; omega) (by rw [own_inc (by omega)]; omega)
  exact loop n _ _ _ _ X5 e5 N0 K5 (V5.congr fun j hj => (if_neg (by omega)).symm) (by rw [show (0 : Int32).toInt = 0 from rfl]; omega) (by decide)
theorem d3_0 : decode method_5_code 0 = .ok (.iload_n 3, 1) := by decide +kernel
theorem d3_1 : decode method_5_code 1 = .ok (.aload_n 0, 1) := by decide +kernel
theorem d3_2 : decode method_5_code 2 = .ok (.arraylength, 1) := by decide +kernel
theorem d3_3 : decode method_5_code 3 = .ok (.if_icmp .lt 5, 3) := by decide +kernel
theorem d3_6 : decode method_5_code 6 = .ok (.iconst 1, 1) := by decide +kernel
theorem d3_7 : decode method_5_code 7 = .ok (.ireturn, 1) := by decide +kernel
theorem d3_8 : decode method_5_code 8 = .ok (.aload_n 1, 1) := by decide +kernel
theorem d3_9 : decode method_5_code 9 = .ok (.iload_n 3, 1) := by decide +kernel
theorem d3_10 : decode method_5_code 10 = .ok (.baload, 1) := by decide +kernel
theorem d3_11 : decode method_5_code 11 = .ok (.iload_n 2, 1) := by decide +kernel
theorem d3_12 : decode method_5_code 12 = .ok (.iload_n 3, 1) := by decide +kernel
theorem d3_13 : decode method_5_code 13 = .ok (.invokestatic 23, 3) := by decide +kernel
theorem d3_16 : decode method_5_code 16 = .ok (.ifCond .ne 7, 3) := by decide +kernel
theorem d3_19 : decode method_5_code 19 = .ok (.iconst 1, 1) := by decide +kernel
theorem d3_20 : decode method_5_code 20 = .ok (.goto 4, 3) := by decide +kernel
theorem d3_23 : decode method_5_code 23 = .ok (.iconst 0, 1) := by decide +kernel
theorem d3_24 : decode method_5_code 24 = .ok (.if_icmp .ne 18, 3) := by decide +kernel
theorem d3_27 : decode method_5_code 27 = .ok (.aload_n 0, 1) := by decide +kernel
theorem d3_28 : decode method_5_code 28 = .ok (.iload_n 3, 1) := by decide +kernel
theorem d3_29 : decode method_5_code 29 = .ok (.baload, 1) := by decide +kernel
theorem d3_30 : decode method_5_code 30 = .ok (.iload_n 2, 1) := by decide +kernel
theorem d3_31 : decode method_5_code 31 = .ok (.iload_n 3, 1) := by decide +kernel
theorem d3_32 : decode method_5_code 32 = .ok (.invokestatic 23, 3) := by decide +kernel
theorem d3_35 : decode method_5_code 35 = .ok (.if_icmp .ne 7, 3) := by decide +kernel
theorem d3_38 : decode method_5_code 38 = .ok (.iconst 1, 1) := by decide +kernel
theorem d3_39 : decode method_5_code 39 = .ok (.goto 4, 3) := by decide +kernel
theorem d3_42 : decode method_5_code 42 = .ok (.iconst 0, 1) := by decide +kernel
theorem d3_43 : decode method_5_code 43 = .ok (.ireturn, 1) := by decide +kernel
theorem ef_3 (m : MethodId) (a : Addr) (b : Addr) (p0 : Int32) (i : Int32) : entryFrame m #[(.ref a), (.ref b), (.int p0), (.int i)] 4 = mkF m 0 #[.val (.ref a), .val (.ref b), .val (.int p0), .val (.int i)] [] := by first | (simp [entryFrame, mkF, argsToLocals, Value.category]; done) | rfl
def f3 (z : Int32) (fs fc : Nat → Int32) (p0 i : Int32) : Int32 :=
  (if i < z then (if (f4 p0 i) = (0 : Int32) then (if (fc i.toNatClampNeg) = (1 : Int32) then (if (fs i.toNatClampNeg) = (f4 p0 i) then (1 : Int32)
        else (0 : Int32))
      else (0 : Int32))
    else (if (fc i.toNatClampNeg) = (0 : Int32) then (if (fs i.toNatClampNeg) = (f4 p0 i) then (1 : Int32)
        else (0 : Int32))
      else (0 : Int32)))
  else (1 : Int32))
def Q3 (z : Int32) (fs fc : Nat → Int32) (p0 i : Int32) (h0 : Heap) (n0 : Nat) (v : Option Value) (h : Heap) (L : List Loc) : Prop := v = some (.int (f3 z fs fc p0 i)) ∧ Fr n0 L ∧ h = h0
set_option maxRecDepth 65536 in
set_option maxHeartbeats 40000000 in
theorem rm3 (l : Launch) (Z : State) (a0 : Array Value) (hw : ∀ d ∈ tables_1, d.before a0 Z = true) (ws : List Jvm.Cond) (a : Addr) (b : Addr) (p0 : Int32) (i : Int32) (n : Nat) (z : Int32) (fs fc : Nat → Int32) (h0 : Heap) (n0 : Nat) (Z0 : n0 ≤ h0.size) (V_a : AI Z h0 a .boolean n fs) (V_b : AI Z h0 b .boolean n fc) (hz : z.toInt = n) (hi0 : ¬ i < 0) :
    MetFree l (⟨"com/example/network_attack_odds/networkattackodds/engine/GoalGraphNotPinLaw", "ok", "([Z[ZII)Z"⟩ : MethodName) (head1 (Jvm.Cond.code (⟨"com/example/network_attack_odds/networkattackodds/engine/GoalGraphNotPinLaw", "ok", "([Z[ZII)Z"⟩ : MethodName) method_5_code 4 (some .boolean) :: ws) ({ frames := 1, cells := 0, slots := 0, locals := 14 } : Room)) (fun ar' Ur => ar' = #[(.ref a), (.ref b), (.int p0), (.int i)] ∧ Z.Warmed39 Ur.vm ∧ Ur.heap = h0) (fun _ _ _ _ _ => True) (fun _ Ur or' Us => ∃ v L, or' = .returned v ∧ Q3 z fs fc p0 i h0 n0 v Us.heap L ∧ FrameEnd Ur or' Us L 0 0) := by
  refine MetFree.of_bodySF (plainFor_of_name pn_0) hisR ?_
  intro p e s m args below meth c s₁ Bd hml0 hP hK
  obtain ⟨rfl, hZ, hh⟩ := hP
  have hx := Bd.exec
  have hby := Bd.bytes
  have hlk : meth.locks = false := BodyLoose.notSynchronized Bd
  have hml : c.maxLocals = 4 := hml0
  have hown : s.vm.findClass "com/example/network_attack_odds/networkattackodds/engine/GoalGraphNotPinLaw" = some m.cls := findClass_of_methodNamed Bd.named
  have hnm := (name_of_methodNamed Bd.named Bd.method).1
  have X0 : Stand p l e ({ frames := 1, cells := 0, slots := 0, locals := 14 } : Room) s m #[(.ref a), (.ref b), (.int p0), (.int i)] below meth c s₁ [] 0 0 := Stand.of_body Bd
  have e0 : s₁.heap = h0 := by rw [← hh, Bd.state]; rfl
  have N0 := Fr.nil n0
  show Goes p.tables e below s (Q3 z fs fc p0 i h0 n0) 0 0 (s₁.setTop (entryFrame m #[(.ref a), (.ref b), (.int p0), (.int i)] 4))
  refine Goes.of (fun t k => castTop (ef_3 m a b p0 i) k) ?_
  show Goes _ _ _ _ _ _ _ (s₁.setTop (mkF m 0 #[.val (.ref a), .val (.ref b), .val (.int p0), .val (.int i)] []))
  refine Goes.of (fun t k => XS.iloadN X0.here hx rfl (hb hby d3_0) rfl k) ?_
  show Goes _ _ _ _ _ _ _ (s₁.setTop (mkF m 1 #[.val (.ref a), .val (.ref b), .val (.int p0), .val (.int i)] [(.int i)]))
  refine Goes.of (fun t k => XS.aloadN X0.here hx rfl (hb hby d3_1) rfl rfl k) ?_
  show Goes _ _ _ _ _ _ _ (s₁.setTop (mkF m 2 #[.val (.ref a), .val (.ref b), .val (.int p0), .val (.int i)] [(.ref a), (.int i)]))
  refine Goes.of (fun t k => lenA X0 hx hZ e0 V_a (z := z) hz (g := (mkF m 2 #[.val (.ref a), .val (.ref b), .val (.int p0), .val (.int i)] [(.ref a), (.int i)])) rfl rfl (hb hby d3_2) t k) ?_
  show Goes _ _ _ _ _ _ _ (s₁.setTop (mkF m 3 #[.val (.ref a), .val (.ref b), .val (.int p0), .val (.int i)] [(.int z), (.int i)]))
  by_cases hc12 : i < z
  · refine Goes.of (fun t k => XS.icmpYes X0.here hx rfl (pc0 := 3) (pc' := 8) rfl (hb hby d3_3) rfl (tlt hc12).1 (by decide) (by decide) k) ?_
    show Goes _ _ _ _ _ _ _ (s₁.setTop (mkF m 8 #[.val (.ref a), .val (.ref b), .val (.int p0), .val (.int i)] []))
    refine Goes.of (fun t k => XS.aloadN X0.here hx rfl (hb hby d3_8) rfl rfl k) ?_
    show Goes _ _ _ _ _ _ _ (s₁.setTop (mkF m 9 #[.val (.ref a), .val (.ref b), .val (.int p0), .val (.int i)] [(.ref b)]))
    refine Goes.of (fun t k => XS.iloadN X0.here hx rfl (hb hby d3_9) rfl k) ?_
    show Goes _ _ _ _ _ _ _ (s₁.setTop (mkF m 10 #[.val (.ref a), .val (.ref b), .val (.int p0), .val (.int i)] [(.int i), (.ref b)]))
    have hlt' := Int32.lt_iff_toInt_lt.mp hc12
    have hnn' := nat_of hi0
    refine Goes.of (fun t k => ldZ X0 hx hZ e0 V_b (j := i) (i := i.toNatClampNeg) (v := (fc i.toNatClampNeg)) hi0 rfl (by omega) rfl (g := (mkF m 10 #[.val (.ref a), .val (.ref b), .val (.int p0), .val (.int i)] [(.int i), (.ref b)])) rfl rfl (hb hby d3_10) t k) ?_
    show Goes _ _ _ _ _ _ _ (s₁.setTop (mkF m 11 #[.val (.ref a), .val (.ref b), .val (.int p0), .val (.int i)] [(.int (fc i.toNatClampNeg))]))
    refine Goes.of (fun t k => XS.iloadN X0.here hx rfl (hb hby d3_11) rfl k) ?_
    show Goes _ _ _ _ _ _ _ (s₁.setTop (mkF m 12 #[.val (.ref a), .val (.ref b), .val (.int p0), .val (.int i)] [(.int p0), (.int (fc i.toNatClampNeg))]))
    refine Goes.of (fun t k => XS.iloadN X0.here hx rfl (hb hby d3_12) rfl k) ?_
    show Goes _ _ _ _ _ _ _ (s₁.setTop (mkF m 13 #[.val (.ref a), .val (.ref b), .val (.int p0), .val (.int i)] [(.int i), (.int p0), (.int (fc i.toNatClampNeg))]))
    obtain ⟨_, _, ⟨T13, L13, k13, n13⟩, -, X13, ⟨Lc13, hQ13, l13, y13, z13⟩, st13⟩ := Jvm.LawKit.callS X0 hx (y := (⟨"com/example/network_attack_odds/networkattackodds/engine/GoalGraphNotPinLaw", "bit", "(II)Z"⟩ : MethodName)) hown (mvT hZ (hw _ (List.mem_of_getElem? (i := 12) rfl))) (mvT hZ (hw _ (List.mem_of_getElem? (i := 13) rfl))) (mvT hZ (hw _ (List.mem_of_getElem? (i := 3) rfl))) (mvT hZ (hw _ (List.mem_of_getElem? (i := 14) rfl))) (by decide) (backOf (W := 1) (rm4 l Z a0 hw [] p0 i  h0 n0 ) hZ (hw _ (List.mem_of_getElem? (i := 14) rfl)) (hw _ (List.mem_of_getElem? (i := 3) rfl)) (by decide) (by decide)) (g := (mkF m 13 #[.val (.ref a), .val (.ref b), .val (.int p0), .val (.int i)] [(.int i), (.int p0), (.int (fc i.toNatClampNeg))])) rfl (by rw [hml]; rfl) (argsL := [(.int p0), (.int i)]) (rest := [(.int (fc i.toNatClampNeg))]) (lenOf pd_0 rfl) rfl (by show 2 * 0 + _ ≤ _; exact Nat.le_of_eq rfl) (hb hby d3_13) (fun _ _ => ⟨rfl, e0, (by decide : 0 + 0 ≤ _), (by decide : 0 + 0 ≤ _)⟩)
    dsimp only [Pt.U, Pt.locs, Pt.cells, Pt.slots] at X13 l13 y13 z13 st13 hQ13
    subst l13 y13 z13
    obtain ⟨rfl, N13q, e13⟩ := hQ13
    have N13 := Fr.app N0 N13q
    refine Goes.of st13 ?_
    show Goes _ _ _ _ _ _ _ (T13.setTop (mkF m 16 #[.val (.ref a), .val (.ref b), .val (.int p0), .val (.int i)] [(.int (f4 p0 i)), (.int (fc i.toNatClampNeg))]))
    by_cases hc14 : (f4 p0 i) = (0 : Int32)
    · refine Goes.of (fun t k => XS.ifNo X13.here hx rfl (hb hby d3_16) rfl ((if0 _ _).trans (teq hc14).2) k) ?_
      show Goes _ _ _ _ _ _ _ (T13.setTop (mkF m 19 #[.val (.ref a), .val (.ref b), .val (.int p0), .val (.int i)] [(.int (fc i.toNatClampNeg))]))
      refine Goes.of (fun t k => XS.iconst X13.here hx rfl (hb hby d3_19) k) ?_
      show Goes _ _ _ _ _ _ _ (T13.setTop (mkF m 20 #[.val (.ref a), .val (.ref b), .val (.int p0), .val (.int i)] [(.int (1 : Int32)), (.int (fc i.toNatClampNeg))]))
      refine Goes.of (fun t k => XS.goto X13.here hx rfl (pc0 := 20) (pc' := 24) rfl (hb hby d3_20) (by decide) (by decide) k) ?_
      show Goes _ _ _ _ _ _ _ (T13.setTop (mkF m 24 #[.val (.ref a), .val (.ref b), .val (.int p0), .val (.int i)] [(.int (1 : Int32)), (.int (fc i.toNatClampNeg))]))
      by_cases hc15 : (fc i.toNatClampNeg) = (1 : Int32)
      · refine Goes.of (fun t k => XS.icmpNo X13.here hx rfl (hb hby d3_24) rfl (teq hc15).2 k) ?_
        show Goes _ _ _ _ _ _ _ (T13.setTop (mkF m 27 #[.val (.ref a), .val (.ref b), .val (.int p0), .val (.int i)] []))
        refine Goes.of (fun t k => XS.aloadN X13.here hx rfl (hb hby d3_27) rfl rfl k) ?_
        show Goes _ _ _ _ _ _ _ (T13.setTop (mkF m 28 #[.val (.ref a), .val (.ref b), .val (.int p0), .val (.int i)] [(.ref a)]))
        refine Goes.of (fun t k => XS.iloadN X13.here hx rfl (hb hby d3_28) rfl k) ?_
        show Goes _ _ _ _ _ _ _ (T13.setTop (mkF m 29 #[.val (.ref a), .val (.ref b), .val (.int p0), .val (.int i)] [(.int i), (.ref a)]))
        have hlt' := Int32.lt_iff_toInt_lt.mp hc12
        have hnn' := nat_of hi0
        refine Goes.of (fun t k => ldZ X13 hx hZ e13 V_a (j := i) (i := i.toNatClampNeg) (v := (fs i.toNatClampNeg)) hi0 rfl (by omega) rfl (g := (mkF m 29 #[.val (.ref a), .val (.ref b), .val (.int p0), .val (.int i)] [(.int i), (.ref a)])) rfl rfl (hb hby d3_29) t k) ?_
        show Goes _ _ _ _ _ _ _ (T13.setTop (mkF m 30 #[.val (.ref a), .val (.ref b), .val (.int p0), .val (.int i)] [(.int (fs i.toNatClampNeg))]))
        refine Goes.of (fun t k => XS.iloadN X13.here hx rfl (hb hby d3_30) rfl k) ?_
        show Goes _ _ _ _ _ _ _ (T13.setTop (mkF m 31 #[.val (.ref a), .val (.ref b), .val (.int p0), .val (.int i)] [(.int p0), (.int (fs i.toNatClampNeg))]))
        refine Goes.of (fun t k => XS.iloadN X13.here hx rfl (hb hby d3_31) rfl k) ?_
        show Goes _ _ _ _ _ _ _ (T13.setTop (mkF m 32 #[.val (.ref a), .val (.ref b), .val (.int p0), .val (.int i)] [(.int i), (.int p0), (.int (fs i.toNatClampNeg))]))
        obtain ⟨_, _, ⟨T16, L16, k16, n16⟩, -, X16, ⟨Lc16, hQ16, l16, y16, z16⟩, st16⟩ := Jvm.LawKit.callS X13 hx (y := (⟨"com/example/network_attack_odds/networkattackodds/engine/GoalGraphNotPinLaw", "bit", "(II)Z"⟩ : MethodName)) hown (mvT hZ (hw _ (List.mem_of_getElem? (i := 12) rfl))) (mvT hZ (hw _ (List.mem_of_getElem? (i := 13) rfl))) (mvT hZ (hw _ (List.mem_of_getElem? (i := 3) rfl))) (mvT hZ (hw _ (List.mem_of_getElem? (i := 14) rfl))) (by decide) (backOf (W := 1) (rm4 l Z a0 hw [] p0 i  h0 n0 ) hZ (hw _ (List.mem_of_getElem? (i := 14) rfl)) (hw _ (List.mem_of_getElem? (i := 3) rfl)) (by decide) (by decide)) (g := (mkF m 32 #[.val (.ref a), .val (.ref b), .val (.int p0), .val (.int i)] [(.int i), (.int p0), (.int (fs i.toNatClampNeg))])) rfl (by rw [hml]; rfl) (argsL := [(.int p0), (.int i)]) (rest := [(.int (fs i.toNatClampNeg))]) (lenOf pd_0 rfl) rfl (by show 2 * 0 + _ ≤ _; exact Nat.le_of_eq rfl) (hb hby d3_32) (fun _ _ => ⟨rfl, e13, (by decide : 0 + 0 ≤ _), (by decide : 0 + 0 ≤ _)⟩)
        dsimp only [Pt.U, Pt.locs, Pt.cells, Pt.slots] at X16 l16 y16 z16 st16 hQ16
        subst l16 y16 z16
        obtain ⟨rfl, N16q, e16⟩ := hQ16
        have N16 := Fr.app N13 N16q
        refine Goes.of st16 ?_
        show Goes _ _ _ _ _ _ _ (T16.setTop (mkF m 35 #[.val (.ref a), .val (.ref b), .val (.int p0), .val (.int i)] [(.int (f4 p0 i)), (.int (fs i.toNatClampNeg))]))
        by_cases hc17 : (fs i.toNatClampNeg) = (f4 p0 i)
        · refine Goes.of (fun t k => XS.icmpNo X16.here hx rfl (hb hby d3_35) rfl (teq hc17).2 k) ?_
          show Goes _ _ _ _ _ _ _ (T16.setTop (mkF m 38 #[.val (.ref a), .val (.ref b), .val (.int p0), .val (.int i)] []))
          refine Goes.of (fun t k => XS.iconst X16.here hx rfl (hb hby d3_38) k) ?_
          show Goes _ _ _ _ _ _ _ (T16.setTop (mkF m 39 #[.val (.ref a), .val (.ref b), .val (.int p0), .val (.int i)] [(.int (1 : Int32))]))
          refine Goes.of (fun t k => XS.goto X16.here hx rfl (pc0 := 39) (pc' := 43) rfl (hb hby d3_39) (by decide) (by decide) k) ?_
          show Goes _ _ _ _ _ _ _ (T16.setTop (mkF m 43 #[.val (.ref a), .val (.ref b), .val (.int p0), .val (.int i)] [(.int (1 : Int32))]))
          exact Goes.fin X16 hlk (v := some (.int (1 : Int32))) (fun h => by rw [Bd.returns] at h; cases h) (fun fs hr => retN X16 hx (t := .boolean) Bd.returns (by simp) (hb hby d3_43) hr) ⟨congrArg (fun z => some (Value.int z)) (by rw [f3, if_pos hc12, if_pos hc14, if_pos hc15, if_pos hc17] : (1 : Int32) = f3 z fs fc p0 i), N16, e16⟩ (by decide) (by decide)
        · refine Goes.of (fun t k => XS.icmpYes X16.here hx rfl (pc0 := 35) (pc' := 42) rfl (hb hby d3_35) rfl (feq hc17).2 (by decide) (by decide) k) ?_
          show Goes _ _ _ _ _ _ _ (T16.setTop (mkF m 42 #[.val (.ref a), .val (.ref b), .val (.int p0), .val (.int i)] []))
          refine Goes.of (fun t k => XS.iconst X16.here hx rfl (hb hby d3_42) k) ?_
          show Goes _ _ _ _ _ _ _ (T16.setTop (mkF m 43 #[.val (.ref a), .val (.ref b), .val (.int p0), .val (.int i)] [(.int (0 : Int32))]))
          exact Goes.fin X16 hlk (v := some (.int (0 : Int32))) (fun h => by rw [Bd.returns] at h; cases h) (fun fs hr => retN X16 hx (t := .boolean) Bd.returns (by simp) (hb hby d3_43) hr) ⟨congrArg (fun z => some (Value.int z)) (by rw [f3, if_pos hc12, if_pos hc14, if_pos hc15, if_neg hc17] : (0 : Int32) = f3 z fs fc p0 i), N16, e16⟩ (by decide) (by decide)
      · refine Goes.of (fun t k => XS.icmpYes X13.here hx rfl (pc0 := 24) (pc' := 42) rfl (hb hby d3_24) rfl (feq hc15).2 (by decide) (by decide) k) ?_
        show Goes _ _ _ _ _ _ _ (T13.setTop (mkF m 42 #[.val (.ref a), .val (.ref b), .val (.int p0), .val (.int i)] []))
        refine Goes.of (fun t k => XS.iconst X13.here hx rfl (hb hby d3_42) k) ?_
        show Goes _ _ _ _ _ _ _ (T13.setTop (mkF m 43 #[.val (.ref a), .val (.ref b), .val (.int p0), .val (.int i)] [(.int (0 : Int32))]))
        exact Goes.fin X13 hlk (v := some (.int (0 : Int32))) (fun h => by rw [Bd.returns] at h; cases h) (fun fs hr => retN X13 hx (t := .boolean) Bd.returns (by simp) (hb hby d3_43) hr) ⟨congrArg (fun z => some (Value.int z)) (by rw [f3, if_pos hc12, if_pos hc14, if_neg hc15] : (0 : Int32) = f3 z fs fc p0 i), N13, e13⟩ (by decide) (by decide)
    · refine Goes.of (fun t k => XS.ifYes X13.here hx rfl (pc0 := 16) (pc' := 23) rfl (hb hby d3_16) rfl ((if0 _ _).trans (feq hc14).2) (by decide) (by decide) k) ?_
      show Goes _ _ _ _ _ _ _ (T13.setTop (mkF m 23 #[.val (.ref a), .val (.ref b), .val (.int p0), .val (.int i)] [(.int (fc i.toNatClampNeg))]))
      refine Goes.of (fun t k => XS.iconst X13.here hx rfl (hb hby d3_23) k) ?_
      show Goes _ _ _ _ _ _ _ (T13.setTop (mkF m 24 #[.val (.ref a), .val (.ref b), .val (.int p0), .val (.int i)] [(.int (0 : Int32)), (.int (fc i.toNatClampNeg))]))
      by_cases hc18 : (fc i.toNatClampNeg) = (0 : Int32)
      · refine Goes.of (fun t k => XS.icmpNo X13.here hx rfl (hb hby d3_24) rfl (teq hc18).2 k) ?_
        show Goes _ _ _ _ _ _ _ (T13.setTop (mkF m 27 #[.val (.ref a), .val (.ref b), .val (.int p0), .val (.int i)] []))
        refine Goes.of (fun t k => XS.aloadN X13.here hx rfl (hb hby d3_27) rfl rfl k) ?_
        show Goes _ _ _ _ _ _ _ (T13.setTop (mkF m 28 #[.val (.ref a), .val (.ref b), .val (.int p0), .val (.int i)] [(.ref a)]))
        refine Goes.of (fun t k => XS.iloadN X13.here hx rfl (hb hby d3_28) rfl k) ?_
        show Goes _ _ _ _ _ _ _ (T13.setTop (mkF m 29 #[.val (.ref a), .val (.ref b), .val (.int p0), .val (.int i)] [(.int i), (.ref a)]))
        have hlt' := Int32.lt_iff_toInt_lt.mp hc12
        have hnn' := nat_of hi0
        refine Goes.of (fun t k => ldZ X13 hx hZ e13 V_a (j := i) (i := i.toNatClampNeg) (v := (fs i.toNatClampNeg)) hi0 rfl (by omega) rfl (g := (mkF m 29 #[.val (.ref a), .val (.ref b), .val (.int p0), .val (.int i)] [(.int i), (.ref a)])) rfl rfl (hb hby d3_29) t k) ?_
        show Goes _ _ _ _ _ _ _ (T13.setTop (mkF m 30 #[.val (.ref a), .val (.ref b), .val (.int p0), .val (.int i)] [(.int (fs i.toNatClampNeg))]))
        refine Goes.of (fun t k => XS.iloadN X13.here hx rfl (hb hby d3_30) rfl k) ?_
        show Goes _ _ _ _ _ _ _ (T13.setTop (mkF m 31 #[.val (.ref a), .val (.ref b), .val (.int p0), .val (.int i)] [(.int p0), (.int (fs i.toNatClampNeg))]))
        refine Goes.of (fun t k => XS.iloadN X13.here hx rfl (hb hby d3_31) rfl k) ?_
        show Goes _ _ _ _ _ _ _ (T13.setTop (mkF m 32 #[.val (.ref a), .val (.ref b), .val (.int p0), .val (.int i)] [(.int i), (.int p0), (.int (fs i.toNatClampNeg))]))
        obtain ⟨_, _, ⟨T19, L19, k19, n19⟩, -, X19, ⟨Lc19, hQ19, l19, y19, z19⟩, st19⟩ := Jvm.LawKit.callS X13 hx (y := (⟨"com/example/network_attack_odds/networkattackodds/engine/GoalGraphNotPinLaw", "bit", "(II)Z"⟩ : MethodName)) hown (mvT hZ (hw _ (List.mem_of_getElem? (i := 12) rfl))) (mvT hZ (hw _ (List.mem_of_getElem? (i := 13) rfl))) (mvT hZ (hw _ (List.mem_of_getElem? (i := 3) rfl))) (mvT hZ (hw _ (List.mem_of_getElem? (i := 14) rfl))) (by decide) (backOf (W := 1) (rm4 l Z a0 hw [] p0 i  h0 n0 ) hZ (hw _ (List.mem_of_getElem? (i := 14) rfl)) (hw _ (List.mem_of_getElem? (i := 3) rfl)) (by decide) (by decide)) (g := (mkF m 32 #[.val (.ref a), .val (.ref b), .val (.int p0), .val (.int i)] [(.int i), (.int p0), (.int (fs i.toNatClampNeg))])) rfl (by rw [hml]; rfl) (argsL := [(.int p0), (.int i)]) (rest := [(.int (fs i.toNatClampNeg))]) (lenOf pd_0 rfl) rfl (by show 2 * 0 + _ ≤ _; exact Nat.le_of_eq rfl) (hb hby d3_32) (fun _ _ => ⟨rfl, e13, (by decide : 0 + 0 ≤ _), (by decide : 0 + 0 ≤ _)⟩)
        dsimp only [Pt.U, Pt.locs, Pt.cells, Pt.slots] at X19 l19 y19 z19 st19 hQ19
        subst l19 y19 z19
        obtain ⟨rfl, N19q, e19⟩ := hQ19
        have N19 := Fr.app N13 N19q
        refine Goes.of st19 ?_
        show Goes _ _ _ _ _ _ _ (T19.setTop (mkF m 35 #[.val (.ref a), .val (.ref b), .val (.int p0), .val (.int i)] [(.int (f4 p0 i)), (.int (fs i.toNatClampNeg))]))
        by_cases hc20 : (fs i.toNatClampNeg) = (f4 p0 i)
        · refine Goes.of (fun t k => XS.icmpNo X19.here hx rfl (hb hby d3_35) rfl (teq hc20).2 k) ?_
          show Goes _ _ _ _ _ _ _ (T19.setTop (mkF m 38 #[.val (.ref a), .val (.ref b), .val (.int p0), .val (.int i)] []))
          refine Goes.of (fun t k => XS.iconst X19.here hx rfl (hb hby d3_38) k) ?_
          show Goes _ _ _ _ _ _ _ (T19.setTop (mkF m 39 #[.val (.ref a), .val (.ref b), .val (.int p0), .val (.int i)] [(.int (1 : Int32))]))
          refine Goes.of (fun t k => XS.goto X19.here hx rfl (pc0 := 39) (pc' := 43) rfl (hb hby d3_39) (by decide) (by decide) k) ?_
          show Goes _ _ _ _ _ _ _ (T19.setTop (mkF m 43 #[.val (.ref a), .val (.ref b), .val (.int p0), .val (.int i)] [(.int (1 : Int32))]))
          exact Goes.fin X19 hlk (v := some (.int (1 : Int32))) (fun h => by rw [Bd.returns] at h; cases h) (fun fs hr => retN X19 hx (t := .boolean) Bd.returns (by simp) (hb hby d3_43) hr) ⟨congrArg (fun z => some (Value.int z)) (by rw [f3, if_pos hc12, if_neg hc14, if_pos hc18, if_pos hc20] : (1 : Int32) = f3 z fs fc p0 i), N19, e19⟩ (by decide) (by decide)
        · refine Goes.of (fun t k => XS.icmpYes X19.here hx rfl (pc0 := 35) (pc' := 42) rfl (hb hby d3_35) rfl (feq hc20).2 (by decide) (by decide) k) ?_
          show Goes _ _ _ _ _ _ _ (T19.setTop (mkF m 42 #[.val (.ref a), .val (.ref b), .val (.int p0), .val (.int i)] []))
          refine Goes.of (fun t k => XS.iconst X19.here hx rfl (hb hby d3_42) k) ?_
          show Goes _ _ _ _ _ _ _ (T19.setTop (mkF m 43 #[.val (.ref a), .val (.ref b), .val (.int p0), .val (.int i)] [(.int (0 : Int32))]))
          exact Goes.fin X19 hlk (v := some (.int (0 : Int32))) (fun h => by rw [Bd.returns] at h; cases h) (fun fs hr => retN X19 hx (t := .boolean) Bd.returns (by simp) (hb hby d3_43) hr) ⟨congrArg (fun z => some (Value.int z)) (by rw [f3, if_pos hc12, if_neg hc14, if_pos hc18, if_neg hc20] : (0 : Int32) = f3 z fs fc p0 i), N19, e19⟩ (by decide) (by decide)
      · refine Goes.of (fun t k => XS.icmpYes X13.here hx rfl (pc0 := 24) (pc' := 42) rfl (hb hby d3_24) rfl (feq hc18).2 (by decide) (by decide) k) ?_
        show Goes _ _ _ _ _ _ _ (T13.setTop (mkF m 42 #[.val (.ref a), .val (.ref b), .val (.int p0), .val (.int i)] []))
        refine Goes.of (fun t k => XS.iconst X13.here hx rfl (hb hby d3_42) k) ?_
        show Goes _ _ _ _ _ _ _ (T13.setTop (mkF m 43 #[.val (.ref a), .val (.ref b), .val (.int p0), .val (.int i)] [(.int (0 : Int32))]))
        exact Goes.fin X13 hlk (v := some (.int (0 : Int32))) (fun h => by rw [Bd.returns] at h; cases h) (fun fs hr => retN X13 hx (t := .boolean) Bd.returns (by simp) (hb hby d3_43) hr) ⟨congrArg (fun z => some (Value.int z)) (by rw [f3, if_pos hc12, if_neg hc14, if_neg hc18] : (0 : Int32) = f3 z fs fc p0 i), N13, e13⟩ (by decide) (by decide)
  · refine Goes.of (fun t k => XS.icmpNo X0.here hx rfl (hb hby d3_3) rfl (flt hc12).1 k) ?_
    show Goes _ _ _ _ _ _ _ (s₁.setTop (mkF m 6 #[.val (.ref a), .val (.ref b), .val (.int p0), .val (.int i)] []))
    refine Goes.of (fun t k => XS.iconst X0.here hx rfl (hb hby d3_6) k) ?_
    show Goes _ _ _ _ _ _ _ (s₁.setTop (mkF m 7 #[.val (.ref a), .val (.ref b), .val (.int p0), .val (.int i)] [(.int (1 : Int32))]))
    exact Goes.fin X0 hlk (v := some (.int (1 : Int32))) (fun h => by rw [Bd.returns] at h; cases h) (fun fs hr => retN X0 hx (t := .boolean) Bd.returns (by simp) (hb hby d3_7) hr) ⟨congrArg (fun z => some (Value.int z)) (by rw [f3, if_neg hc12] : (1 : Int32) = f3 z fs fc p0 i), N0, e0⟩ (by decide) (by decide)
theorem own_b (x i : Int32) : f4 x i = 0 ∨ f4 x i = 1 := by
  unfold f4
  split
  · exact Or.inl rfl
  · exact Or.inr rfl
theorem own_ok {z p k : Int32} {fs : Nat → Int32} (h : fs k.toNatClampNeg = (f4 p k &&& 1)) : ¬ f3 z fs (G2 fs) p k = 0 := by
  unfold f3 G2
  rw [h]
  rcases own_b p k with e | e <;> rw [e] <;> by_cases q : k < z <;> simp +decide [q]
theorem own_7 (u : Int32) : 0 ≤ (u &&& (7 : Int32)).toInt ∧ (u &&& (7 : Int32)).toInt ≤ 7 := c_and u 7 (by decide)
theorem pd_1 : parseMethodDescriptor "([ZII)V" = some ⟨[(.array .boolean), .int, .int], none⟩ := by decide +kernel
theorem pd_2 : parseMethodDescriptor "([Z)[Z" = some ⟨[(.array .boolean)], some (.array .boolean)⟩ := by decide +kernel
theorem pd_3 : parseMethodDescriptor "([Z[ZII)Z" = some ⟨[(.array .boolean), (.array .boolean), .int, .int], some .boolean⟩ := by decide +kernel
theorem ef_0 (m : MethodId) (u0 : Int32) (u1 : Int32) : entryFrame m #[(.int u0), (.int u1)] maxLocals = mkF m 0 #[.val (.int u0), .val (.int u1), .unset, .unset, .unset] [] := by first | (simp [entryFrame, mkF, argsToLocals, Value.category, maxLocals]; done) | rfl
def Q0 (n0 : Nat) (v : Option Value) (h : Heap) (L : List Loc) : Prop := v = some (.int 1) ∧ Fr n0 L
set_option maxRecDepth 65536 in
set_option maxHeartbeats 40000000 in
theorem rm0 (l : Launch) (Z : State) (a0 : Array Value) (hw : ∀ d ∈ tables_1, d.before a0 Z = true) (ws : List Jvm.Cond) (u0 : Int32) (u1 : Int32) (h0 : Heap) (n0 : Nat) (Z0 : n0 ≤ h0.size) :
    MetFree l x (head1 (Jvm.Cond.code x code maxLocals ret :: ws) room_1) (fun ar' Ur => ar' = #[(.int u0), (.int u1)] ∧ Z.Warmed39 Ur.vm ∧ Ur.heap = h0) (fun _ _ _ _ _ => True) (fun _ Ur or' Us => ∃ v L, or' = .returned v ∧ Q0 n0 v Us.heap L ∧ FrameEnd Ur or' Us L room_1.cells room_1.slots) := by
  refine MetFree.of_bodySF (plainFor_of_name pn_0) hisR ?_
  intro p e s m args below meth c s₁ Bd hml0 hP hK
  obtain ⟨rfl, hZ, hh⟩ := hP
  have hx := Bd.exec
  have hby := Bd.bytes
  have hlk : meth.locks = false := BodyLoose.notSynchronized Bd
  have hml : c.maxLocals = 5 := hml0
  have hown : s.vm.findClass "com/example/network_attack_odds/networkattackodds/engine/GoalGraphNotPinLaw" = some m.cls := findClass_of_methodNamed Bd.named
  have hnm := (name_of_methodNamed Bd.named Bd.method).1
  have X0 : Stand p l e room_1 s m #[(.int u0), (.int u1)] below meth c s₁ [] 0 0 := Stand.of_body Bd
  have e0 : s₁.heap = h0 := by rw [← hh, Bd.state]; rfl
  have N0 := Fr.nil n0
  show Goes p.tables e below s (Q0 n0) room_1.cells room_1.slots (s₁.setTop (entryFrame m #[(.int u0), (.int u1)] maxLocals))
  refine Goes.of (fun t k => castTop (ef_0 m u0 u1) k) ?_
  show Goes _ _ _ _ _ _ _ (s₁.setTop (mkF m 0 #[.val (.int u0), .val (.int u1), .unset, .unset, .unset] []))
  refine Goes.of (fun t k => XS.iloadN X0.here hx rfl (hb hby at_0) rfl k) ?_
  show Goes _ _ _ _ _ _ _ (s₁.setTop (mkF m 1 #[.val (.int u0), .val (.int u1), .unset, .unset, .unset] [(.int u0)]))
  refine Goes.of (fun t k => XS.bipush X0.here hx rfl (hb hby at_1) k) ?_
  show Goes _ _ _ _ _ _ _ (s₁.setTop (mkF m 3 #[.val (.int u0), .val (.int u1), .unset, .unset, .unset] [(.int (7 : Int32)), (.int u0)]))
  refine Goes.of (fun t k => XS.iand X0.here hx rfl (hb hby at_3) rfl k) ?_
  show Goes _ _ _ _ _ _ _ (s₁.setTop (mkF m 4 #[.val (.int u0), .val (.int u1), .unset, .unset, .unset] [(.int (u0 &&& (7 : Int32)))]))
  refine Goes.of (fun t k => XS.istoreN X0.here hx rfl (hb hby at_4) rfl (l' := #[.val (.int u0), .val (.int u1), .val (.int (u0 &&& (7 : Int32))), .unset, .unset]) rfl k) ?_
  show Goes _ _ _ _ _ _ _ (s₁.setTop (mkF m 5 #[.val (.int u0), .val (.int u1), .val (.int (u0 &&& (7 : Int32))), .unset, .unset] []))
  obtain ⟨zz, hy_zz⟩ : ∃ z, z = (u0 &&& (7 : Int32)) := ⟨_, rfl⟩
  rw [← hy_zz]
  show Goes _ _ _ _ _ _ _ (s₁.setTop (mkF m 5 #[.val (.int u0), .val (.int u1), .val (.int zz), .unset, .unset] []))
  have h7 := own_7 u0
  rw [← hy_zz] at h7
  obtain ⟨n, hz⟩ : ∃ n : Nat, zz.toInt = n := ⟨zz.toNatClampNeg, nat_of (own_nn h7.1)⟩
  refine Goes.of (fun t k => XS.iloadN X0.here hx rfl (hb hby at_5) rfl k) ?_
  show Goes _ _ _ _ _ _ _ (s₁.setTop (mkF m 6 #[.val (.int u0), .val (.int u1), .val (.int zz), .unset, .unset] [(.int zz)]))
  obtain ⟨T21, h21, k21, X21, e21, E21, A21, Ea21, st21⟩ := newPE X0 hx hZ (hw _ (List.mem_of_getElem? (i := 0) rfl)) e0 (g := (mkF m 6 #[.val (.int u0), .val (.int u1), .val (.int zz), .unset, .unset] [(.int zz)])) rfl (hb hby at_6) rfl (own_nn h7.1) (cap := 7) (by rw [own_tn hz]; omega) (by decide) (by decide) (by decide) (ad := "[Z") (by decide)
  obtain ⟨b21, g21⟩ : ∃ z, z = h0.size := ⟨_, rfl⟩
  rw [← g21] at A21 Ea21 st21
  have V21 : AI Z h21 b21 .boolean n (fun _ => 0) := AI.new rfl rfl A21 (own_nn h7.1) (own_tn hz)
  have g_b21 : n0 ≤ b21 := Nat.le_trans Z0 (Nat.le_of_eq g21.symm)
  have Z21 : n0 ≤ h21.size := Nat.le_trans Z0 E21.1
  refine Goes.of st21 ?_
  show Goes _ _ _ _ _ _ _ (T21.setTop (mkF m 8 #[.val (.int u0), .val (.int u1), .val (.int zz), .unset, .unset] [(.ref b21)]))
  refine Goes.of (fun t k => XS.astoreN X21.here hx rfl (hb hby at_8) rfl rfl (l' := #[.val (.int u0), .val (.int u1), .val (.int zz), .val (.ref b21), .unset]) rfl k) ?_
  show Goes _ _ _ _ _ _ _ (T21.setTop (mkF m 9 #[.val (.int u0), .val (.int u1), .val (.int zz), .val (.ref b21), .unset] []))
  refine Goes.of (fun t k => XS.aloadN X21.here hx rfl (hb hby at_9) rfl rfl k) ?_
  show Goes _ _ _ _ _ _ _ (T21.setTop (mkF m 10 #[.val (.int u0), .val (.int u1), .val (.int zz), .val (.ref b21), .unset] [(.ref b21)]))
  refine Goes.of (fun t k => XS.iloadN X21.here hx rfl (hb hby at_10) rfl k) ?_
  show Goes _ _ _ _ _ _ _ (T21.setTop (mkF m 11 #[.val (.int u0), .val (.int u1), .val (.int zz), .val (.ref b21), .unset] [(.int u1), (.ref b21)]))
  refine Goes.of (fun t k => XS.iconst X21.here hx rfl (hb hby at_11) k) ?_
  show Goes _ _ _ _ _ _ _ (T21.setTop (mkF m 12 #[.val (.int u0), .val (.int u1), .val (.int zz), .val (.ref b21), .unset] [(.int (0 : Int32)), (.int u1), (.ref b21)]))
  obtain ⟨_, _, ⟨T22, L22, k22, n22⟩, -, X22, ⟨Lc22, hQ22, l22, y22, z22⟩, st22⟩ := Jvm.LawKit.callS X21 hx (y := (⟨"com/example/network_attack_odds/networkattackodds/engine/GoalGraphNotPinLaw", "fill", "([ZII)V"⟩ : MethodName)) hown (mvT hZ (hw _ (List.mem_of_getElem? (i := 1) rfl))) (mvT hZ (hw _ (List.mem_of_getElem? (i := 2) rfl))) (mvT hZ (hw _ (List.mem_of_getElem? (i := 3) rfl))) (mvT hZ (hw _ (List.mem_of_getElem? (i := 4) rfl))) (by decide) (backOf (W := 0) (rm1 l Z a0 hw [] b21 u1 (0 : Int32) n zz (fun _ => 0) h21 n0 Z21 V21 hz g_b21 (by decide)) hZ (hw _ (List.mem_of_getElem? (i := 4) rfl)) (hw _ (List.mem_of_getElem? (i := 3) rfl)) (by decide) (by decide)) (g := (mkF m 12 #[.val (.int u0), .val (.int u1), .val (.int zz), .val (.ref b21), .unset] [(.int (0 : Int32)), (.int u1), (.ref b21)])) rfl (by rw [hml]; rfl) (argsL := [(.ref b21), (.int u1), (.int (0 : Int32))]) (rest := []) (lenOf pd_1 rfl) rfl (by show 2 * 0 + _ ≤ _; exact Nat.le_of_eq rfl) (hb hby at_12) (fun _ _ => ⟨rfl, e21, (by decide : 1 + 0 ≤ _), (by decide : 7 + 0 ≤ _)⟩)
  dsimp only [Pt.U, Pt.locs, Pt.cells, Pt.slots] at X22 l22 y22 z22 st22 hQ22
  subst l22 y22 z22
  obtain ⟨rfl, N22q, K22, V22⟩ := hQ22
  have Z22 : n0 ≤ T22.heap.size := Nat.le_trans Z21 K22.1
  have N22 := Fr.app N0 N22q
  refine Goes.of st22 ?_
  show Goes _ _ _ _ _ _ _ (T22.setTop (mkF m 15 #[.val (.int u0), .val (.int u1), .val (.int zz), .val (.ref b21), .unset] []))
  refine Goes.of (fun t k => XS.aloadN X22.here hx rfl (hb hby at_15) rfl rfl k) ?_
  show Goes _ _ _ _ _ _ _ (T22.setTop (mkF m 16 #[.val (.int u0), .val (.int u1), .val (.int zz), .val (.ref b21), .unset] [(.ref b21)]))
  refine Goes.of (fun t k => XS.iloadN X22.here hx rfl (hb hby at_16) rfl k) ?_
  show Goes _ _ _ _ _ _ _ (T22.setTop (mkF m 17 #[.val (.int u0), .val (.int u1), .val (.int zz), .val (.ref b21), .unset] [(.int u1), (.ref b21)]))
  refine Goes.of (fun t k => XS.iconst X22.here hx rfl (hb hby at_17) k) ?_
  show Goes _ _ _ _ _ _ _ (T22.setTop (mkF m 18 #[.val (.int u0), .val (.int u1), .val (.int zz), .val (.ref b21), .unset] [(.int (1 : Int32)), (.int u1), (.ref b21)]))
  obtain ⟨_, _, ⟨T23, L23, k23, n23⟩, -, X23, ⟨Lc23, hQ23, l23, y23, z23⟩, st23⟩ := Jvm.LawKit.callS X22 hx (y := (⟨"com/example/network_attack_odds/networkattackodds/engine/GoalGraphNotPinLaw", "fill", "([ZII)V"⟩ : MethodName)) hown (mvT hZ (hw _ (List.mem_of_getElem? (i := 1) rfl))) (mvT hZ (hw _ (List.mem_of_getElem? (i := 2) rfl))) (mvT hZ (hw _ (List.mem_of_getElem? (i := 3) rfl))) (mvT hZ (hw _ (List.mem_of_getElem? (i := 4) rfl))) (by decide) (backOf (W := 0) (rm1 l Z a0 hw [] b21 u1 (1 : Int32) n zz (upd (fun _ => 0) ((0 : Int32)).toNatClampNeg (f4 u1 (0 : Int32) &&& 1)) T22.heap n0 Z22 V22 hz g_b21 (by decide)) hZ (hw _ (List.mem_of_getElem? (i := 4) rfl)) (hw _ (List.mem_of_getElem? (i := 3) rfl)) (by decide) (by decide)) (g := (mkF m 18 #[.val (.int u0), .val (.int u1), .val (.int zz), .val (.ref b21), .unset] [(.int (1 : Int32)), (.int u1), (.ref b21)])) rfl (by rw [hml]; rfl) (argsL := [(.ref b21), (.int u1), (.int (1 : Int32))]) (rest := []) (lenOf pd_1 rfl) rfl (by show 2 * 0 + _ ≤ _; exact Nat.le_of_eq rfl) (hb hby at_18) (fun _ _ => ⟨rfl, rfl, (by decide : 1 + 0 ≤ _), (by decide : 7 + 0 ≤ _)⟩)
  dsimp only [Pt.U, Pt.locs, Pt.cells, Pt.slots] at X23 l23 y23 z23 st23 hQ23
  subst l23 y23 z23
  obtain ⟨rfl, N23q, K23, V23⟩ := hQ23
  have Z23 : n0 ≤ T23.heap.size := Nat.le_trans Z22 K23.1
  have N23 := Fr.app N22 N23q
  refine Goes.of st23 ?_
  show Goes _ _ _ _ _ _ _ (T23.setTop (mkF m 21 #[.val (.int u0), .val (.int u1), .val (.int zz), .val (.ref b21), .unset] []))
  refine Goes.of (fun t k => XS.aloadN X23.here hx rfl (hb hby at_21) rfl rfl k) ?_
  show Goes _ _ _ _ _ _ _ (T23.setTop (mkF m 22 #[.val (.int u0), .val (.int u1), .val (.int zz), .val (.ref b21), .unset] [(.ref b21)]))
  refine Goes.of (fun t k => XS.iloadN X23.here hx rfl (hb hby at_22) rfl k) ?_
  show Goes _ _ _ _ _ _ _ (T23.setTop (mkF m 23 #[.val (.int u0), .val (.int u1), .val (.int zz), .val (.ref b21), .unset] [(.int u1), (.ref b21)]))
  refine Goes.of (fun t k => XS.iconst X23.here hx rfl (hb hby at_23) k) ?_
  show Goes _ _ _ _ _ _ _ (T23.setTop (mkF m 24 #[.val (.int u0), .val (.int u1), .val (.int zz), .val (.ref b21), .unset] [(.int (2 : Int32)), (.int u1), (.ref b21)]))
  obtain ⟨_, _, ⟨T24, L24, k24, n24⟩, -, X24, ⟨Lc24, hQ24, l24, y24, z24⟩, st24⟩ := Jvm.LawKit.callS X23 hx (y := (⟨"com/example/network_attack_odds/networkattackodds/engine/GoalGraphNotPinLaw", "fill", "([ZII)V"⟩ : MethodName)) hown (mvT hZ (hw _ (List.mem_of_getElem? (i := 1) rfl))) (mvT hZ (hw _ (List.mem_of_getElem? (i := 2) rfl))) (mvT hZ (hw _ (List.mem_of_getElem? (i := 3) rfl))) (mvT hZ (hw _ (List.mem_of_getElem? (i := 4) rfl))) (by decide) (backOf (W := 0) (rm1 l Z a0 hw [] b21 u1 (2 : Int32) n zz (upd (upd (fun _ => 0) ((0 : Int32)).toNatClampNeg (f4 u1 (0 : Int32) &&& 1)) ((1 : Int32)).toNatClampNeg (f4 u1 (1 : Int32) &&& 1)) T23.heap n0 Z23 V23 hz g_b21 (by decide)) hZ (hw _ (List.mem_of_getElem? (i := 4) rfl)) (hw _ (List.mem_of_getElem? (i := 3) rfl)) (by decide) (by decide)) (g := (mkF m 24 #[.val (.int u0), .val (.int u1), .val (.int zz), .val (.ref b21), .unset] [(.int (2 : Int32)), (.int u1), (.ref b21)])) rfl (by rw [hml]; rfl) (argsL := [(.ref b21), (.int u1), (.int (2 : Int32))]) (rest := []) (lenOf pd_1 rfl) rfl (by show 2 * 0 + _ ≤ _; exact Nat.le_of_eq rfl) (hb hby at_24) (fun _ _ => ⟨rfl, rfl, (by decide : 1 + 0 ≤ _), (by decide : 7 + 0 ≤ _)⟩)
  dsimp only [Pt.U, Pt.locs, Pt.cells, Pt.slots] at X24 l24 y24 z24 st24 hQ24
  subst l24 y24 z24
  obtain ⟨rfl, N24q, K24, V24⟩ := hQ24
  have Z24 : n0 ≤ T24.heap.size := Nat.le_trans Z23 K24.1
  have N24 := Fr.app N23 N24q
  refine Goes.of st24 ?_
  show Goes _ _ _ _ _ _ _ (T24.setTop (mkF m 27 #[.val (.int u0), .val (.int u1), .val (.int zz), .val (.ref b21), .unset] []))
  refine Goes.of (fun t k => XS.aloadN X24.here hx rfl (hb hby at_27) rfl rfl k) ?_
  show Goes _ _ _ _ _ _ _ (T24.setTop (mkF m 28 #[.val (.int u0), .val (.int u1), .val (.int zz), .val (.ref b21), .unset] [(.ref b21)]))
  refine Goes.of (fun t k => XS.iloadN X24.here hx rfl (hb hby at_28) rfl k) ?_
  show Goes _ _ _ _ _ _ _ (T24.setTop (mkF m 29 #[.val (.int u0), .val (.int u1), .val (.int zz), .val (.ref b21), .unset] [(.int u1), (.ref b21)]))
  refine Goes.of (fun t k => XS.iconst X24.here hx rfl (hb hby at_29) k) ?_
  show Goes _ _ _ _ _ _ _ (T24.setTop (mkF m 30 #[.val (.int u0), .val (.int u1), .val (.int zz), .val (.ref b21), .unset] [(.int (3 : Int32)), (.int u1), (.ref b21)]))
  obtain ⟨_, _, ⟨T25, L25, k25, n25⟩, -, X25, ⟨Lc25, hQ25, l25, y25, z25⟩, st25⟩ := Jvm.LawKit.callS X24 hx (y := (⟨"com/example/network_attack_odds/networkattackodds/engine/GoalGraphNotPinLaw", "fill", "([ZII)V"⟩ : MethodName)) hown (mvT hZ (hw _ (List.mem_of_getElem? (i := 1) rfl))) (mvT hZ (hw _ (List.mem_of_getElem? (i := 2) rfl))) (mvT hZ (hw _ (List.mem_of_getElem? (i := 3) rfl))) (mvT hZ (hw _ (List.mem_of_getElem? (i := 4) rfl))) (by decide) (backOf (W := 0) (rm1 l Z a0 hw [] b21 u1 (3 : Int32) n zz (upd (upd (upd (fun _ => 0) ((0 : Int32)).toNatClampNeg (f4 u1 (0 : Int32) &&& 1)) ((1 : Int32)).toNatClampNeg (f4 u1 (1 : Int32) &&& 1)) ((2 : Int32)).toNatClampNeg (f4 u1 (2 : Int32) &&& 1)) T24.heap n0 Z24 V24 hz g_b21 (by decide)) hZ (hw _ (List.mem_of_getElem? (i := 4) rfl)) (hw _ (List.mem_of_getElem? (i := 3) rfl)) (by decide) (by decide)) (g := (mkF m 30 #[.val (.int u0), .val (.int u1), .val (.int zz), .val (.ref b21), .unset] [(.int (3 : Int32)), (.int u1), (.ref b21)])) rfl (by rw [hml]; rfl) (argsL := [(.ref b21), (.int u1), (.int (3 : Int32))]) (rest := []) (lenOf pd_1 rfl) rfl (by show 2 * 0 + _ ≤ _; exact Nat.le_of_eq rfl) (hb hby at_30) (fun _ _ => ⟨rfl, rfl, (by decide : 1 + 0 ≤ _), (by decide : 7 + 0 ≤ _)⟩)
  dsimp only [Pt.U, Pt.locs, Pt.cells, Pt.slots] at X25 l25 y25 z25 st25 hQ25
  subst l25 y25 z25
  obtain ⟨rfl, N25q, K25, V25⟩ := hQ25
  have Z25 : n0 ≤ T25.heap.size := Nat.le_trans Z24 K25.1
  have N25 := Fr.app N24 N25q
  refine Goes.of st25 ?_
  show Goes _ _ _ _ _ _ _ (T25.setTop (mkF m 33 #[.val (.int u0), .val (.int u1), .val (.int zz), .val (.ref b21), .unset] []))
  refine Goes.of (fun t k => XS.aloadN X25.here hx rfl (hb hby at_33) rfl rfl k) ?_
  show Goes _ _ _ _ _ _ _ (T25.setTop (mkF m 34 #[.val (.int u0), .val (.int u1), .val (.int zz), .val (.ref b21), .unset] [(.ref b21)]))
  refine Goes.of (fun t k => XS.iloadN X25.here hx rfl (hb hby at_34) rfl k) ?_
  show Goes _ _ _ _ _ _ _ (T25.setTop (mkF m 35 #[.val (.int u0), .val (.int u1), .val (.int zz), .val (.ref b21), .unset] [(.int u1), (.ref b21)]))
  refine Goes.of (fun t k => XS.iconst X25.here hx rfl (hb hby at_35) k) ?_
  show Goes _ _ _ _ _ _ _ (T25.setTop (mkF m 36 #[.val (.int u0), .val (.int u1), .val (.int zz), .val (.ref b21), .unset] [(.int (4 : Int32)), (.int u1), (.ref b21)]))
  obtain ⟨_, _, ⟨T26, L26, k26, n26⟩, -, X26, ⟨Lc26, hQ26, l26, y26, z26⟩, st26⟩ := Jvm.LawKit.callS X25 hx (y := (⟨"com/example/network_attack_odds/networkattackodds/engine/GoalGraphNotPinLaw", "fill", "([ZII)V"⟩ : MethodName)) hown (mvT hZ (hw _ (List.mem_of_getElem? (i := 1) rfl))) (mvT hZ (hw _ (List.mem_of_getElem? (i := 2) rfl))) (mvT hZ (hw _ (List.mem_of_getElem? (i := 3) rfl))) (mvT hZ (hw _ (List.mem_of_getElem? (i := 4) rfl))) (by decide) (backOf (W := 0) (rm1 l Z a0 hw [] b21 u1 (4 : Int32) n zz (upd (upd (upd (upd (fun _ => 0) ((0 : Int32)).toNatClampNeg (f4 u1 (0 : Int32) &&& 1)) ((1 : Int32)).toNatClampNeg (f4 u1 (1 : Int32) &&& 1)) ((2 : Int32)).toNatClampNeg (f4 u1 (2 : Int32) &&& 1)) ((3 : Int32)).toNatClampNeg (f4 u1 (3 : Int32) &&& 1)) T25.heap n0 Z25 V25 hz g_b21 (by decide)) hZ (hw _ (List.mem_of_getElem? (i := 4) rfl)) (hw _ (List.mem_of_getElem? (i := 3) rfl)) (by decide) (by decide)) (g := (mkF m 36 #[.val (.int u0), .val (.int u1), .val (.int zz), .val (.ref b21), .unset] [(.int (4 : Int32)), (.int u1), (.ref b21)])) rfl (by rw [hml]; rfl) (argsL := [(.ref b21), (.int u1), (.int (4 : Int32))]) (rest := []) (lenOf pd_1 rfl) rfl (by show 2 * 0 + _ ≤ _; exact Nat.le_of_eq rfl) (hb hby at_36) (fun _ _ => ⟨rfl, rfl, (by decide : 1 + 0 ≤ _), (by decide : 7 + 0 ≤ _)⟩)
  dsimp only [Pt.U, Pt.locs, Pt.cells, Pt.slots] at X26 l26 y26 z26 st26 hQ26
  subst l26 y26 z26
  obtain ⟨rfl, N26q, K26, V26⟩ := hQ26
  have Z26 : n0 ≤ T26.heap.size := Nat.le_trans Z25 K26.1
  have N26 := Fr.app N25 N26q
  refine Goes.of st26 ?_
  show Goes _ _ _ _ _ _ _ (T26.setTop (mkF m 39 #[.val (.int u0), .val (.int u1), .val (.int zz), .val (.ref b21), .unset] []))
  refine Goes.of (fun t k => XS.aloadN X26.here hx rfl (hb hby at_39) rfl rfl k) ?_
  show Goes _ _ _ _ _ _ _ (T26.setTop (mkF m 40 #[.val (.int u0), .val (.int u1), .val (.int zz), .val (.ref b21), .unset] [(.ref b21)]))
  refine Goes.of (fun t k => XS.iloadN X26.here hx rfl (hb hby at_40) rfl k) ?_
  show Goes _ _ _ _ _ _ _ (T26.setTop (mkF m 41 #[.val (.int u0), .val (.int u1), .val (.int zz), .val (.ref b21), .unset] [(.int u1), (.ref b21)]))
  refine Goes.of (fun t k => XS.iconst X26.here hx rfl (hb hby at_41) k) ?_
  show Goes _ _ _ _ _ _ _ (T26.setTop (mkF m 42 #[.val (.int u0), .val (.int u1), .val (.int zz), .val (.ref b21), .unset] [(.int (5 : Int32)), (.int u1), (.ref b21)]))
  obtain ⟨_, _, ⟨T27, L27, k27, n27⟩, -, X27, ⟨Lc27, hQ27, l27, y27, z27⟩, st27⟩ := Jvm.LawKit.callS X26 hx (y := (⟨"com/example/network_attack_odds/networkattackodds/engine/GoalGraphNotPinLaw", "fill", "([ZII)V"⟩ : MethodName)) hown (mvT hZ (hw _ (List.mem_of_getElem? (i := 1) rfl))) (mvT hZ (hw _ (List.mem_of_getElem? (i := 2) rfl))) (mvT hZ (hw _ (List.mem_of_getElem? (i := 3) rfl))) (mvT hZ (hw _ (List.mem_of_getElem? (i := 4) rfl))) (by decide) (backOf (W := 0) (rm1 l Z a0 hw [] b21 u1 (5 : Int32) n zz (upd (upd (upd (upd (upd (fun _ => 0) ((0 : Int32)).toNatClampNeg (f4 u1 (0 : Int32) &&& 1)) ((1 : Int32)).toNatClampNeg (f4 u1 (1 : Int32) &&& 1)) ((2 : Int32)).toNatClampNeg (f4 u1 (2 : Int32) &&& 1)) ((3 : Int32)).toNatClampNeg (f4 u1 (3 : Int32) &&& 1)) ((4 : Int32)).toNatClampNeg (f4 u1 (4 : Int32) &&& 1)) T26.heap n0 Z26 V26 hz g_b21 (by decide)) hZ (hw _ (List.mem_of_getElem? (i := 4) rfl)) (hw _ (List.mem_of_getElem? (i := 3) rfl)) (by decide) (by decide)) (g := (mkF m 42 #[.val (.int u0), .val (.int u1), .val (.int zz), .val (.ref b21), .unset] [(.int (5 : Int32)), (.int u1), (.ref b21)])) rfl (by rw [hml]; rfl) (argsL := [(.ref b21), (.int u1), (.int (5 : Int32))]) (rest := []) (lenOf pd_1 rfl) rfl (by show 2 * 0 + _ ≤ _; exact Nat.le_of_eq rfl) (hb hby at_42) (fun _ _ => ⟨rfl, rfl, (by decide : 1 + 0 ≤ _), (by decide : 7 + 0 ≤ _)⟩)
  dsimp only [Pt.U, Pt.locs, Pt.cells, Pt.slots] at X27 l27 y27 z27 st27 hQ27
  subst l27 y27 z27
  obtain ⟨rfl, N27q, K27, V27⟩ := hQ27
  have Z27 : n0 ≤ T27.heap.size := Nat.le_trans Z26 K27.1
  have N27 := Fr.app N26 N27q
  refine Goes.of st27 ?_
  show Goes _ _ _ _ _ _ _ (T27.setTop (mkF m 45 #[.val (.int u0), .val (.int u1), .val (.int zz), .val (.ref b21), .unset] []))
  refine Goes.of (fun t k => XS.aloadN X27.here hx rfl (hb hby at_45) rfl rfl k) ?_
  show Goes _ _ _ _ _ _ _ (T27.setTop (mkF m 46 #[.val (.int u0), .val (.int u1), .val (.int zz), .val (.ref b21), .unset] [(.ref b21)]))
  refine Goes.of (fun t k => XS.iloadN X27.here hx rfl (hb hby at_46) rfl k) ?_
  show Goes _ _ _ _ _ _ _ (T27.setTop (mkF m 47 #[.val (.int u0), .val (.int u1), .val (.int zz), .val (.ref b21), .unset] [(.int u1), (.ref b21)]))
  refine Goes.of (fun t k => XS.bipush X27.here hx rfl (hb hby at_47) k) ?_
  show Goes _ _ _ _ _ _ _ (T27.setTop (mkF m 49 #[.val (.int u0), .val (.int u1), .val (.int zz), .val (.ref b21), .unset] [(.int (6 : Int32)), (.int u1), (.ref b21)]))
  obtain ⟨_, _, ⟨T28, L28, k28, n28⟩, -, X28, ⟨Lc28, hQ28, l28, y28, z28⟩, st28⟩ := Jvm.LawKit.callS X27 hx (y := (⟨"com/example/network_attack_odds/networkattackodds/engine/GoalGraphNotPinLaw", "fill", "([ZII)V"⟩ : MethodName)) hown (mvT hZ (hw _ (List.mem_of_getElem? (i := 1) rfl))) (mvT hZ (hw _ (List.mem_of_getElem? (i := 2) rfl))) (mvT hZ (hw _ (List.mem_of_getElem? (i := 3) rfl))) (mvT hZ (hw _ (List.mem_of_getElem? (i := 4) rfl))) (by decide) (backOf (W := 0) (rm1 l Z a0 hw [] b21 u1 (6 : Int32) n zz (upd (upd (upd (upd (upd (upd (fun _ => 0) ((0 : Int32)).toNatClampNeg (f4 u1 (0 : Int32) &&& 1)) ((1 : Int32)).toNatClampNeg (f4 u1 (1 : Int32) &&& 1)) ((2 : Int32)).toNatClampNeg (f4 u1 (2 : Int32) &&& 1)) ((3 : Int32)).toNatClampNeg (f4 u1 (3 : Int32) &&& 1)) ((4 : Int32)).toNatClampNeg (f4 u1 (4 : Int32) &&& 1)) ((5 : Int32)).toNatClampNeg (f4 u1 (5 : Int32) &&& 1)) T27.heap n0 Z27 V27 hz g_b21 (by decide)) hZ (hw _ (List.mem_of_getElem? (i := 4) rfl)) (hw _ (List.mem_of_getElem? (i := 3) rfl)) (by decide) (by decide)) (g := (mkF m 49 #[.val (.int u0), .val (.int u1), .val (.int zz), .val (.ref b21), .unset] [(.int (6 : Int32)), (.int u1), (.ref b21)])) rfl (by rw [hml]; rfl) (argsL := [(.ref b21), (.int u1), (.int (6 : Int32))]) (rest := []) (lenOf pd_1 rfl) rfl (by show 2 * 0 + _ ≤ _; exact Nat.le_of_eq rfl) (hb hby at_49) (fun _ _ => ⟨rfl, rfl, (by decide : 1 + 0 ≤ _), (by decide : 7 + 0 ≤ _)⟩)
  dsimp only [Pt.U, Pt.locs, Pt.cells, Pt.slots] at X28 l28 y28 z28 st28 hQ28
  subst l28 y28 z28
  obtain ⟨rfl, N28q, K28, V28⟩ := hQ28
  have Z28 : n0 ≤ T28.heap.size := Nat.le_trans Z27 K28.1
  have N28 := Fr.app N27 N28q
  refine Goes.of st28 ?_
  show Goes _ _ _ _ _ _ _ (T28.setTop (mkF m 52 #[.val (.int u0), .val (.int u1), .val (.int zz), .val (.ref b21), .unset] []))
  refine Goes.of (fun t k => XS.aloadN X28.here hx rfl (hb hby at_52) rfl rfl k) ?_
  show Goes _ _ _ _ _ _ _ (T28.setTop (mkF m 53 #[.val (.int u0), .val (.int u1), .val (.int zz), .val (.ref b21), .unset] [(.ref b21)]))
  obtain ⟨fs, hf_fs⟩ : ∃ f : Nat → Int32, f = (upd (upd (upd (upd (upd (upd (upd (fun _ => 0) ((0 : Int32)).toNatClampNeg (f4 u1 (0 : Int32) &&& 1)) ((1 : Int32)).toNatClampNeg (f4 u1 (1 : Int32) &&& 1)) ((2 : Int32)).toNatClampNeg (f4 u1 (2 : Int32) &&& 1)) ((3 : Int32)).toNatClampNeg (f4 u1 (3 : Int32) &&& 1)) ((4 : Int32)).toNatClampNeg (f4 u1 (4 : Int32) &&& 1)) ((5 : Int32)).toNatClampNeg (f4 u1 (5 : Int32) &&& 1)) ((6 : Int32)).toNatClampNeg (f4 u1 (6 : Int32) &&& 1)) := ⟨_, rfl⟩
  rw [← hf_fs] at V28
  obtain ⟨_, _, ⟨T29, L29, k29, n29⟩, -, X29, ⟨Lc29, hQ29, l29, y29, z29⟩, st29⟩ := Jvm.LawKit.callS X28 hx (y := (⟨"com/example/network_attack_odds/networkattackodds/engine/GoalGraph", "not", "([Z)[Z"⟩ : MethodName)) hown (mvT hZ (hw _ (List.mem_of_getElem? (i := 5) rfl))) (mvT hZ (hw _ (List.mem_of_getElem? (i := 6) rfl))) (mvT hZ (hw _ (List.mem_of_getElem? (i := 7) rfl))) (mvT hZ (hw _ (List.mem_of_getElem? (i := 8) rfl))) (by decide) (backOf (W := 0) (rm2 l Z a0 hw [] b21 n zz fs T28.heap n0 Z28 V28 hz (by omega)) hZ (hw _ (List.mem_of_getElem? (i := 8) rfl)) (hw _ (List.mem_of_getElem? (i := 7) rfl)) (by decide) (by decide)) (g := (mkF m 53 #[.val (.int u0), .val (.int u1), .val (.int zz), .val (.ref b21), .unset] [(.ref b21)])) rfl (by rw [hml]; rfl) (argsL := [(.ref b21)]) (rest := []) (lenOf pd_2 rfl) rfl (by show 2 * 0 + _ ≤ _; exact Nat.le_of_eq rfl) (hb hby at_53) (fun _ _ => ⟨rfl, rfl, (by decide : 1 + 1 ≤ _), (by decide : 7 + 7 ≤ _)⟩)
  dsimp only [Pt.U, Pt.locs, Pt.cells, Pt.slots] at X29 l29 y29 z29 st29 hQ29
  subst l29 y29 z29
  obtain ⟨r29, rfl, N29q, K29, sz29, V29⟩ := hQ29
  have ne_b21_r29 : b21 ≠ r29 := Nat.ne_of_lt (Nat.lt_of_lt_of_le V28.lt sz29)
  have F30 := V28.keep K29 nin0
  have g_r29 : n0 ≤ r29 := Nat.le_trans Z28 sz29
  have Z29 : n0 ≤ T29.heap.size := Nat.le_trans Z28 K29.1
  have N29 := Fr.app N28 N29q
  refine Goes.of st29 ?_
  show Goes _ _ _ _ _ _ _ (T29.setTop (mkF m 56 #[.val (.int u0), .val (.int u1), .val (.int zz), .val (.ref b21), .unset] [(.ref r29)]))
  refine Goes.of (fun t k => XS.astore X29.here hx rfl (hb hby at_56) rfl rfl (l' := #[.val (.int u0), .val (.int u1), .val (.int zz), .val (.ref b21), .val (.ref r29)]) rfl k) ?_
  show Goes _ _ _ _ _ _ _ (T29.setTop (mkF m 58 #[.val (.int u0), .val (.int u1), .val (.int zz), .val (.ref b21), .val (.ref r29)] []))
  refine Goes.of (fun t k => XS.aload X29.here hx rfl (hb hby at_58) rfl rfl k) ?_
  show Goes _ _ _ _ _ _ _ (T29.setTop (mkF m 60 #[.val (.int u0), .val (.int u1), .val (.int zz), .val (.ref b21), .val (.ref r29)] [(.ref r29)]))
  refine Goes.of (fun t k => XS.ifnullNo X29.here hx rfl (hb hby at_60) rfl k) ?_
  show Goes _ _ _ _ _ _ _ (T29.setTop (mkF m 63 #[.val (.int u0), .val (.int u1), .val (.int zz), .val (.ref b21), .val (.ref r29)] []))
  refine Goes.of (fun t k => XS.aload X29.here hx rfl (hb hby at_63) rfl rfl k) ?_
  show Goes _ _ _ _ _ _ _ (T29.setTop (mkF m 65 #[.val (.int u0), .val (.int u1), .val (.int zz), .val (.ref b21), .val (.ref r29)] [(.ref r29)]))
  refine Goes.of (fun t k => XS.aloadN X29.here hx rfl (hb hby at_65) rfl rfl k) ?_
  show Goes _ _ _ _ _ _ _ (T29.setTop (mkF m 66 #[.val (.int u0), .val (.int u1), .val (.int zz), .val (.ref b21), .val (.ref r29)] [(.ref b21), (.ref r29)]))
  refine Goes.of (fun t k => Jvm.RoadKit.acmp (g := (mkF m 66 #[.val (.int u0), .val (.int u1), .val (.int zz), .val (.ref b21), .val (.ref r29)] [(.ref b21), (.ref r29)])) X29 hx rfl rfl rfl (pc0 := 66) (pc' := 69) (same := false) rfl (hb hby at_66) rfl (decide_eq_false fun q => (Ne.symm ne_b21_r29) (Value.ref.inj q)) (by decide) (by decide) k) ?_
  show Goes _ _ _ _ _ _ _ (T29.setTop (mkF m 69 #[.val (.int u0), .val (.int u1), .val (.int zz), .val (.ref b21), .val (.ref r29)] []))
  refine Goes.of (fun t k => XS.aload X29.here hx rfl (hb hby at_69) rfl rfl k) ?_
  show Goes _ _ _ _ _ _ _ (T29.setTop (mkF m 71 #[.val (.int u0), .val (.int u1), .val (.int zz), .val (.ref b21), .val (.ref r29)] [(.ref r29)]))
  refine Goes.of (fun t k => lenA X29 hx hZ rfl V29 (z := zz) hz (g := (mkF m 71 #[.val (.int u0), .val (.int u1), .val (.int zz), .val (.ref b21), .val (.ref r29)] [(.ref r29)])) rfl rfl (hb hby at_71) t k) ?_
  show Goes _ _ _ _ _ _ _ (T29.setTop (mkF m 72 #[.val (.int u0), .val (.int u1), .val (.int zz), .val (.ref b21), .val (.ref r29)] [(.int zz)]))
  refine Goes.of (fun t k => XS.iloadN X29.here hx rfl (hb hby at_72) rfl k) ?_
  show Goes _ _ _ _ _ _ _ (T29.setTop (mkF m 73 #[.val (.int u0), .val (.int u1), .val (.int zz), .val (.ref b21), .val (.ref r29)] [(.int zz), (.int zz)]))
  refine Goes.of (fun t k => XS.icmpYes X29.here hx rfl (pc0 := 73) (pc' := 78) rfl (hb hby at_73) rfl (teq (rfl : zz = zz)).1 (by decide) (by decide) k) ?_
  show Goes _ _ _ _ _ _ _ (T29.setTop (mkF m 78 #[.val (.int u0), .val (.int u1), .val (.int zz), .val (.ref b21), .val (.ref r29)] []))
  refine Goes.of (fun t k => XS.aloadN X29.here hx rfl (hb hby at_78) rfl rfl k) ?_
  show Goes _ _ _ _ _ _ _ (T29.setTop (mkF m 79 #[.val (.int u0), .val (.int u1), .val (.int zz), .val (.ref b21), .val (.ref r29)] [(.ref b21)]))
  refine Goes.of (fun t k => XS.aload X29.here hx rfl (hb hby at_79) rfl rfl k) ?_
  show Goes _ _ _ _ _ _ _ (T29.setTop (mkF m 81 #[.val (.int u0), .val (.int u1), .val (.int zz), .val (.ref b21), .val (.ref r29)] [(.ref r29), (.ref b21)]))
  refine Goes.of (fun t k => XS.iloadN X29.here hx rfl (hb hby at_81) rfl k) ?_
  show Goes _ _ _ _ _ _ _ (T29.setTop (mkF m 82 #[.val (.int u0), .val (.int u1), .val (.int zz), .val (.ref b21), .val (.ref r29)] [(.int u1), (.ref r29), (.ref b21)]))
  refine Goes.of (fun t k => XS.iconst X29.here hx rfl (hb hby at_82) k) ?_
  show Goes _ _ _ _ _ _ _ (T29.setTop (mkF m 83 #[.val (.int u0), .val (.int u1), .val (.int zz), .val (.ref b21), .val (.ref r29)] [(.int (0 : Int32)), (.int u1), (.ref r29), (.ref b21)]))
  obtain ⟨_, _, ⟨T31, L31, k31, n31⟩, -, X31, ⟨Lc31, hQ31, l31, y31, z31⟩, st31⟩ := Jvm.LawKit.callS X29 hx (y := (⟨"com/example/network_attack_odds/networkattackodds/engine/GoalGraphNotPinLaw", "ok", "([Z[ZII)Z"⟩ : MethodName)) hown (mvT hZ (hw _ (List.mem_of_getElem? (i := 9) rfl))) (mvT hZ (hw _ (List.mem_of_getElem? (i := 10) rfl))) (mvT hZ (hw _ (List.mem_of_getElem? (i := 3) rfl))) (mvT hZ (hw _ (List.mem_of_getElem? (i := 11) rfl))) (by decide) (backOf (W := 0) (rm3 l Z a0 hw [] b21 r29 u1 (0 : Int32) n zz fs (G2 fs) T29.heap n0 Z29 F30 V29 hz (by decide)) hZ (hw _ (List.mem_of_getElem? (i := 11) rfl)) (hw _ (List.mem_of_getElem? (i := 3) rfl)) (by decide) (by decide)) (g := (mkF m 83 #[.val (.int u0), .val (.int u1), .val (.int zz), .val (.ref b21), .val (.ref r29)] [(.int (0 : Int32)), (.int u1), (.ref r29), (.ref b21)])) rfl (by rw [hml]; rfl) (argsL := [(.ref b21), (.ref r29), (.int u1), (.int (0 : Int32))]) (rest := []) (lenOf pd_3 rfl) rfl (by show 2 * 0 + _ ≤ _; exact Nat.le_of_eq rfl) (hb hby at_83) (fun _ _ => ⟨rfl, rfl, (by decide : 2 + 0 ≤ _), (by decide : 14 + 0 ≤ _)⟩)
  dsimp only [Pt.U, Pt.locs, Pt.cells, Pt.slots] at X31 l31 y31 z31 st31 hQ31
  subst l31 y31 z31
  obtain ⟨rfl, N31q, e31⟩ := hQ31
  have N31 := Fr.app N29 N31q
  refine Goes.of st31 ?_
  show Goes _ _ _ _ _ _ _ (T31.setTop (mkF m 86 #[.val (.int u0), .val (.int u1), .val (.int zz), .val (.ref b21), .val (.ref r29)] [(.int (f3 zz fs (G2 fs) u1 (0 : Int32)))]))
  refine Goes.of (fun t k => XS.ifNo X31.here hx rfl (hb hby at_86) rfl ((if0 _ _).trans (feq (own_ok (by rw [hf_fs]; rfl))).1) k) ?_
  show Goes _ _ _ _ _ _ _ (T31.setTop (mkF m 89 #[.val (.int u0), .val (.int u1), .val (.int zz), .val (.ref b21), .val (.ref r29)] []))
  refine Goes.of (fun t k => XS.aloadN X31.here hx rfl (hb hby at_89) rfl rfl k) ?_
  show Goes _ _ _ _ _ _ _ (T31.setTop (mkF m 90 #[.val (.int u0), .val (.int u1), .val (.int zz), .val (.ref b21), .val (.ref r29)] [(.ref b21)]))
  refine Goes.of (fun t k => XS.aload X31.here hx rfl (hb hby at_90) rfl rfl k) ?_
  show Goes _ _ _ _ _ _ _ (T31.setTop (mkF m 92 #[.val (.int u0), .val (.int u1), .val (.int zz), .val (.ref b21), .val (.ref r29)] [(.ref r29), (.ref b21)]))
  refine Goes.of (fun t k => XS.iloadN X31.here hx rfl (hb hby at_92) rfl k) ?_
  show Goes _ _ _ _ _ _ _ (T31.setTop (mkF m 93 #[.val (.int u0), .val (.int u1), .val (.int zz), .val (.ref b21), .val (.ref r29)] [(.int u1), (.ref r29), (.ref b21)]))
  refine Goes.of (fun t k => XS.iconst X31.here hx rfl (hb hby at_93) k) ?_
  show Goes _ _ _ _ _ _ _ (T31.setTop (mkF m 94 #[.val (.int u0), .val (.int u1), .val (.int zz), .val (.ref b21), .val (.ref r29)] [(.int (1 : Int32)), (.int u1), (.ref r29), (.ref b21)]))
  obtain ⟨_, _, ⟨T32, L32, k32, n32⟩, -, X32, ⟨Lc32, hQ32, l32, y32, z32⟩, st32⟩ := Jvm.LawKit.callS X31 hx (y := (⟨"com/example/network_attack_odds/networkattackodds/engine/GoalGraphNotPinLaw", "ok", "([Z[ZII)Z"⟩ : MethodName)) hown (mvT hZ (hw _ (List.mem_of_getElem? (i := 9) rfl))) (mvT hZ (hw _ (List.mem_of_getElem? (i := 10) rfl))) (mvT hZ (hw _ (List.mem_of_getElem? (i := 3) rfl))) (mvT hZ (hw _ (List.mem_of_getElem? (i := 11) rfl))) (by decide) (backOf (W := 0) (rm3 l Z a0 hw [] b21 r29 u1 (1 : Int32) n zz fs (G2 fs) T29.heap n0 Z29 F30 V29 hz (by decide)) hZ (hw _ (List.mem_of_getElem? (i := 11) rfl)) (hw _ (List.mem_of_getElem? (i := 3) rfl)) (by decide) (by decide)) (g := (mkF m 94 #[.val (.int u0), .val (.int u1), .val (.int zz), .val (.ref b21), .val (.ref r29)] [(.int (1 : Int32)), (.int u1), (.ref r29), (.ref b21)])) rfl (by rw [hml]; rfl) (argsL := [(.ref b21), (.ref r29), (.int u1), (.int (1 : Int32))]) (rest := []) (lenOf pd_3 rfl) rfl (by show 2 * 0 + _ ≤ _; exact Nat.le_of_eq rfl) (hb hby at_94) (fun _ _ => ⟨rfl, e31, (by decide : 2 + 0 ≤ _), (by decide : 14 + 0 ≤ _)⟩)
  dsimp only [Pt.U, Pt.locs, Pt.cells, Pt.slots] at X32 l32 y32 z32 st32 hQ32
  subst l32 y32 z32
  obtain ⟨rfl, N32q, e32⟩ := hQ32
  have N32 := Fr.app N31 N32q
  refine Goes.of st32 ?_
  show Goes _ _ _ _ _ _ _ (T32.setTop (mkF m 97 #[.val (.int u0), .val (.int u1), .val (.int zz), .val (.ref b21), .val (.ref r29)] [(.int (f3 zz fs (G2 fs) u1 (1 : Int32)))]))
  refine Goes.of (fun t k => XS.ifNo X32.here hx rfl (hb hby at_97) rfl ((if0 _ _).trans (feq (own_ok (by rw [hf_fs]; rfl))).1) k) ?_
  show Goes _ _ _ _ _ _ _ (T32.setTop (mkF m 100 #[.val (.int u0), .val (.int u1), .val (.int zz), .val (.ref b21), .val (.ref r29)] []))
  refine Goes.of (fun t k => XS.aloadN X32.here hx rfl (hb hby at_100) rfl rfl k) ?_
  show Goes _ _ _ _ _ _ _ (T32.setTop (mkF m 101 #[.val (.int u0), .val (.int u1), .val (.int zz), .val (.ref b21), .val (.ref r29)] [(.ref b21)]))
  refine Goes.of (fun t k => XS.aload X32.here hx rfl (hb hby at_101) rfl rfl k) ?_
  show Goes _ _ _ _ _ _ _ (T32.setTop (mkF m 103 #[.val (.int u0), .val (.int u1), .val (.int zz), .val (.ref b21), .val (.ref r29)] [(.ref r29), (.ref b21)]))
  refine Goes.of (fun t k => XS.iloadN X32.here hx rfl (hb hby at_103) rfl k) ?_
  show Goes _ _ _ _ _ _ _ (T32.setTop (mkF m 104 #[.val (.int u0), .val (.int u1), .val (.int zz), .val (.ref b21), .val (.ref r29)] [(.int u1), (.ref r29), (.ref b21)]))
  refine Goes.of (fun t k => XS.iconst X32.here hx rfl (hb hby at_104) k) ?_
  show Goes _ _ _ _ _ _ _ (T32.setTop (mkF m 105 #[.val (.int u0), .val (.int u1), .val (.int zz), .val (.ref b21), .val (.ref r29)] [(.int (2 : Int32)), (.int u1), (.ref r29), (.ref b21)]))
  obtain ⟨_, _, ⟨T33, L33, k33, n33⟩, -, X33, ⟨Lc33, hQ33, l33, y33, z33⟩, st33⟩ := Jvm.LawKit.callS X32 hx (y := (⟨"com/example/network_attack_odds/networkattackodds/engine/GoalGraphNotPinLaw", "ok", "([Z[ZII)Z"⟩ : MethodName)) hown (mvT hZ (hw _ (List.mem_of_getElem? (i := 9) rfl))) (mvT hZ (hw _ (List.mem_of_getElem? (i := 10) rfl))) (mvT hZ (hw _ (List.mem_of_getElem? (i := 3) rfl))) (mvT hZ (hw _ (List.mem_of_getElem? (i := 11) rfl))) (by decide) (backOf (W := 0) (rm3 l Z a0 hw [] b21 r29 u1 (2 : Int32) n zz fs (G2 fs) T29.heap n0 Z29 F30 V29 hz (by decide)) hZ (hw _ (List.mem_of_getElem? (i := 11) rfl)) (hw _ (List.mem_of_getElem? (i := 3) rfl)) (by decide) (by decide)) (g := (mkF m 105 #[.val (.int u0), .val (.int u1), .val (.int zz), .val (.ref b21), .val (.ref r29)] [(.int (2 : Int32)), (.int u1), (.ref r29), (.ref b21)])) rfl (by rw [hml]; rfl) (argsL := [(.ref b21), (.ref r29), (.int u1), (.int (2 : Int32))]) (rest := []) (lenOf pd_3 rfl) rfl (by show 2 * 0 + _ ≤ _; exact Nat.le_of_eq rfl) (hb hby at_105) (fun _ _ => ⟨rfl, e32, (by decide : 2 + 0 ≤ _), (by decide : 14 + 0 ≤ _)⟩)
  dsimp only [Pt.U, Pt.locs, Pt.cells, Pt.slots] at X33 l33 y33 z33 st33 hQ33
  subst l33 y33 z33
  obtain ⟨rfl, N33q, e33⟩ := hQ33
  have N33 := Fr.app N32 N33q
  refine Goes.of st33 ?_
  show Goes _ _ _ _ _ _ _ (T33.setTop (mkF m 108 #[.val (.int u0), .val (.int u1), .val (.int zz), .val (.ref b21), .val (.ref r29)] [(.int (f3 zz fs (G2 fs) u1 (2 : Int32)))]))
  refine Goes.of (fun t k => XS.ifNo X33.here hx rfl (hb hby at_108) rfl ((if0 _ _).trans (feq (own_ok (by rw [hf_fs]; rfl))).1) k) ?_
  show Goes _ _ _ _ _ _ _ (T33.setTop (mkF m 111 #[.val (.int u0), .val (.int u1), .val (.int zz), .val (.ref b21), .val (.ref r29)] []))
  refine Goes.of (fun t k => XS.aloadN X33.here hx rfl (hb hby at_111) rfl rfl k) ?_
  show Goes _ _ _ _ _ _ _ (T33.setTop (mkF m 112 #[.val (.int u0), .val (.int u1), .val (.int zz), .val (.ref b21), .val (.ref r29)] [(.ref b21)]))
  refine Goes.of (fun t k => XS.aload X33.here hx rfl (hb hby at_112) rfl rfl k) ?_
  show Goes _ _ _ _ _ _ _ (T33.setTop (mkF m 114 #[.val (.int u0), .val (.int u1), .val (.int zz), .val (.ref b21), .val (.ref r29)] [(.ref r29), (.ref b21)]))
  refine Goes.of (fun t k => XS.iloadN X33.here hx rfl (hb hby at_114) rfl k) ?_
  show Goes _ _ _ _ _ _ _ (T33.setTop (mkF m 115 #[.val (.int u0), .val (.int u1), .val (.int zz), .val (.ref b21), .val (.ref r29)] [(.int u1), (.ref r29), (.ref b21)]))
  refine Goes.of (fun t k => XS.iconst X33.here hx rfl (hb hby at_115) k) ?_
  show Goes _ _ _ _ _ _ _ (T33.setTop (mkF m 116 #[.val (.int u0), .val (.int u1), .val (.int zz), .val (.ref b21), .val (.ref r29)] [(.int (3 : Int32)), (.int u1), (.ref r29), (.ref b21)]))
  obtain ⟨_, _, ⟨T34, L34, k34, n34⟩, -, X34, ⟨Lc34, hQ34, l34, y34, z34⟩, st34⟩ := Jvm.LawKit.callS X33 hx (y := (⟨"com/example/network_attack_odds/networkattackodds/engine/GoalGraphNotPinLaw", "ok", "([Z[ZII)Z"⟩ : MethodName)) hown (mvT hZ (hw _ (List.mem_of_getElem? (i := 9) rfl))) (mvT hZ (hw _ (List.mem_of_getElem? (i := 10) rfl))) (mvT hZ (hw _ (List.mem_of_getElem? (i := 3) rfl))) (mvT hZ (hw _ (List.mem_of_getElem? (i := 11) rfl))) (by decide) (backOf (W := 0) (rm3 l Z a0 hw [] b21 r29 u1 (3 : Int32) n zz fs (G2 fs) T29.heap n0 Z29 F30 V29 hz (by decide)) hZ (hw _ (List.mem_of_getElem? (i := 11) rfl)) (hw _ (List.mem_of_getElem? (i := 3) rfl)) (by decide) (by decide)) (g := (mkF m 116 #[.val (.int u0), .val (.int u1), .val (.int zz), .val (.ref b21), .val (.ref r29)] [(.int (3 : Int32)), (.int u1), (.ref r29), (.ref b21)])) rfl (by rw [hml]; rfl) (argsL := [(.ref b21), (.ref r29), (.int u1), (.int (3 : Int32))]) (rest := []) (lenOf pd_3 rfl) rfl (by show 2 * 0 + _ ≤ _; exact Nat.le_of_eq rfl) (hb hby at_116) (fun _ _ => ⟨rfl, e33, (by decide : 2 + 0 ≤ _), (by decide : 14 + 0 ≤ _)⟩)
  dsimp only [Pt.U, Pt.locs, Pt.cells, Pt.slots] at X34 l34 y34 z34 st34 hQ34
  subst l34 y34 z34
  obtain ⟨rfl, N34q, e34⟩ := hQ34
  have N34 := Fr.app N33 N34q
  refine Goes.of st34 ?_
  show Goes _ _ _ _ _ _ _ (T34.setTop (mkF m 119 #[.val (.int u0), .val (.int u1), .val (.int zz), .val (.ref b21), .val (.ref r29)] [(.int (f3 zz fs (G2 fs) u1 (3 : Int32)))]))
  refine Goes.of (fun t k => XS.ifNo X34.here hx rfl (hb hby at_119) rfl ((if0 _ _).trans (feq (own_ok (by rw [hf_fs]; rfl))).1) k) ?_
  show Goes _ _ _ _ _ _ _ (T34.setTop (mkF m 122 #[.val (.int u0), .val (.int u1), .val (.int zz), .val (.ref b21), .val (.ref r29)] []))
  refine Goes.of (fun t k => XS.aloadN X34.here hx rfl (hb hby at_122) rfl rfl k) ?_
  show Goes _ _ _ _ _ _ _ (T34.setTop (mkF m 123 #[.val (.int u0), .val (.int u1), .val (.int zz), .val (.ref b21), .val (.ref r29)] [(.ref b21)]))
  refine Goes.of (fun t k => XS.aload X34.here hx rfl (hb hby at_123) rfl rfl k) ?_
  show Goes _ _ _ _ _ _ _ (T34.setTop (mkF m 125 #[.val (.int u0), .val (.int u1), .val (.int zz), .val (.ref b21), .val (.ref r29)] [(.ref r29), (.ref b21)]))
  refine Goes.of (fun t k => XS.iloadN X34.here hx rfl (hb hby at_125) rfl k) ?_
  show Goes _ _ _ _ _ _ _ (T34.setTop (mkF m 126 #[.val (.int u0), .val (.int u1), .val (.int zz), .val (.ref b21), .val (.ref r29)] [(.int u1), (.ref r29), (.ref b21)]))
  refine Goes.of (fun t k => XS.iconst X34.here hx rfl (hb hby at_126) k) ?_
  show Goes _ _ _ _ _ _ _ (T34.setTop (mkF m 127 #[.val (.int u0), .val (.int u1), .val (.int zz), .val (.ref b21), .val (.ref r29)] [(.int (4 : Int32)), (.int u1), (.ref r29), (.ref b21)]))
  obtain ⟨_, _, ⟨T35, L35, k35, n35⟩, -, X35, ⟨Lc35, hQ35, l35, y35, z35⟩, st35⟩ := Jvm.LawKit.callS X34 hx (y := (⟨"com/example/network_attack_odds/networkattackodds/engine/GoalGraphNotPinLaw", "ok", "([Z[ZII)Z"⟩ : MethodName)) hown (mvT hZ (hw _ (List.mem_of_getElem? (i := 9) rfl))) (mvT hZ (hw _ (List.mem_of_getElem? (i := 10) rfl))) (mvT hZ (hw _ (List.mem_of_getElem? (i := 3) rfl))) (mvT hZ (hw _ (List.mem_of_getElem? (i := 11) rfl))) (by decide) (backOf (W := 0) (rm3 l Z a0 hw [] b21 r29 u1 (4 : Int32) n zz fs (G2 fs) T29.heap n0 Z29 F30 V29 hz (by decide)) hZ (hw _ (List.mem_of_getElem? (i := 11) rfl)) (hw _ (List.mem_of_getElem? (i := 3) rfl)) (by decide) (by decide)) (g := (mkF m 127 #[.val (.int u0), .val (.int u1), .val (.int zz), .val (.ref b21), .val (.ref r29)] [(.int (4 : Int32)), (.int u1), (.ref r29), (.ref b21)])) rfl (by rw [hml]; rfl) (argsL := [(.ref b21), (.ref r29), (.int u1), (.int (4 : Int32))]) (rest := []) (lenOf pd_3 rfl) rfl (by show 2 * 0 + _ ≤ _; exact Nat.le_of_eq rfl) (hb hby at_127) (fun _ _ => ⟨rfl, e34, (by decide : 2 + 0 ≤ _), (by decide : 14 + 0 ≤ _)⟩)
  dsimp only [Pt.U, Pt.locs, Pt.cells, Pt.slots] at X35 l35 y35 z35 st35 hQ35
  subst l35 y35 z35
  obtain ⟨rfl, N35q, e35⟩ := hQ35
  have N35 := Fr.app N34 N35q
  refine Goes.of st35 ?_
  show Goes _ _ _ _ _ _ _ (T35.setTop (mkF m 130 #[.val (.int u0), .val (.int u1), .val (.int zz), .val (.ref b21), .val (.ref r29)] [(.int (f3 zz fs (G2 fs) u1 (4 : Int32)))]))
  refine Goes.of (fun t k => XS.ifNo X35.here hx rfl (hb hby at_130) rfl ((if0 _ _).trans (feq (own_ok (by rw [hf_fs]; rfl))).1) k) ?_
  show Goes _ _ _ _ _ _ _ (T35.setTop (mkF m 133 #[.val (.int u0), .val (.int u1), .val (.int zz), .val (.ref b21), .val (.ref r29)] []))
  refine Goes.of (fun t k => XS.aloadN X35.here hx rfl (hb hby at_133) rfl rfl k) ?_
  show Goes _ _ _ _ _ _ _ (T35.setTop (mkF m 134 #[.val (.int u0), .val (.int u1), .val (.int zz), .val (.ref b21), .val (.ref r29)] [(.ref b21)]))
  refine Goes.of (fun t k => XS.aload X35.here hx rfl (hb hby at_134) rfl rfl k) ?_
  show Goes _ _ _ _ _ _ _ (T35.setTop (mkF m 136 #[.val (.int u0), .val (.int u1), .val (.int zz), .val (.ref b21), .val (.ref r29)] [(.ref r29), (.ref b21)]))
  refine Goes.of (fun t k => XS.iloadN X35.here hx rfl (hb hby at_136) rfl k) ?_
  show Goes _ _ _ _ _ _ _ (T35.setTop (mkF m 137 #[.val (.int u0), .val (.int u1), .val (.int zz), .val (.ref b21), .val (.ref r29)] [(.int u1), (.ref r29), (.ref b21)]))
  refine Goes.of (fun t k => XS.iconst X35.here hx rfl (hb hby at_137) k) ?_
  show Goes _ _ _ _ _ _ _ (T35.setTop (mkF m 138 #[.val (.int u0), .val (.int u1), .val (.int zz), .val (.ref b21), .val (.ref r29)] [(.int (5 : Int32)), (.int u1), (.ref r29), (.ref b21)]))
  obtain ⟨_, _, ⟨T36, L36, k36, n36⟩, -, X36, ⟨Lc36, hQ36, l36, y36, z36⟩, st36⟩ := Jvm.LawKit.callS X35 hx (y := (⟨"com/example/network_attack_odds/networkattackodds/engine/GoalGraphNotPinLaw", "ok", "([Z[ZII)Z"⟩ : MethodName)) hown (mvT hZ (hw _ (List.mem_of_getElem? (i := 9) rfl))) (mvT hZ (hw _ (List.mem_of_getElem? (i := 10) rfl))) (mvT hZ (hw _ (List.mem_of_getElem? (i := 3) rfl))) (mvT hZ (hw _ (List.mem_of_getElem? (i := 11) rfl))) (by decide) (backOf (W := 0) (rm3 l Z a0 hw [] b21 r29 u1 (5 : Int32) n zz fs (G2 fs) T29.heap n0 Z29 F30 V29 hz (by decide)) hZ (hw _ (List.mem_of_getElem? (i := 11) rfl)) (hw _ (List.mem_of_getElem? (i := 3) rfl)) (by decide) (by decide)) (g := (mkF m 138 #[.val (.int u0), .val (.int u1), .val (.int zz), .val (.ref b21), .val (.ref r29)] [(.int (5 : Int32)), (.int u1), (.ref r29), (.ref b21)])) rfl (by rw [hml]; rfl) (argsL := [(.ref b21), (.ref r29), (.int u1), (.int (5 : Int32))]) (rest := []) (lenOf pd_3 rfl) rfl (by show 2 * 0 + _ ≤ _; exact Nat.le_of_eq rfl) (hb hby at_138) (fun _ _ => ⟨rfl, e35, (by decide : 2 + 0 ≤ _), (by decide : 14 + 0 ≤ _)⟩)
  dsimp only [Pt.U, Pt.locs, Pt.cells, Pt.slots] at X36 l36 y36 z36 st36 hQ36
  subst l36 y36 z36
  obtain ⟨rfl, N36q, e36⟩ := hQ36
  have N36 := Fr.app N35 N36q
  refine Goes.of st36 ?_
  show Goes _ _ _ _ _ _ _ (T36.setTop (mkF m 141 #[.val (.int u0), .val (.int u1), .val (.int zz), .val (.ref b21), .val (.ref r29)] [(.int (f3 zz fs (G2 fs) u1 (5 : Int32)))]))
  refine Goes.of (fun t k => XS.ifNo X36.here hx rfl (hb hby at_141) rfl ((if0 _ _).trans (feq (own_ok (by rw [hf_fs]; rfl))).1) k) ?_
  show Goes _ _ _ _ _ _ _ (T36.setTop (mkF m 144 #[.val (.int u0), .val (.int u1), .val (.int zz), .val (.ref b21), .val (.ref r29)] []))
  refine Goes.of (fun t k => XS.aloadN X36.here hx rfl (hb hby at_144) rfl rfl k) ?_
  show Goes _ _ _ _ _ _ _ (T36.setTop (mkF m 145 #[.val (.int u0), .val (.int u1), .val (.int zz), .val (.ref b21), .val (.ref r29)] [(.ref b21)]))
  refine Goes.of (fun t k => XS.aload X36.here hx rfl (hb hby at_145) rfl rfl k) ?_
  show Goes _ _ _ _ _ _ _ (T36.setTop (mkF m 147 #[.val (.int u0), .val (.int u1), .val (.int zz), .val (.ref b21), .val (.ref r29)] [(.ref r29), (.ref b21)]))
  refine Goes.of (fun t k => XS.iloadN X36.here hx rfl (hb hby at_147) rfl k) ?_
  show Goes _ _ _ _ _ _ _ (T36.setTop (mkF m 148 #[.val (.int u0), .val (.int u1), .val (.int zz), .val (.ref b21), .val (.ref r29)] [(.int u1), (.ref r29), (.ref b21)]))
  refine Goes.of (fun t k => XS.bipush X36.here hx rfl (hb hby at_148) k) ?_
  show Goes _ _ _ _ _ _ _ (T36.setTop (mkF m 150 #[.val (.int u0), .val (.int u1), .val (.int zz), .val (.ref b21), .val (.ref r29)] [(.int (6 : Int32)), (.int u1), (.ref r29), (.ref b21)]))
  obtain ⟨_, _, ⟨T37, L37, k37, n37⟩, -, X37, ⟨Lc37, hQ37, l37, y37, z37⟩, st37⟩ := Jvm.LawKit.callS X36 hx (y := (⟨"com/example/network_attack_odds/networkattackodds/engine/GoalGraphNotPinLaw", "ok", "([Z[ZII)Z"⟩ : MethodName)) hown (mvT hZ (hw _ (List.mem_of_getElem? (i := 9) rfl))) (mvT hZ (hw _ (List.mem_of_getElem? (i := 10) rfl))) (mvT hZ (hw _ (List.mem_of_getElem? (i := 3) rfl))) (mvT hZ (hw _ (List.mem_of_getElem? (i := 11) rfl))) (by decide) (backOf (W := 0) (rm3 l Z a0 hw [] b21 r29 u1 (6 : Int32) n zz fs (G2 fs) T29.heap n0 Z29 F30 V29 hz (by decide)) hZ (hw _ (List.mem_of_getElem? (i := 11) rfl)) (hw _ (List.mem_of_getElem? (i := 3) rfl)) (by decide) (by decide)) (g := (mkF m 150 #[.val (.int u0), .val (.int u1), .val (.int zz), .val (.ref b21), .val (.ref r29)] [(.int (6 : Int32)), (.int u1), (.ref r29), (.ref b21)])) rfl (by rw [hml]; rfl) (argsL := [(.ref b21), (.ref r29), (.int u1), (.int (6 : Int32))]) (rest := []) (lenOf pd_3 rfl) rfl (by show 2 * 0 + _ ≤ _; exact Nat.le_of_eq rfl) (hb hby at_150) (fun _ _ => ⟨rfl, e36, (by decide : 2 + 0 ≤ _), (by decide : 14 + 0 ≤ _)⟩)
  dsimp only [Pt.U, Pt.locs, Pt.cells, Pt.slots] at X37 l37 y37 z37 st37 hQ37
  subst l37 y37 z37
  obtain ⟨rfl, N37q, e37⟩ := hQ37
  have N37 := Fr.app N36 N37q
  refine Goes.of st37 ?_
  show Goes _ _ _ _ _ _ _ (T37.setTop (mkF m 153 #[.val (.int u0), .val (.int u1), .val (.int zz), .val (.ref b21), .val (.ref r29)] [(.int (f3 zz fs (G2 fs) u1 (6 : Int32)))]))
  refine Goes.of (fun t k => XS.ifNo X37.here hx rfl (hb hby at_153) rfl ((if0 _ _).trans (feq (own_ok (by rw [hf_fs]; rfl))).1) k) ?_
  show Goes _ _ _ _ _ _ _ (T37.setTop (mkF m 156 #[.val (.int u0), .val (.int u1), .val (.int zz), .val (.ref b21), .val (.ref r29)] []))
  refine Goes.of (fun t k => XS.iconst X37.here hx rfl (hb hby at_156) k) ?_
  show Goes _ _ _ _ _ _ _ (T37.setTop (mkF m 157 #[.val (.int u0), .val (.int u1), .val (.int zz), .val (.ref b21), .val (.ref r29)] [(.int (1 : Int32))]))
  refine Goes.of (fun t k => XS.goto X37.here hx rfl (pc0 := 157) (pc' := 161) rfl (hb hby at_157) (by decide) (by decide) k) ?_
  show Goes _ _ _ _ _ _ _ (T37.setTop (mkF m 161 #[.val (.int u0), .val (.int u1), .val (.int zz), .val (.ref b21), .val (.ref r29)] [(.int (1 : Int32))]))
  exact Goes.fin X37 hlk (v := some (.int (1 : Int32))) (fun h => by rw [Bd.returns] at h; cases h) (fun fs hr => retN X37 hx (t := .boolean) Bd.returns (by simp) (hb hby at_161) hr) ⟨rfl, N37⟩ (by decide) (by decide)
set_option maxRecDepth 65536 in
set_option maxHeartbeats 40000000 in
theorem comes_1 {Post : Tables → Env → Array Value → State → Outcome → State → Prop} (hpost : ∀ tb e args s v u, (limb_1_1.after args s (.returned v) u = true ∧ limb_1_2.after args s (.returned v) u = true ∧ True) → FrameEnd s (.returned v) u (Jvm.fieldLocs frame_1_writes args s ++ Jvm.arrayLocs frame_1_arrays args s ++ Jvm.staticLocs frame_1_statics s) 16 128 → Post tb e args s (.returned v) u) :
    ArmFor flags0 classFile x code maxLocals ret World_1 tables_1 room_1 Calls_1 rest_1 Pre_1 Post := by
  intro l hfl _ _ p e ha hc hk s m args below hf hA hF happ hP
  obtain ⟨hcalls, hrest, hpre⟩ := hP
  obtain ⟨-, -, -, hnamed, -, -, -, hat⟩ := (Spec.applies_iff hf).mp happ
  obtain ⟨hg, hn⟩ := and_e (Cond.before_iff.mp (show (Jvm.Cond.and given_1 narrow_1).before args s = true from hpre))
  obtain ⟨g38, g39⟩ := and_e hg
  obtain ⟨g40, g41⟩ := and_e g39
  obtain ⟨w0, w1, rfl⟩ : ∃ w0 w1 : Value, args = #[w0, w1] := by
    have hs : args.size = 2 := by simpa [Cond.value, given_1] using g38
    obtain ⟨L⟩ := args
    match L, hs with
    | [w0, w1], _ => exact ⟨w0, w1, rfl⟩
  have hw := fun d (hd : d ∈ tables_1) => atoms_spec (ws := Jvm.Cond.code x code maxLocals ret :: tables_1) hat d (List.mem_cons_of_mem _ hd)
  obtain ⟨i0, ei0⟩ := is_v g40
  obtain rfl : w0 = (.int i0) := Option.some.inj ei0
  obtain ⟨i1, ei1⟩ := is_v g41
  obtain rfl : w1 = (.int i1) := Option.some.inj ei1
  obtain ⟨n, o, h1, h2, h3, _, L, rfl, ⟨rfl, N⟩, hq⟩ := rm0 l s _ hw tables_1 i0 i1 s.heap s.heap.size (Nat.le_refl _) p e ha hc hk s m _ below hf ((Spec.applies_iff_loose hf).mp happ).1 ⟨rfl, State.Warmed39.refl s, rfl⟩ trivial
  exact ⟨n, _, h1, h2, h3, hpost _ _ _ _ _ _ ⟨Cond.after_iff.mpr rfl, Cond.after_iff.mpr (eq_i res_at (Term.int_eval (1)) rfl), trivial⟩ ⟨hq.1, hq.2.1, (hq.2.2.sift fun y hy => Or.inr (N y hy)).mono (by decide) (by decide)⟩⟩
theorem main_1_1 : Claimed_1_1 := comes_1 fun _ _ _ _ _ _ h hF => ⟨h.1, hF⟩
theorem main_1_2 : Claimed_1_2 := comes_1 fun _ _ _ _ _ _ h hF => ⟨h.2.1, hF⟩
end Jvm.Pilot.@@N@@
namespace Jvm.Pilot.@@N@@
open Jvm Jvm.ClassFile Sem Op Lib Jvm.Free Jvm.Stand Jvm.Pilot.@@N@@.Jvm.D
/-! MADE BY PROGRAM (witnessworld.py) out of the Statement's table words and the real class files: 11 classes; the members and pool entries that the words name. The judged class is class 1, her method 1. -/
namespace start1
open Jvm.ClassFile
def u (s : String) : CpInfo := .utf8 (stringToUtf16 s)
/-- a pool by its gaps: so many unusable entries, then the entry; so many at the end -/
def gap : Nat → List CpInfo → List CpInfo
  | 0, r => r
  | n + 1, r => .unusable :: gap n r
def poolList (es : List (Nat × CpInfo)) (last : Nat) : List CpInfo := es.foldr (fun e r => gap e.1 (e.2 :: r)) (gap last [])
def pool (es : List (Nat × CpInfo)) (last : Nat) : Array CpInfo := ⟨poolList es last⟩
def fileOf (pool : Array CpInfo) (this : Nat) (attrs : Array Attribute := #[]) (ms : Array MethodInfo := #[]) (fl : Nat := 33) (sup : Nat := 0) (ifs : Array Nat := #[]) (fds : Array FieldInfo := #[]) : ClassFile where
  minorVersion := 0
  majorVersion := 65
  constantPool := pool
  accessFlags := fl
  thisClass := this
  superClass := sup
  interfaces := ifs
  fields := fds
  methods := ms
  attributes := attrs
def plain (name : String) (sup : Option ClassId) : Class where
  name := name
  kind := .ordinary
  loader := none
  accessFlags := 33
  super := sup
  interfaces := #[]
  cf := none
  fields := #[]
  methods := #[]
  instanceTypes := #[]
  staticTypes := #[]
  resolved := #[]
  callSites := []
  init := .initialized
  statics := none
  mirror := none

def pool0 : Array CpInfo := pool [(5, u "<init>"), (0, u "()V"), (1, .class_ 10), (1, u "java/lang/Object")] 113

def k0m0 : Method := { name := "<init>", desc := "()V", sig := { parameters := [], returnType := none }, accessFlags := 1, code := none }
/-- java/lang/Object -/
def k0 : Class := { plain "java/lang/Object" none with
  accessFlags := 33
  interfaces := #[]
  cf := some (fileOf pool0 8 #[] #[{ accessFlags := 1, nameIndex := 5, descriptorIndex := 6, attributes := #[] }] 33 0 #[] #[])
  fields := #[]
  methods := #[k0m0]
  instanceTypes := #[]
  staticTypes := #[]
  resolved := Array.replicate 124 none
  statics := none }

def pool1 : Array CpInfo := pool [(2, .class_ 4), (1, u "java/lang/Object"), (0, u "<init>"), (0, u "()V"), (0, .methodref 8 9), (0, .class_ 10), (0, .nameAndType 11 12), (0, u "com/example/network_attack_odds/networkattackodds/engine/GoalGraphNotPinLaw"), (0, u "fill"), (0, u "([ZII)V"), (0, .methodref 14 15), (0, .class_ 16), (0, .nameAndType 17 18), (0, u "com/example/network_attack_odds/networkattackodds/engine/GoalGraph"), (0, u "not"), (0, u "([Z)[Z"), (0, .methodref 8 20), (0, .nameAndType 21 22), (0, u "ok"), (0, u "([Z[ZII)Z"), (0, .methodref 8 24), (0, .nameAndType 25 26), (0, u "bit"), (0, u "(II)Z"), (2, u "law")] 5

def k1m0 : Method := { name := "<init>", desc := "()V", sig := { parameters := [], returnType := none }, accessFlags := 1, code := none }
def k1c1 : Code := { maxStack := 4, maxLocals := 5, code := code, exceptionTable := #[], attributes := #[] }
def k1m1 : Method := { name := "law", desc := "(II)Z", sig := { parameters := [.int, .int], returnType := some .boolean }, accessFlags := 9, code := some k1c1 }
def k1c2 : Code := { maxStack := 2, maxLocals := 2, code := method_3_code, exceptionTable := #[], attributes := #[] }
def k1m2 : Method := { name := "bit", desc := "(II)Z", sig := { parameters := [.int, .int], returnType := some .boolean }, accessFlags := 10, code := some k1c2 }
def k1c3 : Code := { maxStack := 4, maxLocals := 3, code := method_4_code, exceptionTable := #[], attributes := #[] }
def k1m3 : Method := { name := "fill", desc := "([ZII)V", sig := { parameters := [(.array .boolean), .int, .int], returnType := none }, accessFlags := 10, code := some k1c3 }
def k1c4 : Code := { maxStack := 3, maxLocals := 4, code := method_5_code, exceptionTable := #[], attributes := #[] }
def k1m4 : Method := { name := "ok", desc := "([Z[ZII)Z", sig := { parameters := [(.array .boolean), (.array .boolean), .int, .int], returnType := some .boolean }, accessFlags := 10, code := some k1c4 }
/-- com/example/network_attack_odds/networkattackodds/engine/GoalGraphNotPinLaw -/
def k1 : Class := { plain "com/example/network_attack_odds/networkattackodds/engine/GoalGraphNotPinLaw" (some 0) with
  accessFlags := 49
  interfaces := #[]
  cf := some (fileOf pool1 8 #[] #[{ accessFlags := 1, nameIndex := 5, descriptorIndex := 6, attributes := #[] }, { accessFlags := 9, nameIndex := 29, descriptorIndex := 26, attributes := #[] }, { accessFlags := 10, nameIndex := 25, descriptorIndex := 26, attributes := #[] }, { accessFlags := 10, nameIndex := 11, descriptorIndex := 12, attributes := #[] }, { accessFlags := 10, nameIndex := 21, descriptorIndex := 22, attributes := #[] }] 49 2 #[] #[])
  fields := #[]
  methods := #[k1m0, k1m1, k1m2, k1m3, k1m4]
  instanceTypes := #[]
  staticTypes := #[]
  resolved := Array.replicate 35 none
  statics := none }

def pool2 : Array CpInfo := pool [(2, .class_ 4), (1, u "java/lang/Object"), (3, .class_ 10), (1, u "com/example/network_attack_odds/networkattackodds/engine/GoalGraph"), (0, u "space"), (0, u "Lcom/example/network_attack_odds/networkattackodds/engine/StateSpace;"), (8, u "starts"), (0, u "[I"), (9, u "sources"), (2, u "sourceChoices"), (41, u "not"), (0, u "([Z)[Z")] 53

def k2c0 : Code := { maxStack := 4, maxLocals := 3, code := prog_34_method_14_code, exceptionTable := #[], attributes := #[] }
def k2m0 : Method := { name := "not", desc := "([Z)[Z", sig := { parameters := [(.array .boolean)], returnType := some (.array .boolean) }, accessFlags := 8, code := some k2c0 }
/-- com/example/network_attack_odds/networkattackodds/engine/GoalGraph -/
def k2 : Class := { plain "com/example/network_attack_odds/networkattackodds/engine/GoalGraph" (some 0) with
  accessFlags := 32
  interfaces := #[]
  cf := some (fileOf pool2 8 #[] #[{ accessFlags := 8, nameIndex := 77, descriptorIndex := 78, attributes := #[] }] 32 2 #[] #[{ accessFlags := 18, nameIndex := 11, descriptorIndex := 12, attributes := #[] }, { accessFlags := 18, nameIndex := 21, descriptorIndex := 22, attributes := #[] }, { accessFlags := 18, nameIndex := 32, descriptorIndex := 22, attributes := #[] }, { accessFlags := 18, nameIndex := 35, descriptorIndex := 22, attributes := #[] }])
  fields := #[{ name := "space", type := (.object "com/example/network_attack_odds/networkattackodds/engine/StateSpace"), accessFlags := 18, slot := 0, constantValue := 0 }, { name := "starts", type := (.array .int), accessFlags := 18, slot := 1, constantValue := 0 }, { name := "sources", type := (.array .int), accessFlags := 18, slot := 2, constantValue := 0 }, { name := "sourceChoices", type := (.array .int), accessFlags := 18, slot := 3, constantValue := 0 }]
  methods := #[k2m0]
  instanceTypes := #[(.object "com/example/network_attack_odds/networkattackodds/engine/StateSpace"), (.array .int), (.array .int), (.array .int)]
  staticTypes := #[]
  resolved := Array.replicate 132 none
  statics := none }

def pool3 : Array CpInfo := pool [(1, u "java/lang/Cloneable"), (0, .class_ 1), (0, u "java/lang/Object"), (0, .class_ 3)] 3

/-- java/lang/Cloneable -/
def k3 : Class := { plain "java/lang/Cloneable" (some 0) with
  accessFlags := 1537
  interfaces := #[]
  cf := some (fileOf pool3 2 #[] #[] 1537 4 #[] #[])
  fields := #[]
  methods := #[]
  instanceTypes := #[]
  staticTypes := #[]
  resolved := Array.replicate 8 none
  statics := none }

def pool4 : Array CpInfo := pool [(1, u "java/io/Serializable"), (0, .class_ 1), (0, u "java/lang/Object"), (0, .class_ 3)] 3

/-- java/io/Serializable -/
def k4 : Class := { plain "java/io/Serializable" (some 0) with
  accessFlags := 1537
  interfaces := #[]
  cf := some (fileOf pool4 2 #[] #[] 1537 4 #[] #[])
  fields := #[]
  methods := #[]
  instanceTypes := #[]
  staticTypes := #[]
  resolved := Array.replicate 8 none
  statics := none }

/-- the primitive boolean -/
def k5 : Class := { plain "boolean" none with kind := .primitive 'Z', accessFlags := 0x411 }
/-- [Z -/
def k6 : Class := { plain "[Z" (some 0) with kind := .array 5 .boolean, interfaces := #[3, 4], accessFlags := 1041 }

/-- the primitive byte -/
def k7 : Class := { plain "byte" none with kind := .primitive 'B', accessFlags := 0x411 }
/-- [B -/
def k8 : Class := { plain "[B" (some 0) with kind := .array 7 .byte, interfaces := #[3, 4], accessFlags := 1041 }

/-- the primitive int -/
def k9 : Class := { plain "int" none with kind := .primitive 'I', accessFlags := 0x411 }
/-- [I -/
def k10 : Class := { plain "[I" (some 0) with kind := .array 9 .int, interfaces := #[3, 4], accessFlags := 1041 }

def heap : Heap := #[]
def classes : Array Class := #[k0, k1, k2, k3, k4, k5, k6, k7, k8, k9, k10]
def interned : List (Array UInt16 × Addr) := []
def slotsUsed : Nat := 0
def theMethod : MethodId := ⟨1, 1⟩
def args0 : Array Value := #[.int 5, .int 7]
def aboutOver (below : List Frame) : State where
  vm := { classes := classes, interned := interned.toArray }
  heap := heap
  slotsUsed := slotsUsed
  threads := #[{ frames := .invoking theMethod args0 :: below }]
def below0 : List Frame := [.native { method := ⟨0, 0⟩, args := #[] }]
def about1 : State := aboutOver below0
def p0 : Program := .bare "" "" ""
def e0 : Env := launch0.env 0 0 0
theorem w_frames : about1.frames = Frame.invoking theMethod args0 :: below0 := rfl
set_option maxRecDepth 65536 in
theorem w_args : argsFit about1.vm theMethod args0 = true := by decide +kernel
set_option maxRecDepth 65536 in
theorem w_heap : heapFits about1 = true := by decide +kernel
set_option maxRecDepth 65536 in
theorem w_runnable : about1.curStatus? = some .runnable := by decide +kernel
set_option maxRecDepth 65536 in
theorem w_alone : about1.alone = true := by decide +kernel
set_option maxRecDepth 65536 in
theorem w_named : about1.methodNamed? x = some theMethod := by decide +kernel
set_option maxRecDepth 65536 in
theorem w_hears : about1.hears theMethod below0 = true := by decide +kernel
set_option maxRecDepth 65536 in
theorem w_ripe : about1.ripe theMethod args0 below0 = true := by decide +kernel
theorem w_running : about1.status = .running := rfl
set_option maxRecDepth 65536 in
theorem w_room : about1.hasRoom e0.platform room_1 = true :=
  launch0.hasRoom_least _ room_1 (by decide +kernel) (by decide +kernel) (by decide +kernel) (by decide +kernel) (by decide +kernel) (by decide +kernel)
theorem allAtoms_all (ts : List Jvm.Cond) (a : Array Jvm.Value) (st : Jvm.State) : (allAtoms ts).before a st = ts.all (fun c => c.before a st) := by
  induction ts with
  | nil => rfl
  | cons c t ih =>
    show (Jvm.Cond.and c (allAtoms t)).before a st = _
    rw [Jvm.Cond.before_and, ih, List.all_cons]
def words1 : List Jvm.Cond := Jvm.Cond.code x code maxLocals ret :: tables_1
/-- a 'code' word, met by the world's own term for the bytes: nothing is compared byte by byte -/
theorem code_word {y : MethodName} {bytes : ByteArray} {mx : Nat} {rt : Option FieldType} {a : Array Value} {s : State} {m : MethodId} {meth : Method} {c : Code} (h1 : s.methodNamed? y = some m) (h2 : s.vm.method? m = some meth) (h3 : meth.code = some c) (h4 : c.code = bytes)
    (h5 : (c.maxLocals == mx && c.exceptionTable.isEmpty && decide (c.maxStack ≤ mostOperands) && decide (meth.sig.returnType = rt) && !meth.locks && decide (parseMethodDescriptor y.desc = some meth.sig)) = true) : (Jvm.Cond.code y bytes mx rt).before a s = true := by
  simp only [Bool.and_eq_true, beq_iff_eq, Bool.not_eq_true', decide_eq_true_eq] at h5
  obtain ⟨⟨⟨⟨⟨g1, g2⟩, g3⟩, g4⟩, g5⟩, g6⟩ := h5
  simp [Cond.before, Cond.holds, Cond.value, h1, h2, h3, h4, g1, g2, g3, g4, g5, g6]
def isCode : Jvm.Cond → Bool
  | .code _ _ _ _ => true
  | _ => false
theorem all_split {L : List Jvm.Cond} {P : Jvm.Cond → Bool} (h1 : L.all (fun c => isCode c || P c) = true) (h2 : ∀ c ∈ L.filter isCode, P c = true) : L.all P = true := by
  refine List.all_eq_true.mpr fun c hc => ?_
  have h := List.all_eq_true.mp h1 c hc
  rcases Bool.eq_false_or_eq_true (isCode c) with hi | hi
  · exact h2 c (List.mem_filter.mpr ⟨hc, hi⟩)
  · simpa [hi] using h
set_option maxRecDepth 65536 in
theorem w_c0 : (Jvm.Cond.code x code maxLocals ret).before args0 about1 = true := code_word (m := ⟨1, 1⟩) (meth := k1m1) (c := k1c1) (by decide +kernel) rfl rfl rfl (by decide +kernel)
set_option maxRecDepth 65536 in
theorem w_c1 : (Jvm.Cond.code ({ cls := "com/example/network_attack_odds/networkattackodds/engine/GoalGraphNotPinLaw", name := "fill", desc := "([ZII)V" } : Jvm.MethodName) method_4_code (3 : Nat) (Option.none : Option Jvm.ClassFile.FieldType)).before args0 about1 = true := code_word (m := ⟨1, 3⟩) (meth := k1m3) (c := k1c3) (by decide +kernel) rfl rfl rfl (by decide +kernel)
set_option maxRecDepth 65536 in
theorem w_c2 : (Jvm.Cond.code ({ cls := "com/example/network_attack_odds/networkattackodds/engine/GoalGraph", name := "not", desc := "([Z)[Z" } : Jvm.MethodName) prog_34_method_14_code (3 : Nat) (Option.some (Jvm.ClassFile.FieldType.array Jvm.ClassFile.FieldType.boolean))).before args0 about1 = true := code_word (m := ⟨2, 0⟩) (meth := k2m0) (c := k2c0) (by decide +kernel) rfl rfl rfl (by decide +kernel)
set_option maxRecDepth 65536 in
theorem w_c3 : (Jvm.Cond.code ({ cls := "com/example/network_attack_odds/networkattackodds/engine/GoalGraphNotPinLaw", name := "ok", desc := "([Z[ZII)Z" } : Jvm.MethodName) method_5_code (4 : Nat) (Option.some Jvm.ClassFile.FieldType.boolean)).before args0 about1 = true := code_word (m := ⟨1, 4⟩) (meth := k1m4) (c := k1c4) (by decide +kernel) rfl rfl rfl (by decide +kernel)
set_option maxRecDepth 65536 in
theorem w_c4 : (Jvm.Cond.code ({ cls := "com/example/network_attack_odds/networkattackodds/engine/GoalGraphNotPinLaw", name := "bit", desc := "(II)Z" } : Jvm.MethodName) method_3_code (2 : Nat) (Option.some Jvm.ClassFile.FieldType.boolean)).before args0 about1 = true := code_word (m := ⟨1, 2⟩) (meth := k1m2) (c := k1c2) (by decide +kernel) rfl rfl rfl (by decide +kernel)
def codes1 : List Jvm.Cond := [Jvm.Cond.code x code maxLocals ret, Jvm.Cond.code ({ cls := "com/example/network_attack_odds/networkattackodds/engine/GoalGraphNotPinLaw", name := "fill", desc := "([ZII)V" } : Jvm.MethodName) method_4_code (3 : Nat) (Option.none : Option Jvm.ClassFile.FieldType), Jvm.Cond.code ({ cls := "com/example/network_attack_odds/networkattackodds/engine/GoalGraph", name := "not", desc := "([Z)[Z" } : Jvm.MethodName) prog_34_method_14_code (3 : Nat) (Option.some (Jvm.ClassFile.FieldType.array Jvm.ClassFile.FieldType.boolean)), Jvm.Cond.code ({ cls := "com/example/network_attack_odds/networkattackodds/engine/GoalGraphNotPinLaw", name := "ok", desc := "([Z[ZII)Z" } : Jvm.MethodName) method_5_code (4 : Nat) (Option.some Jvm.ClassFile.FieldType.boolean), Jvm.Cond.code ({ cls := "com/example/network_attack_odds/networkattackodds/engine/GoalGraphNotPinLaw", name := "bit", desc := "(II)Z" } : Jvm.MethodName) method_3_code (2 : Nat) (Option.some Jvm.ClassFile.FieldType.boolean)]
set_option maxRecDepth 65536 in
theorem codes_eq : words1.filter isCode = codes1 := rfl
theorem w_codes : ∀ c ∈ words1.filter isCode, c.before args0 about1 = true := by
  rw [codes_eq]
  intro c hc
  simp only [codes1, List.mem_cons, List.not_mem_nil, or_false] at hc
  rcases hc with rfl | rfl | rfl | rfl | rfl
  · exact w_c0
  · exact w_c1
  · exact w_c2
  · exact w_c3
  · exact w_c4
set_option maxRecDepth 65536 in
theorem w_t1 : words1.all (fun c => isCode c || c.before args0 about1) = true := by decide +kernel
theorem w_tables : (allAtoms (Jvm.Cond.code x code maxLocals ret :: tables_1)).before args0 about1 = true := by
  rw [allAtoms_all]
  show words1.all (fun c => c.before args0 about1) = true
  refine all_split ?_ w_codes
  rw [w_t1]
set_option maxRecDepth 65536 in
theorem w_case : (Jvm.Cond.and given_1 narrow_1).before args0 about1 = true := by decide +kernel
theorem w_applies : (headSpec (Jvm.Cond.code x code maxLocals ret :: tables_1) room_1).applies x e0.platform about1 = true :=
  (Spec.applies_iff w_frames).mpr ⟨w_running, w_runnable, w_alone, w_named, w_hears, w_ripe, w_room, w_tables⟩
theorem atStart : AtStart classFile x code maxLocals ret World_1 tables_1 room_1 Calls_1 rest_1 Pre_1 launch0 p0 e0 about1 theMethod args0 below0 :=
  ⟨lists_1, trivial, launch0.admits_env _ _ _, launch0.least_env, fairChoices_fair.cas, fairChoices_fair.clock, w_frames, w_args, w_heap, w_applies, trivial, trivial, w_case⟩
end start1
theorem witness_1 : WitnessClaimed_1 := ⟨start1.p0, start1.e0, start1.about1, start1.theMethod, start1.args0, start1.below0, start1.atStart⟩
end Jvm.Pilot.@@N@@
