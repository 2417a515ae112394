import JvmDerived
import JvmDerived.Pilot.@@N@@Statement
import JvmDerived.Pilot.@@N@@Code
set_option linter.unusedVariables false
set_option linter.unusedSimpArgs false
namespace Jvm.RoadKit
open Sem ClassFile Op Lib Jvm.Stand Jvm.Free Jvm.LawKit
section New
variable {p : Program} {l : Launch} {e : Env} {R : Room} {s : State} {m : MethodId} {args : Array Value} {below : List Frame} {meth : Method} {c : Code} {T : State} {locs : List Loc} {cells slots : Nat}
theorem retI (X : Stand p l e R s m args below meth c T locs cells slots) (hx : p.tables.exec = Jvm.exec) {pc : Nat} {Ls : Array Slot} {z : Int32} {rest : List Value} (hret : meth.sig.returnType = some .int) (hd : decode c.code pc = .ok (.ireturn, 1)) {fs : List Frame}
    (hl : ∀ (f : JFrame) (acts : List Action), f.method = m → f.locked = none → f.entered = [] → (doReturn e (T.setTop f) acts (some (.int z))).1 = T.setFrames fs) : Steps p.tables e below (T.setTop (mkF m pc Ls (.int z :: rest))) (T.setFrames fs) := by
  have hm' : T.vm.method? m = some meth := X.method'
  have hn : narrow .int (.int z) = .int z := rfl
  show Steps p.tables e below (T.setTop { method := m, pc := pc, locals := Ls, stack := _ :: rest, locked := none }) _
  jvm_step X.here [X.here.top, hx, hd, hm', hret, hn]
  first | (intro acts; rw [hl _ acts rfl rfl rfl]) | rw [hl _ _ rfl rfl rfl]
  exact Steps.refl _
end New
end Jvm.RoadKit
namespace Jvm.Pilot.@@N@@
open Jvm Jvm.ClassFile Sem Op Lib Jvm.Free Jvm.Stand Jvm.LawKit Jvm.RoadKit Bundle Jvm.Pilot.@@N@@.Jvm.D
section OwnKit
variable {p : Program} {l : Launch} {e : Env} {R : Room} {s : State} {m : MethodId} {args : Array Value} {below : List Frame} {meth : Method} {c : Code} {T : State} {locs : List Loc} {cells slots : Nat}
/-- from S the run comes to a return of which F holds -/
def Goes (tb : Tables) (e : Env) (below : List Frame) (s : State) (F : Option Value → Heap → List Loc → Prop) (k n : Nat) (S : State) : Prop :=
  ∃ s₂ o, Steps tb e below S s₂ ∧ s₂.status = .running ∧ Ended s₂ below o ∧ ∃ v L, o = .returned v ∧ F v s₂.heap L ∧ FrameEnd s o s₂ L k n
theorem Goes.of {tb : Tables} {F : Option Value → Heap → List Loc → Prop} {k n : Nat} {S S' : State} (h : ∀ t, Steps tb e below S' t → Steps tb e below S t) (g : Goes tb e below s F k n S') : Goes tb e below s F k n S := by
  obtain ⟨s₂, o, h1, r⟩ := g
  exact ⟨s₂, o, h _ h1, r⟩
theorem Goes.mono {tb : Tables} {F G : Option Value → Heap → List Loc → Prop} {k n : Nat} {S : State} (h : ∀ v h L, F v h L → G v h L) (g : Goes tb e below s F k n S) : Goes tb e below s G k n S := by
  obtain ⟨s₂, o, h1, h2, h3, v, L, h4, h5, h6⟩ := g
  exact ⟨s₂, o, h1, h2, h3, v, L, h4, h _ _ _ h5, h6⟩
theorem Goes.fin (X : Stand p l e R s m args below meth c T locs cells slots) (hlk : meth.locks = false) {v : Option Value} {F : Option Value → Heap → List Loc → Prop} {k n : Nat} {S : State} (hv : meth.sig.returnType = none → v = none)
    (step : ∀ fs, (∀ (f : JFrame) (acts : List Action), f.method = m → f.locked = none → f.entered = [] → (doReturn e (T.setTop f) acts v).1 = T.setFrames fs) → Steps p.tables e below S (T.setFrames fs)) (hF : F v T.heap locs) (hk : cells ≤ k) (hn : slots ≤ n) : Goes p.tables e below s F k n S := by
  obtain ⟨fs, hr, hrun, hended, hW, hsame⟩ := X.leave hv hlk
  exact ⟨_, _, step fs hr, hrun, hended, v, locs, rfl, hF, ⟨_, rfl⟩, hW, hsame.mono hk hn⟩
end OwnKit
theorem d1_0 : decode prog_63_method_5_code 0 = .ok (.lload_n 0, 1) := by decide +kernel
theorem d1_1 : decode prog_63_method_5_code 1 = .ok (.lconst 0, 1) := by decide +kernel
theorem d1_2 : decode prog_63_method_5_code 2 = .ok (.lcmp, 1) := by decide +kernel
theorem d1_3 : decode prog_63_method_5_code 3 = .ok (.ifCond .eq 11, 3) := by decide +kernel
theorem d1_6 : decode prog_63_method_5_code 6 = .ok (.lload_n 0, 1) := by decide +kernel
theorem d1_7 : decode prog_63_method_5_code 7 = .ok (.ldc2_w 105, 3) := by decide +kernel
theorem d1_10 : decode prog_63_method_5_code 10 = .ok (.lcmp, 1) := by decide +kernel
theorem d1_11 : decode prog_63_method_5_code 11 = .ok (.ifCond .ne 7, 3) := by decide +kernel
theorem d1_14 : decode prog_63_method_5_code 14 = .ok (.iconst 1, 1) := by decide +kernel
theorem d1_15 : decode prog_63_method_5_code 15 = .ok (.goto 4, 3) := by decide +kernel
theorem d1_18 : decode prog_63_method_5_code 18 = .ok (.iconst 0, 1) := by decide +kernel
theorem d1_19 : decode prog_63_method_5_code 19 = .ok (.ireturn, 1) := by decide +kernel
theorem pn_0 : plainName "com/example/preemptlens/preemptlens/SchedSwitches" = true := by first | (simp [plainName, overriddenIn]; done) | decide +kernel
theorem ef_1 (m : MethodId) (q1 : Int64) : entryFrame m #[(.long q1)] 2 = mkF m 0 #[.val (.long q1), .second] [] := by first | (simp [entryFrame, mkF, argsToLocals, Value.category]; done) | rfl
def f1 (q1 : Int64) : Int32 :=
  (if q1 = (0 : Int64) then (1 : Int32)
  else (if q1 = (256 : Int64) then (1 : Int32)
    else (0 : Int32)))
def Q1 (q1 : Int64) (h0 : Heap) (n0 : Nat) (v : Option Value) (h : Heap) (L : List Loc) : Prop := v = some (.int (f1 q1)) ∧ Fr n0 L ∧ h = h0
set_option maxRecDepth 65536 in
set_option maxHeartbeats 40000000 in
theorem rm1 (l : Launch) (Z : State) (a0 : Array Value) (hw : ∀ d ∈ tables_1, d.before a0 Z = true) (ws : List Jvm.Cond) (q1 : Int64) (h0 : Heap) (n0 : Nat) :
    MetFree l (⟨"com/example/preemptlens/preemptlens/SchedSwitches", "runnable", "(J)Z"⟩ : MethodName) (head1 (Jvm.Cond.code (⟨"com/example/preemptlens/preemptlens/SchedSwitches", "runnable", "(J)Z"⟩ : MethodName) prog_63_method_5_code 2 (some .boolean) :: ws) ({ frames := 0, cells := 0, slots := 0, locals := 0 } : Room)) (fun a U => a = #[(.long q1)] ∧ Z.Warmed39 U.vm ∧ U.heap = h0) (fun _ _ _ _ _ => True) (fun _ U o U' => ∃ v L, o = .returned v ∧ Q1 q1 h0 n0 v U'.heap L ∧ FrameEnd U o U' L 0 0) := by
  refine MetFree.of_bodySF (plainFor_of_name pn_0) hisR ?_
  intro p e s m args below meth c s₁ Bd hml0 hP hK
  obtain ⟨rfl, hZ, hh⟩ := hP
  have hx := Bd.exec
  have hby := Bd.bytes
  have hlk : meth.locks = false := BodyLoose.notSynchronized Bd
  have hml : c.maxLocals = 2 := hml0
  have hown : s.vm.findClass "com/example/preemptlens/preemptlens/SchedSwitches" = some m.cls := findClass_of_methodNamed Bd.named
  have X0 : Stand p l e ({ frames := 0, cells := 0, slots := 0, locals := 0 } : Room) s m #[(.long q1)] below meth c s₁ [] 0 0 := Stand.of_body Bd
  have e0 : s₁.heap = h0 := by rw [← hh, Bd.state]; rfl
  have N0 := Fr.nil n0
  show Goes p.tables e below s (Q1 q1 h0 n0) 0 0 (s₁.setTop (entryFrame m #[(.long q1)] 2))
  refine Goes.of (fun t k => castTop (ef_1 m q1) k) ?_
  show Goes _ _ _ _ _ _ _ (s₁.setTop (mkF m 0 #[.val (.long q1), .second] []))
  refine Goes.of (fun t k => XS.lloadN X0.here hx rfl (hb hby d1_0) rfl k) ?_
  show Goes _ _ _ _ _ _ _ (s₁.setTop (mkF m 1 #[.val (.long q1), .second] [(.long q1)]))
  refine Goes.of (fun t k => XS.lconst X0.here hx rfl (hb hby d1_1) k) ?_
  show Goes _ _ _ _ _ _ _ (s₁.setTop (mkF m 2 #[.val (.long q1), .second] [(.long (0 : Int64)), (.long q1)]))
  refine Goes.of (fun t k => XS.lcmp X0.here hx rfl (hb hby d1_2) rfl k) ?_
  show Goes _ _ _ _ _ _ _ (s₁.setTop (mkF m 3 #[.val (.long q1), .second] [(.int (lcmpW q1 (0 : Int64)))]))
  by_cases hc2 : q1 = (0 : Int64)
  · refine Goes.of (fun t k => XS.ifYes X0.here hx rfl (pc0 := 3) (pc' := 14) rfl (hb hby d1_3) rfl ((if0 _ _).trans (teq ((lw_eq _ _).mpr hc2)).1) (by decide) (by decide) k) ?_
    show Goes _ _ _ _ _ _ _ (s₁.setTop (mkF m 14 #[.val (.long q1), .second] []))
    refine Goes.of (fun t k => XS.iconst X0.here hx rfl (hb hby d1_14) k) ?_
    show Goes _ _ _ _ _ _ _ (s₁.setTop (mkF m 15 #[.val (.long q1), .second] [(.int (1 : Int32))]))
    refine Goes.of (fun t k => XS.goto X0.here hx rfl (pc0 := 15) (pc' := 19) rfl (hb hby d1_15) (by decide) (by decide) k) ?_
    show Goes _ _ _ _ _ _ _ (s₁.setTop (mkF m 19 #[.val (.long q1), .second] [(.int (1 : Int32))]))
    exact Goes.fin X0 hlk (v := some (.int (1 : Int32))) (fun h => by rw [Bd.returns] at h; cases h) (fun fs hr => retN X0 hx (t := .boolean) Bd.returns (by simp) (hb hby d1_19) hr) ⟨congrArg (fun z => some (Value.int z)) (by rw [f1, if_pos hc2] : (1 : Int32) = f1 q1), N0, e0⟩ (by decide) (by decide)
  · refine Goes.of (fun t k => XS.ifNo X0.here hx rfl (hb hby d1_3) rfl ((if0 _ _).trans (feq (fun q => hc2 ((lw_eq _ _).mp q))).1) k) ?_
    show Goes _ _ _ _ _ _ _ (s₁.setTop (mkF m 6 #[.val (.long q1), .second] []))
    refine Goes.of (fun t k => XS.lloadN X0.here hx rfl (hb hby d1_6) rfl k) ?_
    show Goes _ _ _ _ _ _ _ (s₁.setTop (mkF m 7 #[.val (.long q1), .second] [(.long q1)]))
    refine Goes.of (fun t k => X0.ldc2Long hx hown (mvT hZ (hw _ (List.mem_of_getElem? (i := 6) rfl))) (g := (mkF m 7 #[.val (.long q1), .second] [(.long q1)])) rfl (hb hby d1_7) t k) ?_
    show Goes _ _ _ _ _ _ _ (s₁.setTop (mkF m 10 #[.val (.long q1), .second] [(.long (256 : Int64)), (.long q1)]))
    refine Goes.of (fun t k => XS.lcmp X0.here hx rfl (hb hby d1_10) rfl k) ?_
    show Goes _ _ _ _ _ _ _ (s₁.setTop (mkF m 11 #[.val (.long q1), .second] [(.int (lcmpW q1 (256 : Int64)))]))
    by_cases hc3 : q1 = (256 : Int64)
    · refine Goes.of (fun t k => XS.ifNo X0.here hx rfl (hb hby d1_11) rfl ((if0 _ _).trans (teq ((lw_eq _ _).mpr hc3)).2) k) ?_
      show Goes _ _ _ _ _ _ _ (s₁.setTop (mkF m 14 #[.val (.long q1), .second] []))
      refine Goes.of (fun t k => XS.iconst X0.here hx rfl (hb hby d1_14) k) ?_
      show Goes _ _ _ _ _ _ _ (s₁.setTop (mkF m 15 #[.val (.long q1), .second] [(.int (1 : Int32))]))
      refine Goes.of (fun t k => XS.goto X0.here hx rfl (pc0 := 15) (pc' := 19) rfl (hb hby d1_15) (by decide) (by decide) k) ?_
      show Goes _ _ _ _ _ _ _ (s₁.setTop (mkF m 19 #[.val (.long q1), .second] [(.int (1 : Int32))]))
      exact Goes.fin X0 hlk (v := some (.int (1 : Int32))) (fun h => by rw [Bd.returns] at h; cases h) (fun fs hr => retN X0 hx (t := .boolean) Bd.returns (by simp) (hb hby d1_19) hr) ⟨congrArg (fun z => some (Value.int z)) (by rw [f1, if_neg hc2, if_pos hc3] : (1 : Int32) = f1 q1), N0, e0⟩ (by decide) (by decide)
    · refine Goes.of (fun t k => XS.ifYes X0.here hx rfl (pc0 := 11) (pc' := 18) rfl (hb hby d1_11) rfl ((if0 _ _).trans (feq (fun q => hc3 ((lw_eq _ _).mp q))).2) (by decide) (by decide) k) ?_
      show Goes _ _ _ _ _ _ _ (s₁.setTop (mkF m 18 #[.val (.long q1), .second] []))
      refine Goes.of (fun t k => XS.iconst X0.here hx rfl (hb hby d1_18) k) ?_
      show Goes _ _ _ _ _ _ _ (s₁.setTop (mkF m 19 #[.val (.long q1), .second] [(.int (0 : Int32))]))
      exact Goes.fin X0 hlk (v := some (.int (0 : Int32))) (fun h => by rw [Bd.returns] at h; cases h) (fun fs hr => retN X0 hx (t := .boolean) Bd.returns (by simp) (hb hby d1_19) hr) ⟨congrArg (fun z => some (Value.int z)) (by rw [f1, if_neg hc2, if_neg hc3] : (0 : Int32) = f1 q1), N0, e0⟩ (by decide) (by decide)
theorem pn_1 : plainName "com/example/preemptlens/preemptlens/SchedSwitchesRunnablePinLaw" = true := by first | (simp [plainName, overriddenIn]; done) | decide +kernel
theorem pd_0 : parseMethodDescriptor "(J)Z" = some ⟨[.long], some .boolean⟩ := by decide +kernel
theorem ef_0 (m : MethodId) (u0 : Int64) (u1 : Int32) : entryFrame m #[(.long u0), (.int u1)] maxLocals = mkF m 0 #[.val (.long u0), .second, .val (.int u1), .unset, .unset, .unset, .unset, .unset, .unset] [] := by first | (simp [entryFrame, mkF, argsToLocals, Value.category, maxLocals]; done) | rfl
def f0 (u0 : Int64) (u1 : Int32) : Int32 :=
  (if (u1 &&& (3 : Int32)) = (0 : Int32) then (if (u0 &&& (-257 : Int64)) = (0 : Int64) then (if (f1 u0) = (1 : Int32) then (1 : Int32)
      else (0 : Int32))
    else (if (f1 u0) = (0 : Int32) then (1 : Int32)
      else (0 : Int32)))
  else (if (u1 &&& (3 : Int32)) = (1 : Int32) then (if ((((u1 >>> ((2 : Int32) &&& 31)) % (3 : Int32)).toInt64) &&& (-257 : Int64)) = (0 : Int64) then (if (f1 (((u1 >>> ((2 : Int32) &&& 31)) % (3 : Int32)).toInt64)) = (1 : Int32) then (1 : Int32)
        else (0 : Int32))
      else (if (f1 (((u1 >>> ((2 : Int32) &&& 31)) % (3 : Int32)).toInt64)) = (0 : Int32) then (1 : Int32)
        else (0 : Int32)))
    else (if (u1 &&& (3 : Int32)) = (2 : Int32) then (if (((256 : Int64) + (((u1 >>> ((2 : Int32) &&& 31)) % (3 : Int32)).toInt64)) &&& (-257 : Int64)) = (0 : Int64) then (if (f1 ((256 : Int64) + (((u1 >>> ((2 : Int32) &&& 31)) % (3 : Int32)).toInt64))) = (1 : Int32) then (1 : Int32)
          else (0 : Int32))
        else (if (f1 ((256 : Int64) + (((u1 >>> ((2 : Int32) &&& 31)) % (3 : Int32)).toInt64))) = (0 : Int32) then (1 : Int32)
          else (0 : Int32)))
      else (if ((u0 ^^^ (256 : Int64)) &&& (-257 : Int64)) = (0 : Int64) then (if (f1 (u0 ^^^ (256 : Int64))) = (1 : Int32) then (1 : Int32)
          else (0 : Int32))
        else (if (f1 (u0 ^^^ (256 : Int64))) = (0 : Int32) then (1 : Int32)
          else (0 : Int32))))))
def Q0 (u0 : Int64) (u1 : Int32) (h0 : Heap) (n0 : Nat) (v : Option Value) (h : Heap) (L : List Loc) : Prop := v = some (.int (f0 u0 u1)) ∧ Fr n0 L ∧ h = h0
set_option maxRecDepth 65536 in
set_option maxHeartbeats 40000000 in
theorem rm0 (l : Launch) (Z : State) (a0 : Array Value) (hw : ∀ d ∈ tables_1, d.before a0 Z = true) (ws : List Jvm.Cond) (u0 : Int64) (u1 : Int32) (h0 : Heap) (n0 : Nat) :
    MetFree l x (head1 (Jvm.Cond.code x code maxLocals ret :: ws) room_1) (fun a U => a = #[(.long u0), (.int u1)] ∧ Z.Warmed39 U.vm ∧ U.heap = h0) (fun _ _ _ _ _ => True) (fun _ U o U' => ∃ v L, o = .returned v ∧ Q0 u0 u1 h0 n0 v U'.heap L ∧ FrameEnd U o U' L room_1.cells room_1.slots) := by
  refine MetFree.of_bodySF (plainFor_of_name pn_1) hisR ?_
  intro p e s m args below meth c s₁ Bd hml0 hP hK
  obtain ⟨rfl, hZ, hh⟩ := hP
  have hx := Bd.exec
  have hby := Bd.bytes
  have hlk : meth.locks = false := BodyLoose.notSynchronized Bd
  have hml : c.maxLocals = 9 := hml0
  have hown : s.vm.findClass "com/example/preemptlens/preemptlens/SchedSwitchesRunnablePinLaw" = some m.cls := findClass_of_methodNamed Bd.named
  have X0 : Stand p l e room_1 s m #[(.long u0), (.int u1)] below meth c s₁ [] 0 0 := Stand.of_body Bd
  have e0 : s₁.heap = h0 := by rw [← hh, Bd.state]; rfl
  have N0 := Fr.nil n0
  show Goes p.tables e below s (Q0 u0 u1 h0 n0) room_1.cells room_1.slots (s₁.setTop (entryFrame m #[(.long u0), (.int u1)] maxLocals))
  refine Goes.of (fun t k => castTop (ef_0 m u0 u1) k) ?_
  show Goes _ _ _ _ _ _ _ (s₁.setTop (mkF m 0 #[.val (.long u0), .second, .val (.int u1), .unset, .unset, .unset, .unset, .unset, .unset] []))
  refine Goes.of (fun t k => XS.iloadN X0.here hx rfl (hb hby at_0) rfl k) ?_
  show Goes _ _ _ _ _ _ _ (s₁.setTop (mkF m 1 #[.val (.long u0), .second, .val (.int u1), .unset, .unset, .unset, .unset, .unset, .unset] [(.int u1)]))
  refine Goes.of (fun t k => XS.iconst X0.here hx rfl (hb hby at_1) k) ?_
  show Goes _ _ _ _ _ _ _ (s₁.setTop (mkF m 2 #[.val (.long u0), .second, .val (.int u1), .unset, .unset, .unset, .unset, .unset, .unset] [(.int (3 : Int32)), (.int u1)]))
  refine Goes.of (fun t k => XS.iand X0.here hx rfl (hb hby at_2) rfl k) ?_
  show Goes _ _ _ _ _ _ _ (s₁.setTop (mkF m 3 #[.val (.long u0), .second, .val (.int u1), .unset, .unset, .unset, .unset, .unset, .unset] [(.int (u1 &&& (3 : Int32)))]))
  refine Goes.of (fun t k => XS.istoreN X0.here hx rfl (hb hby at_3) rfl (l' := #[.val (.long u0), .second, .val (.int u1), .val (.int (u1 &&& (3 : Int32))), .unset, .unset, .unset, .unset, .unset]) rfl k) ?_
  show Goes _ _ _ _ _ _ _ (s₁.setTop (mkF m 4 #[.val (.long u0), .second, .val (.int u1), .val (.int (u1 &&& (3 : Int32))), .unset, .unset, .unset, .unset, .unset] []))
  refine Goes.of (fun t k => XS.iloadN X0.here hx rfl (hb hby at_4) rfl k) ?_
  show Goes _ _ _ _ _ _ _ (s₁.setTop (mkF m 5 #[.val (.long u0), .second, .val (.int u1), .val (.int (u1 &&& (3 : Int32))), .unset, .unset, .unset, .unset, .unset] [(.int u1)]))
  refine Goes.of (fun t k => XS.iconst X0.here hx rfl (hb hby at_5) k) ?_
  show Goes _ _ _ _ _ _ _ (s₁.setTop (mkF m 6 #[.val (.long u0), .second, .val (.int u1), .val (.int (u1 &&& (3 : Int32))), .unset, .unset, .unset, .unset, .unset] [(.int (2 : Int32)), (.int u1)]))
  refine Goes.of (fun t k => XS.ishr X0.here hx rfl (hb hby at_6) rfl k) ?_
  show Goes _ _ _ _ _ _ _ (s₁.setTop (mkF m 7 #[.val (.long u0), .second, .val (.int u1), .val (.int (u1 &&& (3 : Int32))), .unset, .unset, .unset, .unset, .unset] [(.int (u1 >>> ((2 : Int32) &&& 31)))]))
  refine Goes.of (fun t k => XS.iconst X0.here hx rfl (hb hby at_7) k) ?_
  show Goes _ _ _ _ _ _ _ (s₁.setTop (mkF m 8 #[.val (.long u0), .second, .val (.int u1), .val (.int (u1 &&& (3 : Int32))), .unset, .unset, .unset, .unset, .unset] [(.int (3 : Int32)), (.int (u1 >>> ((2 : Int32) &&& 31)))]))
  refine Goes.of (fun t k => iremM X0 hx (g := (mkF m 8 #[.val (.long u0), .second, .val (.int u1), .val (.int (u1 &&& (3 : Int32))), .unset, .unset, .unset, .unset, .unset] [(.int (3 : Int32)), (.int (u1 >>> ((2 : Int32) &&& 31)))])) rfl (hb hby at_8) rfl (by decide) k) ?_
  show Goes _ _ _ _ _ _ _ (s₁.setTop (mkF m 9 #[.val (.long u0), .second, .val (.int u1), .val (.int (u1 &&& (3 : Int32))), .unset, .unset, .unset, .unset, .unset] [(.int ((u1 >>> ((2 : Int32) &&& 31)) % (3 : Int32)))]))
  refine Goes.of (fun t k => XS.i2l X0.here hx rfl (hb hby at_9) rfl k) ?_
  show Goes _ _ _ _ _ _ _ (s₁.setTop (mkF m 10 #[.val (.long u0), .second, .val (.int u1), .val (.int (u1 &&& (3 : Int32))), .unset, .unset, .unset, .unset, .unset] [(.long (((u1 >>> ((2 : Int32) &&& 31)) % (3 : Int32)).toInt64))]))
  refine Goes.of (fun t k => XS.lstore X0.here hx rfl (hb hby at_10) rfl (l' := #[.val (.long u0), .second, .val (.int u1), .val (.int (u1 &&& (3 : Int32))), .val (.long (((u1 >>> ((2 : Int32) &&& 31)) % (3 : Int32)).toInt64)), .second, .unset, .unset, .unset]) rfl k) ?_
  show Goes _ _ _ _ _ _ _ (s₁.setTop (mkF m 12 #[.val (.long u0), .second, .val (.int u1), .val (.int (u1 &&& (3 : Int32))), .val (.long (((u1 >>> ((2 : Int32) &&& 31)) % (3 : Int32)).toInt64)), .second, .unset, .unset, .unset] []))
  refine Goes.of (fun t k => XS.iloadN X0.here hx rfl (hb hby at_12) rfl k) ?_
  show Goes _ _ _ _ _ _ _ (s₁.setTop (mkF m 13 #[.val (.long u0), .second, .val (.int u1), .val (.int (u1 &&& (3 : Int32))), .val (.long (((u1 >>> ((2 : Int32) &&& 31)) % (3 : Int32)).toInt64)), .second, .unset, .unset, .unset] [(.int (u1 &&& (3 : Int32)))]))
  by_cases hc4 : (u1 &&& (3 : Int32)) = (0 : Int32)
  · refine Goes.of (fun t k => XS.ifNo X0.here hx rfl (hb hby at_13) rfl ((if0 _ _).trans (teq hc4).2) k) ?_
    show Goes _ _ _ _ _ _ _ (s₁.setTop (mkF m 16 #[.val (.long u0), .second, .val (.int u1), .val (.int (u1 &&& (3 : Int32))), .val (.long (((u1 >>> ((2 : Int32) &&& 31)) % (3 : Int32)).toInt64)), .second, .unset, .unset, .unset] []))
    refine Goes.of (fun t k => XS.lloadN X0.here hx rfl (hb hby at_16) rfl k) ?_
    show Goes _ _ _ _ _ _ _ (s₁.setTop (mkF m 17 #[.val (.long u0), .second, .val (.int u1), .val (.int (u1 &&& (3 : Int32))), .val (.long (((u1 >>> ((2 : Int32) &&& 31)) % (3 : Int32)).toInt64)), .second, .unset, .unset, .unset] [(.long u0)]))
    refine Goes.of (fun t k => XS.lstore X0.here hx rfl (hb hby at_17) rfl (l' := #[.val (.long u0), .second, .val (.int u1), .val (.int (u1 &&& (3 : Int32))), .val (.long (((u1 >>> ((2 : Int32) &&& 31)) % (3 : Int32)).toInt64)), .second, .val (.long u0), .second, .unset]) rfl k) ?_
    show Goes _ _ _ _ _ _ _ (s₁.setTop (mkF m 19 #[.val (.long u0), .second, .val (.int u1), .val (.int (u1 &&& (3 : Int32))), .val (.long (((u1 >>> ((2 : Int32) &&& 31)) % (3 : Int32)).toInt64)), .second, .val (.long u0), .second, .unset] []))
    refine Goes.of (fun t k => XS.goto X0.here hx rfl (pc0 := 19) (pc' := 57) rfl (hb hby at_19) (by decide) (by decide) k) ?_
    show Goes _ _ _ _ _ _ _ (s₁.setTop (mkF m 57 #[.val (.long u0), .second, .val (.int u1), .val (.int (u1 &&& (3 : Int32))), .val (.long (((u1 >>> ((2 : Int32) &&& 31)) % (3 : Int32)).toInt64)), .second, .val (.long u0), .second, .unset] []))
    refine Goes.of (fun t k => XS.lload X0.here hx rfl (hb hby at_57) rfl k) ?_
    show Goes _ _ _ _ _ _ _ (s₁.setTop (mkF m 59 #[.val (.long u0), .second, .val (.int u1), .val (.int (u1 &&& (3 : Int32))), .val (.long (((u1 >>> ((2 : Int32) &&& 31)) % (3 : Int32)).toInt64)), .second, .val (.long u0), .second, .unset] [(.long u0)]))
    refine Goes.of (fun t k => X0.ldc2Long hx hown (mvT hZ (hw _ (List.mem_of_getElem? (i := 1) rfl))) (g := (mkF m 59 #[.val (.long u0), .second, .val (.int u1), .val (.int (u1 &&& (3 : Int32))), .val (.long (((u1 >>> ((2 : Int32) &&& 31)) % (3 : Int32)).toInt64)), .second, .val (.long u0), .second, .unset] [(.long u0)])) rfl (hb hby at_59) t k) ?_
    show Goes _ _ _ _ _ _ _ (s₁.setTop (mkF m 62 #[.val (.long u0), .second, .val (.int u1), .val (.int (u1 &&& (3 : Int32))), .val (.long (((u1 >>> ((2 : Int32) &&& 31)) % (3 : Int32)).toInt64)), .second, .val (.long u0), .second, .unset] [(.long (-257 : Int64)), (.long u0)]))
    refine Goes.of (fun t k => XS.land X0.here hx rfl (hb hby at_62) rfl k) ?_
    show Goes _ _ _ _ _ _ _ (s₁.setTop (mkF m 63 #[.val (.long u0), .second, .val (.int u1), .val (.int (u1 &&& (3 : Int32))), .val (.long (((u1 >>> ((2 : Int32) &&& 31)) % (3 : Int32)).toInt64)), .second, .val (.long u0), .second, .unset] [(.long (u0 &&& (-257 : Int64)))]))
    refine Goes.of (fun t k => XS.lconst X0.here hx rfl (hb hby at_63) k) ?_
    show Goes _ _ _ _ _ _ _ (s₁.setTop (mkF m 64 #[.val (.long u0), .second, .val (.int u1), .val (.int (u1 &&& (3 : Int32))), .val (.long (((u1 >>> ((2 : Int32) &&& 31)) % (3 : Int32)).toInt64)), .second, .val (.long u0), .second, .unset] [(.long (0 : Int64)), (.long (u0 &&& (-257 : Int64)))]))
    refine Goes.of (fun t k => XS.lcmp X0.here hx rfl (hb hby at_64) rfl k) ?_
    show Goes _ _ _ _ _ _ _ (s₁.setTop (mkF m 65 #[.val (.long u0), .second, .val (.int u1), .val (.int (u1 &&& (3 : Int32))), .val (.long (((u1 >>> ((2 : Int32) &&& 31)) % (3 : Int32)).toInt64)), .second, .val (.long u0), .second, .unset] [(.int (lcmpW (u0 &&& (-257 : Int64)) (0 : Int64)))]))
    by_cases hc5 : (u0 &&& (-257 : Int64)) = (0 : Int64)
    · refine Goes.of (fun t k => XS.ifNo X0.here hx rfl (hb hby at_65) rfl ((if0 _ _).trans (teq ((lw_eq _ _).mpr hc5)).2) k) ?_
      show Goes _ _ _ _ _ _ _ (s₁.setTop (mkF m 68 #[.val (.long u0), .second, .val (.int u1), .val (.int (u1 &&& (3 : Int32))), .val (.long (((u1 >>> ((2 : Int32) &&& 31)) % (3 : Int32)).toInt64)), .second, .val (.long u0), .second, .unset] []))
      refine Goes.of (fun t k => XS.iconst X0.here hx rfl (hb hby at_68) k) ?_
      show Goes _ _ _ _ _ _ _ (s₁.setTop (mkF m 69 #[.val (.long u0), .second, .val (.int u1), .val (.int (u1 &&& (3 : Int32))), .val (.long (((u1 >>> ((2 : Int32) &&& 31)) % (3 : Int32)).toInt64)), .second, .val (.long u0), .second, .unset] [(.int (1 : Int32))]))
      refine Goes.of (fun t k => XS.goto X0.here hx rfl (pc0 := 69) (pc' := 73) rfl (hb hby at_69) (by decide) (by decide) k) ?_
      show Goes _ _ _ _ _ _ _ (s₁.setTop (mkF m 73 #[.val (.long u0), .second, .val (.int u1), .val (.int (u1 &&& (3 : Int32))), .val (.long (((u1 >>> ((2 : Int32) &&& 31)) % (3 : Int32)).toInt64)), .second, .val (.long u0), .second, .unset] [(.int (1 : Int32))]))
      refine Goes.of (fun t k => XS.istore X0.here hx rfl (hb hby at_73) rfl (l' := #[.val (.long u0), .second, .val (.int u1), .val (.int (u1 &&& (3 : Int32))), .val (.long (((u1 >>> ((2 : Int32) &&& 31)) % (3 : Int32)).toInt64)), .second, .val (.long u0), .second, .val (.int (1 : Int32))]) rfl k) ?_
      show Goes _ _ _ _ _ _ _ (s₁.setTop (mkF m 75 #[.val (.long u0), .second, .val (.int u1), .val (.int (u1 &&& (3 : Int32))), .val (.long (((u1 >>> ((2 : Int32) &&& 31)) % (3 : Int32)).toInt64)), .second, .val (.long u0), .second, .val (.int (1 : Int32))] []))
      refine Goes.of (fun t k => XS.lload X0.here hx rfl (hb hby at_75) rfl k) ?_
      show Goes _ _ _ _ _ _ _ (s₁.setTop (mkF m 77 #[.val (.long u0), .second, .val (.int u1), .val (.int (u1 &&& (3 : Int32))), .val (.long (((u1 >>> ((2 : Int32) &&& 31)) % (3 : Int32)).toInt64)), .second, .val (.long u0), .second, .val (.int (1 : Int32))] [(.long u0)]))
      obtain ⟨_, _, ⟨T6, L6, k6, n6⟩, -, X6, ⟨Lc6, hQ6, l6, y6, z6⟩, st6⟩ := Jvm.LawKit.callS X0 hx (y := (⟨"com/example/preemptlens/preemptlens/SchedSwitches", "runnable", "(J)Z"⟩ : MethodName)) hown (mvT hZ (hw _ (List.mem_of_getElem? (i := 2) rfl))) (mvT hZ (hw _ (List.mem_of_getElem? (i := 3) rfl))) (mvT hZ (hw _ (List.mem_of_getElem? (i := 4) rfl))) (mvT hZ (hw _ (List.mem_of_getElem? (i := 5) rfl))) (by decide) (backOf (W := 0) (rm1 l Z a0 hw [] u0 h0 n0) hZ (hw _ (List.mem_of_getElem? (i := 5) rfl)) (hw _ (List.mem_of_getElem? (i := 4) rfl)) (by decide) (by decide)) (g := (mkF m 77 #[.val (.long u0), .second, .val (.int u1), .val (.int (u1 &&& (3 : Int32))), .val (.long (((u1 >>> ((2 : Int32) &&& 31)) % (3 : Int32)).toInt64)), .second, .val (.long u0), .second, .val (.int (1 : Int32))] [(.long u0)])) rfl (by rw [hml]; rfl) (argsL := [(.long u0)]) (rest := []) (lenOf pd_0 rfl) rfl (by show 2 * 0 + _ ≤ _; exact Nat.le_of_eq rfl) (hb hby at_77) (fun _ _ => ⟨rfl, e0, (by decide : 0 + 0 ≤ _), (by decide : 0 + 0 ≤ _)⟩)
      dsimp only [Pt.U, Pt.locs, Pt.cells, Pt.slots] at X6 l6 y6 z6 st6 hQ6
      subst l6 y6 z6
      obtain ⟨rfl, N6q, e6⟩ := hQ6
      have N6 := Fr.app N0 N6q
      refine Goes.of st6 ?_
      show Goes _ _ _ _ _ _ _ (T6.setTop (mkF m 80 #[.val (.long u0), .second, .val (.int u1), .val (.int (u1 &&& (3 : Int32))), .val (.long (((u1 >>> ((2 : Int32) &&& 31)) % (3 : Int32)).toInt64)), .second, .val (.long u0), .second, .val (.int (1 : Int32))] [(.int (f1 u0))]))
      refine Goes.of (fun t k => XS.iload X6.here hx rfl (hb hby at_80) rfl k) ?_
      show Goes _ _ _ _ _ _ _ (T6.setTop (mkF m 82 #[.val (.long u0), .second, .val (.int u1), .val (.int (u1 &&& (3 : Int32))), .val (.long (((u1 >>> ((2 : Int32) &&& 31)) % (3 : Int32)).toInt64)), .second, .val (.long u0), .second, .val (.int (1 : Int32))] [(.int (1 : Int32)), (.int (f1 u0))]))
      by_cases hc7 : (f1 u0) = (1 : Int32)
      · refine Goes.of (fun t k => XS.icmpNo X6.here hx rfl (hb hby at_82) rfl (teq hc7).2 k) ?_
        show Goes _ _ _ _ _ _ _ (T6.setTop (mkF m 85 #[.val (.long u0), .second, .val (.int u1), .val (.int (u1 &&& (3 : Int32))), .val (.long (((u1 >>> ((2 : Int32) &&& 31)) % (3 : Int32)).toInt64)), .second, .val (.long u0), .second, .val (.int (1 : Int32))] []))
        refine Goes.of (fun t k => XS.iconst X6.here hx rfl (hb hby at_85) k) ?_
        show Goes _ _ _ _ _ _ _ (T6.setTop (mkF m 86 #[.val (.long u0), .second, .val (.int u1), .val (.int (u1 &&& (3 : Int32))), .val (.long (((u1 >>> ((2 : Int32) &&& 31)) % (3 : Int32)).toInt64)), .second, .val (.long u0), .second, .val (.int (1 : Int32))] [(.int (1 : Int32))]))
        refine Goes.of (fun t k => XS.goto X6.here hx rfl (pc0 := 86) (pc' := 90) rfl (hb hby at_86) (by decide) (by decide) k) ?_
        show Goes _ _ _ _ _ _ _ (T6.setTop (mkF m 90 #[.val (.long u0), .second, .val (.int u1), .val (.int (u1 &&& (3 : Int32))), .val (.long (((u1 >>> ((2 : Int32) &&& 31)) % (3 : Int32)).toInt64)), .second, .val (.long u0), .second, .val (.int (1 : Int32))] [(.int (1 : Int32))]))
        exact Goes.fin X6 hlk (v := some (.int (1 : Int32))) (fun h => by rw [Bd.returns] at h; cases h) (fun fs hr => retN X6 hx (t := .boolean) Bd.returns (by simp) (hb hby at_90) hr) ⟨congrArg (fun z => some (Value.int z)) (by rw [f0, if_pos hc4, if_pos hc5, if_pos hc7] : (1 : Int32) = f0 u0 u1), N6, e6⟩ (by decide) (by decide)
      · refine Goes.of (fun t k => XS.icmpYes X6.here hx rfl (pc0 := 82) (pc' := 89) rfl (hb hby at_82) rfl (feq hc7).2 (by decide) (by decide) k) ?_
        show Goes _ _ _ _ _ _ _ (T6.setTop (mkF m 89 #[.val (.long u0), .second, .val (.int u1), .val (.int (u1 &&& (3 : Int32))), .val (.long (((u1 >>> ((2 : Int32) &&& 31)) % (3 : Int32)).toInt64)), .second, .val (.long u0), .second, .val (.int (1 : Int32))] []))
        refine Goes.of (fun t k => XS.iconst X6.here hx rfl (hb hby at_89) k) ?_
        show Goes _ _ _ _ _ _ _ (T6.setTop (mkF m 90 #[.val (.long u0), .second, .val (.int u1), .val (.int (u1 &&& (3 : Int32))), .val (.long (((u1 >>> ((2 : Int32) &&& 31)) % (3 : Int32)).toInt64)), .second, .val (.long u0), .second, .val (.int (1 : Int32))] [(.int (0 : Int32))]))
        exact Goes.fin X6 hlk (v := some (.int (0 : Int32))) (fun h => by rw [Bd.returns] at h; cases h) (fun fs hr => retN X6 hx (t := .boolean) Bd.returns (by simp) (hb hby at_90) hr) ⟨congrArg (fun z => some (Value.int z)) (by rw [f0, if_pos hc4, if_pos hc5, if_neg hc7] : (0 : Int32) = f0 u0 u1), N6, e6⟩ (by decide) (by decide)
    · refine Goes.of (fun t k => XS.ifYes X0.here hx rfl (pc0 := 65) (pc' := 72) rfl (hb hby at_65) rfl ((if0 _ _).trans (feq (fun q => hc5 ((lw_eq _ _).mp q))).2) (by decide) (by decide) k) ?_
      show Goes _ _ _ _ _ _ _ (s₁.setTop (mkF m 72 #[.val (.long u0), .second, .val (.int u1), .val (.int (u1 &&& (3 : Int32))), .val (.long (((u1 >>> ((2 : Int32) &&& 31)) % (3 : Int32)).toInt64)), .second, .val (.long u0), .second, .unset] []))
      refine Goes.of (fun t k => XS.iconst X0.here hx rfl (hb hby at_72) k) ?_
      show Goes _ _ _ _ _ _ _ (s₁.setTop (mkF m 73 #[.val (.long u0), .second, .val (.int u1), .val (.int (u1 &&& (3 : Int32))), .val (.long (((u1 >>> ((2 : Int32) &&& 31)) % (3 : Int32)).toInt64)), .second, .val (.long u0), .second, .unset] [(.int (0 : Int32))]))
      refine Goes.of (fun t k => XS.istore X0.here hx rfl (hb hby at_73) rfl (l' := #[.val (.long u0), .second, .val (.int u1), .val (.int (u1 &&& (3 : Int32))), .val (.long (((u1 >>> ((2 : Int32) &&& 31)) % (3 : Int32)).toInt64)), .second, .val (.long u0), .second, .val (.int (0 : Int32))]) rfl k) ?_
      show Goes _ _ _ _ _ _ _ (s₁.setTop (mkF m 75 #[.val (.long u0), .second, .val (.int u1), .val (.int (u1 &&& (3 : Int32))), .val (.long (((u1 >>> ((2 : Int32) &&& 31)) % (3 : Int32)).toInt64)), .second, .val (.long u0), .second, .val (.int (0 : Int32))] []))
      refine Goes.of (fun t k => XS.lload X0.here hx rfl (hb hby at_75) rfl k) ?_
      show Goes _ _ _ _ _ _ _ (s₁.setTop (mkF m 77 #[.val (.long u0), .second, .val (.int u1), .val (.int (u1 &&& (3 : Int32))), .val (.long (((u1 >>> ((2 : Int32) &&& 31)) % (3 : Int32)).toInt64)), .second, .val (.long u0), .second, .val (.int (0 : Int32))] [(.long u0)]))
      obtain ⟨_, _, ⟨T8, L8, k8, n8⟩, -, X8, ⟨Lc8, hQ8, l8, y8, z8⟩, st8⟩ := Jvm.LawKit.callS X0 hx (y := (⟨"com/example/preemptlens/preemptlens/SchedSwitches", "runnable", "(J)Z"⟩ : MethodName)) hown (mvT hZ (hw _ (List.mem_of_getElem? (i := 2) rfl))) (mvT hZ (hw _ (List.mem_of_getElem? (i := 3) rfl))) (mvT hZ (hw _ (List.mem_of_getElem? (i := 4) rfl))) (mvT hZ (hw _ (List.mem_of_getElem? (i := 5) rfl))) (by decide) (backOf (W := 0) (rm1 l Z a0 hw [] u0 h0 n0) hZ (hw _ (List.mem_of_getElem? (i := 5) rfl)) (hw _ (List.mem_of_getElem? (i := 4) rfl)) (by decide) (by decide)) (g := (mkF m 77 #[.val (.long u0), .second, .val (.int u1), .val (.int (u1 &&& (3 : Int32))), .val (.long (((u1 >>> ((2 : Int32) &&& 31)) % (3 : Int32)).toInt64)), .second, .val (.long u0), .second, .val (.int (0 : Int32))] [(.long u0)])) rfl (by rw [hml]; rfl) (argsL := [(.long u0)]) (rest := []) (lenOf pd_0 rfl) rfl (by show 2 * 0 + _ ≤ _; exact Nat.le_of_eq rfl) (hb hby at_77) (fun _ _ => ⟨rfl, e0, (by decide : 0 + 0 ≤ _), (by decide : 0 + 0 ≤ _)⟩)
      dsimp only [Pt.U, Pt.locs, Pt.cells, Pt.slots] at X8 l8 y8 z8 st8 hQ8
      subst l8 y8 z8
      obtain ⟨rfl, N8q, e8⟩ := hQ8
      have N8 := Fr.app N0 N8q
      refine Goes.of st8 ?_
      show Goes _ _ _ _ _ _ _ (T8.setTop (mkF m 80 #[.val (.long u0), .second, .val (.int u1), .val (.int (u1 &&& (3 : Int32))), .val (.long (((u1 >>> ((2 : Int32) &&& 31)) % (3 : Int32)).toInt64)), .second, .val (.long u0), .second, .val (.int (0 : Int32))] [(.int (f1 u0))]))
      refine Goes.of (fun t k => XS.iload X8.here hx rfl (hb hby at_80) rfl k) ?_
      show Goes _ _ _ _ _ _ _ (T8.setTop (mkF m 82 #[.val (.long u0), .second, .val (.int u1), .val (.int (u1 &&& (3 : Int32))), .val (.long (((u1 >>> ((2 : Int32) &&& 31)) % (3 : Int32)).toInt64)), .second, .val (.long u0), .second, .val (.int (0 : Int32))] [(.int (0 : Int32)), (.int (f1 u0))]))
      by_cases hc9 : (f1 u0) = (0 : Int32)
      · refine Goes.of (fun t k => XS.icmpNo X8.here hx rfl (hb hby at_82) rfl (teq hc9).2 k) ?_
        show Goes _ _ _ _ _ _ _ (T8.setTop (mkF m 85 #[.val (.long u0), .second, .val (.int u1), .val (.int (u1 &&& (3 : Int32))), .val (.long (((u1 >>> ((2 : Int32) &&& 31)) % (3 : Int32)).toInt64)), .second, .val (.long u0), .second, .val (.int (0 : Int32))] []))
        refine Goes.of (fun t k => XS.iconst X8.here hx rfl (hb hby at_85) k) ?_
        show Goes _ _ _ _ _ _ _ (T8.setTop (mkF m 86 #[.val (.long u0), .second, .val (.int u1), .val (.int (u1 &&& (3 : Int32))), .val (.long (((u1 >>> ((2 : Int32) &&& 31)) % (3 : Int32)).toInt64)), .second, .val (.long u0), .second, .val (.int (0 : Int32))] [(.int (1 : Int32))]))
        refine Goes.of (fun t k => XS.goto X8.here hx rfl (pc0 := 86) (pc' := 90) rfl (hb hby at_86) (by decide) (by decide) k) ?_
        show Goes _ _ _ _ _ _ _ (T8.setTop (mkF m 90 #[.val (.long u0), .second, .val (.int u1), .val (.int (u1 &&& (3 : Int32))), .val (.long (((u1 >>> ((2 : Int32) &&& 31)) % (3 : Int32)).toInt64)), .second, .val (.long u0), .second, .val (.int (0 : Int32))] [(.int (1 : Int32))]))
        exact Goes.fin X8 hlk (v := some (.int (1 : Int32))) (fun h => by rw [Bd.returns] at h; cases h) (fun fs hr => retN X8 hx (t := .boolean) Bd.returns (by simp) (hb hby at_90) hr) ⟨congrArg (fun z => some (Value.int z)) (by rw [f0, if_pos hc4, if_neg hc5, if_pos hc9] : (1 : Int32) = f0 u0 u1), N8, e8⟩ (by decide) (by decide)
      · refine Goes.of (fun t k => XS.icmpYes X8.here hx rfl (pc0 := 82) (pc' := 89) rfl (hb hby at_82) rfl (feq hc9).2 (by decide) (by decide) k) ?_
        show Goes _ _ _ _ _ _ _ (T8.setTop (mkF m 89 #[.val (.long u0), .second, .val (.int u1), .val (.int (u1 &&& (3 : Int32))), .val (.long (((u1 >>> ((2 : Int32) &&& 31)) % (3 : Int32)).toInt64)), .second, .val (.long u0), .second, .val (.int (0 : Int32))] []))
        refine Goes.of (fun t k => XS.iconst X8.here hx rfl (hb hby at_89) k) ?_
        show Goes _ _ _ _ _ _ _ (T8.setTop (mkF m 90 #[.val (.long u0), .second, .val (.int u1), .val (.int (u1 &&& (3 : Int32))), .val (.long (((u1 >>> ((2 : Int32) &&& 31)) % (3 : Int32)).toInt64)), .second, .val (.long u0), .second, .val (.int (0 : Int32))] [(.int (0 : Int32))]))
        exact Goes.fin X8 hlk (v := some (.int (0 : Int32))) (fun h => by rw [Bd.returns] at h; cases h) (fun fs hr => retN X8 hx (t := .boolean) Bd.returns (by simp) (hb hby at_90) hr) ⟨congrArg (fun z => some (Value.int z)) (by rw [f0, if_pos hc4, if_neg hc5, if_neg hc9] : (0 : Int32) = f0 u0 u1), N8, e8⟩ (by decide) (by decide)
  · refine Goes.of (fun t k => XS.ifYes X0.here hx rfl (pc0 := 13) (pc' := 22) rfl (hb hby at_13) rfl ((if0 _ _).trans (feq hc4).2) (by decide) (by decide) k) ?_
    show Goes _ _ _ _ _ _ _ (s₁.setTop (mkF m 22 #[.val (.long u0), .second, .val (.int u1), .val (.int (u1 &&& (3 : Int32))), .val (.long (((u1 >>> ((2 : Int32) &&& 31)) % (3 : Int32)).toInt64)), .second, .unset, .unset, .unset] []))
    refine Goes.of (fun t k => XS.iloadN X0.here hx rfl (hb hby at_22) rfl k) ?_
    show Goes _ _ _ _ _ _ _ (s₁.setTop (mkF m 23 #[.val (.long u0), .second, .val (.int u1), .val (.int (u1 &&& (3 : Int32))), .val (.long (((u1 >>> ((2 : Int32) &&& 31)) % (3 : Int32)).toInt64)), .second, .unset, .unset, .unset] [(.int (u1 &&& (3 : Int32)))]))
    refine Goes.of (fun t k => XS.iconst X0.here hx rfl (hb hby at_23) k) ?_
    show Goes _ _ _ _ _ _ _ (s₁.setTop (mkF m 24 #[.val (.long u0), .second, .val (.int u1), .val (.int (u1 &&& (3 : Int32))), .val (.long (((u1 >>> ((2 : Int32) &&& 31)) % (3 : Int32)).toInt64)), .second, .unset, .unset, .unset] [(.int (1 : Int32)), (.int (u1 &&& (3 : Int32)))]))
    by_cases hc10 : (u1 &&& (3 : Int32)) = (1 : Int32)
    · refine Goes.of (fun t k => XS.icmpNo X0.here hx rfl (hb hby at_24) rfl (teq hc10).2 k) ?_
      show Goes _ _ _ _ _ _ _ (s₁.setTop (mkF m 27 #[.val (.long u0), .second, .val (.int u1), .val (.int (u1 &&& (3 : Int32))), .val (.long (((u1 >>> ((2 : Int32) &&& 31)) % (3 : Int32)).toInt64)), .second, .unset, .unset, .unset] []))
      refine Goes.of (fun t k => XS.lload X0.here hx rfl (hb hby at_27) rfl k) ?_
      show Goes _ _ _ _ _ _ _ (s₁.setTop (mkF m 29 #[.val (.long u0), .second, .val (.int u1), .val (.int (u1 &&& (3 : Int32))), .val (.long (((u1 >>> ((2 : Int32) &&& 31)) % (3 : Int32)).toInt64)), .second, .unset, .unset, .unset] [(.long (((u1 >>> ((2 : Int32) &&& 31)) % (3 : Int32)).toInt64))]))
      refine Goes.of (fun t k => XS.lstore X0.here hx rfl (hb hby at_29) rfl (l' := #[.val (.long u0), .second, .val (.int u1), .val (.int (u1 &&& (3 : Int32))), .val (.long (((u1 >>> ((2 : Int32) &&& 31)) % (3 : Int32)).toInt64)), .second, .val (.long (((u1 >>> ((2 : Int32) &&& 31)) % (3 : Int32)).toInt64)), .second, .unset]) rfl k) ?_
      show Goes _ _ _ _ _ _ _ (s₁.setTop (mkF m 31 #[.val (.long u0), .second, .val (.int u1), .val (.int (u1 &&& (3 : Int32))), .val (.long (((u1 >>> ((2 : Int32) &&& 31)) % (3 : Int32)).toInt64)), .second, .val (.long (((u1 >>> ((2 : Int32) &&& 31)) % (3 : Int32)).toInt64)), .second, .unset] []))
      refine Goes.of (fun t k => XS.goto X0.here hx rfl (pc0 := 31) (pc' := 57) rfl (hb hby at_31) (by decide) (by decide) k) ?_
      show Goes _ _ _ _ _ _ _ (s₁.setTop (mkF m 57 #[.val (.long u0), .second, .val (.int u1), .val (.int (u1 &&& (3 : Int32))), .val (.long (((u1 >>> ((2 : Int32) &&& 31)) % (3 : Int32)).toInt64)), .second, .val (.long (((u1 >>> ((2 : Int32) &&& 31)) % (3 : Int32)).toInt64)), .second, .unset] []))
      refine Goes.of (fun t k => XS.lload X0.here hx rfl (hb hby at_57) rfl k) ?_
      show Goes _ _ _ _ _ _ _ (s₁.setTop (mkF m 59 #[.val (.long u0), .second, .val (.int u1), .val (.int (u1 &&& (3 : Int32))), .val (.long (((u1 >>> ((2 : Int32) &&& 31)) % (3 : Int32)).toInt64)), .second, .val (.long (((u1 >>> ((2 : Int32) &&& 31)) % (3 : Int32)).toInt64)), .second, .unset] [(.long (((u1 >>> ((2 : Int32) &&& 31)) % (3 : Int32)).toInt64))]))
      refine Goes.of (fun t k => X0.ldc2Long hx hown (mvT hZ (hw _ (List.mem_of_getElem? (i := 1) rfl))) (g := (mkF m 59 #[.val (.long u0), .second, .val (.int u1), .val (.int (u1 &&& (3 : Int32))), .val (.long (((u1 >>> ((2 : Int32) &&& 31)) % (3 : Int32)).toInt64)), .second, .val (.long (((u1 >>> ((2 : Int32) &&& 31)) % (3 : Int32)).toInt64)), .second, .unset] [(.long (((u1 >>> ((2 : Int32) &&& 31)) % (3 : Int32)).toInt64))])) rfl (hb hby at_59) t k) ?_
      show Goes _ _ _ _ _ _ _ (s₁.setTop (mkF m 62 #[.val (.long u0), .second, .val (.int u1), .val (.int (u1 &&& (3 : Int32))), .val (.long (((u1 >>> ((2 : Int32) &&& 31)) % (3 : Int32)).toInt64)), .second, .val (.long (((u1 >>> ((2 : Int32) &&& 31)) % (3 : Int32)).toInt64)), .second, .unset] [(.long (-257 : Int64)), (.long (((u1 >>> ((2 : Int32) &&& 31)) % (3 : Int32)).toInt64))]))
      refine Goes.of (fun t k => XS.land X0.here hx rfl (hb hby at_62) rfl k) ?_
      show Goes _ _ _ _ _ _ _ (s₁.setTop (mkF m 63 #[.val (.long u0), .second, .val (.int u1), .val (.int (u1 &&& (3 : Int32))), .val (.long (((u1 >>> ((2 : Int32) &&& 31)) % (3 : Int32)).toInt64)), .second, .val (.long (((u1 >>> ((2 : Int32) &&& 31)) % (3 : Int32)).toInt64)), .second, .unset] [(.long ((((u1 >>> ((2 : Int32) &&& 31)) % (3 : Int32)).toInt64) &&& (-257 : Int64)))]))
      refine Goes.of (fun t k => XS.lconst X0.here hx rfl (hb hby at_63) k) ?_
      show Goes _ _ _ _ _ _ _ (s₁.setTop (mkF m 64 #[.val (.long u0), .second, .val (.int u1), .val (.int (u1 &&& (3 : Int32))), .val (.long (((u1 >>> ((2 : Int32) &&& 31)) % (3 : Int32)).toInt64)), .second, .val (.long (((u1 >>> ((2 : Int32) &&& 31)) % (3 : Int32)).toInt64)), .second, .unset] [(.long (0 : Int64)), (.long ((((u1 >>> ((2 : Int32) &&& 31)) % (3 : Int32)).toInt64) &&& (-257 : Int64)))]))
      refine Goes.of (fun t k => XS.lcmp X0.here hx rfl (hb hby at_64) rfl k) ?_
      show Goes _ _ _ _ _ _ _ (s₁.setTop (mkF m 65 #[.val (.long u0), .second, .val (.int u1), .val (.int (u1 &&& (3 : Int32))), .val (.long (((u1 >>> ((2 : Int32) &&& 31)) % (3 : Int32)).toInt64)), .second, .val (.long (((u1 >>> ((2 : Int32) &&& 31)) % (3 : Int32)).toInt64)), .second, .unset] [(.int (lcmpW ((((u1 >>> ((2 : Int32) &&& 31)) % (3 : Int32)).toInt64) &&& (-257 : Int64)) (0 : Int64)))]))
      by_cases hc11 : ((((u1 >>> ((2 : Int32) &&& 31)) % (3 : Int32)).toInt64) &&& (-257 : Int64)) = (0 : Int64)
      · refine Goes.of (fun t k => XS.ifNo X0.here hx rfl (hb hby at_65) rfl ((if0 _ _).trans (teq ((lw_eq _ _).mpr hc11)).2) k) ?_
        show Goes _ _ _ _ _ _ _ (s₁.setTop (mkF m 68 #[.val (.long u0), .second, .val (.int u1), .val (.int (u1 &&& (3 : Int32))), .val (.long (((u1 >>> ((2 : Int32) &&& 31)) % (3 : Int32)).toInt64)), .second, .val (.long (((u1 >>> ((2 : Int32) &&& 31)) % (3 : Int32)).toInt64)), .second, .unset] []))
        refine Goes.of (fun t k => XS.iconst X0.here hx rfl (hb hby at_68) k) ?_
        show Goes _ _ _ _ _ _ _ (s₁.setTop (mkF m 69 #[.val (.long u0), .second, .val (.int u1), .val (.int (u1 &&& (3 : Int32))), .val (.long (((u1 >>> ((2 : Int32) &&& 31)) % (3 : Int32)).toInt64)), .second, .val (.long (((u1 >>> ((2 : Int32) &&& 31)) % (3 : Int32)).toInt64)), .second, .unset] [(.int (1 : Int32))]))
        refine Goes.of (fun t k => XS.goto X0.here hx rfl (pc0 := 69) (pc' := 73) rfl (hb hby at_69) (by decide) (by decide) k) ?_
        show Goes _ _ _ _ _ _ _ (s₁.setTop (mkF m 73 #[.val (.long u0), .second, .val (.int u1), .val (.int (u1 &&& (3 : Int32))), .val (.long (((u1 >>> ((2 : Int32) &&& 31)) % (3 : Int32)).toInt64)), .second, .val (.long (((u1 >>> ((2 : Int32) &&& 31)) % (3 : Int32)).toInt64)), .second, .unset] [(.int (1 : Int32))]))
        refine Goes.of (fun t k => XS.istore X0.here hx rfl (hb hby at_73) rfl (l' := #[.val (.long u0), .second, .val (.int u1), .val (.int (u1 &&& (3 : Int32))), .val (.long (((u1 >>> ((2 : Int32) &&& 31)) % (3 : Int32)).toInt64)), .second, .val (.long (((u1 >>> ((2 : Int32) &&& 31)) % (3 : Int32)).toInt64)), .second, .val (.int (1 : Int32))]) rfl k) ?_
        show Goes _ _ _ _ _ _ _ (s₁.setTop (mkF m 75 #[.val (.long u0), .second, .val (.int u1), .val (.int (u1 &&& (3 : Int32))), .val (.long (((u1 >>> ((2 : Int32) &&& 31)) % (3 : Int32)).toInt64)), .second, .val (.long (((u1 >>> ((2 : Int32) &&& 31)) % (3 : Int32)).toInt64)), .second, .val (.int (1 : Int32))] []))
        refine Goes.of (fun t k => XS.lload X0.here hx rfl (hb hby at_75) rfl k) ?_
        show Goes _ _ _ _ _ _ _ (s₁.setTop (mkF m 77 #[.val (.long u0), .second, .val (.int u1), .val (.int (u1 &&& (3 : Int32))), .val (.long (((u1 >>> ((2 : Int32) &&& 31)) % (3 : Int32)).toInt64)), .second, .val (.long (((u1 >>> ((2 : Int32) &&& 31)) % (3 : Int32)).toInt64)), .second, .val (.int (1 : Int32))] [(.long (((u1 >>> ((2 : Int32) &&& 31)) % (3 : Int32)).toInt64))]))
        obtain ⟨_, _, ⟨T12, L12, k12, n12⟩, -, X12, ⟨Lc12, hQ12, l12, y12, z12⟩, st12⟩ := Jvm.LawKit.callS X0 hx (y := (⟨"com/example/preemptlens/preemptlens/SchedSwitches", "runnable", "(J)Z"⟩ : MethodName)) hown (mvT hZ (hw _ (List.mem_of_getElem? (i := 2) rfl))) (mvT hZ (hw _ (List.mem_of_getElem? (i := 3) rfl))) (mvT hZ (hw _ (List.mem_of_getElem? (i := 4) rfl))) (mvT hZ (hw _ (List.mem_of_getElem? (i := 5) rfl))) (by decide) (backOf (W := 0) (rm1 l Z a0 hw [] (((u1 >>> ((2 : Int32) &&& 31)) % (3 : Int32)).toInt64) h0 n0) hZ (hw _ (List.mem_of_getElem? (i := 5) rfl)) (hw _ (List.mem_of_getElem? (i := 4) rfl)) (by decide) (by decide)) (g := (mkF m 77 #[.val (.long u0), .second, .val (.int u1), .val (.int (u1 &&& (3 : Int32))), .val (.long (((u1 >>> ((2 : Int32) &&& 31)) % (3 : Int32)).toInt64)), .second, .val (.long (((u1 >>> ((2 : Int32) &&& 31)) % (3 : Int32)).toInt64)), .second, .val (.int (1 : Int32))] [(.long (((u1 >>> ((2 : Int32) &&& 31)) % (3 : Int32)).toInt64))])) rfl (by rw [hml]; rfl) (argsL := [(.long (((u1 >>> ((2 : Int32) &&& 31)) % (3 : Int32)).toInt64))]) (rest := []) (lenOf pd_0 rfl) rfl (by show 2 * 0 + _ ≤ _; exact Nat.le_of_eq rfl) (hb hby at_77) (fun _ _ => ⟨rfl, e0, (by decide : 0 + 0 ≤ _), (by decide : 0 + 0 ≤ _)⟩)
        dsimp only [Pt.U, Pt.locs, Pt.cells, Pt.slots] at X12 l12 y12 z12 st12 hQ12
        subst l12 y12 z12
        obtain ⟨rfl, N12q, e12⟩ := hQ12
        have N12 := Fr.app N0 N12q
        refine Goes.of st12 ?_
        show Goes _ _ _ _ _ _ _ (T12.setTop (mkF m 80 #[.val (.long u0), .second, .val (.int u1), .val (.int (u1 &&& (3 : Int32))), .val (.long (((u1 >>> ((2 : Int32) &&& 31)) % (3 : Int32)).toInt64)), .second, .val (.long (((u1 >>> ((2 : Int32) &&& 31)) % (3 : Int32)).toInt64)), .second, .val (.int (1 : Int32))] [(.int (f1 (((u1 >>> ((2 : Int32) &&& 31)) % (3 : Int32)).toInt64)))]))
        refine Goes.of (fun t k => XS.iload X12.here hx rfl (hb hby at_80) rfl k) ?_
        show Goes _ _ _ _ _ _ _ (T12.setTop (mkF m 82 #[.val (.long u0), .second, .val (.int u1), .val (.int (u1 &&& (3 : Int32))), .val (.long (((u1 >>> ((2 : Int32) &&& 31)) % (3 : Int32)).toInt64)), .second, .val (.long (((u1 >>> ((2 : Int32) &&& 31)) % (3 : Int32)).toInt64)), .second, .val (.int (1 : Int32))] [(.int (1 : Int32)), (.int (f1 (((u1 >>> ((2 : Int32) &&& 31)) % (3 : Int32)).toInt64)))]))
        by_cases hc13 : (f1 (((u1 >>> ((2 : Int32) &&& 31)) % (3 : Int32)).toInt64)) = (1 : Int32)
        · refine Goes.of (fun t k => XS.icmpNo X12.here hx rfl (hb hby at_82) rfl (teq hc13).2 k) ?_
          show Goes _ _ _ _ _ _ _ (T12.setTop (mkF m 85 #[.val (.long u0), .second, .val (.int u1), .val (.int (u1 &&& (3 : Int32))), .val (.long (((u1 >>> ((2 : Int32) &&& 31)) % (3 : Int32)).toInt64)), .second, .val (.long (((u1 >>> ((2 : Int32) &&& 31)) % (3 : Int32)).toInt64)), .second, .val (.int (1 : Int32))] []))
          refine Goes.of (fun t k => XS.iconst X12.here hx rfl (hb hby at_85) k) ?_
          show Goes _ _ _ _ _ _ _ (T12.setTop (mkF m 86 #[.val (.long u0), .second, .val (.int u1), .val (.int (u1 &&& (3 : Int32))), .val (.long (((u1 >>> ((2 : Int32) &&& 31)) % (3 : Int32)).toInt64)), .second, .val (.long (((u1 >>> ((2 : Int32) &&& 31)) % (3 : Int32)).toInt64)), .second, .val (.int (1 : Int32))] [(.int (1 : Int32))]))
          refine Goes.of (fun t k => XS.goto X12.here hx rfl (pc0 := 86) (pc' := 90) rfl (hb hby at_86) (by decide) (by decide) k) ?_
          show Goes _ _ _ _ _ _ _ (T12.setTop (mkF m 90 #[.val (.long u0), .second, .val (.int u1), .val (.int (u1 &&& (3 : Int32))), .val (.long (((u1 >>> ((2 : Int32) &&& 31)) % (3 : Int32)).toInt64)), .second, .val (.long (((u1 >>> ((2 : Int32) &&& 31)) % (3 : Int32)).toInt64)), .second, .val (.int (1 : Int32))] [(.int (1 : Int32))]))
          exact Goes.fin X12 hlk (v := some (.int (1 : Int32))) (fun h => by rw [Bd.returns] at h; cases h) (fun fs hr => retN X12 hx (t := .boolean) Bd.returns (by simp) (hb hby at_90) hr) ⟨congrArg (fun z => some (Value.int z)) (by rw [f0, if_neg hc4, if_pos hc10, if_pos hc11, if_pos hc13] : (1 : Int32) = f0 u0 u1), N12, e12⟩ (by decide) (by decide)
        · refine Goes.of (fun t k => XS.icmpYes X12.here hx rfl (pc0 := 82) (pc' := 89) rfl (hb hby at_82) rfl (feq hc13).2 (by decide) (by decide) k) ?_
          show Goes _ _ _ _ _ _ _ (T12.setTop (mkF m 89 #[.val (.long u0), .second, .val (.int u1), .val (.int (u1 &&& (3 : Int32))), .val (.long (((u1 >>> ((2 : Int32) &&& 31)) % (3 : Int32)).toInt64)), .second, .val (.long (((u1 >>> ((2 : Int32) &&& 31)) % (3 : Int32)).toInt64)), .second, .val (.int (1 : Int32))] []))
          refine Goes.of (fun t k => XS.iconst X12.here hx rfl (hb hby at_89) k) ?_
          show Goes _ _ _ _ _ _ _ (T12.setTop (mkF m 90 #[.val (.long u0), .second, .val (.int u1), .val (.int (u1 &&& (3 : Int32))), .val (.long (((u1 >>> ((2 : Int32) &&& 31)) % (3 : Int32)).toInt64)), .second, .val (.long (((u1 >>> ((2 : Int32) &&& 31)) % (3 : Int32)).toInt64)), .second, .val (.int (1 : Int32))] [(.int (0 : Int32))]))
          exact Goes.fin X12 hlk (v := some (.int (0 : Int32))) (fun h => by rw [Bd.returns] at h; cases h) (fun fs hr => retN X12 hx (t := .boolean) Bd.returns (by simp) (hb hby at_90) hr) ⟨congrArg (fun z => some (Value.int z)) (by rw [f0, if_neg hc4, if_pos hc10, if_pos hc11, if_neg hc13] : (0 : Int32) = f0 u0 u1), N12, e12⟩ (by decide) (by decide)
      · refine Goes.of (fun t k => XS.ifYes X0.here hx rfl (pc0 := 65) (pc' := 72) rfl (hb hby at_65) rfl ((if0 _ _).trans (feq (fun q => hc11 ((lw_eq _ _).mp q))).2) (by decide) (by decide) k) ?_
        show Goes _ _ _ _ _ _ _ (s₁.setTop (mkF m 72 #[.val (.long u0), .second, .val (.int u1), .val (.int (u1 &&& (3 : Int32))), .val (.long (((u1 >>> ((2 : Int32) &&& 31)) % (3 : Int32)).toInt64)), .second, .val (.long (((u1 >>> ((2 : Int32) &&& 31)) % (3 : Int32)).toInt64)), .second, .unset] []))
        refine Goes.of (fun t k => XS.iconst X0.here hx rfl (hb hby at_72) k) ?_
        show Goes _ _ _ _ _ _ _ (s₁.setTop (mkF m 73 #[.val (.long u0), .second, .val (.int u1), .val (.int (u1 &&& (3 : Int32))), .val (.long (((u1 >>> ((2 : Int32) &&& 31)) % (3 : Int32)).toInt64)), .second, .val (.long (((u1 >>> ((2 : Int32) &&& 31)) % (3 : Int32)).toInt64)), .second, .unset] [(.int (0 : Int32))]))
        refine Goes.of (fun t k => XS.istore X0.here hx rfl (hb hby at_73) rfl (l' := #[.val (.long u0), .second, .val (.int u1), .val (.int (u1 &&& (3 : Int32))), .val (.long (((u1 >>> ((2 : Int32) &&& 31)) % (3 : Int32)).toInt64)), .second, .val (.long (((u1 >>> ((2 : Int32) &&& 31)) % (3 : Int32)).toInt64)), .second, .val (.int (0 : Int32))]) rfl k) ?_
        show Goes _ _ _ _ _ _ _ (s₁.setTop (mkF m 75 #[.val (.long u0), .second, .val (.int u1), .val (.int (u1 &&& (3 : Int32))), .val (.long (((u1 >>> ((2 : Int32) &&& 31)) % (3 : Int32)).toInt64)), .second, .val (.long (((u1 >>> ((2 : Int32) &&& 31)) % (3 : Int32)).toInt64)), .second, .val (.int (0 : Int32))] []))
        refine Goes.of (fun t k => XS.lload X0.here hx rfl (hb hby at_75) rfl k) ?_
        show Goes _ _ _ _ _ _ _ (s₁.setTop (mkF m 77 #[.val (.long u0), .second, .val (.int u1), .val (.int (u1 &&& (3 : Int32))), .val (.long (((u1 >>> ((2 : Int32) &&& 31)) % (3 : Int32)).toInt64)), .second, .val (.long (((u1 >>> ((2 : Int32) &&& 31)) % (3 : Int32)).toInt64)), .second, .val (.int (0 : Int32))] [(.long (((u1 >>> ((2 : Int32) &&& 31)) % (3 : Int32)).toInt64))]))
        obtain ⟨_, _, ⟨T14, L14, k14, n14⟩, -, X14, ⟨Lc14, hQ14, l14, y14, z14⟩, st14⟩ := Jvm.LawKit.callS X0 hx (y := (⟨"com/example/preemptlens/preemptlens/SchedSwitches", "runnable", "(J)Z"⟩ : MethodName)) hown (mvT hZ (hw _ (List.mem_of_getElem? (i := 2) rfl))) (mvT hZ (hw _ (List.mem_of_getElem? (i := 3) rfl))) (mvT hZ (hw _ (List.mem_of_getElem? (i := 4) rfl))) (mvT hZ (hw _ (List.mem_of_getElem? (i := 5) rfl))) (by decide) (backOf (W := 0) (rm1 l Z a0 hw [] (((u1 >>> ((2 : Int32) &&& 31)) % (3 : Int32)).toInt64) h0 n0) hZ (hw _ (List.mem_of_getElem? (i := 5) rfl)) (hw _ (List.mem_of_getElem? (i := 4) rfl)) (by decide) (by decide)) (g := (mkF m 77 #[.val (.long u0), .second, .val (.int u1), .val (.int (u1 &&& (3 : Int32))), .val (.long (((u1 >>> ((2 : Int32) &&& 31)) % (3 : Int32)).toInt64)), .second, .val (.long (((u1 >>> ((2 : Int32) &&& 31)) % (3 : Int32)).toInt64)), .second, .val (.int (0 : Int32))] [(.long (((u1 >>> ((2 : Int32) &&& 31)) % (3 : Int32)).toInt64))])) rfl (by rw [hml]; rfl) (argsL := [(.long (((u1 >>> ((2 : Int32) &&& 31)) % (3 : Int32)).toInt64))]) (rest := []) (lenOf pd_0 rfl) rfl (by show 2 * 0 + _ ≤ _; exact Nat.le_of_eq rfl) (hb hby at_77) (fun _ _ => ⟨rfl, e0, (by decide : 0 + 0 ≤ _), (by decide : 0 + 0 ≤ _)⟩)
        dsimp only [Pt.U, Pt.locs, Pt.cells, Pt.slots] at X14 l14 y14 z14 st14 hQ14
        subst l14 y14 z14
        obtain ⟨rfl, N14q, e14⟩ := hQ14
        have N14 := Fr.app N0 N14q
        refine Goes.of st14 ?_
        show Goes _ _ _ _ _ _ _ (T14.setTop (mkF m 80 #[.val (.long u0), .second, .val (.int u1), .val (.int (u1 &&& (3 : Int32))), .val (.long (((u1 >>> ((2 : Int32) &&& 31)) % (3 : Int32)).toInt64)), .second, .val (.long (((u1 >>> ((2 : Int32) &&& 31)) % (3 : Int32)).toInt64)), .second, .val (.int (0 : Int32))] [(.int (f1 (((u1 >>> ((2 : Int32) &&& 31)) % (3 : Int32)).toInt64)))]))
        refine Goes.of (fun t k => XS.iload X14.here hx rfl (hb hby at_80) rfl k) ?_
        show Goes _ _ _ _ _ _ _ (T14.setTop (mkF m 82 #[.val (.long u0), .second, .val (.int u1), .val (.int (u1 &&& (3 : Int32))), .val (.long (((u1 >>> ((2 : Int32) &&& 31)) % (3 : Int32)).toInt64)), .second, .val (.long (((u1 >>> ((2 : Int32) &&& 31)) % (3 : Int32)).toInt64)), .second, .val (.int (0 : Int32))] [(.int (0 : Int32)), (.int (f1 (((u1 >>> ((2 : Int32) &&& 31)) % (3 : Int32)).toInt64)))]))
        by_cases hc15 : (f1 (((u1 >>> ((2 : Int32) &&& 31)) % (3 : Int32)).toInt64)) = (0 : Int32)
        · refine Goes.of (fun t k => XS.icmpNo X14.here hx rfl (hb hby at_82) rfl (teq hc15).2 k) ?_
          show Goes _ _ _ _ _ _ _ (T14.setTop (mkF m 85 #[.val (.long u0), .second, .val (.int u1), .val (.int (u1 &&& (3 : Int32))), .val (.long (((u1 >>> ((2 : Int32) &&& 31)) % (3 : Int32)).toInt64)), .second, .val (.long (((u1 >>> ((2 : Int32) &&& 31)) % (3 : Int32)).toInt64)), .second, .val (.int (0 : Int32))] []))
          refine Goes.of (fun t k => XS.iconst X14.here hx rfl (hb hby at_85) k) ?_
          show Goes _ _ _ _ _ _ _ (T14.setTop (mkF m 86 #[.val (.long u0), .second, .val (.int u1), .val (.int (u1 &&& (3 : Int32))), .val (.long (((u1 >>> ((2 : Int32) &&& 31)) % (3 : Int32)).toInt64)), .second, .val (.long (((u1 >>> ((2 : Int32) &&& 31)) % (3 : Int32)).toInt64)), .second, .val (.int (0 : Int32))] [(.int (1 : Int32))]))
          refine Goes.of (fun t k => XS.goto X14.here hx rfl (pc0 := 86) (pc' := 90) rfl (hb hby at_86) (by decide) (by decide) k) ?_
          show Goes _ _ _ _ _ _ _ (T14.setTop (mkF m 90 #[.val (.long u0), .second, .val (.int u1), .val (.int (u1 &&& (3 : Int32))), .val (.long (((u1 >>> ((2 : Int32) &&& 31)) % (3 : Int32)).toInt64)), .second, .val (.long (((u1 >>> ((2 : Int32) &&& 31)) % (3 : Int32)).toInt64)), .second, .val (.int (0 : Int32))] [(.int (1 : Int32))]))
          exact Goes.fin X14 hlk (v := some (.int (1 : Int32))) (fun h => by rw [Bd.returns] at h; cases h) (fun fs hr => retN X14 hx (t := .boolean) Bd.returns (by simp) (hb hby at_90) hr) ⟨congrArg (fun z => some (Value.int z)) (by rw [f0, if_neg hc4, if_pos hc10, if_neg hc11, if_pos hc15] : (1 : Int32) = f0 u0 u1), N14, e14⟩ (by decide) (by decide)
        · refine Goes.of (fun t k => XS.icmpYes X14.here hx rfl (pc0 := 82) (pc' := 89) rfl (hb hby at_82) rfl (feq hc15).2 (by decide) (by decide) k) ?_
          show Goes _ _ _ _ _ _ _ (T14.setTop (mkF m 89 #[.val (.long u0), .second, .val (.int u1), .val (.int (u1 &&& (3 : Int32))), .val (.long (((u1 >>> ((2 : Int32) &&& 31)) % (3 : Int32)).toInt64)), .second, .val (.long (((u1 >>> ((2 : Int32) &&& 31)) % (3 : Int32)).toInt64)), .second, .val (.int (0 : Int32))] []))
          refine Goes.of (fun t k => XS.iconst X14.here hx rfl (hb hby at_89) k) ?_
          show Goes _ _ _ _ _ _ _ (T14.setTop (mkF m 90 #[.val (.long u0), .second, .val (.int u1), .val (.int (u1 &&& (3 : Int32))), .val (.long (((u1 >>> ((2 : Int32) &&& 31)) % (3 : Int32)).toInt64)), .second, .val (.long (((u1 >>> ((2 : Int32) &&& 31)) % (3 : Int32)).toInt64)), .second, .val (.int (0 : Int32))] [(.int (0 : Int32))]))
          exact Goes.fin X14 hlk (v := some (.int (0 : Int32))) (fun h => by rw [Bd.returns] at h; cases h) (fun fs hr => retN X14 hx (t := .boolean) Bd.returns (by simp) (hb hby at_90) hr) ⟨congrArg (fun z => some (Value.int z)) (by rw [f0, if_neg hc4, if_pos hc10, if_neg hc11, if_neg hc15] : (0 : Int32) = f0 u0 u1), N14, e14⟩ (by decide) (by decide)
    · refine Goes.of (fun t k => XS.icmpYes X0.here hx rfl (pc0 := 24) (pc' := 34) rfl (hb hby at_24) rfl (feq hc10).2 (by decide) (by decide) k) ?_
      show Goes _ _ _ _ _ _ _ (s₁.setTop (mkF m 34 #[.val (.long u0), .second, .val (.int u1), .val (.int (u1 &&& (3 : Int32))), .val (.long (((u1 >>> ((2 : Int32) &&& 31)) % (3 : Int32)).toInt64)), .second, .unset, .unset, .unset] []))
      refine Goes.of (fun t k => XS.iloadN X0.here hx rfl (hb hby at_34) rfl k) ?_
      show Goes _ _ _ _ _ _ _ (s₁.setTop (mkF m 35 #[.val (.long u0), .second, .val (.int u1), .val (.int (u1 &&& (3 : Int32))), .val (.long (((u1 >>> ((2 : Int32) &&& 31)) % (3 : Int32)).toInt64)), .second, .unset, .unset, .unset] [(.int (u1 &&& (3 : Int32)))]))
      refine Goes.of (fun t k => XS.iconst X0.here hx rfl (hb hby at_35) k) ?_
      show Goes _ _ _ _ _ _ _ (s₁.setTop (mkF m 36 #[.val (.long u0), .second, .val (.int u1), .val (.int (u1 &&& (3 : Int32))), .val (.long (((u1 >>> ((2 : Int32) &&& 31)) % (3 : Int32)).toInt64)), .second, .unset, .unset, .unset] [(.int (2 : Int32)), (.int (u1 &&& (3 : Int32)))]))
      by_cases hc16 : (u1 &&& (3 : Int32)) = (2 : Int32)
      · refine Goes.of (fun t k => XS.icmpNo X0.here hx rfl (hb hby at_36) rfl (teq hc16).2 k) ?_
        show Goes _ _ _ _ _ _ _ (s₁.setTop (mkF m 39 #[.val (.long u0), .second, .val (.int u1), .val (.int (u1 &&& (3 : Int32))), .val (.long (((u1 >>> ((2 : Int32) &&& 31)) % (3 : Int32)).toInt64)), .second, .unset, .unset, .unset] []))
        refine Goes.of (fun t k => X0.ldc2Long hx hown (mvT hZ (hw _ (List.mem_of_getElem? (i := 0) rfl))) (g := (mkF m 39 #[.val (.long u0), .second, .val (.int u1), .val (.int (u1 &&& (3 : Int32))), .val (.long (((u1 >>> ((2 : Int32) &&& 31)) % (3 : Int32)).toInt64)), .second, .unset, .unset, .unset] [])) rfl (hb hby at_39) t k) ?_
        show Goes _ _ _ _ _ _ _ (s₁.setTop (mkF m 42 #[.val (.long u0), .second, .val (.int u1), .val (.int (u1 &&& (3 : Int32))), .val (.long (((u1 >>> ((2 : Int32) &&& 31)) % (3 : Int32)).toInt64)), .second, .unset, .unset, .unset] [(.long (256 : Int64))]))
        refine Goes.of (fun t k => XS.lload X0.here hx rfl (hb hby at_42) rfl k) ?_
        show Goes _ _ _ _ _ _ _ (s₁.setTop (mkF m 44 #[.val (.long u0), .second, .val (.int u1), .val (.int (u1 &&& (3 : Int32))), .val (.long (((u1 >>> ((2 : Int32) &&& 31)) % (3 : Int32)).toInt64)), .second, .unset, .unset, .unset] [(.long (((u1 >>> ((2 : Int32) &&& 31)) % (3 : Int32)).toInt64)), (.long (256 : Int64))]))
        refine Goes.of (fun t k => XS.ladd X0.here hx rfl (hb hby at_44) rfl k) ?_
        show Goes _ _ _ _ _ _ _ (s₁.setTop (mkF m 45 #[.val (.long u0), .second, .val (.int u1), .val (.int (u1 &&& (3 : Int32))), .val (.long (((u1 >>> ((2 : Int32) &&& 31)) % (3 : Int32)).toInt64)), .second, .unset, .unset, .unset] [(.long ((256 : Int64) + (((u1 >>> ((2 : Int32) &&& 31)) % (3 : Int32)).toInt64)))]))
        refine Goes.of (fun t k => XS.lstore X0.here hx rfl (hb hby at_45) rfl (l' := #[.val (.long u0), .second, .val (.int u1), .val (.int (u1 &&& (3 : Int32))), .val (.long (((u1 >>> ((2 : Int32) &&& 31)) % (3 : Int32)).toInt64)), .second, .val (.long ((256 : Int64) + (((u1 >>> ((2 : Int32) &&& 31)) % (3 : Int32)).toInt64))), .second, .unset]) rfl k) ?_
        show Goes _ _ _ _ _ _ _ (s₁.setTop (mkF m 47 #[.val (.long u0), .second, .val (.int u1), .val (.int (u1 &&& (3 : Int32))), .val (.long (((u1 >>> ((2 : Int32) &&& 31)) % (3 : Int32)).toInt64)), .second, .val (.long ((256 : Int64) + (((u1 >>> ((2 : Int32) &&& 31)) % (3 : Int32)).toInt64))), .second, .unset] []))
        refine Goes.of (fun t k => XS.goto X0.here hx rfl (pc0 := 47) (pc' := 57) rfl (hb hby at_47) (by decide) (by decide) k) ?_
        show Goes _ _ _ _ _ _ _ (s₁.setTop (mkF m 57 #[.val (.long u0), .second, .val (.int u1), .val (.int (u1 &&& (3 : Int32))), .val (.long (((u1 >>> ((2 : Int32) &&& 31)) % (3 : Int32)).toInt64)), .second, .val (.long ((256 : Int64) + (((u1 >>> ((2 : Int32) &&& 31)) % (3 : Int32)).toInt64))), .second, .unset] []))
        refine Goes.of (fun t k => XS.lload X0.here hx rfl (hb hby at_57) rfl k) ?_
        show Goes _ _ _ _ _ _ _ (s₁.setTop (mkF m 59 #[.val (.long u0), .second, .val (.int u1), .val (.int (u1 &&& (3 : Int32))), .val (.long (((u1 >>> ((2 : Int32) &&& 31)) % (3 : Int32)).toInt64)), .second, .val (.long ((256 : Int64) + (((u1 >>> ((2 : Int32) &&& 31)) % (3 : Int32)).toInt64))), .second, .unset] [(.long ((256 : Int64) + (((u1 >>> ((2 : Int32) &&& 31)) % (3 : Int32)).toInt64)))]))
        refine Goes.of (fun t k => X0.ldc2Long hx hown (mvT hZ (hw _ (List.mem_of_getElem? (i := 1) rfl))) (g := (mkF m 59 #[.val (.long u0), .second, .val (.int u1), .val (.int (u1 &&& (3 : Int32))), .val (.long (((u1 >>> ((2 : Int32) &&& 31)) % (3 : Int32)).toInt64)), .second, .val (.long ((256 : Int64) + (((u1 >>> ((2 : Int32) &&& 31)) % (3 : Int32)).toInt64))), .second, .unset] [(.long ((256 : Int64) + (((u1 >>> ((2 : Int32) &&& 31)) % (3 : Int32)).toInt64)))])) rfl (hb hby at_59) t k) ?_
        show Goes _ _ _ _ _ _ _ (s₁.setTop (mkF m 62 #[.val (.long u0), .second, .val (.int u1), .val (.int (u1 &&& (3 : Int32))), .val (.long (((u1 >>> ((2 : Int32) &&& 31)) % (3 : Int32)).toInt64)), .second, .val (.long ((256 : Int64) + (((u1 >>> ((2 : Int32) &&& 31)) % (3 : Int32)).toInt64))), .second, .unset] [(.long (-257 : Int64)), (.long ((256 : Int64) + (((u1 >>> ((2 : Int32) &&& 31)) % (3 : Int32)).toInt64)))]))
        refine Goes.of (fun t k => XS.land X0.here hx rfl (hb hby at_62) rfl k) ?_
        show Goes _ _ _ _ _ _ _ (s₁.setTop (mkF m 63 #[.val (.long u0), .second, .val (.int u1), .val (.int (u1 &&& (3 : Int32))), .val (.long (((u1 >>> ((2 : Int32) &&& 31)) % (3 : Int32)).toInt64)), .second, .val (.long ((256 : Int64) + (((u1 >>> ((2 : Int32) &&& 31)) % (3 : Int32)).toInt64))), .second, .unset] [(.long (((256 : Int64) + (((u1 >>> ((2 : Int32) &&& 31)) % (3 : Int32)).toInt64)) &&& (-257 : Int64)))]))
        refine Goes.of (fun t k => XS.lconst X0.here hx rfl (hb hby at_63) k) ?_
        show Goes _ _ _ _ _ _ _ (s₁.setTop (mkF m 64 #[.val (.long u0), .second, .val (.int u1), .val (.int (u1 &&& (3 : Int32))), .val (.long (((u1 >>> ((2 : Int32) &&& 31)) % (3 : Int32)).toInt64)), .second, .val (.long ((256 : Int64) + (((u1 >>> ((2 : Int32) &&& 31)) % (3 : Int32)).toInt64))), .second, .unset] [(.long (0 : Int64)), (.long (((256 : Int64) + (((u1 >>> ((2 : Int32) &&& 31)) % (3 : Int32)).toInt64)) &&& (-257 : Int64)))]))
        refine Goes.of (fun t k => XS.lcmp X0.here hx rfl (hb hby at_64) rfl k) ?_
        show Goes _ _ _ _ _ _ _ (s₁.setTop (mkF m 65 #[.val (.long u0), .second, .val (.int u1), .val (.int (u1 &&& (3 : Int32))), .val (.long (((u1 >>> ((2 : Int32) &&& 31)) % (3 : Int32)).toInt64)), .second, .val (.long ((256 : Int64) + (((u1 >>> ((2 : Int32) &&& 31)) % (3 : Int32)).toInt64))), .second, .unset] [(.int (lcmpW (((256 : Int64) + (((u1 >>> ((2 : Int32) &&& 31)) % (3 : Int32)).toInt64)) &&& (-257 : Int64)) (0 : Int64)))]))
        by_cases hc17 : (((256 : Int64) + (((u1 >>> ((2 : Int32) &&& 31)) % (3 : Int32)).toInt64)) &&& (-257 : Int64)) = (0 : Int64)
        · refine Goes.of (fun t k => XS.ifNo X0.here hx rfl (hb hby at_65) rfl ((if0 _ _).trans (teq ((lw_eq _ _).mpr hc17)).2) k) ?_
          show Goes _ _ _ _ _ _ _ (s₁.setTop (mkF m 68 #[.val (.long u0), .second, .val (.int u1), .val (.int (u1 &&& (3 : Int32))), .val (.long (((u1 >>> ((2 : Int32) &&& 31)) % (3 : Int32)).toInt64)), .second, .val (.long ((256 : Int64) + (((u1 >>> ((2 : Int32) &&& 31)) % (3 : Int32)).toInt64))), .second, .unset] []))
          refine Goes.of (fun t k => XS.iconst X0.here hx rfl (hb hby at_68) k) ?_
          show Goes _ _ _ _ _ _ _ (s₁.setTop (mkF m 69 #[.val (.long u0), .second, .val (.int u1), .val (.int (u1 &&& (3 : Int32))), .val (.long (((u1 >>> ((2 : Int32) &&& 31)) % (3 : Int32)).toInt64)), .second, .val (.long ((256 : Int64) + (((u1 >>> ((2 : Int32) &&& 31)) % (3 : Int32)).toInt64))), .second, .unset] [(.int (1 : Int32))]))
          refine Goes.of (fun t k => XS.goto X0.here hx rfl (pc0 := 69) (pc' := 73) rfl (hb hby at_69) (by decide) (by decide) k) ?_
          show Goes _ _ _ _ _ _ _ (s₁.setTop (mkF m 73 #[.val (.long u0), .second, .val (.int u1), .val (.int (u1 &&& (3 : Int32))), .val (.long (((u1 >>> ((2 : Int32) &&& 31)) % (3 : Int32)).toInt64)), .second, .val (.long ((256 : Int64) + (((u1 >>> ((2 : Int32) &&& 31)) % (3 : Int32)).toInt64))), .second, .unset] [(.int (1 : Int32))]))
          refine Goes.of (fun t k => XS.istore X0.here hx rfl (hb hby at_73) rfl (l' := #[.val (.long u0), .second, .val (.int u1), .val (.int (u1 &&& (3 : Int32))), .val (.long (((u1 >>> ((2 : Int32) &&& 31)) % (3 : Int32)).toInt64)), .second, .val (.long ((256 : Int64) + (((u1 >>> ((2 : Int32) &&& 31)) % (3 : Int32)).toInt64))), .second, .val (.int (1 : Int32))]) rfl k) ?_
          show Goes _ _ _ _ _ _ _ (s₁.setTop (mkF m 75 #[.val (.long u0), .second, .val (.int u1), .val (.int (u1 &&& (3 : Int32))), .val (.long (((u1 >>> ((2 : Int32) &&& 31)) % (3 : Int32)).toInt64)), .second, .val (.long ((256 : Int64) + (((u1 >>> ((2 : Int32) &&& 31)) % (3 : Int32)).toInt64))), .second, .val (.int (1 : Int32))] []))
          refine Goes.of (fun t k => XS.lload X0.here hx rfl (hb hby at_75) rfl k) ?_
          show Goes _ _ _ _ _ _ _ (s₁.setTop (mkF m 77 #[.val (.long u0), .second, .val (.int u1), .val (.int (u1 &&& (3 : Int32))), .val (.long (((u1 >>> ((2 : Int32) &&& 31)) % (3 : Int32)).toInt64)), .second, .val (.long ((256 : Int64) + (((u1 >>> ((2 : Int32) &&& 31)) % (3 : Int32)).toInt64))), .second, .val (.int (1 : Int32))] [(.long ((256 : Int64) + (((u1 >>> ((2 : Int32) &&& 31)) % (3 : Int32)).toInt64)))]))
          obtain ⟨_, _, ⟨T18, L18, k18, n18⟩, -, X18, ⟨Lc18, hQ18, l18, y18, z18⟩, st18⟩ := Jvm.LawKit.callS X0 hx (y := (⟨"com/example/preemptlens/preemptlens/SchedSwitches", "runnable", "(J)Z"⟩ : MethodName)) hown (mvT hZ (hw _ (List.mem_of_getElem? (i := 2) rfl))) (mvT hZ (hw _ (List.mem_of_getElem? (i := 3) rfl))) (mvT hZ (hw _ (List.mem_of_getElem? (i := 4) rfl))) (mvT hZ (hw _ (List.mem_of_getElem? (i := 5) rfl))) (by decide) (backOf (W := 0) (rm1 l Z a0 hw [] ((256 : Int64) + (((u1 >>> ((2 : Int32) &&& 31)) % (3 : Int32)).toInt64)) h0 n0) hZ (hw _ (List.mem_of_getElem? (i := 5) rfl)) (hw _ (List.mem_of_getElem? (i := 4) rfl)) (by decide) (by decide)) (g := (mkF m 77 #[.val (.long u0), .second, .val (.int u1), .val (.int (u1 &&& (3 : Int32))), .val (.long (((u1 >>> ((2 : Int32) &&& 31)) % (3 : Int32)).toInt64)), .second, .val (.long ((256 : Int64) + (((u1 >>> ((2 : Int32) &&& 31)) % (3 : Int32)).toInt64))), .second, .val (.int (1 : Int32))] [(.long ((256 : Int64) + (((u1 >>> ((2 : Int32) &&& 31)) % (3 : Int32)).toInt64)))])) rfl (by rw [hml]; rfl) (argsL := [(.long ((256 : Int64) + (((u1 >>> ((2 : Int32) &&& 31)) % (3 : Int32)).toInt64)))]) (rest := []) (lenOf pd_0 rfl) rfl (by show 2 * 0 + _ ≤ _; exact Nat.le_of_eq rfl) (hb hby at_77) (fun _ _ => ⟨rfl, e0, (by decide : 0 + 0 ≤ _), (by decide : 0 + 0 ≤ _)⟩)
          dsimp only [Pt.U, Pt.locs, Pt.cells, Pt.slots] at X18 l18 y18 z18 st18 hQ18
          subst l18 y18 z18
          obtain ⟨rfl, N18q, e18⟩ := hQ18
          have N18 := Fr.app N0 N18q
          refine Goes.of st18 ?_
          show Goes _ _ _ _ _ _ _ (T18.setTop (mkF m 80 #[.val (.long u0), .second, .val (.int u1), .val (.int (u1 &&& (3 : Int32))), .val (.long (((u1 >>> ((2 : Int32) &&& 31)) % (3 : Int32)).toInt64)), .second, .val (.long ((256 : Int64) + (((u1 >>> ((2 : Int32) &&& 31)) % (3 : Int32)).toInt64))), .second, .val (.int (1 : Int32))] [(.int (f1 ((256 : Int64) + (((u1 >>> ((2 : Int32) &&& 31)) % (3 : Int32)).toInt64))))]))
          refine Goes.of (fun t k => XS.iload X18.here hx rfl (hb hby at_80) rfl k) ?_
          show Goes _ _ _ _ _ _ _ (T18.setTop (mkF m 82 #[.val (.long u0), .second, .val (.int u1), .val (.int (u1 &&& (3 : Int32))), .val (.long (((u1 >>> ((2 : Int32) &&& 31)) % (3 : Int32)).toInt64)), .second, .val (.long ((256 : Int64) + (((u1 >>> ((2 : Int32) &&& 31)) % (3 : Int32)).toInt64))), .second, .val (.int (1 : Int32))] [(.int (1 : Int32)), (.int (f1 ((256 : Int64) + (((u1 >>> ((2 : Int32) &&& 31)) % (3 : Int32)).toInt64))))]))
          by_cases hc19 : (f1 ((256 : Int64) + (((u1 >>> ((2 : Int32) &&& 31)) % (3 : Int32)).toInt64))) = (1 : Int32)
          · refine Goes.of (fun t k => XS.icmpNo X18.here hx rfl (hb hby at_82) rfl (teq hc19).2 k) ?_
            show Goes _ _ _ _ _ _ _ (T18.setTop (mkF m 85 #[.val (.long u0), .second, .val (.int u1), .val (.int (u1 &&& (3 : Int32))), .val (.long (((u1 >>> ((2 : Int32) &&& 31)) % (3 : Int32)).toInt64)), .second, .val (.long ((256 : Int64) + (((u1 >>> ((2 : Int32) &&& 31)) % (3 : Int32)).toInt64))), .second, .val (.int (1 : Int32))] []))
            refine Goes.of (fun t k => XS.iconst X18.here hx rfl (hb hby at_85) k) ?_
            show Goes _ _ _ _ _ _ _ (T18.setTop (mkF m 86 #[.val (.long u0), .second, .val (.int u1), .val (.int (u1 &&& (3 : Int32))), .val (.long (((u1 >>> ((2 : Int32) &&& 31)) % (3 : Int32)).toInt64)), .second, .val (.long ((256 : Int64) + (((u1 >>> ((2 : Int32) &&& 31)) % (3 : Int32)).toInt64))), .second, .val (.int (1 : Int32))] [(.int (1 : Int32))]))
            refine Goes.of (fun t k => XS.goto X18.here hx rfl (pc0 := 86) (pc' := 90) rfl (hb hby at_86) (by decide) (by decide) k) ?_
            show Goes _ _ _ _ _ _ _ (T18.setTop (mkF m 90 #[.val (.long u0), .second, .val (.int u1), .val (.int (u1 &&& (3 : Int32))), .val (.long (((u1 >>> ((2 : Int32) &&& 31)) % (3 : Int32)).toInt64)), .second, .val (.long ((256 : Int64) + (((u1 >>> ((2 : Int32) &&& 31)) % (3 : Int32)).toInt64))), .second, .val (.int (1 : Int32))] [(.int (1 : Int32))]))
            exact Goes.fin X18 hlk (v := some (.int (1 : Int32))) (fun h => by rw [Bd.returns] at h; cases h) (fun fs hr => retN X18 hx (t := .boolean) Bd.returns (by simp) (hb hby at_90) hr) ⟨congrArg (fun z => some (Value.int z)) (by rw [f0, if_neg hc4, if_neg hc10, if_pos hc16, if_pos hc17, if_pos hc19] : (1 : Int32) = f0 u0 u1), N18, e18⟩ (by decide) (by decide)
          · refine Goes.of (fun t k => XS.icmpYes X18.here hx rfl (pc0 := 82) (pc' := 89) rfl (hb hby at_82) rfl (feq hc19).2 (by decide) (by decide) k) ?_
            show Goes _ _ _ _ _ _ _ (T18.setTop (mkF m 89 #[.val (.long u0), .second, .val (.int u1), .val (.int (u1 &&& (3 : Int32))), .val (.long (((u1 >>> ((2 : Int32) &&& 31)) % (3 : Int32)).toInt64)), .second, .val (.long ((256 : Int64) + (((u1 >>> ((2 : Int32) &&& 31)) % (3 : Int32)).toInt64))), .second, .val (.int (1 : Int32))] []))
            refine Goes.of (fun t k => XS.iconst X18.here hx rfl (hb hby at_89) k) ?_
            show Goes _ _ _ _ _ _ _ (T18.setTop (mkF m 90 #[.val (.long u0), .second, .val (.int u1), .val (.int (u1 &&& (3 : Int32))), .val (.long (((u1 >>> ((2 : Int32) &&& 31)) % (3 : Int32)).toInt64)), .second, .val (.long ((256 : Int64) + (((u1 >>> ((2 : Int32) &&& 31)) % (3 : Int32)).toInt64))), .second, .val (.int (1 : Int32))] [(.int (0 : Int32))]))
            exact Goes.fin X18 hlk (v := some (.int (0 : Int32))) (fun h => by rw [Bd.returns] at h; cases h) (fun fs hr => retN X18 hx (t := .boolean) Bd.returns (by simp) (hb hby at_90) hr) ⟨congrArg (fun z => some (Value.int z)) (by rw [f0, if_neg hc4, if_neg hc10, if_pos hc16, if_pos hc17, if_neg hc19] : (0 : Int32) = f0 u0 u1), N18, e18⟩ (by decide) (by decide)
        · refine Goes.of (fun t k => XS.ifYes X0.here hx rfl (pc0 := 65) (pc' := 72) rfl (hb hby at_65) rfl ((if0 _ _).trans (feq (fun q => hc17 ((lw_eq _ _).mp q))).2) (by decide) (by decide) k) ?_
          show Goes _ _ _ _ _ _ _ (s₁.setTop (mkF m 72 #[.val (.long u0), .second, .val (.int u1), .val (.int (u1 &&& (3 : Int32))), .val (.long (((u1 >>> ((2 : Int32) &&& 31)) % (3 : Int32)).toInt64)), .second, .val (.long ((256 : Int64) + (((u1 >>> ((2 : Int32) &&& 31)) % (3 : Int32)).toInt64))), .second, .unset] []))
          refine Goes.of (fun t k => XS.iconst X0.here hx rfl (hb hby at_72) k) ?_
          show Goes _ _ _ _ _ _ _ (s₁.setTop (mkF m 73 #[.val (.long u0), .second, .val (.int u1), .val (.int (u1 &&& (3 : Int32))), .val (.long (((u1 >>> ((2 : Int32) &&& 31)) % (3 : Int32)).toInt64)), .second, .val (.long ((256 : Int64) + (((u1 >>> ((2 : Int32) &&& 31)) % (3 : Int32)).toInt64))), .second, .unset] [(.int (0 : Int32))]))
          refine Goes.of (fun t k => XS.istore X0.here hx rfl (hb hby at_73) rfl (l' := #[.val (.long u0), .second, .val (.int u1), .val (.int (u1 &&& (3 : Int32))), .val (.long (((u1 >>> ((2 : Int32) &&& 31)) % (3 : Int32)).toInt64)), .second, .val (.long ((256 : Int64) + (((u1 >>> ((2 : Int32) &&& 31)) % (3 : Int32)).toInt64))), .second, .val (.int (0 : Int32))]) rfl k) ?_
          show Goes _ _ _ _ _ _ _ (s₁.setTop (mkF m 75 #[.val (.long u0), .second, .val (.int u1), .val (.int (u1 &&& (3 : Int32))), .val (.long (((u1 >>> ((2 : Int32) &&& 31)) % (3 : Int32)).toInt64)), .second, .val (.long ((256 : Int64) + (((u1 >>> ((2 : Int32) &&& 31)) % (3 : Int32)).toInt64))), .second, .val (.int (0 : Int32))] []))
          refine Goes.of (fun t k => XS.lload X0.here hx rfl (hb hby at_75) rfl k) ?_
          show Goes _ _ _ _ _ _ _ (s₁.setTop (mkF m 77 #[.val (.long u0), .second, .val (.int u1), .val (.int (u1 &&& (3 : Int32))), .val (.long (((u1 >>> ((2 : Int32) &&& 31)) % (3 : Int32)).toInt64)), .second, .val (.long ((256 : Int64) + (((u1 >>> ((2 : Int32) &&& 31)) % (3 : Int32)).toInt64))), .second, .val (.int (0 : Int32))] [(.long ((256 : Int64) + (((u1 >>> ((2 : Int32) &&& 31)) % (3 : Int32)).toInt64)))]))
          obtain ⟨_, _, ⟨T20, L20, k20, n20⟩, -, X20, ⟨Lc20, hQ20, l20, y20, z20⟩, st20⟩ := Jvm.LawKit.callS X0 hx (y := (⟨"com/example/preemptlens/preemptlens/SchedSwitches", "runnable", "(J)Z"⟩ : MethodName)) hown (mvT hZ (hw _ (List.mem_of_getElem? (i := 2) rfl))) (mvT hZ (hw _ (List.mem_of_getElem? (i := 3) rfl))) (mvT hZ (hw _ (List.mem_of_getElem? (i := 4) rfl))) (mvT hZ (hw _ (List.mem_of_getElem? (i := 5) rfl))) (by decide) (backOf (W := 0) (rm1 l Z a0 hw [] ((256 : Int64) + (((u1 >>> ((2 : Int32) &&& 31)) % (3 : Int32)).toInt64)) h0 n0) hZ (hw _ (List.mem_of_getElem? (i := 5) rfl)) (hw _ (List.mem_of_getElem? (i := 4) rfl)) (by decide) (by decide)) (g := (mkF m 77 #[.val (.long u0), .second, .val (.int u1), .val (.int (u1 &&& (3 : Int32))), .val (.long (((u1 >>> ((2 : Int32) &&& 31)) % (3 : Int32)).toInt64)), .second, .val (.long ((256 : Int64) + (((u1 >>> ((2 : Int32) &&& 31)) % (3 : Int32)).toInt64))), .second, .val (.int (0 : Int32))] [(.long ((256 : Int64) + (((u1 >>> ((2 : Int32) &&& 31)) % (3 : Int32)).toInt64)))])) rfl (by rw [hml]; rfl) (argsL := [(.long ((256 : Int64) + (((u1 >>> ((2 : Int32) &&& 31)) % (3 : Int32)).toInt64)))]) (rest := []) (lenOf pd_0 rfl) rfl (by show 2 * 0 + _ ≤ _; exact Nat.le_of_eq rfl) (hb hby at_77) (fun _ _ => ⟨rfl, e0, (by decide : 0 + 0 ≤ _), (by decide : 0 + 0 ≤ _)⟩)
          dsimp only [Pt.U, Pt.locs, Pt.cells, Pt.slots] at X20 l20 y20 z20 st20 hQ20
          subst l20 y20 z20
          obtain ⟨rfl, N20q, e20⟩ := hQ20
          have N20 := Fr.app N0 N20q
          refine Goes.of st20 ?_
          show Goes _ _ _ _ _ _ _ (T20.setTop (mkF m 80 #[.val (.long u0), .second, .val (.int u1), .val (.int (u1 &&& (3 : Int32))), .val (.long (((u1 >>> ((2 : Int32) &&& 31)) % (3 : Int32)).toInt64)), .second, .val (.long ((256 : Int64) + (((u1 >>> ((2 : Int32) &&& 31)) % (3 : Int32)).toInt64))), .second, .val (.int (0 : Int32))] [(.int (f1 ((256 : Int64) + (((u1 >>> ((2 : Int32) &&& 31)) % (3 : Int32)).toInt64))))]))
          refine Goes.of (fun t k => XS.iload X20.here hx rfl (hb hby at_80) rfl k) ?_
          show Goes _ _ _ _ _ _ _ (T20.setTop (mkF m 82 #[.val (.long u0), .second, .val (.int u1), .val (.int (u1 &&& (3 : Int32))), .val (.long (((u1 >>> ((2 : Int32) &&& 31)) % (3 : Int32)).toInt64)), .second, .val (.long ((256 : Int64) + (((u1 >>> ((2 : Int32) &&& 31)) % (3 : Int32)).toInt64))), .second, .val (.int (0 : Int32))] [(.int (0 : Int32)), (.int (f1 ((256 : Int64) + (((u1 >>> ((2 : Int32) &&& 31)) % (3 : Int32)).toInt64))))]))
          by_cases hc21 : (f1 ((256 : Int64) + (((u1 >>> ((2 : Int32) &&& 31)) % (3 : Int32)).toInt64))) = (0 : Int32)
          · refine Goes.of (fun t k => XS.icmpNo X20.here hx rfl (hb hby at_82) rfl (teq hc21).2 k) ?_
            show Goes _ _ _ _ _ _ _ (T20.setTop (mkF m 85 #[.val (.long u0), .second, .val (.int u1), .val (.int (u1 &&& (3 : Int32))), .val (.long (((u1 >>> ((2 : Int32) &&& 31)) % (3 : Int32)).toInt64)), .second, .val (.long ((256 : Int64) + (((u1 >>> ((2 : Int32) &&& 31)) % (3 : Int32)).toInt64))), .second, .val (.int (0 : Int32))] []))
            refine Goes.of (fun t k => XS.iconst X20.here hx rfl (hb hby at_85) k) ?_
            show Goes _ _ _ _ _ _ _ (T20.setTop (mkF m 86 #[.val (.long u0), .second, .val (.int u1), .val (.int (u1 &&& (3 : Int32))), .val (.long (((u1 >>> ((2 : Int32) &&& 31)) % (3 : Int32)).toInt64)), .second, .val (.long ((256 : Int64) + (((u1 >>> ((2 : Int32) &&& 31)) % (3 : Int32)).toInt64))), .second, .val (.int (0 : Int32))] [(.int (1 : Int32))]))
            refine Goes.of (fun t k => XS.goto X20.here hx rfl (pc0 := 86) (pc' := 90) rfl (hb hby at_86) (by decide) (by decide) k) ?_
            show Goes _ _ _ _ _ _ _ (T20.setTop (mkF m 90 #[.val (.long u0), .second, .val (.int u1), .val (.int (u1 &&& (3 : Int32))), .val (.long (((u1 >>> ((2 : Int32) &&& 31)) % (3 : Int32)).toInt64)), .second, .val (.long ((256 : Int64) + (((u1 >>> ((2 : Int32) &&& 31)) % (3 : Int32)).toInt64))), .second, .val (.int (0 : Int32))] [(.int (1 : Int32))]))
            exact Goes.fin X20 hlk (v := some (.int (1 : Int32))) (fun h => by rw [Bd.returns] at h; cases h) (fun fs hr => retN X20 hx (t := .boolean) Bd.returns (by simp) (hb hby at_90) hr) ⟨congrArg (fun z => some (Value.int z)) (by rw [f0, if_neg hc4, if_neg hc10, if_pos hc16, if_neg hc17, if_pos hc21] : (1 : Int32) = f0 u0 u1), N20, e20⟩ (by decide) (by decide)
          · refine Goes.of (fun t k => XS.icmpYes X20.here hx rfl (pc0 := 82) (pc' := 89) rfl (hb hby at_82) rfl (feq hc21).2 (by decide) (by decide) k) ?_
            show Goes _ _ _ _ _ _ _ (T20.setTop (mkF m 89 #[.val (.long u0), .second, .val (.int u1), .val (.int (u1 &&& (3 : Int32))), .val (.long (((u1 >>> ((2 : Int32) &&& 31)) % (3 : Int32)).toInt64)), .second, .val (.long ((256 : Int64) + (((u1 >>> ((2 : Int32) &&& 31)) % (3 : Int32)).toInt64))), .second, .val (.int (0 : Int32))] []))
            refine Goes.of (fun t k => XS.iconst X20.here hx rfl (hb hby at_89) k) ?_
            show Goes _ _ _ _ _ _ _ (T20.setTop (mkF m 90 #[.val (.long u0), .second, .val (.int u1), .val (.int (u1 &&& (3 : Int32))), .val (.long (((u1 >>> ((2 : Int32) &&& 31)) % (3 : Int32)).toInt64)), .second, .val (.long ((256 : Int64) + (((u1 >>> ((2 : Int32) &&& 31)) % (3 : Int32)).toInt64))), .second, .val (.int (0 : Int32))] [(.int (0 : Int32))]))
            exact Goes.fin X20 hlk (v := some (.int (0 : Int32))) (fun h => by rw [Bd.returns] at h; cases h) (fun fs hr => retN X20 hx (t := .boolean) Bd.returns (by simp) (hb hby at_90) hr) ⟨congrArg (fun z => some (Value.int z)) (by rw [f0, if_neg hc4, if_neg hc10, if_pos hc16, if_neg hc17, if_neg hc21] : (0 : Int32) = f0 u0 u1), N20, e20⟩ (by decide) (by decide)
      · refine Goes.of (fun t k => XS.icmpYes X0.here hx rfl (pc0 := 36) (pc' := 50) rfl (hb hby at_36) rfl (feq hc16).2 (by decide) (by decide) k) ?_
        show Goes _ _ _ _ _ _ _ (s₁.setTop (mkF m 50 #[.val (.long u0), .second, .val (.int u1), .val (.int (u1 &&& (3 : Int32))), .val (.long (((u1 >>> ((2 : Int32) &&& 31)) % (3 : Int32)).toInt64)), .second, .unset, .unset, .unset] []))
        refine Goes.of (fun t k => XS.lloadN X0.here hx rfl (hb hby at_50) rfl k) ?_
        show Goes _ _ _ _ _ _ _ (s₁.setTop (mkF m 51 #[.val (.long u0), .second, .val (.int u1), .val (.int (u1 &&& (3 : Int32))), .val (.long (((u1 >>> ((2 : Int32) &&& 31)) % (3 : Int32)).toInt64)), .second, .unset, .unset, .unset] [(.long u0)]))
        refine Goes.of (fun t k => X0.ldc2Long hx hown (mvT hZ (hw _ (List.mem_of_getElem? (i := 0) rfl))) (g := (mkF m 51 #[.val (.long u0), .second, .val (.int u1), .val (.int (u1 &&& (3 : Int32))), .val (.long (((u1 >>> ((2 : Int32) &&& 31)) % (3 : Int32)).toInt64)), .second, .unset, .unset, .unset] [(.long u0)])) rfl (hb hby at_51) t k) ?_
        show Goes _ _ _ _ _ _ _ (s₁.setTop (mkF m 54 #[.val (.long u0), .second, .val (.int u1), .val (.int (u1 &&& (3 : Int32))), .val (.long (((u1 >>> ((2 : Int32) &&& 31)) % (3 : Int32)).toInt64)), .second, .unset, .unset, .unset] [(.long (256 : Int64)), (.long u0)]))
        refine Goes.of (fun t k => XS.lxor X0.here hx rfl (hb hby at_54) rfl k) ?_
        show Goes _ _ _ _ _ _ _ (s₁.setTop (mkF m 55 #[.val (.long u0), .second, .val (.int u1), .val (.int (u1 &&& (3 : Int32))), .val (.long (((u1 >>> ((2 : Int32) &&& 31)) % (3 : Int32)).toInt64)), .second, .unset, .unset, .unset] [(.long (u0 ^^^ (256 : Int64)))]))
        refine Goes.of (fun t k => XS.lstore X0.here hx rfl (hb hby at_55) rfl (l' := #[.val (.long u0), .second, .val (.int u1), .val (.int (u1 &&& (3 : Int32))), .val (.long (((u1 >>> ((2 : Int32) &&& 31)) % (3 : Int32)).toInt64)), .second, .val (.long (u0 ^^^ (256 : Int64))), .second, .unset]) rfl k) ?_
        show Goes _ _ _ _ _ _ _ (s₁.setTop (mkF m 57 #[.val (.long u0), .second, .val (.int u1), .val (.int (u1 &&& (3 : Int32))), .val (.long (((u1 >>> ((2 : Int32) &&& 31)) % (3 : Int32)).toInt64)), .second, .val (.long (u0 ^^^ (256 : Int64))), .second, .unset] []))
        refine Goes.of (fun t k => XS.lload X0.here hx rfl (hb hby at_57) rfl k) ?_
        show Goes _ _ _ _ _ _ _ (s₁.setTop (mkF m 59 #[.val (.long u0), .second, .val (.int u1), .val (.int (u1 &&& (3 : Int32))), .val (.long (((u1 >>> ((2 : Int32) &&& 31)) % (3 : Int32)).toInt64)), .second, .val (.long (u0 ^^^ (256 : Int64))), .second, .unset] [(.long (u0 ^^^ (256 : Int64)))]))
        refine Goes.of (fun t k => X0.ldc2Long hx hown (mvT hZ (hw _ (List.mem_of_getElem? (i := 1) rfl))) (g := (mkF m 59 #[.val (.long u0), .second, .val (.int u1), .val (.int (u1 &&& (3 : Int32))), .val (.long (((u1 >>> ((2 : Int32) &&& 31)) % (3 : Int32)).toInt64)), .second, .val (.long (u0 ^^^ (256 : Int64))), .second, .unset] [(.long (u0 ^^^ (256 : Int64)))])) rfl (hb hby at_59) t k) ?_
        show Goes _ _ _ _ _ _ _ (s₁.setTop (mkF m 62 #[.val (.long u0), .second, .val (.int u1), .val (.int (u1 &&& (3 : Int32))), .val (.long (((u1 >>> ((2 : Int32) &&& 31)) % (3 : Int32)).toInt64)), .second, .val (.long (u0 ^^^ (256 : Int64))), .second, .unset] [(.long (-257 : Int64)), (.long (u0 ^^^ (256 : Int64)))]))
        refine Goes.of (fun t k => XS.land X0.here hx rfl (hb hby at_62) rfl k) ?_
        show Goes _ _ _ _ _ _ _ (s₁.setTop (mkF m 63 #[.val (.long u0), .second, .val (.int u1), .val (.int (u1 &&& (3 : Int32))), .val (.long (((u1 >>> ((2 : Int32) &&& 31)) % (3 : Int32)).toInt64)), .second, .val (.long (u0 ^^^ (256 : Int64))), .second, .unset] [(.long ((u0 ^^^ (256 : Int64)) &&& (-257 : Int64)))]))
        refine Goes.of (fun t k => XS.lconst X0.here hx rfl (hb hby at_63) k) ?_
        show Goes _ _ _ _ _ _ _ (s₁.setTop (mkF m 64 #[.val (.long u0), .second, .val (.int u1), .val (.int (u1 &&& (3 : Int32))), .val (.long (((u1 >>> ((2 : Int32) &&& 31)) % (3 : Int32)).toInt64)), .second, .val (.long (u0 ^^^ (256 : Int64))), .second, .unset] [(.long (0 : Int64)), (.long ((u0 ^^^ (256 : Int64)) &&& (-257 : Int64)))]))
        refine Goes.of (fun t k => XS.lcmp X0.here hx rfl (hb hby at_64) rfl k) ?_
        show Goes _ _ _ _ _ _ _ (s₁.setTop (mkF m 65 #[.val (.long u0), .second, .val (.int u1), .val (.int (u1 &&& (3 : Int32))), .val (.long (((u1 >>> ((2 : Int32) &&& 31)) % (3 : Int32)).toInt64)), .second, .val (.long (u0 ^^^ (256 : Int64))), .second, .unset] [(.int (lcmpW ((u0 ^^^ (256 : Int64)) &&& (-257 : Int64)) (0 : Int64)))]))
        by_cases hc22 : ((u0 ^^^ (256 : Int64)) &&& (-257 : Int64)) = (0 : Int64)
        · refine Goes.of (fun t k => XS.ifNo X0.here hx rfl (hb hby at_65) rfl ((if0 _ _).trans (teq ((lw_eq _ _).mpr hc22)).2) k) ?_
          show Goes _ _ _ _ _ _ _ (s₁.setTop (mkF m 68 #[.val (.long u0), .second, .val (.int u1), .val (.int (u1 &&& (3 : Int32))), .val (.long (((u1 >>> ((2 : Int32) &&& 31)) % (3 : Int32)).toInt64)), .second, .val (.long (u0 ^^^ (256 : Int64))), .second, .unset] []))
          refine Goes.of (fun t k => XS.iconst X0.here hx rfl (hb hby at_68) k) ?_
          show Goes _ _ _ _ _ _ _ (s₁.setTop (mkF m 69 #[.val (.long u0), .second, .val (.int u1), .val (.int (u1 &&& (3 : Int32))), .val (.long (((u1 >>> ((2 : Int32) &&& 31)) % (3 : Int32)).toInt64)), .second, .val (.long (u0 ^^^ (256 : Int64))), .second, .unset] [(.int (1 : Int32))]))
          refine Goes.of (fun t k => XS.goto X0.here hx rfl (pc0 := 69) (pc' := 73) rfl (hb hby at_69) (by decide) (by decide) k) ?_
          show Goes _ _ _ _ _ _ _ (s₁.setTop (mkF m 73 #[.val (.long u0), .second, .val (.int u1), .val (.int (u1 &&& (3 : Int32))), .val (.long (((u1 >>> ((2 : Int32) &&& 31)) % (3 : Int32)).toInt64)), .second, .val (.long (u0 ^^^ (256 : Int64))), .second, .unset] [(.int (1 : Int32))]))
          refine Goes.of (fun t k => XS.istore X0.here hx rfl (hb hby at_73) rfl (l' := #[.val (.long u0), .second, .val (.int u1), .val (.int (u1 &&& (3 : Int32))), .val (.long (((u1 >>> ((2 : Int32) &&& 31)) % (3 : Int32)).toInt64)), .second, .val (.long (u0 ^^^ (256 : Int64))), .second, .val (.int (1 : Int32))]) rfl k) ?_
          show Goes _ _ _ _ _ _ _ (s₁.setTop (mkF m 75 #[.val (.long u0), .second, .val (.int u1), .val (.int (u1 &&& (3 : Int32))), .val (.long (((u1 >>> ((2 : Int32) &&& 31)) % (3 : Int32)).toInt64)), .second, .val (.long (u0 ^^^ (256 : Int64))), .second, .val (.int (1 : Int32))] []))
          refine Goes.of (fun t k => XS.lload X0.here hx rfl (hb hby at_75) rfl k) ?_
          show Goes _ _ _ _ _ _ _ (s₁.setTop (mkF m 77 #[.val (.long u0), .second, .val (.int u1), .val (.int (u1 &&& (3 : Int32))), .val (.long (((u1 >>> ((2 : Int32) &&& 31)) % (3 : Int32)).toInt64)), .second, .val (.long (u0 ^^^ (256 : Int64))), .second, .val (.int (1 : Int32))] [(.long (u0 ^^^ (256 : Int64)))]))
          obtain ⟨_, _, ⟨T23, L23, k23, n23⟩, -, X23, ⟨Lc23, hQ23, l23, y23, z23⟩, st23⟩ := Jvm.LawKit.callS X0 hx (y := (⟨"com/example/preemptlens/preemptlens/SchedSwitches", "runnable", "(J)Z"⟩ : MethodName)) hown (mvT hZ (hw _ (List.mem_of_getElem? (i := 2) rfl))) (mvT hZ (hw _ (List.mem_of_getElem? (i := 3) rfl))) (mvT hZ (hw _ (List.mem_of_getElem? (i := 4) rfl))) (mvT hZ (hw _ (List.mem_of_getElem? (i := 5) rfl))) (by decide) (backOf (W := 0) (rm1 l Z a0 hw [] (u0 ^^^ (256 : Int64)) h0 n0) hZ (hw _ (List.mem_of_getElem? (i := 5) rfl)) (hw _ (List.mem_of_getElem? (i := 4) rfl)) (by decide) (by decide)) (g := (mkF m 77 #[.val (.long u0), .second, .val (.int u1), .val (.int (u1 &&& (3 : Int32))), .val (.long (((u1 >>> ((2 : Int32) &&& 31)) % (3 : Int32)).toInt64)), .second, .val (.long (u0 ^^^ (256 : Int64))), .second, .val (.int (1 : Int32))] [(.long (u0 ^^^ (256 : Int64)))])) rfl (by rw [hml]; rfl) (argsL := [(.long (u0 ^^^ (256 : Int64)))]) (rest := []) (lenOf pd_0 rfl) rfl (by show 2 * 0 + _ ≤ _; exact Nat.le_of_eq rfl) (hb hby at_77) (fun _ _ => ⟨rfl, e0, (by decide : 0 + 0 ≤ _), (by decide : 0 + 0 ≤ _)⟩)
          dsimp only [Pt.U, Pt.locs, Pt.cells, Pt.slots] at X23 l23 y23 z23 st23 hQ23
          subst l23 y23 z23
          obtain ⟨rfl, N23q, e23⟩ := hQ23
          have N23 := Fr.app N0 N23q
          refine Goes.of st23 ?_
          show Goes _ _ _ _ _ _ _ (T23.setTop (mkF m 80 #[.val (.long u0), .second, .val (.int u1), .val (.int (u1 &&& (3 : Int32))), .val (.long (((u1 >>> ((2 : Int32) &&& 31)) % (3 : Int32)).toInt64)), .second, .val (.long (u0 ^^^ (256 : Int64))), .second, .val (.int (1 : Int32))] [(.int (f1 (u0 ^^^ (256 : Int64))))]))
          refine Goes.of (fun t k => XS.iload X23.here hx rfl (hb hby at_80) rfl k) ?_
          show Goes _ _ _ _ _ _ _ (T23.setTop (mkF m 82 #[.val (.long u0), .second, .val (.int u1), .val (.int (u1 &&& (3 : Int32))), .val (.long (((u1 >>> ((2 : Int32) &&& 31)) % (3 : Int32)).toInt64)), .second, .val (.long (u0 ^^^ (256 : Int64))), .second, .val (.int (1 : Int32))] [(.int (1 : Int32)), (.int (f1 (u0 ^^^ (256 : Int64))))]))
          by_cases hc24 : (f1 (u0 ^^^ (256 : Int64))) = (1 : Int32)
          · refine Goes.of (fun t k => XS.icmpNo X23.here hx rfl (hb hby at_82) rfl (teq hc24).2 k) ?_
            show Goes _ _ _ _ _ _ _ (T23.setTop (mkF m 85 #[.val (.long u0), .second, .val (.int u1), .val (.int (u1 &&& (3 : Int32))), .val (.long (((u1 >>> ((2 : Int32) &&& 31)) % (3 : Int32)).toInt64)), .second, .val (.long (u0 ^^^ (256 : Int64))), .second, .val (.int (1 : Int32))] []))
            refine Goes.of (fun t k => XS.iconst X23.here hx rfl (hb hby at_85) k) ?_
            show Goes _ _ _ _ _ _ _ (T23.setTop (mkF m 86 #[.val (.long u0), .second, .val (.int u1), .val (.int (u1 &&& (3 : Int32))), .val (.long (((u1 >>> ((2 : Int32) &&& 31)) % (3 : Int32)).toInt64)), .second, .val (.long (u0 ^^^ (256 : Int64))), .second, .val (.int (1 : Int32))] [(.int (1 : Int32))]))
            refine Goes.of (fun t k => XS.goto X23.here hx rfl (pc0 := 86) (pc' := 90) rfl (hb hby at_86) (by decide) (by decide) k) ?_
            show Goes _ _ _ _ _ _ _ (T23.setTop (mkF m 90 #[.val (.long u0), .second, .val (.int u1), .val (.int (u1 &&& (3 : Int32))), .val (.long (((u1 >>> ((2 : Int32) &&& 31)) % (3 : Int32)).toInt64)), .second, .val (.long (u0 ^^^ (256 : Int64))), .second, .val (.int (1 : Int32))] [(.int (1 : Int32))]))
            exact Goes.fin X23 hlk (v := some (.int (1 : Int32))) (fun h => by rw [Bd.returns] at h; cases h) (fun fs hr => retN X23 hx (t := .boolean) Bd.returns (by simp) (hb hby at_90) hr) ⟨congrArg (fun z => some (Value.int z)) (by rw [f0, if_neg hc4, if_neg hc10, if_neg hc16, if_pos hc22, if_pos hc24] : (1 : Int32) = f0 u0 u1), N23, e23⟩ (by decide) (by decide)
          · refine Goes.of (fun t k => XS.icmpYes X23.here hx rfl (pc0 := 82) (pc' := 89) rfl (hb hby at_82) rfl (feq hc24).2 (by decide) (by decide) k) ?_
            show Goes _ _ _ _ _ _ _ (T23.setTop (mkF m 89 #[.val (.long u0), .second, .val (.int u1), .val (.int (u1 &&& (3 : Int32))), .val (.long (((u1 >>> ((2 : Int32) &&& 31)) % (3 : Int32)).toInt64)), .second, .val (.long (u0 ^^^ (256 : Int64))), .second, .val (.int (1 : Int32))] []))
            refine Goes.of (fun t k => XS.iconst X23.here hx rfl (hb hby at_89) k) ?_
            show Goes _ _ _ _ _ _ _ (T23.setTop (mkF m 90 #[.val (.long u0), .second, .val (.int u1), .val (.int (u1 &&& (3 : Int32))), .val (.long (((u1 >>> ((2 : Int32) &&& 31)) % (3 : Int32)).toInt64)), .second, .val (.long (u0 ^^^ (256 : Int64))), .second, .val (.int (1 : Int32))] [(.int (0 : Int32))]))
            exact Goes.fin X23 hlk (v := some (.int (0 : Int32))) (fun h => by rw [Bd.returns] at h; cases h) (fun fs hr => retN X23 hx (t := .boolean) Bd.returns (by simp) (hb hby at_90) hr) ⟨congrArg (fun z => some (Value.int z)) (by rw [f0, if_neg hc4, if_neg hc10, if_neg hc16, if_pos hc22, if_neg hc24] : (0 : Int32) = f0 u0 u1), N23, e23⟩ (by decide) (by decide)
        · refine Goes.of (fun t k => XS.ifYes X0.here hx rfl (pc0 := 65) (pc' := 72) rfl (hb hby at_65) rfl ((if0 _ _).trans (feq (fun q => hc22 ((lw_eq _ _).mp q))).2) (by decide) (by decide) k) ?_
          show Goes _ _ _ _ _ _ _ (s₁.setTop (mkF m 72 #[.val (.long u0), .second, .val (.int u1), .val (.int (u1 &&& (3 : Int32))), .val (.long (((u1 >>> ((2 : Int32) &&& 31)) % (3 : Int32)).toInt64)), .second, .val (.long (u0 ^^^ (256 : Int64))), .second, .unset] []))
          refine Goes.of (fun t k => XS.iconst X0.here hx rfl (hb hby at_72) k) ?_
          show Goes _ _ _ _ _ _ _ (s₁.setTop (mkF m 73 #[.val (.long u0), .second, .val (.int u1), .val (.int (u1 &&& (3 : Int32))), .val (.long (((u1 >>> ((2 : Int32) &&& 31)) % (3 : Int32)).toInt64)), .second, .val (.long (u0 ^^^ (256 : Int64))), .second, .unset] [(.int (0 : Int32))]))
          refine Goes.of (fun t k => XS.istore X0.here hx rfl (hb hby at_73) rfl (l' := #[.val (.long u0), .second, .val (.int u1), .val (.int (u1 &&& (3 : Int32))), .val (.long (((u1 >>> ((2 : Int32) &&& 31)) % (3 : Int32)).toInt64)), .second, .val (.long (u0 ^^^ (256 : Int64))), .second, .val (.int (0 : Int32))]) rfl k) ?_
          show Goes _ _ _ _ _ _ _ (s₁.setTop (mkF m 75 #[.val (.long u0), .second, .val (.int u1), .val (.int (u1 &&& (3 : Int32))), .val (.long (((u1 >>> ((2 : Int32) &&& 31)) % (3 : Int32)).toInt64)), .second, .val (.long (u0 ^^^ (256 : Int64))), .second, .val (.int (0 : Int32))] []))
          refine Goes.of (fun t k => XS.lload X0.here hx rfl (hb hby at_75) rfl k) ?_
          show Goes _ _ _ _ _ _ _ (s₁.setTop (mkF m 77 #[.val (.long u0), .second, .val (.int u1), .val (.int (u1 &&& (3 : Int32))), .val (.long (((u1 >>> ((2 : Int32) &&& 31)) % (3 : Int32)).toInt64)), .second, .val (.long (u0 ^^^ (256 : Int64))), .second, .val (.int (0 : Int32))] [(.long (u0 ^^^ (256 : Int64)))]))
          obtain ⟨_, _, ⟨T25, L25, k25, n25⟩, -, X25, ⟨Lc25, hQ25, l25, y25, z25⟩, st25⟩ := Jvm.LawKit.callS X0 hx (y := (⟨"com/example/preemptlens/preemptlens/SchedSwitches", "runnable", "(J)Z"⟩ : MethodName)) hown (mvT hZ (hw _ (List.mem_of_getElem? (i := 2) rfl))) (mvT hZ (hw _ (List.mem_of_getElem? (i := 3) rfl))) (mvT hZ (hw _ (List.mem_of_getElem? (i := 4) rfl))) (mvT hZ (hw _ (List.mem_of_getElem? (i := 5) rfl))) (by decide) (backOf (W := 0) (rm1 l Z a0 hw [] (u0 ^^^ (256 : Int64)) h0 n0) hZ (hw _ (List.mem_of_getElem? (i := 5) rfl)) (hw _ (List.mem_of_getElem? (i := 4) rfl)) (by decide) (by decide)) (g := (mkF m 77 #[.val (.long u0), .second, .val (.int u1), .val (.int (u1 &&& (3 : Int32))), .val (.long (((u1 >>> ((2 : Int32) &&& 31)) % (3 : Int32)).toInt64)), .second, .val (.long (u0 ^^^ (256 : Int64))), .second, .val (.int (0 : Int32))] [(.long (u0 ^^^ (256 : Int64)))])) rfl (by rw [hml]; rfl) (argsL := [(.long (u0 ^^^ (256 : Int64)))]) (rest := []) (lenOf pd_0 rfl) rfl (by show 2 * 0 + _ ≤ _; exact Nat.le_of_eq rfl) (hb hby at_77) (fun _ _ => ⟨rfl, e0, (by decide : 0 + 0 ≤ _), (by decide : 0 + 0 ≤ _)⟩)
          dsimp only [Pt.U, Pt.locs, Pt.cells, Pt.slots] at X25 l25 y25 z25 st25 hQ25
          subst l25 y25 z25
          obtain ⟨rfl, N25q, e25⟩ := hQ25
          have N25 := Fr.app N0 N25q
          refine Goes.of st25 ?_
          show Goes _ _ _ _ _ _ _ (T25.setTop (mkF m 80 #[.val (.long u0), .second, .val (.int u1), .val (.int (u1 &&& (3 : Int32))), .val (.long (((u1 >>> ((2 : Int32) &&& 31)) % (3 : Int32)).toInt64)), .second, .val (.long (u0 ^^^ (256 : Int64))), .second, .val (.int (0 : Int32))] [(.int (f1 (u0 ^^^ (256 : Int64))))]))
          refine Goes.of (fun t k => XS.iload X25.here hx rfl (hb hby at_80) rfl k) ?_
          show Goes _ _ _ _ _ _ _ (T25.setTop (mkF m 82 #[.val (.long u0), .second, .val (.int u1), .val (.int (u1 &&& (3 : Int32))), .val (.long (((u1 >>> ((2 : Int32) &&& 31)) % (3 : Int32)).toInt64)), .second, .val (.long (u0 ^^^ (256 : Int64))), .second, .val (.int (0 : Int32))] [(.int (0 : Int32)), (.int (f1 (u0 ^^^ (256 : Int64))))]))
          by_cases hc26 : (f1 (u0 ^^^ (256 : Int64))) = (0 : Int32)
          · refine Goes.of (fun t k => XS.icmpNo X25.here hx rfl (hb hby at_82) rfl (teq hc26).2 k) ?_
            show Goes _ _ _ _ _ _ _ (T25.setTop (mkF m 85 #[.val (.long u0), .second, .val (.int u1), .val (.int (u1 &&& (3 : Int32))), .val (.long (((u1 >>> ((2 : Int32) &&& 31)) % (3 : Int32)).toInt64)), .second, .val (.long (u0 ^^^ (256 : Int64))), .second, .val (.int (0 : Int32))] []))
            refine Goes.of (fun t k => XS.iconst X25.here hx rfl (hb hby at_85) k) ?_
            show Goes _ _ _ _ _ _ _ (T25.setTop (mkF m 86 #[.val (.long u0), .second, .val (.int u1), .val (.int (u1 &&& (3 : Int32))), .val (.long (((u1 >>> ((2 : Int32) &&& 31)) % (3 : Int32)).toInt64)), .second, .val (.long (u0 ^^^ (256 : Int64))), .second, .val (.int (0 : Int32))] [(.int (1 : Int32))]))
            refine Goes.of (fun t k => XS.goto X25.here hx rfl (pc0 := 86) (pc' := 90) rfl (hb hby at_86) (by decide) (by decide) k) ?_
            show Goes _ _ _ _ _ _ _ (T25.setTop (mkF m 90 #[.val (.long u0), .second, .val (.int u1), .val (.int (u1 &&& (3 : Int32))), .val (.long (((u1 >>> ((2 : Int32) &&& 31)) % (3 : Int32)).toInt64)), .second, .val (.long (u0 ^^^ (256 : Int64))), .second, .val (.int (0 : Int32))] [(.int (1 : Int32))]))
            exact Goes.fin X25 hlk (v := some (.int (1 : Int32))) (fun h => by rw [Bd.returns] at h; cases h) (fun fs hr => retN X25 hx (t := .boolean) Bd.returns (by simp) (hb hby at_90) hr) ⟨congrArg (fun z => some (Value.int z)) (by rw [f0, if_neg hc4, if_neg hc10, if_neg hc16, if_neg hc22, if_pos hc26] : (1 : Int32) = f0 u0 u1), N25, e25⟩ (by decide) (by decide)
          · refine Goes.of (fun t k => XS.icmpYes X25.here hx rfl (pc0 := 82) (pc' := 89) rfl (hb hby at_82) rfl (feq hc26).2 (by decide) (by decide) k) ?_
            show Goes _ _ _ _ _ _ _ (T25.setTop (mkF m 89 #[.val (.long u0), .second, .val (.int u1), .val (.int (u1 &&& (3 : Int32))), .val (.long (((u1 >>> ((2 : Int32) &&& 31)) % (3 : Int32)).toInt64)), .second, .val (.long (u0 ^^^ (256 : Int64))), .second, .val (.int (0 : Int32))] []))
            refine Goes.of (fun t k => XS.iconst X25.here hx rfl (hb hby at_89) k) ?_
            show Goes _ _ _ _ _ _ _ (T25.setTop (mkF m 90 #[.val (.long u0), .second, .val (.int u1), .val (.int (u1 &&& (3 : Int32))), .val (.long (((u1 >>> ((2 : Int32) &&& 31)) % (3 : Int32)).toInt64)), .second, .val (.long (u0 ^^^ (256 : Int64))), .second, .val (.int (0 : Int32))] [(.int (0 : Int32))]))
            exact Goes.fin X25 hlk (v := some (.int (0 : Int32))) (fun h => by rw [Bd.returns] at h; cases h) (fun fs hr => retN X25 hx (t := .boolean) Bd.returns (by simp) (hb hby at_90) hr) ⟨congrArg (fun z => some (Value.int z)) (by rw [f0, if_neg hc4, if_neg hc10, if_neg hc16, if_neg hc22, if_neg hc26] : (0 : Int32) = f0 u0 u1), N25, e25⟩ (by decide) (by decide)
theorem own_iff (a : Int64) : a &&& (-257 : Int64) = 0 ↔ a = 0 ∨ a = 256 := by
  constructor
  · intro h
    have h1 : a.toBitVec &&& (-257 : Int64).toBitVec = 0#64 := by rw [← Int64.toBitVec_and, h]; rfl
    have h2 : a.toBitVec = a.toBitVec &&& BitVec.twoPow 64 8 := by
      have e : a.toBitVec = (a.toBitVec &&& (-257 : Int64).toBitVec) ||| (a.toBitVec &&& BitVec.twoPow 64 8) := by
        rw [← BitVec.and_or_distrib_left, show (-257 : Int64).toBitVec ||| BitVec.twoPow 64 8 = BitVec.allOnes 64 by decide, BitVec.and_allOnes]
      rw [h1, BitVec.zero_or] at e
      exact e
    rw [BitVec.and_twoPow] at h2
    split at h2
    · right; exact Int64.toBitVec_inj.mp (by rw [h2]; decide)
    · left; exact Int64.toBitVec_inj.mp (by rw [h2]; decide)
  · rintro (rfl | rfl) <;> decide
theorem own_one (a : Int64) : (if a &&& (-257 : Int64) = (0 : Int64) then (if f1 a = (1 : Int32) then (1 : Int32) else (0 : Int32)) else (if f1 a = (0 : Int32) then (1 : Int32) else (0 : Int32))) = 1 := by
  by_cases h : a &&& (-257 : Int64) = 0
  · rw [if_pos h, if_pos]
    unfold f1
    rcases (own_iff a).mp h with rfl | rfl
    · rfl
    · rfl
  · rw [if_neg h, if_pos]
    have h' := fun q => h ((own_iff a).mpr q)
    unfold f1
    rw [if_neg fun q => h' (Or.inl q), if_neg fun q => h' (Or.inr q)]
theorem own_law (u0 : Int64) (u1 : Int32) : f0 u0 u1 = 1 := by
  unfold f0
  by_cases h0 : u1 &&& 3 = 0
  · rw [if_pos h0]; exact own_one _
  · rw [if_neg h0]
    by_cases h1 : u1 &&& 3 = 1
    · rw [if_pos h1]; exact own_one _
    · rw [if_neg h1]
      by_cases h2 : u1 &&& 3 = 2
      · rw [if_pos h2]; exact own_one _
      · rw [if_neg h2]; exact own_one _
set_option maxRecDepth 65536 in
set_option maxHeartbeats 40000000 in
theorem comes_1 {Post : Tables → Env → Array Value → State → Outcome → State → Prop} (hpost : ∀ tb e args s v u, (limb_1_1.after args s (.returned v) u = true ∧ limb_1_2.after args s (.returned v) u = true ∧ True) → FrameEnd s (.returned v) u (Jvm.fieldLocs frame_1_writes args s ++ Jvm.arrayLocs frame_1_arrays args s ++ Jvm.staticLocs frame_1_statics s) 0 0 → Post tb e args s (.returned v) u) :
    ArmFor flags0 classFile x code maxLocals ret World_1 tables_1 room_1 Calls_1 rest_1 Pre_1 Post := by
  intro l hfl _ _ p e ha hc hk s m args below hf hA hF happ hP
  obtain ⟨hcalls, hrest, hpre⟩ := hP
  obtain ⟨-, -, -, hnamed, -, -, -, hat⟩ := (Spec.applies_iff hf).mp happ
  obtain ⟨hg, hn⟩ := and_e (Cond.before_iff.mp (show (Jvm.Cond.and given_1 narrow_1).before args s = true from hpre))
  obtain ⟨g27, g28⟩ := and_e hg
  obtain ⟨g29, g30⟩ := and_e g28
  obtain ⟨w0, w1, rfl⟩ : ∃ w0 w1 : Value, args = #[w0, w1] := by
    have hs : args.size = 2 := by simpa [Cond.value, given_1] using g27
    obtain ⟨L⟩ := args
    match L, hs with
    | [w0, w1], _ => exact ⟨w0, w1, rfl⟩
  have hw := fun d (hd : d ∈ tables_1) => atoms_spec (ws := Jvm.Cond.code x code maxLocals ret :: tables_1) hat d (List.mem_cons_of_mem _ hd)
  obtain ⟨i0, ei0⟩ := isL_v g29
  obtain rfl : w0 = (.long i0) := Option.some.inj ei0
  obtain ⟨i1, ei1⟩ := is_v g30
  obtain rfl : w1 = (.int i1) := Option.some.inj ei1
  obtain ⟨n, o, h1, h2, h3, _, L, rfl, ⟨rfl, N, -⟩, hq⟩ := rm0 l s _ hw tables_1 i0 i1 s.heap s.heap.size p e ha hc hk s m _ below hf ((Spec.applies_iff_loose hf).mp happ).1 ⟨rfl, State.Warmed39.refl s, rfl⟩ trivial
  exact ⟨n, _, h1, h2, h3, hpost _ _ _ _ _ _ ⟨Cond.after_iff.mpr rfl, Cond.after_iff.mpr (eq_i res_at (Term.int_eval (1)) (congrArg Value.int (own_law i0 i1))), trivial⟩ ⟨hq.1, hq.2.1, (hq.2.2.sift fun y hy => Or.inr (N y hy)).mono (by decide) (by decide)⟩⟩
theorem main_1_1 : Claimed_1_1 := comes_1 fun _ _ _ _ _ _ h hF => ⟨h.1, hF⟩
theorem main_1_2 : Claimed_1_2 := comes_1 fun _ _ _ _ _ _ h hF => ⟨h.2.1, hF⟩
end Jvm.Pilot.@@N@@
namespace Jvm.Pilot.@@N@@
open Jvm Jvm.ClassFile Sem Op Lib Jvm.Free Jvm.Stand Jvm.Pilot.@@N@@.Jvm.D
/-! MADE BY PROGRAM (witnessworld.py) out of the Statement's table words and the real class files: 9 classes; the members and pool entries that the words name. The judged class is class 1, her method 1. -/
namespace start1
open Jvm.ClassFile
def u (s : String) : CpInfo := .utf8 (stringToUtf16 s)
/-- a pool by its gaps: so many unusable entries, then the entry; so many at the end -/
def gap : Nat → List CpInfo → List CpInfo
  | 0, r => r
  | n + 1, r => .unusable :: gap n r
def poolList (es : List (Nat × CpInfo)) (last : Nat) : List CpInfo := es.foldr (fun e r => gap e.1 (e.2 :: r)) (gap last [])
def pool (es : List (Nat × CpInfo)) (last : Nat) : Array CpInfo := ⟨poolList es last⟩
def fileOf (pool : Array CpInfo) (this : Nat) (attrs : Array Attribute := #[]) (ms : Array MethodInfo := #[]) (fl : Nat := 33) (sup : Nat := 0) (ifs : Array Nat := #[]) (fds : Array FieldInfo := #[]) : ClassFile where
  minorVersion := 0
  majorVersion := 65
  constantPool := pool
  accessFlags := fl
  thisClass := this
  superClass := sup
  interfaces := ifs
  fields := fds
  methods := ms
  attributes := attrs
def plain (name : String) (sup : Option ClassId) : Class where
  name := name
  kind := .ordinary
  loader := none
  accessFlags := 33
  super := sup
  interfaces := #[]
  cf := none
  fields := #[]
  methods := #[]
  instanceTypes := #[]
  staticTypes := #[]
  resolved := #[]
  callSites := []
  init := .initialized
  statics := none
  mirror := none

def pool0 : Array CpInfo := pool [(5, u "<init>"), (0, u "()V"), (1, .class_ 10), (1, u "java/lang/Object")] 113

def k0m0 : Method := { name := "<init>", desc := "()V", sig := { parameters := [], returnType := none }, accessFlags := 1, code := none }
/-- java/lang/Object -/
def k0 : Class := { plain "java/lang/Object" none with
  accessFlags := 33
  interfaces := #[]
  cf := some (fileOf pool0 8 #[] #[{ accessFlags := 1, nameIndex := 5, descriptorIndex := 6, attributes := #[] }] 33 0 #[] #[])
  fields := #[]
  methods := #[k0m0]
  instanceTypes := #[]
  staticTypes := #[]
  resolved := Array.replicate 124 none
  statics := none }

def pool1 : Array CpInfo := pool [(2, .class_ 4), (1, u "java/lang/Object"), (0, u "<init>"), (0, u "()V"), (0, .long 256), (1, .long 18446744073709551359), (1, .methodref 12 13), (0, .class_ 14), (0, .nameAndType 15 16), (0, u "com/example/preemptlens/preemptlens/SchedSwitches"), (0, u "runnable"), (0, u "(J)Z"), (0, .class_ 18), (0, u "com/example/preemptlens/preemptlens/SchedSwitchesRunnablePinLaw"), (2, u "law"), (0, u "(JI)Z")] 3

def k1m0 : Method := { name := "<init>", desc := "()V", sig := { parameters := [], returnType := none }, accessFlags := 2, code := none }
def k1c1 : Code := { maxStack := 4, maxLocals := 9, code := code, exceptionTable := #[], attributes := #[] }
def k1m1 : Method := { name := "law", desc := "(JI)Z", sig := { parameters := [.long, .int], returnType := some .boolean }, accessFlags := 9, code := some k1c1 }
/-- com/example/preemptlens/preemptlens/SchedSwitchesRunnablePinLaw -/
def k1 : Class := { plain "com/example/preemptlens/preemptlens/SchedSwitchesRunnablePinLaw" (some 0) with
  accessFlags := 49
  interfaces := #[]
  cf := some (fileOf pool1 17 #[] #[{ accessFlags := 2, nameIndex := 5, descriptorIndex := 6, attributes := #[] }, { accessFlags := 9, nameIndex := 21, descriptorIndex := 22, attributes := #[] }] 49 2 #[] #[])
  fields := #[]
  methods := #[k1m0, k1m1]
  instanceTypes := #[]
  staticTypes := #[]
  resolved := Array.replicate 26 none
  statics := none }

def pool2 : Array CpInfo := pool [(2, .class_ 4), (1, u "java/lang/Object"), (2, .class_ 8), (0, u "com/example/preemptlens/preemptlens/SchedSwitches$Switch"), (2, .class_ 13), (1, u "com/example/preemptlens/preemptlens/SchedSwitches"), (0, u "current"), (0, u "Lcom/example/preemptlens/preemptlens/SchedSwitches$Switch;"), (2, u "classes"), (0, u "Ljava/util/Map;"), (85, .long 256), (19, u "PREV_TID"), (0, u "I"), (2, u "PREV_NAME"), (1, u "NEXT_TID"), (1, u "NEXT_NAME"), (1, u "PREV_STATE"), (1, u "RUNNABLE"), (0, u "J"), (2, u "PREEMPTED"), (9, u "runnable"), (0, u "(J)Z")] 25

def k2c0 : Code := { maxStack := 4, maxLocals := 2, code := prog_63_method_5_code, exceptionTable := #[], attributes := #[] }
def k2m0 : Method := { name := "runnable", desc := "(J)Z", sig := { parameters := [.long], returnType := some .boolean }, accessFlags := 8, code := some k2c0 }
/-- com/example/preemptlens/preemptlens/SchedSwitches -/
def k2 : Class := { plain "com/example/preemptlens/preemptlens/SchedSwitches" (some 0) with
  accessFlags := 48
  interfaces := #[]
  cf := some (fileOf pool2 11 #[.nestMembers #[7]] #[{ accessFlags := 8, nameIndex := 151, descriptorIndex := 152, attributes := #[] }] 48 2 #[] #[{ accessFlags := 26, nameIndex := 125, descriptorIndex := 126, attributes := #[] }, { accessFlags := 26, nameIndex := 129, descriptorIndex := 126, attributes := #[] }, { accessFlags := 26, nameIndex := 131, descriptorIndex := 126, attributes := #[] }, { accessFlags := 26, nameIndex := 133, descriptorIndex := 126, attributes := #[] }, { accessFlags := 26, nameIndex := 135, descriptorIndex := 126, attributes := #[] }, { accessFlags := 26, nameIndex := 137, descriptorIndex := 138, attributes := #[] }, { accessFlags := 26, nameIndex := 141, descriptorIndex := 138, attributes := #[] }, { accessFlags := 18, nameIndex := 18, descriptorIndex := 19, attributes := #[] }, { accessFlags := 18, nameIndex := 14, descriptorIndex := 15, attributes := #[] }])
  fields := #[{ name := "PREV_TID", type := .int, accessFlags := 26, slot := 0, constantValue := 0 }, { name := "PREV_NAME", type := .int, accessFlags := 26, slot := 1, constantValue := 0 }, { name := "NEXT_TID", type := .int, accessFlags := 26, slot := 2, constantValue := 0 }, { name := "NEXT_NAME", type := .int, accessFlags := 26, slot := 3, constantValue := 0 }, { name := "PREV_STATE", type := .int, accessFlags := 26, slot := 4, constantValue := 0 }, { name := "RUNNABLE", type := .long, accessFlags := 26, slot := 5, constantValue := 0 }, { name := "PREEMPTED", type := .long, accessFlags := 26, slot := 6, constantValue := 0 }, { name := "classes", type := (.object "java/util/Map"), accessFlags := 18, slot := 0, constantValue := 0 }, { name := "current", type := (.object "com/example/preemptlens/preemptlens/SchedSwitches$Switch"), accessFlags := 18, slot := 1, constantValue := 0 }]
  methods := #[k2m0]
  instanceTypes := #[(.object "java/util/Map"), (.object "com/example/preemptlens/preemptlens/SchedSwitches$Switch")]
  staticTypes := #[.int, .int, .int, .int, .int, .long, .long]
  resolved := Array.replicate 178 none
  statics := none }

def pool3 : Array CpInfo := pool [(1, u "java/lang/Cloneable"), (0, .class_ 1), (0, u "java/lang/Object"), (0, .class_ 3)] 3

/-- java/lang/Cloneable -/
def k3 : Class := { plain "java/lang/Cloneable" (some 0) with
  accessFlags := 1537
  interfaces := #[]
  cf := some (fileOf pool3 2 #[] #[] 1537 4 #[] #[])
  fields := #[]
  methods := #[]
  instanceTypes := #[]
  staticTypes := #[]
  resolved := Array.replicate 8 none
  statics := none }

def pool4 : Array CpInfo := pool [(1, u "java/io/Serializable"), (0, .class_ 1), (0, u "java/lang/Object"), (0, .class_ 3)] 3

/-- java/io/Serializable -/
def k4 : Class := { plain "java/io/Serializable" (some 0) with
  accessFlags := 1537
  interfaces := #[]
  cf := some (fileOf pool4 2 #[] #[] 1537 4 #[] #[])
  fields := #[]
  methods := #[]
  instanceTypes := #[]
  staticTypes := #[]
  resolved := Array.replicate 8 none
  statics := none }

/-- the primitive byte -/
def k5 : Class := { plain "byte" none with kind := .primitive 'B', accessFlags := 0x411 }
/-- [B -/
def k6 : Class := { plain "[B" (some 0) with kind := .array 5 .byte, interfaces := #[3, 4], accessFlags := 1041 }

/-- the primitive int -/
def k7 : Class := { plain "int" none with kind := .primitive 'I', accessFlags := 0x411 }
/-- [I -/
def k8 : Class := { plain "[I" (some 0) with kind := .array 7 .int, interfaces := #[3, 4], accessFlags := 1041 }

def heap : Heap := #[]
def classes : Array Class := #[k0, k1, k2, k3, k4, k5, k6, k7, k8]
def interned : List (Array UInt16 × Addr) := []
def slotsUsed : Nat := 0
def theMethod : MethodId := ⟨1, 1⟩
def args0 : Array Value := #[.long 5, .int 7]
def aboutOver (below : List Frame) : State where
  vm := { classes := classes, interned := interned.toArray }
  heap := heap
  slotsUsed := slotsUsed
  threads := #[{ frames := .invoking theMethod args0 :: below }]
def below0 : List Frame := [.native { method := ⟨0, 0⟩, args := #[] }]
def about1 : State := aboutOver below0
def p0 : Program := .bare "" "" ""
def e0 : Env := launch0.env 0 0 0
theorem w_frames : about1.frames = Frame.invoking theMethod args0 :: below0 := rfl
set_option maxRecDepth 65536 in
theorem w_args : argsFit about1.vm theMethod args0 = true := by decide +kernel
set_option maxRecDepth 65536 in
theorem w_heap : heapFits about1 = true := by decide +kernel
set_option maxRecDepth 65536 in
theorem w_runnable : about1.curStatus? = some .runnable := by decide +kernel
set_option maxRecDepth 65536 in
theorem w_alone : about1.alone = true := by decide +kernel
set_option maxRecDepth 65536 in
theorem w_named : about1.methodNamed? x = some theMethod := by decide +kernel
set_option maxRecDepth 65536 in
theorem w_hears : about1.hears theMethod below0 = true := by decide +kernel
set_option maxRecDepth 65536 in
theorem w_ripe : about1.ripe theMethod args0 below0 = true := by decide +kernel
theorem w_running : about1.status = .running := rfl
set_option maxRecDepth 65536 in
theorem w_room : about1.hasRoom e0.platform room_1 = true :=
  launch0.hasRoom_least _ room_1 (by decide +kernel) (by decide +kernel) (by decide +kernel) (by decide +kernel) (by decide +kernel) (by decide +kernel)
theorem allAtoms_all (ts : List Jvm.Cond) (a : Array Jvm.Value) (st : Jvm.State) : (allAtoms ts).before a st = ts.all (fun c => c.before a st) := by
  induction ts with
  | nil => rfl
  | cons c t ih =>
    show (Jvm.Cond.and c (allAtoms t)).before a st = _
    rw [Jvm.Cond.before_and, ih, List.all_cons]
def words1 : List Jvm.Cond := Jvm.Cond.code x code maxLocals ret :: tables_1
/-- a 'code' word, met by the world's own term for the bytes: nothing is compared byte by byte -/
theorem code_word {y : MethodName} {bytes : ByteArray} {mx : Nat} {rt : Option FieldType} {a : Array Value} {s : State} {m : MethodId} {meth : Method} {c : Code} (h1 : s.methodNamed? y = some m) (h2 : s.vm.method? m = some meth) (h3 : meth.code = some c) (h4 : c.code = bytes)
    (h5 : (c.maxLocals == mx && c.exceptionTable.isEmpty && decide (c.maxStack ≤ mostOperands) && decide (meth.sig.returnType = rt) && !meth.locks && decide (parseMethodDescriptor y.desc = some meth.sig)) = true) : (Jvm.Cond.code y bytes mx rt).before a s = true := by
  simp only [Bool.and_eq_true, beq_iff_eq, Bool.not_eq_true', decide_eq_true_eq] at h5
  obtain ⟨⟨⟨⟨⟨g1, g2⟩, g3⟩, g4⟩, g5⟩, g6⟩ := h5
  simp [Cond.before, Cond.holds, Cond.value, h1, h2, h3, h4, g1, g2, g3, g4, g5, g6]
def isCode : Jvm.Cond → Bool
  | .code _ _ _ _ => true
  | _ => false
theorem all_split {L : List Jvm.Cond} {P : Jvm.Cond → Bool} (h1 : L.all (fun c => isCode c || P c) = true) (h2 : ∀ c ∈ L.filter isCode, P c = true) : L.all P = true := by
  refine List.all_eq_true.mpr fun c hc => ?_
  have h := List.all_eq_true.mp h1 c hc
  rcases Bool.eq_false_or_eq_true (isCode c) with hi | hi
  · exact h2 c (List.mem_filter.mpr ⟨hc, hi⟩)
  · simpa [hi] using h
set_option maxRecDepth 65536 in
theorem w_c0 : (Jvm.Cond.code x code maxLocals ret).before args0 about1 = true := code_word (m := ⟨1, 1⟩) (meth := k1m1) (c := k1c1) (by decide +kernel) rfl rfl rfl (by decide +kernel)
set_option maxRecDepth 65536 in
theorem w_c1 : (Jvm.Cond.code ({ cls := "com/example/preemptlens/preemptlens/SchedSwitches", name := "runnable", desc := "(J)Z" } : Jvm.MethodName) prog_63_method_5_code (2 : Nat) (Option.some Jvm.ClassFile.FieldType.boolean)).before args0 about1 = true := code_word (m := ⟨2, 0⟩) (meth := k2m0) (c := k2c0) (by decide +kernel) rfl rfl rfl (by decide +kernel)
def codes1 : List Jvm.Cond := [Jvm.Cond.code x code maxLocals ret, Jvm.Cond.code ({ cls := "com/example/preemptlens/preemptlens/SchedSwitches", name := "runnable", desc := "(J)Z" } : Jvm.MethodName) prog_63_method_5_code (2 : Nat) (Option.some Jvm.ClassFile.FieldType.boolean)]
set_option maxRecDepth 65536 in
theorem codes_eq : words1.filter isCode = codes1 := rfl
theorem w_codes : ∀ c ∈ words1.filter isCode, c.before args0 about1 = true := by
  rw [codes_eq]
  intro c hc
  simp only [codes1, List.mem_cons, List.not_mem_nil, or_false] at hc
  rcases hc with rfl | rfl
  · exact w_c0
  · exact w_c1
set_option maxRecDepth 65536 in
theorem w_t1 : words1.all (fun c => isCode c || c.before args0 about1) = true := by decide +kernel
theorem w_tables : (allAtoms (Jvm.Cond.code x code maxLocals ret :: tables_1)).before args0 about1 = true := by
  rw [allAtoms_all]
  show words1.all (fun c => c.before args0 about1) = true
  refine all_split ?_ w_codes
  rw [w_t1]
set_option maxRecDepth 65536 in
theorem w_case : (Jvm.Cond.and given_1 narrow_1).before args0 about1 = true := by decide +kernel
theorem w_applies : (headSpec (Jvm.Cond.code x code maxLocals ret :: tables_1) room_1).applies x e0.platform about1 = true :=
  (Spec.applies_iff w_frames).mpr ⟨w_running, w_runnable, w_alone, w_named, w_hears, w_ripe, w_room, w_tables⟩
theorem atStart : AtStart classFile x code maxLocals ret World_1 tables_1 room_1 Calls_1 rest_1 Pre_1 launch0 p0 e0 about1 theMethod args0 below0 :=
  ⟨lists_1, trivial, launch0.admits_env _ _ _, launch0.least_env, fairChoices_fair.cas, fairChoices_fair.clock, w_frames, w_args, w_heap, w_applies, trivial, trivial, w_case⟩
end start1
theorem witness_1 : WitnessClaimed_1 := ⟨start1.p0, start1.e0, start1.about1, start1.theMethod, start1.args0, start1.below0, start1.atStart⟩
end Jvm.Pilot.@@N@@
