import JvmDerived
import JvmDerived.Pilot.@@N@@Statement
import JvmDerived.Pilot.@@N@@Code
set_option linter.unusedVariables false
set_option linter.unusedSimpArgs false
namespace Jvm.RoadKit
open Sem ClassFile Op Lib Jvm.Stand Jvm.Free Jvm.LawKit
section New
variable {p : Program} {l : Launch} {e : Env} {R : Room} {s : State} {m : MethodId} {args : Array Value} {below : List Frame} {meth : Method} {c : Code} {T : State} {locs : List Loc} {cells slots : Nat}
theorem retI (X : Stand p l e R s m args below meth c T locs cells slots) (hx : p.tables.exec = Jvm.exec) {pc : Nat} {Ls : Array Slot} {z : Int32} {rest : List Value} (hret : meth.sig.returnType = some .int) (hd : decode c.code pc = .ok (.ireturn, 1)) {fs : List Frame}
    (hl : ∀ (f : JFrame) (acts : List Action), f.method = m → f.locked = none → f.entered = [] → (doReturn e (T.setTop f) acts (some (.int z))).1 = T.setFrames fs) : Steps p.tables e below (T.setTop (mkF m pc Ls (.int z :: rest))) (T.setFrames fs) := by
  have hm' : T.vm.method? m = some meth := X.method'
  have hn : narrow .int (.int z) = .int z := rfl
  show Steps p.tables e below (T.setTop { method := m, pc := pc, locals := Ls, stack := _ :: rest, locked := none }) _
  jvm_step X.here [X.here.top, hx, hd, hm', hret, hn]
  first | (intro acts; rw [hl _ acts rfl rfl rfl]) | rw [hl _ _ rfl rfl rfl]
  exact Steps.refl _
end New
end Jvm.RoadKit
namespace Jvm.Pilot.@@N@@
open Jvm Jvm.ClassFile Sem Op Lib Jvm.Free Jvm.Stand Jvm.LawKit Jvm.RoadKit Bundle Jvm.Pilot.@@N@@.Jvm.D
section OwnKit
variable {p : Program} {l : Launch} {e : Env} {R : Room} {s : State} {m : MethodId} {args : Array Value} {below : List Frame} {meth : Method} {c : Code} {T : State} {locs : List Loc} {cells slots : Nat}
/-- from S the run comes to a return of which F holds -/
def Goes (tb : Tables) (e : Env) (below : List Frame) (s : State) (F : Option Value → Heap → List Loc → Prop) (k n : Nat) (S : State) : Prop :=
  ∃ s₂ o, Steps tb e below S s₂ ∧ s₂.status = .running ∧ Ended s₂ below o ∧ ∃ v L, o = .returned v ∧ F v s₂.heap L ∧ FrameEnd s o s₂ L k n
theorem Goes.of {tb : Tables} {F : Option Value → Heap → List Loc → Prop} {k n : Nat} {S S' : State} (h : ∀ t, Steps tb e below S' t → Steps tb e below S t) (g : Goes tb e below s F k n S') : Goes tb e below s F k n S := by
  obtain ⟨s₂, o, h1, r⟩ := g
  exact ⟨s₂, o, h _ h1, r⟩
theorem Goes.mono {tb : Tables} {F G : Option Value → Heap → List Loc → Prop} {k n : Nat} {S : State} (h : ∀ v h L, F v h L → G v h L) (g : Goes tb e below s F k n S) : Goes tb e below s G k n S := by
  obtain ⟨s₂, o, h1, h2, h3, v, L, h4, h5, h6⟩ := g
  exact ⟨s₂, o, h1, h2, h3, v, L, h4, h _ _ _ h5, h6⟩
theorem Goes.fin (X : Stand p l e R s m args below meth c T locs cells slots) (hlk : meth.locks = false) {v : Option Value} {F : Option Value → Heap → List Loc → Prop} {k n : Nat} {S : State} (hv : meth.sig.returnType = none → v = none)
    (step : ∀ fs, (∀ (f : JFrame) (acts : List Action), f.method = m → f.locked = none → f.entered = [] → (doReturn e (T.setTop f) acts v).1 = T.setFrames fs) → Steps p.tables e below S (T.setFrames fs)) (hF : F v T.heap locs) (hk : cells ≤ k) (hn : slots ≤ n) : Goes p.tables e below s F k n S := by
  obtain ⟨fs, hr, hrun, hended, hW, hsame⟩ := X.leave hv hlk
  exact ⟨_, _, step fs hr, hrun, hended, v, locs, rfl, hF, ⟨_, rfl⟩, hW, hsame.mono hk hn⟩
end OwnKit
theorem d1_0 : decode prog_10_method_2_code 0 = .ok (.lload_n 0, 1) := by decide +kernel
theorem d1_1 : decode prog_10_method_2_code 1 = .ok (.lload_n 2, 1) := by decide +kernel
theorem d1_2 : decode prog_10_method_2_code 2 = .ok (.ladd, 1) := by decide +kernel
theorem d1_3 : decode prog_10_method_2_code 3 = .ok (.lstore 4, 2) := by decide +kernel
theorem d1_5 : decode prog_10_method_2_code 5 = .ok (.lload_n 0, 1) := by decide +kernel
theorem d1_6 : decode prog_10_method_2_code 6 = .ok (.ldc2_w 9, 3) := by decide +kernel
theorem d1_9 : decode prog_10_method_2_code 9 = .ok (.lcmp, 1) := by decide +kernel
theorem d1_10 : decode prog_10_method_2_code 10 = .ok (.ifCond .eq 18, 3) := by decide +kernel
theorem d1_13 : decode prog_10_method_2_code 13 = .ok (.lload_n 2, 1) := by decide +kernel
theorem d1_14 : decode prog_10_method_2_code 14 = .ok (.ldc2_w 9, 3) := by decide +kernel
theorem d1_17 : decode prog_10_method_2_code 17 = .ok (.lcmp, 1) := by decide +kernel
theorem d1_18 : decode prog_10_method_2_code 18 = .ok (.ifCond .eq 10, 3) := by decide +kernel
theorem d1_21 : decode prog_10_method_2_code 21 = .ok (.lload 4, 2) := by decide +kernel
theorem d1_23 : decode prog_10_method_2_code 23 = .ok (.lconst 0, 1) := by decide +kernel
theorem d1_24 : decode prog_10_method_2_code 24 = .ok (.lcmp, 1) := by decide +kernel
theorem d1_25 : decode prog_10_method_2_code 25 = .ok (.ifCond .ge 9, 3) := by decide +kernel
theorem d1_28 : decode prog_10_method_2_code 28 = .ok (.ldc2_w 9, 3) := by decide +kernel
theorem d1_31 : decode prog_10_method_2_code 31 = .ok (.goto 5, 3) := by decide +kernel
theorem d1_34 : decode prog_10_method_2_code 34 = .ok (.lload 4, 2) := by decide +kernel
theorem d1_36 : decode prog_10_method_2_code 36 = .ok (.lreturn, 1) := by decide +kernel
theorem pn_0 : plainName "com/example/orderly_twig/orderlytwig/engine/Ways" = true := by first | (simp [plainName, overriddenIn]; done) | decide +kernel
theorem ef_1 (m : MethodId) (q1 : Int64) (q2 : Int64) : entryFrame m #[(.long q1), (.long q2)] 6 = mkF m 0 #[.val (.long q1), .second, .val (.long q2), .second, .unset, .unset] [] := by first | (simp [entryFrame, mkF, argsToLocals, Value.category]; done) | rfl
def f1 (q1 : Int64) (q2 : Int64) : Int64 :=
  (if q1 = (-1 : Int64) then (-1 : Int64)
  else (if q2 = (-1 : Int64) then (-1 : Int64)
    else (if (q1 + q2) < (0 : Int64) then (-1 : Int64)
      else (q1 + q2))))
def Q1 (q1 : Int64) (q2 : Int64) (h0 : Heap) (n0 : Nat) (v : Option Value) (h : Heap) (L : List Loc) : Prop := v = some (.long (f1 q1 q2)) ∧ Fr n0 L ∧ h = h0
set_option maxRecDepth 65536 in
set_option maxHeartbeats 40000000 in
theorem rm1 (l : Launch) (Z : State) (a0 : Array Value) (hw : ∀ d ∈ tables_1, d.before a0 Z = true) (ws : List Jvm.Cond) (q1 : Int64) (q2 : Int64) (h0 : Heap) (n0 : Nat) :
    MetFree l (⟨"com/example/orderly_twig/orderlytwig/engine/Ways", "sum", "(JJ)J"⟩ : MethodName) (head1 (Jvm.Cond.code (⟨"com/example/orderly_twig/orderlytwig/engine/Ways", "sum", "(JJ)J"⟩ : MethodName) prog_10_method_2_code 6 (some .long) :: ws) ({ frames := 0, cells := 0, slots := 0, locals := 0 } : Room)) (fun a U => a = #[(.long q1), (.long q2)] ∧ Z.Warmed39 U.vm ∧ U.heap = h0) (fun _ _ _ _ _ => True) (fun _ U o U' => ∃ v L, o = .returned v ∧ Q1 q1 q2 h0 n0 v U'.heap L ∧ FrameEnd U o U' L 0 0) := by
  refine MetFree.of_bodySF (plainFor_of_name pn_0) hisR ?_
  intro p e s m args below meth c s₁ Bd hml0 hP hK
  obtain ⟨rfl, hZ, hh⟩ := hP
  have hx := Bd.exec
  have hby := Bd.bytes
  have hlk : meth.locks = false := BodyLoose.notSynchronized Bd
  have hml : c.maxLocals = 6 := hml0
  have hown : s.vm.findClass "com/example/orderly_twig/orderlytwig/engine/Ways" = some m.cls := findClass_of_methodNamed Bd.named
  have X0 : Stand p l e ({ frames := 0, cells := 0, slots := 0, locals := 0 } : Room) s m #[(.long q1), (.long q2)] below meth c s₁ [] 0 0 := Stand.of_body Bd
  have e0 : s₁.heap = h0 := by rw [← hh, Bd.state]; rfl
  have N0 := Fr.nil n0
  show Goes p.tables e below s (Q1 q1 q2 h0 n0) 0 0 (s₁.setTop (entryFrame m #[(.long q1), (.long q2)] 6))
  refine Goes.of (fun t k => castTop (ef_1 m q1 q2) k) ?_
  show Goes _ _ _ _ _ _ _ (s₁.setTop (mkF m 0 #[.val (.long q1), .second, .val (.long q2), .second, .unset, .unset] []))
  refine Goes.of (fun t k => XS.lloadN X0.here hx rfl (hb hby d1_0) rfl k) ?_
  show Goes _ _ _ _ _ _ _ (s₁.setTop (mkF m 1 #[.val (.long q1), .second, .val (.long q2), .second, .unset, .unset] [(.long q1)]))
  refine Goes.of (fun t k => XS.lloadN X0.here hx rfl (hb hby d1_1) rfl k) ?_
  show Goes _ _ _ _ _ _ _ (s₁.setTop (mkF m 2 #[.val (.long q1), .second, .val (.long q2), .second, .unset, .unset] [(.long q2), (.long q1)]))
  refine Goes.of (fun t k => XS.ladd X0.here hx rfl (hb hby d1_2) rfl k) ?_
  show Goes _ _ _ _ _ _ _ (s₁.setTop (mkF m 3 #[.val (.long q1), .second, .val (.long q2), .second, .unset, .unset] [(.long (q1 + q2))]))
  refine Goes.of (fun t k => XS.lstore X0.here hx rfl (hb hby d1_3) rfl (l' := #[.val (.long q1), .second, .val (.long q2), .second, .val (.long (q1 + q2)), .second]) rfl k) ?_
  show Goes _ _ _ _ _ _ _ (s₁.setTop (mkF m 5 #[.val (.long q1), .second, .val (.long q2), .second, .val (.long (q1 + q2)), .second] []))
  refine Goes.of (fun t k => XS.lloadN X0.here hx rfl (hb hby d1_5) rfl k) ?_
  show Goes _ _ _ _ _ _ _ (s₁.setTop (mkF m 6 #[.val (.long q1), .second, .val (.long q2), .second, .val (.long (q1 + q2)), .second] [(.long q1)]))
  refine Goes.of (fun t k => X0.ldc2Long hx hown (mvT hZ (hw _ (List.mem_of_getElem? (i := 4) rfl))) (g := (mkF m 6 #[.val (.long q1), .second, .val (.long q2), .second, .val (.long (q1 + q2)), .second] [(.long q1)])) rfl (hb hby d1_6) t k) ?_
  show Goes _ _ _ _ _ _ _ (s₁.setTop (mkF m 9 #[.val (.long q1), .second, .val (.long q2), .second, .val (.long (q1 + q2)), .second] [(.long (-1 : Int64)), (.long q1)]))
  refine Goes.of (fun t k => XS.lcmp X0.here hx rfl (hb hby d1_9) rfl k) ?_
  show Goes _ _ _ _ _ _ _ (s₁.setTop (mkF m 10 #[.val (.long q1), .second, .val (.long q2), .second, .val (.long (q1 + q2)), .second] [(.int (lcmpW q1 (-1 : Int64)))]))
  by_cases hc3 : q1 = (-1 : Int64)
  · refine Goes.of (fun t k => XS.ifYes X0.here hx rfl (pc0 := 10) (pc' := 28) rfl (hb hby d1_10) rfl ((if0 _ _).trans (teq ((lw_eq _ _).mpr hc3)).1) (by decide) (by decide) k) ?_
    show Goes _ _ _ _ _ _ _ (s₁.setTop (mkF m 28 #[.val (.long q1), .second, .val (.long q2), .second, .val (.long (q1 + q2)), .second] []))
    refine Goes.of (fun t k => X0.ldc2Long hx hown (mvT hZ (hw _ (List.mem_of_getElem? (i := 4) rfl))) (g := (mkF m 28 #[.val (.long q1), .second, .val (.long q2), .second, .val (.long (q1 + q2)), .second] [])) rfl (hb hby d1_28) t k) ?_
    show Goes _ _ _ _ _ _ _ (s₁.setTop (mkF m 31 #[.val (.long q1), .second, .val (.long q2), .second, .val (.long (q1 + q2)), .second] [(.long (-1 : Int64))]))
    refine Goes.of (fun t k => XS.goto X0.here hx rfl (pc0 := 31) (pc' := 36) rfl (hb hby d1_31) (by decide) (by decide) k) ?_
    show Goes _ _ _ _ _ _ _ (s₁.setTop (mkF m 36 #[.val (.long q1), .second, .val (.long q2), .second, .val (.long (q1 + q2)), .second] [(.long (-1 : Int64))]))
    exact Goes.fin X0 hlk (v := some (.long (-1 : Int64))) (fun h => by rw [Bd.returns] at h; cases h) (fun fs hr => retOut X0 hx Bd.returns (by rfl) (Or.inr (Or.inl ⟨rfl, rfl, _, rfl⟩)) (hb hby d1_36) hr) ⟨congrArg (fun z => some (Value.long z)) (by rw [f1, if_pos hc3] : (-1 : Int64) = f1 q1 q2), N0, e0⟩ (by decide) (by decide)
  · refine Goes.of (fun t k => XS.ifNo X0.here hx rfl (hb hby d1_10) rfl ((if0 _ _).trans (feq (fun q => hc3 ((lw_eq _ _).mp q))).1) k) ?_
    show Goes _ _ _ _ _ _ _ (s₁.setTop (mkF m 13 #[.val (.long q1), .second, .val (.long q2), .second, .val (.long (q1 + q2)), .second] []))
    refine Goes.of (fun t k => XS.lloadN X0.here hx rfl (hb hby d1_13) rfl k) ?_
    show Goes _ _ _ _ _ _ _ (s₁.setTop (mkF m 14 #[.val (.long q1), .second, .val (.long q2), .second, .val (.long (q1 + q2)), .second] [(.long q2)]))
    refine Goes.of (fun t k => X0.ldc2Long hx hown (mvT hZ (hw _ (List.mem_of_getElem? (i := 4) rfl))) (g := (mkF m 14 #[.val (.long q1), .second, .val (.long q2), .second, .val (.long (q1 + q2)), .second] [(.long q2)])) rfl (hb hby d1_14) t k) ?_
    show Goes _ _ _ _ _ _ _ (s₁.setTop (mkF m 17 #[.val (.long q1), .second, .val (.long q2), .second, .val (.long (q1 + q2)), .second] [(.long (-1 : Int64)), (.long q2)]))
    refine Goes.of (fun t k => XS.lcmp X0.here hx rfl (hb hby d1_17) rfl k) ?_
    show Goes _ _ _ _ _ _ _ (s₁.setTop (mkF m 18 #[.val (.long q1), .second, .val (.long q2), .second, .val (.long (q1 + q2)), .second] [(.int (lcmpW q2 (-1 : Int64)))]))
    by_cases hc4 : q2 = (-1 : Int64)
    · refine Goes.of (fun t k => XS.ifYes X0.here hx rfl (pc0 := 18) (pc' := 28) rfl (hb hby d1_18) rfl ((if0 _ _).trans (teq ((lw_eq _ _).mpr hc4)).1) (by decide) (by decide) k) ?_
      show Goes _ _ _ _ _ _ _ (s₁.setTop (mkF m 28 #[.val (.long q1), .second, .val (.long q2), .second, .val (.long (q1 + q2)), .second] []))
      refine Goes.of (fun t k => X0.ldc2Long hx hown (mvT hZ (hw _ (List.mem_of_getElem? (i := 4) rfl))) (g := (mkF m 28 #[.val (.long q1), .second, .val (.long q2), .second, .val (.long (q1 + q2)), .second] [])) rfl (hb hby d1_28) t k) ?_
      show Goes _ _ _ _ _ _ _ (s₁.setTop (mkF m 31 #[.val (.long q1), .second, .val (.long q2), .second, .val (.long (q1 + q2)), .second] [(.long (-1 : Int64))]))
      refine Goes.of (fun t k => XS.goto X0.here hx rfl (pc0 := 31) (pc' := 36) rfl (hb hby d1_31) (by decide) (by decide) k) ?_
      show Goes _ _ _ _ _ _ _ (s₁.setTop (mkF m 36 #[.val (.long q1), .second, .val (.long q2), .second, .val (.long (q1 + q2)), .second] [(.long (-1 : Int64))]))
      exact Goes.fin X0 hlk (v := some (.long (-1 : Int64))) (fun h => by rw [Bd.returns] at h; cases h) (fun fs hr => retOut X0 hx Bd.returns (by rfl) (Or.inr (Or.inl ⟨rfl, rfl, _, rfl⟩)) (hb hby d1_36) hr) ⟨congrArg (fun z => some (Value.long z)) (by rw [f1, if_neg hc3, if_pos hc4] : (-1 : Int64) = f1 q1 q2), N0, e0⟩ (by decide) (by decide)
    · refine Goes.of (fun t k => XS.ifNo X0.here hx rfl (hb hby d1_18) rfl ((if0 _ _).trans (feq (fun q => hc4 ((lw_eq _ _).mp q))).1) k) ?_
      show Goes _ _ _ _ _ _ _ (s₁.setTop (mkF m 21 #[.val (.long q1), .second, .val (.long q2), .second, .val (.long (q1 + q2)), .second] []))
      refine Goes.of (fun t k => XS.lload X0.here hx rfl (hb hby d1_21) rfl k) ?_
      show Goes _ _ _ _ _ _ _ (s₁.setTop (mkF m 23 #[.val (.long q1), .second, .val (.long q2), .second, .val (.long (q1 + q2)), .second] [(.long (q1 + q2))]))
      refine Goes.of (fun t k => XS.lconst X0.here hx rfl (hb hby d1_23) k) ?_
      show Goes _ _ _ _ _ _ _ (s₁.setTop (mkF m 24 #[.val (.long q1), .second, .val (.long q2), .second, .val (.long (q1 + q2)), .second] [(.long (0 : Int64)), (.long (q1 + q2))]))
      refine Goes.of (fun t k => XS.lcmp X0.here hx rfl (hb hby d1_24) rfl k) ?_
      show Goes _ _ _ _ _ _ _ (s₁.setTop (mkF m 25 #[.val (.long q1), .second, .val (.long q2), .second, .val (.long (q1 + q2)), .second] [(.int (lcmpW (q1 + q2) (0 : Int64)))]))
      by_cases hc5 : (q1 + q2) < (0 : Int64)
      · refine Goes.of (fun t k => XS.ifNo X0.here hx rfl (hb hby d1_25) rfl ((if0 _ _).trans (tlt ((lw_lt _ _).mpr hc5)).2.1) k) ?_
        show Goes _ _ _ _ _ _ _ (s₁.setTop (mkF m 28 #[.val (.long q1), .second, .val (.long q2), .second, .val (.long (q1 + q2)), .second] []))
        refine Goes.of (fun t k => X0.ldc2Long hx hown (mvT hZ (hw _ (List.mem_of_getElem? (i := 4) rfl))) (g := (mkF m 28 #[.val (.long q1), .second, .val (.long q2), .second, .val (.long (q1 + q2)), .second] [])) rfl (hb hby d1_28) t k) ?_
        show Goes _ _ _ _ _ _ _ (s₁.setTop (mkF m 31 #[.val (.long q1), .second, .val (.long q2), .second, .val (.long (q1 + q2)), .second] [(.long (-1 : Int64))]))
        refine Goes.of (fun t k => XS.goto X0.here hx rfl (pc0 := 31) (pc' := 36) rfl (hb hby d1_31) (by decide) (by decide) k) ?_
        show Goes _ _ _ _ _ _ _ (s₁.setTop (mkF m 36 #[.val (.long q1), .second, .val (.long q2), .second, .val (.long (q1 + q2)), .second] [(.long (-1 : Int64))]))
        exact Goes.fin X0 hlk (v := some (.long (-1 : Int64))) (fun h => by rw [Bd.returns] at h; cases h) (fun fs hr => retOut X0 hx Bd.returns (by rfl) (Or.inr (Or.inl ⟨rfl, rfl, _, rfl⟩)) (hb hby d1_36) hr) ⟨congrArg (fun z => some (Value.long z)) (by rw [f1, if_neg hc3, if_neg hc4, if_pos hc5] : (-1 : Int64) = f1 q1 q2), N0, e0⟩ (by decide) (by decide)
      · refine Goes.of (fun t k => XS.ifYes X0.here hx rfl (pc0 := 25) (pc' := 34) rfl (hb hby d1_25) rfl ((if0 _ _).trans (flt (fun q => hc5 ((lw_lt _ _).mp q))).2.1) (by decide) (by decide) k) ?_
        show Goes _ _ _ _ _ _ _ (s₁.setTop (mkF m 34 #[.val (.long q1), .second, .val (.long q2), .second, .val (.long (q1 + q2)), .second] []))
        refine Goes.of (fun t k => XS.lload X0.here hx rfl (hb hby d1_34) rfl k) ?_
        show Goes _ _ _ _ _ _ _ (s₁.setTop (mkF m 36 #[.val (.long q1), .second, .val (.long q2), .second, .val (.long (q1 + q2)), .second] [(.long (q1 + q2))]))
        exact Goes.fin X0 hlk (v := some (.long (q1 + q2))) (fun h => by rw [Bd.returns] at h; cases h) (fun fs hr => retOut X0 hx Bd.returns (by rfl) (Or.inr (Or.inl ⟨rfl, rfl, _, rfl⟩)) (hb hby d1_36) hr) ⟨congrArg (fun z => some (Value.long z)) (by rw [f1, if_neg hc3, if_neg hc4, if_neg hc5] : (q1 + q2) = f1 q1 q2), N0, e0⟩ (by decide) (by decide)
theorem d2_0 : decode method_2_code 0 = .ok (.lload_n 0, 1) := by decide +kernel
theorem d2_1 : decode method_2_code 1 = .ok (.ldc2_w 7, 3) := by decide +kernel
theorem d2_4 : decode method_2_code 4 = .ok (.lcmp, 1) := by decide +kernel
theorem d2_5 : decode method_2_code 5 = .ok (.ifCond .eq 11, 3) := by decide +kernel
theorem d2_8 : decode method_2_code 8 = .ok (.lload_n 2, 1) := by decide +kernel
theorem d2_9 : decode method_2_code 9 = .ok (.ldc2_w 7, 3) := by decide +kernel
theorem d2_12 : decode method_2_code 12 = .ok (.lcmp, 1) := by decide +kernel
theorem d2_13 : decode method_2_code 13 = .ok (.ifCond .ne 7, 3) := by decide +kernel
theorem d2_16 : decode method_2_code 16 = .ok (.ldc2_w 7, 3) := by decide +kernel
theorem d2_19 : decode method_2_code 19 = .ok (.lreturn, 1) := by decide +kernel
theorem d2_20 : decode method_2_code 20 = .ok (.lload_n 0, 1) := by decide +kernel
theorem d2_21 : decode method_2_code 21 = .ok (.ldc2_w 11, 3) := by decide +kernel
theorem d2_24 : decode method_2_code 24 = .ok (.lload_n 2, 1) := by decide +kernel
theorem d2_25 : decode method_2_code 25 = .ok (.lsub, 1) := by decide +kernel
theorem d2_26 : decode method_2_code 26 = .ok (.lcmp, 1) := by decide +kernel
theorem d2_27 : decode method_2_code 27 = .ok (.ifCond .le 7, 3) := by decide +kernel
theorem d2_30 : decode method_2_code 30 = .ok (.ldc2_w 7, 3) := by decide +kernel
theorem d2_33 : decode method_2_code 33 = .ok (.lreturn, 1) := by decide +kernel
theorem d2_34 : decode method_2_code 34 = .ok (.lload_n 0, 1) := by decide +kernel
theorem d2_35 : decode method_2_code 35 = .ok (.lload_n 2, 1) := by decide +kernel
theorem d2_36 : decode method_2_code 36 = .ok (.ladd, 1) := by decide +kernel
theorem d2_37 : decode method_2_code 37 = .ok (.lreturn, 1) := by decide +kernel
theorem pn_1 : plainName "com/example/orderly_twig/orderlytwig/engine/WaysSumPinLaw" = true := by first | (simp [plainName, overriddenIn]; done) | decide +kernel
theorem ef_2 (m : MethodId) (q6 : Int64) (q7 : Int64) : entryFrame m #[(.long q6), (.long q7)] 4 = mkF m 0 #[.val (.long q6), .second, .val (.long q7), .second] [] := by first | (simp [entryFrame, mkF, argsToLocals, Value.category]; done) | rfl
def f2 (q6 : Int64) (q7 : Int64) : Int64 :=
  (if q6 = (-1 : Int64) then (-1 : Int64)
  else (if q7 = (-1 : Int64) then (-1 : Int64)
    else (if ((9223372036854775807 : Int64) - q7) < q6 then (-1 : Int64)
      else (q6 + q7))))
def Q2 (q6 : Int64) (q7 : Int64) (h0 : Heap) (n0 : Nat) (v : Option Value) (h : Heap) (L : List Loc) : Prop := v = some (.long (f2 q6 q7)) ∧ Fr n0 L ∧ h = h0
set_option maxRecDepth 65536 in
set_option maxHeartbeats 40000000 in
theorem rm2 (l : Launch) (Z : State) (a0 : Array Value) (hw : ∀ d ∈ tables_1, d.before a0 Z = true) (ws : List Jvm.Cond) (q6 : Int64) (q7 : Int64) (h0 : Heap) (n0 : Nat) :
    MetFree l (⟨"com/example/orderly_twig/orderlytwig/engine/WaysSumPinLaw", "expected", "(JJ)J"⟩ : MethodName) (head1 (Jvm.Cond.code (⟨"com/example/orderly_twig/orderlytwig/engine/WaysSumPinLaw", "expected", "(JJ)J"⟩ : MethodName) method_2_code 4 (some .long) :: ws) ({ frames := 0, cells := 0, slots := 0, locals := 0 } : Room)) (fun a U => a = #[(.long q6), (.long q7)] ∧ Z.Warmed39 U.vm ∧ U.heap = h0) (fun _ _ _ _ _ => True) (fun _ U o U' => ∃ v L, o = .returned v ∧ Q2 q6 q7 h0 n0 v U'.heap L ∧ FrameEnd U o U' L 0 0) := by
  refine MetFree.of_bodySF (plainFor_of_name pn_1) hisR ?_
  intro p e s m args below meth c s₁ Bd hml0 hP hK
  obtain ⟨rfl, hZ, hh⟩ := hP
  have hx := Bd.exec
  have hby := Bd.bytes
  have hlk : meth.locks = false := BodyLoose.notSynchronized Bd
  have hml : c.maxLocals = 4 := hml0
  have hown : s.vm.findClass "com/example/orderly_twig/orderlytwig/engine/WaysSumPinLaw" = some m.cls := findClass_of_methodNamed Bd.named
  have X0 : Stand p l e ({ frames := 0, cells := 0, slots := 0, locals := 0 } : Room) s m #[(.long q6), (.long q7)] below meth c s₁ [] 0 0 := Stand.of_body Bd
  have e0 : s₁.heap = h0 := by rw [← hh, Bd.state]; rfl
  have N0 := Fr.nil n0
  show Goes p.tables e below s (Q2 q6 q7 h0 n0) 0 0 (s₁.setTop (entryFrame m #[(.long q6), (.long q7)] 4))
  refine Goes.of (fun t k => castTop (ef_2 m q6 q7) k) ?_
  show Goes _ _ _ _ _ _ _ (s₁.setTop (mkF m 0 #[.val (.long q6), .second, .val (.long q7), .second] []))
  refine Goes.of (fun t k => XS.lloadN X0.here hx rfl (hb hby d2_0) rfl k) ?_
  show Goes _ _ _ _ _ _ _ (s₁.setTop (mkF m 1 #[.val (.long q6), .second, .val (.long q7), .second] [(.long q6)]))
  refine Goes.of (fun t k => X0.ldc2Long hx hown (mvT hZ (hw _ (List.mem_of_getElem? (i := 9) rfl))) (g := (mkF m 1 #[.val (.long q6), .second, .val (.long q7), .second] [(.long q6)])) rfl (hb hby d2_1) t k) ?_
  show Goes _ _ _ _ _ _ _ (s₁.setTop (mkF m 4 #[.val (.long q6), .second, .val (.long q7), .second] [(.long (-1 : Int64)), (.long q6)]))
  refine Goes.of (fun t k => XS.lcmp X0.here hx rfl (hb hby d2_4) rfl k) ?_
  show Goes _ _ _ _ _ _ _ (s₁.setTop (mkF m 5 #[.val (.long q6), .second, .val (.long q7), .second] [(.int (lcmpW q6 (-1 : Int64)))]))
  by_cases hc8 : q6 = (-1 : Int64)
  · refine Goes.of (fun t k => XS.ifYes X0.here hx rfl (pc0 := 5) (pc' := 16) rfl (hb hby d2_5) rfl ((if0 _ _).trans (teq ((lw_eq _ _).mpr hc8)).1) (by decide) (by decide) k) ?_
    show Goes _ _ _ _ _ _ _ (s₁.setTop (mkF m 16 #[.val (.long q6), .second, .val (.long q7), .second] []))
    refine Goes.of (fun t k => X0.ldc2Long hx hown (mvT hZ (hw _ (List.mem_of_getElem? (i := 9) rfl))) (g := (mkF m 16 #[.val (.long q6), .second, .val (.long q7), .second] [])) rfl (hb hby d2_16) t k) ?_
    show Goes _ _ _ _ _ _ _ (s₁.setTop (mkF m 19 #[.val (.long q6), .second, .val (.long q7), .second] [(.long (-1 : Int64))]))
    exact Goes.fin X0 hlk (v := some (.long (-1 : Int64))) (fun h => by rw [Bd.returns] at h; cases h) (fun fs hr => retOut X0 hx Bd.returns (by rfl) (Or.inr (Or.inl ⟨rfl, rfl, _, rfl⟩)) (hb hby d2_19) hr) ⟨congrArg (fun z => some (Value.long z)) (by rw [f2, if_pos hc8] : (-1 : Int64) = f2 q6 q7), N0, e0⟩ (by decide) (by decide)
  · refine Goes.of (fun t k => XS.ifNo X0.here hx rfl (hb hby d2_5) rfl ((if0 _ _).trans (feq (fun q => hc8 ((lw_eq _ _).mp q))).1) k) ?_
    show Goes _ _ _ _ _ _ _ (s₁.setTop (mkF m 8 #[.val (.long q6), .second, .val (.long q7), .second] []))
    refine Goes.of (fun t k => XS.lloadN X0.here hx rfl (hb hby d2_8) rfl k) ?_
    show Goes _ _ _ _ _ _ _ (s₁.setTop (mkF m 9 #[.val (.long q6), .second, .val (.long q7), .second] [(.long q7)]))
    refine Goes.of (fun t k => X0.ldc2Long hx hown (mvT hZ (hw _ (List.mem_of_getElem? (i := 9) rfl))) (g := (mkF m 9 #[.val (.long q6), .second, .val (.long q7), .second] [(.long q7)])) rfl (hb hby d2_9) t k) ?_
    show Goes _ _ _ _ _ _ _ (s₁.setTop (mkF m 12 #[.val (.long q6), .second, .val (.long q7), .second] [(.long (-1 : Int64)), (.long q7)]))
    refine Goes.of (fun t k => XS.lcmp X0.here hx rfl (hb hby d2_12) rfl k) ?_
    show Goes _ _ _ _ _ _ _ (s₁.setTop (mkF m 13 #[.val (.long q6), .second, .val (.long q7), .second] [(.int (lcmpW q7 (-1 : Int64)))]))
    by_cases hc9 : q7 = (-1 : Int64)
    · refine Goes.of (fun t k => XS.ifNo X0.here hx rfl (hb hby d2_13) rfl ((if0 _ _).trans (teq ((lw_eq _ _).mpr hc9)).2) k) ?_
      show Goes _ _ _ _ _ _ _ (s₁.setTop (mkF m 16 #[.val (.long q6), .second, .val (.long q7), .second] []))
      refine Goes.of (fun t k => X0.ldc2Long hx hown (mvT hZ (hw _ (List.mem_of_getElem? (i := 9) rfl))) (g := (mkF m 16 #[.val (.long q6), .second, .val (.long q7), .second] [])) rfl (hb hby d2_16) t k) ?_
      show Goes _ _ _ _ _ _ _ (s₁.setTop (mkF m 19 #[.val (.long q6), .second, .val (.long q7), .second] [(.long (-1 : Int64))]))
      exact Goes.fin X0 hlk (v := some (.long (-1 : Int64))) (fun h => by rw [Bd.returns] at h; cases h) (fun fs hr => retOut X0 hx Bd.returns (by rfl) (Or.inr (Or.inl ⟨rfl, rfl, _, rfl⟩)) (hb hby d2_19) hr) ⟨congrArg (fun z => some (Value.long z)) (by rw [f2, if_neg hc8, if_pos hc9] : (-1 : Int64) = f2 q6 q7), N0, e0⟩ (by decide) (by decide)
    · refine Goes.of (fun t k => XS.ifYes X0.here hx rfl (pc0 := 13) (pc' := 20) rfl (hb hby d2_13) rfl ((if0 _ _).trans (feq (fun q => hc9 ((lw_eq _ _).mp q))).2) (by decide) (by decide) k) ?_
      show Goes _ _ _ _ _ _ _ (s₁.setTop (mkF m 20 #[.val (.long q6), .second, .val (.long q7), .second] []))
      refine Goes.of (fun t k => XS.lloadN X0.here hx rfl (hb hby d2_20) rfl k) ?_
      show Goes _ _ _ _ _ _ _ (s₁.setTop (mkF m 21 #[.val (.long q6), .second, .val (.long q7), .second] [(.long q6)]))
      refine Goes.of (fun t k => X0.ldc2Long hx hown (mvT hZ (hw _ (List.mem_of_getElem? (i := 10) rfl))) (g := (mkF m 21 #[.val (.long q6), .second, .val (.long q7), .second] [(.long q6)])) rfl (hb hby d2_21) t k) ?_
      show Goes _ _ _ _ _ _ _ (s₁.setTop (mkF m 24 #[.val (.long q6), .second, .val (.long q7), .second] [(.long (9223372036854775807 : Int64)), (.long q6)]))
      refine Goes.of (fun t k => XS.lloadN X0.here hx rfl (hb hby d2_24) rfl k) ?_
      show Goes _ _ _ _ _ _ _ (s₁.setTop (mkF m 25 #[.val (.long q6), .second, .val (.long q7), .second] [(.long q7), (.long (9223372036854775807 : Int64)), (.long q6)]))
      refine Goes.of (fun t k => XS.lsub X0.here hx rfl (hb hby d2_25) rfl k) ?_
      show Goes _ _ _ _ _ _ _ (s₁.setTop (mkF m 26 #[.val (.long q6), .second, .val (.long q7), .second] [(.long ((9223372036854775807 : Int64) - q7)), (.long q6)]))
      refine Goes.of (fun t k => XS.lcmp X0.here hx rfl (hb hby d2_26) rfl k) ?_
      show Goes _ _ _ _ _ _ _ (s₁.setTop (mkF m 27 #[.val (.long q6), .second, .val (.long q7), .second] [(.int (lcmpW q6 ((9223372036854775807 : Int64) - q7)))]))
      by_cases hc10 : ((9223372036854775807 : Int64) - q7) < q6
      · refine Goes.of (fun t k => XS.ifNo X0.here hx rfl (hb hby d2_27) rfl ((if0 _ _).trans (tlt ((lw_gt _ _).mpr hc10)).2.2.2) k) ?_
        show Goes _ _ _ _ _ _ _ (s₁.setTop (mkF m 30 #[.val (.long q6), .second, .val (.long q7), .second] []))
        refine Goes.of (fun t k => X0.ldc2Long hx hown (mvT hZ (hw _ (List.mem_of_getElem? (i := 9) rfl))) (g := (mkF m 30 #[.val (.long q6), .second, .val (.long q7), .second] [])) rfl (hb hby d2_30) t k) ?_
        show Goes _ _ _ _ _ _ _ (s₁.setTop (mkF m 33 #[.val (.long q6), .second, .val (.long q7), .second] [(.long (-1 : Int64))]))
        exact Goes.fin X0 hlk (v := some (.long (-1 : Int64))) (fun h => by rw [Bd.returns] at h; cases h) (fun fs hr => retOut X0 hx Bd.returns (by rfl) (Or.inr (Or.inl ⟨rfl, rfl, _, rfl⟩)) (hb hby d2_33) hr) ⟨congrArg (fun z => some (Value.long z)) (by rw [f2, if_neg hc8, if_neg hc9, if_pos hc10] : (-1 : Int64) = f2 q6 q7), N0, e0⟩ (by decide) (by decide)
      · refine Goes.of (fun t k => XS.ifYes X0.here hx rfl (pc0 := 27) (pc' := 34) rfl (hb hby d2_27) rfl ((if0 _ _).trans (flt (fun q => hc10 ((lw_gt _ _).mp q))).2.2.2) (by decide) (by decide) k) ?_
        show Goes _ _ _ _ _ _ _ (s₁.setTop (mkF m 34 #[.val (.long q6), .second, .val (.long q7), .second] []))
        refine Goes.of (fun t k => XS.lloadN X0.here hx rfl (hb hby d2_34) rfl k) ?_
        show Goes _ _ _ _ _ _ _ (s₁.setTop (mkF m 35 #[.val (.long q6), .second, .val (.long q7), .second] [(.long q6)]))
        refine Goes.of (fun t k => XS.lloadN X0.here hx rfl (hb hby d2_35) rfl k) ?_
        show Goes _ _ _ _ _ _ _ (s₁.setTop (mkF m 36 #[.val (.long q6), .second, .val (.long q7), .second] [(.long q7), (.long q6)]))
        refine Goes.of (fun t k => XS.ladd X0.here hx rfl (hb hby d2_36) rfl k) ?_
        show Goes _ _ _ _ _ _ _ (s₁.setTop (mkF m 37 #[.val (.long q6), .second, .val (.long q7), .second] [(.long (q6 + q7))]))
        exact Goes.fin X0 hlk (v := some (.long (q6 + q7))) (fun h => by rw [Bd.returns] at h; cases h) (fun fs hr => retOut X0 hx Bd.returns (by rfl) (Or.inr (Or.inl ⟨rfl, rfl, _, rfl⟩)) (hb hby d2_37) hr) ⟨congrArg (fun z => some (Value.long z)) (by rw [f2, if_neg hc8, if_neg hc9, if_neg hc10] : (q6 + q7) = f2 q6 q7), N0, e0⟩ (by decide) (by decide)
theorem pd_0 : parseMethodDescriptor "(JJ)J" = some ⟨[.long, .long], some .long⟩ := by decide +kernel
theorem ef_0 (m : MethodId) (u0 : Int64) (u1 : Int64) : entryFrame m #[(.long u0), (.long u1)] maxLocals = mkF m 0 #[.val (.long u0), .second, .val (.long u1), .second, .unset, .unset, .unset, .unset, .unset, .unset] [] := by first | (simp [entryFrame, mkF, argsToLocals, Value.category, maxLocals]; done) | rfl
def f0 (u0 : Int64) (u1 : Int64) : Int32 :=
  (if u0 < (0 : Int64) then (if u1 < (0 : Int64) then (if (f1 (-1 : Int64) (-1 : Int64)) = (f2 (-1 : Int64) (-1 : Int64)) then (1 : Int32)
      else (0 : Int32))
    else (if (f1 (-1 : Int64) u1) = (f2 (-1 : Int64) u1) then (1 : Int32)
      else (0 : Int32)))
  else (if u1 < (0 : Int64) then (if (f1 u0 (-1 : Int64)) = (f2 u0 (-1 : Int64)) then (1 : Int32)
      else (0 : Int32))
    else (if (f1 u0 u1) = (f2 u0 u1) then (1 : Int32)
      else (0 : Int32))))
def Q0 (u0 : Int64) (u1 : Int64) (h0 : Heap) (n0 : Nat) (v : Option Value) (h : Heap) (L : List Loc) : Prop := v = some (.int (f0 u0 u1)) ∧ Fr n0 L ∧ h = h0
set_option maxRecDepth 65536 in
set_option maxHeartbeats 40000000 in
theorem rm0 (l : Launch) (Z : State) (a0 : Array Value) (hw : ∀ d ∈ tables_1, d.before a0 Z = true) (ws : List Jvm.Cond) (u0 : Int64) (u1 : Int64) (h0 : Heap) (n0 : Nat) :
    MetFree l x (head1 (Jvm.Cond.code x code maxLocals ret :: ws) room_1) (fun a U => a = #[(.long u0), (.long u1)] ∧ Z.Warmed39 U.vm ∧ U.heap = h0) (fun _ _ _ _ _ => True) (fun _ U o U' => ∃ v L, o = .returned v ∧ Q0 u0 u1 h0 n0 v U'.heap L ∧ FrameEnd U o U' L room_1.cells room_1.slots) := by
  refine MetFree.of_bodySF (plainFor_of_name pn_1) hisR ?_
  intro p e s m args below meth c s₁ Bd hml0 hP hK
  obtain ⟨rfl, hZ, hh⟩ := hP
  have hx := Bd.exec
  have hby := Bd.bytes
  have hlk : meth.locks = false := BodyLoose.notSynchronized Bd
  have hml : c.maxLocals = 10 := hml0
  have hown : s.vm.findClass "com/example/orderly_twig/orderlytwig/engine/WaysSumPinLaw" = some m.cls := findClass_of_methodNamed Bd.named
  have X0 : Stand p l e room_1 s m #[(.long u0), (.long u1)] below meth c s₁ [] 0 0 := Stand.of_body Bd
  have e0 : s₁.heap = h0 := by rw [← hh, Bd.state]; rfl
  have N0 := Fr.nil n0
  show Goes p.tables e below s (Q0 u0 u1 h0 n0) room_1.cells room_1.slots (s₁.setTop (entryFrame m #[(.long u0), (.long u1)] maxLocals))
  refine Goes.of (fun t k => castTop (ef_0 m u0 u1) k) ?_
  show Goes _ _ _ _ _ _ _ (s₁.setTop (mkF m 0 #[.val (.long u0), .second, .val (.long u1), .second, .unset, .unset, .unset, .unset, .unset, .unset] []))
  refine Goes.of (fun t k => XS.lloadN X0.here hx rfl (hb hby at_0) rfl k) ?_
  show Goes _ _ _ _ _ _ _ (s₁.setTop (mkF m 1 #[.val (.long u0), .second, .val (.long u1), .second, .unset, .unset, .unset, .unset, .unset, .unset] [(.long u0)]))
  refine Goes.of (fun t k => XS.lconst X0.here hx rfl (hb hby at_1) k) ?_
  show Goes _ _ _ _ _ _ _ (s₁.setTop (mkF m 2 #[.val (.long u0), .second, .val (.long u1), .second, .unset, .unset, .unset, .unset, .unset, .unset] [(.long (0 : Int64)), (.long u0)]))
  refine Goes.of (fun t k => XS.lcmp X0.here hx rfl (hb hby at_2) rfl k) ?_
  show Goes _ _ _ _ _ _ _ (s₁.setTop (mkF m 3 #[.val (.long u0), .second, .val (.long u1), .second, .unset, .unset, .unset, .unset, .unset, .unset] [(.int (lcmpW u0 (0 : Int64)))]))
  by_cases hc11 : u0 < (0 : Int64)
  · refine Goes.of (fun t k => XS.ifNo X0.here hx rfl (hb hby at_3) rfl ((if0 _ _).trans (tlt ((lw_lt _ _).mpr hc11)).2.1) k) ?_
    show Goes _ _ _ _ _ _ _ (s₁.setTop (mkF m 6 #[.val (.long u0), .second, .val (.long u1), .second, .unset, .unset, .unset, .unset, .unset, .unset] []))
    refine Goes.of (fun t k => X0.ldc2Long hx hown (mvT hZ (hw _ (List.mem_of_getElem? (i := 9) rfl))) (g := (mkF m 6 #[.val (.long u0), .second, .val (.long u1), .second, .unset, .unset, .unset, .unset, .unset, .unset] [])) rfl (hb hby at_6) t k) ?_
    show Goes _ _ _ _ _ _ _ (s₁.setTop (mkF m 9 #[.val (.long u0), .second, .val (.long u1), .second, .unset, .unset, .unset, .unset, .unset, .unset] [(.long (-1 : Int64))]))
    refine Goes.of (fun t k => XS.goto X0.here hx rfl (pc0 := 9) (pc' := 13) rfl (hb hby at_9) (by decide) (by decide) k) ?_
    show Goes _ _ _ _ _ _ _ (s₁.setTop (mkF m 13 #[.val (.long u0), .second, .val (.long u1), .second, .unset, .unset, .unset, .unset, .unset, .unset] [(.long (-1 : Int64))]))
    refine Goes.of (fun t k => XS.lstore X0.here hx rfl (hb hby at_13) rfl (l' := #[.val (.long u0), .second, .val (.long u1), .second, .val (.long (-1 : Int64)), .second, .unset, .unset, .unset, .unset]) rfl k) ?_
    show Goes _ _ _ _ _ _ _ (s₁.setTop (mkF m 15 #[.val (.long u0), .second, .val (.long u1), .second, .val (.long (-1 : Int64)), .second, .unset, .unset, .unset, .unset] []))
    refine Goes.of (fun t k => XS.lloadN X0.here hx rfl (hb hby at_15) rfl k) ?_
    show Goes _ _ _ _ _ _ _ (s₁.setTop (mkF m 16 #[.val (.long u0), .second, .val (.long u1), .second, .val (.long (-1 : Int64)), .second, .unset, .unset, .unset, .unset] [(.long u1)]))
    refine Goes.of (fun t k => XS.lconst X0.here hx rfl (hb hby at_16) k) ?_
    show Goes _ _ _ _ _ _ _ (s₁.setTop (mkF m 17 #[.val (.long u0), .second, .val (.long u1), .second, .val (.long (-1 : Int64)), .second, .unset, .unset, .unset, .unset] [(.long (0 : Int64)), (.long u1)]))
    refine Goes.of (fun t k => XS.lcmp X0.here hx rfl (hb hby at_17) rfl k) ?_
    show Goes _ _ _ _ _ _ _ (s₁.setTop (mkF m 18 #[.val (.long u0), .second, .val (.long u1), .second, .val (.long (-1 : Int64)), .second, .unset, .unset, .unset, .unset] [(.int (lcmpW u1 (0 : Int64)))]))
    by_cases hc12 : u1 < (0 : Int64)
    · refine Goes.of (fun t k => XS.ifNo X0.here hx rfl (hb hby at_18) rfl ((if0 _ _).trans (tlt ((lw_lt _ _).mpr hc12)).2.1) k) ?_
      show Goes _ _ _ _ _ _ _ (s₁.setTop (mkF m 21 #[.val (.long u0), .second, .val (.long u1), .second, .val (.long (-1 : Int64)), .second, .unset, .unset, .unset, .unset] []))
      refine Goes.of (fun t k => X0.ldc2Long hx hown (mvT hZ (hw _ (List.mem_of_getElem? (i := 9) rfl))) (g := (mkF m 21 #[.val (.long u0), .second, .val (.long u1), .second, .val (.long (-1 : Int64)), .second, .unset, .unset, .unset, .unset] [])) rfl (hb hby at_21) t k) ?_
      show Goes _ _ _ _ _ _ _ (s₁.setTop (mkF m 24 #[.val (.long u0), .second, .val (.long u1), .second, .val (.long (-1 : Int64)), .second, .unset, .unset, .unset, .unset] [(.long (-1 : Int64))]))
      refine Goes.of (fun t k => XS.goto X0.here hx rfl (pc0 := 24) (pc' := 28) rfl (hb hby at_24) (by decide) (by decide) k) ?_
      show Goes _ _ _ _ _ _ _ (s₁.setTop (mkF m 28 #[.val (.long u0), .second, .val (.long u1), .second, .val (.long (-1 : Int64)), .second, .unset, .unset, .unset, .unset] [(.long (-1 : Int64))]))
      refine Goes.of (fun t k => XS.lstore X0.here hx rfl (hb hby at_28) rfl (l' := #[.val (.long u0), .second, .val (.long u1), .second, .val (.long (-1 : Int64)), .second, .val (.long (-1 : Int64)), .second, .unset, .unset]) rfl k) ?_
      show Goes _ _ _ _ _ _ _ (s₁.setTop (mkF m 30 #[.val (.long u0), .second, .val (.long u1), .second, .val (.long (-1 : Int64)), .second, .val (.long (-1 : Int64)), .second, .unset, .unset] []))
      refine Goes.of (fun t k => XS.lload X0.here hx rfl (hb hby at_30) rfl k) ?_
      show Goes _ _ _ _ _ _ _ (s₁.setTop (mkF m 32 #[.val (.long u0), .second, .val (.long u1), .second, .val (.long (-1 : Int64)), .second, .val (.long (-1 : Int64)), .second, .unset, .unset] [(.long (-1 : Int64))]))
      refine Goes.of (fun t k => XS.lload X0.here hx rfl (hb hby at_32) rfl k) ?_
      show Goes _ _ _ _ _ _ _ (s₁.setTop (mkF m 34 #[.val (.long u0), .second, .val (.long u1), .second, .val (.long (-1 : Int64)), .second, .val (.long (-1 : Int64)), .second, .unset, .unset] [(.long (-1 : Int64)), (.long (-1 : Int64))]))
      obtain ⟨_, _, ⟨T13, L13, k13, n13⟩, -, X13, ⟨Lc13, hQ13, l13, y13, z13⟩, st13⟩ := Jvm.LawKit.callS X0 hx (y := (⟨"com/example/orderly_twig/orderlytwig/engine/Ways", "sum", "(JJ)J"⟩ : MethodName)) hown (mvT hZ (hw _ (List.mem_of_getElem? (i := 0) rfl))) (mvT hZ (hw _ (List.mem_of_getElem? (i := 1) rfl))) (mvT hZ (hw _ (List.mem_of_getElem? (i := 2) rfl))) (mvT hZ (hw _ (List.mem_of_getElem? (i := 3) rfl))) (by decide) (backOf (W := 0) (rm1 l Z a0 hw [] (-1 : Int64) (-1 : Int64) h0 n0) hZ (hw _ (List.mem_of_getElem? (i := 3) rfl)) (hw _ (List.mem_of_getElem? (i := 2) rfl)) (by decide) (by decide)) (g := (mkF m 34 #[.val (.long u0), .second, .val (.long u1), .second, .val (.long (-1 : Int64)), .second, .val (.long (-1 : Int64)), .second, .unset, .unset] [(.long (-1 : Int64)), (.long (-1 : Int64))])) rfl (by rw [hml]; rfl) (argsL := [(.long (-1 : Int64)), (.long (-1 : Int64))]) (rest := []) (lenOf pd_0 rfl) rfl (by show 2 * 0 + _ ≤ _; exact Nat.le_of_eq rfl) (hb hby at_34) (fun _ _ => ⟨rfl, e0, (by decide : 0 + 0 ≤ _), (by decide : 0 + 0 ≤ _)⟩)
      dsimp only [Pt.U, Pt.locs, Pt.cells, Pt.slots] at X13 l13 y13 z13 st13 hQ13
      subst l13 y13 z13
      obtain ⟨rfl, N13q, e13⟩ := hQ13
      have N13 := Fr.app N0 N13q
      refine Goes.of st13 ?_
      show Goes _ _ _ _ _ _ _ (T13.setTop (mkF m 37 #[.val (.long u0), .second, .val (.long u1), .second, .val (.long (-1 : Int64)), .second, .val (.long (-1 : Int64)), .second, .unset, .unset] [(.long (f1 (-1 : Int64) (-1 : Int64)))]))
      refine Goes.of (fun t k => XS.lstore X13.here hx rfl (hb hby at_37) rfl (l' := #[.val (.long u0), .second, .val (.long u1), .second, .val (.long (-1 : Int64)), .second, .val (.long (-1 : Int64)), .second, .val (.long (f1 (-1 : Int64) (-1 : Int64))), .second]) rfl k) ?_
      show Goes _ _ _ _ _ _ _ (T13.setTop (mkF m 39 #[.val (.long u0), .second, .val (.long u1), .second, .val (.long (-1 : Int64)), .second, .val (.long (-1 : Int64)), .second, .val (.long (f1 (-1 : Int64) (-1 : Int64))), .second] []))
      refine Goes.of (fun t k => XS.lload X13.here hx rfl (hb hby at_39) rfl k) ?_
      show Goes _ _ _ _ _ _ _ (T13.setTop (mkF m 41 #[.val (.long u0), .second, .val (.long u1), .second, .val (.long (-1 : Int64)), .second, .val (.long (-1 : Int64)), .second, .val (.long (f1 (-1 : Int64) (-1 : Int64))), .second] [(.long (f1 (-1 : Int64) (-1 : Int64)))]))
      refine Goes.of (fun t k => XS.lload X13.here hx rfl (hb hby at_41) rfl k) ?_
      show Goes _ _ _ _ _ _ _ (T13.setTop (mkF m 43 #[.val (.long u0), .second, .val (.long u1), .second, .val (.long (-1 : Int64)), .second, .val (.long (-1 : Int64)), .second, .val (.long (f1 (-1 : Int64) (-1 : Int64))), .second] [(.long (-1 : Int64)), (.long (f1 (-1 : Int64) (-1 : Int64)))]))
      refine Goes.of (fun t k => XS.lload X13.here hx rfl (hb hby at_43) rfl k) ?_
      show Goes _ _ _ _ _ _ _ (T13.setTop (mkF m 45 #[.val (.long u0), .second, .val (.long u1), .second, .val (.long (-1 : Int64)), .second, .val (.long (-1 : Int64)), .second, .val (.long (f1 (-1 : Int64) (-1 : Int64))), .second] [(.long (-1 : Int64)), (.long (-1 : Int64)), (.long (f1 (-1 : Int64) (-1 : Int64)))]))
      obtain ⟨_, _, ⟨T14, L14, k14, n14⟩, -, X14, ⟨Lc14, hQ14, l14, y14, z14⟩, st14⟩ := Jvm.LawKit.callS X13 hx (y := (⟨"com/example/orderly_twig/orderlytwig/engine/WaysSumPinLaw", "expected", "(JJ)J"⟩ : MethodName)) hown (mvT hZ (hw _ (List.mem_of_getElem? (i := 5) rfl))) (mvT hZ (hw _ (List.mem_of_getElem? (i := 6) rfl))) (mvT hZ (hw _ (List.mem_of_getElem? (i := 7) rfl))) (mvT hZ (hw _ (List.mem_of_getElem? (i := 8) rfl))) (by decide) (backOf (W := 2) (rm2 l Z a0 hw [] (-1 : Int64) (-1 : Int64) h0 n0) hZ (hw _ (List.mem_of_getElem? (i := 8) rfl)) (hw _ (List.mem_of_getElem? (i := 7) rfl)) (by decide) (by decide)) (g := (mkF m 45 #[.val (.long u0), .second, .val (.long u1), .second, .val (.long (-1 : Int64)), .second, .val (.long (-1 : Int64)), .second, .val (.long (f1 (-1 : Int64) (-1 : Int64))), .second] [(.long (-1 : Int64)), (.long (-1 : Int64)), (.long (f1 (-1 : Int64) (-1 : Int64)))])) rfl (by rw [hml]; rfl) (argsL := [(.long (-1 : Int64)), (.long (-1 : Int64))]) (rest := [(.long (f1 (-1 : Int64) (-1 : Int64)))]) (lenOf pd_0 rfl) rfl (by show 2 * 0 + _ ≤ _; exact Nat.le_of_eq rfl) (hb hby at_45) (fun _ _ => ⟨rfl, e13, (by decide : 0 + 0 ≤ _), (by decide : 0 + 0 ≤ _)⟩)
      dsimp only [Pt.U, Pt.locs, Pt.cells, Pt.slots] at X14 l14 y14 z14 st14 hQ14
      subst l14 y14 z14
      obtain ⟨rfl, N14q, e14⟩ := hQ14
      have N14 := Fr.app N13 N14q
      refine Goes.of st14 ?_
      show Goes _ _ _ _ _ _ _ (T14.setTop (mkF m 48 #[.val (.long u0), .second, .val (.long u1), .second, .val (.long (-1 : Int64)), .second, .val (.long (-1 : Int64)), .second, .val (.long (f1 (-1 : Int64) (-1 : Int64))), .second] [(.long (f2 (-1 : Int64) (-1 : Int64))), (.long (f1 (-1 : Int64) (-1 : Int64)))]))
      refine Goes.of (fun t k => XS.lcmp X14.here hx rfl (hb hby at_48) rfl k) ?_
      show Goes _ _ _ _ _ _ _ (T14.setTop (mkF m 49 #[.val (.long u0), .second, .val (.long u1), .second, .val (.long (-1 : Int64)), .second, .val (.long (-1 : Int64)), .second, .val (.long (f1 (-1 : Int64) (-1 : Int64))), .second] [(.int (lcmpW (f1 (-1 : Int64) (-1 : Int64)) (f2 (-1 : Int64) (-1 : Int64))))]))
      by_cases hc15 : (f1 (-1 : Int64) (-1 : Int64)) = (f2 (-1 : Int64) (-1 : Int64))
      · refine Goes.of (fun t k => XS.ifNo X14.here hx rfl (hb hby at_49) rfl ((if0 _ _).trans (teq ((lw_eq _ _).mpr hc15)).2) k) ?_
        show Goes _ _ _ _ _ _ _ (T14.setTop (mkF m 52 #[.val (.long u0), .second, .val (.long u1), .second, .val (.long (-1 : Int64)), .second, .val (.long (-1 : Int64)), .second, .val (.long (f1 (-1 : Int64) (-1 : Int64))), .second] []))
        refine Goes.of (fun t k => XS.iconst X14.here hx rfl (hb hby at_52) k) ?_
        show Goes _ _ _ _ _ _ _ (T14.setTop (mkF m 53 #[.val (.long u0), .second, .val (.long u1), .second, .val (.long (-1 : Int64)), .second, .val (.long (-1 : Int64)), .second, .val (.long (f1 (-1 : Int64) (-1 : Int64))), .second] [(.int (1 : Int32))]))
        refine Goes.of (fun t k => XS.goto X14.here hx rfl (pc0 := 53) (pc' := 57) rfl (hb hby at_53) (by decide) (by decide) k) ?_
        show Goes _ _ _ _ _ _ _ (T14.setTop (mkF m 57 #[.val (.long u0), .second, .val (.long u1), .second, .val (.long (-1 : Int64)), .second, .val (.long (-1 : Int64)), .second, .val (.long (f1 (-1 : Int64) (-1 : Int64))), .second] [(.int (1 : Int32))]))
        exact Goes.fin X14 hlk (v := some (.int (1 : Int32))) (fun h => by rw [Bd.returns] at h; cases h) (fun fs hr => retN X14 hx (t := .boolean) Bd.returns (by simp) (hb hby at_57) hr) ⟨congrArg (fun z => some (Value.int z)) (by rw [f0, if_pos hc11, if_pos hc12, if_pos hc15] : (1 : Int32) = f0 u0 u1), N14, e14⟩ (by decide) (by decide)
      · refine Goes.of (fun t k => XS.ifYes X14.here hx rfl (pc0 := 49) (pc' := 56) rfl (hb hby at_49) rfl ((if0 _ _).trans (feq (fun q => hc15 ((lw_eq _ _).mp q))).2) (by decide) (by decide) k) ?_
        show Goes _ _ _ _ _ _ _ (T14.setTop (mkF m 56 #[.val (.long u0), .second, .val (.long u1), .second, .val (.long (-1 : Int64)), .second, .val (.long (-1 : Int64)), .second, .val (.long (f1 (-1 : Int64) (-1 : Int64))), .second] []))
        refine Goes.of (fun t k => XS.iconst X14.here hx rfl (hb hby at_56) k) ?_
        show Goes _ _ _ _ _ _ _ (T14.setTop (mkF m 57 #[.val (.long u0), .second, .val (.long u1), .second, .val (.long (-1 : Int64)), .second, .val (.long (-1 : Int64)), .second, .val (.long (f1 (-1 : Int64) (-1 : Int64))), .second] [(.int (0 : Int32))]))
        exact Goes.fin X14 hlk (v := some (.int (0 : Int32))) (fun h => by rw [Bd.returns] at h; cases h) (fun fs hr => retN X14 hx (t := .boolean) Bd.returns (by simp) (hb hby at_57) hr) ⟨congrArg (fun z => some (Value.int z)) (by rw [f0, if_pos hc11, if_pos hc12, if_neg hc15] : (0 : Int32) = f0 u0 u1), N14, e14⟩ (by decide) (by decide)
    · refine Goes.of (fun t k => XS.ifYes X0.here hx rfl (pc0 := 18) (pc' := 27) rfl (hb hby at_18) rfl ((if0 _ _).trans (flt (fun q => hc12 ((lw_lt _ _).mp q))).2.1) (by decide) (by decide) k) ?_
      show Goes _ _ _ _ _ _ _ (s₁.setTop (mkF m 27 #[.val (.long u0), .second, .val (.long u1), .second, .val (.long (-1 : Int64)), .second, .unset, .unset, .unset, .unset] []))
      refine Goes.of (fun t k => XS.lloadN X0.here hx rfl (hb hby at_27) rfl k) ?_
      show Goes _ _ _ _ _ _ _ (s₁.setTop (mkF m 28 #[.val (.long u0), .second, .val (.long u1), .second, .val (.long (-1 : Int64)), .second, .unset, .unset, .unset, .unset] [(.long u1)]))
      refine Goes.of (fun t k => XS.lstore X0.here hx rfl (hb hby at_28) rfl (l' := #[.val (.long u0), .second, .val (.long u1), .second, .val (.long (-1 : Int64)), .second, .val (.long u1), .second, .unset, .unset]) rfl k) ?_
      show Goes _ _ _ _ _ _ _ (s₁.setTop (mkF m 30 #[.val (.long u0), .second, .val (.long u1), .second, .val (.long (-1 : Int64)), .second, .val (.long u1), .second, .unset, .unset] []))
      refine Goes.of (fun t k => XS.lload X0.here hx rfl (hb hby at_30) rfl k) ?_
      show Goes _ _ _ _ _ _ _ (s₁.setTop (mkF m 32 #[.val (.long u0), .second, .val (.long u1), .second, .val (.long (-1 : Int64)), .second, .val (.long u1), .second, .unset, .unset] [(.long (-1 : Int64))]))
      refine Goes.of (fun t k => XS.lload X0.here hx rfl (hb hby at_32) rfl k) ?_
      show Goes _ _ _ _ _ _ _ (s₁.setTop (mkF m 34 #[.val (.long u0), .second, .val (.long u1), .second, .val (.long (-1 : Int64)), .second, .val (.long u1), .second, .unset, .unset] [(.long u1), (.long (-1 : Int64))]))
      obtain ⟨_, _, ⟨T16, L16, k16, n16⟩, -, X16, ⟨Lc16, hQ16, l16, y16, z16⟩, st16⟩ := Jvm.LawKit.callS X0 hx (y := (⟨"com/example/orderly_twig/orderlytwig/engine/Ways", "sum", "(JJ)J"⟩ : MethodName)) hown (mvT hZ (hw _ (List.mem_of_getElem? (i := 0) rfl))) (mvT hZ (hw _ (List.mem_of_getElem? (i := 1) rfl))) (mvT hZ (hw _ (List.mem_of_getElem? (i := 2) rfl))) (mvT hZ (hw _ (List.mem_of_getElem? (i := 3) rfl))) (by decide) (backOf (W := 0) (rm1 l Z a0 hw [] (-1 : Int64) u1 h0 n0) hZ (hw _ (List.mem_of_getElem? (i := 3) rfl)) (hw _ (List.mem_of_getElem? (i := 2) rfl)) (by decide) (by decide)) (g := (mkF m 34 #[.val (.long u0), .second, .val (.long u1), .second, .val (.long (-1 : Int64)), .second, .val (.long u1), .second, .unset, .unset] [(.long u1), (.long (-1 : Int64))])) rfl (by rw [hml]; rfl) (argsL := [(.long (-1 : Int64)), (.long u1)]) (rest := []) (lenOf pd_0 rfl) rfl (by show 2 * 0 + _ ≤ _; exact Nat.le_of_eq rfl) (hb hby at_34) (fun _ _ => ⟨rfl, e0, (by decide : 0 + 0 ≤ _), (by decide : 0 + 0 ≤ _)⟩)
      dsimp only [Pt.U, Pt.locs, Pt.cells, Pt.slots] at X16 l16 y16 z16 st16 hQ16
      subst l16 y16 z16
      obtain ⟨rfl, N16q, e16⟩ := hQ16
      have N16 := Fr.app N0 N16q
      refine Goes.of st16 ?_
      show Goes _ _ _ _ _ _ _ (T16.setTop (mkF m 37 #[.val (.long u0), .second, .val (.long u1), .second, .val (.long (-1 : Int64)), .second, .val (.long u1), .second, .unset, .unset] [(.long (f1 (-1 : Int64) u1))]))
      refine Goes.of (fun t k => XS.lstore X16.here hx rfl (hb hby at_37) rfl (l' := #[.val (.long u0), .second, .val (.long u1), .second, .val (.long (-1 : Int64)), .second, .val (.long u1), .second, .val (.long (f1 (-1 : Int64) u1)), .second]) rfl k) ?_
      show Goes _ _ _ _ _ _ _ (T16.setTop (mkF m 39 #[.val (.long u0), .second, .val (.long u1), .second, .val (.long (-1 : Int64)), .second, .val (.long u1), .second, .val (.long (f1 (-1 : Int64) u1)), .second] []))
      refine Goes.of (fun t k => XS.lload X16.here hx rfl (hb hby at_39) rfl k) ?_
      show Goes _ _ _ _ _ _ _ (T16.setTop (mkF m 41 #[.val (.long u0), .second, .val (.long u1), .second, .val (.long (-1 : Int64)), .second, .val (.long u1), .second, .val (.long (f1 (-1 : Int64) u1)), .second] [(.long (f1 (-1 : Int64) u1))]))
      refine Goes.of (fun t k => XS.lload X16.here hx rfl (hb hby at_41) rfl k) ?_
      show Goes _ _ _ _ _ _ _ (T16.setTop (mkF m 43 #[.val (.long u0), .second, .val (.long u1), .second, .val (.long (-1 : Int64)), .second, .val (.long u1), .second, .val (.long (f1 (-1 : Int64) u1)), .second] [(.long (-1 : Int64)), (.long (f1 (-1 : Int64) u1))]))
      refine Goes.of (fun t k => XS.lload X16.here hx rfl (hb hby at_43) rfl k) ?_
      show Goes _ _ _ _ _ _ _ (T16.setTop (mkF m 45 #[.val (.long u0), .second, .val (.long u1), .second, .val (.long (-1 : Int64)), .second, .val (.long u1), .second, .val (.long (f1 (-1 : Int64) u1)), .second] [(.long u1), (.long (-1 : Int64)), (.long (f1 (-1 : Int64) u1))]))
      obtain ⟨_, _, ⟨T17, L17, k17, n17⟩, -, X17, ⟨Lc17, hQ17, l17, y17, z17⟩, st17⟩ := Jvm.LawKit.callS X16 hx (y := (⟨"com/example/orderly_twig/orderlytwig/engine/WaysSumPinLaw", "expected", "(JJ)J"⟩ : MethodName)) hown (mvT hZ (hw _ (List.mem_of_getElem? (i := 5) rfl))) (mvT hZ (hw _ (List.mem_of_getElem? (i := 6) rfl))) (mvT hZ (hw _ (List.mem_of_getElem? (i := 7) rfl))) (mvT hZ (hw _ (List.mem_of_getElem? (i := 8) rfl))) (by decide) (backOf (W := 2) (rm2 l Z a0 hw [] (-1 : Int64) u1 h0 n0) hZ (hw _ (List.mem_of_getElem? (i := 8) rfl)) (hw _ (List.mem_of_getElem? (i := 7) rfl)) (by decide) (by decide)) (g := (mkF m 45 #[.val (.long u0), .second, .val (.long u1), .second, .val (.long (-1 : Int64)), .second, .val (.long u1), .second, .val (.long (f1 (-1 : Int64) u1)), .second] [(.long u1), (.long (-1 : Int64)), (.long (f1 (-1 : Int64) u1))])) rfl (by rw [hml]; rfl) (argsL := [(.long (-1 : Int64)), (.long u1)]) (rest := [(.long (f1 (-1 : Int64) u1))]) (lenOf pd_0 rfl) rfl (by show 2 * 0 + _ ≤ _; exact Nat.le_of_eq rfl) (hb hby at_45) (fun _ _ => ⟨rfl, e16, (by decide : 0 + 0 ≤ _), (by decide : 0 + 0 ≤ _)⟩)
      dsimp only [Pt.U, Pt.locs, Pt.cells, Pt.slots] at X17 l17 y17 z17 st17 hQ17
      subst l17 y17 z17
      obtain ⟨rfl, N17q, e17⟩ := hQ17
      have N17 := Fr.app N16 N17q
      refine Goes.of st17 ?_
      show Goes _ _ _ _ _ _ _ (T17.setTop (mkF m 48 #[.val (.long u0), .second, .val (.long u1), .second, .val (.long (-1 : Int64)), .second, .val (.long u1), .second, .val (.long (f1 (-1 : Int64) u1)), .second] [(.long (f2 (-1 : Int64) u1)), (.long (f1 (-1 : Int64) u1))]))
      refine Goes.of (fun t k => XS.lcmp X17.here hx rfl (hb hby at_48) rfl k) ?_
      show Goes _ _ _ _ _ _ _ (T17.setTop (mkF m 49 #[.val (.long u0), .second, .val (.long u1), .second, .val (.long (-1 : Int64)), .second, .val (.long u1), .second, .val (.long (f1 (-1 : Int64) u1)), .second] [(.int (lcmpW (f1 (-1 : Int64) u1) (f2 (-1 : Int64) u1)))]))
      by_cases hc18 : (f1 (-1 : Int64) u1) = (f2 (-1 : Int64) u1)
      · refine Goes.of (fun t k => XS.ifNo X17.here hx rfl (hb hby at_49) rfl ((if0 _ _).trans (teq ((lw_eq _ _).mpr hc18)).2) k) ?_
        show Goes _ _ _ _ _ _ _ (T17.setTop (mkF m 52 #[.val (.long u0), .second, .val (.long u1), .second, .val (.long (-1 : Int64)), .second, .val (.long u1), .second, .val (.long (f1 (-1 : Int64) u1)), .second] []))
        refine Goes.of (fun t k => XS.iconst X17.here hx rfl (hb hby at_52) k) ?_
        show Goes _ _ _ _ _ _ _ (T17.setTop (mkF m 53 #[.val (.long u0), .second, .val (.long u1), .second, .val (.long (-1 : Int64)), .second, .val (.long u1), .second, .val (.long (f1 (-1 : Int64) u1)), .second] [(.int (1 : Int32))]))
        refine Goes.of (fun t k => XS.goto X17.here hx rfl (pc0 := 53) (pc' := 57) rfl (hb hby at_53) (by decide) (by decide) k) ?_
        show Goes _ _ _ _ _ _ _ (T17.setTop (mkF m 57 #[.val (.long u0), .second, .val (.long u1), .second, .val (.long (-1 : Int64)), .second, .val (.long u1), .second, .val (.long (f1 (-1 : Int64) u1)), .second] [(.int (1 : Int32))]))
        exact Goes.fin X17 hlk (v := some (.int (1 : Int32))) (fun h => by rw [Bd.returns] at h; cases h) (fun fs hr => retN X17 hx (t := .boolean) Bd.returns (by simp) (hb hby at_57) hr) ⟨congrArg (fun z => some (Value.int z)) (by rw [f0, if_pos hc11, if_neg hc12, if_pos hc18] : (1 : Int32) = f0 u0 u1), N17, e17⟩ (by decide) (by decide)
      · refine Goes.of (fun t k => XS.ifYes X17.here hx rfl (pc0 := 49) (pc' := 56) rfl (hb hby at_49) rfl ((if0 _ _).trans (feq (fun q => hc18 ((lw_eq _ _).mp q))).2) (by decide) (by decide) k) ?_
        show Goes _ _ _ _ _ _ _ (T17.setTop (mkF m 56 #[.val (.long u0), .second, .val (.long u1), .second, .val (.long (-1 : Int64)), .second, .val (.long u1), .second, .val (.long (f1 (-1 : Int64) u1)), .second] []))
        refine Goes.of (fun t k => XS.iconst X17.here hx rfl (hb hby at_56) k) ?_
        show Goes _ _ _ _ _ _ _ (T17.setTop (mkF m 57 #[.val (.long u0), .second, .val (.long u1), .second, .val (.long (-1 : Int64)), .second, .val (.long u1), .second, .val (.long (f1 (-1 : Int64) u1)), .second] [(.int (0 : Int32))]))
        exact Goes.fin X17 hlk (v := some (.int (0 : Int32))) (fun h => by rw [Bd.returns] at h; cases h) (fun fs hr => retN X17 hx (t := .boolean) Bd.returns (by simp) (hb hby at_57) hr) ⟨congrArg (fun z => some (Value.int z)) (by rw [f0, if_pos hc11, if_neg hc12, if_neg hc18] : (0 : Int32) = f0 u0 u1), N17, e17⟩ (by decide) (by decide)
  · refine Goes.of (fun t k => XS.ifYes X0.here hx rfl (pc0 := 3) (pc' := 12) rfl (hb hby at_3) rfl ((if0 _ _).trans (flt (fun q => hc11 ((lw_lt _ _).mp q))).2.1) (by decide) (by decide) k) ?_
    show Goes _ _ _ _ _ _ _ (s₁.setTop (mkF m 12 #[.val (.long u0), .second, .val (.long u1), .second, .unset, .unset, .unset, .unset, .unset, .unset] []))
    refine Goes.of (fun t k => XS.lloadN X0.here hx rfl (hb hby at_12) rfl k) ?_
    show Goes _ _ _ _ _ _ _ (s₁.setTop (mkF m 13 #[.val (.long u0), .second, .val (.long u1), .second, .unset, .unset, .unset, .unset, .unset, .unset] [(.long u0)]))
    refine Goes.of (fun t k => XS.lstore X0.here hx rfl (hb hby at_13) rfl (l' := #[.val (.long u0), .second, .val (.long u1), .second, .val (.long u0), .second, .unset, .unset, .unset, .unset]) rfl k) ?_
    show Goes _ _ _ _ _ _ _ (s₁.setTop (mkF m 15 #[.val (.long u0), .second, .val (.long u1), .second, .val (.long u0), .second, .unset, .unset, .unset, .unset] []))
    refine Goes.of (fun t k => XS.lloadN X0.here hx rfl (hb hby at_15) rfl k) ?_
    show Goes _ _ _ _ _ _ _ (s₁.setTop (mkF m 16 #[.val (.long u0), .second, .val (.long u1), .second, .val (.long u0), .second, .unset, .unset, .unset, .unset] [(.long u1)]))
    refine Goes.of (fun t k => XS.lconst X0.here hx rfl (hb hby at_16) k) ?_
    show Goes _ _ _ _ _ _ _ (s₁.setTop (mkF m 17 #[.val (.long u0), .second, .val (.long u1), .second, .val (.long u0), .second, .unset, .unset, .unset, .unset] [(.long (0 : Int64)), (.long u1)]))
    refine Goes.of (fun t k => XS.lcmp X0.here hx rfl (hb hby at_17) rfl k) ?_
    show Goes _ _ _ _ _ _ _ (s₁.setTop (mkF m 18 #[.val (.long u0), .second, .val (.long u1), .second, .val (.long u0), .second, .unset, .unset, .unset, .unset] [(.int (lcmpW u1 (0 : Int64)))]))
    by_cases hc19 : u1 < (0 : Int64)
    · refine Goes.of (fun t k => XS.ifNo X0.here hx rfl (hb hby at_18) rfl ((if0 _ _).trans (tlt ((lw_lt _ _).mpr hc19)).2.1) k) ?_
      show Goes _ _ _ _ _ _ _ (s₁.setTop (mkF m 21 #[.val (.long u0), .second, .val (.long u1), .second, .val (.long u0), .second, .unset, .unset, .unset, .unset] []))
      refine Goes.of (fun t k => X0.ldc2Long hx hown (mvT hZ (hw _ (List.mem_of_getElem? (i := 9) rfl))) (g := (mkF m 21 #[.val (.long u0), .second, .val (.long u1), .second, .val (.long u0), .second, .unset, .unset, .unset, .unset] [])) rfl (hb hby at_21) t k) ?_
      show Goes _ _ _ _ _ _ _ (s₁.setTop (mkF m 24 #[.val (.long u0), .second, .val (.long u1), .second, .val (.long u0), .second, .unset, .unset, .unset, .unset] [(.long (-1 : Int64))]))
      refine Goes.of (fun t k => XS.goto X0.here hx rfl (pc0 := 24) (pc' := 28) rfl (hb hby at_24) (by decide) (by decide) k) ?_
      show Goes _ _ _ _ _ _ _ (s₁.setTop (mkF m 28 #[.val (.long u0), .second, .val (.long u1), .second, .val (.long u0), .second, .unset, .unset, .unset, .unset] [(.long (-1 : Int64))]))
      refine Goes.of (fun t k => XS.lstore X0.here hx rfl (hb hby at_28) rfl (l' := #[.val (.long u0), .second, .val (.long u1), .second, .val (.long u0), .second, .val (.long (-1 : Int64)), .second, .unset, .unset]) rfl k) ?_
      show Goes _ _ _ _ _ _ _ (s₁.setTop (mkF m 30 #[.val (.long u0), .second, .val (.long u1), .second, .val (.long u0), .second, .val (.long (-1 : Int64)), .second, .unset, .unset] []))
      refine Goes.of (fun t k => XS.lload X0.here hx rfl (hb hby at_30) rfl k) ?_
      show Goes _ _ _ _ _ _ _ (s₁.setTop (mkF m 32 #[.val (.long u0), .second, .val (.long u1), .second, .val (.long u0), .second, .val (.long (-1 : Int64)), .second, .unset, .unset] [(.long u0)]))
      refine Goes.of (fun t k => XS.lload X0.here hx rfl (hb hby at_32) rfl k) ?_
      show Goes _ _ _ _ _ _ _ (s₁.setTop (mkF m 34 #[.val (.long u0), .second, .val (.long u1), .second, .val (.long u0), .second, .val (.long (-1 : Int64)), .second, .unset, .unset] [(.long (-1 : Int64)), (.long u0)]))
      obtain ⟨_, _, ⟨T20, L20, k20, n20⟩, -, X20, ⟨Lc20, hQ20, l20, y20, z20⟩, st20⟩ := Jvm.LawKit.callS X0 hx (y := (⟨"com/example/orderly_twig/orderlytwig/engine/Ways", "sum", "(JJ)J"⟩ : MethodName)) hown (mvT hZ (hw _ (List.mem_of_getElem? (i := 0) rfl))) (mvT hZ (hw _ (List.mem_of_getElem? (i := 1) rfl))) (mvT hZ (hw _ (List.mem_of_getElem? (i := 2) rfl))) (mvT hZ (hw _ (List.mem_of_getElem? (i := 3) rfl))) (by decide) (backOf (W := 0) (rm1 l Z a0 hw [] u0 (-1 : Int64) h0 n0) hZ (hw _ (List.mem_of_getElem? (i := 3) rfl)) (hw _ (List.mem_of_getElem? (i := 2) rfl)) (by decide) (by decide)) (g := (mkF m 34 #[.val (.long u0), .second, .val (.long u1), .second, .val (.long u0), .second, .val (.long (-1 : Int64)), .second, .unset, .unset] [(.long (-1 : Int64)), (.long u0)])) rfl (by rw [hml]; rfl) (argsL := [(.long u0), (.long (-1 : Int64))]) (rest := []) (lenOf pd_0 rfl) rfl (by show 2 * 0 + _ ≤ _; exact Nat.le_of_eq rfl) (hb hby at_34) (fun _ _ => ⟨rfl, e0, (by decide : 0 + 0 ≤ _), (by decide : 0 + 0 ≤ _)⟩)
      dsimp only [Pt.U, Pt.locs, Pt.cells, Pt.slots] at X20 l20 y20 z20 st20 hQ20
      subst l20 y20 z20
      obtain ⟨rfl, N20q, e20⟩ := hQ20
      have N20 := Fr.app N0 N20q
      refine Goes.of st20 ?_
      show Goes _ _ _ _ _ _ _ (T20.setTop (mkF m 37 #[.val (.long u0), .second, .val (.long u1), .second, .val (.long u0), .second, .val (.long (-1 : Int64)), .second, .unset, .unset] [(.long (f1 u0 (-1 : Int64)))]))
      refine Goes.of (fun t k => XS.lstore X20.here hx rfl (hb hby at_37) rfl (l' := #[.val (.long u0), .second, .val (.long u1), .second, .val (.long u0), .second, .val (.long (-1 : Int64)), .second, .val (.long (f1 u0 (-1 : Int64))), .second]) rfl k) ?_
      show Goes _ _ _ _ _ _ _ (T20.setTop (mkF m 39 #[.val (.long u0), .second, .val (.long u1), .second, .val (.long u0), .second, .val (.long (-1 : Int64)), .second, .val (.long (f1 u0 (-1 : Int64))), .second] []))
      refine Goes.of (fun t k => XS.lload X20.here hx rfl (hb hby at_39) rfl k) ?_
      show Goes _ _ _ _ _ _ _ (T20.setTop (mkF m 41 #[.val (.long u0), .second, .val (.long u1), .second, .val (.long u0), .second, .val (.long (-1 : Int64)), .second, .val (.long (f1 u0 (-1 : Int64))), .second] [(.long (f1 u0 (-1 : Int64)))]))
      refine Goes.of (fun t k => XS.lload X20.here hx rfl (hb hby at_41) rfl k) ?_
      show Goes _ _ _ _ _ _ _ (T20.setTop (mkF m 43 #[.val (.long u0), .second, .val (.long u1), .second, .val (.long u0), .second, .val (.long (-1 : Int64)), .second, .val (.long (f1 u0 (-1 : Int64))), .second] [(.long u0), (.long (f1 u0 (-1 : Int64)))]))
      refine Goes.of (fun t k => XS.lload X20.here hx rfl (hb hby at_43) rfl k) ?_
      show Goes _ _ _ _ _ _ _ (T20.setTop (mkF m 45 #[.val (.long u0), .second, .val (.long u1), .second, .val (.long u0), .second, .val (.long (-1 : Int64)), .second, .val (.long (f1 u0 (-1 : Int64))), .second] [(.long (-1 : Int64)), (.long u0), (.long (f1 u0 (-1 : Int64)))]))
      obtain ⟨_, _, ⟨T21, L21, k21, n21⟩, -, X21, ⟨Lc21, hQ21, l21, y21, z21⟩, st21⟩ := Jvm.LawKit.callS X20 hx (y := (⟨"com/example/orderly_twig/orderlytwig/engine/WaysSumPinLaw", "expected", "(JJ)J"⟩ : MethodName)) hown (mvT hZ (hw _ (List.mem_of_getElem? (i := 5) rfl))) (mvT hZ (hw _ (List.mem_of_getElem? (i := 6) rfl))) (mvT hZ (hw _ (List.mem_of_getElem? (i := 7) rfl))) (mvT hZ (hw _ (List.mem_of_getElem? (i := 8) rfl))) (by decide) (backOf (W := 2) (rm2 l Z a0 hw [] u0 (-1 : Int64) h0 n0) hZ (hw _ (List.mem_of_getElem? (i := 8) rfl)) (hw _ (List.mem_of_getElem? (i := 7) rfl)) (by decide) (by decide)) (g := (mkF m 45 #[.val (.long u0), .second, .val (.long u1), .second, .val (.long u0), .second, .val (.long (-1 : Int64)), .second, .val (.long (f1 u0 (-1 : Int64))), .second] [(.long (-1 : Int64)), (.long u0), (.long (f1 u0 (-1 : Int64)))])) rfl (by rw [hml]; rfl) (argsL := [(.long u0), (.long (-1 : Int64))]) (rest := [(.long (f1 u0 (-1 : Int64)))]) (lenOf pd_0 rfl) rfl (by show 2 * 0 + _ ≤ _; exact Nat.le_of_eq rfl) (hb hby at_45) (fun _ _ => ⟨rfl, e20, (by decide : 0 + 0 ≤ _), (by decide : 0 + 0 ≤ _)⟩)
      dsimp only [Pt.U, Pt.locs, Pt.cells, Pt.slots] at X21 l21 y21 z21 st21 hQ21
      subst l21 y21 z21
      obtain ⟨rfl, N21q, e21⟩ := hQ21
      have N21 := Fr.app N20 N21q
      refine Goes.of st21 ?_
      show Goes _ _ _ _ _ _ _ (T21.setTop (mkF m 48 #[.val (.long u0), .second, .val (.long u1), .second, .val (.long u0), .second, .val (.long (-1 : Int64)), .second, .val (.long (f1 u0 (-1 : Int64))), .second] [(.long (f2 u0 (-1 : Int64))), (.long (f1 u0 (-1 : Int64)))]))
      refine Goes.of (fun t k => XS.lcmp X21.here hx rfl (hb hby at_48) rfl k) ?_
      show Goes _ _ _ _ _ _ _ (T21.setTop (mkF m 49 #[.val (.long u0), .second, .val (.long u1), .second, .val (.long u0), .second, .val (.long (-1 : Int64)), .second, .val (.long (f1 u0 (-1 : Int64))), .second] [(.int (lcmpW (f1 u0 (-1 : Int64)) (f2 u0 (-1 : Int64))))]))
      by_cases hc22 : (f1 u0 (-1 : Int64)) = (f2 u0 (-1 : Int64))
      · refine Goes.of (fun t k => XS.ifNo X21.here hx rfl (hb hby at_49) rfl ((if0 _ _).trans (teq ((lw_eq _ _).mpr hc22)).2) k) ?_
        show Goes _ _ _ _ _ _ _ (T21.setTop (mkF m 52 #[.val (.long u0), .second, .val (.long u1), .second, .val (.long u0), .second, .val (.long (-1 : Int64)), .second, .val (.long (f1 u0 (-1 : Int64))), .second] []))
        refine Goes.of (fun t k => XS.iconst X21.here hx rfl (hb hby at_52) k) ?_
        show Goes _ _ _ _ _ _ _ (T21.setTop (mkF m 53 #[.val (.long u0), .second, .val (.long u1), .second, .val (.long u0), .second, .val (.long (-1 : Int64)), .second, .val (.long (f1 u0 (-1 : Int64))), .second] [(.int (1 : Int32))]))
        refine Goes.of (fun t k => XS.goto X21.here hx rfl (pc0 := 53) (pc' := 57) rfl (hb hby at_53) (by decide) (by decide) k) ?_
        show Goes _ _ _ _ _ _ _ (T21.setTop (mkF m 57 #[.val (.long u0), .second, .val (.long u1), .second, .val (.long u0), .second, .val (.long (-1 : Int64)), .second, .val (.long (f1 u0 (-1 : Int64))), .second] [(.int (1 : Int32))]))
        exact Goes.fin X21 hlk (v := some (.int (1 : Int32))) (fun h => by rw [Bd.returns] at h; cases h) (fun fs hr => retN X21 hx (t := .boolean) Bd.returns (by simp) (hb hby at_57) hr) ⟨congrArg (fun z => some (Value.int z)) (by rw [f0, if_neg hc11, if_pos hc19, if_pos hc22] : (1 : Int32) = f0 u0 u1), N21, e21⟩ (by decide) (by decide)
      · refine Goes.of (fun t k => XS.ifYes X21.here hx rfl (pc0 := 49) (pc' := 56) rfl (hb hby at_49) rfl ((if0 _ _).trans (feq (fun q => hc22 ((lw_eq _ _).mp q))).2) (by decide) (by decide) k) ?_
        show Goes _ _ _ _ _ _ _ (T21.setTop (mkF m 56 #[.val (.long u0), .second, .val (.long u1), .second, .val (.long u0), .second, .val (.long (-1 : Int64)), .second, .val (.long (f1 u0 (-1 : Int64))), .second] []))
        refine Goes.of (fun t k => XS.iconst X21.here hx rfl (hb hby at_56) k) ?_
        show Goes _ _ _ _ _ _ _ (T21.setTop (mkF m 57 #[.val (.long u0), .second, .val (.long u1), .second, .val (.long u0), .second, .val (.long (-1 : Int64)), .second, .val (.long (f1 u0 (-1 : Int64))), .second] [(.int (0 : Int32))]))
        exact Goes.fin X21 hlk (v := some (.int (0 : Int32))) (fun h => by rw [Bd.returns] at h; cases h) (fun fs hr => retN X21 hx (t := .boolean) Bd.returns (by simp) (hb hby at_57) hr) ⟨congrArg (fun z => some (Value.int z)) (by rw [f0, if_neg hc11, if_pos hc19, if_neg hc22] : (0 : Int32) = f0 u0 u1), N21, e21⟩ (by decide) (by decide)
    · refine Goes.of (fun t k => XS.ifYes X0.here hx rfl (pc0 := 18) (pc' := 27) rfl (hb hby at_18) rfl ((if0 _ _).trans (flt (fun q => hc19 ((lw_lt _ _).mp q))).2.1) (by decide) (by decide) k) ?_
      show Goes _ _ _ _ _ _ _ (s₁.setTop (mkF m 27 #[.val (.long u0), .second, .val (.long u1), .second, .val (.long u0), .second, .unset, .unset, .unset, .unset] []))
      refine Goes.of (fun t k => XS.lloadN X0.here hx rfl (hb hby at_27) rfl k) ?_
      show Goes _ _ _ _ _ _ _ (s₁.setTop (mkF m 28 #[.val (.long u0), .second, .val (.long u1), .second, .val (.long u0), .second, .unset, .unset, .unset, .unset] [(.long u1)]))
      refine Goes.of (fun t k => XS.lstore X0.here hx rfl (hb hby at_28) rfl (l' := #[.val (.long u0), .second, .val (.long u1), .second, .val (.long u0), .second, .val (.long u1), .second, .unset, .unset]) rfl k) ?_
      show Goes _ _ _ _ _ _ _ (s₁.setTop (mkF m 30 #[.val (.long u0), .second, .val (.long u1), .second, .val (.long u0), .second, .val (.long u1), .second, .unset, .unset] []))
      refine Goes.of (fun t k => XS.lload X0.here hx rfl (hb hby at_30) rfl k) ?_
      show Goes _ _ _ _ _ _ _ (s₁.setTop (mkF m 32 #[.val (.long u0), .second, .val (.long u1), .second, .val (.long u0), .second, .val (.long u1), .second, .unset, .unset] [(.long u0)]))
      refine Goes.of (fun t k => XS.lload X0.here hx rfl (hb hby at_32) rfl k) ?_
      show Goes _ _ _ _ _ _ _ (s₁.setTop (mkF m 34 #[.val (.long u0), .second, .val (.long u1), .second, .val (.long u0), .second, .val (.long u1), .second, .unset, .unset] [(.long u1), (.long u0)]))
      obtain ⟨_, _, ⟨T23, L23, k23, n23⟩, -, X23, ⟨Lc23, hQ23, l23, y23, z23⟩, st23⟩ := Jvm.LawKit.callS X0 hx (y := (⟨"com/example/orderly_twig/orderlytwig/engine/Ways", "sum", "(JJ)J"⟩ : MethodName)) hown (mvT hZ (hw _ (List.mem_of_getElem? (i := 0) rfl))) (mvT hZ (hw _ (List.mem_of_getElem? (i := 1) rfl))) (mvT hZ (hw _ (List.mem_of_getElem? (i := 2) rfl))) (mvT hZ (hw _ (List.mem_of_getElem? (i := 3) rfl))) (by decide) (backOf (W := 0) (rm1 l Z a0 hw [] u0 u1 h0 n0) hZ (hw _ (List.mem_of_getElem? (i := 3) rfl)) (hw _ (List.mem_of_getElem? (i := 2) rfl)) (by decide) (by decide)) (g := (mkF m 34 #[.val (.long u0), .second, .val (.long u1), .second, .val (.long u0), .second, .val (.long u1), .second, .unset, .unset] [(.long u1), (.long u0)])) rfl (by rw [hml]; rfl) (argsL := [(.long u0), (.long u1)]) (rest := []) (lenOf pd_0 rfl) rfl (by show 2 * 0 + _ ≤ _; exact Nat.le_of_eq rfl) (hb hby at_34) (fun _ _ => ⟨rfl, e0, (by decide : 0 + 0 ≤ _), (by decide : 0 + 0 ≤ _)⟩)
      dsimp only [Pt.U, Pt.locs, Pt.cells, Pt.slots] at X23 l23 y23 z23 st23 hQ23
      subst l23 y23 z23
      obtain ⟨rfl, N23q, e23⟩ := hQ23
      have N23 := Fr.app N0 N23q
      refine Goes.of st23 ?_
      show Goes _ _ _ _ _ _ _ (T23.setTop (mkF m 37 #[.val (.long u0), .second, .val (.long u1), .second, .val (.long u0), .second, .val (.long u1), .second, .unset, .unset] [(.long (f1 u0 u1))]))
      refine Goes.of (fun t k => XS.lstore X23.here hx rfl (hb hby at_37) rfl (l' := #[.val (.long u0), .second, .val (.long u1), .second, .val (.long u0), .second, .val (.long u1), .second, .val (.long (f1 u0 u1)), .second]) rfl k) ?_
      show Goes _ _ _ _ _ _ _ (T23.setTop (mkF m 39 #[.val (.long u0), .second, .val (.long u1), .second, .val (.long u0), .second, .val (.long u1), .second, .val (.long (f1 u0 u1)), .second] []))
      refine Goes.of (fun t k => XS.lload X23.here hx rfl (hb hby at_39) rfl k) ?_
      show Goes _ _ _ _ _ _ _ (T23.setTop (mkF m 41 #[.val (.long u0), .second, .val (.long u1), .second, .val (.long u0), .second, .val (.long u1), .second, .val (.long (f1 u0 u1)), .second] [(.long (f1 u0 u1))]))
      refine Goes.of (fun t k => XS.lload X23.here hx rfl (hb hby at_41) rfl k) ?_
      show Goes _ _ _ _ _ _ _ (T23.setTop (mkF m 43 #[.val (.long u0), .second, .val (.long u1), .second, .val (.long u0), .second, .val (.long u1), .second, .val (.long (f1 u0 u1)), .second] [(.long u0), (.long (f1 u0 u1))]))
      refine Goes.of (fun t k => XS.lload X23.here hx rfl (hb hby at_43) rfl k) ?_
      show Goes _ _ _ _ _ _ _ (T23.setTop (mkF m 45 #[.val (.long u0), .second, .val (.long u1), .second, .val (.long u0), .second, .val (.long u1), .second, .val (.long (f1 u0 u1)), .second] [(.long u1), (.long u0), (.long (f1 u0 u1))]))
      obtain ⟨_, _, ⟨T24, L24, k24, n24⟩, -, X24, ⟨Lc24, hQ24, l24, y24, z24⟩, st24⟩ := Jvm.LawKit.callS X23 hx (y := (⟨"com/example/orderly_twig/orderlytwig/engine/WaysSumPinLaw", "expected", "(JJ)J"⟩ : MethodName)) hown (mvT hZ (hw _ (List.mem_of_getElem? (i := 5) rfl))) (mvT hZ (hw _ (List.mem_of_getElem? (i := 6) rfl))) (mvT hZ (hw _ (List.mem_of_getElem? (i := 7) rfl))) (mvT hZ (hw _ (List.mem_of_getElem? (i := 8) rfl))) (by decide) (backOf (W := 2) (rm2 l Z a0 hw [] u0 u1 h0 n0) hZ (hw _ (List.mem_of_getElem? (i := 8) rfl)) (hw _ (List.mem_of_getElem? (i := 7) rfl)) (by decide) (by decide)) (g := (mkF m 45 #[.val (.long u0), .second, .val (.long u1), .second, .val (.long u0), .second, .val (.long u1), .second, .val (.long (f1 u0 u1)), .second] [(.long u1), (.long u0), (.long (f1 u0 u1))])) rfl (by rw [hml]; rfl) (argsL := [(.long u0), (.long u1)]) (rest := [(.long (f1 u0 u1))]) (lenOf pd_0 rfl) rfl (by show 2 * 0 + _ ≤ _; exact Nat.le_of_eq rfl) (hb hby at_45) (fun _ _ => ⟨rfl, e23, (by decide : 0 + 0 ≤ _), (by decide : 0 + 0 ≤ _)⟩)
      dsimp only [Pt.U, Pt.locs, Pt.cells, Pt.slots] at X24 l24 y24 z24 st24 hQ24
      subst l24 y24 z24
      obtain ⟨rfl, N24q, e24⟩ := hQ24
      have N24 := Fr.app N23 N24q
      refine Goes.of st24 ?_
      show Goes _ _ _ _ _ _ _ (T24.setTop (mkF m 48 #[.val (.long u0), .second, .val (.long u1), .second, .val (.long u0), .second, .val (.long u1), .second, .val (.long (f1 u0 u1)), .second] [(.long (f2 u0 u1)), (.long (f1 u0 u1))]))
      refine Goes.of (fun t k => XS.lcmp X24.here hx rfl (hb hby at_48) rfl k) ?_
      show Goes _ _ _ _ _ _ _ (T24.setTop (mkF m 49 #[.val (.long u0), .second, .val (.long u1), .second, .val (.long u0), .second, .val (.long u1), .second, .val (.long (f1 u0 u1)), .second] [(.int (lcmpW (f1 u0 u1) (f2 u0 u1)))]))
      by_cases hc25 : (f1 u0 u1) = (f2 u0 u1)
      · refine Goes.of (fun t k => XS.ifNo X24.here hx rfl (hb hby at_49) rfl ((if0 _ _).trans (teq ((lw_eq _ _).mpr hc25)).2) k) ?_
        show Goes _ _ _ _ _ _ _ (T24.setTop (mkF m 52 #[.val (.long u0), .second, .val (.long u1), .second, .val (.long u0), .second, .val (.long u1), .second, .val (.long (f1 u0 u1)), .second] []))
        refine Goes.of (fun t k => XS.iconst X24.here hx rfl (hb hby at_52) k) ?_
        show Goes _ _ _ _ _ _ _ (T24.setTop (mkF m 53 #[.val (.long u0), .second, .val (.long u1), .second, .val (.long u0), .second, .val (.long u1), .second, .val (.long (f1 u0 u1)), .second] [(.int (1 : Int32))]))
        refine Goes.of (fun t k => XS.goto X24.here hx rfl (pc0 := 53) (pc' := 57) rfl (hb hby at_53) (by decide) (by decide) k) ?_
        show Goes _ _ _ _ _ _ _ (T24.setTop (mkF m 57 #[.val (.long u0), .second, .val (.long u1), .second, .val (.long u0), .second, .val (.long u1), .second, .val (.long (f1 u0 u1)), .second] [(.int (1 : Int32))]))
        exact Goes.fin X24 hlk (v := some (.int (1 : Int32))) (fun h => by rw [Bd.returns] at h; cases h) (fun fs hr => retN X24 hx (t := .boolean) Bd.returns (by simp) (hb hby at_57) hr) ⟨congrArg (fun z => some (Value.int z)) (by rw [f0, if_neg hc11, if_neg hc19, if_pos hc25] : (1 : Int32) = f0 u0 u1), N24, e24⟩ (by decide) (by decide)
      · refine Goes.of (fun t k => XS.ifYes X24.here hx rfl (pc0 := 49) (pc' := 56) rfl (hb hby at_49) rfl ((if0 _ _).trans (feq (fun q => hc25 ((lw_eq _ _).mp q))).2) (by decide) (by decide) k) ?_
        show Goes _ _ _ _ _ _ _ (T24.setTop (mkF m 56 #[.val (.long u0), .second, .val (.long u1), .second, .val (.long u0), .second, .val (.long u1), .second, .val (.long (f1 u0 u1)), .second] []))
        refine Goes.of (fun t k => XS.iconst X24.here hx rfl (hb hby at_56) k) ?_
        show Goes _ _ _ _ _ _ _ (T24.setTop (mkF m 57 #[.val (.long u0), .second, .val (.long u1), .second, .val (.long u0), .second, .val (.long u1), .second, .val (.long (f1 u0 u1)), .second] [(.int (0 : Int32))]))
        exact Goes.fin X24 hlk (v := some (.int (0 : Int32))) (fun h => by rw [Bd.returns] at h; cases h) (fun fs hr => retN X24 hx (t := .boolean) Bd.returns (by simp) (hb hby at_57) hr) ⟨congrArg (fun z => some (Value.int z)) (by rw [f0, if_neg hc11, if_neg hc19, if_neg hc25] : (0 : Int32) = f0 u0 u1), N24, e24⟩ (by decide) (by decide)
theorem own_eq (a b : Int64) (ha : a = -1 ∨ ¬ a < 0) (hb : b = -1 ∨ ¬ b < 0) : f1 a b = f2 a b := by
  unfold f1 f2
  by_cases h1 : a = -1
  · rw [if_pos h1, if_pos h1]
  · rw [if_neg h1, if_neg h1]
    by_cases h2 : b = -1
    · rw [if_pos h2, if_pos h2]
    · rw [if_neg h2, if_neg h2]
      have ha' := ha.resolve_left h1
      have hb' := hb.resolve_left h2
      have e : a + b < 0 ↔ 9223372036854775807 - b < a := by
        have e1 := c_ladd a b
        have e2 := c_lsub 9223372036854775807 b
        have r1 := rng64 a
        have r2 := rng64 b
        have r3 := rng64 (a + b)
        have r4 := rng64 (9223372036854775807 - b)
        have z : (0 : Int64).toInt = 0 := rfl
        have M : (9223372036854775807 : Int64).toInt = 9223372036854775807 := rfl
        rw [Int64.lt_iff_toInt_lt] at ha' hb'
        rw [Int64.lt_iff_toInt_lt, Int64.lt_iff_toInt_lt]
        omega
      by_cases h3 : a + b < 0
      · rw [if_pos h3, if_pos (e.mp h3)]
      · rw [if_neg h3, if_neg (fun q => h3 (e.mpr q))]
theorem own_law (u0 u1 : Int64) : f0 u0 u1 = 1 := by
  unfold f0
  by_cases h0 : u0 < 0
  · rw [if_pos h0]
    by_cases h1 : u1 < 0
    · rw [if_pos h1, if_pos (own_eq _ _ (Or.inl rfl) (Or.inl rfl))]
    · rw [if_neg h1, if_pos (own_eq _ _ (Or.inl rfl) (Or.inr h1))]
  · rw [if_neg h0]
    by_cases h1 : u1 < 0
    · rw [if_pos h1, if_pos (own_eq _ _ (Or.inr h0) (Or.inl rfl))]
    · rw [if_neg h1, if_pos (own_eq _ _ (Or.inr h0) (Or.inr h1))]
set_option maxRecDepth 65536 in
set_option maxHeartbeats 40000000 in
theorem comes_1 {Post : Tables → Env → Array Value → State → Outcome → State → Prop} (hpost : ∀ tb e args s v u, (limb_1_1.after args s (.returned v) u = true ∧ limb_1_2.after args s (.returned v) u = true ∧ True) → FrameEnd s (.returned v) u (Jvm.fieldLocs frame_1_writes args s ++ Jvm.arrayLocs frame_1_arrays args s ++ Jvm.staticLocs frame_1_statics s) 0 0 → Post tb e args s (.returned v) u) :
    ArmFor flags0 classFile x code maxLocals ret World_1 tables_1 room_1 Calls_1 rest_1 Pre_1 Post := by
  intro l hfl _ _ p e ha hc hk s m args below hf hA hF happ hP
  obtain ⟨hcalls, hrest, hpre⟩ := hP
  obtain ⟨-, -, -, hnamed, -, -, -, hat⟩ := (Spec.applies_iff hf).mp happ
  obtain ⟨hg, hn⟩ := and_e (Cond.before_iff.mp (show (Jvm.Cond.and given_1 narrow_1).before args s = true from hpre))
  obtain ⟨g26, g27⟩ := and_e hg
  obtain ⟨g28, g29⟩ := and_e g27
  obtain ⟨w0, w1, rfl⟩ : ∃ w0 w1 : Value, args = #[w0, w1] := by
    have hs : args.size = 2 := by simpa [Cond.value, given_1] using g26
    obtain ⟨L⟩ := args
    match L, hs with
    | [w0, w1], _ => exact ⟨w0, w1, rfl⟩
  have hw := fun d (hd : d ∈ tables_1) => atoms_spec (ws := Jvm.Cond.code x code maxLocals ret :: tables_1) hat d (List.mem_cons_of_mem _ hd)
  obtain ⟨i0, ei0⟩ := isL_v g28
  obtain rfl : w0 = (.long i0) := Option.some.inj ei0
  obtain ⟨i1, ei1⟩ := isL_v g29
  obtain rfl : w1 = (.long i1) := Option.some.inj ei1
  obtain ⟨n, o, h1, h2, h3, _, L, rfl, ⟨rfl, N, -⟩, hq⟩ := rm0 l s _ hw tables_1 i0 i1 s.heap s.heap.size p e ha hc hk s m _ below hf ((Spec.applies_iff_loose hf).mp happ).1 ⟨rfl, State.Warmed39.refl s, rfl⟩ trivial
  exact ⟨n, _, h1, h2, h3, hpost _ _ _ _ _ _ ⟨Cond.after_iff.mpr rfl, Cond.after_iff.mpr (eq_i res_at (Term.int_eval (1)) (congrArg Value.int (own_law i0 i1))), trivial⟩ ⟨hq.1, hq.2.1, (hq.2.2.sift fun y hy => Or.inr (N y hy)).mono (by decide) (by decide)⟩⟩
theorem main_1_1 : Claimed_1_1 := comes_1 fun _ _ _ _ _ _ h hF => ⟨h.1, hF⟩
theorem main_1_2 : Claimed_1_2 := comes_1 fun _ _ _ _ _ _ h hF => ⟨h.2.1, hF⟩
end Jvm.Pilot.@@N@@
namespace Jvm.Pilot.@@N@@
open Jvm Jvm.ClassFile Sem Op Lib Jvm.Free Jvm.Stand Jvm.Pilot.@@N@@.Jvm.D
/-! MADE BY PROGRAM (witnessworld.py) out of the Statement's table words and the real class files: 9 classes; the members and pool entries that the words name. The judged class is class 1, her method 2. -/
namespace start1
open Jvm.ClassFile
def u (s : String) : CpInfo := .utf8 (stringToUtf16 s)
/-- a pool by its gaps: so many unusable entries, then the entry; so many at the end -/
def gap : Nat → List CpInfo → List CpInfo
  | 0, r => r
  | n + 1, r => .unusable :: gap n r
def poolList (es : List (Nat × CpInfo)) (last : Nat) : List CpInfo := es.foldr (fun e r => gap e.1 (e.2 :: r)) (gap last [])
def pool (es : List (Nat × CpInfo)) (last : Nat) : Array CpInfo := ⟨poolList es last⟩
def fileOf (pool : Array CpInfo) (this : Nat) (attrs : Array Attribute := #[]) (ms : Array MethodInfo := #[]) (fl : Nat := 33) (sup : Nat := 0) (ifs : Array Nat := #[]) (fds : Array FieldInfo := #[]) : ClassFile where
  minorVersion := 0
  majorVersion := 65
  constantPool := pool
  accessFlags := fl
  thisClass := this
  superClass := sup
  interfaces := ifs
  fields := fds
  methods := ms
  attributes := attrs
def plain (name : String) (sup : Option ClassId) : Class where
  name := name
  kind := .ordinary
  loader := none
  accessFlags := 33
  super := sup
  interfaces := #[]
  cf := none
  fields := #[]
  methods := #[]
  instanceTypes := #[]
  staticTypes := #[]
  resolved := #[]
  callSites := []
  init := .initialized
  statics := none
  mirror := none

def pool0 : Array CpInfo := pool [(5, u "<init>"), (0, u "()V"), (1, .class_ 10), (1, u "java/lang/Object")] 113

def k0m0 : Method := { name := "<init>", desc := "()V", sig := { parameters := [], returnType := none }, accessFlags := 1, code := none }
/-- java/lang/Object -/
def k0 : Class := { plain "java/lang/Object" none with
  accessFlags := 33
  interfaces := #[]
  cf := some (fileOf pool0 8 #[] #[{ accessFlags := 1, nameIndex := 5, descriptorIndex := 6, attributes := #[] }] 33 0 #[] #[])
  fields := #[]
  methods := #[k0m0]
  instanceTypes := #[]
  staticTypes := #[]
  resolved := Array.replicate 124 none
  statics := none }

def pool1 : Array CpInfo := pool [(2, .class_ 4), (1, u "java/lang/Object"), (0, u "<init>"), (0, u "()V"), (0, .long 18446744073709551615), (3, .long 9223372036854775807), (1, .class_ 14), (0, u "com/example/orderly_twig/orderlytwig/engine/Ways"), (0, .methodref 13 16), (0, .nameAndType 17 18), (0, u "sum"), (0, u "(JJ)J"), (0, .methodref 20 21), (0, .class_ 22), (0, .nameAndType 23 18), (0, u "com/example/orderly_twig/orderlytwig/engine/WaysSumPinLaw"), (0, u "expected"), (3, u "law"), (0, u "(JJ)Z")] 2

def k1m0 : Method := { name := "<init>", desc := "()V", sig := { parameters := [], returnType := none }, accessFlags := 2, code := none }
def k1c1 : Code := { maxStack := 6, maxLocals := 4, code := method_2_code, exceptionTable := #[], attributes := #[] }
def k1m1 : Method := { name := "expected", desc := "(JJ)J", sig := { parameters := [.long, .long], returnType := some .long }, accessFlags := 10, code := some k1c1 }
def k1c2 : Code := { maxStack := 6, maxLocals := 10, code := code, exceptionTable := #[], attributes := #[] }
def k1m2 : Method := { name := "law", desc := "(JJ)Z", sig := { parameters := [.long, .long], returnType := some .boolean }, accessFlags := 9, code := some k1c2 }
/-- com/example/orderly_twig/orderlytwig/engine/WaysSumPinLaw -/
def k1 : Class := { plain "com/example/orderly_twig/orderlytwig/engine/WaysSumPinLaw" (some 0) with
  accessFlags := 49
  interfaces := #[]
  cf := some (fileOf pool1 20 #[] #[{ accessFlags := 2, nameIndex := 5, descriptorIndex := 6, attributes := #[] }, { accessFlags := 10, nameIndex := 23, descriptorIndex := 18, attributes := #[] }, { accessFlags := 9, nameIndex := 27, descriptorIndex := 28, attributes := #[] }] 49 2 #[] #[])
  fields := #[]
  methods := #[k1m0, k1m1, k1m2]
  instanceTypes := #[]
  staticTypes := #[]
  resolved := Array.replicate 31 none
  statics := none }

def pool2 : Array CpInfo := pool [(2, .class_ 4), (1, u "java/lang/Object"), (0, u "<init>"), (0, u "()V"), (0, .class_ 8), (0, u "com/example/orderly_twig/orderlytwig/engine/Ways"), (0, .long 18446744073709551615), (8, u "(JJ)J"), (0, u "MANY"), (0, u "J"), (3, u "sum")] 4

def k2m0 : Method := { name := "<init>", desc := "()V", sig := { parameters := [], returnType := none }, accessFlags := 2, code := none }
def k2c1 : Code := { maxStack := 4, maxLocals := 6, code := prog_10_method_2_code, exceptionTable := #[], attributes := #[] }
def k2m1 : Method := { name := "sum", desc := "(JJ)J", sig := { parameters := [.long, .long], returnType := some .long }, accessFlags := 8, code := some k2c1 }
/-- com/example/orderly_twig/orderlytwig/engine/Ways -/
def k2 : Class := { plain "com/example/orderly_twig/orderlytwig/engine/Ways" (some 0) with
  accessFlags := 48
  interfaces := #[]
  cf := some (fileOf pool2 7 #[] #[{ accessFlags := 2, nameIndex := 5, descriptorIndex := 6, attributes := #[] }, { accessFlags := 8, nameIndex := 24, descriptorIndex := 18, attributes := #[] }] 48 2 #[] #[{ accessFlags := 24, nameIndex := 19, descriptorIndex := 20, attributes := #[] }])
  fields := #[{ name := "MANY", type := .long, accessFlags := 24, slot := 0, constantValue := 0 }]
  methods := #[k2m0, k2m1]
  instanceTypes := #[]
  staticTypes := #[.long]
  resolved := Array.replicate 29 none
  statics := none }

def pool3 : Array CpInfo := pool [(1, u "java/lang/Cloneable"), (0, .class_ 1), (0, u "java/lang/Object"), (0, .class_ 3)] 3

/-- java/lang/Cloneable -/
def k3 : Class := { plain "java/lang/Cloneable" (some 0) with
  accessFlags := 1537
  interfaces := #[]
  cf := some (fileOf pool3 2 #[] #[] 1537 4 #[] #[])
  fields := #[]
  methods := #[]
  instanceTypes := #[]
  staticTypes := #[]
  resolved := Array.replicate 8 none
  statics := none }

def pool4 : Array CpInfo := pool [(1, u "java/io/Serializable"), (0, .class_ 1), (0, u "java/lang/Object"), (0, .class_ 3)] 3

/-- java/io/Serializable -/
def k4 : Class := { plain "java/io/Serializable" (some 0) with
  accessFlags := 1537
  interfaces := #[]
  cf := some (fileOf pool4 2 #[] #[] 1537 4 #[] #[])
  fields := #[]
  methods := #[]
  instanceTypes := #[]
  staticTypes := #[]
  resolved := Array.replicate 8 none
  statics := none }

/-- the primitive byte -/
def k5 : Class := { plain "byte" none with kind := .primitive 'B', accessFlags := 0x411 }
/-- [B -/
def k6 : Class := { plain "[B" (some 0) with kind := .array 5 .byte, interfaces := #[3, 4], accessFlags := 1041 }

/-- the primitive int -/
def k7 : Class := { plain "int" none with kind := .primitive 'I', accessFlags := 0x411 }
/-- [I -/
def k8 : Class := { plain "[I" (some 0) with kind := .array 7 .int, interfaces := #[3, 4], accessFlags := 1041 }

def heap : Heap := #[]
def classes : Array Class := #[k0, k1, k2, k3, k4, k5, k6, k7, k8]
def interned : List (Array UInt16 × Addr) := []
def slotsUsed : Nat := 0
def theMethod : MethodId := ⟨1, 2⟩
def args0 : Array Value := #[.long 5, .long 7]
def aboutOver (below : List Frame) : State where
  vm := { classes := classes, interned := interned.toArray }
  heap := heap
  slotsUsed := slotsUsed
  threads := #[{ frames := .invoking theMethod args0 :: below }]
def below0 : List Frame := [.native { method := ⟨0, 0⟩, args := #[] }]
def about1 : State := aboutOver below0
def p0 : Program := .bare "" "" ""
def e0 : Env := launch0.env 0 0 0
theorem w_frames : about1.frames = Frame.invoking theMethod args0 :: below0 := rfl
set_option maxRecDepth 65536 in
theorem w_args : argsFit about1.vm theMethod args0 = true := by decide +kernel
set_option maxRecDepth 65536 in
theorem w_heap : heapFits about1 = true := by decide +kernel
set_option maxRecDepth 65536 in
theorem w_runnable : about1.curStatus? = some .runnable := by decide +kernel
set_option maxRecDepth 65536 in
theorem w_alone : about1.alone = true := by decide +kernel
set_option maxRecDepth 65536 in
theorem w_named : about1.methodNamed? x = some theMethod := by decide +kernel
set_option maxRecDepth 65536 in
theorem w_hears : about1.hears theMethod below0 = true := by decide +kernel
set_option maxRecDepth 65536 in
theorem w_ripe : about1.ripe theMethod args0 below0 = true := by decide +kernel
theorem w_running : about1.status = .running := rfl
set_option maxRecDepth 65536 in
theorem w_room : about1.hasRoom e0.platform room_1 = true :=
  launch0.hasRoom_least _ room_1 (by decide +kernel) (by decide +kernel) (by decide +kernel) (by decide +kernel) (by decide +kernel) (by decide +kernel)
theorem allAtoms_all (ts : List Jvm.Cond) (a : Array Jvm.Value) (st : Jvm.State) : (allAtoms ts).before a st = ts.all (fun c => c.before a st) := by
  induction ts with
  | nil => rfl
  | cons c t ih =>
    show (Jvm.Cond.and c (allAtoms t)).before a st = _
    rw [Jvm.Cond.before_and, ih, List.all_cons]
def words1 : List Jvm.Cond := Jvm.Cond.code x code maxLocals ret :: tables_1
/-- a 'code' word, met by the world's own term for the bytes: nothing is compared byte by byte -/
theorem code_word {y : MethodName} {bytes : ByteArray} {mx : Nat} {rt : Option FieldType} {a : Array Value} {s : State} {m : MethodId} {meth : Method} {c : Code} (h1 : s.methodNamed? y = some m) (h2 : s.vm.method? m = some meth) (h3 : meth.code = some c) (h4 : c.code = bytes)
    (h5 : (c.maxLocals == mx && c.exceptionTable.isEmpty && decide (c.maxStack ≤ mostOperands) && decide (meth.sig.returnType = rt) && !meth.locks && decide (parseMethodDescriptor y.desc = some meth.sig)) = true) : (Jvm.Cond.code y bytes mx rt).before a s = true := by
  simp only [Bool.and_eq_true, beq_iff_eq, Bool.not_eq_true', decide_eq_true_eq] at h5
  obtain ⟨⟨⟨⟨⟨g1, g2⟩, g3⟩, g4⟩, g5⟩, g6⟩ := h5
  simp [Cond.before, Cond.holds, Cond.value, h1, h2, h3, h4, g1, g2, g3, g4, g5, g6]
def isCode : Jvm.Cond → Bool
  | .code _ _ _ _ => true
  | _ => false
theorem all_split {L : List Jvm.Cond} {P : Jvm.Cond → Bool} (h1 : L.all (fun c => isCode c || P c) = true) (h2 : ∀ c ∈ L.filter isCode, P c = true) : L.all P = true := by
  refine List.all_eq_true.mpr fun c hc => ?_
  have h := List.all_eq_true.mp h1 c hc
  rcases Bool.eq_false_or_eq_true (isCode c) with hi | hi
  · exact h2 c (List.mem_filter.mpr ⟨hc, hi⟩)
  · simpa [hi] using h
set_option maxRecDepth 65536 in
theorem w_c0 : (Jvm.Cond.code x code maxLocals ret).before args0 about1 = true := code_word (m := ⟨1, 2⟩) (meth := k1m2) (c := k1c2) (by decide +kernel) rfl rfl rfl (by decide +kernel)
set_option maxRecDepth 65536 in
theorem w_c1 : (Jvm.Cond.code ({ cls := "com/example/orderly_twig/orderlytwig/engine/Ways", name := "sum", desc := "(JJ)J" } : Jvm.MethodName) prog_10_method_2_code (6 : Nat) (Option.some Jvm.ClassFile.FieldType.long)).before args0 about1 = true := code_word (m := ⟨2, 1⟩) (meth := k2m1) (c := k2c1) (by decide +kernel) rfl rfl rfl (by decide +kernel)
set_option maxRecDepth 65536 in
theorem w_c2 : (Jvm.Cond.code ({ cls := "com/example/orderly_twig/orderlytwig/engine/WaysSumPinLaw", name := "expected", desc := "(JJ)J" } : Jvm.MethodName) method_2_code (4 : Nat) (Option.some Jvm.ClassFile.FieldType.long)).before args0 about1 = true := code_word (m := ⟨1, 1⟩) (meth := k1m1) (c := k1c1) (by decide +kernel) rfl rfl rfl (by decide +kernel)
def codes1 : List Jvm.Cond := [Jvm.Cond.code x code maxLocals ret, Jvm.Cond.code ({ cls := "com/example/orderly_twig/orderlytwig/engine/Ways", name := "sum", desc := "(JJ)J" } : Jvm.MethodName) prog_10_method_2_code (6 : Nat) (Option.some Jvm.ClassFile.FieldType.long), Jvm.Cond.code ({ cls := "com/example/orderly_twig/orderlytwig/engine/WaysSumPinLaw", name := "expected", desc := "(JJ)J" } : Jvm.MethodName) method_2_code (4 : Nat) (Option.some Jvm.ClassFile.FieldType.long)]
set_option maxRecDepth 65536 in
theorem codes_eq : words1.filter isCode = codes1 := rfl
theorem w_codes : ∀ c ∈ words1.filter isCode, c.before args0 about1 = true := by
  rw [codes_eq]
  intro c hc
  simp only [codes1, List.mem_cons, List.not_mem_nil, or_false] at hc
  rcases hc with rfl | rfl | rfl
  · exact w_c0
  · exact w_c1
  · exact w_c2
set_option maxRecDepth 65536 in
theorem w_t1 : words1.all (fun c => isCode c || c.before args0 about1) = true := by decide +kernel
theorem w_tables : (allAtoms (Jvm.Cond.code x code maxLocals ret :: tables_1)).before args0 about1 = true := by
  rw [allAtoms_all]
  show words1.all (fun c => c.before args0 about1) = true
  refine all_split ?_ w_codes
  rw [w_t1]
set_option maxRecDepth 65536 in
theorem w_case : (Jvm.Cond.and given_1 narrow_1).before args0 about1 = true := by decide +kernel
theorem w_applies : (headSpec (Jvm.Cond.code x code maxLocals ret :: tables_1) room_1).applies x e0.platform about1 = true :=
  (Spec.applies_iff w_frames).mpr ⟨w_running, w_runnable, w_alone, w_named, w_hears, w_ripe, w_room, w_tables⟩
theorem atStart : AtStart classFile x code maxLocals ret World_1 tables_1 room_1 Calls_1 rest_1 Pre_1 launch0 p0 e0 about1 theMethod args0 below0 :=
  ⟨lists_1, trivial, launch0.admits_env _ _ _, launch0.least_env, fairChoices_fair.cas, fairChoices_fair.clock, w_frames, w_args, w_heap, w_applies, trivial, trivial, w_case⟩
end start1
theorem witness_1 : WitnessClaimed_1 := ⟨start1.p0, start1.e0, start1.about1, start1.theMethod, start1.args0, start1.below0, start1.atStart⟩
end Jvm.Pilot.@@N@@
