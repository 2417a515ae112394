import JvmDerived
import JvmDerived.Pilot.@@N@@Statement
import JvmDerived.Pilot.@@N@@Code
set_option linter.unusedVariables false
set_option linter.unusedSimpArgs false
namespace Jvm.RoadKit
open Sem ClassFile Op Lib Jvm.Stand Jvm.Free Jvm.LawKit
section New
variable {p : Program} {l : Launch} {e : Env} {R : Room} {s : State} {m : MethodId} {args : Array Value} {below : List Frame} {meth : Method} {c : Code} {T : State} {locs : List Loc} {cells slots : Nat}
theorem retI (X : Stand p l e R s m args below meth c T locs cells slots) (hx : p.tables.exec = Jvm.exec) {pc : Nat} {Ls : Array Slot} {z : Int32} {rest : List Value} (hret : meth.sig.returnType = some .int) (hd : decode c.code pc = .ok (.ireturn, 1)) {fs : List Frame}
    (hl : ∀ (f : JFrame) (acts : List Action), f.method = m → f.locked = none → f.entered = [] → (doReturn e (T.setTop f) acts (some (.int z))).1 = T.setFrames fs) : Steps p.tables e below (T.setTop (mkF m pc Ls (.int z :: rest))) (T.setFrames fs) := by
  have hm' : T.vm.method? m = some meth := X.method'
  have hn : narrow .int (.int z) = .int z := rfl
  show Steps p.tables e below (T.setTop { method := m, pc := pc, locals := Ls, stack := _ :: rest, locked := none }) _
  jvm_step X.here [X.here.top, hx, hd, hm', hret, hn]
  first | (intro acts; rw [hl _ acts rfl rfl rfl]) | rw [hl _ _ rfl rfl rfl]
  exact Steps.refl _
end New
end Jvm.RoadKit
namespace Jvm.Pilot.@@N@@
open Jvm Jvm.ClassFile Sem Op Lib Jvm.Free Jvm.Stand Jvm.LawKit Jvm.RoadKit Bundle Jvm.Pilot.@@N@@.Jvm.D
section OwnKit
variable {p : Program} {l : Launch} {e : Env} {R : Room} {s : State} {m : MethodId} {args : Array Value} {below : List Frame} {meth : Method} {c : Code} {T : State} {locs : List Loc} {cells slots : Nat}
/-- from S the run comes to a return of which F holds -/
def Goes (tb : Tables) (e : Env) (below : List Frame) (s : State) (F : Option Value → Heap → List Loc → Prop) (k n : Nat) (S : State) : Prop :=
  ∃ s₂ o, Steps tb e below S s₂ ∧ s₂.status = .running ∧ Ended s₂ below o ∧ ∃ v L, o = .returned v ∧ F v s₂.heap L ∧ FrameEnd s o s₂ L k n
theorem Goes.of {tb : Tables} {F : Option Value → Heap → List Loc → Prop} {k n : Nat} {S S' : State} (h : ∀ t, Steps tb e below S' t → Steps tb e below S t) (g : Goes tb e below s F k n S') : Goes tb e below s F k n S := by
  obtain ⟨s₂, o, h1, r⟩ := g
  exact ⟨s₂, o, h _ h1, r⟩
theorem Goes.mono {tb : Tables} {F G : Option Value → Heap → List Loc → Prop} {k n : Nat} {S : State} (h : ∀ v h L, F v h L → G v h L) (g : Goes tb e below s F k n S) : Goes tb e below s G k n S := by
  obtain ⟨s₂, o, h1, h2, h3, v, L, h4, h5, h6⟩ := g
  exact ⟨s₂, o, h1, h2, h3, v, L, h4, h _ _ _ h5, h6⟩
theorem Goes.fin (X : Stand p l e R s m args below meth c T locs cells slots) (hlk : meth.locks = false) {v : Option Value} {F : Option Value → Heap → List Loc → Prop} {k n : Nat} {S : State} (hv : meth.sig.returnType = none → v = none)
    (step : ∀ fs, (∀ (f : JFrame) (acts : List Action), f.method = m → f.locked = none → f.entered = [] → (doReturn e (T.setTop f) acts v).1 = T.setFrames fs) → Steps p.tables e below S (T.setFrames fs)) (hF : F v T.heap locs) (hk : cells ≤ k) (hn : slots ≤ n) : Goes p.tables e below s F k n S := by
  obtain ⟨fs, hr, hrun, hended, hW, hsame⟩ := X.leave hv hlk
  exact ⟨_, _, step fs hr, hrun, hended, v, locs, rfl, hF, ⟨_, rfl⟩, hW, hsame.mono hk hn⟩
end OwnKit
theorem d1_0 : decode prog_108_method_6_code 0 = .ok (.lload_n 0, 1) := by decide +kernel
theorem d1_1 : decode prog_108_method_6_code 1 = .ok (.lconst 0, 1) := by decide +kernel
theorem d1_2 : decode prog_108_method_6_code 2 = .ok (.lcmp, 1) := by decide +kernel
theorem d1_3 : decode prog_108_method_6_code 3 = .ok (.ifCond .eq 9, 3) := by decide +kernel
theorem d1_6 : decode prog_108_method_6_code 6 = .ok (.lload_n 2, 1) := by decide +kernel
theorem d1_7 : decode prog_108_method_6_code 7 = .ok (.lconst 0, 1) := by decide +kernel
theorem d1_8 : decode prog_108_method_6_code 8 = .ok (.lcmp, 1) := by decide +kernel
theorem d1_9 : decode prog_108_method_6_code 9 = .ok (.ifCond .ne 5, 3) := by decide +kernel
theorem d1_12 : decode prog_108_method_6_code 12 = .ok (.lconst 0, 1) := by decide +kernel
theorem d1_13 : decode prog_108_method_6_code 13 = .ok (.lreturn, 1) := by decide +kernel
theorem d1_14 : decode prog_108_method_6_code 14 = .ok (.lload_n 2, 1) := by decide +kernel
theorem d1_15 : decode prog_108_method_6_code 15 = .ok (.lconst 0, 1) := by decide +kernel
theorem d1_16 : decode prog_108_method_6_code 16 = .ok (.lcmp, 1) := by decide +kernel
theorem d1_17 : decode prog_108_method_6_code 17 = .ok (.ifCond .le 19, 3) := by decide +kernel
theorem d1_20 : decode prog_108_method_6_code 20 = .ok (.lload_n 0, 1) := by decide +kernel
theorem d1_21 : decode prog_108_method_6_code 21 = .ok (.ldc2_w 51, 3) := by decide +kernel
theorem d1_24 : decode prog_108_method_6_code 24 = .ok (.lload_n 2, 1) := by decide +kernel
theorem d1_25 : decode prog_108_method_6_code 25 = .ok (.ldiv, 1) := by decide +kernel
theorem d1_26 : decode prog_108_method_6_code 26 = .ok (.lcmp, 1) := by decide +kernel
theorem d1_27 : decode prog_108_method_6_code 27 = .ok (.ifCond .gt 9, 3) := by decide +kernel
theorem d1_30 : decode prog_108_method_6_code 30 = .ok (.lload_n 0, 1) := by decide +kernel
theorem d1_31 : decode prog_108_method_6_code 31 = .ok (.lload_n 2, 1) := by decide +kernel
theorem d1_32 : decode prog_108_method_6_code 32 = .ok (.lmul, 1) := by decide +kernel
theorem d1_33 : decode prog_108_method_6_code 33 = .ok (.goto 6, 3) := by decide +kernel
theorem d1_36 : decode prog_108_method_6_code 36 = .ok (.ldc2_w 51, 3) := by decide +kernel
theorem d1_39 : decode prog_108_method_6_code 39 = .ok (.lreturn, 1) := by decide +kernel
theorem pn_0 : plainName "com/example/preemptlens/preemptlens/ctf/ArrayType" = true := by first | (simp [plainName, overriddenIn]; done) | decide +kernel
theorem ef_1 (m : MethodId) (q1 : Int64) (q2 : Int64) : entryFrame m #[(.long q1), (.long q2)] 4 = mkF m 0 #[.val (.long q1), .second, .val (.long q2), .second] [] := by first | (simp [entryFrame, mkF, argsToLocals, Value.category]; done) | rfl
def f1 (q1 : Int64) (q2 : Int64) : Int64 :=
  (if q1 = (0 : Int64) then (0 : Int64)
  else (if q2 = (0 : Int64) then (0 : Int64)
    else (if (0 : Int64) < q2 then (if ((9223372036854775807 : Int64) / q2) < q1 then (9223372036854775807 : Int64)
        else (q1 * q2))
      else (9223372036854775807 : Int64))))
def Q1 (q1 : Int64) (q2 : Int64) (h0 : Heap) (n0 : Nat) (v : Option Value) (h : Heap) (L : List Loc) : Prop := v = some (.long (f1 q1 q2)) ∧ Fr n0 L ∧ h = h0
set_option maxRecDepth 65536 in
set_option maxHeartbeats 40000000 in
theorem rm1 (l : Launch) (Z : State) (a0 : Array Value) (hw : ∀ d ∈ tables_1, d.before a0 Z = true) (ws : List Jvm.Cond) (q1 : Int64) (q2 : Int64) (h0 : Heap) (n0 : Nat) :
    MetFree l (⟨"com/example/preemptlens/preemptlens/ctf/ArrayType", "count", "(JJ)J"⟩ : MethodName) (head1 (Jvm.Cond.code (⟨"com/example/preemptlens/preemptlens/ctf/ArrayType", "count", "(JJ)J"⟩ : MethodName) prog_108_method_6_code 4 (some .long) :: ws) ({ frames := 0, cells := 0, slots := 0, locals := 0 } : Room)) (fun a U => a = #[(.long q1), (.long q2)] ∧ Z.Warmed39 U.vm ∧ U.heap = h0) (fun _ _ _ _ _ => True) (fun _ U o U' => ∃ v L, o = .returned v ∧ Q1 q1 q2 h0 n0 v U'.heap L ∧ FrameEnd U o U' L 0 0) := by
  refine MetFree.of_bodySF (plainFor_of_name pn_0) hisR ?_
  intro p e s m args below meth c s₁ Bd hml0 hP hK
  obtain ⟨rfl, hZ, hh⟩ := hP
  have hx := Bd.exec
  have hby := Bd.bytes
  have hlk : meth.locks = false := BodyLoose.notSynchronized Bd
  have hml : c.maxLocals = 4 := hml0
  have hown : s.vm.findClass "com/example/preemptlens/preemptlens/ctf/ArrayType" = some m.cls := findClass_of_methodNamed Bd.named
  have X0 : Stand p l e ({ frames := 0, cells := 0, slots := 0, locals := 0 } : Room) s m #[(.long q1), (.long q2)] below meth c s₁ [] 0 0 := Stand.of_body Bd
  have e0 : s₁.heap = h0 := by rw [← hh, Bd.state]; rfl
  have N0 := Fr.nil n0
  show Goes p.tables e below s (Q1 q1 q2 h0 n0) 0 0 (s₁.setTop (entryFrame m #[(.long q1), (.long q2)] 4))
  refine Goes.of (fun t k => castTop (ef_1 m q1 q2) k) ?_
  show Goes _ _ _ _ _ _ _ (s₁.setTop (mkF m 0 #[.val (.long q1), .second, .val (.long q2), .second] []))
  refine Goes.of (fun t k => XS.lloadN X0.here hx rfl (hb hby d1_0) rfl k) ?_
  show Goes _ _ _ _ _ _ _ (s₁.setTop (mkF m 1 #[.val (.long q1), .second, .val (.long q2), .second] [(.long q1)]))
  refine Goes.of (fun t k => XS.lconst X0.here hx rfl (hb hby d1_1) k) ?_
  show Goes _ _ _ _ _ _ _ (s₁.setTop (mkF m 2 #[.val (.long q1), .second, .val (.long q2), .second] [(.long (0 : Int64)), (.long q1)]))
  refine Goes.of (fun t k => XS.lcmp X0.here hx rfl (hb hby d1_2) rfl k) ?_
  show Goes _ _ _ _ _ _ _ (s₁.setTop (mkF m 3 #[.val (.long q1), .second, .val (.long q2), .second] [(.int (lcmpW q1 (0 : Int64)))]))
  by_cases hc3 : q1 = (0 : Int64)
  · refine Goes.of (fun t k => XS.ifYes X0.here hx rfl (pc0 := 3) (pc' := 12) rfl (hb hby d1_3) rfl ((if0 _ _).trans (teq ((lw_eq _ _).mpr hc3)).1) (by decide) (by decide) k) ?_
    show Goes _ _ _ _ _ _ _ (s₁.setTop (mkF m 12 #[.val (.long q1), .second, .val (.long q2), .second] []))
    refine Goes.of (fun t k => XS.lconst X0.here hx rfl (hb hby d1_12) k) ?_
    show Goes _ _ _ _ _ _ _ (s₁.setTop (mkF m 13 #[.val (.long q1), .second, .val (.long q2), .second] [(.long (0 : Int64))]))
    exact Goes.fin X0 hlk (v := some (.long (0 : Int64))) (fun h => by rw [Bd.returns] at h; cases h) (fun fs hr => retOut X0 hx Bd.returns (by rfl) (Or.inr (Or.inl ⟨rfl, rfl, _, rfl⟩)) (hb hby d1_13) hr) ⟨congrArg (fun z => some (Value.long z)) (by rw [f1, if_pos hc3] : (0 : Int64) = f1 q1 q2), N0, e0⟩ (by decide) (by decide)
  · refine Goes.of (fun t k => XS.ifNo X0.here hx rfl (hb hby d1_3) rfl ((if0 _ _).trans (feq (fun q => hc3 ((lw_eq _ _).mp q))).1) k) ?_
    show Goes _ _ _ _ _ _ _ (s₁.setTop (mkF m 6 #[.val (.long q1), .second, .val (.long q2), .second] []))
    refine Goes.of (fun t k => XS.lloadN X0.here hx rfl (hb hby d1_6) rfl k) ?_
    show Goes _ _ _ _ _ _ _ (s₁.setTop (mkF m 7 #[.val (.long q1), .second, .val (.long q2), .second] [(.long q2)]))
    refine Goes.of (fun t k => XS.lconst X0.here hx rfl (hb hby d1_7) k) ?_
    show Goes _ _ _ _ _ _ _ (s₁.setTop (mkF m 8 #[.val (.long q1), .second, .val (.long q2), .second] [(.long (0 : Int64)), (.long q2)]))
    refine Goes.of (fun t k => XS.lcmp X0.here hx rfl (hb hby d1_8) rfl k) ?_
    show Goes _ _ _ _ _ _ _ (s₁.setTop (mkF m 9 #[.val (.long q1), .second, .val (.long q2), .second] [(.int (lcmpW q2 (0 : Int64)))]))
    by_cases hc4 : q2 = (0 : Int64)
    · refine Goes.of (fun t k => XS.ifNo X0.here hx rfl (hb hby d1_9) rfl ((if0 _ _).trans (teq ((lw_eq _ _).mpr hc4)).2) k) ?_
      show Goes _ _ _ _ _ _ _ (s₁.setTop (mkF m 12 #[.val (.long q1), .second, .val (.long q2), .second] []))
      refine Goes.of (fun t k => XS.lconst X0.here hx rfl (hb hby d1_12) k) ?_
      show Goes _ _ _ _ _ _ _ (s₁.setTop (mkF m 13 #[.val (.long q1), .second, .val (.long q2), .second] [(.long (0 : Int64))]))
      exact Goes.fin X0 hlk (v := some (.long (0 : Int64))) (fun h => by rw [Bd.returns] at h; cases h) (fun fs hr => retOut X0 hx Bd.returns (by rfl) (Or.inr (Or.inl ⟨rfl, rfl, _, rfl⟩)) (hb hby d1_13) hr) ⟨congrArg (fun z => some (Value.long z)) (by rw [f1, if_neg hc3, if_pos hc4] : (0 : Int64) = f1 q1 q2), N0, e0⟩ (by decide) (by decide)
    · refine Goes.of (fun t k => XS.ifYes X0.here hx rfl (pc0 := 9) (pc' := 14) rfl (hb hby d1_9) rfl ((if0 _ _).trans (feq (fun q => hc4 ((lw_eq _ _).mp q))).2) (by decide) (by decide) k) ?_
      show Goes _ _ _ _ _ _ _ (s₁.setTop (mkF m 14 #[.val (.long q1), .second, .val (.long q2), .second] []))
      refine Goes.of (fun t k => XS.lloadN X0.here hx rfl (hb hby d1_14) rfl k) ?_
      show Goes _ _ _ _ _ _ _ (s₁.setTop (mkF m 15 #[.val (.long q1), .second, .val (.long q2), .second] [(.long q2)]))
      refine Goes.of (fun t k => XS.lconst X0.here hx rfl (hb hby d1_15) k) ?_
      show Goes _ _ _ _ _ _ _ (s₁.setTop (mkF m 16 #[.val (.long q1), .second, .val (.long q2), .second] [(.long (0 : Int64)), (.long q2)]))
      refine Goes.of (fun t k => XS.lcmp X0.here hx rfl (hb hby d1_16) rfl k) ?_
      show Goes _ _ _ _ _ _ _ (s₁.setTop (mkF m 17 #[.val (.long q1), .second, .val (.long q2), .second] [(.int (lcmpW q2 (0 : Int64)))]))
      by_cases hc5 : (0 : Int64) < q2
      · refine Goes.of (fun t k => XS.ifNo X0.here hx rfl (hb hby d1_17) rfl ((if0 _ _).trans (tlt ((lw_gt _ _).mpr hc5)).2.2.2) k) ?_
        show Goes _ _ _ _ _ _ _ (s₁.setTop (mkF m 20 #[.val (.long q1), .second, .val (.long q2), .second] []))
        refine Goes.of (fun t k => XS.lloadN X0.here hx rfl (hb hby d1_20) rfl k) ?_
        show Goes _ _ _ _ _ _ _ (s₁.setTop (mkF m 21 #[.val (.long q1), .second, .val (.long q2), .second] [(.long q1)]))
        refine Goes.of (fun t k => X0.ldc2Long hx hown (mvT hZ (hw _ (List.mem_of_getElem? (i := 5) rfl))) (g := (mkF m 21 #[.val (.long q1), .second, .val (.long q2), .second] [(.long q1)])) rfl (hb hby d1_21) t k) ?_
        show Goes _ _ _ _ _ _ _ (s₁.setTop (mkF m 24 #[.val (.long q1), .second, .val (.long q2), .second] [(.long (9223372036854775807 : Int64)), (.long q1)]))
        refine Goes.of (fun t k => XS.lloadN X0.here hx rfl (hb hby d1_24) rfl k) ?_
        show Goes _ _ _ _ _ _ _ (s₁.setTop (mkF m 25 #[.val (.long q1), .second, .val (.long q2), .second] [(.long q2), (.long (9223372036854775807 : Int64)), (.long q1)]))
        refine Goes.of (fun t k => XS.ldiv X0.here hx rfl (hb hby d1_25) rfl hc4 k) ?_
        show Goes _ _ _ _ _ _ _ (s₁.setTop (mkF m 26 #[.val (.long q1), .second, .val (.long q2), .second] [(.long ((9223372036854775807 : Int64) / q2)), (.long q1)]))
        refine Goes.of (fun t k => XS.lcmp X0.here hx rfl (hb hby d1_26) rfl k) ?_
        show Goes _ _ _ _ _ _ _ (s₁.setTop (mkF m 27 #[.val (.long q1), .second, .val (.long q2), .second] [(.int (lcmpW q1 ((9223372036854775807 : Int64) / q2)))]))
        by_cases hc6 : ((9223372036854775807 : Int64) / q2) < q1
        · refine Goes.of (fun t k => XS.ifYes X0.here hx rfl (pc0 := 27) (pc' := 36) rfl (hb hby d1_27) rfl ((if0 _ _).trans (tlt ((lw_gt _ _).mpr hc6)).2.2.1) (by decide) (by decide) k) ?_
          show Goes _ _ _ _ _ _ _ (s₁.setTop (mkF m 36 #[.val (.long q1), .second, .val (.long q2), .second] []))
          refine Goes.of (fun t k => X0.ldc2Long hx hown (mvT hZ (hw _ (List.mem_of_getElem? (i := 5) rfl))) (g := (mkF m 36 #[.val (.long q1), .second, .val (.long q2), .second] [])) rfl (hb hby d1_36) t k) ?_
          show Goes _ _ _ _ _ _ _ (s₁.setTop (mkF m 39 #[.val (.long q1), .second, .val (.long q2), .second] [(.long (9223372036854775807 : Int64))]))
          exact Goes.fin X0 hlk (v := some (.long (9223372036854775807 : Int64))) (fun h => by rw [Bd.returns] at h; cases h) (fun fs hr => retOut X0 hx Bd.returns (by rfl) (Or.inr (Or.inl ⟨rfl, rfl, _, rfl⟩)) (hb hby d1_39) hr) ⟨congrArg (fun z => some (Value.long z)) (by rw [f1, if_neg hc3, if_neg hc4, if_pos hc5, if_pos hc6] : (9223372036854775807 : Int64) = f1 q1 q2), N0, e0⟩ (by decide) (by decide)
        · refine Goes.of (fun t k => XS.ifNo X0.here hx rfl (hb hby d1_27) rfl ((if0 _ _).trans (flt (fun q => hc6 ((lw_gt _ _).mp q))).2.2.1) k) ?_
          show Goes _ _ _ _ _ _ _ (s₁.setTop (mkF m 30 #[.val (.long q1), .second, .val (.long q2), .second] []))
          refine Goes.of (fun t k => XS.lloadN X0.here hx rfl (hb hby d1_30) rfl k) ?_
          show Goes _ _ _ _ _ _ _ (s₁.setTop (mkF m 31 #[.val (.long q1), .second, .val (.long q2), .second] [(.long q1)]))
          refine Goes.of (fun t k => XS.lloadN X0.here hx rfl (hb hby d1_31) rfl k) ?_
          show Goes _ _ _ _ _ _ _ (s₁.setTop (mkF m 32 #[.val (.long q1), .second, .val (.long q2), .second] [(.long q2), (.long q1)]))
          refine Goes.of (fun t k => XS.lmul X0.here hx rfl (hb hby d1_32) rfl k) ?_
          show Goes _ _ _ _ _ _ _ (s₁.setTop (mkF m 33 #[.val (.long q1), .second, .val (.long q2), .second] [(.long (q1 * q2))]))
          refine Goes.of (fun t k => XS.goto X0.here hx rfl (pc0 := 33) (pc' := 39) rfl (hb hby d1_33) (by decide) (by decide) k) ?_
          show Goes _ _ _ _ _ _ _ (s₁.setTop (mkF m 39 #[.val (.long q1), .second, .val (.long q2), .second] [(.long (q1 * q2))]))
          exact Goes.fin X0 hlk (v := some (.long (q1 * q2))) (fun h => by rw [Bd.returns] at h; cases h) (fun fs hr => retOut X0 hx Bd.returns (by rfl) (Or.inr (Or.inl ⟨rfl, rfl, _, rfl⟩)) (hb hby d1_39) hr) ⟨congrArg (fun z => some (Value.long z)) (by rw [f1, if_neg hc3, if_neg hc4, if_pos hc5, if_neg hc6] : (q1 * q2) = f1 q1 q2), N0, e0⟩ (by decide) (by decide)
      · refine Goes.of (fun t k => XS.ifYes X0.here hx rfl (pc0 := 17) (pc' := 36) rfl (hb hby d1_17) rfl ((if0 _ _).trans (flt (fun q => hc5 ((lw_gt _ _).mp q))).2.2.2) (by decide) (by decide) k) ?_
        show Goes _ _ _ _ _ _ _ (s₁.setTop (mkF m 36 #[.val (.long q1), .second, .val (.long q2), .second] []))
        refine Goes.of (fun t k => X0.ldc2Long hx hown (mvT hZ (hw _ (List.mem_of_getElem? (i := 5) rfl))) (g := (mkF m 36 #[.val (.long q1), .second, .val (.long q2), .second] [])) rfl (hb hby d1_36) t k) ?_
        show Goes _ _ _ _ _ _ _ (s₁.setTop (mkF m 39 #[.val (.long q1), .second, .val (.long q2), .second] [(.long (9223372036854775807 : Int64))]))
        exact Goes.fin X0 hlk (v := some (.long (9223372036854775807 : Int64))) (fun h => by rw [Bd.returns] at h; cases h) (fun fs hr => retOut X0 hx Bd.returns (by rfl) (Or.inr (Or.inl ⟨rfl, rfl, _, rfl⟩)) (hb hby d1_39) hr) ⟨congrArg (fun z => some (Value.long z)) (by rw [f1, if_neg hc3, if_neg hc4, if_neg hc5] : (9223372036854775807 : Int64) = f1 q1 q2), N0, e0⟩ (by decide) (by decide)
theorem d2_0 : decode method_3_code 0 = .ok (.lload_n 0, 1) := by decide +kernel
theorem d2_1 : decode method_3_code 1 = .ok (.lconst 0, 1) := by decide +kernel
theorem d2_2 : decode method_3_code 2 = .ok (.lcmp, 1) := by decide +kernel
theorem d2_3 : decode method_3_code 3 = .ok (.ifCond .eq 9, 3) := by decide +kernel
theorem d2_6 : decode method_3_code 6 = .ok (.lload_n 2, 1) := by decide +kernel
theorem d2_7 : decode method_3_code 7 = .ok (.lconst 0, 1) := by decide +kernel
theorem d2_8 : decode method_3_code 8 = .ok (.lcmp, 1) := by decide +kernel
theorem d2_9 : decode method_3_code 9 = .ok (.ifCond .ne 5, 3) := by decide +kernel
theorem d2_12 : decode method_3_code 12 = .ok (.lconst 0, 1) := by decide +kernel
theorem d2_13 : decode method_3_code 13 = .ok (.lreturn, 1) := by decide +kernel
theorem d2_14 : decode method_3_code 14 = .ok (.lload_n 2, 1) := by decide +kernel
theorem d2_15 : decode method_3_code 15 = .ok (.lconst 0, 1) := by decide +kernel
theorem d2_16 : decode method_3_code 16 = .ok (.lcmp, 1) := by decide +kernel
theorem d2_17 : decode method_3_code 17 = .ok (.ifCond .ge 7, 3) := by decide +kernel
theorem d2_20 : decode method_3_code 20 = .ok (.ldc2_w 9, 3) := by decide +kernel
theorem d2_23 : decode method_3_code 23 = .ok (.lreturn, 1) := by decide +kernel
theorem d2_24 : decode method_3_code 24 = .ok (.lload_n 0, 1) := by decide +kernel
theorem d2_25 : decode method_3_code 25 = .ok (.bipush 32, 2) := by decide +kernel
theorem d2_27 : decode method_3_code 27 = .ok (.lushr, 1) := by decide +kernel
theorem d2_28 : decode method_3_code 28 = .ok (.lstore 4, 2) := by decide +kernel
theorem d2_30 : decode method_3_code 30 = .ok (.lload_n 0, 1) := by decide +kernel
theorem d2_31 : decode method_3_code 31 = .ok (.ldc2_w 22, 3) := by decide +kernel
theorem d2_34 : decode method_3_code 34 = .ok (.land, 1) := by decide +kernel
theorem d2_35 : decode method_3_code 35 = .ok (.lstore 6, 2) := by decide +kernel
theorem d2_37 : decode method_3_code 37 = .ok (.lload_n 2, 1) := by decide +kernel
theorem d2_38 : decode method_3_code 38 = .ok (.bipush 32, 2) := by decide +kernel
theorem d2_40 : decode method_3_code 40 = .ok (.lushr, 1) := by decide +kernel
theorem d2_41 : decode method_3_code 41 = .ok (.lstore 8, 2) := by decide +kernel
theorem d2_43 : decode method_3_code 43 = .ok (.lload_n 2, 1) := by decide +kernel
theorem d2_44 : decode method_3_code 44 = .ok (.ldc2_w 22, 3) := by decide +kernel
theorem d2_47 : decode method_3_code 47 = .ok (.land, 1) := by decide +kernel
theorem d2_48 : decode method_3_code 48 = .ok (.lstore 10, 2) := by decide +kernel
theorem d2_50 : decode method_3_code 50 = .ok (.lload 4, 2) := by decide +kernel
theorem d2_52 : decode method_3_code 52 = .ok (.lconst 0, 1) := by decide +kernel
theorem d2_53 : decode method_3_code 53 = .ok (.lcmp, 1) := by decide +kernel
theorem d2_54 : decode method_3_code 54 = .ok (.ifCond .eq 14, 3) := by decide +kernel
theorem d2_57 : decode method_3_code 57 = .ok (.lload 8, 2) := by decide +kernel
theorem d2_59 : decode method_3_code 59 = .ok (.lconst 0, 1) := by decide +kernel
theorem d2_60 : decode method_3_code 60 = .ok (.lcmp, 1) := by decide +kernel
theorem d2_61 : decode method_3_code 61 = .ok (.ifCond .eq 7, 3) := by decide +kernel
theorem d2_64 : decode method_3_code 64 = .ok (.ldc2_w 9, 3) := by decide +kernel
theorem d2_67 : decode method_3_code 67 = .ok (.lreturn, 1) := by decide +kernel
theorem d2_68 : decode method_3_code 68 = .ok (.lload 4, 2) := by decide +kernel
theorem d2_70 : decode method_3_code 70 = .ok (.lload 10, 2) := by decide +kernel
theorem d2_72 : decode method_3_code 72 = .ok (.lmul, 1) := by decide +kernel
theorem d2_73 : decode method_3_code 73 = .ok (.lload 6, 2) := by decide +kernel
theorem d2_75 : decode method_3_code 75 = .ok (.lload 8, 2) := by decide +kernel
theorem d2_77 : decode method_3_code 77 = .ok (.lmul, 1) := by decide +kernel
theorem d2_78 : decode method_3_code 78 = .ok (.ladd, 1) := by decide +kernel
theorem d2_79 : decode method_3_code 79 = .ok (.lstore 12, 2) := by decide +kernel
theorem d2_81 : decode method_3_code 81 = .ok (.lload 12, 2) := by decide +kernel
theorem d2_83 : decode method_3_code 83 = .ok (.ldc2_w 24, 3) := by decide +kernel
theorem d2_86 : decode method_3_code 86 = .ok (.lcmp, 1) := by decide +kernel
theorem d2_87 : decode method_3_code 87 = .ok (.ifCond .le 7, 3) := by decide +kernel
theorem d2_90 : decode method_3_code 90 = .ok (.ldc2_w 9, 3) := by decide +kernel
theorem d2_93 : decode method_3_code 93 = .ok (.lreturn, 1) := by decide +kernel
theorem d2_94 : decode method_3_code 94 = .ok (.lload 6, 2) := by decide +kernel
theorem d2_96 : decode method_3_code 96 = .ok (.lload 10, 2) := by decide +kernel
theorem d2_98 : decode method_3_code 98 = .ok (.lmul, 1) := by decide +kernel
theorem d2_99 : decode method_3_code 99 = .ok (.lstore 14, 2) := by decide +kernel
theorem d2_101 : decode method_3_code 101 = .ok (.lload 14, 2) := by decide +kernel
theorem d2_103 : decode method_3_code 103 = .ok (.lconst 0, 1) := by decide +kernel
theorem d2_104 : decode method_3_code 104 = .ok (.lcmp, 1) := by decide +kernel
theorem d2_105 : decode method_3_code 105 = .ok (.ifCond .ge 7, 3) := by decide +kernel
theorem d2_108 : decode method_3_code 108 = .ok (.ldc2_w 9, 3) := by decide +kernel
theorem d2_111 : decode method_3_code 111 = .ok (.lreturn, 1) := by decide +kernel
theorem d2_112 : decode method_3_code 112 = .ok (.lload 12, 2) := by decide +kernel
theorem d2_114 : decode method_3_code 114 = .ok (.bipush 32, 2) := by decide +kernel
theorem d2_116 : decode method_3_code 116 = .ok (.lshl, 1) := by decide +kernel
theorem d2_117 : decode method_3_code 117 = .ok (.lload 14, 2) := by decide +kernel
theorem d2_119 : decode method_3_code 119 = .ok (.ladd, 1) := by decide +kernel
theorem d2_120 : decode method_3_code 120 = .ok (.lstore 16, 2) := by decide +kernel
theorem d2_122 : decode method_3_code 122 = .ok (.lload 16, 2) := by decide +kernel
theorem d2_124 : decode method_3_code 124 = .ok (.lconst 0, 1) := by decide +kernel
theorem d2_125 : decode method_3_code 125 = .ok (.lcmp, 1) := by decide +kernel
theorem d2_126 : decode method_3_code 126 = .ok (.ifCond .ge 7, 3) := by decide +kernel
theorem d2_129 : decode method_3_code 129 = .ok (.ldc2_w 9, 3) := by decide +kernel
theorem d2_132 : decode method_3_code 132 = .ok (.lreturn, 1) := by decide +kernel
theorem d2_133 : decode method_3_code 133 = .ok (.lload 16, 2) := by decide +kernel
theorem d2_135 : decode method_3_code 135 = .ok (.lreturn, 1) := by decide +kernel
theorem pn_1 : plainName "com/example/preemptlens/preemptlens/ctf/ArrayTypeCountPinLaw" = true := by first | (simp [plainName, overriddenIn]; done) | decide +kernel
theorem ef_2 (m : MethodId) (q7 : Int64) (q8 : Int64) : entryFrame m #[(.long q7), (.long q8)] 18 = mkF m 0 #[.val (.long q7), .second, .val (.long q8), .second, .unset, .unset, .unset, .unset, .unset, .unset, .unset, .unset, .unset, .unset, .unset, .unset, .unset, .unset] [] := by first | (simp [entryFrame, mkF, argsToLocals, Value.category]; done) | rfl
def f2 (q7 : Int64) (q8 : Int64) : Int64 :=
  (if q7 = (0 : Int64) then (0 : Int64)
  else (if q8 = (0 : Int64) then (0 : Int64)
    else (if q8 < (0 : Int64) then (9223372036854775807 : Int64)
      else (if ((q7.toUInt64 >>> ((32 : Int32) &&& 0x3f).toInt64.toUInt64).toInt64) = (0 : Int64) then (if (2147483647 : Int64) < ((((q7.toUInt64 >>> ((32 : Int32) &&& 0x3f).toInt64.toUInt64).toInt64) * (q8 &&& (4294967295 : Int64))) + ((q7 &&& (4294967295 : Int64)) * ((q8.toUInt64 >>> ((32 : Int32) &&& 0x3f).toInt64.toUInt64).toInt64))) then (9223372036854775807 : Int64)
          else (if ((q7 &&& (4294967295 : Int64)) * (q8 &&& (4294967295 : Int64))) < (0 : Int64) then (9223372036854775807 : Int64)
            else (if ((((((q7.toUInt64 >>> ((32 : Int32) &&& 0x3f).toInt64.toUInt64).toInt64) * (q8 &&& (4294967295 : Int64))) + ((q7 &&& (4294967295 : Int64)) * ((q8.toUInt64 >>> ((32 : Int32) &&& 0x3f).toInt64.toUInt64).toInt64))) <<< ((32 : Int32) &&& 0x3f).toInt64) + ((q7 &&& (4294967295 : Int64)) * (q8 &&& (4294967295 : Int64)))) < (0 : Int64) then (9223372036854775807 : Int64)
              else ((((((q7.toUInt64 >>> ((32 : Int32) &&& 0x3f).toInt64.toUInt64).toInt64) * (q8 &&& (4294967295 : Int64))) + ((q7 &&& (4294967295 : Int64)) * ((q8.toUInt64 >>> ((32 : Int32) &&& 0x3f).toInt64.toUInt64).toInt64))) <<< ((32 : Int32) &&& 0x3f).toInt64) + ((q7 &&& (4294967295 : Int64)) * (q8 &&& (4294967295 : Int64)))))))
        else (if ((q8.toUInt64 >>> ((32 : Int32) &&& 0x3f).toInt64.toUInt64).toInt64) = (0 : Int64) then (if (2147483647 : Int64) < ((((q7.toUInt64 >>> ((32 : Int32) &&& 0x3f).toInt64.toUInt64).toInt64) * (q8 &&& (4294967295 : Int64))) + ((q7 &&& (4294967295 : Int64)) * ((q8.toUInt64 >>> ((32 : Int32) &&& 0x3f).toInt64.toUInt64).toInt64))) then (9223372036854775807 : Int64)
            else (if ((q7 &&& (4294967295 : Int64)) * (q8 &&& (4294967295 : Int64))) < (0 : Int64) then (9223372036854775807 : Int64)
              else (if ((((((q7.toUInt64 >>> ((32 : Int32) &&& 0x3f).toInt64.toUInt64).toInt64) * (q8 &&& (4294967295 : Int64))) + ((q7 &&& (4294967295 : Int64)) * ((q8.toUInt64 >>> ((32 : Int32) &&& 0x3f).toInt64.toUInt64).toInt64))) <<< ((32 : Int32) &&& 0x3f).toInt64) + ((q7 &&& (4294967295 : Int64)) * (q8 &&& (4294967295 : Int64)))) < (0 : Int64) then (9223372036854775807 : Int64)
                else ((((((q7.toUInt64 >>> ((32 : Int32) &&& 0x3f).toInt64.toUInt64).toInt64) * (q8 &&& (4294967295 : Int64))) + ((q7 &&& (4294967295 : Int64)) * ((q8.toUInt64 >>> ((32 : Int32) &&& 0x3f).toInt64.toUInt64).toInt64))) <<< ((32 : Int32) &&& 0x3f).toInt64) + ((q7 &&& (4294967295 : Int64)) * (q8 &&& (4294967295 : Int64)))))))
          else (9223372036854775807 : Int64))))))
def Q2 (q7 : Int64) (q8 : Int64) (h0 : Heap) (n0 : Nat) (v : Option Value) (h : Heap) (L : List Loc) : Prop := v = some (.long (f2 q7 q8)) ∧ Fr n0 L ∧ h = h0
set_option maxRecDepth 65536 in
set_option maxHeartbeats 40000000 in
theorem rm2 (l : Launch) (Z : State) (a0 : Array Value) (hw : ∀ d ∈ tables_1, d.before a0 Z = true) (ws : List Jvm.Cond) (q7 : Int64) (q8 : Int64) (h0 : Heap) (n0 : Nat) :
    MetFree l (⟨"com/example/preemptlens/preemptlens/ctf/ArrayTypeCountPinLaw", "expected", "(JJ)J"⟩ : MethodName) (head1 (Jvm.Cond.code (⟨"com/example/preemptlens/preemptlens/ctf/ArrayTypeCountPinLaw", "expected", "(JJ)J"⟩ : MethodName) method_3_code 18 (some .long) :: ws) ({ frames := 0, cells := 0, slots := 0, locals := 0 } : Room)) (fun a U => a = #[(.long q7), (.long q8)] ∧ Z.Warmed39 U.vm ∧ U.heap = h0) (fun _ _ _ _ _ => True) (fun _ U o U' => ∃ v L, o = .returned v ∧ Q2 q7 q8 h0 n0 v U'.heap L ∧ FrameEnd U o U' L 0 0) := by
  refine MetFree.of_bodySF (plainFor_of_name pn_1) hisR ?_
  intro p e s m args below meth c s₁ Bd hml0 hP hK
  obtain ⟨rfl, hZ, hh⟩ := hP
  have hx := Bd.exec
  have hby := Bd.bytes
  have hlk : meth.locks = false := BodyLoose.notSynchronized Bd
  have hml : c.maxLocals = 18 := hml0
  have hown : s.vm.findClass "com/example/preemptlens/preemptlens/ctf/ArrayTypeCountPinLaw" = some m.cls := findClass_of_methodNamed Bd.named
  have X0 : Stand p l e ({ frames := 0, cells := 0, slots := 0, locals := 0 } : Room) s m #[(.long q7), (.long q8)] below meth c s₁ [] 0 0 := Stand.of_body Bd
  have e0 : s₁.heap = h0 := by rw [← hh, Bd.state]; rfl
  have N0 := Fr.nil n0
  show Goes p.tables e below s (Q2 q7 q8 h0 n0) 0 0 (s₁.setTop (entryFrame m #[(.long q7), (.long q8)] 18))
  refine Goes.of (fun t k => castTop (ef_2 m q7 q8) k) ?_
  show Goes _ _ _ _ _ _ _ (s₁.setTop (mkF m 0 #[.val (.long q7), .second, .val (.long q8), .second, .unset, .unset, .unset, .unset, .unset, .unset, .unset, .unset, .unset, .unset, .unset, .unset, .unset, .unset] []))
  refine Goes.of (fun t k => XS.lloadN X0.here hx rfl (hb hby d2_0) rfl k) ?_
  show Goes _ _ _ _ _ _ _ (s₁.setTop (mkF m 1 #[.val (.long q7), .second, .val (.long q8), .second, .unset, .unset, .unset, .unset, .unset, .unset, .unset, .unset, .unset, .unset, .unset, .unset, .unset, .unset] [(.long q7)]))
  refine Goes.of (fun t k => XS.lconst X0.here hx rfl (hb hby d2_1) k) ?_
  show Goes _ _ _ _ _ _ _ (s₁.setTop (mkF m 2 #[.val (.long q7), .second, .val (.long q8), .second, .unset, .unset, .unset, .unset, .unset, .unset, .unset, .unset, .unset, .unset, .unset, .unset, .unset, .unset] [(.long (0 : Int64)), (.long q7)]))
  refine Goes.of (fun t k => XS.lcmp X0.here hx rfl (hb hby d2_2) rfl k) ?_
  show Goes _ _ _ _ _ _ _ (s₁.setTop (mkF m 3 #[.val (.long q7), .second, .val (.long q8), .second, .unset, .unset, .unset, .unset, .unset, .unset, .unset, .unset, .unset, .unset, .unset, .unset, .unset, .unset] [(.int (lcmpW q7 (0 : Int64)))]))
  by_cases hc9 : q7 = (0 : Int64)
  · refine Goes.of (fun t k => XS.ifYes X0.here hx rfl (pc0 := 3) (pc' := 12) rfl (hb hby d2_3) rfl ((if0 _ _).trans (teq ((lw_eq _ _).mpr hc9)).1) (by decide) (by decide) k) ?_
    show Goes _ _ _ _ _ _ _ (s₁.setTop (mkF m 12 #[.val (.long q7), .second, .val (.long q8), .second, .unset, .unset, .unset, .unset, .unset, .unset, .unset, .unset, .unset, .unset, .unset, .unset, .unset, .unset] []))
    refine Goes.of (fun t k => XS.lconst X0.here hx rfl (hb hby d2_12) k) ?_
    show Goes _ _ _ _ _ _ _ (s₁.setTop (mkF m 13 #[.val (.long q7), .second, .val (.long q8), .second, .unset, .unset, .unset, .unset, .unset, .unset, .unset, .unset, .unset, .unset, .unset, .unset, .unset, .unset] [(.long (0 : Int64))]))
    exact Goes.fin X0 hlk (v := some (.long (0 : Int64))) (fun h => by rw [Bd.returns] at h; cases h) (fun fs hr => retOut X0 hx Bd.returns (by rfl) (Or.inr (Or.inl ⟨rfl, rfl, _, rfl⟩)) (hb hby d2_13) hr) ⟨congrArg (fun z => some (Value.long z)) (by rw [f2, if_pos hc9] : (0 : Int64) = f2 q7 q8), N0, e0⟩ (by decide) (by decide)
  · refine Goes.of (fun t k => XS.ifNo X0.here hx rfl (hb hby d2_3) rfl ((if0 _ _).trans (feq (fun q => hc9 ((lw_eq _ _).mp q))).1) k) ?_
    show Goes _ _ _ _ _ _ _ (s₁.setTop (mkF m 6 #[.val (.long q7), .second, .val (.long q8), .second, .unset, .unset, .unset, .unset, .unset, .unset, .unset, .unset, .unset, .unset, .unset, .unset, .unset, .unset] []))
    refine Goes.of (fun t k => XS.lloadN X0.here hx rfl (hb hby d2_6) rfl k) ?_
    show Goes _ _ _ _ _ _ _ (s₁.setTop (mkF m 7 #[.val (.long q7), .second, .val (.long q8), .second, .unset, .unset, .unset, .unset, .unset, .unset, .unset, .unset, .unset, .unset, .unset, .unset, .unset, .unset] [(.long q8)]))
    refine Goes.of (fun t k => XS.lconst X0.here hx rfl (hb hby d2_7) k) ?_
    show Goes _ _ _ _ _ _ _ (s₁.setTop (mkF m 8 #[.val (.long q7), .second, .val (.long q8), .second, .unset, .unset, .unset, .unset, .unset, .unset, .unset, .unset, .unset, .unset, .unset, .unset, .unset, .unset] [(.long (0 : Int64)), (.long q8)]))
    refine Goes.of (fun t k => XS.lcmp X0.here hx rfl (hb hby d2_8) rfl k) ?_
    show Goes _ _ _ _ _ _ _ (s₁.setTop (mkF m 9 #[.val (.long q7), .second, .val (.long q8), .second, .unset, .unset, .unset, .unset, .unset, .unset, .unset, .unset, .unset, .unset, .unset, .unset, .unset, .unset] [(.int (lcmpW q8 (0 : Int64)))]))
    by_cases hc10 : q8 = (0 : Int64)
    · refine Goes.of (fun t k => XS.ifNo X0.here hx rfl (hb hby d2_9) rfl ((if0 _ _).trans (teq ((lw_eq _ _).mpr hc10)).2) k) ?_
      show Goes _ _ _ _ _ _ _ (s₁.setTop (mkF m 12 #[.val (.long q7), .second, .val (.long q8), .second, .unset, .unset, .unset, .unset, .unset, .unset, .unset, .unset, .unset, .unset, .unset, .unset, .unset, .unset] []))
      refine Goes.of (fun t k => XS.lconst X0.here hx rfl (hb hby d2_12) k) ?_
      show Goes _ _ _ _ _ _ _ (s₁.setTop (mkF m 13 #[.val (.long q7), .second, .val (.long q8), .second, .unset, .unset, .unset, .unset, .unset, .unset, .unset, .unset, .unset, .unset, .unset, .unset, .unset, .unset] [(.long (0 : Int64))]))
      exact Goes.fin X0 hlk (v := some (.long (0 : Int64))) (fun h => by rw [Bd.returns] at h; cases h) (fun fs hr => retOut X0 hx Bd.returns (by rfl) (Or.inr (Or.inl ⟨rfl, rfl, _, rfl⟩)) (hb hby d2_13) hr) ⟨congrArg (fun z => some (Value.long z)) (by rw [f2, if_neg hc9, if_pos hc10] : (0 : Int64) = f2 q7 q8), N0, e0⟩ (by decide) (by decide)
    · refine Goes.of (fun t k => XS.ifYes X0.here hx rfl (pc0 := 9) (pc' := 14) rfl (hb hby d2_9) rfl ((if0 _ _).trans (feq (fun q => hc10 ((lw_eq _ _).mp q))).2) (by decide) (by decide) k) ?_
      show Goes _ _ _ _ _ _ _ (s₁.setTop (mkF m 14 #[.val (.long q7), .second, .val (.long q8), .second, .unset, .unset, .unset, .unset, .unset, .unset, .unset, .unset, .unset, .unset, .unset, .unset, .unset, .unset] []))
      refine Goes.of (fun t k => XS.lloadN X0.here hx rfl (hb hby d2_14) rfl k) ?_
      show Goes _ _ _ _ _ _ _ (s₁.setTop (mkF m 15 #[.val (.long q7), .second, .val (.long q8), .second, .unset, .unset, .unset, .unset, .unset, .unset, .unset, .unset, .unset, .unset, .unset, .unset, .unset, .unset] [(.long q8)]))
      refine Goes.of (fun t k => XS.lconst X0.here hx rfl (hb hby d2_15) k) ?_
      show Goes _ _ _ _ _ _ _ (s₁.setTop (mkF m 16 #[.val (.long q7), .second, .val (.long q8), .second, .unset, .unset, .unset, .unset, .unset, .unset, .unset, .unset, .unset, .unset, .unset, .unset, .unset, .unset] [(.long (0 : Int64)), (.long q8)]))
      refine Goes.of (fun t k => XS.lcmp X0.here hx rfl (hb hby d2_16) rfl k) ?_
      show Goes _ _ _ _ _ _ _ (s₁.setTop (mkF m 17 #[.val (.long q7), .second, .val (.long q8), .second, .unset, .unset, .unset, .unset, .unset, .unset, .unset, .unset, .unset, .unset, .unset, .unset, .unset, .unset] [(.int (lcmpW q8 (0 : Int64)))]))
      by_cases hc11 : q8 < (0 : Int64)
      · refine Goes.of (fun t k => XS.ifNo X0.here hx rfl (hb hby d2_17) rfl ((if0 _ _).trans (tlt ((lw_lt _ _).mpr hc11)).2.1) k) ?_
        show Goes _ _ _ _ _ _ _ (s₁.setTop (mkF m 20 #[.val (.long q7), .second, .val (.long q8), .second, .unset, .unset, .unset, .unset, .unset, .unset, .unset, .unset, .unset, .unset, .unset, .unset, .unset, .unset] []))
        refine Goes.of (fun t k => X0.ldc2Long hx hown (mvT hZ (hw _ (List.mem_of_getElem? (i := 0) rfl))) (g := (mkF m 20 #[.val (.long q7), .second, .val (.long q8), .second, .unset, .unset, .unset, .unset, .unset, .unset, .unset, .unset, .unset, .unset, .unset, .unset, .unset, .unset] [])) rfl (hb hby d2_20) t k) ?_
        show Goes _ _ _ _ _ _ _ (s₁.setTop (mkF m 23 #[.val (.long q7), .second, .val (.long q8), .second, .unset, .unset, .unset, .unset, .unset, .unset, .unset, .unset, .unset, .unset, .unset, .unset, .unset, .unset] [(.long (9223372036854775807 : Int64))]))
        exact Goes.fin X0 hlk (v := some (.long (9223372036854775807 : Int64))) (fun h => by rw [Bd.returns] at h; cases h) (fun fs hr => retOut X0 hx Bd.returns (by rfl) (Or.inr (Or.inl ⟨rfl, rfl, _, rfl⟩)) (hb hby d2_23) hr) ⟨congrArg (fun z => some (Value.long z)) (by rw [f2, if_neg hc9, if_neg hc10, if_pos hc11] : (9223372036854775807 : Int64) = f2 q7 q8), N0, e0⟩ (by decide) (by decide)
      · refine Goes.of (fun t k => XS.ifYes X0.here hx rfl (pc0 := 17) (pc' := 24) rfl (hb hby d2_17) rfl ((if0 _ _).trans (flt (fun q => hc11 ((lw_lt _ _).mp q))).2.1) (by decide) (by decide) k) ?_
        show Goes _ _ _ _ _ _ _ (s₁.setTop (mkF m 24 #[.val (.long q7), .second, .val (.long q8), .second, .unset, .unset, .unset, .unset, .unset, .unset, .unset, .unset, .unset, .unset, .unset, .unset, .unset, .unset] []))
        refine Goes.of (fun t k => XS.lloadN X0.here hx rfl (hb hby d2_24) rfl k) ?_
        show Goes _ _ _ _ _ _ _ (s₁.setTop (mkF m 25 #[.val (.long q7), .second, .val (.long q8), .second, .unset, .unset, .unset, .unset, .unset, .unset, .unset, .unset, .unset, .unset, .unset, .unset, .unset, .unset] [(.long q7)]))
        refine Goes.of (fun t k => XS.bipush X0.here hx rfl (hb hby d2_25) k) ?_
        show Goes _ _ _ _ _ _ _ (s₁.setTop (mkF m 27 #[.val (.long q7), .second, .val (.long q8), .second, .unset, .unset, .unset, .unset, .unset, .unset, .unset, .unset, .unset, .unset, .unset, .unset, .unset, .unset] [(.int (32 : Int32)), (.long q7)]))
        refine Goes.of (fun t k => XS.lushr X0.here hx rfl (hb hby d2_27) rfl k) ?_
        show Goes _ _ _ _ _ _ _ (s₁.setTop (mkF m 28 #[.val (.long q7), .second, .val (.long q8), .second, .unset, .unset, .unset, .unset, .unset, .unset, .unset, .unset, .unset, .unset, .unset, .unset, .unset, .unset] [(.long ((q7.toUInt64 >>> ((32 : Int32) &&& 0x3f).toInt64.toUInt64).toInt64))]))
        refine Goes.of (fun t k => XS.lstore X0.here hx rfl (hb hby d2_28) rfl (l' := #[.val (.long q7), .second, .val (.long q8), .second, .val (.long ((q7.toUInt64 >>> ((32 : Int32) &&& 0x3f).toInt64.toUInt64).toInt64)), .second, .unset, .unset, .unset, .unset, .unset, .unset, .unset, .unset, .unset, .unset, .unset, .unset]) rfl k) ?_
        show Goes _ _ _ _ _ _ _ (s₁.setTop (mkF m 30 #[.val (.long q7), .second, .val (.long q8), .second, .val (.long ((q7.toUInt64 >>> ((32 : Int32) &&& 0x3f).toInt64.toUInt64).toInt64)), .second, .unset, .unset, .unset, .unset, .unset, .unset, .unset, .unset, .unset, .unset, .unset, .unset] []))
        refine Goes.of (fun t k => XS.lloadN X0.here hx rfl (hb hby d2_30) rfl k) ?_
        show Goes _ _ _ _ _ _ _ (s₁.setTop (mkF m 31 #[.val (.long q7), .second, .val (.long q8), .second, .val (.long ((q7.toUInt64 >>> ((32 : Int32) &&& 0x3f).toInt64.toUInt64).toInt64)), .second, .unset, .unset, .unset, .unset, .unset, .unset, .unset, .unset, .unset, .unset, .unset, .unset] [(.long q7)]))
        refine Goes.of (fun t k => X0.ldc2Long hx hown (mvT hZ (hw _ (List.mem_of_getElem? (i := 10) rfl))) (g := (mkF m 31 #[.val (.long q7), .second, .val (.long q8), .second, .val (.long ((q7.toUInt64 >>> ((32 : Int32) &&& 0x3f).toInt64.toUInt64).toInt64)), .second, .unset, .unset, .unset, .unset, .unset, .unset, .unset, .unset, .unset, .unset, .unset, .unset] [(.long q7)])) rfl (hb hby d2_31) t k) ?_
        show Goes _ _ _ _ _ _ _ (s₁.setTop (mkF m 34 #[.val (.long q7), .second, .val (.long q8), .second, .val (.long ((q7.toUInt64 >>> ((32 : Int32) &&& 0x3f).toInt64.toUInt64).toInt64)), .second, .unset, .unset, .unset, .unset, .unset, .unset, .unset, .unset, .unset, .unset, .unset, .unset] [(.long (4294967295 : Int64)), (.long q7)]))
        refine Goes.of (fun t k => XS.land X0.here hx rfl (hb hby d2_34) rfl k) ?_
        show Goes _ _ _ _ _ _ _ (s₁.setTop (mkF m 35 #[.val (.long q7), .second, .val (.long q8), .second, .val (.long ((q7.toUInt64 >>> ((32 : Int32) &&& 0x3f).toInt64.toUInt64).toInt64)), .second, .unset, .unset, .unset, .unset, .unset, .unset, .unset, .unset, .unset, .unset, .unset, .unset] [(.long (q7 &&& (4294967295 : Int64)))]))
        refine Goes.of (fun t k => XS.lstore X0.here hx rfl (hb hby d2_35) rfl (l' := #[.val (.long q7), .second, .val (.long q8), .second, .val (.long ((q7.toUInt64 >>> ((32 : Int32) &&& 0x3f).toInt64.toUInt64).toInt64)), .second, .val (.long (q7 &&& (4294967295 : Int64))), .second, .unset, .unset, .unset, .unset, .unset, .unset, .unset, .unset, .unset, .unset]) rfl k) ?_
        show Goes _ _ _ _ _ _ _ (s₁.setTop (mkF m 37 #[.val (.long q7), .second, .val (.long q8), .second, .val (.long ((q7.toUInt64 >>> ((32 : Int32) &&& 0x3f).toInt64.toUInt64).toInt64)), .second, .val (.long (q7 &&& (4294967295 : Int64))), .second, .unset, .unset, .unset, .unset, .unset, .unset, .unset, .unset, .unset, .unset] []))
        refine Goes.of (fun t k => XS.lloadN X0.here hx rfl (hb hby d2_37) rfl k) ?_
        show Goes _ _ _ _ _ _ _ (s₁.setTop (mkF m 38 #[.val (.long q7), .second, .val (.long q8), .second, .val (.long ((q7.toUInt64 >>> ((32 : Int32) &&& 0x3f).toInt64.toUInt64).toInt64)), .second, .val (.long (q7 &&& (4294967295 : Int64))), .second, .unset, .unset, .unset, .unset, .unset, .unset, .unset, .unset, .unset, .unset] [(.long q8)]))
        refine Goes.of (fun t k => XS.bipush X0.here hx rfl (hb hby d2_38) k) ?_
        show Goes _ _ _ _ _ _ _ (s₁.setTop (mkF m 40 #[.val (.long q7), .second, .val (.long q8), .second, .val (.long ((q7.toUInt64 >>> ((32 : Int32) &&& 0x3f).toInt64.toUInt64).toInt64)), .second, .val (.long (q7 &&& (4294967295 : Int64))), .second, .unset, .unset, .unset, .unset, .unset, .unset, .unset, .unset, .unset, .unset] [(.int (32 : Int32)), (.long q8)]))
        refine Goes.of (fun t k => XS.lushr X0.here hx rfl (hb hby d2_40) rfl k) ?_
        show Goes _ _ _ _ _ _ _ (s₁.setTop (mkF m 41 #[.val (.long q7), .second, .val (.long q8), .second, .val (.long ((q7.toUInt64 >>> ((32 : Int32) &&& 0x3f).toInt64.toUInt64).toInt64)), .second, .val (.long (q7 &&& (4294967295 : Int64))), .second, .unset, .unset, .unset, .unset, .unset, .unset, .unset, .unset, .unset, .unset] [(.long ((q8.toUInt64 >>> ((32 : Int32) &&& 0x3f).toInt64.toUInt64).toInt64))]))
        refine Goes.of (fun t k => XS.lstore X0.here hx rfl (hb hby d2_41) rfl (l' := #[.val (.long q7), .second, .val (.long q8), .second, .val (.long ((q7.toUInt64 >>> ((32 : Int32) &&& 0x3f).toInt64.toUInt64).toInt64)), .second, .val (.long (q7 &&& (4294967295 : Int64))), .second, .val (.long ((q8.toUInt64 >>> ((32 : Int32) &&& 0x3f).toInt64.toUInt64).toInt64)), .second, .unset, .unset, .unset, .unset, .unset, .unset, .unset, .unset]) rfl k) ?_
        show Goes _ _ _ _ _ _ _ (s₁.setTop (mkF m 43 #[.val (.long q7), .second, .val (.long q8), .second, .val (.long ((q7.toUInt64 >>> ((32 : Int32) &&& 0x3f).toInt64.toUInt64).toInt64)), .second, .val (.long (q7 &&& (4294967295 : Int64))), .second, .val (.long ((q8.toUInt64 >>> ((32 : Int32) &&& 0x3f).toInt64.toUInt64).toInt64)), .second, .unset, .unset, .unset, .unset, .unset, .unset, .unset, .unset] []))
        refine Goes.of (fun t k => XS.lloadN X0.here hx rfl (hb hby d2_43) rfl k) ?_
        show Goes _ _ _ _ _ _ _ (s₁.setTop (mkF m 44 #[.val (.long q7), .second, .val (.long q8), .second, .val (.long ((q7.toUInt64 >>> ((32 : Int32) &&& 0x3f).toInt64.toUInt64).toInt64)), .second, .val (.long (q7 &&& (4294967295 : Int64))), .second, .val (.long ((q8.toUInt64 >>> ((32 : Int32) &&& 0x3f).toInt64.toUInt64).toInt64)), .second, .unset, .unset, .unset, .unset, .unset, .unset, .unset, .unset] [(.long q8)]))
        refine Goes.of (fun t k => X0.ldc2Long hx hown (mvT hZ (hw _ (List.mem_of_getElem? (i := 10) rfl))) (g := (mkF m 44 #[.val (.long q7), .second, .val (.long q8), .second, .val (.long ((q7.toUInt64 >>> ((32 : Int32) &&& 0x3f).toInt64.toUInt64).toInt64)), .second, .val (.long (q7 &&& (4294967295 : Int64))), .second, .val (.long ((q8.toUInt64 >>> ((32 : Int32) &&& 0x3f).toInt64.toUInt64).toInt64)), .second, .unset, .unset, .unset, .unset, .unset, .unset, .unset, .unset] [(.long q8)])) rfl (hb hby d2_44) t k) ?_
        show Goes _ _ _ _ _ _ _ (s₁.setTop (mkF m 47 #[.val (.long q7), .second, .val (.long q8), .second, .val (.long ((q7.toUInt64 >>> ((32 : Int32) &&& 0x3f).toInt64.toUInt64).toInt64)), .second, .val (.long (q7 &&& (4294967295 : Int64))), .second, .val (.long ((q8.toUInt64 >>> ((32 : Int32) &&& 0x3f).toInt64.toUInt64).toInt64)), .second, .unset, .unset, .unset, .unset, .unset, .unset, .unset, .unset] [(.long (4294967295 : Int64)), (.long q8)]))
        refine Goes.of (fun t k => XS.land X0.here hx rfl (hb hby d2_47) rfl k) ?_
        show Goes _ _ _ _ _ _ _ (s₁.setTop (mkF m 48 #[.val (.long q7), .second, .val (.long q8), .second, .val (.long ((q7.toUInt64 >>> ((32 : Int32) &&& 0x3f).toInt64.toUInt64).toInt64)), .second, .val (.long (q7 &&& (4294967295 : Int64))), .second, .val (.long ((q8.toUInt64 >>> ((32 : Int32) &&& 0x3f).toInt64.toUInt64).toInt64)), .second, .unset, .unset, .unset, .unset, .unset, .unset, .unset, .unset] [(.long (q8 &&& (4294967295 : Int64)))]))
        refine Goes.of (fun t k => XS.lstore X0.here hx rfl (hb hby d2_48) rfl (l' := #[.val (.long q7), .second, .val (.long q8), .second, .val (.long ((q7.toUInt64 >>> ((32 : Int32) &&& 0x3f).toInt64.toUInt64).toInt64)), .second, .val (.long (q7 &&& (4294967295 : Int64))), .second, .val (.long ((q8.toUInt64 >>> ((32 : Int32) &&& 0x3f).toInt64.toUInt64).toInt64)), .second, .val (.long (q8 &&& (4294967295 : Int64))), .second, .unset, .unset, .unset, .unset, .unset, .unset]) rfl k) ?_
        show Goes _ _ _ _ _ _ _ (s₁.setTop (mkF m 50 #[.val (.long q7), .second, .val (.long q8), .second, .val (.long ((q7.toUInt64 >>> ((32 : Int32) &&& 0x3f).toInt64.toUInt64).toInt64)), .second, .val (.long (q7 &&& (4294967295 : Int64))), .second, .val (.long ((q8.toUInt64 >>> ((32 : Int32) &&& 0x3f).toInt64.toUInt64).toInt64)), .second, .val (.long (q8 &&& (4294967295 : Int64))), .second, .unset, .unset, .unset, .unset, .unset, .unset] []))
        refine Goes.of (fun t k => XS.lload X0.here hx rfl (hb hby d2_50) rfl k) ?_
        show Goes _ _ _ _ _ _ _ (s₁.setTop (mkF m 52 #[.val (.long q7), .second, .val (.long q8), .second, .val (.long ((q7.toUInt64 >>> ((32 : Int32) &&& 0x3f).toInt64.toUInt64).toInt64)), .second, .val (.long (q7 &&& (4294967295 : Int64))), .second, .val (.long ((q8.toUInt64 >>> ((32 : Int32) &&& 0x3f).toInt64.toUInt64).toInt64)), .second, .val (.long (q8 &&& (4294967295 : Int64))), .second, .unset, .unset, .unset, .unset, .unset, .unset] [(.long ((q7.toUInt64 >>> ((32 : Int32) &&& 0x3f).toInt64.toUInt64).toInt64))]))
        refine Goes.of (fun t k => XS.lconst X0.here hx rfl (hb hby d2_52) k) ?_
        show Goes _ _ _ _ _ _ _ (s₁.setTop (mkF m 53 #[.val (.long q7), .second, .val (.long q8), .second, .val (.long ((q7.toUInt64 >>> ((32 : Int32) &&& 0x3f).toInt64.toUInt64).toInt64)), .second, .val (.long (q7 &&& (4294967295 : Int64))), .second, .val (.long ((q8.toUInt64 >>> ((32 : Int32) &&& 0x3f).toInt64.toUInt64).toInt64)), .second, .val (.long (q8 &&& (4294967295 : Int64))), .second, .unset, .unset, .unset, .unset, .unset, .unset] [(.long (0 : Int64)), (.long ((q7.toUInt64 >>> ((32 : Int32) &&& 0x3f).toInt64.toUInt64).toInt64))]))
        refine Goes.of (fun t k => XS.lcmp X0.here hx rfl (hb hby d2_53) rfl k) ?_
        show Goes _ _ _ _ _ _ _ (s₁.setTop (mkF m 54 #[.val (.long q7), .second, .val (.long q8), .second, .val (.long ((q7.toUInt64 >>> ((32 : Int32) &&& 0x3f).toInt64.toUInt64).toInt64)), .second, .val (.long (q7 &&& (4294967295 : Int64))), .second, .val (.long ((q8.toUInt64 >>> ((32 : Int32) &&& 0x3f).toInt64.toUInt64).toInt64)), .second, .val (.long (q8 &&& (4294967295 : Int64))), .second, .unset, .unset, .unset, .unset, .unset, .unset] [(.int (lcmpW ((q7.toUInt64 >>> ((32 : Int32) &&& 0x3f).toInt64.toUInt64).toInt64) (0 : Int64)))]))
        by_cases hc12 : ((q7.toUInt64 >>> ((32 : Int32) &&& 0x3f).toInt64.toUInt64).toInt64) = (0 : Int64)
        · refine Goes.of (fun t k => XS.ifYes X0.here hx rfl (pc0 := 54) (pc' := 68) rfl (hb hby d2_54) rfl ((if0 _ _).trans (teq ((lw_eq _ _).mpr hc12)).1) (by decide) (by decide) k) ?_
          show Goes _ _ _ _ _ _ _ (s₁.setTop (mkF m 68 #[.val (.long q7), .second, .val (.long q8), .second, .val (.long ((q7.toUInt64 >>> ((32 : Int32) &&& 0x3f).toInt64.toUInt64).toInt64)), .second, .val (.long (q7 &&& (4294967295 : Int64))), .second, .val (.long ((q8.toUInt64 >>> ((32 : Int32) &&& 0x3f).toInt64.toUInt64).toInt64)), .second, .val (.long (q8 &&& (4294967295 : Int64))), .second, .unset, .unset, .unset, .unset, .unset, .unset] []))
          refine Goes.of (fun t k => XS.lload X0.here hx rfl (hb hby d2_68) rfl k) ?_
          show Goes _ _ _ _ _ _ _ (s₁.setTop (mkF m 70 #[.val (.long q7), .second, .val (.long q8), .second, .val (.long ((q7.toUInt64 >>> ((32 : Int32) &&& 0x3f).toInt64.toUInt64).toInt64)), .second, .val (.long (q7 &&& (4294967295 : Int64))), .second, .val (.long ((q8.toUInt64 >>> ((32 : Int32) &&& 0x3f).toInt64.toUInt64).toInt64)), .second, .val (.long (q8 &&& (4294967295 : Int64))), .second, .unset, .unset, .unset, .unset, .unset, .unset] [(.long ((q7.toUInt64 >>> ((32 : Int32) &&& 0x3f).toInt64.toUInt64).toInt64))]))
          refine Goes.of (fun t k => XS.lload X0.here hx rfl (hb hby d2_70) rfl k) ?_
          show Goes _ _ _ _ _ _ _ (s₁.setTop (mkF m 72 #[.val (.long q7), .second, .val (.long q8), .second, .val (.long ((q7.toUInt64 >>> ((32 : Int32) &&& 0x3f).toInt64.toUInt64).toInt64)), .second, .val (.long (q7 &&& (4294967295 : Int64))), .second, .val (.long ((q8.toUInt64 >>> ((32 : Int32) &&& 0x3f).toInt64.toUInt64).toInt64)), .second, .val (.long (q8 &&& (4294967295 : Int64))), .second, .unset, .unset, .unset, .unset, .unset, .unset] [(.long (q8 &&& (4294967295 : Int64))), (.long ((q7.toUInt64 >>> ((32 : Int32) &&& 0x3f).toInt64.toUInt64).toInt64))]))
          refine Goes.of (fun t k => XS.lmul X0.here hx rfl (hb hby d2_72) rfl k) ?_
          show Goes _ _ _ _ _ _ _ (s₁.setTop (mkF m 73 #[.val (.long q7), .second, .val (.long q8), .second, .val (.long ((q7.toUInt64 >>> ((32 : Int32) &&& 0x3f).toInt64.toUInt64).toInt64)), .second, .val (.long (q7 &&& (4294967295 : Int64))), .second, .val (.long ((q8.toUInt64 >>> ((32 : Int32) &&& 0x3f).toInt64.toUInt64).toInt64)), .second, .val (.long (q8 &&& (4294967295 : Int64))), .second, .unset, .unset, .unset, .unset, .unset, .unset] [(.long (((q7.toUInt64 >>> ((32 : Int32) &&& 0x3f).toInt64.toUInt64).toInt64) * (q8 &&& (4294967295 : Int64))))]))
          refine Goes.of (fun t k => XS.lload X0.here hx rfl (hb hby d2_73) rfl k) ?_
          show Goes _ _ _ _ _ _ _ (s₁.setTop (mkF m 75 #[.val (.long q7), .second, .val (.long q8), .second, .val (.long ((q7.toUInt64 >>> ((32 : Int32) &&& 0x3f).toInt64.toUInt64).toInt64)), .second, .val (.long (q7 &&& (4294967295 : Int64))), .second, .val (.long ((q8.toUInt64 >>> ((32 : Int32) &&& 0x3f).toInt64.toUInt64).toInt64)), .second, .val (.long (q8 &&& (4294967295 : Int64))), .second, .unset, .unset, .unset, .unset, .unset, .unset] [(.long (q7 &&& (4294967295 : Int64))), (.long (((q7.toUInt64 >>> ((32 : Int32) &&& 0x3f).toInt64.toUInt64).toInt64) * (q8 &&& (4294967295 : Int64))))]))
          refine Goes.of (fun t k => XS.lload X0.here hx rfl (hb hby d2_75) rfl k) ?_
          show Goes _ _ _ _ _ _ _ (s₁.setTop (mkF m 77 #[.val (.long q7), .second, .val (.long q8), .second, .val (.long ((q7.toUInt64 >>> ((32 : Int32) &&& 0x3f).toInt64.toUInt64).toInt64)), .second, .val (.long (q7 &&& (4294967295 : Int64))), .second, .val (.long ((q8.toUInt64 >>> ((32 : Int32) &&& 0x3f).toInt64.toUInt64).toInt64)), .second, .val (.long (q8 &&& (4294967295 : Int64))), .second, .unset, .unset, .unset, .unset, .unset, .unset] [(.long ((q8.toUInt64 >>> ((32 : Int32) &&& 0x3f).toInt64.toUInt64).toInt64)), (.long (q7 &&& (4294967295 : Int64))), (.long (((q7.toUInt64 >>> ((32 : Int32) &&& 0x3f).toInt64.toUInt64).toInt64) * (q8 &&& (4294967295 : Int64))))]))
          refine Goes.of (fun t k => XS.lmul X0.here hx rfl (hb hby d2_77) rfl k) ?_
          show Goes _ _ _ _ _ _ _ (s₁.setTop (mkF m 78 #[.val (.long q7), .second, .val (.long q8), .second, .val (.long ((q7.toUInt64 >>> ((32 : Int32) &&& 0x3f).toInt64.toUInt64).toInt64)), .second, .val (.long (q7 &&& (4294967295 : Int64))), .second, .val (.long ((q8.toUInt64 >>> ((32 : Int32) &&& 0x3f).toInt64.toUInt64).toInt64)), .second, .val (.long (q8 &&& (4294967295 : Int64))), .second, .unset, .unset, .unset, .unset, .unset, .unset] [(.long ((q7 &&& (4294967295 : Int64)) * ((q8.toUInt64 >>> ((32 : Int32) &&& 0x3f).toInt64.toUInt64).toInt64))), (.long (((q7.toUInt64 >>> ((32 : Int32) &&& 0x3f).toInt64.toUInt64).toInt64) * (q8 &&& (4294967295 : Int64))))]))
          refine Goes.of (fun t k => XS.ladd X0.here hx rfl (hb hby d2_78) rfl k) ?_
          show Goes _ _ _ _ _ _ _ (s₁.setTop (mkF m 79 #[.val (.long q7), .second, .val (.long q8), .second, .val (.long ((q7.toUInt64 >>> ((32 : Int32) &&& 0x3f).toInt64.toUInt64).toInt64)), .second, .val (.long (q7 &&& (4294967295 : Int64))), .second, .val (.long ((q8.toUInt64 >>> ((32 : Int32) &&& 0x3f).toInt64.toUInt64).toInt64)), .second, .val (.long (q8 &&& (4294967295 : Int64))), .second, .unset, .unset, .unset, .unset, .unset, .unset] [(.long ((((q7.toUInt64 >>> ((32 : Int32) &&& 0x3f).toInt64.toUInt64).toInt64) * (q8 &&& (4294967295 : Int64))) + ((q7 &&& (4294967295 : Int64)) * ((q8.toUInt64 >>> ((32 : Int32) &&& 0x3f).toInt64.toUInt64).toInt64))))]))
          refine Goes.of (fun t k => XS.lstore X0.here hx rfl (hb hby d2_79) rfl (l' := #[.val (.long q7), .second, .val (.long q8), .second, .val (.long ((q7.toUInt64 >>> ((32 : Int32) &&& 0x3f).toInt64.toUInt64).toInt64)), .second, .val (.long (q7 &&& (4294967295 : Int64))), .second, .val (.long ((q8.toUInt64 >>> ((32 : Int32) &&& 0x3f).toInt64.toUInt64).toInt64)), .second, .val (.long (q8 &&& (4294967295 : Int64))), .second, .val (.long ((((q7.toUInt64 >>> ((32 : Int32) &&& 0x3f).toInt64.toUInt64).toInt64) * (q8 &&& (4294967295 : Int64))) + ((q7 &&& (4294967295 : Int64)) * ((q8.toUInt64 >>> ((32 : Int32) &&& 0x3f).toInt64.toUInt64).toInt64)))), .second, .unset, .unset, .unset, .unset]) rfl k) ?_
          show Goes _ _ _ _ _ _ _ (s₁.setTop (mkF m 81 #[.val (.long q7), .second, .val (.long q8), .second, .val (.long ((q7.toUInt64 >>> ((32 : Int32) &&& 0x3f).toInt64.toUInt64).toInt64)), .second, .val (.long (q7 &&& (4294967295 : Int64))), .second, .val (.long ((q8.toUInt64 >>> ((32 : Int32) &&& 0x3f).toInt64.toUInt64).toInt64)), .second, .val (.long (q8 &&& (4294967295 : Int64))), .second, .val (.long ((((q7.toUInt64 >>> ((32 : Int32) &&& 0x3f).toInt64.toUInt64).toInt64) * (q8 &&& (4294967295 : Int64))) + ((q7 &&& (4294967295 : Int64)) * ((q8.toUInt64 >>> ((32 : Int32) &&& 0x3f).toInt64.toUInt64).toInt64)))), .second, .unset, .unset, .unset, .unset] []))
          refine Goes.of (fun t k => XS.lload X0.here hx rfl (hb hby d2_81) rfl k) ?_
          show Goes _ _ _ _ _ _ _ (s₁.setTop (mkF m 83 #[.val (.long q7), .second, .val (.long q8), .second, .val (.long ((q7.toUInt64 >>> ((32 : Int32) &&& 0x3f).toInt64.toUInt64).toInt64)), .second, .val (.long (q7 &&& (4294967295 : Int64))), .second, .val (.long ((q8.toUInt64 >>> ((32 : Int32) &&& 0x3f).toInt64.toUInt64).toInt64)), .second, .val (.long (q8 &&& (4294967295 : Int64))), .second, .val (.long ((((q7.toUInt64 >>> ((32 : Int32) &&& 0x3f).toInt64.toUInt64).toInt64) * (q8 &&& (4294967295 : Int64))) + ((q7 &&& (4294967295 : Int64)) * ((q8.toUInt64 >>> ((32 : Int32) &&& 0x3f).toInt64.toUInt64).toInt64)))), .second, .unset, .unset, .unset, .unset] [(.long ((((q7.toUInt64 >>> ((32 : Int32) &&& 0x3f).toInt64.toUInt64).toInt64) * (q8 &&& (4294967295 : Int64))) + ((q7 &&& (4294967295 : Int64)) * ((q8.toUInt64 >>> ((32 : Int32) &&& 0x3f).toInt64.toUInt64).toInt64))))]))
          refine Goes.of (fun t k => X0.ldc2Long hx hown (mvT hZ (hw _ (List.mem_of_getElem? (i := 11) rfl))) (g := (mkF m 83 #[.val (.long q7), .second, .val (.long q8), .second, .val (.long ((q7.toUInt64 >>> ((32 : Int32) &&& 0x3f).toInt64.toUInt64).toInt64)), .second, .val (.long (q7 &&& (4294967295 : Int64))), .second, .val (.long ((q8.toUInt64 >>> ((32 : Int32) &&& 0x3f).toInt64.toUInt64).toInt64)), .second, .val (.long (q8 &&& (4294967295 : Int64))), .second, .val (.long ((((q7.toUInt64 >>> ((32 : Int32) &&& 0x3f).toInt64.toUInt64).toInt64) * (q8 &&& (4294967295 : Int64))) + ((q7 &&& (4294967295 : Int64)) * ((q8.toUInt64 >>> ((32 : Int32) &&& 0x3f).toInt64.toUInt64).toInt64)))), .second, .unset, .unset, .unset, .unset] [(.long ((((q7.toUInt64 >>> ((32 : Int32) &&& 0x3f).toInt64.toUInt64).toInt64) * (q8 &&& (4294967295 : Int64))) + ((q7 &&& (4294967295 : Int64)) * ((q8.toUInt64 >>> ((32 : Int32) &&& 0x3f).toInt64.toUInt64).toInt64))))])) rfl (hb hby d2_83) t k) ?_
          show Goes _ _ _ _ _ _ _ (s₁.setTop (mkF m 86 #[.val (.long q7), .second, .val (.long q8), .second, .val (.long ((q7.toUInt64 >>> ((32 : Int32) &&& 0x3f).toInt64.toUInt64).toInt64)), .second, .val (.long (q7 &&& (4294967295 : Int64))), .second, .val (.long ((q8.toUInt64 >>> ((32 : Int32) &&& 0x3f).toInt64.toUInt64).toInt64)), .second, .val (.long (q8 &&& (4294967295 : Int64))), .second, .val (.long ((((q7.toUInt64 >>> ((32 : Int32) &&& 0x3f).toInt64.toUInt64).toInt64) * (q8 &&& (4294967295 : Int64))) + ((q7 &&& (4294967295 : Int64)) * ((q8.toUInt64 >>> ((32 : Int32) &&& 0x3f).toInt64.toUInt64).toInt64)))), .second, .unset, .unset, .unset, .unset] [(.long (2147483647 : Int64)), (.long ((((q7.toUInt64 >>> ((32 : Int32) &&& 0x3f).toInt64.toUInt64).toInt64) * (q8 &&& (4294967295 : Int64))) + ((q7 &&& (4294967295 : Int64)) * ((q8.toUInt64 >>> ((32 : Int32) &&& 0x3f).toInt64.toUInt64).toInt64))))]))
          refine Goes.of (fun t k => XS.lcmp X0.here hx rfl (hb hby d2_86) rfl k) ?_
          show Goes _ _ _ _ _ _ _ (s₁.setTop (mkF m 87 #[.val (.long q7), .second, .val (.long q8), .second, .val (.long ((q7.toUInt64 >>> ((32 : Int32) &&& 0x3f).toInt64.toUInt64).toInt64)), .second, .val (.long (q7 &&& (4294967295 : Int64))), .second, .val (.long ((q8.toUInt64 >>> ((32 : Int32) &&& 0x3f).toInt64.toUInt64).toInt64)), .second, .val (.long (q8 &&& (4294967295 : Int64))), .second, .val (.long ((((q7.toUInt64 >>> ((32 : Int32) &&& 0x3f).toInt64.toUInt64).toInt64) * (q8 &&& (4294967295 : Int64))) + ((q7 &&& (4294967295 : Int64)) * ((q8.toUInt64 >>> ((32 : Int32) &&& 0x3f).toInt64.toUInt64).toInt64)))), .second, .unset, .unset, .unset, .unset] [(.int (lcmpW ((((q7.toUInt64 >>> ((32 : Int32) &&& 0x3f).toInt64.toUInt64).toInt64) * (q8 &&& (4294967295 : Int64))) + ((q7 &&& (4294967295 : Int64)) * ((q8.toUInt64 >>> ((32 : Int32) &&& 0x3f).toInt64.toUInt64).toInt64))) (2147483647 : Int64)))]))
          by_cases hc13 : (2147483647 : Int64) < ((((q7.toUInt64 >>> ((32 : Int32) &&& 0x3f).toInt64.toUInt64).toInt64) * (q8 &&& (4294967295 : Int64))) + ((q7 &&& (4294967295 : Int64)) * ((q8.toUInt64 >>> ((32 : Int32) &&& 0x3f).toInt64.toUInt64).toInt64)))
          · refine Goes.of (fun t k => XS.ifNo X0.here hx rfl (hb hby d2_87) rfl ((if0 _ _).trans (tlt ((lw_gt _ _).mpr hc13)).2.2.2) k) ?_
            show Goes _ _ _ _ _ _ _ (s₁.setTop (mkF m 90 #[.val (.long q7), .second, .val (.long q8), .second, .val (.long ((q7.toUInt64 >>> ((32 : Int32) &&& 0x3f).toInt64.toUInt64).toInt64)), .second, .val (.long (q7 &&& (4294967295 : Int64))), .second, .val (.long ((q8.toUInt64 >>> ((32 : Int32) &&& 0x3f).toInt64.toUInt64).toInt64)), .second, .val (.long (q8 &&& (4294967295 : Int64))), .second, .val (.long ((((q7.toUInt64 >>> ((32 : Int32) &&& 0x3f).toInt64.toUInt64).toInt64) * (q8 &&& (4294967295 : Int64))) + ((q7 &&& (4294967295 : Int64)) * ((q8.toUInt64 >>> ((32 : Int32) &&& 0x3f).toInt64.toUInt64).toInt64)))), .second, .unset, .unset, .unset, .unset] []))
            refine Goes.of (fun t k => X0.ldc2Long hx hown (mvT hZ (hw _ (List.mem_of_getElem? (i := 0) rfl))) (g := (mkF m 90 #[.val (.long q7), .second, .val (.long q8), .second, .val (.long ((q7.toUInt64 >>> ((32 : Int32) &&& 0x3f).toInt64.toUInt64).toInt64)), .second, .val (.long (q7 &&& (4294967295 : Int64))), .second, .val (.long ((q8.toUInt64 >>> ((32 : Int32) &&& 0x3f).toInt64.toUInt64).toInt64)), .second, .val (.long (q8 &&& (4294967295 : Int64))), .second, .val (.long ((((q7.toUInt64 >>> ((32 : Int32) &&& 0x3f).toInt64.toUInt64).toInt64) * (q8 &&& (4294967295 : Int64))) + ((q7 &&& (4294967295 : Int64)) * ((q8.toUInt64 >>> ((32 : Int32) &&& 0x3f).toInt64.toUInt64).toInt64)))), .second, .unset, .unset, .unset, .unset] [])) rfl (hb hby d2_90) t k) ?_
            show Goes _ _ _ _ _ _ _ (s₁.setTop (mkF m 93 #[.val (.long q7), .second, .val (.long q8), .second, .val (.long ((q7.toUInt64 >>> ((32 : Int32) &&& 0x3f).toInt64.toUInt64).toInt64)), .second, .val (.long (q7 &&& (4294967295 : Int64))), .second, .val (.long ((q8.toUInt64 >>> ((32 : Int32) &&& 0x3f).toInt64.toUInt64).toInt64)), .second, .val (.long (q8 &&& (4294967295 : Int64))), .second, .val (.long ((((q7.toUInt64 >>> ((32 : Int32) &&& 0x3f).toInt64.toUInt64).toInt64) * (q8 &&& (4294967295 : Int64))) + ((q7 &&& (4294967295 : Int64)) * ((q8.toUInt64 >>> ((32 : Int32) &&& 0x3f).toInt64.toUInt64).toInt64)))), .second, .unset, .unset, .unset, .unset] [(.long (9223372036854775807 : Int64))]))
            exact Goes.fin X0 hlk (v := some (.long (9223372036854775807 : Int64))) (fun h => by rw [Bd.returns] at h; cases h) (fun fs hr => retOut X0 hx Bd.returns (by rfl) (Or.inr (Or.inl ⟨rfl, rfl, _, rfl⟩)) (hb hby d2_93) hr) ⟨congrArg (fun z => some (Value.long z)) (by rw [f2, if_neg hc9, if_neg hc10, if_neg hc11, if_pos hc12, if_pos hc13] : (9223372036854775807 : Int64) = f2 q7 q8), N0, e0⟩ (by decide) (by decide)
          · refine Goes.of (fun t k => XS.ifYes X0.here hx rfl (pc0 := 87) (pc' := 94) rfl (hb hby d2_87) rfl ((if0 _ _).trans (flt (fun q => hc13 ((lw_gt _ _).mp q))).2.2.2) (by decide) (by decide) k) ?_
            show Goes _ _ _ _ _ _ _ (s₁.setTop (mkF m 94 #[.val (.long q7), .second, .val (.long q8), .second, .val (.long ((q7.toUInt64 >>> ((32 : Int32) &&& 0x3f).toInt64.toUInt64).toInt64)), .second, .val (.long (q7 &&& (4294967295 : Int64))), .second, .val (.long ((q8.toUInt64 >>> ((32 : Int32) &&& 0x3f).toInt64.toUInt64).toInt64)), .second, .val (.long (q8 &&& (4294967295 : Int64))), .second, .val (.long ((((q7.toUInt64 >>> ((32 : Int32) &&& 0x3f).toInt64.toUInt64).toInt64) * (q8 &&& (4294967295 : Int64))) + ((q7 &&& (4294967295 : Int64)) * ((q8.toUInt64 >>> ((32 : Int32) &&& 0x3f).toInt64.toUInt64).toInt64)))), .second, .unset, .unset, .unset, .unset] []))
            refine Goes.of (fun t k => XS.lload X0.here hx rfl (hb hby d2_94) rfl k) ?_
            show Goes _ _ _ _ _ _ _ (s₁.setTop (mkF m 96 #[.val (.long q7), .second, .val (.long q8), .second, .val (.long ((q7.toUInt64 >>> ((32 : Int32) &&& 0x3f).toInt64.toUInt64).toInt64)), .second, .val (.long (q7 &&& (4294967295 : Int64))), .second, .val (.long ((q8.toUInt64 >>> ((32 : Int32) &&& 0x3f).toInt64.toUInt64).toInt64)), .second, .val (.long (q8 &&& (4294967295 : Int64))), .second, .val (.long ((((q7.toUInt64 >>> ((32 : Int32) &&& 0x3f).toInt64.toUInt64).toInt64) * (q8 &&& (4294967295 : Int64))) + ((q7 &&& (4294967295 : Int64)) * ((q8.toUInt64 >>> ((32 : Int32) &&& 0x3f).toInt64.toUInt64).toInt64)))), .second, .unset, .unset, .unset, .unset] [(.long (q7 &&& (4294967295 : Int64)))]))
            refine Goes.of (fun t k => XS.lload X0.here hx rfl (hb hby d2_96) rfl k) ?_
            show Goes _ _ _ _ _ _ _ (s₁.setTop (mkF m 98 #[.val (.long q7), .second, .val (.long q8), .second, .val (.long ((q7.toUInt64 >>> ((32 : Int32) &&& 0x3f).toInt64.toUInt64).toInt64)), .second, .val (.long (q7 &&& (4294967295 : Int64))), .second, .val (.long ((q8.toUInt64 >>> ((32 : Int32) &&& 0x3f).toInt64.toUInt64).toInt64)), .second, .val (.long (q8 &&& (4294967295 : Int64))), .second, .val (.long ((((q7.toUInt64 >>> ((32 : Int32) &&& 0x3f).toInt64.toUInt64).toInt64) * (q8 &&& (4294967295 : Int64))) + ((q7 &&& (4294967295 : Int64)) * ((q8.toUInt64 >>> ((32 : Int32) &&& 0x3f).toInt64.toUInt64).toInt64)))), .second, .unset, .unset, .unset, .unset] [(.long (q8 &&& (4294967295 : Int64))), (.long (q7 &&& (4294967295 : Int64)))]))
            refine Goes.of (fun t k => XS.lmul X0.here hx rfl (hb hby d2_98) rfl k) ?_
            show Goes _ _ _ _ _ _ _ (s₁.setTop (mkF m 99 #[.val (.long q7), .second, .val (.long q8), .second, .val (.long ((q7.toUInt64 >>> ((32 : Int32) &&& 0x3f).toInt64.toUInt64).toInt64)), .second, .val (.long (q7 &&& (4294967295 : Int64))), .second, .val (.long ((q8.toUInt64 >>> ((32 : Int32) &&& 0x3f).toInt64.toUInt64).toInt64)), .second, .val (.long (q8 &&& (4294967295 : Int64))), .second, .val (.long ((((q7.toUInt64 >>> ((32 : Int32) &&& 0x3f).toInt64.toUInt64).toInt64) * (q8 &&& (4294967295 : Int64))) + ((q7 &&& (4294967295 : Int64)) * ((q8.toUInt64 >>> ((32 : Int32) &&& 0x3f).toInt64.toUInt64).toInt64)))), .second, .unset, .unset, .unset, .unset] [(.long ((q7 &&& (4294967295 : Int64)) * (q8 &&& (4294967295 : Int64))))]))
            refine Goes.of (fun t k => XS.lstore X0.here hx rfl (hb hby d2_99) rfl (l' := #[.val (.long q7), .second, .val (.long q8), .second, .val (.long ((q7.toUInt64 >>> ((32 : Int32) &&& 0x3f).toInt64.toUInt64).toInt64)), .second, .val (.long (q7 &&& (4294967295 : Int64))), .second, .val (.long ((q8.toUInt64 >>> ((32 : Int32) &&& 0x3f).toInt64.toUInt64).toInt64)), .second, .val (.long (q8 &&& (4294967295 : Int64))), .second, .val (.long ((((q7.toUInt64 >>> ((32 : Int32) &&& 0x3f).toInt64.toUInt64).toInt64) * (q8 &&& (4294967295 : Int64))) + ((q7 &&& (4294967295 : Int64)) * ((q8.toUInt64 >>> ((32 : Int32) &&& 0x3f).toInt64.toUInt64).toInt64)))), .second, .val (.long ((q7 &&& (4294967295 : Int64)) * (q8 &&& (4294967295 : Int64)))), .second, .unset, .unset]) rfl k) ?_
            show Goes _ _ _ _ _ _ _ (s₁.setTop (mkF m 101 #[.val (.long q7), .second, .val (.long q8), .second, .val (.long ((q7.toUInt64 >>> ((32 : Int32) &&& 0x3f).toInt64.toUInt64).toInt64)), .second, .val (.long (q7 &&& (4294967295 : Int64))), .second, .val (.long ((q8.toUInt64 >>> ((32 : Int32) &&& 0x3f).toInt64.toUInt64).toInt64)), .second, .val (.long (q8 &&& (4294967295 : Int64))), .second, .val (.long ((((q7.toUInt64 >>> ((32 : Int32) &&& 0x3f).toInt64.toUInt64).toInt64) * (q8 &&& (4294967295 : Int64))) + ((q7 &&& (4294967295 : Int64)) * ((q8.toUInt64 >>> ((32 : Int32) &&& 0x3f).toInt64.toUInt64).toInt64)))), .second, .val (.long ((q7 &&& (4294967295 : Int64)) * (q8 &&& (4294967295 : Int64)))), .second, .unset, .unset] []))
            refine Goes.of (fun t k => XS.lload X0.here hx rfl (hb hby d2_101) rfl k) ?_
            show Goes _ _ _ _ _ _ _ (s₁.setTop (mkF m 103 #[.val (.long q7), .second, .val (.long q8), .second, .val (.long ((q7.toUInt64 >>> ((32 : Int32) &&& 0x3f).toInt64.toUInt64).toInt64)), .second, .val (.long (q7 &&& (4294967295 : Int64))), .second, .val (.long ((q8.toUInt64 >>> ((32 : Int32) &&& 0x3f).toInt64.toUInt64).toInt64)), .second, .val (.long (q8 &&& (4294967295 : Int64))), .second, .val (.long ((((q7.toUInt64 >>> ((32 : Int32) &&& 0x3f).toInt64.toUInt64).toInt64) * (q8 &&& (4294967295 : Int64))) + ((q7 &&& (4294967295 : Int64)) * ((q8.toUInt64 >>> ((32 : Int32) &&& 0x3f).toInt64.toUInt64).toInt64)))), .second, .val (.long ((q7 &&& (4294967295 : Int64)) * (q8 &&& (4294967295 : Int64)))), .second, .unset, .unset] [(.long ((q7 &&& (4294967295 : Int64)) * (q8 &&& (4294967295 : Int64))))]))
            refine Goes.of (fun t k => XS.lconst X0.here hx rfl (hb hby d2_103) k) ?_
            show Goes _ _ _ _ _ _ _ (s₁.setTop (mkF m 104 #[.val (.long q7), .second, .val (.long q8), .second, .val (.long ((q7.toUInt64 >>> ((32 : Int32) &&& 0x3f).toInt64.toUInt64).toInt64)), .second, .val (.long (q7 &&& (4294967295 : Int64))), .second, .val (.long ((q8.toUInt64 >>> ((32 : Int32) &&& 0x3f).toInt64.toUInt64).toInt64)), .second, .val (.long (q8 &&& (4294967295 : Int64))), .second, .val (.long ((((q7.toUInt64 >>> ((32 : Int32) &&& 0x3f).toInt64.toUInt64).toInt64) * (q8 &&& (4294967295 : Int64))) + ((q7 &&& (4294967295 : Int64)) * ((q8.toUInt64 >>> ((32 : Int32) &&& 0x3f).toInt64.toUInt64).toInt64)))), .second, .val (.long ((q7 &&& (4294967295 : Int64)) * (q8 &&& (4294967295 : Int64)))), .second, .unset, .unset] [(.long (0 : Int64)), (.long ((q7 &&& (4294967295 : Int64)) * (q8 &&& (4294967295 : Int64))))]))
            refine Goes.of (fun t k => XS.lcmp X0.here hx rfl (hb hby d2_104) rfl k) ?_
            show Goes _ _ _ _ _ _ _ (s₁.setTop (mkF m 105 #[.val (.long q7), .second, .val (.long q8), .second, .val (.long ((q7.toUInt64 >>> ((32 : Int32) &&& 0x3f).toInt64.toUInt64).toInt64)), .second, .val (.long (q7 &&& (4294967295 : Int64))), .second, .val (.long ((q8.toUInt64 >>> ((32 : Int32) &&& 0x3f).toInt64.toUInt64).toInt64)), .second, .val (.long (q8 &&& (4294967295 : Int64))), .second, .val (.long ((((q7.toUInt64 >>> ((32 : Int32) &&& 0x3f).toInt64.toUInt64).toInt64) * (q8 &&& (4294967295 : Int64))) + ((q7 &&& (4294967295 : Int64)) * ((q8.toUInt64 >>> ((32 : Int32) &&& 0x3f).toInt64.toUInt64).toInt64)))), .second, .val (.long ((q7 &&& (4294967295 : Int64)) * (q8 &&& (4294967295 : Int64)))), .second, .unset, .unset] [(.int (lcmpW ((q7 &&& (4294967295 : Int64)) * (q8 &&& (4294967295 : Int64))) (0 : Int64)))]))
            by_cases hc14 : ((q7 &&& (4294967295 : Int64)) * (q8 &&& (4294967295 : Int64))) < (0 : Int64)
            · refine Goes.of (fun t k => XS.ifNo X0.here hx rfl (hb hby d2_105) rfl ((if0 _ _).trans (tlt ((lw_lt _ _).mpr hc14)).2.1) k) ?_
              show Goes _ _ _ _ _ _ _ (s₁.setTop (mkF m 108 #[.val (.long q7), .second, .val (.long q8), .second, .val (.long ((q7.toUInt64 >>> ((32 : Int32) &&& 0x3f).toInt64.toUInt64).toInt64)), .second, .val (.long (q7 &&& (4294967295 : Int64))), .second, .val (.long ((q8.toUInt64 >>> ((32 : Int32) &&& 0x3f).toInt64.toUInt64).toInt64)), .second, .val (.long (q8 &&& (4294967295 : Int64))), .second, .val (.long ((((q7.toUInt64 >>> ((32 : Int32) &&& 0x3f).toInt64.toUInt64).toInt64) * (q8 &&& (4294967295 : Int64))) + ((q7 &&& (4294967295 : Int64)) * ((q8.toUInt64 >>> ((32 : Int32) &&& 0x3f).toInt64.toUInt64).toInt64)))), .second, .val (.long ((q7 &&& (4294967295 : Int64)) * (q8 &&& (4294967295 : Int64)))), .second, .unset, .unset] []))
              refine Goes.of (fun t k => X0.ldc2Long hx hown (mvT hZ (hw _ (List.mem_of_getElem? (i := 0) rfl))) (g := (mkF m 108 #[.val (.long q7), .second, .val (.long q8), .second, .val (.long ((q7.toUInt64 >>> ((32 : Int32) &&& 0x3f).toInt64.toUInt64).toInt64)), .second, .val (.long (q7 &&& (4294967295 : Int64))), .second, .val (.long ((q8.toUInt64 >>> ((32 : Int32) &&& 0x3f).toInt64.toUInt64).toInt64)), .second, .val (.long (q8 &&& (4294967295 : Int64))), .second, .val (.long ((((q7.toUInt64 >>> ((32 : Int32) &&& 0x3f).toInt64.toUInt64).toInt64) * (q8 &&& (4294967295 : Int64))) + ((q7 &&& (4294967295 : Int64)) * ((q8.toUInt64 >>> ((32 : Int32) &&& 0x3f).toInt64.toUInt64).toInt64)))), .second, .val (.long ((q7 &&& (4294967295 : Int64)) * (q8 &&& (4294967295 : Int64)))), .second, .unset, .unset] [])) rfl (hb hby d2_108) t k) ?_
              show Goes _ _ _ _ _ _ _ (s₁.setTop (mkF m 111 #[.val (.long q7), .second, .val (.long q8), .second, .val (.long ((q7.toUInt64 >>> ((32 : Int32) &&& 0x3f).toInt64.toUInt64).toInt64)), .second, .val (.long (q7 &&& (4294967295 : Int64))), .second, .val (.long ((q8.toUInt64 >>> ((32 : Int32) &&& 0x3f).toInt64.toUInt64).toInt64)), .second, .val (.long (q8 &&& (4294967295 : Int64))), .second, .val (.long ((((q7.toUInt64 >>> ((32 : Int32) &&& 0x3f).toInt64.toUInt64).toInt64) * (q8 &&& (4294967295 : Int64))) + ((q7 &&& (4294967295 : Int64)) * ((q8.toUInt64 >>> ((32 : Int32) &&& 0x3f).toInt64.toUInt64).toInt64)))), .second, .val (.long ((q7 &&& (4294967295 : Int64)) * (q8 &&& (4294967295 : Int64)))), .second, .unset, .unset] [(.long (9223372036854775807 : Int64))]))
              exact Goes.fin X0 hlk (v := some (.long (9223372036854775807 : Int64))) (fun h => by rw [Bd.returns] at h; cases h) (fun fs hr => retOut X0 hx Bd.returns (by rfl) (Or.inr (Or.inl ⟨rfl, rfl, _, rfl⟩)) (hb hby d2_111) hr) ⟨congrArg (fun z => some (Value.long z)) (by rw [f2, if_neg hc9, if_neg hc10, if_neg hc11, if_pos hc12, if_neg hc13, if_pos hc14] : (9223372036854775807 : Int64) = f2 q7 q8), N0, e0⟩ (by decide) (by decide)
            · refine Goes.of (fun t k => XS.ifYes X0.here hx rfl (pc0 := 105) (pc' := 112) rfl (hb hby d2_105) rfl ((if0 _ _).trans (flt (fun q => hc14 ((lw_lt _ _).mp q))).2.1) (by decide) (by decide) k) ?_
              show Goes _ _ _ _ _ _ _ (s₁.setTop (mkF m 112 #[.val (.long q7), .second, .val (.long q8), .second, .val (.long ((q7.toUInt64 >>> ((32 : Int32) &&& 0x3f).toInt64.toUInt64).toInt64)), .second, .val (.long (q7 &&& (4294967295 : Int64))), .second, .val (.long ((q8.toUInt64 >>> ((32 : Int32) &&& 0x3f).toInt64.toUInt64).toInt64)), .second, .val (.long (q8 &&& (4294967295 : Int64))), .second, .val (.long ((((q7.toUInt64 >>> ((32 : Int32) &&& 0x3f).toInt64.toUInt64).toInt64) * (q8 &&& (4294967295 : Int64))) + ((q7 &&& (4294967295 : Int64)) * ((q8.toUInt64 >>> ((32 : Int32) &&& 0x3f).toInt64.toUInt64).toInt64)))), .second, .val (.long ((q7 &&& (4294967295 : Int64)) * (q8 &&& (4294967295 : Int64)))), .second, .unset, .unset] []))
              refine Goes.of (fun t k => XS.lload X0.here hx rfl (hb hby d2_112) rfl k) ?_
              show Goes _ _ _ _ _ _ _ (s₁.setTop (mkF m 114 #[.val (.long q7), .second, .val (.long q8), .second, .val (.long ((q7.toUInt64 >>> ((32 : Int32) &&& 0x3f).toInt64.toUInt64).toInt64)), .second, .val (.long (q7 &&& (4294967295 : Int64))), .second, .val (.long ((q8.toUInt64 >>> ((32 : Int32) &&& 0x3f).toInt64.toUInt64).toInt64)), .second, .val (.long (q8 &&& (4294967295 : Int64))), .second, .val (.long ((((q7.toUInt64 >>> ((32 : Int32) &&& 0x3f).toInt64.toUInt64).toInt64) * (q8 &&& (4294967295 : Int64))) + ((q7 &&& (4294967295 : Int64)) * ((q8.toUInt64 >>> ((32 : Int32) &&& 0x3f).toInt64.toUInt64).toInt64)))), .second, .val (.long ((q7 &&& (4294967295 : Int64)) * (q8 &&& (4294967295 : Int64)))), .second, .unset, .unset] [(.long ((((q7.toUInt64 >>> ((32 : Int32) &&& 0x3f).toInt64.toUInt64).toInt64) * (q8 &&& (4294967295 : Int64))) + ((q7 &&& (4294967295 : Int64)) * ((q8.toUInt64 >>> ((32 : Int32) &&& 0x3f).toInt64.toUInt64).toInt64))))]))
              refine Goes.of (fun t k => XS.bipush X0.here hx rfl (hb hby d2_114) k) ?_
              show Goes _ _ _ _ _ _ _ (s₁.setTop (mkF m 116 #[.val (.long q7), .second, .val (.long q8), .second, .val (.long ((q7.toUInt64 >>> ((32 : Int32) &&& 0x3f).toInt64.toUInt64).toInt64)), .second, .val (.long (q7 &&& (4294967295 : Int64))), .second, .val (.long ((q8.toUInt64 >>> ((32 : Int32) &&& 0x3f).toInt64.toUInt64).toInt64)), .second, .val (.long (q8 &&& (4294967295 : Int64))), .second, .val (.long ((((q7.toUInt64 >>> ((32 : Int32) &&& 0x3f).toInt64.toUInt64).toInt64) * (q8 &&& (4294967295 : Int64))) + ((q7 &&& (4294967295 : Int64)) * ((q8.toUInt64 >>> ((32 : Int32) &&& 0x3f).toInt64.toUInt64).toInt64)))), .second, .val (.long ((q7 &&& (4294967295 : Int64)) * (q8 &&& (4294967295 : Int64)))), .second, .unset, .unset] [(.int (32 : Int32)), (.long ((((q7.toUInt64 >>> ((32 : Int32) &&& 0x3f).toInt64.toUInt64).toInt64) * (q8 &&& (4294967295 : Int64))) + ((q7 &&& (4294967295 : Int64)) * ((q8.toUInt64 >>> ((32 : Int32) &&& 0x3f).toInt64.toUInt64).toInt64))))]))
              refine Goes.of (fun t k => XS.lshl X0.here hx rfl (hb hby d2_116) rfl k) ?_
              show Goes _ _ _ _ _ _ _ (s₁.setTop (mkF m 117 #[.val (.long q7), .second, .val (.long q8), .second, .val (.long ((q7.toUInt64 >>> ((32 : Int32) &&& 0x3f).toInt64.toUInt64).toInt64)), .second, .val (.long (q7 &&& (4294967295 : Int64))), .second, .val (.long ((q8.toUInt64 >>> ((32 : Int32) &&& 0x3f).toInt64.toUInt64).toInt64)), .second, .val (.long (q8 &&& (4294967295 : Int64))), .second, .val (.long ((((q7.toUInt64 >>> ((32 : Int32) &&& 0x3f).toInt64.toUInt64).toInt64) * (q8 &&& (4294967295 : Int64))) + ((q7 &&& (4294967295 : Int64)) * ((q8.toUInt64 >>> ((32 : Int32) &&& 0x3f).toInt64.toUInt64).toInt64)))), .second, .val (.long ((q7 &&& (4294967295 : Int64)) * (q8 &&& (4294967295 : Int64)))), .second, .unset, .unset] [(.long (((((q7.toUInt64 >>> ((32 : Int32) &&& 0x3f).toInt64.toUInt64).toInt64) * (q8 &&& (4294967295 : Int64))) + ((q7 &&& (4294967295 : Int64)) * ((q8.toUInt64 >>> ((32 : Int32) &&& 0x3f).toInt64.toUInt64).toInt64))) <<< ((32 : Int32) &&& 0x3f).toInt64))]))
              refine Goes.of (fun t k => XS.lload X0.here hx rfl (hb hby d2_117) rfl k) ?_
              show Goes _ _ _ _ _ _ _ (s₁.setTop (mkF m 119 #[.val (.long q7), .second, .val (.long q8), .second, .val (.long ((q7.toUInt64 >>> ((32 : Int32) &&& 0x3f).toInt64.toUInt64).toInt64)), .second, .val (.long (q7 &&& (4294967295 : Int64))), .second, .val (.long ((q8.toUInt64 >>> ((32 : Int32) &&& 0x3f).toInt64.toUInt64).toInt64)), .second, .val (.long (q8 &&& (4294967295 : Int64))), .second, .val (.long ((((q7.toUInt64 >>> ((32 : Int32) &&& 0x3f).toInt64.toUInt64).toInt64) * (q8 &&& (4294967295 : Int64))) + ((q7 &&& (4294967295 : Int64)) * ((q8.toUInt64 >>> ((32 : Int32) &&& 0x3f).toInt64.toUInt64).toInt64)))), .second, .val (.long ((q7 &&& (4294967295 : Int64)) * (q8 &&& (4294967295 : Int64)))), .second, .unset, .unset] [(.long ((q7 &&& (4294967295 : Int64)) * (q8 &&& (4294967295 : Int64)))), (.long (((((q7.toUInt64 >>> ((32 : Int32) &&& 0x3f).toInt64.toUInt64).toInt64) * (q8 &&& (4294967295 : Int64))) + ((q7 &&& (4294967295 : Int64)) * ((q8.toUInt64 >>> ((32 : Int32) &&& 0x3f).toInt64.toUInt64).toInt64))) <<< ((32 : Int32) &&& 0x3f).toInt64))]))
              refine Goes.of (fun t k => XS.ladd X0.here hx rfl (hb hby d2_119) rfl k) ?_
              show Goes _ _ _ _ _ _ _ (s₁.setTop (mkF m 120 #[.val (.long q7), .second, .val (.long q8), .second, .val (.long ((q7.toUInt64 >>> ((32 : Int32) &&& 0x3f).toInt64.toUInt64).toInt64)), .second, .val (.long (q7 &&& (4294967295 : Int64))), .second, .val (.long ((q8.toUInt64 >>> ((32 : Int32) &&& 0x3f).toInt64.toUInt64).toInt64)), .second, .val (.long (q8 &&& (4294967295 : Int64))), .second, .val (.long ((((q7.toUInt64 >>> ((32 : Int32) &&& 0x3f).toInt64.toUInt64).toInt64) * (q8 &&& (4294967295 : Int64))) + ((q7 &&& (4294967295 : Int64)) * ((q8.toUInt64 >>> ((32 : Int32) &&& 0x3f).toInt64.toUInt64).toInt64)))), .second, .val (.long ((q7 &&& (4294967295 : Int64)) * (q8 &&& (4294967295 : Int64)))), .second, .unset, .unset] [(.long ((((((q7.toUInt64 >>> ((32 : Int32) &&& 0x3f).toInt64.toUInt64).toInt64) * (q8 &&& (4294967295 : Int64))) + ((q7 &&& (4294967295 : Int64)) * ((q8.toUInt64 >>> ((32 : Int32) &&& 0x3f).toInt64.toUInt64).toInt64))) <<< ((32 : Int32) &&& 0x3f).toInt64) + ((q7 &&& (4294967295 : Int64)) * (q8 &&& (4294967295 : Int64)))))]))
              refine Goes.of (fun t k => XS.lstore X0.here hx rfl (hb hby d2_120) rfl (l' := #[.val (.long q7), .second, .val (.long q8), .second, .val (.long ((q7.toUInt64 >>> ((32 : Int32) &&& 0x3f).toInt64.toUInt64).toInt64)), .second, .val (.long (q7 &&& (4294967295 : Int64))), .second, .val (.long ((q8.toUInt64 >>> ((32 : Int32) &&& 0x3f).toInt64.toUInt64).toInt64)), .second, .val (.long (q8 &&& (4294967295 : Int64))), .second, .val (.long ((((q7.toUInt64 >>> ((32 : Int32) &&& 0x3f).toInt64.toUInt64).toInt64) * (q8 &&& (4294967295 : Int64))) + ((q7 &&& (4294967295 : Int64)) * ((q8.toUInt64 >>> ((32 : Int32) &&& 0x3f).toInt64.toUInt64).toInt64)))), .second, .val (.long ((q7 &&& (4294967295 : Int64)) * (q8 &&& (4294967295 : Int64)))), .second, .val (.long ((((((q7.toUInt64 >>> ((32 : Int32) &&& 0x3f).toInt64.toUInt64).toInt64) * (q8 &&& (4294967295 : Int64))) + ((q7 &&& (4294967295 : Int64)) * ((q8.toUInt64 >>> ((32 : Int32) &&& 0x3f).toInt64.toUInt64).toInt64))) <<< ((32 : Int32) &&& 0x3f).toInt64) + ((q7 &&& (4294967295 : Int64)) * (q8 &&& (4294967295 : Int64))))), .second]) rfl k) ?_
              show Goes _ _ _ _ _ _ _ (s₁.setTop (mkF m 122 #[.val (.long q7), .second, .val (.long q8), .second, .val (.long ((q7.toUInt64 >>> ((32 : Int32) &&& 0x3f).toInt64.toUInt64).toInt64)), .second, .val (.long (q7 &&& (4294967295 : Int64))), .second, .val (.long ((q8.toUInt64 >>> ((32 : Int32) &&& 0x3f).toInt64.toUInt64).toInt64)), .second, .val (.long (q8 &&& (4294967295 : Int64))), .second, .val (.long ((((q7.toUInt64 >>> ((32 : Int32) &&& 0x3f).toInt64.toUInt64).toInt64) * (q8 &&& (4294967295 : Int64))) + ((q7 &&& (4294967295 : Int64)) * ((q8.toUInt64 >>> ((32 : Int32) &&& 0x3f).toInt64.toUInt64).toInt64)))), .second, .val (.long ((q7 &&& (4294967295 : Int64)) * (q8 &&& (4294967295 : Int64)))), .second, .val (.long ((((((q7.toUInt64 >>> ((32 : Int32) &&& 0x3f).toInt64.toUInt64).toInt64) * (q8 &&& (4294967295 : Int64))) + ((q7 &&& (4294967295 : Int64)) * ((q8.toUInt64 >>> ((32 : Int32) &&& 0x3f).toInt64.toUInt64).toInt64))) <<< ((32 : Int32) &&& 0x3f).toInt64) + ((q7 &&& (4294967295 : Int64)) * (q8 &&& (4294967295 : Int64))))), .second] []))
              refine Goes.of (fun t k => XS.lload X0.here hx rfl (hb hby d2_122) rfl k) ?_
              show Goes _ _ _ _ _ _ _ (s₁.setTop (mkF m 124 #[.val (.long q7), .second, .val (.long q8), .second, .val (.long ((q7.toUInt64 >>> ((32 : Int32) &&& 0x3f).toInt64.toUInt64).toInt64)), .second, .val (.long (q7 &&& (4294967295 : Int64))), .second, .val (.long ((q8.toUInt64 >>> ((32 : Int32) &&& 0x3f).toInt64.toUInt64).toInt64)), .second, .val (.long (q8 &&& (4294967295 : Int64))), .second, .val (.long ((((q7.toUInt64 >>> ((32 : Int32) &&& 0x3f).toInt64.toUInt64).toInt64) * (q8 &&& (4294967295 : Int64))) + ((q7 &&& (4294967295 : Int64)) * ((q8.toUInt64 >>> ((32 : Int32) &&& 0x3f).toInt64.toUInt64).toInt64)))), .second, .val (.long ((q7 &&& (4294967295 : Int64)) * (q8 &&& (4294967295 : Int64)))), .second, .val (.long ((((((q7.toUInt64 >>> ((32 : Int32) &&& 0x3f).toInt64.toUInt64).toInt64) * (q8 &&& (4294967295 : Int64))) + ((q7 &&& (4294967295 : Int64)) * ((q8.toUInt64 >>> ((32 : Int32) &&& 0x3f).toInt64.toUInt64).toInt64))) <<< ((32 : Int32) &&& 0x3f).toInt64) + ((q7 &&& (4294967295 : Int64)) * (q8 &&& (4294967295 : Int64))))), .second] [(.long ((((((q7.toUInt64 >>> ((32 : Int32) &&& 0x3f).toInt64.toUInt64).toInt64) * (q8 &&& (4294967295 : Int64))) + ((q7 &&& (4294967295 : Int64)) * ((q8.toUInt64 >>> ((32 : Int32) &&& 0x3f).toInt64.toUInt64).toInt64))) <<< ((32 : Int32) &&& 0x3f).toInt64) + ((q7 &&& (4294967295 : Int64)) * (q8 &&& (4294967295 : Int64)))))]))
              refine Goes.of (fun t k => XS.lconst X0.here hx rfl (hb hby d2_124) k) ?_
              show Goes _ _ _ _ _ _ _ (s₁.setTop (mkF m 125 #[.val (.long q7), .second, .val (.long q8), .second, .val (.long ((q7.toUInt64 >>> ((32 : Int32) &&& 0x3f).toInt64.toUInt64).toInt64)), .second, .val (.long (q7 &&& (4294967295 : Int64))), .second, .val (.long ((q8.toUInt64 >>> ((32 : Int32) &&& 0x3f).toInt64.toUInt64).toInt64)), .second, .val (.long (q8 &&& (4294967295 : Int64))), .second, .val (.long ((((q7.toUInt64 >>> ((32 : Int32) &&& 0x3f).toInt64.toUInt64).toInt64) * (q8 &&& (4294967295 : Int64))) + ((q7 &&& (4294967295 : Int64)) * ((q8.toUInt64 >>> ((32 : Int32) &&& 0x3f).toInt64.toUInt64).toInt64)))), .second, .val (.long ((q7 &&& (4294967295 : Int64)) * (q8 &&& (4294967295 : Int64)))), .second, .val (.long ((((((q7.toUInt64 >>> ((32 : Int32) &&& 0x3f).toInt64.toUInt64).toInt64) * (q8 &&& (4294967295 : Int64))) + ((q7 &&& (4294967295 : Int64)) * ((q8.toUInt64 >>> ((32 : Int32) &&& 0x3f).toInt64.toUInt64).toInt64))) <<< ((32 : Int32) &&& 0x3f).toInt64) + ((q7 &&& (4294967295 : Int64)) * (q8 &&& (4294967295 : Int64))))), .second] [(.long (0 : Int64)), (.long ((((((q7.toUInt64 >>> ((32 : Int32) &&& 0x3f).toInt64.toUInt64).toInt64) * (q8 &&& (4294967295 : Int64))) + ((q7 &&& (4294967295 : Int64)) * ((q8.toUInt64 >>> ((32 : Int32) &&& 0x3f).toInt64.toUInt64).toInt64))) <<< ((32 : Int32) &&& 0x3f).toInt64) + ((q7 &&& (4294967295 : Int64)) * (q8 &&& (4294967295 : Int64)))))]))
              refine Goes.of (fun t k => XS.lcmp X0.here hx rfl (hb hby d2_125) rfl k) ?_
              show Goes _ _ _ _ _ _ _ (s₁.setTop (mkF m 126 #[.val (.long q7), .second, .val (.long q8), .second, .val (.long ((q7.toUInt64 >>> ((32 : Int32) &&& 0x3f).toInt64.toUInt64).toInt64)), .second, .val (.long (q7 &&& (4294967295 : Int64))), .second, .val (.long ((q8.toUInt64 >>> ((32 : Int32) &&& 0x3f).toInt64.toUInt64).toInt64)), .second, .val (.long (q8 &&& (4294967295 : Int64))), .second, .val (.long ((((q7.toUInt64 >>> ((32 : Int32) &&& 0x3f).toInt64.toUInt64).toInt64) * (q8 &&& (4294967295 : Int64))) + ((q7 &&& (4294967295 : Int64)) * ((q8.toUInt64 >>> ((32 : Int32) &&& 0x3f).toInt64.toUInt64).toInt64)))), .second, .val (.long ((q7 &&& (4294967295 : Int64)) * (q8 &&& (4294967295 : Int64)))), .second, .val (.long ((((((q7.toUInt64 >>> ((32 : Int32) &&& 0x3f).toInt64.toUInt64).toInt64) * (q8 &&& (4294967295 : Int64))) + ((q7 &&& (4294967295 : Int64)) * ((q8.toUInt64 >>> ((32 : Int32) &&& 0x3f).toInt64.toUInt64).toInt64))) <<< ((32 : Int32) &&& 0x3f).toInt64) + ((q7 &&& (4294967295 : Int64)) * (q8 &&& (4294967295 : Int64))))), .second] [(.int (lcmpW ((((((q7.toUInt64 >>> ((32 : Int32) &&& 0x3f).toInt64.toUInt64).toInt64) * (q8 &&& (4294967295 : Int64))) + ((q7 &&& (4294967295 : Int64)) * ((q8.toUInt64 >>> ((32 : Int32) &&& 0x3f).toInt64.toUInt64).toInt64))) <<< ((32 : Int32) &&& 0x3f).toInt64) + ((q7 &&& (4294967295 : Int64)) * (q8 &&& (4294967295 : Int64)))) (0 : Int64)))]))
              by_cases hc15 : ((((((q7.toUInt64 >>> ((32 : Int32) &&& 0x3f).toInt64.toUInt64).toInt64) * (q8 &&& (4294967295 : Int64))) + ((q7 &&& (4294967295 : Int64)) * ((q8.toUInt64 >>> ((32 : Int32) &&& 0x3f).toInt64.toUInt64).toInt64))) <<< ((32 : Int32) &&& 0x3f).toInt64) + ((q7 &&& (4294967295 : Int64)) * (q8 &&& (4294967295 : Int64)))) < (0 : Int64)
              · refine Goes.of (fun t k => XS.ifNo X0.here hx rfl (hb hby d2_126) rfl ((if0 _ _).trans (tlt ((lw_lt _ _).mpr hc15)).2.1) k) ?_
                show Goes _ _ _ _ _ _ _ (s₁.setTop (mkF m 129 #[.val (.long q7), .second, .val (.long q8), .second, .val (.long ((q7.toUInt64 >>> ((32 : Int32) &&& 0x3f).toInt64.toUInt64).toInt64)), .second, .val (.long (q7 &&& (4294967295 : Int64))), .second, .val (.long ((q8.toUInt64 >>> ((32 : Int32) &&& 0x3f).toInt64.toUInt64).toInt64)), .second, .val (.long (q8 &&& (4294967295 : Int64))), .second, .val (.long ((((q7.toUInt64 >>> ((32 : Int32) &&& 0x3f).toInt64.toUInt64).toInt64) * (q8 &&& (4294967295 : Int64))) + ((q7 &&& (4294967295 : Int64)) * ((q8.toUInt64 >>> ((32 : Int32) &&& 0x3f).toInt64.toUInt64).toInt64)))), .second, .val (.long ((q7 &&& (4294967295 : Int64)) * (q8 &&& (4294967295 : Int64)))), .second, .val (.long ((((((q7.toUInt64 >>> ((32 : Int32) &&& 0x3f).toInt64.toUInt64).toInt64) * (q8 &&& (4294967295 : Int64))) + ((q7 &&& (4294967295 : Int64)) * ((q8.toUInt64 >>> ((32 : Int32) &&& 0x3f).toInt64.toUInt64).toInt64))) <<< ((32 : Int32) &&& 0x3f).toInt64) + ((q7 &&& (4294967295 : Int64)) * (q8 &&& (4294967295 : Int64))))), .second] []))
                refine Goes.of (fun t k => X0.ldc2Long hx hown (mvT hZ (hw _ (List.mem_of_getElem? (i := 0) rfl))) (g := (mkF m 129 #[.val (.long q7), .second, .val (.long q8), .second, .val (.long ((q7.toUInt64 >>> ((32 : Int32) &&& 0x3f).toInt64.toUInt64).toInt64)), .second, .val (.long (q7 &&& (4294967295 : Int64))), .second, .val (.long ((q8.toUInt64 >>> ((32 : Int32) &&& 0x3f).toInt64.toUInt64).toInt64)), .second, .val (.long (q8 &&& (4294967295 : Int64))), .second, .val (.long ((((q7.toUInt64 >>> ((32 : Int32) &&& 0x3f).toInt64.toUInt64).toInt64) * (q8 &&& (4294967295 : Int64))) + ((q7 &&& (4294967295 : Int64)) * ((q8.toUInt64 >>> ((32 : Int32) &&& 0x3f).toInt64.toUInt64).toInt64)))), .second, .val (.long ((q7 &&& (4294967295 : Int64)) * (q8 &&& (4294967295 : Int64)))), .second, .val (.long ((((((q7.toUInt64 >>> ((32 : Int32) &&& 0x3f).toInt64.toUInt64).toInt64) * (q8 &&& (4294967295 : Int64))) + ((q7 &&& (4294967295 : Int64)) * ((q8.toUInt64 >>> ((32 : Int32) &&& 0x3f).toInt64.toUInt64).toInt64))) <<< ((32 : Int32) &&& 0x3f).toInt64) + ((q7 &&& (4294967295 : Int64)) * (q8 &&& (4294967295 : Int64))))), .second] [])) rfl (hb hby d2_129) t k) ?_
                show Goes _ _ _ _ _ _ _ (s₁.setTop (mkF m 132 #[.val (.long q7), .second, .val (.long q8), .second, .val (.long ((q7.toUInt64 >>> ((32 : Int32) &&& 0x3f).toInt64.toUInt64).toInt64)), .second, .val (.long (q7 &&& (4294967295 : Int64))), .second, .val (.long ((q8.toUInt64 >>> ((32 : Int32) &&& 0x3f).toInt64.toUInt64).toInt64)), .second, .val (.long (q8 &&& (4294967295 : Int64))), .second, .val (.long ((((q7.toUInt64 >>> ((32 : Int32) &&& 0x3f).toInt64.toUInt64).toInt64) * (q8 &&& (4294967295 : Int64))) + ((q7 &&& (4294967295 : Int64)) * ((q8.toUInt64 >>> ((32 : Int32) &&& 0x3f).toInt64.toUInt64).toInt64)))), .second, .val (.long ((q7 &&& (4294967295 : Int64)) * (q8 &&& (4294967295 : Int64)))), .second, .val (.long ((((((q7.toUInt64 >>> ((32 : Int32) &&& 0x3f).toInt64.toUInt64).toInt64) * (q8 &&& (4294967295 : Int64))) + ((q7 &&& (4294967295 : Int64)) * ((q8.toUInt64 >>> ((32 : Int32) &&& 0x3f).toInt64.toUInt64).toInt64))) <<< ((32 : Int32) &&& 0x3f).toInt64) + ((q7 &&& (4294967295 : Int64)) * (q8 &&& (4294967295 : Int64))))), .second] [(.long (9223372036854775807 : Int64))]))
                exact Goes.fin X0 hlk (v := some (.long (9223372036854775807 : Int64))) (fun h => by rw [Bd.returns] at h; cases h) (fun fs hr => retOut X0 hx Bd.returns (by rfl) (Or.inr (Or.inl ⟨rfl, rfl, _, rfl⟩)) (hb hby d2_132) hr) ⟨congrArg (fun z => some (Value.long z)) (by rw [f2, if_neg hc9, if_neg hc10, if_neg hc11, if_pos hc12, if_neg hc13, if_neg hc14, if_pos hc15] : (9223372036854775807 : Int64) = f2 q7 q8), N0, e0⟩ (by decide) (by decide)
              · refine Goes.of (fun t k => XS.ifYes X0.here hx rfl (pc0 := 126) (pc' := 133) rfl (hb hby d2_126) rfl ((if0 _ _).trans (flt (fun q => hc15 ((lw_lt _ _).mp q))).2.1) (by decide) (by decide) k) ?_
                show Goes _ _ _ _ _ _ _ (s₁.setTop (mkF m 133 #[.val (.long q7), .second, .val (.long q8), .second, .val (.long ((q7.toUInt64 >>> ((32 : Int32) &&& 0x3f).toInt64.toUInt64).toInt64)), .second, .val (.long (q7 &&& (4294967295 : Int64))), .second, .val (.long ((q8.toUInt64 >>> ((32 : Int32) &&& 0x3f).toInt64.toUInt64).toInt64)), .second, .val (.long (q8 &&& (4294967295 : Int64))), .second, .val (.long ((((q7.toUInt64 >>> ((32 : Int32) &&& 0x3f).toInt64.toUInt64).toInt64) * (q8 &&& (4294967295 : Int64))) + ((q7 &&& (4294967295 : Int64)) * ((q8.toUInt64 >>> ((32 : Int32) &&& 0x3f).toInt64.toUInt64).toInt64)))), .second, .val (.long ((q7 &&& (4294967295 : Int64)) * (q8 &&& (4294967295 : Int64)))), .second, .val (.long ((((((q7.toUInt64 >>> ((32 : Int32) &&& 0x3f).toInt64.toUInt64).toInt64) * (q8 &&& (4294967295 : Int64))) + ((q7 &&& (4294967295 : Int64)) * ((q8.toUInt64 >>> ((32 : Int32) &&& 0x3f).toInt64.toUInt64).toInt64))) <<< ((32 : Int32) &&& 0x3f).toInt64) + ((q7 &&& (4294967295 : Int64)) * (q8 &&& (4294967295 : Int64))))), .second] []))
                refine Goes.of (fun t k => XS.lload X0.here hx rfl (hb hby d2_133) rfl k) ?_
                show Goes _ _ _ _ _ _ _ (s₁.setTop (mkF m 135 #[.val (.long q7), .second, .val (.long q8), .second, .val (.long ((q7.toUInt64 >>> ((32 : Int32) &&& 0x3f).toInt64.toUInt64).toInt64)), .second, .val (.long (q7 &&& (4294967295 : Int64))), .second, .val (.long ((q8.toUInt64 >>> ((32 : Int32) &&& 0x3f).toInt64.toUInt64).toInt64)), .second, .val (.long (q8 &&& (4294967295 : Int64))), .second, .val (.long ((((q7.toUInt64 >>> ((32 : Int32) &&& 0x3f).toInt64.toUInt64).toInt64) * (q8 &&& (4294967295 : Int64))) + ((q7 &&& (4294967295 : Int64)) * ((q8.toUInt64 >>> ((32 : Int32) &&& 0x3f).toInt64.toUInt64).toInt64)))), .second, .val (.long ((q7 &&& (4294967295 : Int64)) * (q8 &&& (4294967295 : Int64)))), .second, .val (.long ((((((q7.toUInt64 >>> ((32 : Int32) &&& 0x3f).toInt64.toUInt64).toInt64) * (q8 &&& (4294967295 : Int64))) + ((q7 &&& (4294967295 : Int64)) * ((q8.toUInt64 >>> ((32 : Int32) &&& 0x3f).toInt64.toUInt64).toInt64))) <<< ((32 : Int32) &&& 0x3f).toInt64) + ((q7 &&& (4294967295 : Int64)) * (q8 &&& (4294967295 : Int64))))), .second] [(.long ((((((q7.toUInt64 >>> ((32 : Int32) &&& 0x3f).toInt64.toUInt64).toInt64) * (q8 &&& (4294967295 : Int64))) + ((q7 &&& (4294967295 : Int64)) * ((q8.toUInt64 >>> ((32 : Int32) &&& 0x3f).toInt64.toUInt64).toInt64))) <<< ((32 : Int32) &&& 0x3f).toInt64) + ((q7 &&& (4294967295 : Int64)) * (q8 &&& (4294967295 : Int64)))))]))
                exact Goes.fin X0 hlk (v := some (.long ((((((q7.toUInt64 >>> ((32 : Int32) &&& 0x3f).toInt64.toUInt64).toInt64) * (q8 &&& (4294967295 : Int64))) + ((q7 &&& (4294967295 : Int64)) * ((q8.toUInt64 >>> ((32 : Int32) &&& 0x3f).toInt64.toUInt64).toInt64))) <<< ((32 : Int32) &&& 0x3f).toInt64) + ((q7 &&& (4294967295 : Int64)) * (q8 &&& (4294967295 : Int64)))))) (fun h => by rw [Bd.returns] at h; cases h) (fun fs hr => retOut X0 hx Bd.returns (by rfl) (Or.inr (Or.inl ⟨rfl, rfl, _, rfl⟩)) (hb hby d2_135) hr) ⟨congrArg (fun z => some (Value.long z)) (by rw [f2, if_neg hc9, if_neg hc10, if_neg hc11, if_pos hc12, if_neg hc13, if_neg hc14, if_neg hc15] : ((((((q7.toUInt64 >>> ((32 : Int32) &&& 0x3f).toInt64.toUInt64).toInt64) * (q8 &&& (4294967295 : Int64))) + ((q7 &&& (4294967295 : Int64)) * ((q8.toUInt64 >>> ((32 : Int32) &&& 0x3f).toInt64.toUInt64).toInt64))) <<< ((32 : Int32) &&& 0x3f).toInt64) + ((q7 &&& (4294967295 : Int64)) * (q8 &&& (4294967295 : Int64)))) = f2 q7 q8), N0, e0⟩ (by decide) (by decide)
        · refine Goes.of (fun t k => XS.ifNo X0.here hx rfl (hb hby d2_54) rfl ((if0 _ _).trans (feq (fun q => hc12 ((lw_eq _ _).mp q))).1) k) ?_
          show Goes _ _ _ _ _ _ _ (s₁.setTop (mkF m 57 #[.val (.long q7), .second, .val (.long q8), .second, .val (.long ((q7.toUInt64 >>> ((32 : Int32) &&& 0x3f).toInt64.toUInt64).toInt64)), .second, .val (.long (q7 &&& (4294967295 : Int64))), .second, .val (.long ((q8.toUInt64 >>> ((32 : Int32) &&& 0x3f).toInt64.toUInt64).toInt64)), .second, .val (.long (q8 &&& (4294967295 : Int64))), .second, .unset, .unset, .unset, .unset, .unset, .unset] []))
          refine Goes.of (fun t k => XS.lload X0.here hx rfl (hb hby d2_57) rfl k) ?_
          show Goes _ _ _ _ _ _ _ (s₁.setTop (mkF m 59 #[.val (.long q7), .second, .val (.long q8), .second, .val (.long ((q7.toUInt64 >>> ((32 : Int32) &&& 0x3f).toInt64.toUInt64).toInt64)), .second, .val (.long (q7 &&& (4294967295 : Int64))), .second, .val (.long ((q8.toUInt64 >>> ((32 : Int32) &&& 0x3f).toInt64.toUInt64).toInt64)), .second, .val (.long (q8 &&& (4294967295 : Int64))), .second, .unset, .unset, .unset, .unset, .unset, .unset] [(.long ((q8.toUInt64 >>> ((32 : Int32) &&& 0x3f).toInt64.toUInt64).toInt64))]))
          refine Goes.of (fun t k => XS.lconst X0.here hx rfl (hb hby d2_59) k) ?_
          show Goes _ _ _ _ _ _ _ (s₁.setTop (mkF m 60 #[.val (.long q7), .second, .val (.long q8), .second, .val (.long ((q7.toUInt64 >>> ((32 : Int32) &&& 0x3f).toInt64.toUInt64).toInt64)), .second, .val (.long (q7 &&& (4294967295 : Int64))), .second, .val (.long ((q8.toUInt64 >>> ((32 : Int32) &&& 0x3f).toInt64.toUInt64).toInt64)), .second, .val (.long (q8 &&& (4294967295 : Int64))), .second, .unset, .unset, .unset, .unset, .unset, .unset] [(.long (0 : Int64)), (.long ((q8.toUInt64 >>> ((32 : Int32) &&& 0x3f).toInt64.toUInt64).toInt64))]))
          refine Goes.of (fun t k => XS.lcmp X0.here hx rfl (hb hby d2_60) rfl k) ?_
          show Goes _ _ _ _ _ _ _ (s₁.setTop (mkF m 61 #[.val (.long q7), .second, .val (.long q8), .second, .val (.long ((q7.toUInt64 >>> ((32 : Int32) &&& 0x3f).toInt64.toUInt64).toInt64)), .second, .val (.long (q7 &&& (4294967295 : Int64))), .second, .val (.long ((q8.toUInt64 >>> ((32 : Int32) &&& 0x3f).toInt64.toUInt64).toInt64)), .second, .val (.long (q8 &&& (4294967295 : Int64))), .second, .unset, .unset, .unset, .unset, .unset, .unset] [(.int (lcmpW ((q8.toUInt64 >>> ((32 : Int32) &&& 0x3f).toInt64.toUInt64).toInt64) (0 : Int64)))]))
          by_cases hc16 : ((q8.toUInt64 >>> ((32 : Int32) &&& 0x3f).toInt64.toUInt64).toInt64) = (0 : Int64)
          · refine Goes.of (fun t k => XS.ifYes X0.here hx rfl (pc0 := 61) (pc' := 68) rfl (hb hby d2_61) rfl ((if0 _ _).trans (teq ((lw_eq _ _).mpr hc16)).1) (by decide) (by decide) k) ?_
            show Goes _ _ _ _ _ _ _ (s₁.setTop (mkF m 68 #[.val (.long q7), .second, .val (.long q8), .second, .val (.long ((q7.toUInt64 >>> ((32 : Int32) &&& 0x3f).toInt64.toUInt64).toInt64)), .second, .val (.long (q7 &&& (4294967295 : Int64))), .second, .val (.long ((q8.toUInt64 >>> ((32 : Int32) &&& 0x3f).toInt64.toUInt64).toInt64)), .second, .val (.long (q8 &&& (4294967295 : Int64))), .second, .unset, .unset, .unset, .unset, .unset, .unset] []))
            refine Goes.of (fun t k => XS.lload X0.here hx rfl (hb hby d2_68) rfl k) ?_
            show Goes _ _ _ _ _ _ _ (s₁.setTop (mkF m 70 #[.val (.long q7), .second, .val (.long q8), .second, .val (.long ((q7.toUInt64 >>> ((32 : Int32) &&& 0x3f).toInt64.toUInt64).toInt64)), .second, .val (.long (q7 &&& (4294967295 : Int64))), .second, .val (.long ((q8.toUInt64 >>> ((32 : Int32) &&& 0x3f).toInt64.toUInt64).toInt64)), .second, .val (.long (q8 &&& (4294967295 : Int64))), .second, .unset, .unset, .unset, .unset, .unset, .unset] [(.long ((q7.toUInt64 >>> ((32 : Int32) &&& 0x3f).toInt64.toUInt64).toInt64))]))
            refine Goes.of (fun t k => XS.lload X0.here hx rfl (hb hby d2_70) rfl k) ?_
            show Goes _ _ _ _ _ _ _ (s₁.setTop (mkF m 72 #[.val (.long q7), .second, .val (.long q8), .second, .val (.long ((q7.toUInt64 >>> ((32 : Int32) &&& 0x3f).toInt64.toUInt64).toInt64)), .second, .val (.long (q7 &&& (4294967295 : Int64))), .second, .val (.long ((q8.toUInt64 >>> ((32 : Int32) &&& 0x3f).toInt64.toUInt64).toInt64)), .second, .val (.long (q8 &&& (4294967295 : Int64))), .second, .unset, .unset, .unset, .unset, .unset, .unset] [(.long (q8 &&& (4294967295 : Int64))), (.long ((q7.toUInt64 >>> ((32 : Int32) &&& 0x3f).toInt64.toUInt64).toInt64))]))
            refine Goes.of (fun t k => XS.lmul X0.here hx rfl (hb hby d2_72) rfl k) ?_
            show Goes _ _ _ _ _ _ _ (s₁.setTop (mkF m 73 #[.val (.long q7), .second, .val (.long q8), .second, .val (.long ((q7.toUInt64 >>> ((32 : Int32) &&& 0x3f).toInt64.toUInt64).toInt64)), .second, .val (.long (q7 &&& (4294967295 : Int64))), .second, .val (.long ((q8.toUInt64 >>> ((32 : Int32) &&& 0x3f).toInt64.toUInt64).toInt64)), .second, .val (.long (q8 &&& (4294967295 : Int64))), .second, .unset, .unset, .unset, .unset, .unset, .unset] [(.long (((q7.toUInt64 >>> ((32 : Int32) &&& 0x3f).toInt64.toUInt64).toInt64) * (q8 &&& (4294967295 : Int64))))]))
            refine Goes.of (fun t k => XS.lload X0.here hx rfl (hb hby d2_73) rfl k) ?_
            show Goes _ _ _ _ _ _ _ (s₁.setTop (mkF m 75 #[.val (.long q7), .second, .val (.long q8), .second, .val (.long ((q7.toUInt64 >>> ((32 : Int32) &&& 0x3f).toInt64.toUInt64).toInt64)), .second, .val (.long (q7 &&& (4294967295 : Int64))), .second, .val (.long ((q8.toUInt64 >>> ((32 : Int32) &&& 0x3f).toInt64.toUInt64).toInt64)), .second, .val (.long (q8 &&& (4294967295 : Int64))), .second, .unset, .unset, .unset, .unset, .unset, .unset] [(.long (q7 &&& (4294967295 : Int64))), (.long (((q7.toUInt64 >>> ((32 : Int32) &&& 0x3f).toInt64.toUInt64).toInt64) * (q8 &&& (4294967295 : Int64))))]))
            refine Goes.of (fun t k => XS.lload X0.here hx rfl (hb hby d2_75) rfl k) ?_
            show Goes _ _ _ _ _ _ _ (s₁.setTop (mkF m 77 #[.val (.long q7), .second, .val (.long q8), .second, .val (.long ((q7.toUInt64 >>> ((32 : Int32) &&& 0x3f).toInt64.toUInt64).toInt64)), .second, .val (.long (q7 &&& (4294967295 : Int64))), .second, .val (.long ((q8.toUInt64 >>> ((32 : Int32) &&& 0x3f).toInt64.toUInt64).toInt64)), .second, .val (.long (q8 &&& (4294967295 : Int64))), .second, .unset, .unset, .unset, .unset, .unset, .unset] [(.long ((q8.toUInt64 >>> ((32 : Int32) &&& 0x3f).toInt64.toUInt64).toInt64)), (.long (q7 &&& (4294967295 : Int64))), (.long (((q7.toUInt64 >>> ((32 : Int32) &&& 0x3f).toInt64.toUInt64).toInt64) * (q8 &&& (4294967295 : Int64))))]))
            refine Goes.of (fun t k => XS.lmul X0.here hx rfl (hb hby d2_77) rfl k) ?_
            show Goes _ _ _ _ _ _ _ (s₁.setTop (mkF m 78 #[.val (.long q7), .second, .val (.long q8), .second, .val (.long ((q7.toUInt64 >>> ((32 : Int32) &&& 0x3f).toInt64.toUInt64).toInt64)), .second, .val (.long (q7 &&& (4294967295 : Int64))), .second, .val (.long ((q8.toUInt64 >>> ((32 : Int32) &&& 0x3f).toInt64.toUInt64).toInt64)), .second, .val (.long (q8 &&& (4294967295 : Int64))), .second, .unset, .unset, .unset, .unset, .unset, .unset] [(.long ((q7 &&& (4294967295 : Int64)) * ((q8.toUInt64 >>> ((32 : Int32) &&& 0x3f).toInt64.toUInt64).toInt64))), (.long (((q7.toUInt64 >>> ((32 : Int32) &&& 0x3f).toInt64.toUInt64).toInt64) * (q8 &&& (4294967295 : Int64))))]))
            refine Goes.of (fun t k => XS.ladd X0.here hx rfl (hb hby d2_78) rfl k) ?_
            show Goes _ _ _ _ _ _ _ (s₁.setTop (mkF m 79 #[.val (.long q7), .second, .val (.long q8), .second, .val (.long ((q7.toUInt64 >>> ((32 : Int32) &&& 0x3f).toInt64.toUInt64).toInt64)), .second, .val (.long (q7 &&& (4294967295 : Int64))), .second, .val (.long ((q8.toUInt64 >>> ((32 : Int32) &&& 0x3f).toInt64.toUInt64).toInt64)), .second, .val (.long (q8 &&& (4294967295 : Int64))), .second, .unset, .unset, .unset, .unset, .unset, .unset] [(.long ((((q7.toUInt64 >>> ((32 : Int32) &&& 0x3f).toInt64.toUInt64).toInt64) * (q8 &&& (4294967295 : Int64))) + ((q7 &&& (4294967295 : Int64)) * ((q8.toUInt64 >>> ((32 : Int32) &&& 0x3f).toInt64.toUInt64).toInt64))))]))
            refine Goes.of (fun t k => XS.lstore X0.here hx rfl (hb hby d2_79) rfl (l' := #[.val (.long q7), .second, .val (.long q8), .second, .val (.long ((q7.toUInt64 >>> ((32 : Int32) &&& 0x3f).toInt64.toUInt64).toInt64)), .second, .val (.long (q7 &&& (4294967295 : Int64))), .second, .val (.long ((q8.toUInt64 >>> ((32 : Int32) &&& 0x3f).toInt64.toUInt64).toInt64)), .second, .val (.long (q8 &&& (4294967295 : Int64))), .second, .val (.long ((((q7.toUInt64 >>> ((32 : Int32) &&& 0x3f).toInt64.toUInt64).toInt64) * (q8 &&& (4294967295 : Int64))) + ((q7 &&& (4294967295 : Int64)) * ((q8.toUInt64 >>> ((32 : Int32) &&& 0x3f).toInt64.toUInt64).toInt64)))), .second, .unset, .unset, .unset, .unset]) rfl k) ?_
            show Goes _ _ _ _ _ _ _ (s₁.setTop (mkF m 81 #[.val (.long q7), .second, .val (.long q8), .second, .val (.long ((q7.toUInt64 >>> ((32 : Int32) &&& 0x3f).toInt64.toUInt64).toInt64)), .second, .val (.long (q7 &&& (4294967295 : Int64))), .second, .val (.long ((q8.toUInt64 >>> ((32 : Int32) &&& 0x3f).toInt64.toUInt64).toInt64)), .second, .val (.long (q8 &&& (4294967295 : Int64))), .second, .val (.long ((((q7.toUInt64 >>> ((32 : Int32) &&& 0x3f).toInt64.toUInt64).toInt64) * (q8 &&& (4294967295 : Int64))) + ((q7 &&& (4294967295 : Int64)) * ((q8.toUInt64 >>> ((32 : Int32) &&& 0x3f).toInt64.toUInt64).toInt64)))), .second, .unset, .unset, .unset, .unset] []))
            refine Goes.of (fun t k => XS.lload X0.here hx rfl (hb hby d2_81) rfl k) ?_
            show Goes _ _ _ _ _ _ _ (s₁.setTop (mkF m 83 #[.val (.long q7), .second, .val (.long q8), .second, .val (.long ((q7.toUInt64 >>> ((32 : Int32) &&& 0x3f).toInt64.toUInt64).toInt64)), .second, .val (.long (q7 &&& (4294967295 : Int64))), .second, .val (.long ((q8.toUInt64 >>> ((32 : Int32) &&& 0x3f).toInt64.toUInt64).toInt64)), .second, .val (.long (q8 &&& (4294967295 : Int64))), .second, .val (.long ((((q7.toUInt64 >>> ((32 : Int32) &&& 0x3f).toInt64.toUInt64).toInt64) * (q8 &&& (4294967295 : Int64))) + ((q7 &&& (4294967295 : Int64)) * ((q8.toUInt64 >>> ((32 : Int32) &&& 0x3f).toInt64.toUInt64).toInt64)))), .second, .unset, .unset, .unset, .unset] [(.long ((((q7.toUInt64 >>> ((32 : Int32) &&& 0x3f).toInt64.toUInt64).toInt64) * (q8 &&& (4294967295 : Int64))) + ((q7 &&& (4294967295 : Int64)) * ((q8.toUInt64 >>> ((32 : Int32) &&& 0x3f).toInt64.toUInt64).toInt64))))]))
            refine Goes.of (fun t k => X0.ldc2Long hx hown (mvT hZ (hw _ (List.mem_of_getElem? (i := 11) rfl))) (g := (mkF m 83 #[.val (.long q7), .second, .val (.long q8), .second, .val (.long ((q7.toUInt64 >>> ((32 : Int32) &&& 0x3f).toInt64.toUInt64).toInt64)), .second, .val (.long (q7 &&& (4294967295 : Int64))), .second, .val (.long ((q8.toUInt64 >>> ((32 : Int32) &&& 0x3f).toInt64.toUInt64).toInt64)), .second, .val (.long (q8 &&& (4294967295 : Int64))), .second, .val (.long ((((q7.toUInt64 >>> ((32 : Int32) &&& 0x3f).toInt64.toUInt64).toInt64) * (q8 &&& (4294967295 : Int64))) + ((q7 &&& (4294967295 : Int64)) * ((q8.toUInt64 >>> ((32 : Int32) &&& 0x3f).toInt64.toUInt64).toInt64)))), .second, .unset, .unset, .unset, .unset] [(.long ((((q7.toUInt64 >>> ((32 : Int32) &&& 0x3f).toInt64.toUInt64).toInt64) * (q8 &&& (4294967295 : Int64))) + ((q7 &&& (4294967295 : Int64)) * ((q8.toUInt64 >>> ((32 : Int32) &&& 0x3f).toInt64.toUInt64).toInt64))))])) rfl (hb hby d2_83) t k) ?_
            show Goes _ _ _ _ _ _ _ (s₁.setTop (mkF m 86 #[.val (.long q7), .second, .val (.long q8), .second, .val (.long ((q7.toUInt64 >>> ((32 : Int32) &&& 0x3f).toInt64.toUInt64).toInt64)), .second, .val (.long (q7 &&& (4294967295 : Int64))), .second, .val (.long ((q8.toUInt64 >>> ((32 : Int32) &&& 0x3f).toInt64.toUInt64).toInt64)), .second, .val (.long (q8 &&& (4294967295 : Int64))), .second, .val (.long ((((q7.toUInt64 >>> ((32 : Int32) &&& 0x3f).toInt64.toUInt64).toInt64) * (q8 &&& (4294967295 : Int64))) + ((q7 &&& (4294967295 : Int64)) * ((q8.toUInt64 >>> ((32 : Int32) &&& 0x3f).toInt64.toUInt64).toInt64)))), .second, .unset, .unset, .unset, .unset] [(.long (2147483647 : Int64)), (.long ((((q7.toUInt64 >>> ((32 : Int32) &&& 0x3f).toInt64.toUInt64).toInt64) * (q8 &&& (4294967295 : Int64))) + ((q7 &&& (4294967295 : Int64)) * ((q8.toUInt64 >>> ((32 : Int32) &&& 0x3f).toInt64.toUInt64).toInt64))))]))
            refine Goes.of (fun t k => XS.lcmp X0.here hx rfl (hb hby d2_86) rfl k) ?_
            show Goes _ _ _ _ _ _ _ (s₁.setTop (mkF m 87 #[.val (.long q7), .second, .val (.long q8), .second, .val (.long ((q7.toUInt64 >>> ((32 : Int32) &&& 0x3f).toInt64.toUInt64).toInt64)), .second, .val (.long (q7 &&& (4294967295 : Int64))), .second, .val (.long ((q8.toUInt64 >>> ((32 : Int32) &&& 0x3f).toInt64.toUInt64).toInt64)), .second, .val (.long (q8 &&& (4294967295 : Int64))), .second, .val (.long ((((q7.toUInt64 >>> ((32 : Int32) &&& 0x3f).toInt64.toUInt64).toInt64) * (q8 &&& (4294967295 : Int64))) + ((q7 &&& (4294967295 : Int64)) * ((q8.toUInt64 >>> ((32 : Int32) &&& 0x3f).toInt64.toUInt64).toInt64)))), .second, .unset, .unset, .unset, .unset] [(.int (lcmpW ((((q7.toUInt64 >>> ((32 : Int32) &&& 0x3f).toInt64.toUInt64).toInt64) * (q8 &&& (4294967295 : Int64))) + ((q7 &&& (4294967295 : Int64)) * ((q8.toUInt64 >>> ((32 : Int32) &&& 0x3f).toInt64.toUInt64).toInt64))) (2147483647 : Int64)))]))
            by_cases hc17 : (2147483647 : Int64) < ((((q7.toUInt64 >>> ((32 : Int32) &&& 0x3f).toInt64.toUInt64).toInt64) * (q8 &&& (4294967295 : Int64))) + ((q7 &&& (4294967295 : Int64)) * ((q8.toUInt64 >>> ((32 : Int32) &&& 0x3f).toInt64.toUInt64).toInt64)))
            · refine Goes.of (fun t k => XS.ifNo X0.here hx rfl (hb hby d2_87) rfl ((if0 _ _).trans (tlt ((lw_gt _ _).mpr hc17)).2.2.2) k) ?_
              show Goes _ _ _ _ _ _ _ (s₁.setTop (mkF m 90 #[.val (.long q7), .second, .val (.long q8), .second, .val (.long ((q7.toUInt64 >>> ((32 : Int32) &&& 0x3f).toInt64.toUInt64).toInt64)), .second, .val (.long (q7 &&& (4294967295 : Int64))), .second, .val (.long ((q8.toUInt64 >>> ((32 : Int32) &&& 0x3f).toInt64.toUInt64).toInt64)), .second, .val (.long (q8 &&& (4294967295 : Int64))), .second, .val (.long ((((q7.toUInt64 >>> ((32 : Int32) &&& 0x3f).toInt64.toUInt64).toInt64) * (q8 &&& (4294967295 : Int64))) + ((q7 &&& (4294967295 : Int64)) * ((q8.toUInt64 >>> ((32 : Int32) &&& 0x3f).toInt64.toUInt64).toInt64)))), .second, .unset, .unset, .unset, .unset] []))
              refine Goes.of (fun t k => X0.ldc2Long hx hown (mvT hZ (hw _ (List.mem_of_getElem? (i := 0) rfl))) (g := (mkF m 90 #[.val (.long q7), .second, .val (.long q8), .second, .val (.long ((q7.toUInt64 >>> ((32 : Int32) &&& 0x3f).toInt64.toUInt64).toInt64)), .second, .val (.long (q7 &&& (4294967295 : Int64))), .second, .val (.long ((q8.toUInt64 >>> ((32 : Int32) &&& 0x3f).toInt64.toUInt64).toInt64)), .second, .val (.long (q8 &&& (4294967295 : Int64))), .second, .val (.long ((((q7.toUInt64 >>> ((32 : Int32) &&& 0x3f).toInt64.toUInt64).toInt64) * (q8 &&& (4294967295 : Int64))) + ((q7 &&& (4294967295 : Int64)) * ((q8.toUInt64 >>> ((32 : Int32) &&& 0x3f).toInt64.toUInt64).toInt64)))), .second, .unset, .unset, .unset, .unset] [])) rfl (hb hby d2_90) t k) ?_
              show Goes _ _ _ _ _ _ _ (s₁.setTop (mkF m 93 #[.val (.long q7), .second, .val (.long q8), .second, .val (.long ((q7.toUInt64 >>> ((32 : Int32) &&& 0x3f).toInt64.toUInt64).toInt64)), .second, .val (.long (q7 &&& (4294967295 : Int64))), .second, .val (.long ((q8.toUInt64 >>> ((32 : Int32) &&& 0x3f).toInt64.toUInt64).toInt64)), .second, .val (.long (q8 &&& (4294967295 : Int64))), .second, .val (.long ((((q7.toUInt64 >>> ((32 : Int32) &&& 0x3f).toInt64.toUInt64).toInt64) * (q8 &&& (4294967295 : Int64))) + ((q7 &&& (4294967295 : Int64)) * ((q8.toUInt64 >>> ((32 : Int32) &&& 0x3f).toInt64.toUInt64).toInt64)))), .second, .unset, .unset, .unset, .unset] [(.long (9223372036854775807 : Int64))]))
              exact Goes.fin X0 hlk (v := some (.long (9223372036854775807 : Int64))) (fun h => by rw [Bd.returns] at h; cases h) (fun fs hr => retOut X0 hx Bd.returns (by rfl) (Or.inr (Or.inl ⟨rfl, rfl, _, rfl⟩)) (hb hby d2_93) hr) ⟨congrArg (fun z => some (Value.long z)) (by rw [f2, if_neg hc9, if_neg hc10, if_neg hc11, if_neg hc12, if_pos hc16, if_pos hc17] : (9223372036854775807 : Int64) = f2 q7 q8), N0, e0⟩ (by decide) (by decide)
            · refine Goes.of (fun t k => XS.ifYes X0.here hx rfl (pc0 := 87) (pc' := 94) rfl (hb hby d2_87) rfl ((if0 _ _).trans (flt (fun q => hc17 ((lw_gt _ _).mp q))).2.2.2) (by decide) (by decide) k) ?_
              show Goes _ _ _ _ _ _ _ (s₁.setTop (mkF m 94 #[.val (.long q7), .second, .val (.long q8), .second, .val (.long ((q7.toUInt64 >>> ((32 : Int32) &&& 0x3f).toInt64.toUInt64).toInt64)), .second, .val (.long (q7 &&& (4294967295 : Int64))), .second, .val (.long ((q8.toUInt64 >>> ((32 : Int32) &&& 0x3f).toInt64.toUInt64).toInt64)), .second, .val (.long (q8 &&& (4294967295 : Int64))), .second, .val (.long ((((q7.toUInt64 >>> ((32 : Int32) &&& 0x3f).toInt64.toUInt64).toInt64) * (q8 &&& (4294967295 : Int64))) + ((q7 &&& (4294967295 : Int64)) * ((q8.toUInt64 >>> ((32 : Int32) &&& 0x3f).toInt64.toUInt64).toInt64)))), .second, .unset, .unset, .unset, .unset] []))
              refine Goes.of (fun t k => XS.lload X0.here hx rfl (hb hby d2_94) rfl k) ?_
              show Goes _ _ _ _ _ _ _ (s₁.setTop (mkF m 96 #[.val (.long q7), .second, .val (.long q8), .second, .val (.long ((q7.toUInt64 >>> ((32 : Int32) &&& 0x3f).toInt64.toUInt64).toInt64)), .second, .val (.long (q7 &&& (4294967295 : Int64))), .second, .val (.long ((q8.toUInt64 >>> ((32 : Int32) &&& 0x3f).toInt64.toUInt64).toInt64)), .second, .val (.long (q8 &&& (4294967295 : Int64))), .second, .val (.long ((((q7.toUInt64 >>> ((32 : Int32) &&& 0x3f).toInt64.toUInt64).toInt64) * (q8 &&& (4294967295 : Int64))) + ((q7 &&& (4294967295 : Int64)) * ((q8.toUInt64 >>> ((32 : Int32) &&& 0x3f).toInt64.toUInt64).toInt64)))), .second, .unset, .unset, .unset, .unset] [(.long (q7 &&& (4294967295 : Int64)))]))
              refine Goes.of (fun t k => XS.lload X0.here hx rfl (hb hby d2_96) rfl k) ?_
              show Goes _ _ _ _ _ _ _ (s₁.setTop (mkF m 98 #[.val (.long q7), .second, .val (.long q8), .second, .val (.long ((q7.toUInt64 >>> ((32 : Int32) &&& 0x3f).toInt64.toUInt64).toInt64)), .second, .val (.long (q7 &&& (4294967295 : Int64))), .second, .val (.long ((q8.toUInt64 >>> ((32 : Int32) &&& 0x3f).toInt64.toUInt64).toInt64)), .second, .val (.long (q8 &&& (4294967295 : Int64))), .second, .val (.long ((((q7.toUInt64 >>> ((32 : Int32) &&& 0x3f).toInt64.toUInt64).toInt64) * (q8 &&& (4294967295 : Int64))) + ((q7 &&& (4294967295 : Int64)) * ((q8.toUInt64 >>> ((32 : Int32) &&& 0x3f).toInt64.toUInt64).toInt64)))), .second, .unset, .unset, .unset, .unset] [(.long (q8 &&& (4294967295 : Int64))), (.long (q7 &&& (4294967295 : Int64)))]))
              refine Goes.of (fun t k => XS.lmul X0.here hx rfl (hb hby d2_98) rfl k) ?_
              show Goes _ _ _ _ _ _ _ (s₁.setTop (mkF m 99 #[.val (.long q7), .second, .val (.long q8), .second, .val (.long ((q7.toUInt64 >>> ((32 : Int32) &&& 0x3f).toInt64.toUInt64).toInt64)), .second, .val (.long (q7 &&& (4294967295 : Int64))), .second, .val (.long ((q8.toUInt64 >>> ((32 : Int32) &&& 0x3f).toInt64.toUInt64).toInt64)), .second, .val (.long (q8 &&& (4294967295 : Int64))), .second, .val (.long ((((q7.toUInt64 >>> ((32 : Int32) &&& 0x3f).toInt64.toUInt64).toInt64) * (q8 &&& (4294967295 : Int64))) + ((q7 &&& (4294967295 : Int64)) * ((q8.toUInt64 >>> ((32 : Int32) &&& 0x3f).toInt64.toUInt64).toInt64)))), .second, .unset, .unset, .unset, .unset] [(.long ((q7 &&& (4294967295 : Int64)) * (q8 &&& (4294967295 : Int64))))]))
              refine Goes.of (fun t k => XS.lstore X0.here hx rfl (hb hby d2_99) rfl (l' := #[.val (.long q7), .second, .val (.long q8), .second, .val (.long ((q7.toUInt64 >>> ((32 : Int32) &&& 0x3f).toInt64.toUInt64).toInt64)), .second, .val (.long (q7 &&& (4294967295 : Int64))), .second, .val (.long ((q8.toUInt64 >>> ((32 : Int32) &&& 0x3f).toInt64.toUInt64).toInt64)), .second, .val (.long (q8 &&& (4294967295 : Int64))), .second, .val (.long ((((q7.toUInt64 >>> ((32 : Int32) &&& 0x3f).toInt64.toUInt64).toInt64) * (q8 &&& (4294967295 : Int64))) + ((q7 &&& (4294967295 : Int64)) * ((q8.toUInt64 >>> ((32 : Int32) &&& 0x3f).toInt64.toUInt64).toInt64)))), .second, .val (.long ((q7 &&& (4294967295 : Int64)) * (q8 &&& (4294967295 : Int64)))), .second, .unset, .unset]) rfl k) ?_
              show Goes _ _ _ _ _ _ _ (s₁.setTop (mkF m 101 #[.val (.long q7), .second, .val (.long q8), .second, .val (.long ((q7.toUInt64 >>> ((32 : Int32) &&& 0x3f).toInt64.toUInt64).toInt64)), .second, .val (.long (q7 &&& (4294967295 : Int64))), .second, .val (.long ((q8.toUInt64 >>> ((32 : Int32) &&& 0x3f).toInt64.toUInt64).toInt64)), .second, .val (.long (q8 &&& (4294967295 : Int64))), .second, .val (.long ((((q7.toUInt64 >>> ((32 : Int32) &&& 0x3f).toInt64.toUInt64).toInt64) * (q8 &&& (4294967295 : Int64))) + ((q7 &&& (4294967295 : Int64)) * ((q8.toUInt64 >>> ((32 : Int32) &&& 0x3f).toInt64.toUInt64).toInt64)))), .second, .val (.long ((q7 &&& (4294967295 : Int64)) * (q8 &&& (4294967295 : Int64)))), .second, .unset, .unset] []))
              refine Goes.of (fun t k => XS.lload X0.here hx rfl (hb hby d2_101) rfl k) ?_
              show Goes _ _ _ _ _ _ _ (s₁.setTop (mkF m 103 #[.val (.long q7), .second, .val (.long q8), .second, .val (.long ((q7.toUInt64 >>> ((32 : Int32) &&& 0x3f).toInt64.toUInt64).toInt64)), .second, .val (.long (q7 &&& (4294967295 : Int64))), .second, .val (.long ((q8.toUInt64 >>> ((32 : Int32) &&& 0x3f).toInt64.toUInt64).toInt64)), .second, .val (.long (q8 &&& (4294967295 : Int64))), .second, .val (.long ((((q7.toUInt64 >>> ((32 : Int32) &&& 0x3f).toInt64.toUInt64).toInt64) * (q8 &&& (4294967295 : Int64))) + ((q7 &&& (4294967295 : Int64)) * ((q8.toUInt64 >>> ((32 : Int32) &&& 0x3f).toInt64.toUInt64).toInt64)))), .second, .val (.long ((q7 &&& (4294967295 : Int64)) * (q8 &&& (4294967295 : Int64)))), .second, .unset, .unset] [(.long ((q7 &&& (4294967295 : Int64)) * (q8 &&& (4294967295 : Int64))))]))
              refine Goes.of (fun t k => XS.lconst X0.here hx rfl (hb hby d2_103) k) ?_
              show Goes _ _ _ _ _ _ _ (s₁.setTop (mkF m 104 #[.val (.long q7), .second, .val (.long q8), .second, .val (.long ((q7.toUInt64 >>> ((32 : Int32) &&& 0x3f).toInt64.toUInt64).toInt64)), .second, .val (.long (q7 &&& (4294967295 : Int64))), .second, .val (.long ((q8.toUInt64 >>> ((32 : Int32) &&& 0x3f).toInt64.toUInt64).toInt64)), .second, .val (.long (q8 &&& (4294967295 : Int64))), .second, .val (.long ((((q7.toUInt64 >>> ((32 : Int32) &&& 0x3f).toInt64.toUInt64).toInt64) * (q8 &&& (4294967295 : Int64))) + ((q7 &&& (4294967295 : Int64)) * ((q8.toUInt64 >>> ((32 : Int32) &&& 0x3f).toInt64.toUInt64).toInt64)))), .second, .val (.long ((q7 &&& (4294967295 : Int64)) * (q8 &&& (4294967295 : Int64)))), .second, .unset, .unset] [(.long (0 : Int64)), (.long ((q7 &&& (4294967295 : Int64)) * (q8 &&& (4294967295 : Int64))))]))
              refine Goes.of (fun t k => XS.lcmp X0.here hx rfl (hb hby d2_104) rfl k) ?_
              show Goes _ _ _ _ _ _ _ (s₁.setTop (mkF m 105 #[.val (.long q7), .second, .val (.long q8), .second, .val (.long ((q7.toUInt64 >>> ((32 : Int32) &&& 0x3f).toInt64.toUInt64).toInt64)), .second, .val (.long (q7 &&& (4294967295 : Int64))), .second, .val (.long ((q8.toUInt64 >>> ((32 : Int32) &&& 0x3f).toInt64.toUInt64).toInt64)), .second, .val (.long (q8 &&& (4294967295 : Int64))), .second, .val (.long ((((q7.toUInt64 >>> ((32 : Int32) &&& 0x3f).toInt64.toUInt64).toInt64) * (q8 &&& (4294967295 : Int64))) + ((q7 &&& (4294967295 : Int64)) * ((q8.toUInt64 >>> ((32 : Int32) &&& 0x3f).toInt64.toUInt64).toInt64)))), .second, .val (.long ((q7 &&& (4294967295 : Int64)) * (q8 &&& (4294967295 : Int64)))), .second, .unset, .unset] [(.int (lcmpW ((q7 &&& (4294967295 : Int64)) * (q8 &&& (4294967295 : Int64))) (0 : Int64)))]))
              by_cases hc18 : ((q7 &&& (4294967295 : Int64)) * (q8 &&& (4294967295 : Int64))) < (0 : Int64)
              · refine Goes.of (fun t k => XS.ifNo X0.here hx rfl (hb hby d2_105) rfl ((if0 _ _).trans (tlt ((lw_lt _ _).mpr hc18)).2.1) k) ?_
                show Goes _ _ _ _ _ _ _ (s₁.setTop (mkF m 108 #[.val (.long q7), .second, .val (.long q8), .second, .val (.long ((q7.toUInt64 >>> ((32 : Int32) &&& 0x3f).toInt64.toUInt64).toInt64)), .second, .val (.long (q7 &&& (4294967295 : Int64))), .second, .val (.long ((q8.toUInt64 >>> ((32 : Int32) &&& 0x3f).toInt64.toUInt64).toInt64)), .second, .val (.long (q8 &&& (4294967295 : Int64))), .second, .val (.long ((((q7.toUInt64 >>> ((32 : Int32) &&& 0x3f).toInt64.toUInt64).toInt64) * (q8 &&& (4294967295 : Int64))) + ((q7 &&& (4294967295 : Int64)) * ((q8.toUInt64 >>> ((32 : Int32) &&& 0x3f).toInt64.toUInt64).toInt64)))), .second, .val (.long ((q7 &&& (4294967295 : Int64)) * (q8 &&& (4294967295 : Int64)))), .second, .unset, .unset] []))
                refine Goes.of (fun t k => X0.ldc2Long hx hown (mvT hZ (hw _ (List.mem_of_getElem? (i := 0) rfl))) (g := (mkF m 108 #[.val (.long q7), .second, .val (.long q8), .second, .val (.long ((q7.toUInt64 >>> ((32 : Int32) &&& 0x3f).toInt64.toUInt64).toInt64)), .second, .val (.long (q7 &&& (4294967295 : Int64))), .second, .val (.long ((q8.toUInt64 >>> ((32 : Int32) &&& 0x3f).toInt64.toUInt64).toInt64)), .second, .val (.long (q8 &&& (4294967295 : Int64))), .second, .val (.long ((((q7.toUInt64 >>> ((32 : Int32) &&& 0x3f).toInt64.toUInt64).toInt64) * (q8 &&& (4294967295 : Int64))) + ((q7 &&& (4294967295 : Int64)) * ((q8.toUInt64 >>> ((32 : Int32) &&& 0x3f).toInt64.toUInt64).toInt64)))), .second, .val (.long ((q7 &&& (4294967295 : Int64)) * (q8 &&& (4294967295 : Int64)))), .second, .unset, .unset] [])) rfl (hb hby d2_108) t k) ?_
                show Goes _ _ _ _ _ _ _ (s₁.setTop (mkF m 111 #[.val (.long q7), .second, .val (.long q8), .second, .val (.long ((q7.toUInt64 >>> ((32 : Int32) &&& 0x3f).toInt64.toUInt64).toInt64)), .second, .val (.long (q7 &&& (4294967295 : Int64))), .second, .val (.long ((q8.toUInt64 >>> ((32 : Int32) &&& 0x3f).toInt64.toUInt64).toInt64)), .second, .val (.long (q8 &&& (4294967295 : Int64))), .second, .val (.long ((((q7.toUInt64 >>> ((32 : Int32) &&& 0x3f).toInt64.toUInt64).toInt64) * (q8 &&& (4294967295 : Int64))) + ((q7 &&& (4294967295 : Int64)) * ((q8.toUInt64 >>> ((32 : Int32) &&& 0x3f).toInt64.toUInt64).toInt64)))), .second, .val (.long ((q7 &&& (4294967295 : Int64)) * (q8 &&& (4294967295 : Int64)))), .second, .unset, .unset] [(.long (9223372036854775807 : Int64))]))
                exact Goes.fin X0 hlk (v := some (.long (9223372036854775807 : Int64))) (fun h => by rw [Bd.returns] at h; cases h) (fun fs hr => retOut X0 hx Bd.returns (by rfl) (Or.inr (Or.inl ⟨rfl, rfl, _, rfl⟩)) (hb hby d2_111) hr) ⟨congrArg (fun z => some (Value.long z)) (by rw [f2, if_neg hc9, if_neg hc10, if_neg hc11, if_neg hc12, if_pos hc16, if_neg hc17, if_pos hc18] : (9223372036854775807 : Int64) = f2 q7 q8), N0, e0⟩ (by decide) (by decide)
              · refine Goes.of (fun t k => XS.ifYes X0.here hx rfl (pc0 := 105) (pc' := 112) rfl (hb hby d2_105) rfl ((if0 _ _).trans (flt (fun q => hc18 ((lw_lt _ _).mp q))).2.1) (by decide) (by decide) k) ?_
                show Goes _ _ _ _ _ _ _ (s₁.setTop (mkF m 112 #[.val (.long q7), .second, .val (.long q8), .second, .val (.long ((q7.toUInt64 >>> ((32 : Int32) &&& 0x3f).toInt64.toUInt64).toInt64)), .second, .val (.long (q7 &&& (4294967295 : Int64))), .second, .val (.long ((q8.toUInt64 >>> ((32 : Int32) &&& 0x3f).toInt64.toUInt64).toInt64)), .second, .val (.long (q8 &&& (4294967295 : Int64))), .second, .val (.long ((((q7.toUInt64 >>> ((32 : Int32) &&& 0x3f).toInt64.toUInt64).toInt64) * (q8 &&& (4294967295 : Int64))) + ((q7 &&& (4294967295 : Int64)) * ((q8.toUInt64 >>> ((32 : Int32) &&& 0x3f).toInt64.toUInt64).toInt64)))), .second, .val (.long ((q7 &&& (4294967295 : Int64)) * (q8 &&& (4294967295 : Int64)))), .second, .unset, .unset] []))
                refine Goes.of (fun t k => XS.lload X0.here hx rfl (hb hby d2_112) rfl k) ?_
                show Goes _ _ _ _ _ _ _ (s₁.setTop (mkF m 114 #[.val (.long q7), .second, .val (.long q8), .second, .val (.long ((q7.toUInt64 >>> ((32 : Int32) &&& 0x3f).toInt64.toUInt64).toInt64)), .second, .val (.long (q7 &&& (4294967295 : Int64))), .second, .val (.long ((q8.toUInt64 >>> ((32 : Int32) &&& 0x3f).toInt64.toUInt64).toInt64)), .second, .val (.long (q8 &&& (4294967295 : Int64))), .second, .val (.long ((((q7.toUInt64 >>> ((32 : Int32) &&& 0x3f).toInt64.toUInt64).toInt64) * (q8 &&& (4294967295 : Int64))) + ((q7 &&& (4294967295 : Int64)) * ((q8.toUInt64 >>> ((32 : Int32) &&& 0x3f).toInt64.toUInt64).toInt64)))), .second, .val (.long ((q7 &&& (4294967295 : Int64)) * (q8 &&& (4294967295 : Int64)))), .second, .unset, .unset] [(.long ((((q7.toUInt64 >>> ((32 : Int32) &&& 0x3f).toInt64.toUInt64).toInt64) * (q8 &&& (4294967295 : Int64))) + ((q7 &&& (4294967295 : Int64)) * ((q8.toUInt64 >>> ((32 : Int32) &&& 0x3f).toInt64.toUInt64).toInt64))))]))
                refine Goes.of (fun t k => XS.bipush X0.here hx rfl (hb hby d2_114) k) ?_
                show Goes _ _ _ _ _ _ _ (s₁.setTop (mkF m 116 #[.val (.long q7), .second, .val (.long q8), .second, .val (.long ((q7.toUInt64 >>> ((32 : Int32) &&& 0x3f).toInt64.toUInt64).toInt64)), .second, .val (.long (q7 &&& (4294967295 : Int64))), .second, .val (.long ((q8.toUInt64 >>> ((32 : Int32) &&& 0x3f).toInt64.toUInt64).toInt64)), .second, .val (.long (q8 &&& (4294967295 : Int64))), .second, .val (.long ((((q7.toUInt64 >>> ((32 : Int32) &&& 0x3f).toInt64.toUInt64).toInt64) * (q8 &&& (4294967295 : Int64))) + ((q7 &&& (4294967295 : Int64)) * ((q8.toUInt64 >>> ((32 : Int32) &&& 0x3f).toInt64.toUInt64).toInt64)))), .second, .val (.long ((q7 &&& (4294967295 : Int64)) * (q8 &&& (4294967295 : Int64)))), .second, .unset, .unset] [(.int (32 : Int32)), (.long ((((q7.toUInt64 >>> ((32 : Int32) &&& 0x3f).toInt64.toUInt64).toInt64) * (q8 &&& (4294967295 : Int64))) + ((q7 &&& (4294967295 : Int64)) * ((q8.toUInt64 >>> ((32 : Int32) &&& 0x3f).toInt64.toUInt64).toInt64))))]))
                refine Goes.of (fun t k => XS.lshl X0.here hx rfl (hb hby d2_116) rfl k) ?_
                show Goes _ _ _ _ _ _ _ (s₁.setTop (mkF m 117 #[.val (.long q7), .second, .val (.long q8), .second, .val (.long ((q7.toUInt64 >>> ((32 : Int32) &&& 0x3f).toInt64.toUInt64).toInt64)), .second, .val (.long (q7 &&& (4294967295 : Int64))), .second, .val (.long ((q8.toUInt64 >>> ((32 : Int32) &&& 0x3f).toInt64.toUInt64).toInt64)), .second, .val (.long (q8 &&& (4294967295 : Int64))), .second, .val (.long ((((q7.toUInt64 >>> ((32 : Int32) &&& 0x3f).toInt64.toUInt64).toInt64) * (q8 &&& (4294967295 : Int64))) + ((q7 &&& (4294967295 : Int64)) * ((q8.toUInt64 >>> ((32 : Int32) &&& 0x3f).toInt64.toUInt64).toInt64)))), .second, .val (.long ((q7 &&& (4294967295 : Int64)) * (q8 &&& (4294967295 : Int64)))), .second, .unset, .unset] [(.long (((((q7.toUInt64 >>> ((32 : Int32) &&& 0x3f).toInt64.toUInt64).toInt64) * (q8 &&& (4294967295 : Int64))) + ((q7 &&& (4294967295 : Int64)) * ((q8.toUInt64 >>> ((32 : Int32) &&& 0x3f).toInt64.toUInt64).toInt64))) <<< ((32 : Int32) &&& 0x3f).toInt64))]))
                refine Goes.of (fun t k => XS.lload X0.here hx rfl (hb hby d2_117) rfl k) ?_
                show Goes _ _ _ _ _ _ _ (s₁.setTop (mkF m 119 #[.val (.long q7), .second, .val (.long q8), .second, .val (.long ((q7.toUInt64 >>> ((32 : Int32) &&& 0x3f).toInt64.toUInt64).toInt64)), .second, .val (.long (q7 &&& (4294967295 : Int64))), .second, .val (.long ((q8.toUInt64 >>> ((32 : Int32) &&& 0x3f).toInt64.toUInt64).toInt64)), .second, .val (.long (q8 &&& (4294967295 : Int64))), .second, .val (.long ((((q7.toUInt64 >>> ((32 : Int32) &&& 0x3f).toInt64.toUInt64).toInt64) * (q8 &&& (4294967295 : Int64))) + ((q7 &&& (4294967295 : Int64)) * ((q8.toUInt64 >>> ((32 : Int32) &&& 0x3f).toInt64.toUInt64).toInt64)))), .second, .val (.long ((q7 &&& (4294967295 : Int64)) * (q8 &&& (4294967295 : Int64)))), .second, .unset, .unset] [(.long ((q7 &&& (4294967295 : Int64)) * (q8 &&& (4294967295 : Int64)))), (.long (((((q7.toUInt64 >>> ((32 : Int32) &&& 0x3f).toInt64.toUInt64).toInt64) * (q8 &&& (4294967295 : Int64))) + ((q7 &&& (4294967295 : Int64)) * ((q8.toUInt64 >>> ((32 : Int32) &&& 0x3f).toInt64.toUInt64).toInt64))) <<< ((32 : Int32) &&& 0x3f).toInt64))]))
                refine Goes.of (fun t k => XS.ladd X0.here hx rfl (hb hby d2_119) rfl k) ?_
                show Goes _ _ _ _ _ _ _ (s₁.setTop (mkF m 120 #[.val (.long q7), .second, .val (.long q8), .second, .val (.long ((q7.toUInt64 >>> ((32 : Int32) &&& 0x3f).toInt64.toUInt64).toInt64)), .second, .val (.long (q7 &&& (4294967295 : Int64))), .second, .val (.long ((q8.toUInt64 >>> ((32 : Int32) &&& 0x3f).toInt64.toUInt64).toInt64)), .second, .val (.long (q8 &&& (4294967295 : Int64))), .second, .val (.long ((((q7.toUInt64 >>> ((32 : Int32) &&& 0x3f).toInt64.toUInt64).toInt64) * (q8 &&& (4294967295 : Int64))) + ((q7 &&& (4294967295 : Int64)) * ((q8.toUInt64 >>> ((32 : Int32) &&& 0x3f).toInt64.toUInt64).toInt64)))), .second, .val (.long ((q7 &&& (4294967295 : Int64)) * (q8 &&& (4294967295 : Int64)))), .second, .unset, .unset] [(.long ((((((q7.toUInt64 >>> ((32 : Int32) &&& 0x3f).toInt64.toUInt64).toInt64) * (q8 &&& (4294967295 : Int64))) + ((q7 &&& (4294967295 : Int64)) * ((q8.toUInt64 >>> ((32 : Int32) &&& 0x3f).toInt64.toUInt64).toInt64))) <<< ((32 : Int32) &&& 0x3f).toInt64) + ((q7 &&& (4294967295 : Int64)) * (q8 &&& (4294967295 : Int64)))))]))
                refine Goes.of (fun t k => XS.lstore X0.here hx rfl (hb hby d2_120) rfl (l' := #[.val (.long q7), .second, .val (.long q8), .second, .val (.long ((q7.toUInt64 >>> ((32 : Int32) &&& 0x3f).toInt64.toUInt64).toInt64)), .second, .val (.long (q7 &&& (4294967295 : Int64))), .second, .val (.long ((q8.toUInt64 >>> ((32 : Int32) &&& 0x3f).toInt64.toUInt64).toInt64)), .second, .val (.long (q8 &&& (4294967295 : Int64))), .second, .val (.long ((((q7.toUInt64 >>> ((32 : Int32) &&& 0x3f).toInt64.toUInt64).toInt64) * (q8 &&& (4294967295 : Int64))) + ((q7 &&& (4294967295 : Int64)) * ((q8.toUInt64 >>> ((32 : Int32) &&& 0x3f).toInt64.toUInt64).toInt64)))), .second, .val (.long ((q7 &&& (4294967295 : Int64)) * (q8 &&& (4294967295 : Int64)))), .second, .val (.long ((((((q7.toUInt64 >>> ((32 : Int32) &&& 0x3f).toInt64.toUInt64).toInt64) * (q8 &&& (4294967295 : Int64))) + ((q7 &&& (4294967295 : Int64)) * ((q8.toUInt64 >>> ((32 : Int32) &&& 0x3f).toInt64.toUInt64).toInt64))) <<< ((32 : Int32) &&& 0x3f).toInt64) + ((q7 &&& (4294967295 : Int64)) * (q8 &&& (4294967295 : Int64))))), .second]) rfl k) ?_
                show Goes _ _ _ _ _ _ _ (s₁.setTop (mkF m 122 #[.val (.long q7), .second, .val (.long q8), .second, .val (.long ((q7.toUInt64 >>> ((32 : Int32) &&& 0x3f).toInt64.toUInt64).toInt64)), .second, .val (.long (q7 &&& (4294967295 : Int64))), .second, .val (.long ((q8.toUInt64 >>> ((32 : Int32) &&& 0x3f).toInt64.toUInt64).toInt64)), .second, .val (.long (q8 &&& (4294967295 : Int64))), .second, .val (.long ((((q7.toUInt64 >>> ((32 : Int32) &&& 0x3f).toInt64.toUInt64).toInt64) * (q8 &&& (4294967295 : Int64))) + ((q7 &&& (4294967295 : Int64)) * ((q8.toUInt64 >>> ((32 : Int32) &&& 0x3f).toInt64.toUInt64).toInt64)))), .second, .val (.long ((q7 &&& (4294967295 : Int64)) * (q8 &&& (4294967295 : Int64)))), .second, .val (.long ((((((q7.toUInt64 >>> ((32 : Int32) &&& 0x3f).toInt64.toUInt64).toInt64) * (q8 &&& (4294967295 : Int64))) + ((q7 &&& (4294967295 : Int64)) * ((q8.toUInt64 >>> ((32 : Int32) &&& 0x3f).toInt64.toUInt64).toInt64))) <<< ((32 : Int32) &&& 0x3f).toInt64) + ((q7 &&& (4294967295 : Int64)) * (q8 &&& (4294967295 : Int64))))), .second] []))
                refine Goes.of (fun t k => XS.lload X0.here hx rfl (hb hby d2_122) rfl k) ?_
                show Goes _ _ _ _ _ _ _ (s₁.setTop (mkF m 124 #[.val (.long q7), .second, .val (.long q8), .second, .val (.long ((q7.toUInt64 >>> ((32 : Int32) &&& 0x3f).toInt64.toUInt64).toInt64)), .second, .val (.long (q7 &&& (4294967295 : Int64))), .second, .val (.long ((q8.toUInt64 >>> ((32 : Int32) &&& 0x3f).toInt64.toUInt64).toInt64)), .second, .val (.long (q8 &&& (4294967295 : Int64))), .second, .val (.long ((((q7.toUInt64 >>> ((32 : Int32) &&& 0x3f).toInt64.toUInt64).toInt64) * (q8 &&& (4294967295 : Int64))) + ((q7 &&& (4294967295 : Int64)) * ((q8.toUInt64 >>> ((32 : Int32) &&& 0x3f).toInt64.toUInt64).toInt64)))), .second, .val (.long ((q7 &&& (4294967295 : Int64)) * (q8 &&& (4294967295 : Int64)))), .second, .val (.long ((((((q7.toUInt64 >>> ((32 : Int32) &&& 0x3f).toInt64.toUInt64).toInt64) * (q8 &&& (4294967295 : Int64))) + ((q7 &&& (4294967295 : Int64)) * ((q8.toUInt64 >>> ((32 : Int32) &&& 0x3f).toInt64.toUInt64).toInt64))) <<< ((32 : Int32) &&& 0x3f).toInt64) + ((q7 &&& (4294967295 : Int64)) * (q8 &&& (4294967295 : Int64))))), .second] [(.long ((((((q7.toUInt64 >>> ((32 : Int32) &&& 0x3f).toInt64.toUInt64).toInt64) * (q8 &&& (4294967295 : Int64))) + ((q7 &&& (4294967295 : Int64)) * ((q8.toUInt64 >>> ((32 : Int32) &&& 0x3f).toInt64.toUInt64).toInt64))) <<< ((32 : Int32) &&& 0x3f).toInt64) + ((q7 &&& (4294967295 : Int64)) * (q8 &&& (4294967295 : Int64)))))]))
                refine Goes.of (fun t k => XS.lconst X0.here hx rfl (hb hby d2_124) k) ?_
                show Goes _ _ _ _ _ _ _ (s₁.setTop (mkF m 125 #[.val (.long q7), .second, .val (.long q8), .second, .val (.long ((q7.toUInt64 >>> ((32 : Int32) &&& 0x3f).toInt64.toUInt64).toInt64)), .second, .val (.long (q7 &&& (4294967295 : Int64))), .second, .val (.long ((q8.toUInt64 >>> ((32 : Int32) &&& 0x3f).toInt64.toUInt64).toInt64)), .second, .val (.long (q8 &&& (4294967295 : Int64))), .second, .val (.long ((((q7.toUInt64 >>> ((32 : Int32) &&& 0x3f).toInt64.toUInt64).toInt64) * (q8 &&& (4294967295 : Int64))) + ((q7 &&& (4294967295 : Int64)) * ((q8.toUInt64 >>> ((32 : Int32) &&& 0x3f).toInt64.toUInt64).toInt64)))), .second, .val (.long ((q7 &&& (4294967295 : Int64)) * (q8 &&& (4294967295 : Int64)))), .second, .val (.long ((((((q7.toUInt64 >>> ((32 : Int32) &&& 0x3f).toInt64.toUInt64).toInt64) * (q8 &&& (4294967295 : Int64))) + ((q7 &&& (4294967295 : Int64)) * ((q8.toUInt64 >>> ((32 : Int32) &&& 0x3f).toInt64.toUInt64).toInt64))) <<< ((32 : Int32) &&& 0x3f).toInt64) + ((q7 &&& (4294967295 : Int64)) * (q8 &&& (4294967295 : Int64))))), .second] [(.long (0 : Int64)), (.long ((((((q7.toUInt64 >>> ((32 : Int32) &&& 0x3f).toInt64.toUInt64).toInt64) * (q8 &&& (4294967295 : Int64))) + ((q7 &&& (4294967295 : Int64)) * ((q8.toUInt64 >>> ((32 : Int32) &&& 0x3f).toInt64.toUInt64).toInt64))) <<< ((32 : Int32) &&& 0x3f).toInt64) + ((q7 &&& (4294967295 : Int64)) * (q8 &&& (4294967295 : Int64)))))]))
                refine Goes.of (fun t k => XS.lcmp X0.here hx rfl (hb hby d2_125) rfl k) ?_
                show Goes _ _ _ _ _ _ _ (s₁.setTop (mkF m 126 #[.val (.long q7), .second, .val (.long q8), .second, .val (.long ((q7.toUInt64 >>> ((32 : Int32) &&& 0x3f).toInt64.toUInt64).toInt64)), .second, .val (.long (q7 &&& (4294967295 : Int64))), .second, .val (.long ((q8.toUInt64 >>> ((32 : Int32) &&& 0x3f).toInt64.toUInt64).toInt64)), .second, .val (.long (q8 &&& (4294967295 : Int64))), .second, .val (.long ((((q7.toUInt64 >>> ((32 : Int32) &&& 0x3f).toInt64.toUInt64).toInt64) * (q8 &&& (4294967295 : Int64))) + ((q7 &&& (4294967295 : Int64)) * ((q8.toUInt64 >>> ((32 : Int32) &&& 0x3f).toInt64.toUInt64).toInt64)))), .second, .val (.long ((q7 &&& (4294967295 : Int64)) * (q8 &&& (4294967295 : Int64)))), .second, .val (.long ((((((q7.toUInt64 >>> ((32 : Int32) &&& 0x3f).toInt64.toUInt64).toInt64) * (q8 &&& (4294967295 : Int64))) + ((q7 &&& (4294967295 : Int64)) * ((q8.toUInt64 >>> ((32 : Int32) &&& 0x3f).toInt64.toUInt64).toInt64))) <<< ((32 : Int32) &&& 0x3f).toInt64) + ((q7 &&& (4294967295 : Int64)) * (q8 &&& (4294967295 : Int64))))), .second] [(.int (lcmpW ((((((q7.toUInt64 >>> ((32 : Int32) &&& 0x3f).toInt64.toUInt64).toInt64) * (q8 &&& (4294967295 : Int64))) + ((q7 &&& (4294967295 : Int64)) * ((q8.toUInt64 >>> ((32 : Int32) &&& 0x3f).toInt64.toUInt64).toInt64))) <<< ((32 : Int32) &&& 0x3f).toInt64) + ((q7 &&& (4294967295 : Int64)) * (q8 &&& (4294967295 : Int64)))) (0 : Int64)))]))
                by_cases hc19 : ((((((q7.toUInt64 >>> ((32 : Int32) &&& 0x3f).toInt64.toUInt64).toInt64) * (q8 &&& (4294967295 : Int64))) + ((q7 &&& (4294967295 : Int64)) * ((q8.toUInt64 >>> ((32 : Int32) &&& 0x3f).toInt64.toUInt64).toInt64))) <<< ((32 : Int32) &&& 0x3f).toInt64) + ((q7 &&& (4294967295 : Int64)) * (q8 &&& (4294967295 : Int64)))) < (0 : Int64)
                · refine Goes.of (fun t k => XS.ifNo X0.here hx rfl (hb hby d2_126) rfl ((if0 _ _).trans (tlt ((lw_lt _ _).mpr hc19)).2.1) k) ?_
                  show Goes _ _ _ _ _ _ _ (s₁.setTop (mkF m 129 #[.val (.long q7), .second, .val (.long q8), .second, .val (.long ((q7.toUInt64 >>> ((32 : Int32) &&& 0x3f).toInt64.toUInt64).toInt64)), .second, .val (.long (q7 &&& (4294967295 : Int64))), .second, .val (.long ((q8.toUInt64 >>> ((32 : Int32) &&& 0x3f).toInt64.toUInt64).toInt64)), .second, .val (.long (q8 &&& (4294967295 : Int64))), .second, .val (.long ((((q7.toUInt64 >>> ((32 : Int32) &&& 0x3f).toInt64.toUInt64).toInt64) * (q8 &&& (4294967295 : Int64))) + ((q7 &&& (4294967295 : Int64)) * ((q8.toUInt64 >>> ((32 : Int32) &&& 0x3f).toInt64.toUInt64).toInt64)))), .second, .val (.long ((q7 &&& (4294967295 : Int64)) * (q8 &&& (4294967295 : Int64)))), .second, .val (.long ((((((q7.toUInt64 >>> ((32 : Int32) &&& 0x3f).toInt64.toUInt64).toInt64) * (q8 &&& (4294967295 : Int64))) + ((q7 &&& (4294967295 : Int64)) * ((q8.toUInt64 >>> ((32 : Int32) &&& 0x3f).toInt64.toUInt64).toInt64))) <<< ((32 : Int32) &&& 0x3f).toInt64) + ((q7 &&& (4294967295 : Int64)) * (q8 &&& (4294967295 : Int64))))), .second] []))
                  refine Goes.of (fun t k => X0.ldc2Long hx hown (mvT hZ (hw _ (List.mem_of_getElem? (i := 0) rfl))) (g := (mkF m 129 #[.val (.long q7), .second, .val (.long q8), .second, .val (.long ((q7.toUInt64 >>> ((32 : Int32) &&& 0x3f).toInt64.toUInt64).toInt64)), .second, .val (.long (q7 &&& (4294967295 : Int64))), .second, .val (.long ((q8.toUInt64 >>> ((32 : Int32) &&& 0x3f).toInt64.toUInt64).toInt64)), .second, .val (.long (q8 &&& (4294967295 : Int64))), .second, .val (.long ((((q7.toUInt64 >>> ((32 : Int32) &&& 0x3f).toInt64.toUInt64).toInt64) * (q8 &&& (4294967295 : Int64))) + ((q7 &&& (4294967295 : Int64)) * ((q8.toUInt64 >>> ((32 : Int32) &&& 0x3f).toInt64.toUInt64).toInt64)))), .second, .val (.long ((q7 &&& (4294967295 : Int64)) * (q8 &&& (4294967295 : Int64)))), .second, .val (.long ((((((q7.toUInt64 >>> ((32 : Int32) &&& 0x3f).toInt64.toUInt64).toInt64) * (q8 &&& (4294967295 : Int64))) + ((q7 &&& (4294967295 : Int64)) * ((q8.toUInt64 >>> ((32 : Int32) &&& 0x3f).toInt64.toUInt64).toInt64))) <<< ((32 : Int32) &&& 0x3f).toInt64) + ((q7 &&& (4294967295 : Int64)) * (q8 &&& (4294967295 : Int64))))), .second] [])) rfl (hb hby d2_129) t k) ?_
                  show Goes _ _ _ _ _ _ _ (s₁.setTop (mkF m 132 #[.val (.long q7), .second, .val (.long q8), .second, .val (.long ((q7.toUInt64 >>> ((32 : Int32) &&& 0x3f).toInt64.toUInt64).toInt64)), .second, .val (.long (q7 &&& (4294967295 : Int64))), .second, .val (.long ((q8.toUInt64 >>> ((32 : Int32) &&& 0x3f).toInt64.toUInt64).toInt64)), .second, .val (.long (q8 &&& (4294967295 : Int64))), .second, .val (.long ((((q7.toUInt64 >>> ((32 : Int32) &&& 0x3f).toInt64.toUInt64).toInt64) * (q8 &&& (4294967295 : Int64))) + ((q7 &&& (4294967295 : Int64)) * ((q8.toUInt64 >>> ((32 : Int32) &&& 0x3f).toInt64.toUInt64).toInt64)))), .second, .val (.long ((q7 &&& (4294967295 : Int64)) * (q8 &&& (4294967295 : Int64)))), .second, .val (.long ((((((q7.toUInt64 >>> ((32 : Int32) &&& 0x3f).toInt64.toUInt64).toInt64) * (q8 &&& (4294967295 : Int64))) + ((q7 &&& (4294967295 : Int64)) * ((q8.toUInt64 >>> ((32 : Int32) &&& 0x3f).toInt64.toUInt64).toInt64))) <<< ((32 : Int32) &&& 0x3f).toInt64) + ((q7 &&& (4294967295 : Int64)) * (q8 &&& (4294967295 : Int64))))), .second] [(.long (9223372036854775807 : Int64))]))
                  exact Goes.fin X0 hlk (v := some (.long (9223372036854775807 : Int64))) (fun h => by rw [Bd.returns] at h; cases h) (fun fs hr => retOut X0 hx Bd.returns (by rfl) (Or.inr (Or.inl ⟨rfl, rfl, _, rfl⟩)) (hb hby d2_132) hr) ⟨congrArg (fun z => some (Value.long z)) (by rw [f2, if_neg hc9, if_neg hc10, if_neg hc11, if_neg hc12, if_pos hc16, if_neg hc17, if_neg hc18, if_pos hc19] : (9223372036854775807 : Int64) = f2 q7 q8), N0, e0⟩ (by decide) (by decide)
                · refine Goes.of (fun t k => XS.ifYes X0.here hx rfl (pc0 := 126) (pc' := 133) rfl (hb hby d2_126) rfl ((if0 _ _).trans (flt (fun q => hc19 ((lw_lt _ _).mp q))).2.1) (by decide) (by decide) k) ?_
                  show Goes _ _ _ _ _ _ _ (s₁.setTop (mkF m 133 #[.val (.long q7), .second, .val (.long q8), .second, .val (.long ((q7.toUInt64 >>> ((32 : Int32) &&& 0x3f).toInt64.toUInt64).toInt64)), .second, .val (.long (q7 &&& (4294967295 : Int64))), .second, .val (.long ((q8.toUInt64 >>> ((32 : Int32) &&& 0x3f).toInt64.toUInt64).toInt64)), .second, .val (.long (q8 &&& (4294967295 : Int64))), .second, .val (.long ((((q7.toUInt64 >>> ((32 : Int32) &&& 0x3f).toInt64.toUInt64).toInt64) * (q8 &&& (4294967295 : Int64))) + ((q7 &&& (4294967295 : Int64)) * ((q8.toUInt64 >>> ((32 : Int32) &&& 0x3f).toInt64.toUInt64).toInt64)))), .second, .val (.long ((q7 &&& (4294967295 : Int64)) * (q8 &&& (4294967295 : Int64)))), .second, .val (.long ((((((q7.toUInt64 >>> ((32 : Int32) &&& 0x3f).toInt64.toUInt64).toInt64) * (q8 &&& (4294967295 : Int64))) + ((q7 &&& (4294967295 : Int64)) * ((q8.toUInt64 >>> ((32 : Int32) &&& 0x3f).toInt64.toUInt64).toInt64))) <<< ((32 : Int32) &&& 0x3f).toInt64) + ((q7 &&& (4294967295 : Int64)) * (q8 &&& (4294967295 : Int64))))), .second] []))
                  refine Goes.of (fun t k => XS.lload X0.here hx rfl (hb hby d2_133) rfl k) ?_
                  show Goes _ _ _ _ _ _ _ (s₁.setTop (mkF m 135 #[.val (.long q7), .second, .val (.long q8), .second, .val (.long ((q7.toUInt64 >>> ((32 : Int32) &&& 0x3f).toInt64.toUInt64).toInt64)), .second, .val (.long (q7 &&& (4294967295 : Int64))), .second, .val (.long ((q8.toUInt64 >>> ((32 : Int32) &&& 0x3f).toInt64.toUInt64).toInt64)), .second, .val (.long (q8 &&& (4294967295 : Int64))), .second, .val (.long ((((q7.toUInt64 >>> ((32 : Int32) &&& 0x3f).toInt64.toUInt64).toInt64) * (q8 &&& (4294967295 : Int64))) + ((q7 &&& (4294967295 : Int64)) * ((q8.toUInt64 >>> ((32 : Int32) &&& 0x3f).toInt64.toUInt64).toInt64)))), .second, .val (.long ((q7 &&& (4294967295 : Int64)) * (q8 &&& (4294967295 : Int64)))), .second, .val (.long ((((((q7.toUInt64 >>> ((32 : Int32) &&& 0x3f).toInt64.toUInt64).toInt64) * (q8 &&& (4294967295 : Int64))) + ((q7 &&& (4294967295 : Int64)) * ((q8.toUInt64 >>> ((32 : Int32) &&& 0x3f).toInt64.toUInt64).toInt64))) <<< ((32 : Int32) &&& 0x3f).toInt64) + ((q7 &&& (4294967295 : Int64)) * (q8 &&& (4294967295 : Int64))))), .second] [(.long ((((((q7.toUInt64 >>> ((32 : Int32) &&& 0x3f).toInt64.toUInt64).toInt64) * (q8 &&& (4294967295 : Int64))) + ((q7 &&& (4294967295 : Int64)) * ((q8.toUInt64 >>> ((32 : Int32) &&& 0x3f).toInt64.toUInt64).toInt64))) <<< ((32 : Int32) &&& 0x3f).toInt64) + ((q7 &&& (4294967295 : Int64)) * (q8 &&& (4294967295 : Int64)))))]))
                  exact Goes.fin X0 hlk (v := some (.long ((((((q7.toUInt64 >>> ((32 : Int32) &&& 0x3f).toInt64.toUInt64).toInt64) * (q8 &&& (4294967295 : Int64))) + ((q7 &&& (4294967295 : Int64)) * ((q8.toUInt64 >>> ((32 : Int32) &&& 0x3f).toInt64.toUInt64).toInt64))) <<< ((32 : Int32) &&& 0x3f).toInt64) + ((q7 &&& (4294967295 : Int64)) * (q8 &&& (4294967295 : Int64)))))) (fun h => by rw [Bd.returns] at h; cases h) (fun fs hr => retOut X0 hx Bd.returns (by rfl) (Or.inr (Or.inl ⟨rfl, rfl, _, rfl⟩)) (hb hby d2_135) hr) ⟨congrArg (fun z => some (Value.long z)) (by rw [f2, if_neg hc9, if_neg hc10, if_neg hc11, if_neg hc12, if_pos hc16, if_neg hc17, if_neg hc18, if_neg hc19] : ((((((q7.toUInt64 >>> ((32 : Int32) &&& 0x3f).toInt64.toUInt64).toInt64) * (q8 &&& (4294967295 : Int64))) + ((q7 &&& (4294967295 : Int64)) * ((q8.toUInt64 >>> ((32 : Int32) &&& 0x3f).toInt64.toUInt64).toInt64))) <<< ((32 : Int32) &&& 0x3f).toInt64) + ((q7 &&& (4294967295 : Int64)) * (q8 &&& (4294967295 : Int64)))) = f2 q7 q8), N0, e0⟩ (by decide) (by decide)
          · refine Goes.of (fun t k => XS.ifNo X0.here hx rfl (hb hby d2_61) rfl ((if0 _ _).trans (feq (fun q => hc16 ((lw_eq _ _).mp q))).1) k) ?_
            show Goes _ _ _ _ _ _ _ (s₁.setTop (mkF m 64 #[.val (.long q7), .second, .val (.long q8), .second, .val (.long ((q7.toUInt64 >>> ((32 : Int32) &&& 0x3f).toInt64.toUInt64).toInt64)), .second, .val (.long (q7 &&& (4294967295 : Int64))), .second, .val (.long ((q8.toUInt64 >>> ((32 : Int32) &&& 0x3f).toInt64.toUInt64).toInt64)), .second, .val (.long (q8 &&& (4294967295 : Int64))), .second, .unset, .unset, .unset, .unset, .unset, .unset] []))
            refine Goes.of (fun t k => X0.ldc2Long hx hown (mvT hZ (hw _ (List.mem_of_getElem? (i := 0) rfl))) (g := (mkF m 64 #[.val (.long q7), .second, .val (.long q8), .second, .val (.long ((q7.toUInt64 >>> ((32 : Int32) &&& 0x3f).toInt64.toUInt64).toInt64)), .second, .val (.long (q7 &&& (4294967295 : Int64))), .second, .val (.long ((q8.toUInt64 >>> ((32 : Int32) &&& 0x3f).toInt64.toUInt64).toInt64)), .second, .val (.long (q8 &&& (4294967295 : Int64))), .second, .unset, .unset, .unset, .unset, .unset, .unset] [])) rfl (hb hby d2_64) t k) ?_
            show Goes _ _ _ _ _ _ _ (s₁.setTop (mkF m 67 #[.val (.long q7), .second, .val (.long q8), .second, .val (.long ((q7.toUInt64 >>> ((32 : Int32) &&& 0x3f).toInt64.toUInt64).toInt64)), .second, .val (.long (q7 &&& (4294967295 : Int64))), .second, .val (.long ((q8.toUInt64 >>> ((32 : Int32) &&& 0x3f).toInt64.toUInt64).toInt64)), .second, .val (.long (q8 &&& (4294967295 : Int64))), .second, .unset, .unset, .unset, .unset, .unset, .unset] [(.long (9223372036854775807 : Int64))]))
            exact Goes.fin X0 hlk (v := some (.long (9223372036854775807 : Int64))) (fun h => by rw [Bd.returns] at h; cases h) (fun fs hr => retOut X0 hx Bd.returns (by rfl) (Or.inr (Or.inl ⟨rfl, rfl, _, rfl⟩)) (hb hby d2_67) hr) ⟨congrArg (fun z => some (Value.long z)) (by rw [f2, if_neg hc9, if_neg hc10, if_neg hc11, if_neg hc12, if_neg hc16] : (9223372036854775807 : Int64) = f2 q7 q8), N0, e0⟩ (by decide) (by decide)
theorem pd_0 : parseMethodDescriptor "(JJ)J" = some ⟨[.long, .long], some .long⟩ := by decide +kernel
theorem ef_0 (m : MethodId) (u0 : Int64) (u1 : Int64) : entryFrame m #[(.long u0), (.long u1)] maxLocals = mkF m 0 #[.val (.long u0), .second, .val (.long u1), .second, .unset, .unset, .unset, .unset, .unset, .unset] [] := by first | (simp [entryFrame, mkF, argsToLocals, Value.category, maxLocals]; done) | rfl
def f0 (u0 : Int64) (u1 : Int64) : Int32 :=
  (if (f1 (u0 &&& (9223372036854775807 : Int64)) u1) = (f2 (u0 &&& (9223372036854775807 : Int64)) u1) then (1 : Int32)
  else (0 : Int32))
def Q0 (u0 : Int64) (u1 : Int64) (h0 : Heap) (n0 : Nat) (v : Option Value) (h : Heap) (L : List Loc) : Prop := v = some (.int (f0 u0 u1)) ∧ Fr n0 L ∧ h = h0
set_option maxRecDepth 65536 in
set_option maxHeartbeats 40000000 in
theorem rm0 (l : Launch) (Z : State) (a0 : Array Value) (hw : ∀ d ∈ tables_1, d.before a0 Z = true) (ws : List Jvm.Cond) (u0 : Int64) (u1 : Int64) (h0 : Heap) (n0 : Nat) :
    MetFree l x (head1 (Jvm.Cond.code x code maxLocals ret :: ws) room_1) (fun a U => a = #[(.long u0), (.long u1)] ∧ Z.Warmed39 U.vm ∧ U.heap = h0) (fun _ _ _ _ _ => True) (fun _ U o U' => ∃ v L, o = .returned v ∧ Q0 u0 u1 h0 n0 v U'.heap L ∧ FrameEnd U o U' L room_1.cells room_1.slots) := by
  refine MetFree.of_bodySF (plainFor_of_name pn_1) hisR ?_
  intro p e s m args below meth c s₁ Bd hml0 hP hK
  obtain ⟨rfl, hZ, hh⟩ := hP
  have hx := Bd.exec
  have hby := Bd.bytes
  have hlk : meth.locks = false := BodyLoose.notSynchronized Bd
  have hml : c.maxLocals = 10 := hml0
  have hown : s.vm.findClass "com/example/preemptlens/preemptlens/ctf/ArrayTypeCountPinLaw" = some m.cls := findClass_of_methodNamed Bd.named
  have X0 : Stand p l e room_1 s m #[(.long u0), (.long u1)] below meth c s₁ [] 0 0 := Stand.of_body Bd
  have e0 : s₁.heap = h0 := by rw [← hh, Bd.state]; rfl
  have N0 := Fr.nil n0
  show Goes p.tables e below s (Q0 u0 u1 h0 n0) room_1.cells room_1.slots (s₁.setTop (entryFrame m #[(.long u0), (.long u1)] maxLocals))
  refine Goes.of (fun t k => castTop (ef_0 m u0 u1) k) ?_
  show Goes _ _ _ _ _ _ _ (s₁.setTop (mkF m 0 #[.val (.long u0), .second, .val (.long u1), .second, .unset, .unset, .unset, .unset, .unset, .unset] []))
  refine Goes.of (fun t k => XS.lloadN X0.here hx rfl (hb hby at_0) rfl k) ?_
  show Goes _ _ _ _ _ _ _ (s₁.setTop (mkF m 1 #[.val (.long u0), .second, .val (.long u1), .second, .unset, .unset, .unset, .unset, .unset, .unset] [(.long u0)]))
  refine Goes.of (fun t k => X0.ldc2Long hx hown (mvT hZ (hw _ (List.mem_of_getElem? (i := 0) rfl))) (g := (mkF m 1 #[.val (.long u0), .second, .val (.long u1), .second, .unset, .unset, .unset, .unset, .unset, .unset] [(.long u0)])) rfl (hb hby at_1) t k) ?_
  show Goes _ _ _ _ _ _ _ (s₁.setTop (mkF m 4 #[.val (.long u0), .second, .val (.long u1), .second, .unset, .unset, .unset, .unset, .unset, .unset] [(.long (9223372036854775807 : Int64)), (.long u0)]))
  refine Goes.of (fun t k => XS.land X0.here hx rfl (hb hby at_4) rfl k) ?_
  show Goes _ _ _ _ _ _ _ (s₁.setTop (mkF m 5 #[.val (.long u0), .second, .val (.long u1), .second, .unset, .unset, .unset, .unset, .unset, .unset] [(.long (u0 &&& (9223372036854775807 : Int64)))]))
  refine Goes.of (fun t k => XS.lstore X0.here hx rfl (hb hby at_5) rfl (l' := #[.val (.long u0), .second, .val (.long u1), .second, .val (.long (u0 &&& (9223372036854775807 : Int64))), .second, .unset, .unset, .unset, .unset]) rfl k) ?_
  show Goes _ _ _ _ _ _ _ (s₁.setTop (mkF m 7 #[.val (.long u0), .second, .val (.long u1), .second, .val (.long (u0 &&& (9223372036854775807 : Int64))), .second, .unset, .unset, .unset, .unset] []))
  refine Goes.of (fun t k => XS.lloadN X0.here hx rfl (hb hby at_7) rfl k) ?_
  show Goes _ _ _ _ _ _ _ (s₁.setTop (mkF m 8 #[.val (.long u0), .second, .val (.long u1), .second, .val (.long (u0 &&& (9223372036854775807 : Int64))), .second, .unset, .unset, .unset, .unset] [(.long u1)]))
  refine Goes.of (fun t k => XS.lstore X0.here hx rfl (hb hby at_8) rfl (l' := #[.val (.long u0), .second, .val (.long u1), .second, .val (.long (u0 &&& (9223372036854775807 : Int64))), .second, .val (.long u1), .second, .unset, .unset]) rfl k) ?_
  show Goes _ _ _ _ _ _ _ (s₁.setTop (mkF m 10 #[.val (.long u0), .second, .val (.long u1), .second, .val (.long (u0 &&& (9223372036854775807 : Int64))), .second, .val (.long u1), .second, .unset, .unset] []))
  refine Goes.of (fun t k => XS.lload X0.here hx rfl (hb hby at_10) rfl k) ?_
  show Goes _ _ _ _ _ _ _ (s₁.setTop (mkF m 12 #[.val (.long u0), .second, .val (.long u1), .second, .val (.long (u0 &&& (9223372036854775807 : Int64))), .second, .val (.long u1), .second, .unset, .unset] [(.long (u0 &&& (9223372036854775807 : Int64)))]))
  refine Goes.of (fun t k => XS.lload X0.here hx rfl (hb hby at_12) rfl k) ?_
  show Goes _ _ _ _ _ _ _ (s₁.setTop (mkF m 14 #[.val (.long u0), .second, .val (.long u1), .second, .val (.long (u0 &&& (9223372036854775807 : Int64))), .second, .val (.long u1), .second, .unset, .unset] [(.long u1), (.long (u0 &&& (9223372036854775807 : Int64)))]))
  obtain ⟨_, _, ⟨T20, L20, k20, n20⟩, -, X20, ⟨Lc20, hQ20, l20, y20, z20⟩, st20⟩ := Jvm.LawKit.callS X0 hx (y := (⟨"com/example/preemptlens/preemptlens/ctf/ArrayType", "count", "(JJ)J"⟩ : MethodName)) hown (mvT hZ (hw _ (List.mem_of_getElem? (i := 1) rfl))) (mvT hZ (hw _ (List.mem_of_getElem? (i := 2) rfl))) (mvT hZ (hw _ (List.mem_of_getElem? (i := 3) rfl))) (mvT hZ (hw _ (List.mem_of_getElem? (i := 4) rfl))) (by decide) (backOf (W := 0) (rm1 l Z a0 hw [] (u0 &&& (9223372036854775807 : Int64)) u1 h0 n0) hZ (hw _ (List.mem_of_getElem? (i := 4) rfl)) (hw _ (List.mem_of_getElem? (i := 3) rfl)) (by decide) (by decide)) (g := (mkF m 14 #[.val (.long u0), .second, .val (.long u1), .second, .val (.long (u0 &&& (9223372036854775807 : Int64))), .second, .val (.long u1), .second, .unset, .unset] [(.long u1), (.long (u0 &&& (9223372036854775807 : Int64)))])) rfl (by rw [hml]; rfl) (argsL := [(.long (u0 &&& (9223372036854775807 : Int64))), (.long u1)]) (rest := []) (lenOf pd_0 rfl) rfl (by show 2 * 0 + _ ≤ _; exact Nat.le_of_eq rfl) (hb hby at_14) (fun _ _ => ⟨rfl, e0, (by decide : 0 + 0 ≤ _), (by decide : 0 + 0 ≤ _)⟩)
  dsimp only [Pt.U, Pt.locs, Pt.cells, Pt.slots] at X20 l20 y20 z20 st20 hQ20
  subst l20 y20 z20
  obtain ⟨rfl, N20q, e20⟩ := hQ20
  have N20 := Fr.app N0 N20q
  refine Goes.of st20 ?_
  show Goes _ _ _ _ _ _ _ (T20.setTop (mkF m 17 #[.val (.long u0), .second, .val (.long u1), .second, .val (.long (u0 &&& (9223372036854775807 : Int64))), .second, .val (.long u1), .second, .unset, .unset] [(.long (f1 (u0 &&& (9223372036854775807 : Int64)) u1))]))
  refine Goes.of (fun t k => XS.lstore X20.here hx rfl (hb hby at_17) rfl (l' := #[.val (.long u0), .second, .val (.long u1), .second, .val (.long (u0 &&& (9223372036854775807 : Int64))), .second, .val (.long u1), .second, .val (.long (f1 (u0 &&& (9223372036854775807 : Int64)) u1)), .second]) rfl k) ?_
  show Goes _ _ _ _ _ _ _ (T20.setTop (mkF m 19 #[.val (.long u0), .second, .val (.long u1), .second, .val (.long (u0 &&& (9223372036854775807 : Int64))), .second, .val (.long u1), .second, .val (.long (f1 (u0 &&& (9223372036854775807 : Int64)) u1)), .second] []))
  refine Goes.of (fun t k => XS.lload X20.here hx rfl (hb hby at_19) rfl k) ?_
  show Goes _ _ _ _ _ _ _ (T20.setTop (mkF m 21 #[.val (.long u0), .second, .val (.long u1), .second, .val (.long (u0 &&& (9223372036854775807 : Int64))), .second, .val (.long u1), .second, .val (.long (f1 (u0 &&& (9223372036854775807 : Int64)) u1)), .second] [(.long (f1 (u0 &&& (9223372036854775807 : Int64)) u1))]))
  refine Goes.of (fun t k => XS.lload X20.here hx rfl (hb hby at_21) rfl k) ?_
  show Goes _ _ _ _ _ _ _ (T20.setTop (mkF m 23 #[.val (.long u0), .second, .val (.long u1), .second, .val (.long (u0 &&& (9223372036854775807 : Int64))), .second, .val (.long u1), .second, .val (.long (f1 (u0 &&& (9223372036854775807 : Int64)) u1)), .second] [(.long (u0 &&& (9223372036854775807 : Int64))), (.long (f1 (u0 &&& (9223372036854775807 : Int64)) u1))]))
  refine Goes.of (fun t k => XS.lload X20.here hx rfl (hb hby at_23) rfl k) ?_
  show Goes _ _ _ _ _ _ _ (T20.setTop (mkF m 25 #[.val (.long u0), .second, .val (.long u1), .second, .val (.long (u0 &&& (9223372036854775807 : Int64))), .second, .val (.long u1), .second, .val (.long (f1 (u0 &&& (9223372036854775807 : Int64)) u1)), .second] [(.long u1), (.long (u0 &&& (9223372036854775807 : Int64))), (.long (f1 (u0 &&& (9223372036854775807 : Int64)) u1))]))
  obtain ⟨_, _, ⟨T21, L21, k21, n21⟩, -, X21, ⟨Lc21, hQ21, l21, y21, z21⟩, st21⟩ := Jvm.LawKit.callS X20 hx (y := (⟨"com/example/preemptlens/preemptlens/ctf/ArrayTypeCountPinLaw", "expected", "(JJ)J"⟩ : MethodName)) hown (mvT hZ (hw _ (List.mem_of_getElem? (i := 6) rfl))) (mvT hZ (hw _ (List.mem_of_getElem? (i := 7) rfl))) (mvT hZ (hw _ (List.mem_of_getElem? (i := 8) rfl))) (mvT hZ (hw _ (List.mem_of_getElem? (i := 9) rfl))) (by decide) (backOf (W := 2) (rm2 l Z a0 hw [] (u0 &&& (9223372036854775807 : Int64)) u1 h0 n0) hZ (hw _ (List.mem_of_getElem? (i := 9) rfl)) (hw _ (List.mem_of_getElem? (i := 8) rfl)) (by decide) (by decide)) (g := (mkF m 25 #[.val (.long u0), .second, .val (.long u1), .second, .val (.long (u0 &&& (9223372036854775807 : Int64))), .second, .val (.long u1), .second, .val (.long (f1 (u0 &&& (9223372036854775807 : Int64)) u1)), .second] [(.long u1), (.long (u0 &&& (9223372036854775807 : Int64))), (.long (f1 (u0 &&& (9223372036854775807 : Int64)) u1))])) rfl (by rw [hml]; rfl) (argsL := [(.long (u0 &&& (9223372036854775807 : Int64))), (.long u1)]) (rest := [(.long (f1 (u0 &&& (9223372036854775807 : Int64)) u1))]) (lenOf pd_0 rfl) rfl (by show 2 * 0 + _ ≤ _; exact Nat.le_of_eq rfl) (hb hby at_25) (fun _ _ => ⟨rfl, e20, (by decide : 0 + 0 ≤ _), (by decide : 0 + 0 ≤ _)⟩)
  dsimp only [Pt.U, Pt.locs, Pt.cells, Pt.slots] at X21 l21 y21 z21 st21 hQ21
  subst l21 y21 z21
  obtain ⟨rfl, N21q, e21⟩ := hQ21
  have N21 := Fr.app N20 N21q
  refine Goes.of st21 ?_
  show Goes _ _ _ _ _ _ _ (T21.setTop (mkF m 28 #[.val (.long u0), .second, .val (.long u1), .second, .val (.long (u0 &&& (9223372036854775807 : Int64))), .second, .val (.long u1), .second, .val (.long (f1 (u0 &&& (9223372036854775807 : Int64)) u1)), .second] [(.long (f2 (u0 &&& (9223372036854775807 : Int64)) u1)), (.long (f1 (u0 &&& (9223372036854775807 : Int64)) u1))]))
  refine Goes.of (fun t k => XS.lcmp X21.here hx rfl (hb hby at_28) rfl k) ?_
  show Goes _ _ _ _ _ _ _ (T21.setTop (mkF m 29 #[.val (.long u0), .second, .val (.long u1), .second, .val (.long (u0 &&& (9223372036854775807 : Int64))), .second, .val (.long u1), .second, .val (.long (f1 (u0 &&& (9223372036854775807 : Int64)) u1)), .second] [(.int (lcmpW (f1 (u0 &&& (9223372036854775807 : Int64)) u1) (f2 (u0 &&& (9223372036854775807 : Int64)) u1)))]))
  by_cases hc22 : (f1 (u0 &&& (9223372036854775807 : Int64)) u1) = (f2 (u0 &&& (9223372036854775807 : Int64)) u1)
  · refine Goes.of (fun t k => XS.ifNo X21.here hx rfl (hb hby at_29) rfl ((if0 _ _).trans (teq ((lw_eq _ _).mpr hc22)).2) k) ?_
    show Goes _ _ _ _ _ _ _ (T21.setTop (mkF m 32 #[.val (.long u0), .second, .val (.long u1), .second, .val (.long (u0 &&& (9223372036854775807 : Int64))), .second, .val (.long u1), .second, .val (.long (f1 (u0 &&& (9223372036854775807 : Int64)) u1)), .second] []))
    refine Goes.of (fun t k => XS.iconst X21.here hx rfl (hb hby at_32) k) ?_
    show Goes _ _ _ _ _ _ _ (T21.setTop (mkF m 33 #[.val (.long u0), .second, .val (.long u1), .second, .val (.long (u0 &&& (9223372036854775807 : Int64))), .second, .val (.long u1), .second, .val (.long (f1 (u0 &&& (9223372036854775807 : Int64)) u1)), .second] [(.int (1 : Int32))]))
    refine Goes.of (fun t k => XS.goto X21.here hx rfl (pc0 := 33) (pc' := 37) rfl (hb hby at_33) (by decide) (by decide) k) ?_
    show Goes _ _ _ _ _ _ _ (T21.setTop (mkF m 37 #[.val (.long u0), .second, .val (.long u1), .second, .val (.long (u0 &&& (9223372036854775807 : Int64))), .second, .val (.long u1), .second, .val (.long (f1 (u0 &&& (9223372036854775807 : Int64)) u1)), .second] [(.int (1 : Int32))]))
    exact Goes.fin X21 hlk (v := some (.int (1 : Int32))) (fun h => by rw [Bd.returns] at h; cases h) (fun fs hr => retN X21 hx (t := .boolean) Bd.returns (by simp) (hb hby at_37) hr) ⟨congrArg (fun z => some (Value.int z)) (by rw [f0, if_pos hc22] : (1 : Int32) = f0 u0 u1), N21, e21⟩ (by decide) (by decide)
  · refine Goes.of (fun t k => XS.ifYes X21.here hx rfl (pc0 := 29) (pc' := 36) rfl (hb hby at_29) rfl ((if0 _ _).trans (feq (fun q => hc22 ((lw_eq _ _).mp q))).2) (by decide) (by decide) k) ?_
    show Goes _ _ _ _ _ _ _ (T21.setTop (mkF m 36 #[.val (.long u0), .second, .val (.long u1), .second, .val (.long (u0 &&& (9223372036854775807 : Int64))), .second, .val (.long u1), .second, .val (.long (f1 (u0 &&& (9223372036854775807 : Int64)) u1)), .second] []))
    refine Goes.of (fun t k => XS.iconst X21.here hx rfl (hb hby at_36) k) ?_
    show Goes _ _ _ _ _ _ _ (T21.setTop (mkF m 37 #[.val (.long u0), .second, .val (.long u1), .second, .val (.long (u0 &&& (9223372036854775807 : Int64))), .second, .val (.long u1), .second, .val (.long (f1 (u0 &&& (9223372036854775807 : Int64)) u1)), .second] [(.int (0 : Int32))]))
    exact Goes.fin X21 hlk (v := some (.int (0 : Int32))) (fun h => by rw [Bd.returns] at h; cases h) (fun fs hr => retN X21 hx (t := .boolean) Bd.returns (by simp) (hb hby at_37) hr) ⟨congrArg (fun z => some (Value.int z)) (by rw [f0, if_neg hc22] : (0 : Int32) = f0 u0 u1), N21, e21⟩ (by decide) (by decide)
theorem own_mul (a b l m : Int) : (a * 4294967296 + b) * (l * 4294967296 + m) = a * l * 18446744073709551616 + (a * m + b * l) * 4294967296 + b * m := by
  have e1 : a * 4294967296 * (l * 4294967296) = a * l * 18446744073709551616 := by
    rw [show (18446744073709551616 : Int) = 4294967296 * 4294967296 by decide]; ac_rfl
  have e2 : a * 4294967296 * m = a * m * 4294967296 := by ac_rfl
  have e3 : b * (l * 4294967296) = b * l * 4294967296 := by ac_rfl
  rw [Int.add_mul, Int.mul_add, Int.mul_add, e1, e2, e3, Int.add_mul]
  omega
theorem own_core (c n A B L M : Int64) (hc : 0 < c.toInt) (hn : 0 < n.toInt) (eA : A.toInt = c.toInt / 4294967296) (eB : B.toInt = c.toInt % 4294967296) (eL : L.toInt = n.toInt / 4294967296) (eM : M.toInt = n.toInt % 4294967296) :
    (if ((9223372036854775807 : Int64) / n) < c then (9223372036854775807 : Int64) else (c * n)) =
    (if A = (0 : Int64) then (if (2147483647 : Int64) < ((A * M) + (B * L)) then (9223372036854775807 : Int64)
          else (if (B * M) < (0 : Int64) then (9223372036854775807 : Int64)
            else (if ((((A * M) + (B * L)) <<< ((32 : Int32) &&& 0x3f).toInt64) + (B * M)) < (0 : Int64) then (9223372036854775807 : Int64)
              else ((((A * M) + (B * L)) <<< ((32 : Int32) &&& 0x3f).toInt64) + (B * M)))))
        else (if L = (0 : Int64) then (if (2147483647 : Int64) < ((A * M) + (B * L)) then (9223372036854775807 : Int64)
            else (if (B * M) < (0 : Int64) then (9223372036854775807 : Int64)
              else (if ((((A * M) + (B * L)) <<< ((32 : Int32) &&& 0x3f).toInt64) + (B * M)) < (0 : Int64) then (9223372036854775807 : Int64)
                else ((((A * M) + (B * L)) <<< ((32 : Int32) &&& 0x3f).toInt64) + (B * M)))))
          else (9223372036854775807 : Int64))) := by
  have z : (0 : Int64).toInt = 0 := rfl
  have kM : (9223372036854775807 : Int64).toInt = 9223372036854775807 := rfl
  have k31 : (2147483647 : Int64).toInt = 2147483647 := rfl
  have rc := rng64 c
  have rn := rng64 n
  have ec : c.toInt = A.toInt * 4294967296 + B.toInt := by omega
  have en : n.toInt = L.toInt * 4294967296 + M.toInt := by omega
  have hP : c.toInt * n.toInt = A.toInt * L.toInt * 18446744073709551616 + (A.toInt * M.toInt + B.toInt * L.toInt) * 4294967296 + B.toInt * M.toInt := by
    rw [← own_mul, ← ec, ← en]
  have a0 : 0 ≤ A.toInt := by omega
  have a1 : A.toInt ≤ 2147483647 := by omega
  have b0 : 0 ≤ B.toInt := by omega
  have b1 : B.toInt ≤ 4294967295 := by omega
  have l0 : 0 ≤ L.toInt := by omega
  have l1 : L.toInt ≤ 2147483647 := by omega
  have m0 : 0 ≤ M.toInt := by omega
  have m1 : M.toInt ≤ 4294967295 := by omega
  have p1 := Int.mul_nonneg a0 m0
  have p2 := Int.mul_nonneg b0 l0
  have p3 := Int.mul_nonneg b0 m0
  have p4 := Int.mul_nonneg a0 l0
  have q1 : A.toInt * M.toInt ≤ 2147483647 * 4294967295 := Int.mul_le_mul a1 m1 m0 (by decide)
  have q2 : B.toInt * L.toInt ≤ 4294967295 * 2147483647 := Int.mul_le_mul b1 l1 l0 (by decide)
  have q3 : B.toInt * M.toInt ≤ 4294967295 * 4294967295 := Int.mul_le_mul b1 m1 m0 (by decide)
  have hdiv : ((9223372036854775807 : Int64) / n) < c ↔ 9223372036854775807 < c.toInt * n.toInt := by
    have e := (c_ldiv 9223372036854775807 n n.toInt rfl (fun q => by rw [q] at hn; exact absurd hn (by decide))).1 (by decide)
    rw [Int64.lt_iff_toInt_lt, e, kM]
    exact Int.ediv_lt_iff_lt_mul hn
  have zi : ∀ {x : Int64}, x = 0 ↔ x.toInt = 0 := fun {x} => ⟨fun q => by rw [q]; rfl, fun q => Int64.toInt_inj.mp (q.trans z.symm)⟩
  have s1 := c_lmul A M
  have s2 := c_lmul B L
  have s3 := c_ladd (A * M) (B * L)
  have s4 := c_lmul B M
  have s5 := c_lshl (A * M + B * L) 32 32 rfl
  have s6 := c_ladd ((A * M + B * L) <<< ((32 : Int32) &&& 0x3f).toInt64) (B * M)
  have s7 := c_lmul c n
  have t1 := rng64 (A * M)
  have t2 := rng64 (B * L)
  have t3 := rng64 (A * M + B * L)
  have t4 := rng64 (B * M)
  have t5 := rng64 ((A * M + B * L) <<< ((32 : Int32) &&& 0x3f).toInt64)
  have t6 := rng64 ((A * M + B * L) <<< ((32 : Int32) &&& 0x3f).toInt64 + B * M)
  have t7 := rng64 (c * n)
  have k2 : ((2 ^ 32 : Nat) : Int) = 4294967296 := by decide
  rw [k2] at s5
  generalize hX1 : A.toInt * M.toInt = X1 at *
  generalize hX2 : B.toInt * L.toInt = X2 at *
  generalize hX3 : B.toInt * M.toInt = X3 at *
  generalize hX4 : A.toInt * L.toInt = X4 at *
  generalize hXP : c.toInt * n.toInt = XP at *
  -- where one of the high halves is 0
  have tail : X4 = 0 → X1 + X2 < 9223372036854775808 →
      (if ((9223372036854775807 : Int64) / n) < c then (9223372036854775807 : Int64) else (c * n)) =
      (if (2147483647 : Int64) < ((A * M) + (B * L)) then (9223372036854775807 : Int64)
          else (if (B * M) < (0 : Int64) then (9223372036854775807 : Int64)
            else (if ((((A * M) + (B * L)) <<< ((32 : Int32) &&& 0x3f).toInt64) + (B * M)) < (0 : Int64) then (9223372036854775807 : Int64)
              else ((((A * M) + (B * L)) <<< ((32 : Int32) &&& 0x3f).toInt64) + (B * M))))) := by
    intro x4 x12
    by_cases g1 : (2147483647 : Int64) < ((A * M) + (B * L))
    · rw [if_pos g1, if_pos]
      rw [Int64.lt_iff_toInt_lt, k31] at g1
      rw [hdiv]; omega
    · rw [if_neg g1]
      rw [Int64.lt_iff_toInt_lt, k31] at g1
      by_cases g2 : (B * M) < (0 : Int64)
      · rw [if_pos g2, if_pos]
        rw [Int64.lt_iff_toInt_lt, z] at g2
        rw [hdiv]; omega
      · rw [if_neg g2]
        rw [Int64.lt_iff_toInt_lt, z] at g2
        by_cases g3 : ((((A * M) + (B * L)) <<< ((32 : Int32) &&& 0x3f).toInt64) + (B * M)) < (0 : Int64)
        · rw [if_pos g3, if_pos]
          rw [Int64.lt_iff_toInt_lt, z] at g3
          rw [hdiv]; omega
        · rw [if_neg g3, if_neg]
          · rw [Int64.lt_iff_toInt_lt, z] at g3
            apply Int64.toInt_inj.mp
            omega
          · rw [Int64.lt_iff_toInt_lt, z] at g3
            rw [hdiv]; omega
  by_cases gA : A = 0
  · rw [if_pos gA]
    have : A.toInt = 0 := zi.mp gA
    refine tail ?_ ?_
    · rw [← hX4, this, Int.zero_mul]
    · have : X1 = 0 := by rw [← hX1, this, Int.zero_mul]
      omega
  · rw [if_neg gA]
    by_cases gL : L = 0
    · rw [if_pos gL]
      have : L.toInt = 0 := zi.mp gL
      refine tail ?_ ?_
      · rw [← hX4, this, Int.mul_zero]
      · have : X2 = 0 := by rw [← hX2, this, Int.mul_zero]
        omega
    · rw [if_neg gL, if_pos]
      have h1 : 1 ≤ A.toInt := by
        have hne : A.toInt ≠ 0 := fun q => gA (zi.mpr q)
        omega
      have h2 : 1 ≤ L.toInt := by
        have hne : L.toInt ≠ 0 := fun q => gL (zi.mpr q)
        omega
      have : 1 * 1 ≤ A.toInt * L.toInt := Int.mul_le_mul h1 h2 (by decide) a0
      rw [hdiv]; omega
theorem own_eq (c n : Int64) (hc : 0 ≤ c.toInt) : f1 c n = f2 c n := by
  unfold f1 f2
  by_cases h1 : c = 0
  · rw [if_pos h1, if_pos h1]
  rw [if_neg h1, if_neg h1]
  by_cases h2 : n = 0
  · rw [if_pos h2, if_pos h2]
  rw [if_neg h2, if_neg h2]
  have z : (0 : Int64).toInt = 0 := rfl
  have h1' : c.toInt ≠ 0 := fun q => h1 (Int64.toInt_inj.mp (q.trans z.symm))
  have h2' : n.toInt ≠ 0 := fun q => h2 (Int64.toInt_inj.mp (q.trans z.symm))
  by_cases h3 : n < 0
  · rw [if_pos h3, if_neg]
    rw [Int64.lt_iff_toInt_lt, z] at h3
    rw [Int64.lt_iff_toInt_lt, z]
    omega
  rw [if_neg h3]
  have h3' : 0 < n.toInt := by rw [Int64.lt_iff_toInt_lt, z] at h3; omega
  rw [if_pos (show (0 : Int64) < n by rw [Int64.lt_iff_toInt_lt, z]; exact h3')]
  have rc := rng64 c
  have rn := rng64 n
  have k2 : ((2 ^ 32 : Nat) : Int) = 4294967296 := by decide
  have eA := c_lushr c 32 32 rfl (by decide)
  have eB := c_maskL c 4294967295 32 (by decide) (by decide)
  have eL := c_lushr n 32 32 rfl (by decide)
  have eM := c_maskL n 4294967295 32 (by decide) (by decide)
  rw [k2] at eA eB eL eM
  exact own_core c n _ _ _ _ (by omega) h3' (by omega) eB (by omega) eM
theorem own_law (u0 u1 : Int64) : f0 u0 u1 = 1 := by
  unfold f0
  have e := c_maskL u0 9223372036854775807 63 (by decide) (by decide)
  have k2 : ((2 ^ 63 : Nat) : Int) = 9223372036854775808 := by decide
  rw [k2] at e
  rw [if_pos (own_eq _ _ (by omega))]
set_option maxRecDepth 65536 in
set_option maxHeartbeats 40000000 in
theorem comes_1 {Post : Tables → Env → Array Value → State → Outcome → State → Prop} (hpost : ∀ tb e args s v u, (limb_1_1.after args s (.returned v) u = true ∧ limb_1_2.after args s (.returned v) u = true ∧ True) → FrameEnd s (.returned v) u (Jvm.fieldLocs frame_1_writes args s ++ Jvm.arrayLocs frame_1_arrays args s ++ Jvm.staticLocs frame_1_statics s) 0 0 → Post tb e args s (.returned v) u) :
    ArmFor flags0 classFile x code maxLocals ret World_1 tables_1 room_1 Calls_1 rest_1 Pre_1 Post := by
  intro l hfl _ _ p e ha hc hk s m args below hf hA hF happ hP
  obtain ⟨hcalls, hrest, hpre⟩ := hP
  obtain ⟨-, -, -, hnamed, -, -, -, hat⟩ := (Spec.applies_iff hf).mp happ
  obtain ⟨hg, hn⟩ := and_e (Cond.before_iff.mp (show (Jvm.Cond.and given_1 narrow_1).before args s = true from hpre))
  obtain ⟨g23, g24⟩ := and_e hg
  obtain ⟨g25, g26⟩ := and_e g24
  obtain ⟨w0, w1, rfl⟩ : ∃ w0 w1 : Value, args = #[w0, w1] := by
    have hs : args.size = 2 := by simpa [Cond.value, given_1] using g23
    obtain ⟨L⟩ := args
    match L, hs with
    | [w0, w1], _ => exact ⟨w0, w1, rfl⟩
  have hw := fun d (hd : d ∈ tables_1) => atoms_spec (ws := Jvm.Cond.code x code maxLocals ret :: tables_1) hat d (List.mem_cons_of_mem _ hd)
  obtain ⟨i0, ei0⟩ := isL_v g25
  obtain rfl : w0 = (.long i0) := Option.some.inj ei0
  obtain ⟨i1, ei1⟩ := isL_v g26
  obtain rfl : w1 = (.long i1) := Option.some.inj ei1
  obtain ⟨n, o, h1, h2, h3, _, L, rfl, ⟨rfl, N, -⟩, hq⟩ := rm0 l s _ hw tables_1 i0 i1 s.heap s.heap.size p e ha hc hk s m _ below hf ((Spec.applies_iff_loose hf).mp happ).1 ⟨rfl, State.Warmed39.refl s, rfl⟩ trivial
  exact ⟨n, _, h1, h2, h3, hpost _ _ _ _ _ _ ⟨Cond.after_iff.mpr rfl, Cond.after_iff.mpr (eq_i res_at (Term.int_eval (1)) (congrArg Value.int (own_law i0 i1))), trivial⟩ ⟨hq.1, hq.2.1, (hq.2.2.sift fun y hy => Or.inr (N y hy)).mono (by decide) (by decide)⟩⟩
theorem main_1_1 : Claimed_1_1 := comes_1 fun _ _ _ _ _ _ h hF => ⟨h.1, hF⟩
theorem main_1_2 : Claimed_1_2 := comes_1 fun _ _ _ _ _ _ h hF => ⟨h.2.1, hF⟩
end Jvm.Pilot.@@N@@
namespace Jvm.Pilot.@@N@@
open Jvm Jvm.ClassFile Sem Op Lib Jvm.Free Jvm.Stand Jvm.Pilot.@@N@@.Jvm.D
/-! MADE BY PROGRAM (witnessworld.py) out of the Statement's table words and the real class files: 11 classes; the members and pool entries that the words name. The judged class is class 1, her method 1. -/
namespace start1
open Jvm.ClassFile
def u (s : String) : CpInfo := .utf8 (stringToUtf16 s)
/-- a pool by its gaps: so many unusable entries, then the entry; so many at the end -/
def gap : Nat → List CpInfo → List CpInfo
  | 0, r => r
  | n + 1, r => .unusable :: gap n r
def poolList (es : List (Nat × CpInfo)) (last : Nat) : List CpInfo := es.foldr (fun e r => gap e.1 (e.2 :: r)) (gap last [])
def pool (es : List (Nat × CpInfo)) (last : Nat) : Array CpInfo := ⟨poolList es last⟩
def fileOf (pool : Array CpInfo) (this : Nat) (attrs : Array Attribute := #[]) (ms : Array MethodInfo := #[]) (fl : Nat := 33) (sup : Nat := 0) (ifs : Array Nat := #[]) (fds : Array FieldInfo := #[]) : ClassFile where
  minorVersion := 0
  majorVersion := 65
  constantPool := pool
  accessFlags := fl
  thisClass := this
  superClass := sup
  interfaces := ifs
  fields := fds
  methods := ms
  attributes := attrs
def plain (name : String) (sup : Option ClassId) : Class where
  name := name
  kind := .ordinary
  loader := none
  accessFlags := 33
  super := sup
  interfaces := #[]
  cf := none
  fields := #[]
  methods := #[]
  instanceTypes := #[]
  staticTypes := #[]
  resolved := #[]
  callSites := []
  init := .initialized
  statics := none
  mirror := none

def pool0 : Array CpInfo := pool [(5, u "<init>"), (0, u "()V"), (1, .class_ 10), (1, u "java/lang/Object")] 113

def k0m0 : Method := { name := "<init>", desc := "()V", sig := { parameters := [], returnType := none }, accessFlags := 1, code := none }
/-- java/lang/Object -/
def k0 : Class := { plain "java/lang/Object" none with
  accessFlags := 33
  interfaces := #[]
  cf := some (fileOf pool0 8 #[] #[{ accessFlags := 1, nameIndex := 5, descriptorIndex := 6, attributes := #[] }] 33 0 #[] #[])
  fields := #[]
  methods := #[k0m0]
  instanceTypes := #[]
  staticTypes := #[]
  resolved := Array.replicate 124 none
  statics := none }

def pool1 : Array CpInfo := pool [(2, .class_ 4), (1, u "java/lang/Object"), (0, u "<init>"), (0, u "()V"), (2, .long 9223372036854775807), (1, .methodref 12 13), (0, .class_ 14), (0, .nameAndType 15 16), (0, u "com/example/preemptlens/preemptlens/ctf/ArrayType"), (0, u "count"), (0, u "(JJ)J"), (0, .methodref 18 19), (0, .class_ 20), (0, .nameAndType 21 16), (0, u "com/example/preemptlens/preemptlens/ctf/ArrayTypeCountPinLaw"), (0, u "expected"), (0, .long 4294967295), (1, .long 2147483647), (3, u "law"), (0, u "(JJ)Z")] 3

def k1m0 : Method := { name := "<init>", desc := "()V", sig := { parameters := [], returnType := none }, accessFlags := 1, code := none }
def k1c1 : Code := { maxStack := 6, maxLocals := 10, code := code, exceptionTable := #[], attributes := #[] }
def k1m1 : Method := { name := "law", desc := "(JJ)Z", sig := { parameters := [.long, .long], returnType := some .boolean }, accessFlags := 9, code := some k1c1 }
def k1c2 : Code := { maxStack := 6, maxLocals := 18, code := method_3_code, exceptionTable := #[], attributes := #[] }
def k1m2 : Method := { name := "expected", desc := "(JJ)J", sig := { parameters := [.long, .long], returnType := some .long }, accessFlags := 10, code := some k1c2 }
/-- com/example/preemptlens/preemptlens/ctf/ArrayTypeCountPinLaw -/
def k1 : Class := { plain "com/example/preemptlens/preemptlens/ctf/ArrayTypeCountPinLaw" (some 0) with
  accessFlags := 49
  interfaces := #[]
  cf := some (fileOf pool1 18 #[] #[{ accessFlags := 1, nameIndex := 5, descriptorIndex := 6, attributes := #[] }, { accessFlags := 9, nameIndex := 28, descriptorIndex := 29, attributes := #[] }, { accessFlags := 10, nameIndex := 21, descriptorIndex := 16, attributes := #[] }] 49 2 #[] #[])
  fields := #[]
  methods := #[k1m0, k1m1, k1m2]
  instanceTypes := #[]
  staticTypes := #[]
  resolved := Array.replicate 33 none
  statics := none }

def pool2 : Array CpInfo := pool [(2, .class_ 4), (1, u "java/lang/Object"), (0, u "<init>"), (0, u "()V"), (0, .class_ 8), (0, u "java/lang/Record")] 13

def k2m0 : Method := { name := "<init>", desc := "()V", sig := { parameters := [], returnType := none }, accessFlags := 4, code := none }
/-- java/lang/Record -/
def k2 : Class := { plain "java/lang/Record" (some 0) with
  accessFlags := 1057
  interfaces := #[]
  cf := some (fileOf pool2 7 #[] #[{ accessFlags := 4, nameIndex := 5, descriptorIndex := 6, attributes := #[] }] 1057 2 #[] #[])
  fields := #[]
  methods := #[k2m0]
  instanceTypes := #[]
  staticTypes := #[]
  resolved := Array.replicate 22 none
  statics := none }

def pool3 : Array CpInfo := pool [(1, .class_ 2), (0, u "com/example/preemptlens/preemptlens/ctf/FieldType"), (0, .class_ 4), (0, u "java/lang/Object")] 25

/-- com/example/preemptlens/preemptlens/ctf/FieldType -/
def k3 : Class := { plain "com/example/preemptlens/preemptlens/ctf/FieldType" (some 0) with
  accessFlags := 1537
  interfaces := #[]
  cf := some (fileOf pool3 1 #[] #[] 1537 3 #[] #[])
  fields := #[]
  methods := #[]
  instanceTypes := #[]
  staticTypes := #[]
  resolved := Array.replicate 30 none
  statics := none }

def pool4 : Array CpInfo := pool [(2, .class_ 4), (1, u "java/lang/Record"), (3, .class_ 10), (1, u "com/example/preemptlens/preemptlens/ctf/ArrayType"), (0, u "element"), (0, u "Lcom/example/preemptlens/preemptlens/ctf/FieldType;"), (2, u "length"), (0, u "I"), (2, u "innermost"), (2, u "count"), (0, u "J"), (8, u "(JJ)J"), (4, .class_ 39), (1, u "com/example/preemptlens/preemptlens/ctf/FieldType"), (11, .long 9223372036854775807)] 43

def k4c0 : Code := { maxStack := 6, maxLocals := 4, code := prog_108_method_6_code, exceptionTable := #[], attributes := #[] }
def k4m0 : Method := { name := "count", desc := "(JJ)J", sig := { parameters := [.long, .long], returnType := some .long }, accessFlags := 8, code := some k4c0 }
/-- com/example/preemptlens/preemptlens/ctf/ArrayType -/
def k4 : Class := { plain "com/example/preemptlens/preemptlens/ctf/ArrayType" (some 2) with
  accessFlags := 49
  interfaces := #[3]
  cf := some (fileOf pool4 8 #[] #[{ accessFlags := 8, nameIndex := 22, descriptorIndex := 32, attributes := #[] }] 49 2 #[37] #[{ accessFlags := 18, nameIndex := 11, descriptorIndex := 12, attributes := #[] }, { accessFlags := 18, nameIndex := 15, descriptorIndex := 16, attributes := #[] }, { accessFlags := 18, nameIndex := 19, descriptorIndex := 12, attributes := #[] }, { accessFlags := 18, nameIndex := 22, descriptorIndex := 23, attributes := #[] }])
  fields := #[{ name := "element", type := (.object "com/example/preemptlens/preemptlens/ctf/FieldType"), accessFlags := 18, slot := 0, constantValue := 0 }, { name := "length", type := .int, accessFlags := 18, slot := 1, constantValue := 0 }, { name := "innermost", type := (.object "com/example/preemptlens/preemptlens/ctf/FieldType"), accessFlags := 18, slot := 2, constantValue := 0 }, { name := "count", type := .long, accessFlags := 18, slot := 3, constantValue := 0 }]
  methods := #[k4m0]
  instanceTypes := #[(.object "com/example/preemptlens/preemptlens/ctf/FieldType"), .int, (.object "com/example/preemptlens/preemptlens/ctf/FieldType"), .long]
  staticTypes := #[]
  resolved := Array.replicate 95 none
  statics := none }

def pool5 : Array CpInfo := pool [(1, u "java/lang/Cloneable"), (0, .class_ 1), (0, u "java/lang/Object"), (0, .class_ 3)] 3

/-- java/lang/Cloneable -/
def k5 : Class := { plain "java/lang/Cloneable" (some 0) with
  accessFlags := 1537
  interfaces := #[]
  cf := some (fileOf pool5 2 #[] #[] 1537 4 #[] #[])
  fields := #[]
  methods := #[]
  instanceTypes := #[]
  staticTypes := #[]
  resolved := Array.replicate 8 none
  statics := none }

def pool6 : Array CpInfo := pool [(1, u "java/io/Serializable"), (0, .class_ 1), (0, u "java/lang/Object"), (0, .class_ 3)] 3

/-- java/io/Serializable -/
def k6 : Class := { plain "java/io/Serializable" (some 0) with
  accessFlags := 1537
  interfaces := #[]
  cf := some (fileOf pool6 2 #[] #[] 1537 4 #[] #[])
  fields := #[]
  methods := #[]
  instanceTypes := #[]
  staticTypes := #[]
  resolved := Array.replicate 8 none
  statics := none }

/-- the primitive byte -/
def k7 : Class := { plain "byte" none with kind := .primitive 'B', accessFlags := 0x411 }
/-- [B -/
def k8 : Class := { plain "[B" (some 0) with kind := .array 7 .byte, interfaces := #[5, 6], accessFlags := 1041 }

/-- the primitive int -/
def k9 : Class := { plain "int" none with kind := .primitive 'I', accessFlags := 0x411 }
/-- [I -/
def k10 : Class := { plain "[I" (some 0) with kind := .array 9 .int, interfaces := #[5, 6], accessFlags := 1041 }

def heap : Heap := #[]
def classes : Array Class := #[k0, k1, k2, k3, k4, k5, k6, k7, k8, k9, k10]
def interned : List (Array UInt16 × Addr) := []
def slotsUsed : Nat := 0
def theMethod : MethodId := ⟨1, 1⟩
def args0 : Array Value := #[.long 5, .long 7]
def aboutOver (below : List Frame) : State where
  vm := { classes := classes, interned := interned.toArray }
  heap := heap
  slotsUsed := slotsUsed
  threads := #[{ frames := .invoking theMethod args0 :: below }]
def below0 : List Frame := [.native { method := ⟨0, 0⟩, args := #[] }]
def about1 : State := aboutOver below0
def p0 : Program := .bare "" "" ""
def e0 : Env := launch0.env 0 0 0
theorem w_frames : about1.frames = Frame.invoking theMethod args0 :: below0 := rfl
set_option maxRecDepth 65536 in
theorem w_args : argsFit about1.vm theMethod args0 = true := by decide +kernel
set_option maxRecDepth 65536 in
theorem w_heap : heapFits about1 = true := by decide +kernel
set_option maxRecDepth 65536 in
theorem w_runnable : about1.curStatus? = some .runnable := by decide +kernel
set_option maxRecDepth 65536 in
theorem w_alone : about1.alone = true := by decide +kernel
set_option maxRecDepth 65536 in
theorem w_named : about1.methodNamed? x = some theMethod := by decide +kernel
set_option maxRecDepth 65536 in
theorem w_hears : about1.hears theMethod below0 = true := by decide +kernel
set_option maxRecDepth 65536 in
theorem w_ripe : about1.ripe theMethod args0 below0 = true := by decide +kernel
theorem w_running : about1.status = .running := rfl
set_option maxRecDepth 65536 in
theorem w_room : about1.hasRoom e0.platform room_1 = true :=
  launch0.hasRoom_least _ room_1 (by decide +kernel) (by decide +kernel) (by decide +kernel) (by decide +kernel) (by decide +kernel) (by decide +kernel)
theorem allAtoms_all (ts : List Jvm.Cond) (a : Array Jvm.Value) (st : Jvm.State) : (allAtoms ts).before a st = ts.all (fun c => c.before a st) := by
  induction ts with
  | nil => rfl
  | cons c t ih =>
    show (Jvm.Cond.and c (allAtoms t)).before a st = _
    rw [Jvm.Cond.before_and, ih, List.all_cons]
def words1 : List Jvm.Cond := Jvm.Cond.code x code maxLocals ret :: tables_1
/-- a 'code' word, met by the world's own term for the bytes: nothing is compared byte by byte -/
theorem code_word {y : MethodName} {bytes : ByteArray} {mx : Nat} {rt : Option FieldType} {a : Array Value} {s : State} {m : MethodId} {meth : Method} {c : Code} (h1 : s.methodNamed? y = some m) (h2 : s.vm.method? m = some meth) (h3 : meth.code = some c) (h4 : c.code = bytes)
    (h5 : (c.maxLocals == mx && c.exceptionTable.isEmpty && decide (c.maxStack ≤ mostOperands) && decide (meth.sig.returnType = rt) && !meth.locks && decide (parseMethodDescriptor y.desc = some meth.sig)) = true) : (Jvm.Cond.code y bytes mx rt).before a s = true := by
  simp only [Bool.and_eq_true, beq_iff_eq, Bool.not_eq_true', decide_eq_true_eq] at h5
  obtain ⟨⟨⟨⟨⟨g1, g2⟩, g3⟩, g4⟩, g5⟩, g6⟩ := h5
  simp [Cond.before, Cond.holds, Cond.value, h1, h2, h3, h4, g1, g2, g3, g4, g5, g6]
def isCode : Jvm.Cond → Bool
  | .code _ _ _ _ => true
  | _ => false
theorem all_split {L : List Jvm.Cond} {P : Jvm.Cond → Bool} (h1 : L.all (fun c => isCode c || P c) = true) (h2 : ∀ c ∈ L.filter isCode, P c = true) : L.all P = true := by
  refine List.all_eq_true.mpr fun c hc => ?_
  have h := List.all_eq_true.mp h1 c hc
  rcases Bool.eq_false_or_eq_true (isCode c) with hi | hi
  · exact h2 c (List.mem_filter.mpr ⟨hc, hi⟩)
  · simpa [hi] using h
set_option maxRecDepth 65536 in
theorem w_c0 : (Jvm.Cond.code x code maxLocals ret).before args0 about1 = true := code_word (m := ⟨1, 1⟩) (meth := k1m1) (c := k1c1) (by decide +kernel) rfl rfl rfl (by decide +kernel)
set_option maxRecDepth 65536 in
theorem w_c1 : (Jvm.Cond.code ({ cls := "com/example/preemptlens/preemptlens/ctf/ArrayType", name := "count", desc := "(JJ)J" } : Jvm.MethodName) prog_108_method_6_code (4 : Nat) (Option.some Jvm.ClassFile.FieldType.long)).before args0 about1 = true := code_word (m := ⟨4, 0⟩) (meth := k4m0) (c := k4c0) (by decide +kernel) rfl rfl rfl (by decide +kernel)
set_option maxRecDepth 65536 in
theorem w_c2 : (Jvm.Cond.code ({ cls := "com/example/preemptlens/preemptlens/ctf/ArrayTypeCountPinLaw", name := "expected", desc := "(JJ)J" } : Jvm.MethodName) method_3_code (18 : Nat) (Option.some Jvm.ClassFile.FieldType.long)).before args0 about1 = true := code_word (m := ⟨1, 2⟩) (meth := k1m2) (c := k1c2) (by decide +kernel) rfl rfl rfl (by decide +kernel)
def codes1 : List Jvm.Cond := [Jvm.Cond.code x code maxLocals ret, Jvm.Cond.code ({ cls := "com/example/preemptlens/preemptlens/ctf/ArrayType", name := "count", desc := "(JJ)J" } : Jvm.MethodName) prog_108_method_6_code (4 : Nat) (Option.some Jvm.ClassFile.FieldType.long), Jvm.Cond.code ({ cls := "com/example/preemptlens/preemptlens/ctf/ArrayTypeCountPinLaw", name := "expected", desc := "(JJ)J" } : Jvm.MethodName) method_3_code (18 : Nat) (Option.some Jvm.ClassFile.FieldType.long)]
set_option maxRecDepth 65536 in
theorem codes_eq : words1.filter isCode = codes1 := rfl
theorem w_codes : ∀ c ∈ words1.filter isCode, c.before args0 about1 = true := by
  rw [codes_eq]
  intro c hc
  simp only [codes1, List.mem_cons, List.not_mem_nil, or_false] at hc
  rcases hc with rfl | rfl | rfl
  · exact w_c0
  · exact w_c1
  · exact w_c2
set_option maxRecDepth 65536 in
theorem w_t1 : words1.all (fun c => isCode c || c.before args0 about1) = true := by decide +kernel
theorem w_tables : (allAtoms (Jvm.Cond.code x code maxLocals ret :: tables_1)).before args0 about1 = true := by
  rw [allAtoms_all]
  show words1.all (fun c => c.before args0 about1) = true
  refine all_split ?_ w_codes
  rw [w_t1]
set_option maxRecDepth 65536 in
theorem w_case : (Jvm.Cond.and given_1 narrow_1).before args0 about1 = true := by decide +kernel
theorem w_applies : (headSpec (Jvm.Cond.code x code maxLocals ret :: tables_1) room_1).applies x e0.platform about1 = true :=
  (Spec.applies_iff w_frames).mpr ⟨w_running, w_runnable, w_alone, w_named, w_hears, w_ripe, w_room, w_tables⟩
theorem atStart : AtStart classFile x code maxLocals ret World_1 tables_1 room_1 Calls_1 rest_1 Pre_1 launch0 p0 e0 about1 theMethod args0 below0 :=
  ⟨lists_1, trivial, launch0.admits_env _ _ _, launch0.least_env, fairChoices_fair.cas, fairChoices_fair.clock, w_frames, w_args, w_heap, w_applies, trivial, trivial, w_case⟩
end start1
theorem witness_1 : WitnessClaimed_1 := ⟨start1.p0, start1.e0, start1.about1, start1.theMethod, start1.args0, start1.below0, start1.atStart⟩
end Jvm.Pilot.@@N@@
