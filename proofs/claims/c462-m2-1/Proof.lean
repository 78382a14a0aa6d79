import JvmDerived
import JvmDerived.Pilot.@@N@@Statement
import JvmDerived.Pilot.@@N@@Code
set_option linter.unusedVariables false
set_option linter.unusedSimpArgs false
namespace Jvm.RoadKit
open Sem ClassFile Op Lib Jvm.Stand Jvm.Free Jvm.LawKit
section New
variable {p : Program} {l : Launch} {e : Env} {R : Room} {s : State} {m : MethodId} {args : Array Value} {below : List Frame} {meth : Method} {c : Code} {T : State} {locs : List Loc} {cells slots : Nat}
theorem retI (X : Stand p l e R s m args below meth c T locs cells slots) (hx : p.tables.exec = Jvm.exec) {pc : Nat} {Ls : Array Slot} {z : Int32} {rest : List Value} (hret : meth.sig.returnType = some .int) (hd : decode c.code pc = .ok (.ireturn, 1)) {fs : List Frame}
    (hl : ∀ (f : JFrame) (acts : List Action), f.method = m → f.locked = none → f.entered = [] → (doReturn e (T.setTop f) acts (some (.int z))).1 = T.setFrames fs) : Steps p.tables e below (T.setTop (mkF m pc Ls (.int z :: rest))) (T.setFrames fs) := by
  have hm' : T.vm.method? m = some meth := X.method'
  have hn : narrow .int (.int z) = .int z := rfl
  show Steps p.tables e below (T.setTop { method := m, pc := pc, locals := Ls, stack := _ :: rest, locked := none }) _
  jvm_step X.here [X.here.top, hx, hd, hm', hret, hn]
  first | (intro acts; rw [hl _ acts rfl rfl rfl]) | rw [hl _ _ rfl rfl rfl]
  exact Steps.refl _
theorem own_retJ (X : Stand p l e R s m args below meth c T locs cells slots) (hx : p.tables.exec = Jvm.exec) {pc : Nat} {Ls : Array Slot} {z : Int64} {rest : List Value} (hret : meth.sig.returnType = some .long) (hd : decode c.code pc = .ok (.lreturn, 1)) {fs : List Frame}
    (hl : ∀ (f : JFrame) (acts : List Action), f.method = m → f.locked = none → f.entered = [] → (doReturn e (T.setTop f) acts (some (.long z))).1 = T.setFrames fs) : Steps p.tables e below (T.setTop (mkF m pc Ls (.long z :: rest))) (T.setFrames fs) := by
  have hm' : T.vm.method? m = some meth := X.method'
  have hn : narrow .long (.long z) = .long z := rfl
  show Steps p.tables e below (T.setTop { method := m, pc := pc, locals := Ls, stack := _ :: rest, locked := none }) _
  jvm_step X.here [X.here.top, hx, hd, hm', hret, hn]
  first | (intro acts; rw [hl _ acts rfl rfl rfl]) | rw [hl _ _ rfl rfl rfl]
  exact Steps.refl _
end New
end Jvm.RoadKit
namespace Jvm.Pilot.@@N@@
open Jvm Jvm.ClassFile Sem Op Lib Jvm.Free Jvm.Stand Jvm.LawKit Jvm.RoadKit Bundle Jvm.Pilot.@@N@@.Jvm.D
def own_Fin (tb : Tables) (e : Env) (below : List Frame) (P : Outcome → State → Prop) (S : State) : Prop := ∃ s₂ o, Steps tb e below S s₂ ∧ s₂.status = .running ∧ Ended s₂ below o ∧ P o s₂
theorem own_step {tb : Tables} {e : Env} {below : List Frame} {P : Outcome → State → Prop} {A B : State} (h : ∀ t, Steps tb e below B t → Steps tb e below A t) (k : own_Fin tb e below P B) : own_Fin tb e below P A := by
  obtain ⟨s₂, o, h1, h2⟩ := k; exact ⟨s₂, o, h _ h1, h2⟩
theorem own_steps {tb : Tables} {e : Env} {below : List Frame} {P : Outcome → State → Prop} {A B : State} (h : Steps tb e below A B) (k : own_Fin tb e below P B) : own_Fin tb e below P A := by
  obtain ⟨s₂, o, h1, h2⟩ := k; exact ⟨s₂, o, h.trans h1, h2⟩
theorem own_ret {tb : Tables} {e : Env} {below : List Frame} {P : Outcome → State → Prop} {S s₂ : State} {o : Outcome} (h : Steps tb e below S s₂) (h1 : s₂.status = .running) (h2 : Ended s₂ below o) (h3 : P o s₂) : own_Fin tb e below P S := ⟨s₂, o, h, h1, h2, h3⟩
theorem own_enter {tb : Tables} {e : Env} {below : List Frame} {P : Outcome → State → Prop} {T : State} {g g' : JFrame} (q : g = g') (k : own_Fin tb e below P (T.setTop g')) : ∃ s₂ o, Steps tb e below (T.setTop g) s₂ ∧ s₂.status = .running ∧ Ended s₂ below o ∧ P o s₂ := q ▸ k
def own_Two (a b : Slot) : Prop := (a = .unset ∧ b = .unset) ∨ ∃ v : Int64, a = .val (.long v) ∧ b = .second
theorem own_Two.u : own_Two .unset .unset := Or.inl ⟨rfl, rfl⟩
theorem own_Two.l {v : Int64} : own_Two (.val (.long v)) .second := Or.inr ⟨v, rfl, rfl⟩
def own_ends (c b x : Int32) : Int64 := if c = 13 ∨ (c = 8232 ∧ ¬ x = 0) then 1 else if (c = 10 ∨ (c = 133 ∧ ¬ x = 0)) ∧ ¬ b = 13 then 1 else 0
def own_endI (c b x : Int32) : Int32 := if c = 13 then 1 else if ¬ x = 0 ∧ c = 8232 then 1 else if b = 13 then 0 else if c = 10 then 1 else if ¬ x = 0 ∧ c = 133 then 1 else 0
theorem own_rel (c b x : Int32) : (if own_endI c b x = 0 then (0 : Int64) else 1) = own_ends c b x := by
  by_cases h1 : c = 13 <;> by_cases h2 : c = 8232 <;> by_cases h3 : x = 0 <;> by_cases h4 : b = 13 <;> by_cases h5 : c = 10 <;> by_cases h6 : c = 133 <;> simp_all [own_endI, own_ends]
theorem own_bool {y : Int32} {P : Prop} [Decidable P] (h : y = if P then 0 else 1) : y &&& 1 = y := by rw [h]; split <;> decide
theorem pn_0 : plainName "com/example/streamgist/streamgist/paths/LinesCountPinLaw" = true := by first | (simp [plainName, overriddenIn]; done) | decide +kernel
theorem ef_1 (m : MethodId) (x0 : Int32) (x1 : Int32) : entryFrame m #[(.int x0), (.int x1)] 3 = mkF m 0 #[.val (.int x0), .val (.int x1), .unset] [] := by first | (simp [entryFrame, mkF, argsToLocals, Value.category]; done) | rfl
def Q1 (Z : State) (p0 : Int32) (p1 : Int32) (h0 : Heap) (n0 : Nat) (v : Option Value) (h : Heap) (L : List Loc) : Prop := ∃ r : Int32, v = some (.int r) ∧ Fr n0 L ∧ h = h0
abbrev P1 (Z : State) (p0 : Int32) (p1 : Int32) (h0 : Heap) (n0 : Nat) (s : State) : Outcome → State → Prop := fun o U' => ∃ v L, o = .returned v ∧ Q1 Z p0 p1 h0 n0 v U'.heap L ∧ FrameEnd s o U' L ({ frames := 0, cells := 0, slots := 0, locals := 0 } : Room).cells ({ frames := 0, cells := 0, slots := 0, locals := 0 } : Room).slots
theorem d1_0 : decode method_3_code 0 = .ok (.iload_n 0, 1) := by decide +kernel
theorem d1_1 : decode method_3_code 1 = .ok (.bipush 7, 2) := by decide +kernel
theorem d1_3 : decode method_3_code 3 = .ok (.iand, 1) := by decide +kernel
theorem d1_4 : decode method_3_code 4 = .ok (.istore_n 2, 1) := by decide +kernel
theorem d1_5 : decode method_3_code 5 = .ok (.iload_n 2, 1) := by decide +kernel
theorem d1_6 : decode method_3_code 6 = .ok (.ifCond .ne 6, 3) := by decide +kernel
theorem d1_9 : decode method_3_code 9 = .ok (.bipush 13, 2) := by decide +kernel
theorem d1_11 : decode method_3_code 11 = .ok (.ireturn, 1) := by decide +kernel
theorem d1_12 : decode method_3_code 12 = .ok (.iload_n 2, 1) := by decide +kernel
theorem d1_13 : decode method_3_code 13 = .ok (.iconst 1, 1) := by decide +kernel
theorem d1_14 : decode method_3_code 14 = .ok (.if_icmp .ne 6, 3) := by decide +kernel
theorem d1_17 : decode method_3_code 17 = .ok (.bipush 10, 2) := by decide +kernel
theorem d1_19 : decode method_3_code 19 = .ok (.ireturn, 1) := by decide +kernel
theorem d1_20 : decode method_3_code 20 = .ok (.iload_n 2, 1) := by decide +kernel
theorem d1_21 : decode method_3_code 21 = .ok (.iconst 2, 1) := by decide +kernel
theorem d1_22 : decode method_3_code 22 = .ok (.if_icmp .ne 7, 3) := by decide +kernel
theorem d1_25 : decode method_3_code 25 = .ok (.sipush 133, 3) := by decide +kernel
theorem d1_28 : decode method_3_code 28 = .ok (.ireturn, 1) := by decide +kernel
theorem d1_29 : decode method_3_code 29 = .ok (.iload_n 2, 1) := by decide +kernel
theorem d1_30 : decode method_3_code 30 = .ok (.iconst 3, 1) := by decide +kernel
theorem d1_31 : decode method_3_code 31 = .ok (.if_icmp .ne 7, 3) := by decide +kernel
theorem d1_34 : decode method_3_code 34 = .ok (.sipush 8232, 3) := by decide +kernel
theorem d1_37 : decode method_3_code 37 = .ok (.ireturn, 1) := by decide +kernel
theorem d1_38 : decode method_3_code 38 = .ok (.iload_n 1, 1) := by decide +kernel
theorem d1_39 : decode method_3_code 39 = .ok (.i2c, 1) := by decide +kernel
theorem d1_40 : decode method_3_code 40 = .ok (.ireturn, 1) := by decide +kernel
set_option maxRecDepth 65536 in
set_option maxHeartbeats 40000000 in
theorem rm1 (l : Launch) (Z : State) (a0 : Array Value) (hw : ∀ d ∈ tables_1, d.before a0 Z = true) (ws : List Jvm.Cond) (p0 : Int32) (p1 : Int32) (h0 : Heap) (n0 : Nat) (Z0 : n0 ≤ h0.size) :
    MetFree l (⟨"com/example/streamgist/streamgist/paths/LinesCountPinLaw", "pick", "(II)C"⟩ : MethodName) (head1 (Jvm.Cond.code (⟨"com/example/streamgist/streamgist/paths/LinesCountPinLaw", "pick", "(II)C"⟩ : MethodName) method_3_code 3 (some .char) :: ws) ({ frames := 0, cells := 0, slots := 0, locals := 0 } : Room)) (fun a U => a = #[(.int p0), (.int p1)] ∧ Z.Warmed39 U.vm ∧ U.heap = h0) (fun _ _ _ _ _ => True) (fun _ U o U' => ∃ v L, o = .returned v ∧ Q1 Z p0 p1 h0 n0 v U'.heap L ∧ FrameEnd U o U' L ({ frames := 0, cells := 0, slots := 0, locals := 0 } : Room).cells ({ frames := 0, cells := 0, slots := 0, locals := 0 } : Room).slots) := by
  refine MetFree.of_bodySF (plainFor_of_name pn_0) hisR ?_
  intro p e s m args below meth c s₁ Bd hml0 hP hK
  obtain ⟨rfl, hZ, hh⟩ := hP
  have hx := Bd.exec
  have hby := Bd.bytes
  have hml : c.maxLocals = 3 := hml0
  have hown : s.vm.findClass "com/example/streamgist/streamgist/paths/LinesCountPinLaw" = some m.cls := findClass_of_methodNamed Bd.named
  have hnm := (name_of_methodNamed Bd.named Bd.method).1
  have X0 : Stand p l e ({ frames := 0, cells := 0, slots := 0, locals := 0 } : Room) s m #[(.int p0), (.int p1)] below meth c s₁ [] 0 0 := Stand.of_body Bd
  have e0 : s₁.heap = h0 := by rw [← hh, Bd.state]; rfl
  have N0 := Fr.nil n0
  refine own_enter (P := (P1 Z p0 p1 h0 n0 s)) (ef_1 m p0 p1) ?_
  show own_Fin p.tables e below _ (s₁.setTop (mkF m 0 #[.val (.int p0), .val (.int p1), .unset] []))
  refine own_step (fun _ k => XS.iloadN X0.here hx rfl (hb hby d1_0) rfl k) ?_
  show own_Fin p.tables e below _ (s₁.setTop (mkF m 1 #[.val (.int p0), .val (.int p1), .unset] [(.int p0)]))
  refine own_step (fun _ k => XS.bipush X0.here hx rfl (hb hby d1_1) k) ?_
  show own_Fin p.tables e below _ (s₁.setTop (mkF m 3 #[.val (.int p0), .val (.int p1), .unset] [(.int (7 : Int32)), (.int p0)]))
  refine own_step (fun _ k => XS.iand X0.here hx rfl (hb hby d1_3) rfl k) ?_
  show own_Fin p.tables e below _ (s₁.setTop (mkF m 4 #[.val (.int p0), .val (.int p1), .unset] [(.int (p0 &&& (7 : Int32)))]))
  refine own_step (fun _ k => XS.istoreN X0.here hx rfl (hb hby d1_4) rfl (l' := #[.val (.int p0), .val (.int p1), .val (.int (p0 &&& (7 : Int32)))]) rfl k) ?_
  show own_Fin p.tables e below _ (s₁.setTop (mkF m 5 #[.val (.int p0), .val (.int p1), .val (.int (p0 &&& (7 : Int32)))] []))
  refine own_step (fun _ k => XS.iloadN X0.here hx rfl (hb hby d1_5) rfl k) ?_
  show own_Fin p.tables e below _ (s₁.setTop (mkF m 6 #[.val (.int p0), .val (.int p1), .val (.int (p0 &&& (7 : Int32)))] [(.int (p0 &&& (7 : Int32)))]))
  by_cases hc1 : (p0 &&& (7 : Int32)) = (0 : Int32)
  · refine own_step (fun _ k => XS.ifNo X0.here hx rfl (hb hby d1_6) rfl ((if0 _ _).trans (teq hc1).2) k) ?_
    show own_Fin p.tables e below _ (s₁.setTop (mkF m 9 #[.val (.int p0), .val (.int p1), .val (.int (p0 &&& (7 : Int32)))] []))
    refine own_step (fun _ k => XS.bipush X0.here hx rfl (hb hby d1_9) k) ?_
    show own_Fin p.tables e below _ (s₁.setTop (mkF m 11 #[.val (.int p0), .val (.int p1), .val (.int (p0 &&& (7 : Int32)))] [(.int (13 : Int32))]))
    obtain ⟨fs2, hr2, hrun2, hended2, hW2, hsame2⟩ := X0.leave (v := some (.int (nar .char (13 : Int32)))) (fun h => by rw [Bd.returns] at h; cases h)
    refine own_ret (retN X0 hx (t := .char) Bd.returns (by simp) (hb hby d1_11) hr2) hrun2 hended2 ?_
    refine ⟨_, _, rfl, ?_, ⟨_, rfl⟩, hW2, hsame2.mono (by decide) (by decide)⟩
    show Q1 Z p0 p1 h0 n0 _ s₁.heap _
    rw [e0]
    exact ⟨_, rfl, N0, rfl⟩
  · refine own_step (fun _ k => XS.ifYes X0.here hx rfl (pc0 := 6) (pc' := 12) rfl (hb hby d1_6) rfl ((if0 _ _).trans (feq hc1).2) (by decide) (by decide) k) ?_
    show own_Fin p.tables e below _ (s₁.setTop (mkF m 12 #[.val (.int p0), .val (.int p1), .val (.int (p0 &&& (7 : Int32)))] []))
    refine own_step (fun _ k => XS.iloadN X0.here hx rfl (hb hby d1_12) rfl k) ?_
    show own_Fin p.tables e below _ (s₁.setTop (mkF m 13 #[.val (.int p0), .val (.int p1), .val (.int (p0 &&& (7 : Int32)))] [(.int (p0 &&& (7 : Int32)))]))
    refine own_step (fun _ k => XS.iconst X0.here hx rfl (hb hby d1_13) k) ?_
    show own_Fin p.tables e below _ (s₁.setTop (mkF m 14 #[.val (.int p0), .val (.int p1), .val (.int (p0 &&& (7 : Int32)))] [(.int (1 : Int32)), (.int (p0 &&& (7 : Int32)))]))
    by_cases hc3 : (p0 &&& (7 : Int32)) = (1 : Int32)
    · refine own_step (fun _ k => XS.icmpNo X0.here hx rfl (hb hby d1_14) rfl ((teq hc3).2) k) ?_
      show own_Fin p.tables e below _ (s₁.setTop (mkF m 17 #[.val (.int p0), .val (.int p1), .val (.int (p0 &&& (7 : Int32)))] []))
      refine own_step (fun _ k => XS.bipush X0.here hx rfl (hb hby d1_17) k) ?_
      show own_Fin p.tables e below _ (s₁.setTop (mkF m 19 #[.val (.int p0), .val (.int p1), .val (.int (p0 &&& (7 : Int32)))] [(.int (10 : Int32))]))
      obtain ⟨fs4, hr4, hrun4, hended4, hW4, hsame4⟩ := X0.leave (v := some (.int (nar .char (10 : Int32)))) (fun h => by rw [Bd.returns] at h; cases h)
      refine own_ret (retN X0 hx (t := .char) Bd.returns (by simp) (hb hby d1_19) hr4) hrun4 hended4 ?_
      refine ⟨_, _, rfl, ?_, ⟨_, rfl⟩, hW4, hsame4.mono (by decide) (by decide)⟩
      show Q1 Z p0 p1 h0 n0 _ s₁.heap _
      rw [e0]
      exact ⟨_, rfl, N0, rfl⟩
    · refine own_step (fun _ k => XS.icmpYes X0.here hx rfl (pc0 := 14) (pc' := 20) rfl (hb hby d1_14) rfl ((feq hc3).2) (by decide) (by decide) k) ?_
      show own_Fin p.tables e below _ (s₁.setTop (mkF m 20 #[.val (.int p0), .val (.int p1), .val (.int (p0 &&& (7 : Int32)))] []))
      refine own_step (fun _ k => XS.iloadN X0.here hx rfl (hb hby d1_20) rfl k) ?_
      show own_Fin p.tables e below _ (s₁.setTop (mkF m 21 #[.val (.int p0), .val (.int p1), .val (.int (p0 &&& (7 : Int32)))] [(.int (p0 &&& (7 : Int32)))]))
      refine own_step (fun _ k => XS.iconst X0.here hx rfl (hb hby d1_21) k) ?_
      show own_Fin p.tables e below _ (s₁.setTop (mkF m 22 #[.val (.int p0), .val (.int p1), .val (.int (p0 &&& (7 : Int32)))] [(.int (2 : Int32)), (.int (p0 &&& (7 : Int32)))]))
      by_cases hc5 : (p0 &&& (7 : Int32)) = (2 : Int32)
      · refine own_step (fun _ k => XS.icmpNo X0.here hx rfl (hb hby d1_22) rfl ((teq hc5).2) k) ?_
        show own_Fin p.tables e below _ (s₁.setTop (mkF m 25 #[.val (.int p0), .val (.int p1), .val (.int (p0 &&& (7 : Int32)))] []))
        refine own_step (fun _ k => XS.sipush X0.here hx rfl (hb hby d1_25) k) ?_
        show own_Fin p.tables e below _ (s₁.setTop (mkF m 28 #[.val (.int p0), .val (.int p1), .val (.int (p0 &&& (7 : Int32)))] [(.int (133 : Int32))]))
        obtain ⟨fs6, hr6, hrun6, hended6, hW6, hsame6⟩ := X0.leave (v := some (.int (nar .char (133 : Int32)))) (fun h => by rw [Bd.returns] at h; cases h)
        refine own_ret (retN X0 hx (t := .char) Bd.returns (by simp) (hb hby d1_28) hr6) hrun6 hended6 ?_
        refine ⟨_, _, rfl, ?_, ⟨_, rfl⟩, hW6, hsame6.mono (by decide) (by decide)⟩
        show Q1 Z p0 p1 h0 n0 _ s₁.heap _
        rw [e0]
        exact ⟨_, rfl, N0, rfl⟩
      · refine own_step (fun _ k => XS.icmpYes X0.here hx rfl (pc0 := 22) (pc' := 29) rfl (hb hby d1_22) rfl ((feq hc5).2) (by decide) (by decide) k) ?_
        show own_Fin p.tables e below _ (s₁.setTop (mkF m 29 #[.val (.int p0), .val (.int p1), .val (.int (p0 &&& (7 : Int32)))] []))
        refine own_step (fun _ k => XS.iloadN X0.here hx rfl (hb hby d1_29) rfl k) ?_
        show own_Fin p.tables e below _ (s₁.setTop (mkF m 30 #[.val (.int p0), .val (.int p1), .val (.int (p0 &&& (7 : Int32)))] [(.int (p0 &&& (7 : Int32)))]))
        refine own_step (fun _ k => XS.iconst X0.here hx rfl (hb hby d1_30) k) ?_
        show own_Fin p.tables e below _ (s₁.setTop (mkF m 31 #[.val (.int p0), .val (.int p1), .val (.int (p0 &&& (7 : Int32)))] [(.int (3 : Int32)), (.int (p0 &&& (7 : Int32)))]))
        by_cases hc7 : (p0 &&& (7 : Int32)) = (3 : Int32)
        · refine own_step (fun _ k => XS.icmpNo X0.here hx rfl (hb hby d1_31) rfl ((teq hc7).2) k) ?_
          show own_Fin p.tables e below _ (s₁.setTop (mkF m 34 #[.val (.int p0), .val (.int p1), .val (.int (p0 &&& (7 : Int32)))] []))
          refine own_step (fun _ k => XS.sipush X0.here hx rfl (hb hby d1_34) k) ?_
          show own_Fin p.tables e below _ (s₁.setTop (mkF m 37 #[.val (.int p0), .val (.int p1), .val (.int (p0 &&& (7 : Int32)))] [(.int (8232 : Int32))]))
          obtain ⟨fs8, hr8, hrun8, hended8, hW8, hsame8⟩ := X0.leave (v := some (.int (nar .char (8232 : Int32)))) (fun h => by rw [Bd.returns] at h; cases h)
          refine own_ret (retN X0 hx (t := .char) Bd.returns (by simp) (hb hby d1_37) hr8) hrun8 hended8 ?_
          refine ⟨_, _, rfl, ?_, ⟨_, rfl⟩, hW8, hsame8.mono (by decide) (by decide)⟩
          show Q1 Z p0 p1 h0 n0 _ s₁.heap _
          rw [e0]
          exact ⟨_, rfl, N0, rfl⟩
        · refine own_step (fun _ k => XS.icmpYes X0.here hx rfl (pc0 := 31) (pc' := 38) rfl (hb hby d1_31) rfl ((feq hc7).2) (by decide) (by decide) k) ?_
          show own_Fin p.tables e below _ (s₁.setTop (mkF m 38 #[.val (.int p0), .val (.int p1), .val (.int (p0 &&& (7 : Int32)))] []))
          refine own_step (fun _ k => XS.iloadN X0.here hx rfl (hb hby d1_38) rfl k) ?_
          show own_Fin p.tables e below _ (s₁.setTop (mkF m 39 #[.val (.int p0), .val (.int p1), .val (.int (p0 &&& (7 : Int32)))] [(.int p1)]))
          refine own_step (fun _ k => XS.i2c X0.here hx rfl (hb hby d1_39) rfl k) ?_
          show own_Fin p.tables e below _ (s₁.setTop (mkF m 40 #[.val (.int p0), .val (.int p1), .val (.int (p0 &&& (7 : Int32)))] [(.int (p1.toUInt32.toUInt16.toUInt32.toInt32))]))
          obtain ⟨fs9, hr9, hrun9, hended9, hW9, hsame9⟩ := X0.leave (v := some (.int (nar .char (p1.toUInt32.toUInt16.toUInt32.toInt32)))) (fun h => by rw [Bd.returns] at h; cases h)
          refine own_ret (retN X0 hx (t := .char) Bd.returns (by simp) (hb hby d1_40) hr9) hrun9 hended9 ?_
          refine ⟨_, _, rfl, ?_, ⟨_, rfl⟩, hW9, hsame9.mono (by decide) (by decide)⟩
          show Q1 Z p0 p1 h0 n0 _ s₁.heap _
          rw [e0]
          exact ⟨_, rfl, N0, rfl⟩
theorem pn_1 : plainName "com/example/streamgist/streamgist/paths/DocumentText$Lines" = true := by first | (simp [plainName, overriddenIn]; done) | decide +kernel
theorem ef_2 (m : MethodId) (x0 : Addr) (x1 : Int32) : entryFrame m #[(.ref x0), (.int x1)] 2 = mkF m 0 #[.val (.ref x0), .val (.int x1)] [] := by first | (simp [entryFrame, mkF, argsToLocals, Value.category]; done) | rfl
def Q2 (Z : State) (ob : Addr) (p1 : Int32) (u1 u2 : Value) (h0 : Heap) (n0 : Nat) (v : Option Value) (h : Heap) (L : List Loc) : Prop := v = none ∧ Fr n0 L ∧ Keep h0 h [ob] ∧ Exa Z h ob "com/example/streamgist/streamgist/paths/DocumentText$Lines" ∧ Fld Z h ob "com/example/streamgist/streamgist/paths/DocumentText$Lines" "line" "J" (.long 1) ∧ Fld Z h ob "com/example/streamgist/streamgist/paths/DocumentText$Lines" "xml11" "Z" (.int (p1 &&& 1))
abbrev P2 (Z : State) (ob : Addr) (p1 : Int32) (u1 u2 : Value) (h0 : Heap) (n0 : Nat) (s : State) : Outcome → State → Prop := fun o U' => ∃ v L, o = .returned v ∧ Q2 Z ob p1 u1 u2 h0 n0 v U'.heap L ∧ FrameEnd s o U' L ({ frames := 1, cells := 0, slots := 0, locals := 12 } : Room).cells ({ frames := 1, cells := 0, slots := 0, locals := 12 } : Room).slots
theorem d2_0 : decode prog_48_method_1_code 0 = .ok (.aload_n 0, 1) := by decide +kernel
theorem d2_1 : decode prog_48_method_1_code 1 = .ok (.invokespecial 3, 3) := by decide +kernel
theorem d2_4 : decode prog_48_method_1_code 4 = .ok (.aload_n 0, 1) := by decide +kernel
theorem d2_5 : decode prog_48_method_1_code 5 = .ok (.lconst 1, 1) := by decide +kernel
theorem d2_6 : decode prog_48_method_1_code 6 = .ok (.putfield 9, 3) := by decide +kernel
theorem d2_9 : decode prog_48_method_1_code 9 = .ok (.aload_n 0, 1) := by decide +kernel
theorem d2_10 : decode prog_48_method_1_code 10 = .ok (.iload_n 1, 1) := by decide +kernel
theorem d2_11 : decode prog_48_method_1_code 11 = .ok (.putfield 15, 3) := by decide +kernel
theorem d2_14 : decode prog_48_method_1_code 14 = .ok (.return_, 1) := by decide +kernel
set_option maxRecDepth 65536 in
set_option maxHeartbeats 40000000 in
theorem rm2 (l : Launch) (Z : State) (a0 : Array Value) (hw : ∀ d ∈ tables_1, d.before a0 Z = true) (ws : List Jvm.Cond) (ob : Addr) (p1 : Int32) (u1 u2 : Value) (h0 : Heap) (n0 : Nat) (Z0 : n0 ≤ h0.size) (Fl0 : Fld Z h0 ob "com/example/streamgist/streamgist/paths/DocumentText$Lines" "line" "J" u1) (Fx0 : Fld Z h0 ob "com/example/streamgist/streamgist/paths/DocumentText$Lines" "xml11" "Z" u2) (Ex0 : Exa Z h0 ob "com/example/streamgist/streamgist/paths/DocumentText$Lines") (g_ob : n0 ≤ ob) :
    MetFree l (⟨"com/example/streamgist/streamgist/paths/DocumentText$Lines", "<init>", "(Z)V"⟩ : MethodName) (head1 (Jvm.Cond.code (⟨"com/example/streamgist/streamgist/paths/DocumentText$Lines", "<init>", "(Z)V"⟩ : MethodName) prog_48_method_1_code 2 none :: ws) ({ frames := 1, cells := 0, slots := 0, locals := 12 } : Room)) (fun a U => a = #[(.ref ob), (.int p1)] ∧ Z.Warmed39 U.vm ∧ U.heap = h0) (fun _ _ _ _ _ => True) (fun _ U o U' => ∃ v L, o = .returned v ∧ Q2 Z ob p1 u1 u2 h0 n0 v U'.heap L ∧ FrameEnd U o U' L ({ frames := 1, cells := 0, slots := 0, locals := 12 } : Room).cells ({ frames := 1, cells := 0, slots := 0, locals := 12 } : Room).slots) := by
  refine MetFree.of_bodySF (plainFor_of_name pn_1) hisR ?_
  intro p e s m args below meth c s₁ Bd hml0 hP hK
  obtain ⟨rfl, hZ, hh⟩ := hP
  have hx := Bd.exec
  have hby := Bd.bytes
  have hml : c.maxLocals = 2 := hml0
  have hown : s.vm.findClass "com/example/streamgist/streamgist/paths/DocumentText$Lines" = some m.cls := findClass_of_methodNamed Bd.named
  have hnm := (name_of_methodNamed Bd.named Bd.method).1
  have X0 : Stand p l e ({ frames := 1, cells := 0, slots := 0, locals := 12 } : Room) s m #[(.ref ob), (.int p1)] below meth c s₁ [] 0 0 := Stand.of_body Bd
  have e0 : s₁.heap = h0 := by rw [← hh, Bd.state]; rfl
  have N0 := Fr.nil n0
  refine own_enter (P := (P2 Z ob p1 u1 u2 h0 n0 s)) (ef_2 m ob p1) ?_
  have K0 : Keep h0 h0 [ob] := Keep.refl h0 _
  show own_Fin p.tables e below _ (s₁.setTop (mkF m 0 #[.val (.ref ob), .val (.int p1)] []))
  refine own_step (fun _ k => XS.aloadN X0.here hx rfl (hb hby d2_0) rfl rfl k) ?_
  show own_Fin p.tables e below _ (s₁.setTop (mkF m 1 #[.val (.ref ob), .val (.int p1)] [(.ref ob)]))
  obtain ⟨T1, X1, e1, st1⟩ := initO X0 hx hZ hown (hw _ (List.mem_of_getElem? (i := 10) rfl)) (hw _ (List.mem_of_getElem? (i := 11) rfl)) (hw _ (List.mem_of_getElem? (i := 12) rfl)) e0 (g := (mkF m 1 #[.val (.ref ob), .val (.int p1)] [(.ref ob)])) rfl (by rw [hml]; rfl) rfl (hb hby d2_1) (by decide) (W := 0) (by show 2 * 0 + _ ≤ _; exact Nat.le_of_eq rfl) (by decide)
  refine own_step st1 ?_
  show own_Fin p.tables e below _ (T1.setTop (mkF m 4 #[.val (.ref ob), .val (.int p1)] []))
  refine own_step (fun _ k => XS.aloadN X1.here hx rfl (hb hby d2_4) rfl rfl k) ?_
  show own_Fin p.tables e below _ (T1.setTop (mkF m 5 #[.val (.ref ob), .val (.int p1)] [(.ref ob)]))
  refine own_step (fun _ k => XS.lconst X1.here hx rfl (hb hby d2_5) k) ?_
  show own_Fin p.tables e below _ (T1.setTop (mkF m 6 #[.val (.ref ob), .val (.int p1)] [(.long (1 : Int64)), (.ref ob)]))
  obtain ⟨T2, h2, X2, e2, W2, st2⟩ := putF X1 hx hZ hown (host := "") (Or.inl (hw _ (List.mem_of_getElem? (i := 13) rfl))) Via.refl e1 Fl0 Ex0 (Or.inl (hw _ (List.mem_of_getElem? (i := 14) rfl))) (hw _ (List.mem_of_getElem? (i := 5) rfl)) (ty := .long) (by decide) rfl rfl (g := (mkF m 6 #[.val (.ref ob), .val (.int p1)] [(.long (1 : Int64)), (.ref ob)])) rfl rfl (hb hby d2_6)
  refine own_step st2 ?_
  have f3 := Nat.le_trans Z0 (Keep.of_wr W2).1
  have f4 := Fx0.other W2 (Or.inr (slot_ne (Or.inr (hw _ (List.mem_of_getElem? (i := 16) rfl))) (Or.inl (hw _ (List.mem_of_getElem? (i := 14) rfl))) (by decide) (t := .boolean) (t' := .long) (by decide) (by decide)))
  have f5 := Ex0.wr W2
  have f6 := K0.wr W2 (Or.inl (List.mem_of_getElem? (i := 0) rfl))
  have f7 := Fl0.same W2
  have N8 := Fr.snoc X2 N0 g_ob
  show own_Fin p.tables e below _ (T2.setTop (mkF m 9 #[.val (.ref ob), .val (.int p1)] []))
  refine own_step (fun _ k => XS.aloadN X2.here hx rfl (hb hby d2_9) rfl rfl k) ?_
  show own_Fin p.tables e below _ (T2.setTop (mkF m 10 #[.val (.ref ob), .val (.int p1)] [(.ref ob)]))
  refine own_step (fun _ k => XS.iloadN X2.here hx rfl (hb hby d2_10) rfl k) ?_
  show own_Fin p.tables e below _ (T2.setTop (mkF m 11 #[.val (.ref ob), .val (.int p1)] [(.int p1), (.ref ob)]))
  obtain ⟨T9, h9, X9, e9, W9, st9⟩ := putFN X2 hx hZ hown (hw _ (List.mem_of_getElem? (i := 15) rfl)) Via.refl e2 f4 f5 (Or.inr ⟨(hw _ (List.mem_of_getElem? (i := 16) rfl)), rfl, hnm⟩) (hw _ (List.mem_of_getElem? (i := 5) rfl)) (ty := .boolean) (v' := .int (p1 &&& 1)) (by decide) rfl (fits_nar_bool _) (g := (mkF m 11 #[.val (.ref ob), .val (.int p1)] [(.int p1), (.ref ob)])) rfl rfl (hb hby d2_11)
  refine own_step st9 ?_
  have f10 := Nat.le_trans f3 (Keep.of_wr W9).1
  have f11 := f7.other W9 (Or.inr (slot_ne (Or.inl (hw _ (List.mem_of_getElem? (i := 14) rfl))) (Or.inr (hw _ (List.mem_of_getElem? (i := 16) rfl))) (by decide) (t := .long) (t' := .boolean) (by decide) (by decide)))
  have f12 := f5.wr W9
  have f13 := f6.wr W9 (Or.inl (List.mem_of_getElem? (i := 0) rfl))
  have f14 := f4.same W9
  have N15 := Fr.snoc X9 N8 g_ob
  show own_Fin p.tables e below _ (T9.setTop (mkF m 14 #[.val (.ref ob), .val (.int p1)] []))
  obtain ⟨fs16, hr16, hrun16, hended16, hW16, hsame16⟩ := X9.leave (v := none) (fun _ => rfl)
  refine own_ret (X9.returnOut hx Bd.returns (hb hby d2_14) hr16) hrun16 hended16 ?_
  refine ⟨_, _, rfl, ?_, ⟨_, rfl⟩, hW16, hsame16.mono (by decide) (by decide)⟩
  show Q2 Z ob p1 u1 u2 h0 n0 _ T9.heap _
  rw [e9]
  exact ⟨rfl, N15, f13, f12, f11, f14⟩
theorem ef_4 (m : MethodId) (x0 : Addr) : entryFrame m #[(.ref x0)] 1 = mkF m 0 #[.val (.ref x0)] [] := by first | (simp [entryFrame, mkF, argsToLocals, Value.category]; done) | rfl
def Q4 (Z : State) (ob : Addr) (w : Int64) (h0 : Heap) (n0 : Nat) (v : Option Value) (h : Heap) (L : List Loc) : Prop := v = some (.long w) ∧ Fr n0 L ∧ h = h0
abbrev P4 (Z : State) (ob : Addr) (w : Int64) (h0 : Heap) (n0 : Nat) (s : State) : Outcome → State → Prop := fun o U' => ∃ v L, o = .returned v ∧ Q4 Z ob w h0 n0 v U'.heap L ∧ FrameEnd s o U' L ({ frames := 0, cells := 0, slots := 0, locals := 0 } : Room).cells ({ frames := 0, cells := 0, slots := 0, locals := 0 } : Room).slots
theorem d4_0 : decode prog_48_method_3_code 0 = .ok (.aload_n 0, 1) := by decide +kernel
theorem d4_1 : decode prog_48_method_3_code 1 = .ok (.getfield 9, 3) := by decide +kernel
theorem d4_4 : decode prog_48_method_3_code 4 = .ok (.lreturn, 1) := by decide +kernel
set_option maxRecDepth 65536 in
set_option maxHeartbeats 40000000 in
theorem rm4 (l : Launch) (Z : State) (a0 : Array Value) (hw : ∀ d ∈ tables_1, d.before a0 Z = true) (ws : List Jvm.Cond) (ob : Addr) (w : Int64) (h0 : Heap) (n0 : Nat) (Z0 : n0 ≤ h0.size) (Fl0 : Fld Z h0 ob "com/example/streamgist/streamgist/paths/DocumentText$Lines" "line" "J" (.long w)) :
    MetFree l (⟨"com/example/streamgist/streamgist/paths/DocumentText$Lines", "line", "()J"⟩ : MethodName) (head1 (Jvm.Cond.code (⟨"com/example/streamgist/streamgist/paths/DocumentText$Lines", "line", "()J"⟩ : MethodName) prog_48_method_3_code 1 (some .long) :: ws) ({ frames := 0, cells := 0, slots := 0, locals := 0 } : Room)) (fun a U => a = #[(.ref ob)] ∧ Z.Warmed39 U.vm ∧ U.heap = h0) (fun _ _ _ _ _ => True) (fun _ U o U' => ∃ v L, o = .returned v ∧ Q4 Z ob w h0 n0 v U'.heap L ∧ FrameEnd U o U' L ({ frames := 0, cells := 0, slots := 0, locals := 0 } : Room).cells ({ frames := 0, cells := 0, slots := 0, locals := 0 } : Room).slots) := by
  refine MetFree.of_bodySF (plainFor_of_name pn_1) hisR ?_
  intro p e s m args below meth c s₁ Bd hml0 hP hK
  obtain ⟨rfl, hZ, hh⟩ := hP
  have hx := Bd.exec
  have hby := Bd.bytes
  have hml : c.maxLocals = 1 := hml0
  have hown : s.vm.findClass "com/example/streamgist/streamgist/paths/DocumentText$Lines" = some m.cls := findClass_of_methodNamed Bd.named
  have hnm := (name_of_methodNamed Bd.named Bd.method).1
  have X0 : Stand p l e ({ frames := 0, cells := 0, slots := 0, locals := 0 } : Room) s m #[(.ref ob)] below meth c s₁ [] 0 0 := Stand.of_body Bd
  have e0 : s₁.heap = h0 := by rw [← hh, Bd.state]; rfl
  have N0 := Fr.nil n0
  refine own_enter (P := (P4 Z ob w h0 n0 s)) (ef_4 m ob) ?_
  show own_Fin p.tables e below _ (s₁.setTop (mkF m 0 #[.val (.ref ob)] []))
  refine own_step (fun _ k => XS.aloadN X0.here hx rfl (hb hby d4_0) rfl rfl k) ?_
  show own_Fin p.tables e below _ (s₁.setTop (mkF m 1 #[.val (.ref ob)] [(.ref ob)]))
  obtain ⟨T1, X1, e1, st1⟩ := getF X0 hx hZ hown (host := "") (Or.inl (hw _ (List.mem_of_getElem? (i := 13) rfl))) Via.refl e0 Fl0 (g := (mkF m 1 #[.val (.ref ob)] [(.ref ob)])) rfl rfl (hb hby d4_1)
  refine own_step st1 ?_
  show own_Fin p.tables e below _ (T1.setTop (mkF m 4 #[.val (.ref ob)] [(.long w)]))
  obtain ⟨fs2, hr2, hrun2, hended2, hW2, hsame2⟩ := X1.leave (v := some (.long w)) (fun h => by rw [Bd.returns] at h; cases h)
  refine own_ret (own_retJ X1 hx Bd.returns (hb hby d4_4) hr2) hrun2 hended2 ?_
  refine ⟨_, _, rfl, ?_, ⟨_, rfl⟩, hW2, hsame2.mono (by decide) (by decide)⟩
  show Q4 Z ob w h0 n0 _ T1.heap _
  rw [e1]
  exact ⟨rfl, N0, rfl⟩
theorem ef_5 (m : MethodId) (x0 : Addr) (x1 : Int32) (x2 : Int32) : entryFrame m #[(.ref x0), (.int x1), (.int x2)] 3 = mkF m 0 #[.val (.ref x0), .val (.int x1), .val (.int x2)] [] := by first | (simp [entryFrame, mkF, argsToLocals, Value.category]; done) | rfl
def Q5 (Z : State) (ob : Addr) (cc : Int32) (cb : Int32) (w : Int64) (xb : Int32) (h0 : Heap) (n0 : Nat) (v : Option Value) (h : Heap) (L : List Loc) : Prop := v = none ∧ Fr n0 L ∧ Keep h0 h [ob] ∧ Exa Z h ob "com/example/streamgist/streamgist/paths/DocumentText$Lines" ∧ Fld Z h ob "com/example/streamgist/streamgist/paths/DocumentText$Lines" "line" "J" (.long (w + own_ends cc cb xb)) ∧ Fld Z h ob "com/example/streamgist/streamgist/paths/DocumentText$Lines" "xml11" "Z" (.int xb)
abbrev P5 (Z : State) (ob : Addr) (cc : Int32) (cb : Int32) (w : Int64) (xb : Int32) (h0 : Heap) (n0 : Nat) (s : State) : Outcome → State → Prop := fun o U' => ∃ v L, o = .returned v ∧ Q5 Z ob cc cb w xb h0 n0 v U'.heap L ∧ FrameEnd s o U' L ({ frames := 0, cells := 0, slots := 0, locals := 0 } : Room).cells ({ frames := 0, cells := 0, slots := 0, locals := 0 } : Room).slots
theorem d5_0 : decode prog_48_method_2_code 0 = .ok (.iload_n 1, 1) := by decide +kernel
theorem d5_1 : decode prog_48_method_2_code 1 = .ok (.bipush 13, 2) := by decide +kernel
theorem d5_3 : decode prog_48_method_2_code 3 = .ok (.if_icmp .eq 17, 3) := by decide +kernel
theorem d5_20 : decode prog_48_method_2_code 20 = .ok (.aload_n 0, 1) := by decide +kernel
theorem d5_21 : decode prog_48_method_2_code 21 = .ok (.dup, 1) := by decide +kernel
theorem d5_22 : decode prog_48_method_2_code 22 = .ok (.getfield 9, 3) := by decide +kernel
theorem d5_25 : decode prog_48_method_2_code 25 = .ok (.lconst 1, 1) := by decide +kernel
theorem d5_26 : decode prog_48_method_2_code 26 = .ok (.ladd, 1) := by decide +kernel
theorem d5_27 : decode prog_48_method_2_code 27 = .ok (.putfield 9, 3) := by decide +kernel
theorem d5_30 : decode prog_48_method_2_code 30 = .ok (.goto 39, 3) := by decide +kernel
theorem d5_6 : decode prog_48_method_2_code 6 = .ok (.iload_n 1, 1) := by decide +kernel
theorem d5_7 : decode prog_48_method_2_code 7 = .ok (.sipush 8232, 3) := by decide +kernel
theorem d5_10 : decode prog_48_method_2_code 10 = .ok (.if_icmp .ne 23, 3) := by decide +kernel
theorem d5_13 : decode prog_48_method_2_code 13 = .ok (.aload_n 0, 1) := by decide +kernel
theorem d5_14 : decode prog_48_method_2_code 14 = .ok (.getfield 15, 3) := by decide +kernel
theorem d5_17 : decode prog_48_method_2_code 17 = .ok (.ifCond .eq 16, 3) := by decide +kernel
theorem d5_33 : decode prog_48_method_2_code 33 = .ok (.iload_n 1, 1) := by decide +kernel
theorem d5_34 : decode prog_48_method_2_code 34 = .ok (.bipush 10, 2) := by decide +kernel
theorem d5_36 : decode prog_48_method_2_code 36 = .ok (.if_icmp .eq 17, 3) := by decide +kernel
theorem d5_53 : decode prog_48_method_2_code 53 = .ok (.iload_n 2, 1) := by decide +kernel
theorem d5_54 : decode prog_48_method_2_code 54 = .ok (.bipush 13, 2) := by decide +kernel
theorem d5_56 : decode prog_48_method_2_code 56 = .ok (.if_icmp .eq 13, 3) := by decide +kernel
theorem d5_59 : decode prog_48_method_2_code 59 = .ok (.aload_n 0, 1) := by decide +kernel
theorem d5_60 : decode prog_48_method_2_code 60 = .ok (.dup, 1) := by decide +kernel
theorem d5_61 : decode prog_48_method_2_code 61 = .ok (.getfield 9, 3) := by decide +kernel
theorem d5_64 : decode prog_48_method_2_code 64 = .ok (.lconst 1, 1) := by decide +kernel
theorem d5_65 : decode prog_48_method_2_code 65 = .ok (.ladd, 1) := by decide +kernel
theorem d5_66 : decode prog_48_method_2_code 66 = .ok (.putfield 9, 3) := by decide +kernel
theorem d5_39 : decode prog_48_method_2_code 39 = .ok (.iload_n 1, 1) := by decide +kernel
theorem d5_40 : decode prog_48_method_2_code 40 = .ok (.sipush 133, 3) := by decide +kernel
theorem d5_43 : decode prog_48_method_2_code 43 = .ok (.if_icmp .ne 26, 3) := by decide +kernel
theorem d5_46 : decode prog_48_method_2_code 46 = .ok (.aload_n 0, 1) := by decide +kernel
theorem d5_47 : decode prog_48_method_2_code 47 = .ok (.getfield 15, 3) := by decide +kernel
theorem d5_50 : decode prog_48_method_2_code 50 = .ok (.ifCond .eq 19, 3) := by decide +kernel
theorem d5_69 : decode prog_48_method_2_code 69 = .ok (.return_, 1) := by decide +kernel
set_option maxRecDepth 65536 in
set_option maxHeartbeats 40000000 in
theorem rm5 (l : Launch) (Z : State) (a0 : Array Value) (hw : ∀ d ∈ tables_1, d.before a0 Z = true) (ws : List Jvm.Cond) (ob : Addr) (cc : Int32) (cb : Int32) (w : Int64) (xb : Int32) (h0 : Heap) (n0 : Nat) (Z0 : n0 ≤ h0.size) (Fl0 : Fld Z h0 ob "com/example/streamgist/streamgist/paths/DocumentText$Lines" "line" "J" (.long w)) (Fx0 : Fld Z h0 ob "com/example/streamgist/streamgist/paths/DocumentText$Lines" "xml11" "Z" (.int xb)) (Ex0 : Exa Z h0 ob "com/example/streamgist/streamgist/paths/DocumentText$Lines") (g_ob : n0 ≤ ob) :
    MetFree l (⟨"com/example/streamgist/streamgist/paths/DocumentText$Lines", "count", "(CC)V"⟩ : MethodName) (head1 (Jvm.Cond.code (⟨"com/example/streamgist/streamgist/paths/DocumentText$Lines", "count", "(CC)V"⟩ : MethodName) prog_48_method_2_code 3 none :: ws) ({ frames := 0, cells := 0, slots := 0, locals := 0 } : Room)) (fun a U => a = #[(.ref ob), (.int cc), (.int cb)] ∧ Z.Warmed39 U.vm ∧ U.heap = h0) (fun _ _ _ _ _ => True) (fun _ U o U' => ∃ v L, o = .returned v ∧ Q5 Z ob cc cb w xb h0 n0 v U'.heap L ∧ FrameEnd U o U' L ({ frames := 0, cells := 0, slots := 0, locals := 0 } : Room).cells ({ frames := 0, cells := 0, slots := 0, locals := 0 } : Room).slots) := by
  refine MetFree.of_bodySF (plainFor_of_name pn_1) hisR ?_
  intro p e s m args below meth c s₁ Bd hml0 hP hK
  obtain ⟨rfl, hZ, hh⟩ := hP
  have hx := Bd.exec
  have hby := Bd.bytes
  have hml : c.maxLocals = 3 := hml0
  have hown : s.vm.findClass "com/example/streamgist/streamgist/paths/DocumentText$Lines" = some m.cls := findClass_of_methodNamed Bd.named
  have hnm := (name_of_methodNamed Bd.named Bd.method).1
  have X0 : Stand p l e ({ frames := 0, cells := 0, slots := 0, locals := 0 } : Room) s m #[(.ref ob), (.int cc), (.int cb)] below meth c s₁ [] 0 0 := Stand.of_body Bd
  have e0 : s₁.heap = h0 := by rw [← hh, Bd.state]; rfl
  have N0 := Fr.nil n0
  refine own_enter (P := (P5 Z ob cc cb w xb h0 n0 s)) (ef_5 m ob cc cb) ?_
  have K0 : Keep h0 h0 [ob] := Keep.refl h0 _
  show own_Fin p.tables e below _ (s₁.setTop (mkF m 0 #[.val (.ref ob), .val (.int cc), .val (.int cb)] []))
  refine own_step (fun _ k => XS.iloadN X0.here hx rfl (hb hby d5_0) rfl k) ?_
  show own_Fin p.tables e below _ (s₁.setTop (mkF m 1 #[.val (.ref ob), .val (.int cc), .val (.int cb)] [(.int cc)]))
  refine own_step (fun _ k => XS.bipush X0.here hx rfl (hb hby d5_1) k) ?_
  show own_Fin p.tables e below _ (s₁.setTop (mkF m 3 #[.val (.ref ob), .val (.int cc), .val (.int cb)] [(.int (13 : Int32)), (.int cc)]))
  have J2 : ∀ (T3 : State) (locs3 : List Loc) (h3 : Heap) (y5 : Int64) (X3 : Stand p l e ({ frames := 0, cells := 0, slots := 0, locals := 0 } : Room) s m #[(.ref ob), (.int cc), (.int cb)] below meth c T3 locs3 0 0) (e3 : T3.heap = h3) (N3 : Fr n0 locs3) (gy5 : y5 = (if cc = (13 : Int32) then (w + (1 : Int64)) else (if cc = (8232 : Int32) then (if xb = (0 : Int32) then (if cc = (10 : Int32) then (if cb = (13 : Int32) then w else (w + (1 : Int64))) else (if cc = (133 : Int32) then w else w)) else (w + (1 : Int64))) else (if cc = (10 : Int32) then (if cb = (13 : Int32) then w else (w + (1 : Int64))) else (if cc = (133 : Int32) then (if xb = (0 : Int32) then w else (if cb = (13 : Int32) then w else (w + (1 : Int64)))) else w))))) (f4 : n0 ≤ h3.size) (f6 : Fld Z h3 ob "com/example/streamgist/streamgist/paths/DocumentText$Lines" "line" "J" (.long y5)) (f7 : Fld Z h3 ob "com/example/streamgist/streamgist/paths/DocumentText$Lines" "xml11" "Z" (.int xb)) (f8 : Exa Z h3 ob "com/example/streamgist/streamgist/paths/DocumentText$Lines") (f9 : Keep h0 h3 [ob]), own_Fin p.tables e below (P5 Z ob cc cb w xb h0 n0 s) (T3.setTop (mkF m 69 #[.val (.ref ob), .val (.int cc), .val (.int cb)] [])) := by
    intro T3 locs3 h3 y5 X3 e3 N3 gy5 f4 f6 f7 f8 f9
    obtain ⟨fs10, hr10, hrun10, hended10, hW10, hsame10⟩ := X3.leave (v := none) (fun _ => rfl)
    refine own_ret (X3.returnOut hx Bd.returns (hb hby d5_69) hr10) hrun10 hended10 ?_
    refine ⟨_, _, rfl, ?_, ⟨_, rfl⟩, hW10, hsame10.mono (by decide) (by decide)⟩
    show Q5 Z ob cc cb w xb h0 n0 _ T3.heap _
    rw [e3]
    have hq : y5 = w + own_ends cc cb xb := by
      rw [gy5]; by_cases h1 : cc = 13 <;> by_cases h2 : cc = 8232 <;> by_cases h3 : xb = 0 <;> by_cases h4 : cb = 13 <;> by_cases h5 : cc = 10 <;> by_cases h6 : cc = 133 <;> simp_all [own_ends]
    rw [hq] at f6
    exact ⟨rfl, N3, f9, f8, f6, f7⟩
  by_cases hc1 : cc = (13 : Int32)
  · refine own_step (fun _ k => XS.icmpYes X0.here hx rfl (pc0 := 3) (pc' := 20) rfl (hb hby d5_3) rfl ((teq hc1).1) (by decide) (by decide) k) ?_
    show own_Fin p.tables e below _ (s₁.setTop (mkF m 20 #[.val (.ref ob), .val (.int cc), .val (.int cb)] []))
    refine own_step (fun _ k => XS.aloadN X0.here hx rfl (hb hby d5_20) rfl rfl k) ?_
    show own_Fin p.tables e below _ (s₁.setTop (mkF m 21 #[.val (.ref ob), .val (.int cc), .val (.int cb)] [(.ref ob)]))
    refine own_step (fun _ k => XS.dup X0.here hx rfl (hb hby d5_21) rfl rfl k) ?_
    show own_Fin p.tables e below _ (s₁.setTop (mkF m 22 #[.val (.ref ob), .val (.int cc), .val (.int cb)] [(.ref ob), (.ref ob)]))
    obtain ⟨T11, X11, e11, st11⟩ := getF X0 hx hZ hown (host := "") (Or.inl (hw _ (List.mem_of_getElem? (i := 13) rfl))) Via.refl e0 Fl0 (g := (mkF m 22 #[.val (.ref ob), .val (.int cc), .val (.int cb)] [(.ref ob), (.ref ob)])) rfl rfl (hb hby d5_22)
    refine own_step st11 ?_
    show own_Fin p.tables e below _ (T11.setTop (mkF m 25 #[.val (.ref ob), .val (.int cc), .val (.int cb)] [(.long w), (.ref ob)]))
    refine own_step (fun _ k => XS.lconst X11.here hx rfl (hb hby d5_25) k) ?_
    show own_Fin p.tables e below _ (T11.setTop (mkF m 26 #[.val (.ref ob), .val (.int cc), .val (.int cb)] [(.long (1 : Int64)), (.long w), (.ref ob)]))
    refine own_step (fun _ k => XS.ladd X11.here hx rfl (hb hby d5_26) rfl k) ?_
    show own_Fin p.tables e below _ (T11.setTop (mkF m 27 #[.val (.ref ob), .val (.int cc), .val (.int cb)] [(.long (w + (1 : Int64))), (.ref ob)]))
    obtain ⟨T12, h12, X12, e12, W12, st12⟩ := putF X11 hx hZ hown (host := "") (Or.inl (hw _ (List.mem_of_getElem? (i := 13) rfl))) Via.refl e11 Fl0 Ex0 (Or.inl (hw _ (List.mem_of_getElem? (i := 14) rfl))) (hw _ (List.mem_of_getElem? (i := 5) rfl)) (ty := .long) (by decide) rfl rfl (g := (mkF m 27 #[.val (.ref ob), .val (.int cc), .val (.int cb)] [(.long (w + (1 : Int64))), (.ref ob)])) rfl rfl (hb hby d5_27)
    refine own_step st12 ?_
    have f13 := Nat.le_trans Z0 (Keep.of_wr W12).1
    have f14 := Fx0.other W12 (Or.inr (slot_ne (Or.inr (hw _ (List.mem_of_getElem? (i := 16) rfl))) (Or.inl (hw _ (List.mem_of_getElem? (i := 14) rfl))) (by decide) (t := .boolean) (t' := .long) (by decide) (by decide)))
    have f15 := Ex0.wr W12
    have f16 := K0.wr W12 (Or.inl (List.mem_of_getElem? (i := 0) rfl))
    have f17 := Fl0.same W12
    have N18 := Fr.snoc X12 N0 g_ob
    show own_Fin p.tables e below _ (T12.setTop (mkF m 30 #[.val (.ref ob), .val (.int cc), .val (.int cb)] []))
    refine own_step (fun _ k => XS.goto X12.here hx rfl (pc0 := 30) (pc' := 69) rfl (hb hby d5_30) (by decide) (by decide) k) ?_
    show own_Fin p.tables e below _ (T12.setTop (mkF m 69 #[.val (.ref ob), .val (.int cc), .val (.int cb)] []))
    exact J2 T12 _ h12 (w + (1 : Int64)) X12 e12 N18 (by rw [if_pos hc1]) f13 f17 f14 f15 f16
  · refine own_step (fun _ k => XS.icmpNo X0.here hx rfl (hb hby d5_3) rfl ((feq hc1).1) k) ?_
    show own_Fin p.tables e below _ (s₁.setTop (mkF m 6 #[.val (.ref ob), .val (.int cc), .val (.int cb)] []))
    refine own_step (fun _ k => XS.iloadN X0.here hx rfl (hb hby d5_6) rfl k) ?_
    show own_Fin p.tables e below _ (s₁.setTop (mkF m 7 #[.val (.ref ob), .val (.int cc), .val (.int cb)] [(.int cc)]))
    refine own_step (fun _ k => XS.sipush X0.here hx rfl (hb hby d5_7) k) ?_
    show own_Fin p.tables e below _ (s₁.setTop (mkF m 10 #[.val (.ref ob), .val (.int cc), .val (.int cb)] [(.int (8232 : Int32)), (.int cc)]))
    by_cases hc19 : cc = (8232 : Int32)
    · refine own_step (fun _ k => XS.icmpNo X0.here hx rfl (hb hby d5_10) rfl ((teq hc19).2) k) ?_
      show own_Fin p.tables e below _ (s₁.setTop (mkF m 13 #[.val (.ref ob), .val (.int cc), .val (.int cb)] []))
      refine own_step (fun _ k => XS.aloadN X0.here hx rfl (hb hby d5_13) rfl rfl k) ?_
      show own_Fin p.tables e below _ (s₁.setTop (mkF m 14 #[.val (.ref ob), .val (.int cc), .val (.int cb)] [(.ref ob)]))
      obtain ⟨T20, X20, e20, st20⟩ := getF X0 hx hZ hown (host := "") (Or.inl (hw _ (List.mem_of_getElem? (i := 15) rfl))) Via.refl e0 Fx0 (g := (mkF m 14 #[.val (.ref ob), .val (.int cc), .val (.int cb)] [(.ref ob)])) rfl rfl (hb hby d5_14)
      refine own_step st20 ?_
      show own_Fin p.tables e below _ (T20.setTop (mkF m 17 #[.val (.ref ob), .val (.int cc), .val (.int cb)] [(.int xb)]))
      by_cases hc21 : xb = (0 : Int32)
      · refine own_step (fun _ k => XS.ifYes X20.here hx rfl (pc0 := 17) (pc' := 33) rfl (hb hby d5_17) rfl ((if0 _ _).trans (teq hc21).1) (by decide) (by decide) k) ?_
        show own_Fin p.tables e below _ (T20.setTop (mkF m 33 #[.val (.ref ob), .val (.int cc), .val (.int cb)] []))
        refine own_step (fun _ k => XS.iloadN X20.here hx rfl (hb hby d5_33) rfl k) ?_
        show own_Fin p.tables e below _ (T20.setTop (mkF m 34 #[.val (.ref ob), .val (.int cc), .val (.int cb)] [(.int cc)]))
        refine own_step (fun _ k => XS.bipush X20.here hx rfl (hb hby d5_34) k) ?_
        show own_Fin p.tables e below _ (T20.setTop (mkF m 36 #[.val (.ref ob), .val (.int cc), .val (.int cb)] [(.int (10 : Int32)), (.int cc)]))
        by_cases hc22 : cc = (10 : Int32)
        · refine own_step (fun _ k => XS.icmpYes X20.here hx rfl (pc0 := 36) (pc' := 53) rfl (hb hby d5_36) rfl ((teq hc22).1) (by decide) (by decide) k) ?_
          show own_Fin p.tables e below _ (T20.setTop (mkF m 53 #[.val (.ref ob), .val (.int cc), .val (.int cb)] []))
          refine own_step (fun _ k => XS.iloadN X20.here hx rfl (hb hby d5_53) rfl k) ?_
          show own_Fin p.tables e below _ (T20.setTop (mkF m 54 #[.val (.ref ob), .val (.int cc), .val (.int cb)] [(.int cb)]))
          refine own_step (fun _ k => XS.bipush X20.here hx rfl (hb hby d5_54) k) ?_
          show own_Fin p.tables e below _ (T20.setTop (mkF m 56 #[.val (.ref ob), .val (.int cc), .val (.int cb)] [(.int (13 : Int32)), (.int cb)]))
          by_cases hc23 : cb = (13 : Int32)
          · refine own_step (fun _ k => XS.icmpYes X20.here hx rfl (pc0 := 56) (pc' := 69) rfl (hb hby d5_56) rfl ((teq hc23).1) (by decide) (by decide) k) ?_
            show own_Fin p.tables e below _ (T20.setTop (mkF m 69 #[.val (.ref ob), .val (.int cc), .val (.int cb)] []))
            exact J2 T20 _ h0 w X20 e20 N0 (by rw [if_neg hc1, if_pos hc19, if_pos hc21, if_pos hc22, if_pos hc23]) Z0 Fl0 Fx0 Ex0 K0
          · refine own_step (fun _ k => XS.icmpNo X20.here hx rfl (hb hby d5_56) rfl ((feq hc23).1) k) ?_
            show own_Fin p.tables e below _ (T20.setTop (mkF m 59 #[.val (.ref ob), .val (.int cc), .val (.int cb)] []))
            refine own_step (fun _ k => XS.aloadN X20.here hx rfl (hb hby d5_59) rfl rfl k) ?_
            show own_Fin p.tables e below _ (T20.setTop (mkF m 60 #[.val (.ref ob), .val (.int cc), .val (.int cb)] [(.ref ob)]))
            refine own_step (fun _ k => XS.dup X20.here hx rfl (hb hby d5_60) rfl rfl k) ?_
            show own_Fin p.tables e below _ (T20.setTop (mkF m 61 #[.val (.ref ob), .val (.int cc), .val (.int cb)] [(.ref ob), (.ref ob)]))
            obtain ⟨T24, X24, e24, st24⟩ := getF X20 hx hZ hown (host := "") (Or.inl (hw _ (List.mem_of_getElem? (i := 13) rfl))) Via.refl e20 Fl0 (g := (mkF m 61 #[.val (.ref ob), .val (.int cc), .val (.int cb)] [(.ref ob), (.ref ob)])) rfl rfl (hb hby d5_61)
            refine own_step st24 ?_
            show own_Fin p.tables e below _ (T24.setTop (mkF m 64 #[.val (.ref ob), .val (.int cc), .val (.int cb)] [(.long w), (.ref ob)]))
            refine own_step (fun _ k => XS.lconst X24.here hx rfl (hb hby d5_64) k) ?_
            show own_Fin p.tables e below _ (T24.setTop (mkF m 65 #[.val (.ref ob), .val (.int cc), .val (.int cb)] [(.long (1 : Int64)), (.long w), (.ref ob)]))
            refine own_step (fun _ k => XS.ladd X24.here hx rfl (hb hby d5_65) rfl k) ?_
            show own_Fin p.tables e below _ (T24.setTop (mkF m 66 #[.val (.ref ob), .val (.int cc), .val (.int cb)] [(.long (w + (1 : Int64))), (.ref ob)]))
            obtain ⟨T25, h25, X25, e25, W25, st25⟩ := putF X24 hx hZ hown (host := "") (Or.inl (hw _ (List.mem_of_getElem? (i := 13) rfl))) Via.refl e24 Fl0 Ex0 (Or.inl (hw _ (List.mem_of_getElem? (i := 14) rfl))) (hw _ (List.mem_of_getElem? (i := 5) rfl)) (ty := .long) (by decide) rfl rfl (g := (mkF m 66 #[.val (.ref ob), .val (.int cc), .val (.int cb)] [(.long (w + (1 : Int64))), (.ref ob)])) rfl rfl (hb hby d5_66)
            refine own_step st25 ?_
            have f26 := Nat.le_trans Z0 (Keep.of_wr W25).1
            have f27 := Fx0.other W25 (Or.inr (slot_ne (Or.inr (hw _ (List.mem_of_getElem? (i := 16) rfl))) (Or.inl (hw _ (List.mem_of_getElem? (i := 14) rfl))) (by decide) (t := .boolean) (t' := .long) (by decide) (by decide)))
            have f28 := Ex0.wr W25
            have f29 := K0.wr W25 (Or.inl (List.mem_of_getElem? (i := 0) rfl))
            have f30 := Fl0.same W25
            have N31 := Fr.snoc X25 N0 g_ob
            show own_Fin p.tables e below _ (T25.setTop (mkF m 69 #[.val (.ref ob), .val (.int cc), .val (.int cb)] []))
            exact J2 T25 _ h25 (w + (1 : Int64)) X25 e25 N31 (by rw [if_neg hc1, if_pos hc19, if_pos hc21, if_pos hc22, if_neg hc23]) f26 f30 f27 f28 f29
        · refine own_step (fun _ k => XS.icmpNo X20.here hx rfl (hb hby d5_36) rfl ((feq hc22).1) k) ?_
          show own_Fin p.tables e below _ (T20.setTop (mkF m 39 #[.val (.ref ob), .val (.int cc), .val (.int cb)] []))
          refine own_step (fun _ k => XS.iloadN X20.here hx rfl (hb hby d5_39) rfl k) ?_
          show own_Fin p.tables e below _ (T20.setTop (mkF m 40 #[.val (.ref ob), .val (.int cc), .val (.int cb)] [(.int cc)]))
          refine own_step (fun _ k => XS.sipush X20.here hx rfl (hb hby d5_40) k) ?_
          show own_Fin p.tables e below _ (T20.setTop (mkF m 43 #[.val (.ref ob), .val (.int cc), .val (.int cb)] [(.int (133 : Int32)), (.int cc)]))
          by_cases hc32 : cc = (133 : Int32)
          · refine own_step (fun _ k => XS.icmpNo X20.here hx rfl (hb hby d5_43) rfl ((teq hc32).2) k) ?_
            show own_Fin p.tables e below _ (T20.setTop (mkF m 46 #[.val (.ref ob), .val (.int cc), .val (.int cb)] []))
            refine own_step (fun _ k => XS.aloadN X20.here hx rfl (hb hby d5_46) rfl rfl k) ?_
            show own_Fin p.tables e below _ (T20.setTop (mkF m 47 #[.val (.ref ob), .val (.int cc), .val (.int cb)] [(.ref ob)]))
            obtain ⟨T33, X33, e33, st33⟩ := getF X20 hx hZ hown (host := "") (Or.inl (hw _ (List.mem_of_getElem? (i := 15) rfl))) Via.refl e20 Fx0 (g := (mkF m 47 #[.val (.ref ob), .val (.int cc), .val (.int cb)] [(.ref ob)])) rfl rfl (hb hby d5_47)
            refine own_step st33 ?_
            show own_Fin p.tables e below _ (T33.setTop (mkF m 50 #[.val (.ref ob), .val (.int cc), .val (.int cb)] [(.int xb)]))
            refine own_step (fun _ k => XS.ifYes X33.here hx rfl (pc0 := 50) (pc' := 69) rfl (hb hby d5_50) rfl ((if0 _ _).trans (teq hc21).1) (by decide) (by decide) k) ?_
            show own_Fin p.tables e below _ (T33.setTop (mkF m 69 #[.val (.ref ob), .val (.int cc), .val (.int cb)] []))
            exact J2 T33 _ h0 w X33 e33 N0 (by rw [if_neg hc1, if_pos hc19, if_pos hc21, if_neg hc22, if_pos hc32]) Z0 Fl0 Fx0 Ex0 K0
          · refine own_step (fun _ k => XS.icmpYes X20.here hx rfl (pc0 := 43) (pc' := 69) rfl (hb hby d5_43) rfl ((feq hc32).2) (by decide) (by decide) k) ?_
            show own_Fin p.tables e below _ (T20.setTop (mkF m 69 #[.val (.ref ob), .val (.int cc), .val (.int cb)] []))
            exact J2 T20 _ h0 w X20 e20 N0 (by rw [if_neg hc1, if_pos hc19, if_pos hc21, if_neg hc22, if_neg hc32]) Z0 Fl0 Fx0 Ex0 K0
      · refine own_step (fun _ k => XS.ifNo X20.here hx rfl (hb hby d5_17) rfl ((if0 _ _).trans (feq hc21).1) k) ?_
        show own_Fin p.tables e below _ (T20.setTop (mkF m 20 #[.val (.ref ob), .val (.int cc), .val (.int cb)] []))
        refine own_step (fun _ k => XS.aloadN X20.here hx rfl (hb hby d5_20) rfl rfl k) ?_
        show own_Fin p.tables e below _ (T20.setTop (mkF m 21 #[.val (.ref ob), .val (.int cc), .val (.int cb)] [(.ref ob)]))
        refine own_step (fun _ k => XS.dup X20.here hx rfl (hb hby d5_21) rfl rfl k) ?_
        show own_Fin p.tables e below _ (T20.setTop (mkF m 22 #[.val (.ref ob), .val (.int cc), .val (.int cb)] [(.ref ob), (.ref ob)]))
        obtain ⟨T34, X34, e34, st34⟩ := getF X20 hx hZ hown (host := "") (Or.inl (hw _ (List.mem_of_getElem? (i := 13) rfl))) Via.refl e20 Fl0 (g := (mkF m 22 #[.val (.ref ob), .val (.int cc), .val (.int cb)] [(.ref ob), (.ref ob)])) rfl rfl (hb hby d5_22)
        refine own_step st34 ?_
        show own_Fin p.tables e below _ (T34.setTop (mkF m 25 #[.val (.ref ob), .val (.int cc), .val (.int cb)] [(.long w), (.ref ob)]))
        refine own_step (fun _ k => XS.lconst X34.here hx rfl (hb hby d5_25) k) ?_
        show own_Fin p.tables e below _ (T34.setTop (mkF m 26 #[.val (.ref ob), .val (.int cc), .val (.int cb)] [(.long (1 : Int64)), (.long w), (.ref ob)]))
        refine own_step (fun _ k => XS.ladd X34.here hx rfl (hb hby d5_26) rfl k) ?_
        show own_Fin p.tables e below _ (T34.setTop (mkF m 27 #[.val (.ref ob), .val (.int cc), .val (.int cb)] [(.long (w + (1 : Int64))), (.ref ob)]))
        obtain ⟨T35, h35, X35, e35, W35, st35⟩ := putF X34 hx hZ hown (host := "") (Or.inl (hw _ (List.mem_of_getElem? (i := 13) rfl))) Via.refl e34 Fl0 Ex0 (Or.inl (hw _ (List.mem_of_getElem? (i := 14) rfl))) (hw _ (List.mem_of_getElem? (i := 5) rfl)) (ty := .long) (by decide) rfl rfl (g := (mkF m 27 #[.val (.ref ob), .val (.int cc), .val (.int cb)] [(.long (w + (1 : Int64))), (.ref ob)])) rfl rfl (hb hby d5_27)
        refine own_step st35 ?_
        have f36 := Nat.le_trans Z0 (Keep.of_wr W35).1
        have f37 := Fx0.other W35 (Or.inr (slot_ne (Or.inr (hw _ (List.mem_of_getElem? (i := 16) rfl))) (Or.inl (hw _ (List.mem_of_getElem? (i := 14) rfl))) (by decide) (t := .boolean) (t' := .long) (by decide) (by decide)))
        have f38 := Ex0.wr W35
        have f39 := K0.wr W35 (Or.inl (List.mem_of_getElem? (i := 0) rfl))
        have f40 := Fl0.same W35
        have N41 := Fr.snoc X35 N0 g_ob
        show own_Fin p.tables e below _ (T35.setTop (mkF m 30 #[.val (.ref ob), .val (.int cc), .val (.int cb)] []))
        refine own_step (fun _ k => XS.goto X35.here hx rfl (pc0 := 30) (pc' := 69) rfl (hb hby d5_30) (by decide) (by decide) k) ?_
        show own_Fin p.tables e below _ (T35.setTop (mkF m 69 #[.val (.ref ob), .val (.int cc), .val (.int cb)] []))
        exact J2 T35 _ h35 (w + (1 : Int64)) X35 e35 N41 (by rw [if_neg hc1, if_pos hc19, if_neg hc21]) f36 f40 f37 f38 f39
    · refine own_step (fun _ k => XS.icmpYes X0.here hx rfl (pc0 := 10) (pc' := 33) rfl (hb hby d5_10) rfl ((feq hc19).2) (by decide) (by decide) k) ?_
      show own_Fin p.tables e below _ (s₁.setTop (mkF m 33 #[.val (.ref ob), .val (.int cc), .val (.int cb)] []))
      refine own_step (fun _ k => XS.iloadN X0.here hx rfl (hb hby d5_33) rfl k) ?_
      show own_Fin p.tables e below _ (s₁.setTop (mkF m 34 #[.val (.ref ob), .val (.int cc), .val (.int cb)] [(.int cc)]))
      refine own_step (fun _ k => XS.bipush X0.here hx rfl (hb hby d5_34) k) ?_
      show own_Fin p.tables e below _ (s₁.setTop (mkF m 36 #[.val (.ref ob), .val (.int cc), .val (.int cb)] [(.int (10 : Int32)), (.int cc)]))
      by_cases hc42 : cc = (10 : Int32)
      · refine own_step (fun _ k => XS.icmpYes X0.here hx rfl (pc0 := 36) (pc' := 53) rfl (hb hby d5_36) rfl ((teq hc42).1) (by decide) (by decide) k) ?_
        show own_Fin p.tables e below _ (s₁.setTop (mkF m 53 #[.val (.ref ob), .val (.int cc), .val (.int cb)] []))
        refine own_step (fun _ k => XS.iloadN X0.here hx rfl (hb hby d5_53) rfl k) ?_
        show own_Fin p.tables e below _ (s₁.setTop (mkF m 54 #[.val (.ref ob), .val (.int cc), .val (.int cb)] [(.int cb)]))
        refine own_step (fun _ k => XS.bipush X0.here hx rfl (hb hby d5_54) k) ?_
        show own_Fin p.tables e below _ (s₁.setTop (mkF m 56 #[.val (.ref ob), .val (.int cc), .val (.int cb)] [(.int (13 : Int32)), (.int cb)]))
        by_cases hc43 : cb = (13 : Int32)
        · refine own_step (fun _ k => XS.icmpYes X0.here hx rfl (pc0 := 56) (pc' := 69) rfl (hb hby d5_56) rfl ((teq hc43).1) (by decide) (by decide) k) ?_
          show own_Fin p.tables e below _ (s₁.setTop (mkF m 69 #[.val (.ref ob), .val (.int cc), .val (.int cb)] []))
          exact J2 s₁ _ h0 w X0 e0 N0 (by rw [if_neg hc1, if_neg hc19, if_pos hc42, if_pos hc43]) Z0 Fl0 Fx0 Ex0 K0
        · refine own_step (fun _ k => XS.icmpNo X0.here hx rfl (hb hby d5_56) rfl ((feq hc43).1) k) ?_
          show own_Fin p.tables e below _ (s₁.setTop (mkF m 59 #[.val (.ref ob), .val (.int cc), .val (.int cb)] []))
          refine own_step (fun _ k => XS.aloadN X0.here hx rfl (hb hby d5_59) rfl rfl k) ?_
          show own_Fin p.tables e below _ (s₁.setTop (mkF m 60 #[.val (.ref ob), .val (.int cc), .val (.int cb)] [(.ref ob)]))
          refine own_step (fun _ k => XS.dup X0.here hx rfl (hb hby d5_60) rfl rfl k) ?_
          show own_Fin p.tables e below _ (s₁.setTop (mkF m 61 #[.val (.ref ob), .val (.int cc), .val (.int cb)] [(.ref ob), (.ref ob)]))
          obtain ⟨T44, X44, e44, st44⟩ := getF X0 hx hZ hown (host := "") (Or.inl (hw _ (List.mem_of_getElem? (i := 13) rfl))) Via.refl e0 Fl0 (g := (mkF m 61 #[.val (.ref ob), .val (.int cc), .val (.int cb)] [(.ref ob), (.ref ob)])) rfl rfl (hb hby d5_61)
          refine own_step st44 ?_
          show own_Fin p.tables e below _ (T44.setTop (mkF m 64 #[.val (.ref ob), .val (.int cc), .val (.int cb)] [(.long w), (.ref ob)]))
          refine own_step (fun _ k => XS.lconst X44.here hx rfl (hb hby d5_64) k) ?_
          show own_Fin p.tables e below _ (T44.setTop (mkF m 65 #[.val (.ref ob), .val (.int cc), .val (.int cb)] [(.long (1 : Int64)), (.long w), (.ref ob)]))
          refine own_step (fun _ k => XS.ladd X44.here hx rfl (hb hby d5_65) rfl k) ?_
          show own_Fin p.tables e below _ (T44.setTop (mkF m 66 #[.val (.ref ob), .val (.int cc), .val (.int cb)] [(.long (w + (1 : Int64))), (.ref ob)]))
          obtain ⟨T45, h45, X45, e45, W45, st45⟩ := putF X44 hx hZ hown (host := "") (Or.inl (hw _ (List.mem_of_getElem? (i := 13) rfl))) Via.refl e44 Fl0 Ex0 (Or.inl (hw _ (List.mem_of_getElem? (i := 14) rfl))) (hw _ (List.mem_of_getElem? (i := 5) rfl)) (ty := .long) (by decide) rfl rfl (g := (mkF m 66 #[.val (.ref ob), .val (.int cc), .val (.int cb)] [(.long (w + (1 : Int64))), (.ref ob)])) rfl rfl (hb hby d5_66)
          refine own_step st45 ?_
          have f46 := Nat.le_trans Z0 (Keep.of_wr W45).1
          have f47 := Fx0.other W45 (Or.inr (slot_ne (Or.inr (hw _ (List.mem_of_getElem? (i := 16) rfl))) (Or.inl (hw _ (List.mem_of_getElem? (i := 14) rfl))) (by decide) (t := .boolean) (t' := .long) (by decide) (by decide)))
          have f48 := Ex0.wr W45
          have f49 := K0.wr W45 (Or.inl (List.mem_of_getElem? (i := 0) rfl))
          have f50 := Fl0.same W45
          have N51 := Fr.snoc X45 N0 g_ob
          show own_Fin p.tables e below _ (T45.setTop (mkF m 69 #[.val (.ref ob), .val (.int cc), .val (.int cb)] []))
          exact J2 T45 _ h45 (w + (1 : Int64)) X45 e45 N51 (by rw [if_neg hc1, if_neg hc19, if_pos hc42, if_neg hc43]) f46 f50 f47 f48 f49
      · refine own_step (fun _ k => XS.icmpNo X0.here hx rfl (hb hby d5_36) rfl ((feq hc42).1) k) ?_
        show own_Fin p.tables e below _ (s₁.setTop (mkF m 39 #[.val (.ref ob), .val (.int cc), .val (.int cb)] []))
        refine own_step (fun _ k => XS.iloadN X0.here hx rfl (hb hby d5_39) rfl k) ?_
        show own_Fin p.tables e below _ (s₁.setTop (mkF m 40 #[.val (.ref ob), .val (.int cc), .val (.int cb)] [(.int cc)]))
        refine own_step (fun _ k => XS.sipush X0.here hx rfl (hb hby d5_40) k) ?_
        show own_Fin p.tables e below _ (s₁.setTop (mkF m 43 #[.val (.ref ob), .val (.int cc), .val (.int cb)] [(.int (133 : Int32)), (.int cc)]))
        by_cases hc52 : cc = (133 : Int32)
        · refine own_step (fun _ k => XS.icmpNo X0.here hx rfl (hb hby d5_43) rfl ((teq hc52).2) k) ?_
          show own_Fin p.tables e below _ (s₁.setTop (mkF m 46 #[.val (.ref ob), .val (.int cc), .val (.int cb)] []))
          refine own_step (fun _ k => XS.aloadN X0.here hx rfl (hb hby d5_46) rfl rfl k) ?_
          show own_Fin p.tables e below _ (s₁.setTop (mkF m 47 #[.val (.ref ob), .val (.int cc), .val (.int cb)] [(.ref ob)]))
          obtain ⟨T53, X53, e53, st53⟩ := getF X0 hx hZ hown (host := "") (Or.inl (hw _ (List.mem_of_getElem? (i := 15) rfl))) Via.refl e0 Fx0 (g := (mkF m 47 #[.val (.ref ob), .val (.int cc), .val (.int cb)] [(.ref ob)])) rfl rfl (hb hby d5_47)
          refine own_step st53 ?_
          show own_Fin p.tables e below _ (T53.setTop (mkF m 50 #[.val (.ref ob), .val (.int cc), .val (.int cb)] [(.int xb)]))
          by_cases hc54 : xb = (0 : Int32)
          · refine own_step (fun _ k => XS.ifYes X53.here hx rfl (pc0 := 50) (pc' := 69) rfl (hb hby d5_50) rfl ((if0 _ _).trans (teq hc54).1) (by decide) (by decide) k) ?_
            show own_Fin p.tables e below _ (T53.setTop (mkF m 69 #[.val (.ref ob), .val (.int cc), .val (.int cb)] []))
            exact J2 T53 _ h0 w X53 e53 N0 (by rw [if_neg hc1, if_neg hc19, if_neg hc42, if_pos hc52, if_pos hc54]) Z0 Fl0 Fx0 Ex0 K0
          · refine own_step (fun _ k => XS.ifNo X53.here hx rfl (hb hby d5_50) rfl ((if0 _ _).trans (feq hc54).1) k) ?_
            show own_Fin p.tables e below _ (T53.setTop (mkF m 53 #[.val (.ref ob), .val (.int cc), .val (.int cb)] []))
            refine own_step (fun _ k => XS.iloadN X53.here hx rfl (hb hby d5_53) rfl k) ?_
            show own_Fin p.tables e below _ (T53.setTop (mkF m 54 #[.val (.ref ob), .val (.int cc), .val (.int cb)] [(.int cb)]))
            refine own_step (fun _ k => XS.bipush X53.here hx rfl (hb hby d5_54) k) ?_
            show own_Fin p.tables e below _ (T53.setTop (mkF m 56 #[.val (.ref ob), .val (.int cc), .val (.int cb)] [(.int (13 : Int32)), (.int cb)]))
            by_cases hc55 : cb = (13 : Int32)
            · refine own_step (fun _ k => XS.icmpYes X53.here hx rfl (pc0 := 56) (pc' := 69) rfl (hb hby d5_56) rfl ((teq hc55).1) (by decide) (by decide) k) ?_
              show own_Fin p.tables e below _ (T53.setTop (mkF m 69 #[.val (.ref ob), .val (.int cc), .val (.int cb)] []))
              exact J2 T53 _ h0 w X53 e53 N0 (by rw [if_neg hc1, if_neg hc19, if_neg hc42, if_pos hc52, if_neg hc54, if_pos hc55]) Z0 Fl0 Fx0 Ex0 K0
            · refine own_step (fun _ k => XS.icmpNo X53.here hx rfl (hb hby d5_56) rfl ((feq hc55).1) k) ?_
              show own_Fin p.tables e below _ (T53.setTop (mkF m 59 #[.val (.ref ob), .val (.int cc), .val (.int cb)] []))
              refine own_step (fun _ k => XS.aloadN X53.here hx rfl (hb hby d5_59) rfl rfl k) ?_
              show own_Fin p.tables e below _ (T53.setTop (mkF m 60 #[.val (.ref ob), .val (.int cc), .val (.int cb)] [(.ref ob)]))
              refine own_step (fun _ k => XS.dup X53.here hx rfl (hb hby d5_60) rfl rfl k) ?_
              show own_Fin p.tables e below _ (T53.setTop (mkF m 61 #[.val (.ref ob), .val (.int cc), .val (.int cb)] [(.ref ob), (.ref ob)]))
              obtain ⟨T56, X56, e56, st56⟩ := getF X53 hx hZ hown (host := "") (Or.inl (hw _ (List.mem_of_getElem? (i := 13) rfl))) Via.refl e53 Fl0 (g := (mkF m 61 #[.val (.ref ob), .val (.int cc), .val (.int cb)] [(.ref ob), (.ref ob)])) rfl rfl (hb hby d5_61)
              refine own_step st56 ?_
              show own_Fin p.tables e below _ (T56.setTop (mkF m 64 #[.val (.ref ob), .val (.int cc), .val (.int cb)] [(.long w), (.ref ob)]))
              refine own_step (fun _ k => XS.lconst X56.here hx rfl (hb hby d5_64) k) ?_
              show own_Fin p.tables e below _ (T56.setTop (mkF m 65 #[.val (.ref ob), .val (.int cc), .val (.int cb)] [(.long (1 : Int64)), (.long w), (.ref ob)]))
              refine own_step (fun _ k => XS.ladd X56.here hx rfl (hb hby d5_65) rfl k) ?_
              show own_Fin p.tables e below _ (T56.setTop (mkF m 66 #[.val (.ref ob), .val (.int cc), .val (.int cb)] [(.long (w + (1 : Int64))), (.ref ob)]))
              obtain ⟨T57, h57, X57, e57, W57, st57⟩ := putF X56 hx hZ hown (host := "") (Or.inl (hw _ (List.mem_of_getElem? (i := 13) rfl))) Via.refl e56 Fl0 Ex0 (Or.inl (hw _ (List.mem_of_getElem? (i := 14) rfl))) (hw _ (List.mem_of_getElem? (i := 5) rfl)) (ty := .long) (by decide) rfl rfl (g := (mkF m 66 #[.val (.ref ob), .val (.int cc), .val (.int cb)] [(.long (w + (1 : Int64))), (.ref ob)])) rfl rfl (hb hby d5_66)
              refine own_step st57 ?_
              have f58 := Nat.le_trans Z0 (Keep.of_wr W57).1
              have f59 := Fx0.other W57 (Or.inr (slot_ne (Or.inr (hw _ (List.mem_of_getElem? (i := 16) rfl))) (Or.inl (hw _ (List.mem_of_getElem? (i := 14) rfl))) (by decide) (t := .boolean) (t' := .long) (by decide) (by decide)))
              have f60 := Ex0.wr W57
              have f61 := K0.wr W57 (Or.inl (List.mem_of_getElem? (i := 0) rfl))
              have f62 := Fl0.same W57
              have N63 := Fr.snoc X57 N0 g_ob
              show own_Fin p.tables e below _ (T57.setTop (mkF m 69 #[.val (.ref ob), .val (.int cc), .val (.int cb)] []))
              exact J2 T57 _ h57 (w + (1 : Int64)) X57 e57 N63 (by rw [if_neg hc1, if_neg hc19, if_neg hc42, if_pos hc52, if_neg hc54, if_neg hc55]) f58 f62 f59 f60 f61
        · refine own_step (fun _ k => XS.icmpYes X0.here hx rfl (pc0 := 43) (pc' := 69) rfl (hb hby d5_43) rfl ((feq hc52).2) (by decide) (by decide) k) ?_
          show own_Fin p.tables e below _ (s₁.setTop (mkF m 69 #[.val (.ref ob), .val (.int cc), .val (.int cb)] []))
          exact J2 s₁ _ h0 w X0 e0 N0 (by rw [if_neg hc1, if_neg hc19, if_neg hc42, if_neg hc52]) Z0 Fl0 Fx0 Ex0 K0
theorem ef_6 (m : MethodId) (x0 : Int32) (x1 : Int32) (x2 : Int32) : entryFrame m #[(.int x0), (.int x1), (.int x2)] 3 = mkF m 0 #[.val (.int x0), .val (.int x1), .val (.int x2)] [] := by first | (simp [entryFrame, mkF, argsToLocals, Value.category]; done) | rfl
def Q6 (Z : State) (cc : Int32) (cb : Int32) (xb : Int32) (h0 : Heap) (n0 : Nat) (v : Option Value) (h : Heap) (L : List Loc) : Prop := v = some (.int (own_endI cc cb xb)) ∧ Fr n0 L ∧ h = h0
abbrev P6 (Z : State) (cc : Int32) (cb : Int32) (xb : Int32) (h0 : Heap) (n0 : Nat) (s : State) : Outcome → State → Prop := fun o U' => ∃ v L, o = .returned v ∧ Q6 Z cc cb xb h0 n0 v U'.heap L ∧ FrameEnd s o U' L ({ frames := 0, cells := 0, slots := 0, locals := 0 } : Room).cells ({ frames := 0, cells := 0, slots := 0, locals := 0 } : Room).slots
theorem d6_0 : decode method_4_code 0 = .ok (.iload_n 0, 1) := by decide +kernel
theorem d6_1 : decode method_4_code 1 = .ok (.bipush 13, 2) := by decide +kernel
theorem d6_3 : decode method_4_code 3 = .ok (.if_icmp .ne 5, 3) := by decide +kernel
theorem d6_6 : decode method_4_code 6 = .ok (.iconst 1, 1) := by decide +kernel
theorem d6_7 : decode method_4_code 7 = .ok (.ireturn, 1) := by decide +kernel
theorem d6_8 : decode method_4_code 8 = .ok (.iload_n 2, 1) := by decide +kernel
theorem d6_9 : decode method_4_code 9 = .ok (.ifCond .eq 12, 3) := by decide +kernel
theorem d6_21 : decode method_4_code 21 = .ok (.iload_n 1, 1) := by decide +kernel
theorem d6_22 : decode method_4_code 22 = .ok (.bipush 13, 2) := by decide +kernel
theorem d6_24 : decode method_4_code 24 = .ok (.if_icmp .ne 5, 3) := by decide +kernel
theorem d6_27 : decode method_4_code 27 = .ok (.iconst 0, 1) := by decide +kernel
theorem d6_28 : decode method_4_code 28 = .ok (.ireturn, 1) := by decide +kernel
theorem d6_29 : decode method_4_code 29 = .ok (.iload_n 0, 1) := by decide +kernel
theorem d6_30 : decode method_4_code 30 = .ok (.bipush 10, 2) := by decide +kernel
theorem d6_32 : decode method_4_code 32 = .ok (.if_icmp .ne 5, 3) := by decide +kernel
theorem d6_35 : decode method_4_code 35 = .ok (.iconst 1, 1) := by decide +kernel
theorem d6_36 : decode method_4_code 36 = .ok (.ireturn, 1) := by decide +kernel
theorem d6_37 : decode method_4_code 37 = .ok (.iload_n 2, 1) := by decide +kernel
theorem d6_38 : decode method_4_code 38 = .ok (.ifCond .eq 14, 3) := by decide +kernel
theorem d6_52 : decode method_4_code 52 = .ok (.iconst 0, 1) := by decide +kernel
theorem d6_53 : decode method_4_code 53 = .ok (.ireturn, 1) := by decide +kernel
theorem d6_12 : decode method_4_code 12 = .ok (.iload_n 0, 1) := by decide +kernel
theorem d6_13 : decode method_4_code 13 = .ok (.sipush 8232, 3) := by decide +kernel
theorem d6_16 : decode method_4_code 16 = .ok (.if_icmp .ne 5, 3) := by decide +kernel
theorem d6_19 : decode method_4_code 19 = .ok (.iconst 1, 1) := by decide +kernel
theorem d6_20 : decode method_4_code 20 = .ok (.ireturn, 1) := by decide +kernel
theorem d6_41 : decode method_4_code 41 = .ok (.iload_n 0, 1) := by decide +kernel
theorem d6_42 : decode method_4_code 42 = .ok (.sipush 133, 3) := by decide +kernel
theorem d6_45 : decode method_4_code 45 = .ok (.if_icmp .ne 7, 3) := by decide +kernel
theorem d6_48 : decode method_4_code 48 = .ok (.iconst 1, 1) := by decide +kernel
theorem d6_49 : decode method_4_code 49 = .ok (.goto 4, 3) := by decide +kernel
set_option maxRecDepth 65536 in
set_option maxHeartbeats 40000000 in
theorem rm6 (l : Launch) (Z : State) (a0 : Array Value) (hw : ∀ d ∈ tables_1, d.before a0 Z = true) (ws : List Jvm.Cond) (cc : Int32) (cb : Int32) (xb : Int32) (h0 : Heap) (n0 : Nat) (Z0 : n0 ≤ h0.size) :
    MetFree l (⟨"com/example/streamgist/streamgist/paths/LinesCountPinLaw", "endsLine", "(CCZ)Z"⟩ : MethodName) (head1 (Jvm.Cond.code (⟨"com/example/streamgist/streamgist/paths/LinesCountPinLaw", "endsLine", "(CCZ)Z"⟩ : MethodName) method_4_code 3 (some .boolean) :: ws) ({ frames := 0, cells := 0, slots := 0, locals := 0 } : Room)) (fun a U => a = #[(.int cc), (.int cb), (.int xb)] ∧ Z.Warmed39 U.vm ∧ U.heap = h0) (fun _ _ _ _ _ => True) (fun _ U o U' => ∃ v L, o = .returned v ∧ Q6 Z cc cb xb h0 n0 v U'.heap L ∧ FrameEnd U o U' L ({ frames := 0, cells := 0, slots := 0, locals := 0 } : Room).cells ({ frames := 0, cells := 0, slots := 0, locals := 0 } : Room).slots) := by
  refine MetFree.of_bodySF (plainFor_of_name pn_0) hisR ?_
  intro p e s m args below meth c s₁ Bd hml0 hP hK
  obtain ⟨rfl, hZ, hh⟩ := hP
  have hx := Bd.exec
  have hby := Bd.bytes
  have hml : c.maxLocals = 3 := hml0
  have hown : s.vm.findClass "com/example/streamgist/streamgist/paths/LinesCountPinLaw" = some m.cls := findClass_of_methodNamed Bd.named
  have hnm := (name_of_methodNamed Bd.named Bd.method).1
  have X0 : Stand p l e ({ frames := 0, cells := 0, slots := 0, locals := 0 } : Room) s m #[(.int cc), (.int cb), (.int xb)] below meth c s₁ [] 0 0 := Stand.of_body Bd
  have e0 : s₁.heap = h0 := by rw [← hh, Bd.state]; rfl
  have N0 := Fr.nil n0
  refine own_enter (P := (P6 Z cc cb xb h0 n0 s)) (ef_6 m cc cb xb) ?_
  show own_Fin p.tables e below _ (s₁.setTop (mkF m 0 #[.val (.int cc), .val (.int cb), .val (.int xb)] []))
  refine own_step (fun _ k => XS.iloadN X0.here hx rfl (hb hby d6_0) rfl k) ?_
  show own_Fin p.tables e below _ (s₁.setTop (mkF m 1 #[.val (.int cc), .val (.int cb), .val (.int xb)] [(.int cc)]))
  refine own_step (fun _ k => XS.bipush X0.here hx rfl (hb hby d6_1) k) ?_
  show own_Fin p.tables e below _ (s₁.setTop (mkF m 3 #[.val (.int cc), .val (.int cb), .val (.int xb)] [(.int (13 : Int32)), (.int cc)]))
  by_cases hc1 : cc = (13 : Int32)
  · refine own_step (fun _ k => XS.icmpNo X0.here hx rfl (hb hby d6_3) rfl ((teq hc1).2) k) ?_
    show own_Fin p.tables e below _ (s₁.setTop (mkF m 6 #[.val (.int cc), .val (.int cb), .val (.int xb)] []))
    refine own_step (fun _ k => XS.iconst X0.here hx rfl (hb hby d6_6) k) ?_
    show own_Fin p.tables e below _ (s₁.setTop (mkF m 7 #[.val (.int cc), .val (.int cb), .val (.int xb)] [(.int (1 : Int32))]))
    obtain ⟨fs2, hr2, hrun2, hended2, hW2, hsame2⟩ := X0.leave (v := some (.int (nar .boolean (1 : Int32)))) (fun h => by rw [Bd.returns] at h; cases h)
    refine own_ret (retN X0 hx (t := .boolean) Bd.returns (by simp) (hb hby d6_7) hr2) hrun2 hended2 ?_
    refine ⟨_, _, rfl, ?_, ⟨_, rfl⟩, hW2, hsame2.mono (by decide) (by decide)⟩
    show Q6 Z cc cb xb h0 n0 _ s₁.heap _
    rw [e0]
    refine ⟨congrArg (fun z => some (Value.int z)) ?_, N0, rfl⟩
    first | (simp_all [own_endI, nar]; done) | (simp_all [own_endI, nar]; split <;> rfl)
  · refine own_step (fun _ k => XS.icmpYes X0.here hx rfl (pc0 := 3) (pc' := 8) rfl (hb hby d6_3) rfl ((feq hc1).2) (by decide) (by decide) k) ?_
    show own_Fin p.tables e below _ (s₁.setTop (mkF m 8 #[.val (.int cc), .val (.int cb), .val (.int xb)] []))
    refine own_step (fun _ k => XS.iloadN X0.here hx rfl (hb hby d6_8) rfl k) ?_
    show own_Fin p.tables e below _ (s₁.setTop (mkF m 9 #[.val (.int cc), .val (.int cb), .val (.int xb)] [(.int xb)]))
    by_cases hc3 : xb = (0 : Int32)
    · refine own_step (fun _ k => XS.ifYes X0.here hx rfl (pc0 := 9) (pc' := 21) rfl (hb hby d6_9) rfl ((if0 _ _).trans (teq hc3).1) (by decide) (by decide) k) ?_
      show own_Fin p.tables e below _ (s₁.setTop (mkF m 21 #[.val (.int cc), .val (.int cb), .val (.int xb)] []))
      refine own_step (fun _ k => XS.iloadN X0.here hx rfl (hb hby d6_21) rfl k) ?_
      show own_Fin p.tables e below _ (s₁.setTop (mkF m 22 #[.val (.int cc), .val (.int cb), .val (.int xb)] [(.int cb)]))
      refine own_step (fun _ k => XS.bipush X0.here hx rfl (hb hby d6_22) k) ?_
      show own_Fin p.tables e below _ (s₁.setTop (mkF m 24 #[.val (.int cc), .val (.int cb), .val (.int xb)] [(.int (13 : Int32)), (.int cb)]))
      by_cases hc4 : cb = (13 : Int32)
      · refine own_step (fun _ k => XS.icmpNo X0.here hx rfl (hb hby d6_24) rfl ((teq hc4).2) k) ?_
        show own_Fin p.tables e below _ (s₁.setTop (mkF m 27 #[.val (.int cc), .val (.int cb), .val (.int xb)] []))
        refine own_step (fun _ k => XS.iconst X0.here hx rfl (hb hby d6_27) k) ?_
        show own_Fin p.tables e below _ (s₁.setTop (mkF m 28 #[.val (.int cc), .val (.int cb), .val (.int xb)] [(.int (0 : Int32))]))
        obtain ⟨fs5, hr5, hrun5, hended5, hW5, hsame5⟩ := X0.leave (v := some (.int (nar .boolean (0 : Int32)))) (fun h => by rw [Bd.returns] at h; cases h)
        refine own_ret (retN X0 hx (t := .boolean) Bd.returns (by simp) (hb hby d6_28) hr5) hrun5 hended5 ?_
        refine ⟨_, _, rfl, ?_, ⟨_, rfl⟩, hW5, hsame5.mono (by decide) (by decide)⟩
        show Q6 Z cc cb xb h0 n0 _ s₁.heap _
        rw [e0]
        refine ⟨congrArg (fun z => some (Value.int z)) ?_, N0, rfl⟩
        first | (simp_all [own_endI, nar]; done) | (simp_all [own_endI, nar]; split <;> rfl)
      · refine own_step (fun _ k => XS.icmpYes X0.here hx rfl (pc0 := 24) (pc' := 29) rfl (hb hby d6_24) rfl ((feq hc4).2) (by decide) (by decide) k) ?_
        show own_Fin p.tables e below _ (s₁.setTop (mkF m 29 #[.val (.int cc), .val (.int cb), .val (.int xb)] []))
        refine own_step (fun _ k => XS.iloadN X0.here hx rfl (hb hby d6_29) rfl k) ?_
        show own_Fin p.tables e below _ (s₁.setTop (mkF m 30 #[.val (.int cc), .val (.int cb), .val (.int xb)] [(.int cc)]))
        refine own_step (fun _ k => XS.bipush X0.here hx rfl (hb hby d6_30) k) ?_
        show own_Fin p.tables e below _ (s₁.setTop (mkF m 32 #[.val (.int cc), .val (.int cb), .val (.int xb)] [(.int (10 : Int32)), (.int cc)]))
        by_cases hc6 : cc = (10 : Int32)
        · refine own_step (fun _ k => XS.icmpNo X0.here hx rfl (hb hby d6_32) rfl ((teq hc6).2) k) ?_
          show own_Fin p.tables e below _ (s₁.setTop (mkF m 35 #[.val (.int cc), .val (.int cb), .val (.int xb)] []))
          refine own_step (fun _ k => XS.iconst X0.here hx rfl (hb hby d6_35) k) ?_
          show own_Fin p.tables e below _ (s₁.setTop (mkF m 36 #[.val (.int cc), .val (.int cb), .val (.int xb)] [(.int (1 : Int32))]))
          obtain ⟨fs7, hr7, hrun7, hended7, hW7, hsame7⟩ := X0.leave (v := some (.int (nar .boolean (1 : Int32)))) (fun h => by rw [Bd.returns] at h; cases h)
          refine own_ret (retN X0 hx (t := .boolean) Bd.returns (by simp) (hb hby d6_36) hr7) hrun7 hended7 ?_
          refine ⟨_, _, rfl, ?_, ⟨_, rfl⟩, hW7, hsame7.mono (by decide) (by decide)⟩
          show Q6 Z cc cb xb h0 n0 _ s₁.heap _
          rw [e0]
          refine ⟨congrArg (fun z => some (Value.int z)) ?_, N0, rfl⟩
          first | (simp_all [own_endI, nar]; done) | (simp_all [own_endI, nar]; split <;> rfl)
        · refine own_step (fun _ k => XS.icmpYes X0.here hx rfl (pc0 := 32) (pc' := 37) rfl (hb hby d6_32) rfl ((feq hc6).2) (by decide) (by decide) k) ?_
          show own_Fin p.tables e below _ (s₁.setTop (mkF m 37 #[.val (.int cc), .val (.int cb), .val (.int xb)] []))
          refine own_step (fun _ k => XS.iloadN X0.here hx rfl (hb hby d6_37) rfl k) ?_
          show own_Fin p.tables e below _ (s₁.setTop (mkF m 38 #[.val (.int cc), .val (.int cb), .val (.int xb)] [(.int xb)]))
          refine own_step (fun _ k => XS.ifYes X0.here hx rfl (pc0 := 38) (pc' := 52) rfl (hb hby d6_38) rfl ((if0 _ _).trans (teq hc3).1) (by decide) (by decide) k) ?_
          show own_Fin p.tables e below _ (s₁.setTop (mkF m 52 #[.val (.int cc), .val (.int cb), .val (.int xb)] []))
          refine own_step (fun _ k => XS.iconst X0.here hx rfl (hb hby d6_52) k) ?_
          show own_Fin p.tables e below _ (s₁.setTop (mkF m 53 #[.val (.int cc), .val (.int cb), .val (.int xb)] [(.int (0 : Int32))]))
          obtain ⟨fs8, hr8, hrun8, hended8, hW8, hsame8⟩ := X0.leave (v := some (.int (nar .boolean (0 : Int32)))) (fun h => by rw [Bd.returns] at h; cases h)
          refine own_ret (retN X0 hx (t := .boolean) Bd.returns (by simp) (hb hby d6_53) hr8) hrun8 hended8 ?_
          refine ⟨_, _, rfl, ?_, ⟨_, rfl⟩, hW8, hsame8.mono (by decide) (by decide)⟩
          show Q6 Z cc cb xb h0 n0 _ s₁.heap _
          rw [e0]
          refine ⟨congrArg (fun z => some (Value.int z)) ?_, N0, rfl⟩
          first | (simp_all [own_endI, nar]; done) | (simp_all [own_endI, nar]; split <;> rfl)
    · refine own_step (fun _ k => XS.ifNo X0.here hx rfl (hb hby d6_9) rfl ((if0 _ _).trans (feq hc3).1) k) ?_
      show own_Fin p.tables e below _ (s₁.setTop (mkF m 12 #[.val (.int cc), .val (.int cb), .val (.int xb)] []))
      refine own_step (fun _ k => XS.iloadN X0.here hx rfl (hb hby d6_12) rfl k) ?_
      show own_Fin p.tables e below _ (s₁.setTop (mkF m 13 #[.val (.int cc), .val (.int cb), .val (.int xb)] [(.int cc)]))
      refine own_step (fun _ k => XS.sipush X0.here hx rfl (hb hby d6_13) k) ?_
      show own_Fin p.tables e below _ (s₁.setTop (mkF m 16 #[.val (.int cc), .val (.int cb), .val (.int xb)] [(.int (8232 : Int32)), (.int cc)]))
      by_cases hc9 : cc = (8232 : Int32)
      · refine own_step (fun _ k => XS.icmpNo X0.here hx rfl (hb hby d6_16) rfl ((teq hc9).2) k) ?_
        show own_Fin p.tables e below _ (s₁.setTop (mkF m 19 #[.val (.int cc), .val (.int cb), .val (.int xb)] []))
        refine own_step (fun _ k => XS.iconst X0.here hx rfl (hb hby d6_19) k) ?_
        show own_Fin p.tables e below _ (s₁.setTop (mkF m 20 #[.val (.int cc), .val (.int cb), .val (.int xb)] [(.int (1 : Int32))]))
        obtain ⟨fs10, hr10, hrun10, hended10, hW10, hsame10⟩ := X0.leave (v := some (.int (nar .boolean (1 : Int32)))) (fun h => by rw [Bd.returns] at h; cases h)
        refine own_ret (retN X0 hx (t := .boolean) Bd.returns (by simp) (hb hby d6_20) hr10) hrun10 hended10 ?_
        refine ⟨_, _, rfl, ?_, ⟨_, rfl⟩, hW10, hsame10.mono (by decide) (by decide)⟩
        show Q6 Z cc cb xb h0 n0 _ s₁.heap _
        rw [e0]
        refine ⟨congrArg (fun z => some (Value.int z)) ?_, N0, rfl⟩
        first | (simp_all [own_endI, nar]; done) | (simp_all [own_endI, nar]; split <;> rfl)
      · refine own_step (fun _ k => XS.icmpYes X0.here hx rfl (pc0 := 16) (pc' := 21) rfl (hb hby d6_16) rfl ((feq hc9).2) (by decide) (by decide) k) ?_
        show own_Fin p.tables e below _ (s₁.setTop (mkF m 21 #[.val (.int cc), .val (.int cb), .val (.int xb)] []))
        refine own_step (fun _ k => XS.iloadN X0.here hx rfl (hb hby d6_21) rfl k) ?_
        show own_Fin p.tables e below _ (s₁.setTop (mkF m 22 #[.val (.int cc), .val (.int cb), .val (.int xb)] [(.int cb)]))
        refine own_step (fun _ k => XS.bipush X0.here hx rfl (hb hby d6_22) k) ?_
        show own_Fin p.tables e below _ (s₁.setTop (mkF m 24 #[.val (.int cc), .val (.int cb), .val (.int xb)] [(.int (13 : Int32)), (.int cb)]))
        by_cases hc11 : cb = (13 : Int32)
        · refine own_step (fun _ k => XS.icmpNo X0.here hx rfl (hb hby d6_24) rfl ((teq hc11).2) k) ?_
          show own_Fin p.tables e below _ (s₁.setTop (mkF m 27 #[.val (.int cc), .val (.int cb), .val (.int xb)] []))
          refine own_step (fun _ k => XS.iconst X0.here hx rfl (hb hby d6_27) k) ?_
          show own_Fin p.tables e below _ (s₁.setTop (mkF m 28 #[.val (.int cc), .val (.int cb), .val (.int xb)] [(.int (0 : Int32))]))
          obtain ⟨fs12, hr12, hrun12, hended12, hW12, hsame12⟩ := X0.leave (v := some (.int (nar .boolean (0 : Int32)))) (fun h => by rw [Bd.returns] at h; cases h)
          refine own_ret (retN X0 hx (t := .boolean) Bd.returns (by simp) (hb hby d6_28) hr12) hrun12 hended12 ?_
          refine ⟨_, _, rfl, ?_, ⟨_, rfl⟩, hW12, hsame12.mono (by decide) (by decide)⟩
          show Q6 Z cc cb xb h0 n0 _ s₁.heap _
          rw [e0]
          refine ⟨congrArg (fun z => some (Value.int z)) ?_, N0, rfl⟩
          first | (simp_all [own_endI, nar]; done) | (simp_all [own_endI, nar]; split <;> rfl)
        · refine own_step (fun _ k => XS.icmpYes X0.here hx rfl (pc0 := 24) (pc' := 29) rfl (hb hby d6_24) rfl ((feq hc11).2) (by decide) (by decide) k) ?_
          show own_Fin p.tables e below _ (s₁.setTop (mkF m 29 #[.val (.int cc), .val (.int cb), .val (.int xb)] []))
          refine own_step (fun _ k => XS.iloadN X0.here hx rfl (hb hby d6_29) rfl k) ?_
          show own_Fin p.tables e below _ (s₁.setTop (mkF m 30 #[.val (.int cc), .val (.int cb), .val (.int xb)] [(.int cc)]))
          refine own_step (fun _ k => XS.bipush X0.here hx rfl (hb hby d6_30) k) ?_
          show own_Fin p.tables e below _ (s₁.setTop (mkF m 32 #[.val (.int cc), .val (.int cb), .val (.int xb)] [(.int (10 : Int32)), (.int cc)]))
          by_cases hc13 : cc = (10 : Int32)
          · refine own_step (fun _ k => XS.icmpNo X0.here hx rfl (hb hby d6_32) rfl ((teq hc13).2) k) ?_
            show own_Fin p.tables e below _ (s₁.setTop (mkF m 35 #[.val (.int cc), .val (.int cb), .val (.int xb)] []))
            refine own_step (fun _ k => XS.iconst X0.here hx rfl (hb hby d6_35) k) ?_
            show own_Fin p.tables e below _ (s₁.setTop (mkF m 36 #[.val (.int cc), .val (.int cb), .val (.int xb)] [(.int (1 : Int32))]))
            obtain ⟨fs14, hr14, hrun14, hended14, hW14, hsame14⟩ := X0.leave (v := some (.int (nar .boolean (1 : Int32)))) (fun h => by rw [Bd.returns] at h; cases h)
            refine own_ret (retN X0 hx (t := .boolean) Bd.returns (by simp) (hb hby d6_36) hr14) hrun14 hended14 ?_
            refine ⟨_, _, rfl, ?_, ⟨_, rfl⟩, hW14, hsame14.mono (by decide) (by decide)⟩
            show Q6 Z cc cb xb h0 n0 _ s₁.heap _
            rw [e0]
            refine ⟨congrArg (fun z => some (Value.int z)) ?_, N0, rfl⟩
            first | (simp_all [own_endI, nar]; done) | (simp_all [own_endI, nar]; split <;> rfl)
          · refine own_step (fun _ k => XS.icmpYes X0.here hx rfl (pc0 := 32) (pc' := 37) rfl (hb hby d6_32) rfl ((feq hc13).2) (by decide) (by decide) k) ?_
            show own_Fin p.tables e below _ (s₁.setTop (mkF m 37 #[.val (.int cc), .val (.int cb), .val (.int xb)] []))
            refine own_step (fun _ k => XS.iloadN X0.here hx rfl (hb hby d6_37) rfl k) ?_
            show own_Fin p.tables e below _ (s₁.setTop (mkF m 38 #[.val (.int cc), .val (.int cb), .val (.int xb)] [(.int xb)]))
            refine own_step (fun _ k => XS.ifNo X0.here hx rfl (hb hby d6_38) rfl ((if0 _ _).trans (feq hc3).1) k) ?_
            show own_Fin p.tables e below _ (s₁.setTop (mkF m 41 #[.val (.int cc), .val (.int cb), .val (.int xb)] []))
            refine own_step (fun _ k => XS.iloadN X0.here hx rfl (hb hby d6_41) rfl k) ?_
            show own_Fin p.tables e below _ (s₁.setTop (mkF m 42 #[.val (.int cc), .val (.int cb), .val (.int xb)] [(.int cc)]))
            refine own_step (fun _ k => XS.sipush X0.here hx rfl (hb hby d6_42) k) ?_
            show own_Fin p.tables e below _ (s₁.setTop (mkF m 45 #[.val (.int cc), .val (.int cb), .val (.int xb)] [(.int (133 : Int32)), (.int cc)]))
            have J16 : ∀ (T17 : State) (locs17 : List Loc) (y18 : Int32) (X17 : Stand p l e ({ frames := 0, cells := 0, slots := 0, locals := 0 } : Room) s m #[(.int cc), (.int cb), (.int xb)] below meth c T17 locs17 0 0) (e17 : T17.heap = h0) (N17 : Fr n0 locs17) (gy18 : y18 = (if cc = (133 : Int32) then (1 : Int32) else (0 : Int32))), own_Fin p.tables e below (P6 Z cc cb xb h0 n0 s) (T17.setTop (mkF m 53 #[.val (.int cc), .val (.int cb), .val (.int xb)] [(.int y18)])) := by
              intro T17 locs17 y18 X17 e17 N17 gy18
              obtain ⟨fs19, hr19, hrun19, hended19, hW19, hsame19⟩ := X17.leave (v := some (.int (nar .boolean y18))) (fun h => by rw [Bd.returns] at h; cases h)
              refine own_ret (retN X17 hx (t := .boolean) Bd.returns (by simp) (hb hby d6_53) hr19) hrun19 hended19 ?_
              refine ⟨_, _, rfl, ?_, ⟨_, rfl⟩, hW19, hsame19.mono (by decide) (by decide)⟩
              show Q6 Z cc cb xb h0 n0 _ T17.heap _
              rw [e17]
              refine ⟨congrArg (fun z => some (Value.int z)) ?_, N17, rfl⟩
              first | (simp_all [own_endI, nar]; done) | (simp_all [own_endI, nar]; split <;> rfl)
            by_cases hc15 : cc = (133 : Int32)
            · refine own_step (fun _ k => XS.icmpNo X0.here hx rfl (hb hby d6_45) rfl ((teq hc15).2) k) ?_
              show own_Fin p.tables e below _ (s₁.setTop (mkF m 48 #[.val (.int cc), .val (.int cb), .val (.int xb)] []))
              refine own_step (fun _ k => XS.iconst X0.here hx rfl (hb hby d6_48) k) ?_
              show own_Fin p.tables e below _ (s₁.setTop (mkF m 49 #[.val (.int cc), .val (.int cb), .val (.int xb)] [(.int (1 : Int32))]))
              refine own_step (fun _ k => XS.goto X0.here hx rfl (pc0 := 49) (pc' := 53) rfl (hb hby d6_49) (by decide) (by decide) k) ?_
              show own_Fin p.tables e below _ (s₁.setTop (mkF m 53 #[.val (.int cc), .val (.int cb), .val (.int xb)] [(.int (1 : Int32))]))
              exact J16 s₁ _ (1 : Int32) X0 e0 N0 (by rw [if_pos hc15])
            · refine own_step (fun _ k => XS.icmpYes X0.here hx rfl (pc0 := 45) (pc' := 52) rfl (hb hby d6_45) rfl ((feq hc15).2) (by decide) (by decide) k) ?_
              show own_Fin p.tables e below _ (s₁.setTop (mkF m 52 #[.val (.int cc), .val (.int cb), .val (.int xb)] []))
              refine own_step (fun _ k => XS.iconst X0.here hx rfl (hb hby d6_52) k) ?_
              show own_Fin p.tables e below _ (s₁.setTop (mkF m 53 #[.val (.int cc), .val (.int cb), .val (.int xb)] [(.int (0 : Int32))]))
              exact J16 s₁ _ (0 : Int32) X0 e0 N0 (by rw [if_neg hc15])
theorem ef_0 (m : MethodId) (x0 : Int32) (x1 : Int32) (x2 : Int32) (x3 : Int32) (x4 : Int32) : entryFrame m #[(.int x0), (.int x1), (.int x2), (.int x3), (.int x4)] maxLocals = mkF m 0 #[.val (.int x0), .val (.int x1), .val (.int x2), .val (.int x3), .val (.int x4), .unset, .unset, .unset, .unset, .unset, .unset, .unset, .unset, .unset, .unset] [] := by first | (simp [entryFrame, mkF, argsToLocals, Value.category, maxLocals]; done) | rfl
def Q0 (Z : State) (k0 : Int32) (k1 : Int32) (k2 : Int32) (k3 : Int32) (k4 : Int32) (h0 : Heap) (n0 : Nat) (v : Option Value) (h : Heap) (L : List Loc) : Prop := v = some (.int 1) ∧ Fr n0 L
abbrev P0 (Z : State) (k0 : Int32) (k1 : Int32) (k2 : Int32) (k3 : Int32) (k4 : Int32) (h0 : Heap) (n0 : Nat) (s : State) : Outcome → State → Prop := fun o U' => ∃ v L, o = .returned v ∧ Q0 Z k0 k1 k2 k3 k4 h0 n0 v U'.heap L ∧ FrameEnd s o U' L room_1.cells room_1.slots
theorem pd_0 : parseMethodDescriptor "(II)C" = some ⟨[.int, .int], some .char⟩ := by decide +kernel
theorem pd_1 : parseMethodDescriptor "(Z)V" = some ⟨[.boolean], none⟩ := by decide +kernel
theorem pd_2 : parseMethodDescriptor "()J" = some ⟨[], some .long⟩ := by decide +kernel
theorem pd_3 : parseMethodDescriptor "(CC)V" = some ⟨[.char, .char], none⟩ := by decide +kernel
theorem pd_4 : parseMethodDescriptor "(CCZ)Z" = some ⟨[.char, .char, .boolean], some .boolean⟩ := by decide +kernel
set_option maxRecDepth 65536 in
set_option maxHeartbeats 40000000 in
theorem rm0 (l : Launch) (Z : State) (a0 : Array Value) (hw : ∀ d ∈ tables_1, d.before a0 Z = true) (ws : List Jvm.Cond) (k0 : Int32) (k1 : Int32) (k2 : Int32) (k3 : Int32) (k4 : Int32) (h0 : Heap) (n0 : Nat) (Z0 : n0 ≤ h0.size) :
    MetFree l x (head1 (Jvm.Cond.code x code maxLocals ret :: ws) room_1) (fun a U => a = #[(.int k0), (.int k1), (.int k2), (.int k3), (.int k4)] ∧ Z.Warmed39 U.vm ∧ U.heap = h0) (fun _ _ _ _ _ => True) (fun _ U o U' => ∃ v L, o = .returned v ∧ Q0 Z k0 k1 k2 k3 k4 h0 n0 v U'.heap L ∧ FrameEnd U o U' L room_1.cells room_1.slots) := by
  refine MetFree.of_bodySF (plainFor_of_name pn_0) hisR ?_
  intro p e s m args below meth c s₁ Bd hml0 hP hK
  obtain ⟨rfl, hZ, hh⟩ := hP
  have hx := Bd.exec
  have hby := Bd.bytes
  have hml : c.maxLocals = 15 := hml0
  have hown : s.vm.findClass "com/example/streamgist/streamgist/paths/LinesCountPinLaw" = some m.cls := findClass_of_methodNamed Bd.named
  have hnm := (name_of_methodNamed Bd.named Bd.method).1
  have X0 : Stand p l e room_1 s m #[(.int k0), (.int k1), (.int k2), (.int k3), (.int k4)] below meth c s₁ [] 0 0 := Stand.of_body Bd
  have e0 : s₁.heap = h0 := by rw [← hh, Bd.state]; rfl
  have N0 := Fr.nil n0
  refine own_enter (P := (P0 Z k0 k1 k2 k3 k4 h0 n0 s)) (ef_0 m k0 k1 k2 k3 k4) ?_
  show own_Fin p.tables e below _ (s₁.setTop (mkF m 0 #[.val (.int k0), .val (.int k1), .val (.int k2), .val (.int k3), .val (.int k4), .unset, .unset, .unset, .unset, .unset, .unset, .unset, .unset, .unset, .unset] []))
  refine own_step (fun _ k => XS.iloadN X0.here hx rfl (hb hby at_0) rfl k) ?_
  show own_Fin p.tables e below _ (s₁.setTop (mkF m 1 #[.val (.int k0), .val (.int k1), .val (.int k2), .val (.int k3), .val (.int k4), .unset, .unset, .unset, .unset, .unset, .unset, .unset, .unset, .unset, .unset] [(.int k0)]))
  refine own_step (fun _ k => XS.iconst X0.here hx rfl (hb hby at_1) k) ?_
  show own_Fin p.tables e below _ (s₁.setTop (mkF m 2 #[.val (.int k0), .val (.int k1), .val (.int k2), .val (.int k3), .val (.int k4), .unset, .unset, .unset, .unset, .unset, .unset, .unset, .unset, .unset, .unset] [(.int (1 : Int32)), (.int k0)]))
  refine own_step (fun _ k => XS.iand X0.here hx rfl (hb hby at_2) rfl k) ?_
  show own_Fin p.tables e below _ (s₁.setTop (mkF m 3 #[.val (.int k0), .val (.int k1), .val (.int k2), .val (.int k3), .val (.int k4), .unset, .unset, .unset, .unset, .unset, .unset, .unset, .unset, .unset, .unset] [(.int (k0 &&& (1 : Int32)))]))
  have J2 : ∀ (T3 : State) (locs3 : List Loc) (y4 : Int32) (X3 : Stand p l e room_1 s m #[(.int k0), (.int k1), (.int k2), (.int k3), (.int k4)] below meth c T3 locs3 0 0) (e3 : T3.heap = h0) (N3 : Fr n0 locs3) (gy4 : y4 = (if (k0 &&& (1 : Int32)) = (0 : Int32) then (0 : Int32) else (1 : Int32))), own_Fin p.tables e below (P0 Z k0 k1 k2 k3 k4 h0 n0 s) (T3.setTop (mkF m 11 #[.val (.int k0), .val (.int k1), .val (.int k2), .val (.int k3), .val (.int k4), .unset, .unset, .unset, .unset, .unset, .unset, .unset, .unset, .unset, .unset] [(.int y4)])) := by
    intro T3 locs3 y4 X3 e3 N3 gy4
    refine own_step (fun _ k => XS.istore X3.here hx rfl (hb hby at_11) rfl (l' := #[.val (.int k0), .val (.int k1), .val (.int k2), .val (.int k3), .val (.int k4), .val (.int y4), .unset, .unset, .unset, .unset, .unset, .unset, .unset, .unset, .unset]) rfl k) ?_
    show own_Fin p.tables e below _ (T3.setTop (mkF m 13 #[.val (.int k0), .val (.int k1), .val (.int k2), .val (.int k3), .val (.int k4), .val (.int y4), .unset, .unset, .unset, .unset, .unset, .unset, .unset, .unset, .unset] []))
    refine own_step (fun _ k => XS.iloadN X3.here hx rfl (hb hby at_13) rfl k) ?_
    show own_Fin p.tables e below _ (T3.setTop (mkF m 14 #[.val (.int k0), .val (.int k1), .val (.int k2), .val (.int k3), .val (.int k4), .val (.int y4), .unset, .unset, .unset, .unset, .unset, .unset, .unset, .unset, .unset] [(.int k1)]))
    refine own_step (fun _ k => XS.iloadN X3.here hx rfl (hb hby at_14) rfl k) ?_
    show own_Fin p.tables e below _ (T3.setTop (mkF m 15 #[.val (.int k0), .val (.int k1), .val (.int k2), .val (.int k3), .val (.int k4), .val (.int y4), .unset, .unset, .unset, .unset, .unset, .unset, .unset, .unset, .unset] [(.int k2), (.int k1)]))
    obtain ⟨_, _, ⟨T5, L5, k5, n5⟩, -, X5, ⟨Lc5, hQ5, l5, y5, z5⟩, st5⟩ := Jvm.LawKit.callS X3 hx (y := (⟨"com/example/streamgist/streamgist/paths/LinesCountPinLaw", "pick", "(II)C"⟩ : MethodName)) hown (mvT hZ (hw _ (List.mem_of_getElem? (i := 0) rfl))) (mvT hZ (hw _ (List.mem_of_getElem? (i := 1) rfl))) (mvT hZ (hw _ (List.mem_of_getElem? (i := 2) rfl))) (mvT hZ (hw _ (List.mem_of_getElem? (i := 3) rfl))) (by decide) (backOf (W := 0) (rm1 l Z a0 hw [] k1 k2  h0 n0 Z0 ) hZ (hw _ (List.mem_of_getElem? (i := 3) rfl)) (hw _ (List.mem_of_getElem? (i := 2) rfl)) (by decide) (by decide)) (g := (mkF m 15 #[.val (.int k0), .val (.int k1), .val (.int k2), .val (.int k3), .val (.int k4), .val (.int y4), .unset, .unset, .unset, .unset, .unset, .unset, .unset, .unset, .unset] [(.int k2), (.int k1)])) rfl (by rw [hml]; rfl) (argsL := [(.int k1), (.int k2)]) (rest := []) (lenOf pd_0 rfl) rfl (by show 2 * 0 + _ ≤ _; exact Nat.le_of_eq rfl) (hb hby at_15) (fun _ _ => ⟨rfl, e3, (by decide : 0 + 0 ≤ _), (by decide : 0 + 0 ≤ _)⟩)
    dsimp only [Pt.U, Pt.locs, Pt.cells, Pt.slots] at X5 l5 y5 z5 st5 hQ5
    subst l5 y5 z5
    obtain ⟨r5, rfl, N5q, e5⟩ := hQ5
    have N5 := Fr.app N3 N5q
    refine own_step st5 ?_
    show own_Fin p.tables e below _ (T5.setTop (mkF m 18 #[.val (.int k0), .val (.int k1), .val (.int k2), .val (.int k3), .val (.int k4), .val (.int y4), .unset, .unset, .unset, .unset, .unset, .unset, .unset, .unset, .unset] [(.int r5)]))
    refine own_step (fun _ k => XS.istore X5.here hx rfl (hb hby at_18) rfl (l' := #[.val (.int k0), .val (.int k1), .val (.int k2), .val (.int k3), .val (.int k4), .val (.int y4), .val (.int r5), .unset, .unset, .unset, .unset, .unset, .unset, .unset, .unset]) rfl k) ?_
    show own_Fin p.tables e below _ (T5.setTop (mkF m 20 #[.val (.int k0), .val (.int k1), .val (.int k2), .val (.int k3), .val (.int k4), .val (.int y4), .val (.int r5), .unset, .unset, .unset, .unset, .unset, .unset, .unset, .unset] []))
    refine own_step (fun _ k => XS.iloadN X5.here hx rfl (hb hby at_20) rfl k) ?_
    show own_Fin p.tables e below _ (T5.setTop (mkF m 21 #[.val (.int k0), .val (.int k1), .val (.int k2), .val (.int k3), .val (.int k4), .val (.int y4), .val (.int r5), .unset, .unset, .unset, .unset, .unset, .unset, .unset, .unset] [(.int k3)]))
    refine own_step (fun _ k => XS.iload X5.here hx rfl (hb hby at_21) rfl k) ?_
    show own_Fin p.tables e below _ (T5.setTop (mkF m 23 #[.val (.int k0), .val (.int k1), .val (.int k2), .val (.int k3), .val (.int k4), .val (.int y4), .val (.int r5), .unset, .unset, .unset, .unset, .unset, .unset, .unset, .unset] [(.int k4), (.int k3)]))
    obtain ⟨_, _, ⟨T6, L6, k6, n6⟩, -, X6, ⟨Lc6, hQ6, l6, y6, z6⟩, st6⟩ := Jvm.LawKit.callS X5 hx (y := (⟨"com/example/streamgist/streamgist/paths/LinesCountPinLaw", "pick", "(II)C"⟩ : MethodName)) hown (mvT hZ (hw _ (List.mem_of_getElem? (i := 0) rfl))) (mvT hZ (hw _ (List.mem_of_getElem? (i := 1) rfl))) (mvT hZ (hw _ (List.mem_of_getElem? (i := 2) rfl))) (mvT hZ (hw _ (List.mem_of_getElem? (i := 3) rfl))) (by decide) (backOf (W := 0) (rm1 l Z a0 hw [] k3 k4  h0 n0 Z0 ) hZ (hw _ (List.mem_of_getElem? (i := 3) rfl)) (hw _ (List.mem_of_getElem? (i := 2) rfl)) (by decide) (by decide)) (g := (mkF m 23 #[.val (.int k0), .val (.int k1), .val (.int k2), .val (.int k3), .val (.int k4), .val (.int y4), .val (.int r5), .unset, .unset, .unset, .unset, .unset, .unset, .unset, .unset] [(.int k4), (.int k3)])) rfl (by rw [hml]; rfl) (argsL := [(.int k3), (.int k4)]) (rest := []) (lenOf pd_0 rfl) rfl (by show 2 * 0 + _ ≤ _; exact Nat.le_of_eq rfl) (hb hby at_23) (fun _ _ => ⟨rfl, e5, (by decide : 0 + 0 ≤ _), (by decide : 0 + 0 ≤ _)⟩)
    dsimp only [Pt.U, Pt.locs, Pt.cells, Pt.slots] at X6 l6 y6 z6 st6 hQ6
    subst l6 y6 z6
    obtain ⟨r6, rfl, N6q, e6⟩ := hQ6
    have N6 := Fr.app N5 N6q
    refine own_step st6 ?_
    show own_Fin p.tables e below _ (T6.setTop (mkF m 26 #[.val (.int k0), .val (.int k1), .val (.int k2), .val (.int k3), .val (.int k4), .val (.int y4), .val (.int r5), .unset, .unset, .unset, .unset, .unset, .unset, .unset, .unset] [(.int r6)]))
    refine own_step (fun _ k => XS.istore X6.here hx rfl (hb hby at_26) rfl (l' := #[.val (.int k0), .val (.int k1), .val (.int k2), .val (.int k3), .val (.int k4), .val (.int y4), .val (.int r5), .val (.int r6), .unset, .unset, .unset, .unset, .unset, .unset, .unset]) rfl k) ?_
    show own_Fin p.tables e below _ (T6.setTop (mkF m 28 #[.val (.int k0), .val (.int k1), .val (.int k2), .val (.int k3), .val (.int k4), .val (.int y4), .val (.int r5), .val (.int r6), .unset, .unset, .unset, .unset, .unset, .unset, .unset] []))
    obtain ⟨T7, h7, X7, e7, E7, A7, D7, -, st7⟩ := newO X6 hx hZ hown (hw _ (List.mem_of_getElem? (i := 4) rfl)) (hw _ (List.mem_of_getElem? (i := 5) rfl)) (hw _ (List.mem_of_getElem? (i := 6) rfl)) e6 (g := (mkF m 28 #[.val (.int k0), .val (.int k1), .val (.int k2), .val (.int k3), .val (.int k4), .val (.int y4), .val (.int r5), .val (.int r6), .unset, .unset, .unset, .unset, .unset, .unset, .unset] [])) rfl (hb hby at_28) (by decide) (by decide)
    obtain ⟨b7, g7⟩ : ∃ z, z = h0.size := ⟨_, rfl⟩
    rw [← g7] at A7 D7 st7
    refine own_step st7 ?_
    have g_b7 : n0 ≤ b7 := Nat.le_trans Z0 (Nat.le_of_eq g7.symm)
    have f8 := Nat.le_trans Z0 E7.1
    have f9 : Fld Z h7 b7 "com/example/streamgist/streamgist/paths/DocumentText$Lines" "line" "J" (.long (0 : Int64)) := D7 (Or.inl (hw _ (List.mem_of_getElem? (i := 14) rfl))) (ty := .long) (by decide)
    have f10 : Fld Z h7 b7 "com/example/streamgist/streamgist/paths/DocumentText$Lines" "xml11" "Z" (.int (0 : Int32)) := D7 (Or.inr (hw _ (List.mem_of_getElem? (i := 16) rfl))) (ty := .boolean) (by decide)
    show own_Fin p.tables e below _ (T7.setTop (mkF m 31 #[.val (.int k0), .val (.int k1), .val (.int k2), .val (.int k3), .val (.int k4), .val (.int y4), .val (.int r5), .val (.int r6), .unset, .unset, .unset, .unset, .unset, .unset, .unset] [(.ref b7)]))
    refine own_step (fun _ k => XS.dup X7.here hx rfl (hb hby at_31) rfl rfl k) ?_
    show own_Fin p.tables e below _ (T7.setTop (mkF m 32 #[.val (.int k0), .val (.int k1), .val (.int k2), .val (.int k3), .val (.int k4), .val (.int y4), .val (.int r5), .val (.int r6), .unset, .unset, .unset, .unset, .unset, .unset, .unset] [(.ref b7), (.ref b7)]))
    refine own_step (fun _ k => XS.iload X7.here hx rfl (hb hby at_32) rfl k) ?_
    show own_Fin p.tables e below _ (T7.setTop (mkF m 34 #[.val (.int k0), .val (.int k1), .val (.int k2), .val (.int k3), .val (.int k4), .val (.int y4), .val (.int r5), .val (.int r6), .unset, .unset, .unset, .unset, .unset, .unset, .unset] [(.int y4), (.ref b7), (.ref b7)]))
    obtain ⟨_, _, ⟨T11, L11, k11, n11⟩, -, X11, ⟨Lc11, hQ11, l11, y11, z11⟩, st11⟩ := X7.specialBack hx (y := (⟨"com/example/streamgist/streamgist/paths/DocumentText$Lines", "<init>", "(Z)V"⟩ : MethodName)) rfl hown (mvT hZ (hw _ (List.mem_of_getElem? (i := 7) rfl))) (mvT hZ (hw _ (List.mem_of_getElem? (i := 8) rfl))) (mvT hZ (hw _ (List.mem_of_getElem? (i := 9) rfl))) (by decide) (backOf (W := 1) (rm2 l Z a0 hw [] b7 y4 _ _ h7 n0 f8 f9 f10 A7 g_b7) hZ (hw _ (List.mem_of_getElem? (i := 9) rfl)) (hw _ (List.mem_of_getElem? (i := 6) rfl)) (by decide) (by decide)) (g := (mkF m 34 #[.val (.int k0), .val (.int k1), .val (.int k2), .val (.int k3), .val (.int k4), .val (.int y4), .val (.int r5), .val (.int r6), .unset, .unset, .unset, .unset, .unset, .unset, .unset] [(.int y4), (.ref b7), (.ref b7)])) rfl (by rw [hml]; rfl) (Steps.refl _) (a := b7) (argsL := [(.int y4)]) (rest := [(.ref b7)]) (lenOf pd_1 rfl) rfl (by show 2 * 0 + _ ≤ _; exact Nat.le_of_eq rfl) (hb hby at_34) (fun _ _ => ⟨rfl, e7, (by decide : 1 + 0 ≤ _), (by decide : 2 + 0 ≤ _)⟩)
    dsimp only [Pt.U, Pt.locs, Pt.cells, Pt.slots] at X11 l11 y11 z11 st11 hQ11
    subst l11 y11 z11
    obtain ⟨rfl, N11q, K11, fe11, fl11, fx11⟩ := hQ11
    have N11 := Fr.app N6 N11q
    refine own_steps st11 ?_
    have f12 := Nat.le_trans f8 K11.1
    have f13 := A7.keep K11
    rw [own_bool gy4] at fx11
    show own_Fin p.tables e below _ (T11.setTop (mkF m 37 #[.val (.int k0), .val (.int k1), .val (.int k2), .val (.int k3), .val (.int k4), .val (.int y4), .val (.int r5), .val (.int r6), .unset, .unset, .unset, .unset, .unset, .unset, .unset] [(.ref b7)]))
    refine own_step (fun _ k => XS.astore X11.here hx rfl (hb hby at_37) rfl rfl (l' := #[.val (.int k0), .val (.int k1), .val (.int k2), .val (.int k3), .val (.int k4), .val (.int y4), .val (.int r5), .val (.int r6), .val (.ref b7), .unset, .unset, .unset, .unset, .unset, .unset]) rfl k) ?_
    show own_Fin p.tables e below _ (T11.setTop (mkF m 39 #[.val (.int k0), .val (.int k1), .val (.int k2), .val (.int k3), .val (.int k4), .val (.int y4), .val (.int r5), .val (.int r6), .val (.ref b7), .unset, .unset, .unset, .unset, .unset, .unset] []))
    refine own_step (fun _ k => XS.aload X11.here hx rfl (hb hby at_39) rfl rfl k) ?_
    show own_Fin p.tables e below _ (T11.setTop (mkF m 41 #[.val (.int k0), .val (.int k1), .val (.int k2), .val (.int k3), .val (.int k4), .val (.int y4), .val (.int r5), .val (.int r6), .val (.ref b7), .unset, .unset, .unset, .unset, .unset, .unset] [(.ref b7)]))
    obtain ⟨cq16, kq16, q16a, q16b, q16c⟩ := isOf hZ rfl fe11
    obtain ⟨_, _, ⟨T16, L16, k16, n16⟩, -, X16, ⟨Lc16, hQ16, l16, y16, z16⟩, st16⟩ := X11.virtualBack hx (y := (⟨"com/example/streamgist/streamgist/paths/DocumentText$Lines", "line", "()J"⟩ : MethodName)) (z := (⟨"com/example/streamgist/streamgist/paths/DocumentText$Lines", "line", "()J"⟩ : MethodName)) hown (mvT hZ (hw _ (List.mem_of_getElem? (i := 17) rfl))) (mvT hZ (hw _ (List.mem_of_getElem? (i := 18) rfl))) (notFace_of_selects (args := #[]) (mvT hZ (hw _ (List.mem_of_getElem? (i := 20) rfl)))) (mvT hZ (hw _ (List.mem_of_getElem? (i := 20) rfl))) (mvT hZ (hw _ (List.mem_of_getElem? (i := 19) rfl))) (by decide) (backOf (W := 0) (rm4 l Z a0 hw [] b7 (1 : Int64) T11.heap n0 f12 fl11) hZ (hw _ (List.mem_of_getElem? (i := 21) rfl)) (hw _ (List.mem_of_getElem? (i := 6) rfl)) (by decide) (by decide)) q16a q16c (g := (mkF m 41 #[.val (.int k0), .val (.int k1), .val (.int k2), .val (.int k3), .val (.int k4), .val (.int y4), .val (.int r5), .val (.int r6), .val (.ref b7), .unset, .unset, .unset, .unset, .unset, .unset] [(.ref b7)])) rfl (by rw [hml]; rfl) (Steps.refl _) (argsL := []) (rest := []) (lenOf pd_2 rfl) rfl (by show 2 * 0 + _ ≤ _; exact Nat.le_of_eq rfl) (hb hby at_41) (fun _ _ => ⟨rfl, rfl, (by decide : 1 + 0 ≤ _), (by decide : 2 + 0 ≤ _)⟩)
    dsimp only [Pt.U, Pt.locs, Pt.cells, Pt.slots] at X16 l16 y16 z16 st16 hQ16
    subst l16 y16 z16
    obtain ⟨rfl, N16q, e16⟩ := hQ16
    have N16 := Fr.app N11 N16q
    refine own_steps st16 ?_
    show own_Fin p.tables e below _ (T16.setTop (mkF m 44 #[.val (.int k0), .val (.int k1), .val (.int k2), .val (.int k3), .val (.int k4), .val (.int y4), .val (.int r5), .val (.int r6), .val (.ref b7), .unset, .unset, .unset, .unset, .unset, .unset] [(.long (1 : Int64))]))
    refine own_step (fun _ k => XS.lconst X16.here hx rfl (hb hby at_44) k) ?_
    show own_Fin p.tables e below _ (T16.setTop (mkF m 45 #[.val (.int k0), .val (.int k1), .val (.int k2), .val (.int k3), .val (.int k4), .val (.int y4), .val (.int r5), .val (.int r6), .val (.ref b7), .unset, .unset, .unset, .unset, .unset, .unset] [(.long (1 : Int64)), (.long (1 : Int64))]))
    refine own_step (fun _ k => XS.lcmp X16.here hx rfl (hb hby at_45) rfl k) ?_
    show own_Fin p.tables e below _ (T16.setTop (mkF m 46 #[.val (.int k0), .val (.int k1), .val (.int k2), .val (.int k3), .val (.int k4), .val (.int y4), .val (.int r5), .val (.int r6), .val (.ref b7), .unset, .unset, .unset, .unset, .unset, .unset] [(.int (lcmpW (1 : Int64) (1 : Int64)))]))
    refine own_step (fun _ k => XS.ifYes X16.here hx rfl (pc0 := 46) (pc' := 51) rfl (hb hby at_46) rfl ((if0 _ _).trans (teq ((lw_eq _ _).mpr (rfl : (1 : Int64) = (1 : Int64)))).1) (by decide) (by decide) k) ?_
    show own_Fin p.tables e below _ (T16.setTop (mkF m 51 #[.val (.int k0), .val (.int k1), .val (.int k2), .val (.int k3), .val (.int k4), .val (.int y4), .val (.int r5), .val (.int r6), .val (.ref b7), .unset, .unset, .unset, .unset, .unset, .unset] []))
    refine own_step (fun _ k => XS.aload X16.here hx rfl (hb hby at_51) rfl rfl k) ?_
    show own_Fin p.tables e below _ (T16.setTop (mkF m 53 #[.val (.int k0), .val (.int k1), .val (.int k2), .val (.int k3), .val (.int k4), .val (.int y4), .val (.int r5), .val (.int r6), .val (.ref b7), .unset, .unset, .unset, .unset, .unset, .unset] [(.ref b7)]))
    refine own_step (fun _ k => XS.iload X16.here hx rfl (hb hby at_53) rfl k) ?_
    show own_Fin p.tables e below _ (T16.setTop (mkF m 55 #[.val (.int k0), .val (.int k1), .val (.int k2), .val (.int k3), .val (.int k4), .val (.int y4), .val (.int r5), .val (.int r6), .val (.ref b7), .unset, .unset, .unset, .unset, .unset, .unset] [(.int r5), (.ref b7)]))
    refine own_step (fun _ k => XS.iload X16.here hx rfl (hb hby at_55) rfl k) ?_
    show own_Fin p.tables e below _ (T16.setTop (mkF m 57 #[.val (.int k0), .val (.int k1), .val (.int k2), .val (.int k3), .val (.int k4), .val (.int y4), .val (.int r5), .val (.int r6), .val (.ref b7), .unset, .unset, .unset, .unset, .unset, .unset] [(.int r6), (.int r5), (.ref b7)]))
    obtain ⟨cq17, kq17, q17a, q17b, q17c⟩ := isOf hZ e16 fe11
    obtain ⟨_, _, ⟨T17, L17, k17, n17⟩, -, X17, ⟨Lc17, hQ17, l17, y17, z17⟩, st17⟩ := X16.virtualBack hx (y := (⟨"com/example/streamgist/streamgist/paths/DocumentText$Lines", "count", "(CC)V"⟩ : MethodName)) (z := (⟨"com/example/streamgist/streamgist/paths/DocumentText$Lines", "count", "(CC)V"⟩ : MethodName)) hown (mvT hZ (hw _ (List.mem_of_getElem? (i := 22) rfl))) (mvT hZ (hw _ (List.mem_of_getElem? (i := 23) rfl))) (notFace_of_selects (args := #[]) (mvT hZ (hw _ (List.mem_of_getElem? (i := 25) rfl)))) (mvT hZ (hw _ (List.mem_of_getElem? (i := 25) rfl))) (mvT hZ (hw _ (List.mem_of_getElem? (i := 24) rfl))) (by decide) (backOf (W := 0) (rm5 l Z a0 hw [] b7 r5 r6 (1 : Int64) y4 T11.heap n0 f12 fl11 fx11 fe11 g_b7) hZ (hw _ (List.mem_of_getElem? (i := 26) rfl)) (hw _ (List.mem_of_getElem? (i := 6) rfl)) (by decide) (by decide)) q17a q17c (g := (mkF m 57 #[.val (.int k0), .val (.int k1), .val (.int k2), .val (.int k3), .val (.int k4), .val (.int y4), .val (.int r5), .val (.int r6), .val (.ref b7), .unset, .unset, .unset, .unset, .unset, .unset] [(.int r6), (.int r5), (.ref b7)])) rfl (by rw [hml]; rfl) (Steps.refl _) (argsL := [(.int r5), (.int r6)]) (rest := []) (lenOf pd_3 rfl) rfl (by show 2 * 0 + _ ≤ _; exact Nat.le_of_eq rfl) (hb hby at_57) (fun _ _ => ⟨rfl, e16, (by decide : 1 + 0 ≤ _), (by decide : 2 + 0 ≤ _)⟩)
    dsimp only [Pt.U, Pt.locs, Pt.cells, Pt.slots] at X17 l17 y17 z17 st17 hQ17
    subst l17 y17 z17
    obtain ⟨rfl, N17q, K17, fe17, fl17, fx17⟩ := hQ17
    have N17 := Fr.app N16 N17q
    refine own_steps st17 ?_
    have f18 := Nat.le_trans f12 K17.1
    have f19 := fe11.keep K17
    show own_Fin p.tables e below _ (T17.setTop (mkF m 60 #[.val (.int k0), .val (.int k1), .val (.int k2), .val (.int k3), .val (.int k4), .val (.int y4), .val (.int r5), .val (.int r6), .val (.ref b7), .unset, .unset, .unset, .unset, .unset, .unset] []))
    refine own_step (fun _ k => XS.aload X17.here hx rfl (hb hby at_60) rfl rfl k) ?_
    show own_Fin p.tables e below _ (T17.setTop (mkF m 62 #[.val (.int k0), .val (.int k1), .val (.int k2), .val (.int k3), .val (.int k4), .val (.int y4), .val (.int r5), .val (.int r6), .val (.ref b7), .unset, .unset, .unset, .unset, .unset, .unset] [(.ref b7)]))
    obtain ⟨cq22, kq22, q22a, q22b, q22c⟩ := isOf hZ rfl fe17
    obtain ⟨_, _, ⟨T22, L22, k22, n22⟩, -, X22, ⟨Lc22, hQ22, l22, y22, z22⟩, st22⟩ := X17.virtualBack hx (y := (⟨"com/example/streamgist/streamgist/paths/DocumentText$Lines", "line", "()J"⟩ : MethodName)) (z := (⟨"com/example/streamgist/streamgist/paths/DocumentText$Lines", "line", "()J"⟩ : MethodName)) hown (mvT hZ (hw _ (List.mem_of_getElem? (i := 17) rfl))) (mvT hZ (hw _ (List.mem_of_getElem? (i := 18) rfl))) (notFace_of_selects (args := #[]) (mvT hZ (hw _ (List.mem_of_getElem? (i := 20) rfl)))) (mvT hZ (hw _ (List.mem_of_getElem? (i := 20) rfl))) (mvT hZ (hw _ (List.mem_of_getElem? (i := 19) rfl))) (by decide) (backOf (W := 0) (rm4 l Z a0 hw [] b7 ((1 : Int64) + own_ends r5 r6 y4) T17.heap n0 f18 fl17) hZ (hw _ (List.mem_of_getElem? (i := 21) rfl)) (hw _ (List.mem_of_getElem? (i := 6) rfl)) (by decide) (by decide)) q22a q22c (g := (mkF m 62 #[.val (.int k0), .val (.int k1), .val (.int k2), .val (.int k3), .val (.int k4), .val (.int y4), .val (.int r5), .val (.int r6), .val (.ref b7), .unset, .unset, .unset, .unset, .unset, .unset] [(.ref b7)])) rfl (by rw [hml]; rfl) (Steps.refl _) (argsL := []) (rest := []) (lenOf pd_2 rfl) rfl (by show 2 * 0 + _ ≤ _; exact Nat.le_of_eq rfl) (hb hby at_62) (fun _ _ => ⟨rfl, rfl, (by decide : 1 + 0 ≤ _), (by decide : 2 + 0 ≤ _)⟩)
    dsimp only [Pt.U, Pt.locs, Pt.cells, Pt.slots] at X22 l22 y22 z22 st22 hQ22
    subst l22 y22 z22
    obtain ⟨rfl, N22q, e22⟩ := hQ22
    have N22 := Fr.app N17 N22q
    refine own_steps st22 ?_
    show own_Fin p.tables e below _ (T22.setTop (mkF m 65 #[.val (.int k0), .val (.int k1), .val (.int k2), .val (.int k3), .val (.int k4), .val (.int y4), .val (.int r5), .val (.int r6), .val (.ref b7), .unset, .unset, .unset, .unset, .unset, .unset] [(.long ((1 : Int64) + own_ends r5 r6 y4))]))
    refine own_step (fun _ k => XS.lstore X22.here hx rfl (hb hby at_65) rfl (l' := #[.val (.int k0), .val (.int k1), .val (.int k2), .val (.int k3), .val (.int k4), .val (.int y4), .val (.int r5), .val (.int r6), .val (.ref b7), .val (.long ((1 : Int64) + own_ends r5 r6 y4)), .second, .unset, .unset, .unset, .unset]) rfl k) ?_
    show own_Fin p.tables e below _ (T22.setTop (mkF m 67 #[.val (.int k0), .val (.int k1), .val (.int k2), .val (.int k3), .val (.int k4), .val (.int y4), .val (.int r5), .val (.int r6), .val (.ref b7), .val (.long ((1 : Int64) + own_ends r5 r6 y4)), .second, .unset, .unset, .unset, .unset] []))
    refine own_step (fun _ k => XS.aload X22.here hx rfl (hb hby at_67) rfl rfl k) ?_
    show own_Fin p.tables e below _ (T22.setTop (mkF m 69 #[.val (.int k0), .val (.int k1), .val (.int k2), .val (.int k3), .val (.int k4), .val (.int y4), .val (.int r5), .val (.int r6), .val (.ref b7), .val (.long ((1 : Int64) + own_ends r5 r6 y4)), .second, .unset, .unset, .unset, .unset] [(.ref b7)]))
    refine own_step (fun _ k => XS.iload X22.here hx rfl (hb hby at_69) rfl k) ?_
    show own_Fin p.tables e below _ (T22.setTop (mkF m 71 #[.val (.int k0), .val (.int k1), .val (.int k2), .val (.int k3), .val (.int k4), .val (.int y4), .val (.int r5), .val (.int r6), .val (.ref b7), .val (.long ((1 : Int64) + own_ends r5 r6 y4)), .second, .unset, .unset, .unset, .unset] [(.int r5), (.ref b7)]))
    refine own_step (fun _ k => XS.iload X22.here hx rfl (hb hby at_71) rfl k) ?_
    show own_Fin p.tables e below _ (T22.setTop (mkF m 73 #[.val (.int k0), .val (.int k1), .val (.int k2), .val (.int k3), .val (.int k4), .val (.int y4), .val (.int r5), .val (.int r6), .val (.ref b7), .val (.long ((1 : Int64) + own_ends r5 r6 y4)), .second, .unset, .unset, .unset, .unset] [(.int r6), (.int r5), (.ref b7)]))
    obtain ⟨cq23, kq23, q23a, q23b, q23c⟩ := isOf hZ e22 fe17
    obtain ⟨_, _, ⟨T23, L23, k23, n23⟩, -, X23, ⟨Lc23, hQ23, l23, y23, z23⟩, st23⟩ := X22.virtualBack hx (y := (⟨"com/example/streamgist/streamgist/paths/DocumentText$Lines", "count", "(CC)V"⟩ : MethodName)) (z := (⟨"com/example/streamgist/streamgist/paths/DocumentText$Lines", "count", "(CC)V"⟩ : MethodName)) hown (mvT hZ (hw _ (List.mem_of_getElem? (i := 22) rfl))) (mvT hZ (hw _ (List.mem_of_getElem? (i := 23) rfl))) (notFace_of_selects (args := #[]) (mvT hZ (hw _ (List.mem_of_getElem? (i := 25) rfl)))) (mvT hZ (hw _ (List.mem_of_getElem? (i := 25) rfl))) (mvT hZ (hw _ (List.mem_of_getElem? (i := 24) rfl))) (by decide) (backOf (W := 0) (rm5 l Z a0 hw [] b7 r5 r6 ((1 : Int64) + own_ends r5 r6 y4) y4 T17.heap n0 f18 fl17 fx17 fe17 g_b7) hZ (hw _ (List.mem_of_getElem? (i := 26) rfl)) (hw _ (List.mem_of_getElem? (i := 6) rfl)) (by decide) (by decide)) q23a q23c (g := (mkF m 73 #[.val (.int k0), .val (.int k1), .val (.int k2), .val (.int k3), .val (.int k4), .val (.int y4), .val (.int r5), .val (.int r6), .val (.ref b7), .val (.long ((1 : Int64) + own_ends r5 r6 y4)), .second, .unset, .unset, .unset, .unset] [(.int r6), (.int r5), (.ref b7)])) rfl (by rw [hml]; rfl) (Steps.refl _) (argsL := [(.int r5), (.int r6)]) (rest := []) (lenOf pd_3 rfl) rfl (by show 2 * 0 + _ ≤ _; exact Nat.le_of_eq rfl) (hb hby at_73) (fun _ _ => ⟨rfl, e22, (by decide : 1 + 0 ≤ _), (by decide : 2 + 0 ≤ _)⟩)
    dsimp only [Pt.U, Pt.locs, Pt.cells, Pt.slots] at X23 l23 y23 z23 st23 hQ23
    subst l23 y23 z23
    obtain ⟨rfl, N23q, K23, fe23, fl23, fx23⟩ := hQ23
    have N23 := Fr.app N22 N23q
    refine own_steps st23 ?_
    have f24 := Nat.le_trans f18 K23.1
    have f25 := fe17.keep K23
    show own_Fin p.tables e below _ (T23.setTop (mkF m 76 #[.val (.int k0), .val (.int k1), .val (.int k2), .val (.int k3), .val (.int k4), .val (.int y4), .val (.int r5), .val (.int r6), .val (.ref b7), .val (.long ((1 : Int64) + own_ends r5 r6 y4)), .second, .unset, .unset, .unset, .unset] []))
    refine own_step (fun _ k => XS.aload X23.here hx rfl (hb hby at_76) rfl rfl k) ?_
    show own_Fin p.tables e below _ (T23.setTop (mkF m 78 #[.val (.int k0), .val (.int k1), .val (.int k2), .val (.int k3), .val (.int k4), .val (.int y4), .val (.int r5), .val (.int r6), .val (.ref b7), .val (.long ((1 : Int64) + own_ends r5 r6 y4)), .second, .unset, .unset, .unset, .unset] [(.ref b7)]))
    obtain ⟨cq28, kq28, q28a, q28b, q28c⟩ := isOf hZ rfl fe23
    obtain ⟨_, _, ⟨T28, L28, k28, n28⟩, -, X28, ⟨Lc28, hQ28, l28, y28, z28⟩, st28⟩ := X23.virtualBack hx (y := (⟨"com/example/streamgist/streamgist/paths/DocumentText$Lines", "line", "()J"⟩ : MethodName)) (z := (⟨"com/example/streamgist/streamgist/paths/DocumentText$Lines", "line", "()J"⟩ : MethodName)) hown (mvT hZ (hw _ (List.mem_of_getElem? (i := 17) rfl))) (mvT hZ (hw _ (List.mem_of_getElem? (i := 18) rfl))) (notFace_of_selects (args := #[]) (mvT hZ (hw _ (List.mem_of_getElem? (i := 20) rfl)))) (mvT hZ (hw _ (List.mem_of_getElem? (i := 20) rfl))) (mvT hZ (hw _ (List.mem_of_getElem? (i := 19) rfl))) (by decide) (backOf (W := 0) (rm4 l Z a0 hw [] b7 (((1 : Int64) + own_ends r5 r6 y4) + own_ends r5 r6 y4) T23.heap n0 f24 fl23) hZ (hw _ (List.mem_of_getElem? (i := 21) rfl)) (hw _ (List.mem_of_getElem? (i := 6) rfl)) (by decide) (by decide)) q28a q28c (g := (mkF m 78 #[.val (.int k0), .val (.int k1), .val (.int k2), .val (.int k3), .val (.int k4), .val (.int y4), .val (.int r5), .val (.int r6), .val (.ref b7), .val (.long ((1 : Int64) + own_ends r5 r6 y4)), .second, .unset, .unset, .unset, .unset] [(.ref b7)])) rfl (by rw [hml]; rfl) (Steps.refl _) (argsL := []) (rest := []) (lenOf pd_2 rfl) rfl (by show 2 * 0 + _ ≤ _; exact Nat.le_of_eq rfl) (hb hby at_78) (fun _ _ => ⟨rfl, rfl, (by decide : 1 + 0 ≤ _), (by decide : 2 + 0 ≤ _)⟩)
    dsimp only [Pt.U, Pt.locs, Pt.cells, Pt.slots] at X28 l28 y28 z28 st28 hQ28
    subst l28 y28 z28
    obtain ⟨rfl, N28q, e28⟩ := hQ28
    have N28 := Fr.app N23 N28q
    refine own_steps st28 ?_
    show own_Fin p.tables e below _ (T28.setTop (mkF m 81 #[.val (.int k0), .val (.int k1), .val (.int k2), .val (.int k3), .val (.int k4), .val (.int y4), .val (.int r5), .val (.int r6), .val (.ref b7), .val (.long ((1 : Int64) + own_ends r5 r6 y4)), .second, .unset, .unset, .unset, .unset] [(.long (((1 : Int64) + own_ends r5 r6 y4) + own_ends r5 r6 y4))]))
    refine own_step (fun _ k => XS.lstore X28.here hx rfl (hb hby at_81) rfl (l' := #[.val (.int k0), .val (.int k1), .val (.int k2), .val (.int k3), .val (.int k4), .val (.int y4), .val (.int r5), .val (.int r6), .val (.ref b7), .val (.long ((1 : Int64) + own_ends r5 r6 y4)), .second, .val (.long (((1 : Int64) + own_ends r5 r6 y4) + own_ends r5 r6 y4)), .second, .unset, .unset]) rfl k) ?_
    show own_Fin p.tables e below _ (T28.setTop (mkF m 83 #[.val (.int k0), .val (.int k1), .val (.int k2), .val (.int k3), .val (.int k4), .val (.int y4), .val (.int r5), .val (.int r6), .val (.ref b7), .val (.long ((1 : Int64) + own_ends r5 r6 y4)), .second, .val (.long (((1 : Int64) + own_ends r5 r6 y4) + own_ends r5 r6 y4)), .second, .unset, .unset] []))
    refine own_step (fun _ k => XS.iload X28.here hx rfl (hb hby at_83) rfl k) ?_
    show own_Fin p.tables e below _ (T28.setTop (mkF m 85 #[.val (.int k0), .val (.int k1), .val (.int k2), .val (.int k3), .val (.int k4), .val (.int y4), .val (.int r5), .val (.int r6), .val (.ref b7), .val (.long ((1 : Int64) + own_ends r5 r6 y4)), .second, .val (.long (((1 : Int64) + own_ends r5 r6 y4) + own_ends r5 r6 y4)), .second, .unset, .unset] [(.int r5)]))
    refine own_step (fun _ k => XS.iload X28.here hx rfl (hb hby at_85) rfl k) ?_
    show own_Fin p.tables e below _ (T28.setTop (mkF m 87 #[.val (.int k0), .val (.int k1), .val (.int k2), .val (.int k3), .val (.int k4), .val (.int y4), .val (.int r5), .val (.int r6), .val (.ref b7), .val (.long ((1 : Int64) + own_ends r5 r6 y4)), .second, .val (.long (((1 : Int64) + own_ends r5 r6 y4) + own_ends r5 r6 y4)), .second, .unset, .unset] [(.int r6), (.int r5)]))
    refine own_step (fun _ k => XS.iload X28.here hx rfl (hb hby at_87) rfl k) ?_
    show own_Fin p.tables e below _ (T28.setTop (mkF m 89 #[.val (.int k0), .val (.int k1), .val (.int k2), .val (.int k3), .val (.int k4), .val (.int y4), .val (.int r5), .val (.int r6), .val (.ref b7), .val (.long ((1 : Int64) + own_ends r5 r6 y4)), .second, .val (.long (((1 : Int64) + own_ends r5 r6 y4) + own_ends r5 r6 y4)), .second, .unset, .unset] [(.int y4), (.int r6), (.int r5)]))
    obtain ⟨_, _, ⟨T29, L29, k29, n29⟩, -, X29, ⟨Lc29, hQ29, l29, y29, z29⟩, st29⟩ := Jvm.LawKit.callS X28 hx (y := (⟨"com/example/streamgist/streamgist/paths/LinesCountPinLaw", "endsLine", "(CCZ)Z"⟩ : MethodName)) hown (mvT hZ (hw _ (List.mem_of_getElem? (i := 27) rfl))) (mvT hZ (hw _ (List.mem_of_getElem? (i := 28) rfl))) (mvT hZ (hw _ (List.mem_of_getElem? (i := 2) rfl))) (mvT hZ (hw _ (List.mem_of_getElem? (i := 29) rfl))) (by decide) (backOf (W := 0) (rm6 l Z a0 hw [] r5 r6 y4  T23.heap n0 f24 ) hZ (hw _ (List.mem_of_getElem? (i := 29) rfl)) (hw _ (List.mem_of_getElem? (i := 2) rfl)) (by decide) (by decide)) (g := (mkF m 89 #[.val (.int k0), .val (.int k1), .val (.int k2), .val (.int k3), .val (.int k4), .val (.int y4), .val (.int r5), .val (.int r6), .val (.ref b7), .val (.long ((1 : Int64) + own_ends r5 r6 y4)), .second, .val (.long (((1 : Int64) + own_ends r5 r6 y4) + own_ends r5 r6 y4)), .second, .unset, .unset] [(.int y4), (.int r6), (.int r5)])) rfl (by rw [hml]; rfl) (argsL := [(.int r5), (.int r6), (.int y4)]) (rest := []) (lenOf pd_4 rfl) rfl (by show 2 * 0 + _ ≤ _; exact Nat.le_of_eq rfl) (hb hby at_89) (fun _ _ => ⟨rfl, e28, (by decide : 1 + 0 ≤ _), (by decide : 2 + 0 ≤ _)⟩)
    dsimp only [Pt.U, Pt.locs, Pt.cells, Pt.slots] at X29 l29 y29 z29 st29 hQ29
    subst l29 y29 z29
    obtain ⟨rfl, N29q, e29⟩ := hQ29
    have N29 := Fr.app N28 N29q
    refine own_step st29 ?_
    show own_Fin p.tables e below _ (T29.setTop (mkF m 92 #[.val (.int k0), .val (.int k1), .val (.int k2), .val (.int k3), .val (.int k4), .val (.int y4), .val (.int r5), .val (.int r6), .val (.ref b7), .val (.long ((1 : Int64) + own_ends r5 r6 y4)), .second, .val (.long (((1 : Int64) + own_ends r5 r6 y4) + own_ends r5 r6 y4)), .second, .unset, .unset] [(.int (own_endI r5 r6 y4))]))
    have J31 : ∀ (T32 : State) (locs32 : List Loc) (y33 : Int64) (X32 : Stand p l e room_1 s m #[(.int k0), (.int k1), (.int k2), (.int k3), (.int k4)] below meth c T32 locs32 1 2) (e32 : T32.heap = T23.heap) (N32 : Fr n0 locs32) (gy33 : y33 = (if (own_endI r5 r6 y4) = (0 : Int32) then (0 : Int64) else (1 : Int64))), own_Fin p.tables e below (P0 Z k0 k1 k2 k3 k4 h0 n0 s) (T32.setTop (mkF m 100 #[.val (.int k0), .val (.int k1), .val (.int k2), .val (.int k3), .val (.int k4), .val (.int y4), .val (.int r5), .val (.int r6), .val (.ref b7), .val (.long ((1 : Int64) + own_ends r5 r6 y4)), .second, .val (.long (((1 : Int64) + own_ends r5 r6 y4) + own_ends r5 r6 y4)), .second, .unset, .unset] [(.long y33)])) := by
      intro T32 locs32 y33 X32 e32 N32 gy33
      refine own_step (fun _ k => XS.lstore X32.here hx rfl (hb hby at_100) rfl (l' := #[.val (.int k0), .val (.int k1), .val (.int k2), .val (.int k3), .val (.int k4), .val (.int y4), .val (.int r5), .val (.int r6), .val (.ref b7), .val (.long ((1 : Int64) + own_ends r5 r6 y4)), .second, .val (.long (((1 : Int64) + own_ends r5 r6 y4) + own_ends r5 r6 y4)), .second, .val (.long y33), .second]) rfl k) ?_
      show own_Fin p.tables e below _ (T32.setTop (mkF m 102 #[.val (.int k0), .val (.int k1), .val (.int k2), .val (.int k3), .val (.int k4), .val (.int y4), .val (.int r5), .val (.int r6), .val (.ref b7), .val (.long ((1 : Int64) + own_ends r5 r6 y4)), .second, .val (.long (((1 : Int64) + own_ends r5 r6 y4) + own_ends r5 r6 y4)), .second, .val (.long y33), .second] []))
      refine own_step (fun _ k => XS.lload X32.here hx rfl (hb hby at_102) rfl k) ?_
      show own_Fin p.tables e below _ (T32.setTop (mkF m 104 #[.val (.int k0), .val (.int k1), .val (.int k2), .val (.int k3), .val (.int k4), .val (.int y4), .val (.int r5), .val (.int r6), .val (.ref b7), .val (.long ((1 : Int64) + own_ends r5 r6 y4)), .second, .val (.long (((1 : Int64) + own_ends r5 r6 y4) + own_ends r5 r6 y4)), .second, .val (.long y33), .second] [(.long ((1 : Int64) + own_ends r5 r6 y4))]))
      refine own_step (fun _ k => XS.lconst X32.here hx rfl (hb hby at_104) k) ?_
      show own_Fin p.tables e below _ (T32.setTop (mkF m 105 #[.val (.int k0), .val (.int k1), .val (.int k2), .val (.int k3), .val (.int k4), .val (.int y4), .val (.int r5), .val (.int r6), .val (.ref b7), .val (.long ((1 : Int64) + own_ends r5 r6 y4)), .second, .val (.long (((1 : Int64) + own_ends r5 r6 y4) + own_ends r5 r6 y4)), .second, .val (.long y33), .second] [(.long (1 : Int64)), (.long ((1 : Int64) + own_ends r5 r6 y4))]))
      refine own_step (fun _ k => XS.lload X32.here hx rfl (hb hby at_105) rfl k) ?_
      show own_Fin p.tables e below _ (T32.setTop (mkF m 107 #[.val (.int k0), .val (.int k1), .val (.int k2), .val (.int k3), .val (.int k4), .val (.int y4), .val (.int r5), .val (.int r6), .val (.ref b7), .val (.long ((1 : Int64) + own_ends r5 r6 y4)), .second, .val (.long (((1 : Int64) + own_ends r5 r6 y4) + own_ends r5 r6 y4)), .second, .val (.long y33), .second] [(.long y33), (.long (1 : Int64)), (.long ((1 : Int64) + own_ends r5 r6 y4))]))
      refine own_step (fun _ k => XS.ladd X32.here hx rfl (hb hby at_107) rfl k) ?_
      show own_Fin p.tables e below _ (T32.setTop (mkF m 108 #[.val (.int k0), .val (.int k1), .val (.int k2), .val (.int k3), .val (.int k4), .val (.int y4), .val (.int r5), .val (.int r6), .val (.ref b7), .val (.long ((1 : Int64) + own_ends r5 r6 y4)), .second, .val (.long (((1 : Int64) + own_ends r5 r6 y4) + own_ends r5 r6 y4)), .second, .val (.long y33), .second] [(.long ((1 : Int64) + y33)), (.long ((1 : Int64) + own_ends r5 r6 y4))]))
      refine own_step (fun _ k => XS.lcmp X32.here hx rfl (hb hby at_108) rfl k) ?_
      show own_Fin p.tables e below _ (T32.setTop (mkF m 109 #[.val (.int k0), .val (.int k1), .val (.int k2), .val (.int k3), .val (.int k4), .val (.int y4), .val (.int r5), .val (.int r6), .val (.ref b7), .val (.long ((1 : Int64) + own_ends r5 r6 y4)), .second, .val (.long (((1 : Int64) + own_ends r5 r6 y4) + own_ends r5 r6 y4)), .second, .val (.long y33), .second] [(.int (lcmpW ((1 : Int64) + own_ends r5 r6 y4) ((1 : Int64) + y33)))]))
      have ha34 : ((1 : Int64) + own_ends r5 r6 y4) = ((1 : Int64) + y33) := by
        rw [own_rel] at gy33
        rw [gy33]
      refine own_step (fun _ k => XS.ifNo X32.here hx rfl (hb hby at_109) rfl ((if0 _ _).trans (teq ((lw_eq _ _).mpr ha34)).2) k) ?_
      show own_Fin p.tables e below _ (T32.setTop (mkF m 112 #[.val (.int k0), .val (.int k1), .val (.int k2), .val (.int k3), .val (.int k4), .val (.int y4), .val (.int r5), .val (.int r6), .val (.ref b7), .val (.long ((1 : Int64) + own_ends r5 r6 y4)), .second, .val (.long (((1 : Int64) + own_ends r5 r6 y4) + own_ends r5 r6 y4)), .second, .val (.long y33), .second] []))
      refine own_step (fun _ k => XS.lload X32.here hx rfl (hb hby at_112) rfl k) ?_
      show own_Fin p.tables e below _ (T32.setTop (mkF m 114 #[.val (.int k0), .val (.int k1), .val (.int k2), .val (.int k3), .val (.int k4), .val (.int y4), .val (.int r5), .val (.int r6), .val (.ref b7), .val (.long ((1 : Int64) + own_ends r5 r6 y4)), .second, .val (.long (((1 : Int64) + own_ends r5 r6 y4) + own_ends r5 r6 y4)), .second, .val (.long y33), .second] [(.long (((1 : Int64) + own_ends r5 r6 y4) + own_ends r5 r6 y4))]))
      refine own_step (fun _ k => XS.lconst X32.here hx rfl (hb hby at_114) k) ?_
      show own_Fin p.tables e below _ (T32.setTop (mkF m 115 #[.val (.int k0), .val (.int k1), .val (.int k2), .val (.int k3), .val (.int k4), .val (.int y4), .val (.int r5), .val (.int r6), .val (.ref b7), .val (.long ((1 : Int64) + own_ends r5 r6 y4)), .second, .val (.long (((1 : Int64) + own_ends r5 r6 y4) + own_ends r5 r6 y4)), .second, .val (.long y33), .second] [(.long (1 : Int64)), (.long (((1 : Int64) + own_ends r5 r6 y4) + own_ends r5 r6 y4))]))
      refine own_step (X32.ldc2Long hx hown (mvT hZ (hw _ (List.mem_of_getElem? (i := 30) rfl))) (g := (mkF m 115 #[.val (.int k0), .val (.int k1), .val (.int k2), .val (.int k3), .val (.int k4), .val (.int y4), .val (.int r5), .val (.int r6), .val (.ref b7), .val (.long ((1 : Int64) + own_ends r5 r6 y4)), .second, .val (.long (((1 : Int64) + own_ends r5 r6 y4) + own_ends r5 r6 y4)), .second, .val (.long y33), .second] [(.long (1 : Int64)), (.long (((1 : Int64) + own_ends r5 r6 y4) + own_ends r5 r6 y4))])) rfl (hb hby at_115)) ?_
      show own_Fin p.tables e below _ (T32.setTop (mkF m 118 #[.val (.int k0), .val (.int k1), .val (.int k2), .val (.int k3), .val (.int k4), .val (.int y4), .val (.int r5), .val (.int r6), .val (.ref b7), .val (.long ((1 : Int64) + own_ends r5 r6 y4)), .second, .val (.long (((1 : Int64) + own_ends r5 r6 y4) + own_ends r5 r6 y4)), .second, .val (.long y33), .second] [(.long (2 : Int64)), (.long (1 : Int64)), (.long (((1 : Int64) + own_ends r5 r6 y4) + own_ends r5 r6 y4))]))
      refine own_step (fun _ k => XS.lload X32.here hx rfl (hb hby at_118) rfl k) ?_
      show own_Fin p.tables e below _ (T32.setTop (mkF m 120 #[.val (.int k0), .val (.int k1), .val (.int k2), .val (.int k3), .val (.int k4), .val (.int y4), .val (.int r5), .val (.int r6), .val (.ref b7), .val (.long ((1 : Int64) + own_ends r5 r6 y4)), .second, .val (.long (((1 : Int64) + own_ends r5 r6 y4) + own_ends r5 r6 y4)), .second, .val (.long y33), .second] [(.long y33), (.long (2 : Int64)), (.long (1 : Int64)), (.long (((1 : Int64) + own_ends r5 r6 y4) + own_ends r5 r6 y4))]))
      refine own_step (fun _ k => XS.lmul X32.here hx rfl (hb hby at_120) rfl k) ?_
      show own_Fin p.tables e below _ (T32.setTop (mkF m 121 #[.val (.int k0), .val (.int k1), .val (.int k2), .val (.int k3), .val (.int k4), .val (.int y4), .val (.int r5), .val (.int r6), .val (.ref b7), .val (.long ((1 : Int64) + own_ends r5 r6 y4)), .second, .val (.long (((1 : Int64) + own_ends r5 r6 y4) + own_ends r5 r6 y4)), .second, .val (.long y33), .second] [(.long ((2 : Int64) * y33)), (.long (1 : Int64)), (.long (((1 : Int64) + own_ends r5 r6 y4) + own_ends r5 r6 y4))]))
      refine own_step (fun _ k => XS.ladd X32.here hx rfl (hb hby at_121) rfl k) ?_
      show own_Fin p.tables e below _ (T32.setTop (mkF m 122 #[.val (.int k0), .val (.int k1), .val (.int k2), .val (.int k3), .val (.int k4), .val (.int y4), .val (.int r5), .val (.int r6), .val (.ref b7), .val (.long ((1 : Int64) + own_ends r5 r6 y4)), .second, .val (.long (((1 : Int64) + own_ends r5 r6 y4) + own_ends r5 r6 y4)), .second, .val (.long y33), .second] [(.long ((1 : Int64) + ((2 : Int64) * y33))), (.long (((1 : Int64) + own_ends r5 r6 y4) + own_ends r5 r6 y4))]))
      refine own_step (fun _ k => XS.lcmp X32.here hx rfl (hb hby at_122) rfl k) ?_
      show own_Fin p.tables e below _ (T32.setTop (mkF m 123 #[.val (.int k0), .val (.int k1), .val (.int k2), .val (.int k3), .val (.int k4), .val (.int y4), .val (.int r5), .val (.int r6), .val (.ref b7), .val (.long ((1 : Int64) + own_ends r5 r6 y4)), .second, .val (.long (((1 : Int64) + own_ends r5 r6 y4) + own_ends r5 r6 y4)), .second, .val (.long y33), .second] [(.int (lcmpW (((1 : Int64) + own_ends r5 r6 y4) + own_ends r5 r6 y4) ((1 : Int64) + ((2 : Int64) * y33))))]))
      have ha35 : (((1 : Int64) + own_ends r5 r6 y4) + own_ends r5 r6 y4) = ((1 : Int64) + ((2 : Int64) * y33)) := by
        rw [own_rel] at gy33
        rw [gy33]
        generalize own_ends _ _ _ = E
        apply Int64.toBitVec_inj.mp; simp only [Int64.toBitVec_add, Int64.toBitVec_mul]; have : (2 : Int64).toBitVec = 2#64 := rfl; rw [this, BitVec.two_mul, BitVec.add_assoc]
      refine own_step (fun _ k => XS.ifNo X32.here hx rfl (hb hby at_123) rfl ((if0 _ _).trans (teq ((lw_eq _ _).mpr ha35)).2) k) ?_
      show own_Fin p.tables e below _ (T32.setTop (mkF m 126 #[.val (.int k0), .val (.int k1), .val (.int k2), .val (.int k3), .val (.int k4), .val (.int y4), .val (.int r5), .val (.int r6), .val (.ref b7), .val (.long ((1 : Int64) + own_ends r5 r6 y4)), .second, .val (.long (((1 : Int64) + own_ends r5 r6 y4) + own_ends r5 r6 y4)), .second, .val (.long y33), .second] []))
      refine own_step (fun _ k => XS.iconst X32.here hx rfl (hb hby at_126) k) ?_
      show own_Fin p.tables e below _ (T32.setTop (mkF m 127 #[.val (.int k0), .val (.int k1), .val (.int k2), .val (.int k3), .val (.int k4), .val (.int y4), .val (.int r5), .val (.int r6), .val (.ref b7), .val (.long ((1 : Int64) + own_ends r5 r6 y4)), .second, .val (.long (((1 : Int64) + own_ends r5 r6 y4) + own_ends r5 r6 y4)), .second, .val (.long y33), .second] [(.int (1 : Int32))]))
      refine own_step (fun _ k => XS.goto X32.here hx rfl (pc0 := 127) (pc' := 131) rfl (hb hby at_127) (by decide) (by decide) k) ?_
      show own_Fin p.tables e below _ (T32.setTop (mkF m 131 #[.val (.int k0), .val (.int k1), .val (.int k2), .val (.int k3), .val (.int k4), .val (.int y4), .val (.int r5), .val (.int r6), .val (.ref b7), .val (.long ((1 : Int64) + own_ends r5 r6 y4)), .second, .val (.long (((1 : Int64) + own_ends r5 r6 y4) + own_ends r5 r6 y4)), .second, .val (.long y33), .second] [(.int (1 : Int32))]))
      obtain ⟨fs36, hr36, hrun36, hended36, hW36, hsame36⟩ := X32.leave (v := some (.int (nar .boolean (1 : Int32)))) (fun h => by rw [Bd.returns] at h; cases h)
      refine own_ret (retN X32 hx (t := .boolean) Bd.returns (by simp) (hb hby at_131) hr36) hrun36 hended36 ?_
      refine ⟨_, _, rfl, ?_, ⟨_, rfl⟩, hW36, hsame36.mono (by decide) (by decide)⟩
      show Q0 Z k0 k1 k2 k3 k4 h0 n0 _ T32.heap _
      rw [e32]
      exact ⟨rfl, N32⟩
    by_cases hc30 : (own_endI r5 r6 y4) = (0 : Int32)
    · refine own_step (fun _ k => XS.ifYes X29.here hx rfl (pc0 := 92) (pc' := 99) rfl (hb hby at_92) rfl ((if0 _ _).trans (teq hc30).1) (by decide) (by decide) k) ?_
      show own_Fin p.tables e below _ (T29.setTop (mkF m 99 #[.val (.int k0), .val (.int k1), .val (.int k2), .val (.int k3), .val (.int k4), .val (.int y4), .val (.int r5), .val (.int r6), .val (.ref b7), .val (.long ((1 : Int64) + own_ends r5 r6 y4)), .second, .val (.long (((1 : Int64) + own_ends r5 r6 y4) + own_ends r5 r6 y4)), .second, .unset, .unset] []))
      refine own_step (fun _ k => XS.lconst X29.here hx rfl (hb hby at_99) k) ?_
      show own_Fin p.tables e below _ (T29.setTop (mkF m 100 #[.val (.int k0), .val (.int k1), .val (.int k2), .val (.int k3), .val (.int k4), .val (.int y4), .val (.int r5), .val (.int r6), .val (.ref b7), .val (.long ((1 : Int64) + own_ends r5 r6 y4)), .second, .val (.long (((1 : Int64) + own_ends r5 r6 y4) + own_ends r5 r6 y4)), .second, .unset, .unset] [(.long (0 : Int64))]))
      exact J31 T29 _ (0 : Int64) X29 e29 N29 (by rw [if_pos hc30])
    · refine own_step (fun _ k => XS.ifNo X29.here hx rfl (hb hby at_92) rfl ((if0 _ _).trans (feq hc30).1) k) ?_
      show own_Fin p.tables e below _ (T29.setTop (mkF m 95 #[.val (.int k0), .val (.int k1), .val (.int k2), .val (.int k3), .val (.int k4), .val (.int y4), .val (.int r5), .val (.int r6), .val (.ref b7), .val (.long ((1 : Int64) + own_ends r5 r6 y4)), .second, .val (.long (((1 : Int64) + own_ends r5 r6 y4) + own_ends r5 r6 y4)), .second, .unset, .unset] []))
      refine own_step (fun _ k => XS.lconst X29.here hx rfl (hb hby at_95) k) ?_
      show own_Fin p.tables e below _ (T29.setTop (mkF m 96 #[.val (.int k0), .val (.int k1), .val (.int k2), .val (.int k3), .val (.int k4), .val (.int y4), .val (.int r5), .val (.int r6), .val (.ref b7), .val (.long ((1 : Int64) + own_ends r5 r6 y4)), .second, .val (.long (((1 : Int64) + own_ends r5 r6 y4) + own_ends r5 r6 y4)), .second, .unset, .unset] [(.long (1 : Int64))]))
      refine own_step (fun _ k => XS.goto X29.here hx rfl (pc0 := 96) (pc' := 100) rfl (hb hby at_96) (by decide) (by decide) k) ?_
      show own_Fin p.tables e below _ (T29.setTop (mkF m 100 #[.val (.int k0), .val (.int k1), .val (.int k2), .val (.int k3), .val (.int k4), .val (.int y4), .val (.int r5), .val (.int r6), .val (.ref b7), .val (.long ((1 : Int64) + own_ends r5 r6 y4)), .second, .val (.long (((1 : Int64) + own_ends r5 r6 y4) + own_ends r5 r6 y4)), .second, .unset, .unset] [(.long (1 : Int64))]))
      exact J31 T29 _ (1 : Int64) X29 e29 N29 (by rw [if_neg hc30])
  by_cases hc1 : (k0 &&& (1 : Int32)) = (0 : Int32)
  · refine own_step (fun _ k => XS.ifYes X0.here hx rfl (pc0 := 3) (pc' := 10) rfl (hb hby at_3) rfl ((if0 _ _).trans (teq hc1).1) (by decide) (by decide) k) ?_
    show own_Fin p.tables e below _ (s₁.setTop (mkF m 10 #[.val (.int k0), .val (.int k1), .val (.int k2), .val (.int k3), .val (.int k4), .unset, .unset, .unset, .unset, .unset, .unset, .unset, .unset, .unset, .unset] []))
    refine own_step (fun _ k => XS.iconst X0.here hx rfl (hb hby at_10) k) ?_
    show own_Fin p.tables e below _ (s₁.setTop (mkF m 11 #[.val (.int k0), .val (.int k1), .val (.int k2), .val (.int k3), .val (.int k4), .unset, .unset, .unset, .unset, .unset, .unset, .unset, .unset, .unset, .unset] [(.int (0 : Int32))]))
    exact J2 s₁ _ (0 : Int32) X0 e0 N0 (by rw [if_pos hc1])
  · refine own_step (fun _ k => XS.ifNo X0.here hx rfl (hb hby at_3) rfl ((if0 _ _).trans (feq hc1).1) k) ?_
    show own_Fin p.tables e below _ (s₁.setTop (mkF m 6 #[.val (.int k0), .val (.int k1), .val (.int k2), .val (.int k3), .val (.int k4), .unset, .unset, .unset, .unset, .unset, .unset, .unset, .unset, .unset, .unset] []))
    refine own_step (fun _ k => XS.iconst X0.here hx rfl (hb hby at_6) k) ?_
    show own_Fin p.tables e below _ (s₁.setTop (mkF m 7 #[.val (.int k0), .val (.int k1), .val (.int k2), .val (.int k3), .val (.int k4), .unset, .unset, .unset, .unset, .unset, .unset, .unset, .unset, .unset, .unset] [(.int (1 : Int32))]))
    refine own_step (fun _ k => XS.goto X0.here hx rfl (pc0 := 7) (pc' := 11) rfl (hb hby at_7) (by decide) (by decide) k) ?_
    show own_Fin p.tables e below _ (s₁.setTop (mkF m 11 #[.val (.int k0), .val (.int k1), .val (.int k2), .val (.int k3), .val (.int k4), .unset, .unset, .unset, .unset, .unset, .unset, .unset, .unset, .unset, .unset] [(.int (1 : Int32))]))
    exact J2 s₁ _ (1 : Int32) X0 e0 N0 (by rw [if_neg hc1])
set_option maxRecDepth 65536 in
set_option maxHeartbeats 40000000 in
theorem comes_1 {Post : Tables → Env → Array Value → State → Outcome → State → Prop} (hpost : ∀ tb e args s v u, (limb_1_1.after args s (.returned v) u = true ∧ limb_1_2.after args s (.returned v) u = true ∧ True) → FrameEnd s (.returned v) u (Jvm.fieldLocs frame_1_writes args s ++ Jvm.arrayLocs frame_1_arrays args s ++ Jvm.staticLocs frame_1_statics s) 16 128 → Post tb e args s (.returned v) u) :
    ArmFor flags0 classFile x code maxLocals ret World_1 tables_1 room_1 Calls_1 rest_1 Pre_1 Post := by
  intro l hfl _ _ p e ha hc hk s m args below hf hA hF happ hP
  obtain ⟨hcalls, hrest, hpre⟩ := hP
  obtain ⟨-, -, -, hnamed, -, -, -, hat⟩ := (Spec.applies_iff hf).mp happ
  obtain ⟨hg, hn⟩ := and_e (Cond.before_iff.mp (show (Jvm.Cond.and given_1 narrow_1).before args s = true from hpre))
  obtain ⟨g1, g2⟩ := and_e hg
  obtain ⟨g3, g4⟩ := and_e g2
  obtain ⟨g5, g6⟩ := and_e g4
  obtain ⟨g7, g8⟩ := and_e g6
  obtain ⟨g9, g10⟩ := and_e g8
  obtain ⟨w0, w1, w2, w3, w4, rfl⟩ : ∃ w0 w1 w2 w3 w4 : Value, args = #[w0, w1, w2, w3, w4] := by
    have hs : args.size = 5 := by simpa [Cond.value, given_1] using g1
    obtain ⟨L⟩ := args
    match L, hs with
    | [w0, w1, w2, w3, w4], _ => exact ⟨w0, w1, w2, w3, w4, rfl⟩
  have hw := fun d (hd : d ∈ tables_1) => atoms_spec (ws := Jvm.Cond.code x code maxLocals ret :: tables_1) hat d (List.mem_cons_of_mem _ hd)
  have hfit : Fit s := fun {y c} hc i hi => by
    obtain ⟨ha, rfl⟩ := Array.getElem?_eq_some_iff.mp hc
    have q := List.all_eq_true.mp ((Array.all_eq_true_iff_forall_mem.mp hF) _ (Array.getElem_mem ha)) i (List.mem_range.mpr hi)
    simpa [Array.getElem?_eq_getElem hi] using q
  obtain ⟨i0, ei0⟩ := is_v g3
  obtain rfl : w0 = (.int i0) := Option.some.inj ei0
  obtain ⟨i1, ei1⟩ := is_v g5
  obtain rfl : w1 = (.int i1) := Option.some.inj ei1
  obtain ⟨i2, ei2⟩ := is_v g7
  obtain rfl : w2 = (.int i2) := Option.some.inj ei2
  obtain ⟨i3, ei3⟩ := is_v g9
  obtain rfl : w3 = (.int i3) := Option.some.inj ei3
  obtain ⟨i4, ei4⟩ := is_v g10
  obtain rfl : w4 = (.int i4) := Option.some.inj ei4
  obtain ⟨n, o, h1, h2, h3, _, L, rfl, ⟨rfl, N⟩, hq⟩ := rm0 l s _ hw tables_1 i0 i1 i2 i3 i4 s.heap s.heap.size (Nat.le_refl _)  p e ha hc hk s m _ below hf ((Spec.applies_iff_loose hf).mp happ).1 ⟨rfl, State.Warmed39.refl s, rfl⟩ trivial
  refine ⟨n, _, h1, h2, h3, hpost _ _ _ _ _ _ ⟨Cond.after_iff.mpr rfl, Cond.after_iff.mpr (eq_i res_at (Term.int_eval (1)) rfl), trivial⟩ ⟨hq.1, hq.2.1, (hq.2.2.sift fun y hy => Or.inr (N y hy)).mono (by decide) (by decide)⟩⟩
theorem main_1_1 : Claimed_1_1 := comes_1 fun _ _ _ _ _ _ h hF => ⟨h.1, hF⟩
theorem main_1_2 : Claimed_1_2 := comes_1 fun _ _ _ _ _ _ h hF => ⟨h.2.1, hF⟩
end Jvm.Pilot.@@N@@
namespace Jvm.Pilot.@@N@@
open Jvm Jvm.ClassFile Sem Op Lib Jvm.Free Jvm.Stand Jvm.Pilot.@@N@@.Jvm.D
/-! MADE BY PROGRAM (witnessworld.py) out of the Statement's table words and the real class files: 9 classes; the members and pool entries that the words name. The judged class is class 1, her method 1. -/
namespace start1
open Jvm.ClassFile
def u (s : String) : CpInfo := .utf8 (stringToUtf16 s)
/-- a pool by its gaps: so many unusable entries, then the entry; so many at the end -/
def gap : Nat → List CpInfo → List CpInfo
  | 0, r => r
  | n + 1, r => .unusable :: gap n r
def poolList (es : List (Nat × CpInfo)) (last : Nat) : List CpInfo := es.foldr (fun e r => gap e.1 (e.2 :: r)) (gap last [])
def pool (es : List (Nat × CpInfo)) (last : Nat) : Array CpInfo := ⟨poolList es last⟩
def fileOf (pool : Array CpInfo) (this : Nat) (attrs : Array Attribute := #[]) (ms : Array MethodInfo := #[]) (fl : Nat := 33) (sup : Nat := 0) (ifs : Array Nat := #[]) (fds : Array FieldInfo := #[]) : ClassFile where
  minorVersion := 0
  majorVersion := 65
  constantPool := pool
  accessFlags := fl
  thisClass := this
  superClass := sup
  interfaces := ifs
  fields := fds
  methods := ms
  attributes := attrs
def plain (name : String) (sup : Option ClassId) : Class where
  name := name
  kind := .ordinary
  loader := none
  accessFlags := 33
  super := sup
  interfaces := #[]
  cf := none
  fields := #[]
  methods := #[]
  instanceTypes := #[]
  staticTypes := #[]
  resolved := #[]
  callSites := []
  init := .initialized
  statics := none
  mirror := none

def pool0 : Array CpInfo := pool [(5, u "<init>"), (0, u "()V"), (1, .class_ 10), (1, u "java/lang/Object")] 113

def k0c0 : Code := { maxStack := 0, maxLocals := 1, code := object_method_1_code, exceptionTable := #[], attributes := #[] }
def k0m0 : Method := { name := "<init>", desc := "()V", sig := { parameters := [], returnType := none }, accessFlags := 1, code := some k0c0 }
/-- java/lang/Object -/
def k0 : Class := { plain "java/lang/Object" none with
  accessFlags := 33
  interfaces := #[]
  cf := some (fileOf pool0 8 #[] #[{ accessFlags := 1, nameIndex := 5, descriptorIndex := 6, attributes := #[] }] 33 0 #[] #[])
  fields := #[]
  methods := #[k0m0]
  instanceTypes := #[]
  staticTypes := #[]
  resolved := Array.replicate 124 none
  statics := none }

def pool1 : Array CpInfo := pool [(2, .class_ 4), (1, u "java/lang/Object"), (0, u "<init>"), (0, u "()V"), (0, .methodref 8 9), (0, .class_ 10), (0, .nameAndType 11 12), (0, u "com/example/streamgist/streamgist/paths/LinesCountPinLaw"), (0, u "pick"), (0, u "(II)C"), (0, .class_ 14), (0, u "com/example/streamgist/streamgist/paths/DocumentText$Lines"), (0, .methodref 13 16), (0, .nameAndType 5 17), (0, u "(Z)V"), (0, .methodref 13 19), (0, .nameAndType 20 21), (0, u "line"), (0, u "()J"), (0, .methodref 13 23), (0, .nameAndType 24 25), (0, u "count"), (0, u "(CC)V"), (0, .methodref 8 27), (0, .nameAndType 28 29), (0, u "endsLine"), (0, u "(CCZ)Z"), (0, .long 2), (3, u "law"), (0, u "(IIIII)Z")] 7

def k1m0 : Method := { name := "<init>", desc := "()V", sig := { parameters := [], returnType := none }, accessFlags := 1, code := none }
def k1c1 : Code := { maxStack := 8, maxLocals := 15, code := code, exceptionTable := #[], attributes := #[] }
def k1m1 : Method := { name := "law", desc := "(IIIII)Z", sig := { parameters := [.int, .int, .int, .int, .int], returnType := some .boolean }, accessFlags := 9, code := some k1c1 }
def k1c2 : Code := { maxStack := 2, maxLocals := 3, code := method_3_code, exceptionTable := #[], attributes := #[] }
def k1m2 : Method := { name := "pick", desc := "(II)C", sig := { parameters := [.int, .int], returnType := some .char }, accessFlags := 10, code := some k1c2 }
def k1c3 : Code := { maxStack := 2, maxLocals := 3, code := method_4_code, exceptionTable := #[], attributes := #[] }
def k1m3 : Method := { name := "endsLine", desc := "(CCZ)Z", sig := { parameters := [.char, .char, .boolean], returnType := some .boolean }, accessFlags := 10, code := some k1c3 }
/-- com/example/streamgist/streamgist/paths/LinesCountPinLaw -/
def k1 : Class := { plain "com/example/streamgist/streamgist/paths/LinesCountPinLaw" (some 0) with
  accessFlags := 49
  interfaces := #[]
  cf := some (fileOf pool1 8 #[] #[{ accessFlags := 1, nameIndex := 5, descriptorIndex := 6, attributes := #[] }, { accessFlags := 9, nameIndex := 34, descriptorIndex := 35, attributes := #[] }, { accessFlags := 10, nameIndex := 11, descriptorIndex := 12, attributes := #[] }, { accessFlags := 10, nameIndex := 28, descriptorIndex := 29, attributes := #[] }] 49 2 #[] #[])
  fields := #[]
  methods := #[k1m0, k1m1, k1m2, k1m3]
  instanceTypes := #[]
  staticTypes := #[]
  resolved := Array.replicate 43 none
  statics := none }

def pool2 : Array CpInfo := pool [(1, .class_ 2), (0, u "com/example/streamgist/streamgist/paths/DocumentText"), (0, .methodref 4 5), (0, .class_ 6), (0, .nameAndType 7 8), (0, u "java/lang/Object"), (0, u "<init>"), (0, u "()V"), (0, .fieldref 10 11), (0, .class_ 12), (0, .nameAndType 13 14), (0, u "com/example/streamgist/streamgist/paths/DocumentText$Lines"), (0, u "line"), (0, u "J"), (0, .fieldref 10 16), (0, .nameAndType 17 18), (0, u "xml11"), (0, u "Z"), (0, u "NEXT_LINE"), (0, u "C"), (2, u "(Z)V"), (2, u "count"), (0, u "(CC)V"), (1, u "()J")] 5

def k2c0 : Code := { maxStack := 3, maxLocals := 2, code := prog_48_method_1_code, exceptionTable := #[], attributes := #[] }
def k2m0 : Method := { name := "<init>", desc := "(Z)V", sig := { parameters := [.boolean], returnType := none }, accessFlags := 0, code := some k2c0 }
def k2c1 : Code := { maxStack := 5, maxLocals := 3, code := prog_48_method_2_code, exceptionTable := #[], attributes := #[] }
def k2m1 : Method := { name := "count", desc := "(CC)V", sig := { parameters := [.char, .char], returnType := none }, accessFlags := 0, code := some k2c1 }
def k2c2 : Code := { maxStack := 2, maxLocals := 1, code := prog_48_method_3_code, exceptionTable := #[], attributes := #[] }
def k2m2 : Method := { name := "line", desc := "()J", sig := { parameters := [], returnType := some .long }, accessFlags := 0, code := some k2c2 }
/-- com/example/streamgist/streamgist/paths/DocumentText$Lines -/
def k2 : Class := { plain "com/example/streamgist/streamgist/paths/DocumentText$Lines" (some 0) with
  accessFlags := 48
  interfaces := #[]
  cf := some (fileOf pool2 10 #[.nestHost 1] #[{ accessFlags := 0, nameIndex := 7, descriptorIndex := 23, attributes := #[] }, { accessFlags := 0, nameIndex := 26, descriptorIndex := 27, attributes := #[] }, { accessFlags := 0, nameIndex := 13, descriptorIndex := 29, attributes := #[] }] 48 4 #[] #[{ accessFlags := 26, nameIndex := 19, descriptorIndex := 20, attributes := #[] }, { accessFlags := 18, nameIndex := 17, descriptorIndex := 18, attributes := #[] }, { accessFlags := 2, nameIndex := 13, descriptorIndex := 14, attributes := #[] }])
  fields := #[{ name := "NEXT_LINE", type := .char, accessFlags := 26, slot := 0, constantValue := 0 }, { name := "xml11", type := .boolean, accessFlags := 18, slot := 0, constantValue := 0 }, { name := "line", type := .long, accessFlags := 2, slot := 1, constantValue := 0 }]
  methods := #[k2m0, k2m1, k2m2]
  instanceTypes := #[.boolean, .long]
  staticTypes := #[.char]
  resolved := Array.replicate 35 none
  statics := none }

def pool3 : Array CpInfo := pool [(1, u "java/lang/Cloneable"), (0, .class_ 1), (0, u "java/lang/Object"), (0, .class_ 3)] 3

/-- java/lang/Cloneable -/
def k3 : Class := { plain "java/lang/Cloneable" (some 0) with
  accessFlags := 1537
  interfaces := #[]
  cf := some (fileOf pool3 2 #[] #[] 1537 4 #[] #[])
  fields := #[]
  methods := #[]
  instanceTypes := #[]
  staticTypes := #[]
  resolved := Array.replicate 8 none
  statics := none }

def pool4 : Array CpInfo := pool [(1, u "java/io/Serializable"), (0, .class_ 1), (0, u "java/lang/Object"), (0, .class_ 3)] 3

/-- java/io/Serializable -/
def k4 : Class := { plain "java/io/Serializable" (some 0) with
  accessFlags := 1537
  interfaces := #[]
  cf := some (fileOf pool4 2 #[] #[] 1537 4 #[] #[])
  fields := #[]
  methods := #[]
  instanceTypes := #[]
  staticTypes := #[]
  resolved := Array.replicate 8 none
  statics := none }

/-- the primitive byte -/
def k5 : Class := { plain "byte" none with kind := .primitive 'B', accessFlags := 0x411 }
/-- [B -/
def k6 : Class := { plain "[B" (some 0) with kind := .array 5 .byte, interfaces := #[3, 4], accessFlags := 1041 }

/-- the primitive int -/
def k7 : Class := { plain "int" none with kind := .primitive 'I', accessFlags := 0x411 }
/-- [I -/
def k8 : Class := { plain "[I" (some 0) with kind := .array 7 .int, interfaces := #[3, 4], accessFlags := 1041 }

def heap : Heap := #[]
def classes : Array Class := #[k0, k1, k2, k3, k4, k5, k6, k7, k8]
def interned : List (Array UInt16 × Addr) := []
def slotsUsed : Nat := 0
def theMethod : MethodId := ⟨1, 1⟩
def args0 : Array Value := #[.int 1, .int 2, .int 3, .int 4, .int 5]
def aboutOver (below : List Frame) : State where
  vm := { classes := classes, interned := interned.toArray }
  heap := heap
  slotsUsed := slotsUsed
  threads := #[{ frames := .invoking theMethod args0 :: below }]
def below0 : List Frame := [.native { method := ⟨0, 0⟩, args := #[] }]
def about1 : State := aboutOver below0
def p0 : Program := .bare "" "" ""
def e0 : Env := launch0.env 0 0 0
theorem w_frames : about1.frames = Frame.invoking theMethod args0 :: below0 := rfl
set_option maxRecDepth 65536 in
theorem w_args : argsFit about1.vm theMethod args0 = true := by decide +kernel
set_option maxRecDepth 65536 in
theorem w_heap : heapFits about1 = true := by decide +kernel
set_option maxRecDepth 65536 in
theorem w_runnable : about1.curStatus? = some .runnable := by decide +kernel
set_option maxRecDepth 65536 in
theorem w_alone : about1.alone = true := by decide +kernel
set_option maxRecDepth 65536 in
theorem w_named : about1.methodNamed? x = some theMethod := by decide +kernel
set_option maxRecDepth 65536 in
theorem w_hears : about1.hears theMethod below0 = true := by decide +kernel
set_option maxRecDepth 65536 in
theorem w_ripe : about1.ripe theMethod args0 below0 = true := by decide +kernel
theorem w_running : about1.status = .running := rfl
set_option maxRecDepth 65536 in
theorem w_room : about1.hasRoom e0.platform room_1 = true :=
  launch0.hasRoom_least _ room_1 (by decide +kernel) (by decide +kernel) (by decide +kernel) (by decide +kernel) (by decide +kernel) (by decide +kernel)
theorem allAtoms_all (ts : List Jvm.Cond) (a : Array Jvm.Value) (st : Jvm.State) : (allAtoms ts).before a st = ts.all (fun c => c.before a st) := by
  induction ts with
  | nil => rfl
  | cons c t ih =>
    show (Jvm.Cond.and c (allAtoms t)).before a st = _
    rw [Jvm.Cond.before_and, ih, List.all_cons]
def words1 : List Jvm.Cond := Jvm.Cond.code x code maxLocals ret :: tables_1
/-- a 'code' word, met by the world's own term for the bytes: nothing is compared byte by byte -/
theorem code_word {y : MethodName} {bytes : ByteArray} {mx : Nat} {rt : Option FieldType} {a : Array Value} {s : State} {m : MethodId} {meth : Method} {c : Code} (h1 : s.methodNamed? y = some m) (h2 : s.vm.method? m = some meth) (h3 : meth.code = some c) (h4 : c.code = bytes)
    (h5 : (c.maxLocals == mx && c.exceptionTable.isEmpty && decide (c.maxStack ≤ mostOperands) && decide (meth.sig.returnType = rt) && !meth.locks && decide (parseMethodDescriptor y.desc = some meth.sig)) = true) : (Jvm.Cond.code y bytes mx rt).before a s = true := by
  simp only [Bool.and_eq_true, beq_iff_eq, Bool.not_eq_true', decide_eq_true_eq] at h5
  obtain ⟨⟨⟨⟨⟨g1, g2⟩, g3⟩, g4⟩, g5⟩, g6⟩ := h5
  simp [Cond.before, Cond.holds, Cond.value, h1, h2, h3, h4, g1, g2, g3, g4, g5, g6]
def isCode : Jvm.Cond → Bool
  | .code _ _ _ _ => true
  | _ => false
theorem all_split {L : List Jvm.Cond} {P : Jvm.Cond → Bool} (h1 : L.all (fun c => isCode c || P c) = true) (h2 : ∀ c ∈ L.filter isCode, P c = true) : L.all P = true := by
  refine List.all_eq_true.mpr fun c hc => ?_
  have h := List.all_eq_true.mp h1 c hc
  rcases Bool.eq_false_or_eq_true (isCode c) with hi | hi
  · exact h2 c (List.mem_filter.mpr ⟨hc, hi⟩)
  · simpa [hi] using h
set_option maxRecDepth 65536 in
theorem w_c0 : (Jvm.Cond.code x code maxLocals ret).before args0 about1 = true := code_word (m := ⟨1, 1⟩) (meth := k1m1) (c := k1c1) (by decide +kernel) rfl rfl rfl (by decide +kernel)
set_option maxRecDepth 65536 in
theorem w_c1 : (Jvm.Cond.code ({ cls := "com/example/streamgist/streamgist/paths/LinesCountPinLaw", name := "pick", desc := "(II)C" } : Jvm.MethodName) method_3_code (3 : Nat) (Option.some Jvm.ClassFile.FieldType.char)).before args0 about1 = true := code_word (m := ⟨1, 2⟩) (meth := k1m2) (c := k1c2) (by decide +kernel) rfl rfl rfl (by decide +kernel)
set_option maxRecDepth 65536 in
theorem w_c2 : (Jvm.Cond.code ({ cls := "com/example/streamgist/streamgist/paths/DocumentText$Lines", name := "<init>", desc := "(Z)V" } : Jvm.MethodName) prog_48_method_1_code (2 : Nat) (Option.none : Option Jvm.ClassFile.FieldType)).before args0 about1 = true := code_word (m := ⟨2, 0⟩) (meth := k2m0) (c := k2c0) (by decide +kernel) rfl rfl rfl (by decide +kernel)
set_option maxRecDepth 65536 in
theorem w_c3 : (Jvm.Cond.code ({ cls := "java/lang/Object", name := "<init>", desc := "()V" } : Jvm.MethodName) object_method_1_code (1 : Nat) (Option.none : Option Jvm.ClassFile.FieldType)).before args0 about1 = true := code_word (m := ⟨0, 0⟩) (meth := k0m0) (c := k0c0) (by decide +kernel) rfl rfl rfl (by decide +kernel)
set_option maxRecDepth 65536 in
theorem w_c4 : (Jvm.Cond.code ({ cls := "com/example/streamgist/streamgist/paths/DocumentText$Lines", name := "line", desc := "()J" } : Jvm.MethodName) prog_48_method_3_code (1 : Nat) (Option.some Jvm.ClassFile.FieldType.long)).before args0 about1 = true := code_word (m := ⟨2, 2⟩) (meth := k2m2) (c := k2c2) (by decide +kernel) rfl rfl rfl (by decide +kernel)
set_option maxRecDepth 65536 in
theorem w_c5 : (Jvm.Cond.code ({ cls := "com/example/streamgist/streamgist/paths/DocumentText$Lines", name := "count", desc := "(CC)V" } : Jvm.MethodName) prog_48_method_2_code (3 : Nat) (Option.none : Option Jvm.ClassFile.FieldType)).before args0 about1 = true := code_word (m := ⟨2, 1⟩) (meth := k2m1) (c := k2c1) (by decide +kernel) rfl rfl rfl (by decide +kernel)
set_option maxRecDepth 65536 in
theorem w_c6 : (Jvm.Cond.code ({ cls := "com/example/streamgist/streamgist/paths/LinesCountPinLaw", name := "endsLine", desc := "(CCZ)Z" } : Jvm.MethodName) method_4_code (3 : Nat) (Option.some Jvm.ClassFile.FieldType.boolean)).before args0 about1 = true := code_word (m := ⟨1, 3⟩) (meth := k1m3) (c := k1c3) (by decide +kernel) rfl rfl rfl (by decide +kernel)
def codes1 : List Jvm.Cond := [Jvm.Cond.code x code maxLocals ret, Jvm.Cond.code ({ cls := "com/example/streamgist/streamgist/paths/LinesCountPinLaw", name := "pick", desc := "(II)C" } : Jvm.MethodName) method_3_code (3 : Nat) (Option.some Jvm.ClassFile.FieldType.char), Jvm.Cond.code ({ cls := "com/example/streamgist/streamgist/paths/DocumentText$Lines", name := "<init>", desc := "(Z)V" } : Jvm.MethodName) prog_48_method_1_code (2 : Nat) (Option.none : Option Jvm.ClassFile.FieldType), Jvm.Cond.code ({ cls := "java/lang/Object", name := "<init>", desc := "()V" } : Jvm.MethodName) object_method_1_code (1 : Nat) (Option.none : Option Jvm.ClassFile.FieldType), Jvm.Cond.code ({ cls := "com/example/streamgist/streamgist/paths/DocumentText$Lines", name := "line", desc := "()J" } : Jvm.MethodName) prog_48_method_3_code (1 : Nat) (Option.some Jvm.ClassFile.FieldType.long), Jvm.Cond.code ({ cls := "com/example/streamgist/streamgist/paths/DocumentText$Lines", name := "count", desc := "(CC)V" } : Jvm.MethodName) prog_48_method_2_code (3 : Nat) (Option.none : Option Jvm.ClassFile.FieldType), Jvm.Cond.code ({ cls := "com/example/streamgist/streamgist/paths/LinesCountPinLaw", name := "endsLine", desc := "(CCZ)Z" } : Jvm.MethodName) method_4_code (3 : Nat) (Option.some Jvm.ClassFile.FieldType.boolean)]
set_option maxRecDepth 65536 in
theorem codes_eq : words1.filter isCode = codes1 := rfl
theorem w_codes : ∀ c ∈ words1.filter isCode, c.before args0 about1 = true := by
  rw [codes_eq]
  intro c hc
  simp only [codes1, List.mem_cons, List.not_mem_nil, or_false] at hc
  rcases hc with rfl | rfl | rfl | rfl | rfl | rfl | rfl
  · exact w_c0
  · exact w_c1
  · exact w_c2
  · exact w_c3
  · exact w_c4
  · exact w_c5
  · exact w_c6
set_option maxRecDepth 65536 in
theorem w_t1 : (words1.take 24).all (fun c => isCode c || c.before args0 about1) = true := by decide +kernel
set_option maxRecDepth 65536 in
theorem w_t2 : (words1.drop 24).all (fun c => isCode c || c.before args0 about1) = true := by decide +kernel
theorem w_tables : (allAtoms (Jvm.Cond.code x code maxLocals ret :: tables_1)).before args0 about1 = true := by
  rw [allAtoms_all]
  show words1.all (fun c => c.before args0 about1) = true
  refine all_split ?_ w_codes
  rw [← List.take_append_drop 24 words1, List.all_append, w_t1, w_t2]
  rfl
set_option maxRecDepth 65536 in
theorem w_case : (Jvm.Cond.and given_1 narrow_1).before args0 about1 = true := by decide +kernel
theorem w_applies : (headSpec (Jvm.Cond.code x code maxLocals ret :: tables_1) room_1).applies x e0.platform about1 = true :=
  (Spec.applies_iff w_frames).mpr ⟨w_running, w_runnable, w_alone, w_named, w_hears, w_ripe, w_room, w_tables⟩
theorem atStart : AtStart classFile x code maxLocals ret World_1 tables_1 room_1 Calls_1 rest_1 Pre_1 launch0 p0 e0 about1 theMethod args0 below0 :=
  ⟨lists_1, trivial, launch0.admits_env _ _ _, launch0.least_env, fairChoices_fair.cas, fairChoices_fair.clock, w_frames, w_args, w_heap, w_applies, trivial, trivial, w_case⟩
end start1
theorem witness_1 : WitnessClaimed_1 := ⟨start1.p0, start1.e0, start1.about1, start1.theMethod, start1.args0, start1.below0, start1.atStart⟩
end Jvm.Pilot.@@N@@
