import JvmDerived
import JvmDerived.Pilot.@@N@@Statement
import JvmDerived.Pilot.@@N@@Code
set_option linter.unusedVariables false
set_option linter.unusedSimpArgs false
namespace Jvm.RoadKit
open Sem ClassFile Op Lib Jvm.Stand Jvm.Free Jvm.LawKit
section New
variable {p : Program} {l : Launch} {e : Env} {R : Room} {s : State} {m : MethodId} {args : Array Value} {below : List Frame} {meth : Method} {c : Code} {T : State} {locs : List Loc} {cells slots : Nat}
theorem retI (X : Stand p l e R s m args below meth c T locs cells slots) (hx : p.tables.exec = Jvm.exec) {pc : Nat} {Ls : Array Slot} {z : Int32} {rest : List Value} (hret : meth.sig.returnType = some .int) (hd : decode c.code pc = .ok (.ireturn, 1)) {fs : List Frame}
    (hl : ∀ (f : JFrame) (acts : List Action), f.method = m → f.locked = none → f.entered = [] → (doReturn e (T.setTop f) acts (some (.int z))).1 = T.setFrames fs) : Steps p.tables e below (T.setTop (mkF m pc Ls (.int z :: rest))) (T.setFrames fs) := by
  have hm' : T.vm.method? m = some meth := X.method'
  have hn : narrow .int (.int z) = .int z := rfl
  show Steps p.tables e below (T.setTop { method := m, pc := pc, locals := Ls, stack := _ :: rest, locked := none }) _
  jvm_step X.here [X.here.top, hx, hd, hm', hret, hn]
  first | (intro acts; rw [hl _ acts rfl rfl rfl]) | rw [hl _ _ rfl rfl rfl]
  exact Steps.refl _
theorem own_retJ (X : Stand p l e R s m args below meth c T locs cells slots) (hx : p.tables.exec = Jvm.exec) {pc : Nat} {Ls : Array Slot} {z : Int64} {rest : List Value} (hret : meth.sig.returnType = some .long) (hd : decode c.code pc = .ok (.lreturn, 1)) {fs : List Frame}
    (hl : ∀ (f : JFrame) (acts : List Action), f.method = m → f.locked = none → f.entered = [] → (doReturn e (T.setTop f) acts (some (.long z))).1 = T.setFrames fs) : Steps p.tables e below (T.setTop (mkF m pc Ls (.long z :: rest))) (T.setFrames fs) := by
  have hm' : T.vm.method? m = some meth := X.method'
  have hn : narrow .long (.long z) = .long z := rfl
  show Steps p.tables e below (T.setTop { method := m, pc := pc, locals := Ls, stack := _ :: rest, locked := none }) _
  jvm_step X.here [X.here.top, hx, hd, hm', hret, hn]
  first | (intro acts; rw [hl _ acts rfl rfl rfl]) | rw [hl _ _ rfl rfl rfl]
  exact Steps.refl _
end New
end Jvm.RoadKit
namespace Jvm.Pilot.@@N@@
open Jvm Jvm.ClassFile Sem Op Lib Jvm.Free Jvm.Stand Jvm.LawKit Jvm.RoadKit Bundle Jvm.Pilot.@@N@@.Jvm.D
def own_Fin (tb : Tables) (e : Env) (below : List Frame) (P : Outcome → State → Prop) (S : State) : Prop := ∃ s₂ o, Steps tb e below S s₂ ∧ s₂.status = .running ∧ Ended s₂ below o ∧ P o s₂
theorem own_step {tb : Tables} {e : Env} {below : List Frame} {P : Outcome → State → Prop} {A B : State} (h : ∀ t, Steps tb e below B t → Steps tb e below A t) (k : own_Fin tb e below P B) : own_Fin tb e below P A := by
  obtain ⟨s₂, o, h1, h2⟩ := k; exact ⟨s₂, o, h _ h1, h2⟩
theorem own_steps {tb : Tables} {e : Env} {below : List Frame} {P : Outcome → State → Prop} {A B : State} (h : Steps tb e below A B) (k : own_Fin tb e below P B) : own_Fin tb e below P A := by
  obtain ⟨s₂, o, h1, h2⟩ := k; exact ⟨s₂, o, h.trans h1, h2⟩
theorem own_ret {tb : Tables} {e : Env} {below : List Frame} {P : Outcome → State → Prop} {S s₂ : State} {o : Outcome} (h : Steps tb e below S s₂) (h1 : s₂.status = .running) (h2 : Ended s₂ below o) (h3 : P o s₂) : own_Fin tb e below P S := ⟨s₂, o, h, h1, h2, h3⟩
theorem own_enter {tb : Tables} {e : Env} {below : List Frame} {P : Outcome → State → Prop} {T : State} {g g' : JFrame} (q : g = g') (k : own_Fin tb e below P (T.setTop g')) : ∃ s₂ o, Steps tb e below (T.setTop g) s₂ ∧ s₂.status = .running ∧ Ended s₂ below o ∧ P o s₂ := q ▸ k
def own_Two (a b : Slot) : Prop := (a = .unset ∧ b = .unset) ∨ ∃ v : Int64, a = .val (.long v) ∧ b = .second
theorem own_Two.u : own_Two .unset .unset := Or.inl ⟨rfl, rfl⟩
theorem own_Two.l {v : Int64} : own_Two (.val (.long v)) .second := Or.inr ⟨v, rfl, rfl⟩
def own_n (nt : Int32) (t w : Int64) : Int32 := if nt = 0 then 1 else if t - w < 0 then 1 else nt
def own_t (nt : Int32) (t w : Int64) : Int64 := if nt = 0 then t else if t - w < 0 then t else w
def own_or (nt : Int32) (w d : Int64) : Int64 := if nt = 0 then d else w
def own_bf (nt : Int32) (w d : Int64) : Int32 := if nt = 0 then 0 else if d - w < 0 then 1 else 0
def own_nl (n1 : Int32) (t1 : Int64) (n2 : Int32) (t2 : Int64) : Int32 := if n1 = 0 then 1 else if n2 = 0 then 1 else if 0 < t1 - t2 then 0 else 1
theorem pn_0 : plainName "com/example/riverhop/riverhop/overlay/Wake" = true := by first | (simp [plainName, overriddenIn]; done) | decide +kernel
theorem ef_1 (m : MethodId) (x0 : Addr) : entryFrame m #[(.ref x0)] 1 = mkF m 0 #[.val (.ref x0)] [] := by first | (simp [entryFrame, mkF, argsToLocals, Value.category]; done) | rfl
def Q1 (Z : State) (ob : Addr) (h0 : Heap) (n0 : Nat) (v : Option Value) (h : Heap) (L : List Loc) : Prop := v = none ∧ Fr n0 L ∧ h = h0
abbrev P1 (Z : State) (ob : Addr) (h0 : Heap) (n0 : Nat) (s : State) : Outcome → State → Prop := fun o U' => ∃ v L, o = .returned v ∧ Q1 Z ob h0 n0 v U'.heap L ∧ FrameEnd s o U' L ({ frames := 1, cells := 0, slots := 0, locals := 12 } : Room).cells ({ frames := 1, cells := 0, slots := 0, locals := 12 } : Room).slots
theorem d1_0 : decode prog_137_method_1_code 0 = .ok (.aload_n 0, 1) := by decide +kernel
theorem d1_1 : decode prog_137_method_1_code 1 = .ok (.invokespecial 1, 3) := by decide +kernel
theorem d1_4 : decode prog_137_method_1_code 4 = .ok (.return_, 1) := by decide +kernel
set_option maxRecDepth 65536 in
set_option maxHeartbeats 40000000 in
theorem rm1 (l : Launch) (Z : State) (a0 : Array Value) (hw : ∀ d ∈ tables_1, d.before a0 Z = true) (ws : List Jvm.Cond) (ob : Addr) (h0 : Heap) (n0 : Nat) (Z0 : n0 ≤ h0.size) :
    MetFree l (⟨"com/example/riverhop/riverhop/overlay/Wake", "<init>", "()V"⟩ : MethodName) (head1 (Jvm.Cond.code (⟨"com/example/riverhop/riverhop/overlay/Wake", "<init>", "()V"⟩ : MethodName) prog_137_method_1_code 1 none :: ws) ({ frames := 1, cells := 0, slots := 0, locals := 12 } : Room)) (fun a U => a = #[(.ref ob)] ∧ Z.Warmed39 U.vm ∧ U.heap = h0) (fun _ _ _ _ _ => True) (fun _ U o U' => ∃ v L, o = .returned v ∧ Q1 Z ob h0 n0 v U'.heap L ∧ FrameEnd U o U' L ({ frames := 1, cells := 0, slots := 0, locals := 12 } : Room).cells ({ frames := 1, cells := 0, slots := 0, locals := 12 } : Room).slots) := by
  refine MetFree.of_bodySF (plainFor_of_name pn_0) hisR ?_
  intro p e s m args below meth c s₁ Bd hml0 hP hK
  obtain ⟨rfl, hZ, hh⟩ := hP
  have hx := Bd.exec
  have hby := Bd.bytes
  have hml : c.maxLocals = 1 := hml0
  have hown : s.vm.findClass "com/example/riverhop/riverhop/overlay/Wake" = some m.cls := findClass_of_methodNamed Bd.named
  have hnm := (name_of_methodNamed Bd.named Bd.method).1
  have X0 : Stand p l e ({ frames := 1, cells := 0, slots := 0, locals := 12 } : Room) s m #[(.ref ob)] below meth c s₁ [] 0 0 := Stand.of_body Bd
  have e0 : s₁.heap = h0 := by rw [← hh, Bd.state]; rfl
  have N0 := Fr.nil n0
  refine own_enter (P := (P1 Z ob h0 n0 s)) (ef_1 m ob) ?_
  show own_Fin p.tables e below _ (s₁.setTop (mkF m 0 #[.val (.ref ob)] []))
  refine own_step (fun _ k => XS.aloadN X0.here hx rfl (hb hby d1_0) rfl rfl k) ?_
  show own_Fin p.tables e below _ (s₁.setTop (mkF m 1 #[.val (.ref ob)] [(.ref ob)]))
  obtain ⟨T1, X1, e1, st1⟩ := initO X0 hx hZ hown (hw _ (List.mem_of_getElem? (i := 6) rfl)) (hw _ (List.mem_of_getElem? (i := 7) rfl)) (hw _ (List.mem_of_getElem? (i := 8) rfl)) e0 (g := (mkF m 1 #[.val (.ref ob)] [(.ref ob)])) rfl (by rw [hml]; rfl) rfl (hb hby d1_1) (by decide) (W := 0) (by show 2 * 0 + _ ≤ _; exact Nat.le_of_eq rfl) (by decide)
  refine own_step st1 ?_
  show own_Fin p.tables e below _ (T1.setTop (mkF m 4 #[.val (.ref ob)] []))
  obtain ⟨fs2, hr2, hrun2, hended2, hW2, hsame2⟩ := X1.leave (v := none) (fun _ => rfl)
  refine own_ret (X1.returnOut hx Bd.returns (hb hby d1_4) hr2) hrun2 hended2 ?_
  refine ⟨_, _, rfl, ?_, ⟨_, rfl⟩, hW2, hsame2.mono (by decide) (by decide)⟩
  show Q1 Z ob h0 n0 _ T1.heap _
  rw [e1]
  exact ⟨rfl, N0, rfl⟩
theorem ef_3 (m : MethodId) (x0 : Addr) (x1 : Int64) : entryFrame m #[(.ref x0), (.long x1)] 3 = mkF m 0 #[.val (.ref x0), .val (.long x1), .second] [] := by first | (simp [entryFrame, mkF, argsToLocals, Value.category]; done) | rfl
def Q3 (Z : State) (ob : Addr) (q : Int64) (nt : Int32) (w : Int64) (h0 : Heap) (n0 : Nat) (v : Option Value) (h : Heap) (L : List Loc) : Prop := v = none ∧ Fr n0 L ∧ Keep h0 h [ob] ∧ Exa Z h ob "com/example/riverhop/riverhop/overlay/Wake" ∧ Fld Z h ob "com/example/riverhop/riverhop/overlay/Wake" "noted" "Z" (.int (own_n nt q w)) ∧ Fld Z h ob "com/example/riverhop/riverhop/overlay/Wake" "at" "J" (.long (own_t nt q w))
abbrev P3 (Z : State) (ob : Addr) (q : Int64) (nt : Int32) (w : Int64) (h0 : Heap) (n0 : Nat) (s : State) : Outcome → State → Prop := fun o U' => ∃ v L, o = .returned v ∧ Q3 Z ob q nt w h0 n0 v U'.heap L ∧ FrameEnd s o U' L ({ frames := 0, cells := 0, slots := 0, locals := 0 } : Room).cells ({ frames := 0, cells := 0, slots := 0, locals := 0 } : Room).slots
theorem d3_0 : decode prog_137_method_2_code 0 = .ok (.aload_n 0, 1) := by decide +kernel
theorem d3_1 : decode prog_137_method_2_code 1 = .ok (.getfield 7, 3) := by decide +kernel
theorem d3_4 : decode prog_137_method_2_code 4 = .ok (.ifCond .eq 14, 3) := by decide +kernel
theorem d3_18 : decode prog_137_method_2_code 18 = .ok (.aload_n 0, 1) := by decide +kernel
theorem d3_19 : decode prog_137_method_2_code 19 = .ok (.lload_n 1, 1) := by decide +kernel
theorem d3_20 : decode prog_137_method_2_code 20 = .ok (.putfield 13, 3) := by decide +kernel
theorem d3_23 : decode prog_137_method_2_code 23 = .ok (.aload_n 0, 1) := by decide +kernel
theorem d3_24 : decode prog_137_method_2_code 24 = .ok (.iconst 1, 1) := by decide +kernel
theorem d3_25 : decode prog_137_method_2_code 25 = .ok (.putfield 7, 3) := by decide +kernel
theorem d3_7 : decode prog_137_method_2_code 7 = .ok (.lload_n 1, 1) := by decide +kernel
theorem d3_8 : decode prog_137_method_2_code 8 = .ok (.aload_n 0, 1) := by decide +kernel
theorem d3_9 : decode prog_137_method_2_code 9 = .ok (.getfield 13, 3) := by decide +kernel
theorem d3_12 : decode prog_137_method_2_code 12 = .ok (.lsub, 1) := by decide +kernel
theorem d3_13 : decode prog_137_method_2_code 13 = .ok (.lconst 0, 1) := by decide +kernel
theorem d3_14 : decode prog_137_method_2_code 14 = .ok (.lcmp, 1) := by decide +kernel
theorem d3_15 : decode prog_137_method_2_code 15 = .ok (.ifCond .ge 13, 3) := by decide +kernel
theorem d3_28 : decode prog_137_method_2_code 28 = .ok (.return_, 1) := by decide +kernel
set_option maxRecDepth 65536 in
set_option maxHeartbeats 40000000 in
theorem rm3 (l : Launch) (Z : State) (a0 : Array Value) (hw : ∀ d ∈ tables_1, d.before a0 Z = true) (ws : List Jvm.Cond) (ob : Addr) (q : Int64) (nt : Int32) (w : Int64) (h0 : Heap) (n0 : Nat) (Z0 : n0 ≤ h0.size) (Fn0 : Fld Z h0 ob "com/example/riverhop/riverhop/overlay/Wake" "noted" "Z" (.int nt)) (Ft0 : Fld Z h0 ob "com/example/riverhop/riverhop/overlay/Wake" "at" "J" (.long w)) (Ex0 : Exa Z h0 ob "com/example/riverhop/riverhop/overlay/Wake") (g_ob : n0 ≤ ob) :
    MetFree l (⟨"com/example/riverhop/riverhop/overlay/Wake", "at", "(J)V"⟩ : MethodName) (head1 (Jvm.Cond.code (⟨"com/example/riverhop/riverhop/overlay/Wake", "at", "(J)V"⟩ : MethodName) prog_137_method_2_code 3 none :: ws) ({ frames := 0, cells := 0, slots := 0, locals := 0 } : Room)) (fun a U => a = #[(.ref ob), (.long q)] ∧ Z.Warmed39 U.vm ∧ U.heap = h0) (fun _ _ _ _ _ => True) (fun _ U o U' => ∃ v L, o = .returned v ∧ Q3 Z ob q nt w h0 n0 v U'.heap L ∧ FrameEnd U o U' L ({ frames := 0, cells := 0, slots := 0, locals := 0 } : Room).cells ({ frames := 0, cells := 0, slots := 0, locals := 0 } : Room).slots) := by
  refine MetFree.of_bodySF (plainFor_of_name pn_0) hisR ?_
  intro p e s m args below meth c s₁ Bd hml0 hP hK
  obtain ⟨rfl, hZ, hh⟩ := hP
  have hx := Bd.exec
  have hby := Bd.bytes
  have hml : c.maxLocals = 3 := hml0
  have hown : s.vm.findClass "com/example/riverhop/riverhop/overlay/Wake" = some m.cls := findClass_of_methodNamed Bd.named
  have hnm := (name_of_methodNamed Bd.named Bd.method).1
  have X0 : Stand p l e ({ frames := 0, cells := 0, slots := 0, locals := 0 } : Room) s m #[(.ref ob), (.long q)] below meth c s₁ [] 0 0 := Stand.of_body Bd
  have e0 : s₁.heap = h0 := by rw [← hh, Bd.state]; rfl
  have N0 := Fr.nil n0
  refine own_enter (P := (P3 Z ob q nt w h0 n0 s)) (ef_3 m ob q) ?_
  have K0 : Keep h0 h0 [ob] := Keep.refl h0 _
  show own_Fin p.tables e below _ (s₁.setTop (mkF m 0 #[.val (.ref ob), .val (.long q), .second] []))
  refine own_step (fun _ k => XS.aloadN X0.here hx rfl (hb hby d3_0) rfl rfl k) ?_
  show own_Fin p.tables e below _ (s₁.setTop (mkF m 1 #[.val (.ref ob), .val (.long q), .second] [(.ref ob)]))
  obtain ⟨T1, X1, e1, st1⟩ := getF X0 hx hZ hown (host := "") (Or.inl (hw _ (List.mem_of_getElem? (i := 14) rfl))) Via.refl e0 Fn0 (g := (mkF m 1 #[.val (.ref ob), .val (.long q), .second] [(.ref ob)])) rfl rfl (hb hby d3_1)
  refine own_step st1 ?_
  show own_Fin p.tables e below _ (T1.setTop (mkF m 4 #[.val (.ref ob), .val (.long q), .second] [(.int nt)]))
  have J3 : ∀ (T4 : State) (locs4 : List Loc) (h4 : Heap) (y6 : Int32) (y8 : Int64) (X4 : Stand p l e ({ frames := 0, cells := 0, slots := 0, locals := 0 } : Room) s m #[(.ref ob), (.long q)] below meth c T4 locs4 0 0) (e4 : T4.heap = h4) (N4 : Fr n0 locs4) (gy6 : y6 = (if nt = (0 : Int32) then (1 : Int32) else (if (q - w) < (0 : Int64) then (1 : Int32) else nt))) (gy8 : y8 = (if nt = (0 : Int32) then q else (if (q - w) < (0 : Int64) then q else w))) (f5 : n0 ≤ h4.size) (f7 : Fld Z h4 ob "com/example/riverhop/riverhop/overlay/Wake" "noted" "Z" (.int y6)) (f9 : Fld Z h4 ob "com/example/riverhop/riverhop/overlay/Wake" "at" "J" (.long y8)) (f10 : Exa Z h4 ob "com/example/riverhop/riverhop/overlay/Wake") (f11 : Keep h0 h4 [ob]), own_Fin p.tables e below (P3 Z ob q nt w h0 n0 s) (T4.setTop (mkF m 28 #[.val (.ref ob), .val (.long q), .second] [])) := by
    intro T4 locs4 h4 y6 y8 X4 e4 N4 gy6 gy8 f5 f7 f9 f10 f11
    obtain ⟨fs12, hr12, hrun12, hended12, hW12, hsame12⟩ := X4.leave (v := none) (fun _ => rfl)
    refine own_ret (X4.returnOut hx Bd.returns (hb hby d3_28) hr12) hrun12 hended12 ?_
    refine ⟨_, _, rfl, ?_, ⟨_, rfl⟩, hW12, hsame12.mono (by decide) (by decide)⟩
    show Q3 Z ob q nt w h0 n0 _ T4.heap _
    rw [e4]
    have hq1 : y6 = own_n nt q w := by rw [gy6]; simp only [own_n]
    have hq2 : y8 = own_t nt q w := by rw [gy8]; simp only [own_t]
    rw [hq1] at f7
    rw [hq2] at f9
    exact ⟨rfl, N4, f11, f10, f7, f9⟩
  by_cases hc2 : nt = (0 : Int32)
  · refine own_step (fun _ k => XS.ifYes X1.here hx rfl (pc0 := 4) (pc' := 18) rfl (hb hby d3_4) rfl ((if0 _ _).trans (teq hc2).1) (by decide) (by decide) k) ?_
    show own_Fin p.tables e below _ (T1.setTop (mkF m 18 #[.val (.ref ob), .val (.long q), .second] []))
    refine own_step (fun _ k => XS.aloadN X1.here hx rfl (hb hby d3_18) rfl rfl k) ?_
    show own_Fin p.tables e below _ (T1.setTop (mkF m 19 #[.val (.ref ob), .val (.long q), .second] [(.ref ob)]))
    refine own_step (fun _ k => XS.lloadN X1.here hx rfl (hb hby d3_19) rfl k) ?_
    show own_Fin p.tables e below _ (T1.setTop (mkF m 20 #[.val (.ref ob), .val (.long q), .second] [(.long q), (.ref ob)]))
    obtain ⟨T13, h13, X13, e13, W13, st13⟩ := putF X1 hx hZ hown (host := "") (Or.inl (hw _ (List.mem_of_getElem? (i := 16) rfl))) Via.refl e1 Ft0 Ex0 (Or.inl (hw _ (List.mem_of_getElem? (i := 17) rfl))) (hw _ (List.mem_of_getElem? (i := 1) rfl)) (ty := .long) (by decide) rfl rfl (g := (mkF m 20 #[.val (.ref ob), .val (.long q), .second] [(.long q), (.ref ob)])) rfl rfl (hb hby d3_20)
    refine own_step st13 ?_
    have f14 := Nat.le_trans Z0 (Keep.of_wr W13).1
    have f15 := Fn0.other W13 (Or.inr (slot_ne (Or.inl (hw _ (List.mem_of_getElem? (i := 15) rfl))) (Or.inl (hw _ (List.mem_of_getElem? (i := 17) rfl))) (by decide) (t := .boolean) (t' := .long) (by decide) (by decide)))
    have f16 := Ex0.wr W13
    have f17 := K0.wr W13 (Or.inl (List.mem_of_getElem? (i := 0) rfl))
    have f18 := Ft0.same W13
    have N19 := Fr.snoc X13 N0 g_ob
    show own_Fin p.tables e below _ (T13.setTop (mkF m 23 #[.val (.ref ob), .val (.long q), .second] []))
    refine own_step (fun _ k => XS.aloadN X13.here hx rfl (hb hby d3_23) rfl rfl k) ?_
    show own_Fin p.tables e below _ (T13.setTop (mkF m 24 #[.val (.ref ob), .val (.long q), .second] [(.ref ob)]))
    refine own_step (fun _ k => XS.iconst X13.here hx rfl (hb hby d3_24) k) ?_
    show own_Fin p.tables e below _ (T13.setTop (mkF m 25 #[.val (.ref ob), .val (.long q), .second] [(.int (1 : Int32)), (.ref ob)]))
    obtain ⟨T20, h20, X20, e20, W20, st20⟩ := putFN X13 hx hZ hown (hw _ (List.mem_of_getElem? (i := 14) rfl)) Via.refl e13 f15 f16 (Or.inl (hw _ (List.mem_of_getElem? (i := 15) rfl))) (hw _ (List.mem_of_getElem? (i := 1) rfl)) (ty := .boolean) (v' := .int (1 : Int32)) (by decide) rfl rfl (g := (mkF m 25 #[.val (.ref ob), .val (.long q), .second] [(.int (1 : Int32)), (.ref ob)])) rfl rfl (hb hby d3_25)
    refine own_step st20 ?_
    have f21 := Nat.le_trans f14 (Keep.of_wr W20).1
    have f22 := f18.other W20 (Or.inr (slot_ne (Or.inl (hw _ (List.mem_of_getElem? (i := 17) rfl))) (Or.inl (hw _ (List.mem_of_getElem? (i := 15) rfl))) (by decide) (t := .long) (t' := .boolean) (by decide) (by decide)))
    have f23 := f16.wr W20
    have f24 := f17.wr W20 (Or.inl (List.mem_of_getElem? (i := 0) rfl))
    have f25 := f15.same W20
    have N26 := Fr.snoc X20 N19 g_ob
    show own_Fin p.tables e below _ (T20.setTop (mkF m 28 #[.val (.ref ob), .val (.long q), .second] []))
    exact J3 T20 _ h20 (1 : Int32) q X20 e20 N26 (by rw [if_pos hc2]) (by rw [if_pos hc2]) f21 f25 f22 f23 f24
  · refine own_step (fun _ k => XS.ifNo X1.here hx rfl (hb hby d3_4) rfl ((if0 _ _).trans (feq hc2).1) k) ?_
    show own_Fin p.tables e below _ (T1.setTop (mkF m 7 #[.val (.ref ob), .val (.long q), .second] []))
    refine own_step (fun _ k => XS.lloadN X1.here hx rfl (hb hby d3_7) rfl k) ?_
    show own_Fin p.tables e below _ (T1.setTop (mkF m 8 #[.val (.ref ob), .val (.long q), .second] [(.long q)]))
    refine own_step (fun _ k => XS.aloadN X1.here hx rfl (hb hby d3_8) rfl rfl k) ?_
    show own_Fin p.tables e below _ (T1.setTop (mkF m 9 #[.val (.ref ob), .val (.long q), .second] [(.ref ob), (.long q)]))
    obtain ⟨T27, X27, e27, st27⟩ := getF X1 hx hZ hown (host := "") (Or.inl (hw _ (List.mem_of_getElem? (i := 16) rfl))) Via.refl e1 Ft0 (g := (mkF m 9 #[.val (.ref ob), .val (.long q), .second] [(.ref ob), (.long q)])) rfl rfl (hb hby d3_9)
    refine own_step st27 ?_
    show own_Fin p.tables e below _ (T27.setTop (mkF m 12 #[.val (.ref ob), .val (.long q), .second] [(.long w), (.long q)]))
    refine own_step (fun _ k => XS.lsub X27.here hx rfl (hb hby d3_12) rfl k) ?_
    show own_Fin p.tables e below _ (T27.setTop (mkF m 13 #[.val (.ref ob), .val (.long q), .second] [(.long (q - w))]))
    refine own_step (fun _ k => XS.lconst X27.here hx rfl (hb hby d3_13) k) ?_
    show own_Fin p.tables e below _ (T27.setTop (mkF m 14 #[.val (.ref ob), .val (.long q), .second] [(.long (0 : Int64)), (.long (q - w))]))
    refine own_step (fun _ k => XS.lcmp X27.here hx rfl (hb hby d3_14) rfl k) ?_
    show own_Fin p.tables e below _ (T27.setTop (mkF m 15 #[.val (.ref ob), .val (.long q), .second] [(.int (lcmpW (q - w) (0 : Int64)))]))
    by_cases hc28 : (q - w) < (0 : Int64)
    · refine own_step (fun _ k => XS.ifNo X27.here hx rfl (hb hby d3_15) rfl ((if0 _ _).trans (tlt ((lw_lt _ _).mpr hc28)).2.1) k) ?_
      show own_Fin p.tables e below _ (T27.setTop (mkF m 18 #[.val (.ref ob), .val (.long q), .second] []))
      refine own_step (fun _ k => XS.aloadN X27.here hx rfl (hb hby d3_18) rfl rfl k) ?_
      show own_Fin p.tables e below _ (T27.setTop (mkF m 19 #[.val (.ref ob), .val (.long q), .second] [(.ref ob)]))
      refine own_step (fun _ k => XS.lloadN X27.here hx rfl (hb hby d3_19) rfl k) ?_
      show own_Fin p.tables e below _ (T27.setTop (mkF m 20 #[.val (.ref ob), .val (.long q), .second] [(.long q), (.ref ob)]))
      obtain ⟨T29, h29, X29, e29, W29, st29⟩ := putF X27 hx hZ hown (host := "") (Or.inl (hw _ (List.mem_of_getElem? (i := 16) rfl))) Via.refl e27 Ft0 Ex0 (Or.inl (hw _ (List.mem_of_getElem? (i := 17) rfl))) (hw _ (List.mem_of_getElem? (i := 1) rfl)) (ty := .long) (by decide) rfl rfl (g := (mkF m 20 #[.val (.ref ob), .val (.long q), .second] [(.long q), (.ref ob)])) rfl rfl (hb hby d3_20)
      refine own_step st29 ?_
      have f30 := Nat.le_trans Z0 (Keep.of_wr W29).1
      have f31 := Fn0.other W29 (Or.inr (slot_ne (Or.inl (hw _ (List.mem_of_getElem? (i := 15) rfl))) (Or.inl (hw _ (List.mem_of_getElem? (i := 17) rfl))) (by decide) (t := .boolean) (t' := .long) (by decide) (by decide)))
      have f32 := Ex0.wr W29
      have f33 := K0.wr W29 (Or.inl (List.mem_of_getElem? (i := 0) rfl))
      have f34 := Ft0.same W29
      have N35 := Fr.snoc X29 N0 g_ob
      show own_Fin p.tables e below _ (T29.setTop (mkF m 23 #[.val (.ref ob), .val (.long q), .second] []))
      refine own_step (fun _ k => XS.aloadN X29.here hx rfl (hb hby d3_23) rfl rfl k) ?_
      show own_Fin p.tables e below _ (T29.setTop (mkF m 24 #[.val (.ref ob), .val (.long q), .second] [(.ref ob)]))
      refine own_step (fun _ k => XS.iconst X29.here hx rfl (hb hby d3_24) k) ?_
      show own_Fin p.tables e below _ (T29.setTop (mkF m 25 #[.val (.ref ob), .val (.long q), .second] [(.int (1 : Int32)), (.ref ob)]))
      obtain ⟨T36, h36, X36, e36, W36, st36⟩ := putFN X29 hx hZ hown (hw _ (List.mem_of_getElem? (i := 14) rfl)) Via.refl e29 f31 f32 (Or.inl (hw _ (List.mem_of_getElem? (i := 15) rfl))) (hw _ (List.mem_of_getElem? (i := 1) rfl)) (ty := .boolean) (v' := .int (1 : Int32)) (by decide) rfl rfl (g := (mkF m 25 #[.val (.ref ob), .val (.long q), .second] [(.int (1 : Int32)), (.ref ob)])) rfl rfl (hb hby d3_25)
      refine own_step st36 ?_
      have f37 := Nat.le_trans f30 (Keep.of_wr W36).1
      have f38 := f34.other W36 (Or.inr (slot_ne (Or.inl (hw _ (List.mem_of_getElem? (i := 17) rfl))) (Or.inl (hw _ (List.mem_of_getElem? (i := 15) rfl))) (by decide) (t := .long) (t' := .boolean) (by decide) (by decide)))
      have f39 := f32.wr W36
      have f40 := f33.wr W36 (Or.inl (List.mem_of_getElem? (i := 0) rfl))
      have f41 := f31.same W36
      have N42 := Fr.snoc X36 N35 g_ob
      show own_Fin p.tables e below _ (T36.setTop (mkF m 28 #[.val (.ref ob), .val (.long q), .second] []))
      exact J3 T36 _ h36 (1 : Int32) q X36 e36 N42 (by rw [if_neg hc2, if_pos hc28]) (by rw [if_neg hc2, if_pos hc28]) f37 f41 f38 f39 f40
    · refine own_step (fun _ k => XS.ifYes X27.here hx rfl (pc0 := 15) (pc' := 28) rfl (hb hby d3_15) rfl ((if0 _ _).trans (flt (fun q => hc28 ((lw_lt _ _).mp q))).2.1) (by decide) (by decide) k) ?_
      show own_Fin p.tables e below _ (T27.setTop (mkF m 28 #[.val (.ref ob), .val (.long q), .second] []))
      exact J3 T27 _ h0 nt w X27 e27 N0 (by rw [if_neg hc2, if_neg hc28]) (by rw [if_neg hc2, if_neg hc28]) Z0 Fn0 Ft0 Ex0 K0
theorem ef_4 (m : MethodId) (x0 : Addr) (x1 : Int64) : entryFrame m #[(.ref x0), (.long x1)] 3 = mkF m 0 #[.val (.ref x0), .val (.long x1), .second] [] := by first | (simp [entryFrame, mkF, argsToLocals, Value.category]; done) | rfl
def Q4 (Z : State) (ob : Addr) (q : Int64) (nt : Int32) (w : Int64) (h0 : Heap) (n0 : Nat) (v : Option Value) (h : Heap) (L : List Loc) : Prop := v = some (.long (own_or nt w q)) ∧ Fr n0 L ∧ h = h0
abbrev P4 (Z : State) (ob : Addr) (q : Int64) (nt : Int32) (w : Int64) (h0 : Heap) (n0 : Nat) (s : State) : Outcome → State → Prop := fun o U' => ∃ v L, o = .returned v ∧ Q4 Z ob q nt w h0 n0 v U'.heap L ∧ FrameEnd s o U' L ({ frames := 0, cells := 0, slots := 0, locals := 0 } : Room).cells ({ frames := 0, cells := 0, slots := 0, locals := 0 } : Room).slots
theorem d4_0 : decode prog_137_method_4_code 0 = .ok (.aload_n 0, 1) := by decide +kernel
theorem d4_1 : decode prog_137_method_4_code 1 = .ok (.getfield 7, 3) := by decide +kernel
theorem d4_4 : decode prog_137_method_4_code 4 = .ok (.ifCond .eq 10, 3) := by decide +kernel
theorem d4_14 : decode prog_137_method_4_code 14 = .ok (.lload_n 1, 1) := by decide +kernel
theorem d4_7 : decode prog_137_method_4_code 7 = .ok (.aload_n 0, 1) := by decide +kernel
theorem d4_8 : decode prog_137_method_4_code 8 = .ok (.getfield 13, 3) := by decide +kernel
theorem d4_11 : decode prog_137_method_4_code 11 = .ok (.goto 4, 3) := by decide +kernel
theorem d4_15 : decode prog_137_method_4_code 15 = .ok (.lreturn, 1) := by decide +kernel
set_option maxRecDepth 65536 in
set_option maxHeartbeats 40000000 in
theorem rm4 (l : Launch) (Z : State) (a0 : Array Value) (hw : ∀ d ∈ tables_1, d.before a0 Z = true) (ws : List Jvm.Cond) (ob : Addr) (q : Int64) (nt : Int32) (w : Int64) (h0 : Heap) (n0 : Nat) (Z0 : n0 ≤ h0.size) (Fn0 : Fld Z h0 ob "com/example/riverhop/riverhop/overlay/Wake" "noted" "Z" (.int nt)) (Ft0 : Fld Z h0 ob "com/example/riverhop/riverhop/overlay/Wake" "at" "J" (.long w)) :
    MetFree l (⟨"com/example/riverhop/riverhop/overlay/Wake", "orElse", "(J)J"⟩ : MethodName) (head1 (Jvm.Cond.code (⟨"com/example/riverhop/riverhop/overlay/Wake", "orElse", "(J)J"⟩ : MethodName) prog_137_method_4_code 3 (some .long) :: ws) ({ frames := 0, cells := 0, slots := 0, locals := 0 } : Room)) (fun a U => a = #[(.ref ob), (.long q)] ∧ Z.Warmed39 U.vm ∧ U.heap = h0) (fun _ _ _ _ _ => True) (fun _ U o U' => ∃ v L, o = .returned v ∧ Q4 Z ob q nt w h0 n0 v U'.heap L ∧ FrameEnd U o U' L ({ frames := 0, cells := 0, slots := 0, locals := 0 } : Room).cells ({ frames := 0, cells := 0, slots := 0, locals := 0 } : Room).slots) := by
  refine MetFree.of_bodySF (plainFor_of_name pn_0) hisR ?_
  intro p e s m args below meth c s₁ Bd hml0 hP hK
  obtain ⟨rfl, hZ, hh⟩ := hP
  have hx := Bd.exec
  have hby := Bd.bytes
  have hml : c.maxLocals = 3 := hml0
  have hown : s.vm.findClass "com/example/riverhop/riverhop/overlay/Wake" = some m.cls := findClass_of_methodNamed Bd.named
  have hnm := (name_of_methodNamed Bd.named Bd.method).1
  have X0 : Stand p l e ({ frames := 0, cells := 0, slots := 0, locals := 0 } : Room) s m #[(.ref ob), (.long q)] below meth c s₁ [] 0 0 := Stand.of_body Bd
  have e0 : s₁.heap = h0 := by rw [← hh, Bd.state]; rfl
  have N0 := Fr.nil n0
  refine own_enter (P := (P4 Z ob q nt w h0 n0 s)) (ef_4 m ob q) ?_
  show own_Fin p.tables e below _ (s₁.setTop (mkF m 0 #[.val (.ref ob), .val (.long q), .second] []))
  refine own_step (fun _ k => XS.aloadN X0.here hx rfl (hb hby d4_0) rfl rfl k) ?_
  show own_Fin p.tables e below _ (s₁.setTop (mkF m 1 #[.val (.ref ob), .val (.long q), .second] [(.ref ob)]))
  obtain ⟨T1, X1, e1, st1⟩ := getF X0 hx hZ hown (host := "") (Or.inl (hw _ (List.mem_of_getElem? (i := 14) rfl))) Via.refl e0 Fn0 (g := (mkF m 1 #[.val (.ref ob), .val (.long q), .second] [(.ref ob)])) rfl rfl (hb hby d4_1)
  refine own_step st1 ?_
  show own_Fin p.tables e below _ (T1.setTop (mkF m 4 #[.val (.ref ob), .val (.long q), .second] [(.int nt)]))
  have J3 : ∀ (T4 : State) (locs4 : List Loc) (y5 : Int64) (X4 : Stand p l e ({ frames := 0, cells := 0, slots := 0, locals := 0 } : Room) s m #[(.ref ob), (.long q)] below meth c T4 locs4 0 0) (e4 : T4.heap = h0) (N4 : Fr n0 locs4) (gy5 : y5 = (if nt = (0 : Int32) then q else w)), own_Fin p.tables e below (P4 Z ob q nt w h0 n0 s) (T4.setTop (mkF m 15 #[.val (.ref ob), .val (.long q), .second] [(.long y5)])) := by
    intro T4 locs4 y5 X4 e4 N4 gy5
    obtain ⟨fs6, hr6, hrun6, hended6, hW6, hsame6⟩ := X4.leave (v := some (.long y5)) (fun h => by rw [Bd.returns] at h; cases h)
    refine own_ret (own_retJ X4 hx Bd.returns (hb hby d4_15) hr6) hrun6 hended6 ?_
    refine ⟨_, _, rfl, ?_, ⟨_, rfl⟩, hW6, hsame6.mono (by decide) (by decide)⟩
    show Q4 Z ob q nt w h0 n0 _ T4.heap _
    rw [e4]
    refine ⟨congrArg (fun z => some (Value.long z)) ?_, N4, rfl⟩
    rw [gy5]; rfl
  by_cases hc2 : nt = (0 : Int32)
  · refine own_step (fun _ k => XS.ifYes X1.here hx rfl (pc0 := 4) (pc' := 14) rfl (hb hby d4_4) rfl ((if0 _ _).trans (teq hc2).1) (by decide) (by decide) k) ?_
    show own_Fin p.tables e below _ (T1.setTop (mkF m 14 #[.val (.ref ob), .val (.long q), .second] []))
    refine own_step (fun _ k => XS.lloadN X1.here hx rfl (hb hby d4_14) rfl k) ?_
    show own_Fin p.tables e below _ (T1.setTop (mkF m 15 #[.val (.ref ob), .val (.long q), .second] [(.long q)]))
    exact J3 T1 _ q X1 e1 N0 (by rw [if_pos hc2])
  · refine own_step (fun _ k => XS.ifNo X1.here hx rfl (hb hby d4_4) rfl ((if0 _ _).trans (feq hc2).1) k) ?_
    show own_Fin p.tables e below _ (T1.setTop (mkF m 7 #[.val (.ref ob), .val (.long q), .second] []))
    refine own_step (fun _ k => XS.aloadN X1.here hx rfl (hb hby d4_7) rfl rfl k) ?_
    show own_Fin p.tables e below _ (T1.setTop (mkF m 8 #[.val (.ref ob), .val (.long q), .second] [(.ref ob)]))
    obtain ⟨T7, X7, e7, st7⟩ := getF X1 hx hZ hown (host := "") (Or.inl (hw _ (List.mem_of_getElem? (i := 16) rfl))) Via.refl e1 Ft0 (g := (mkF m 8 #[.val (.ref ob), .val (.long q), .second] [(.ref ob)])) rfl rfl (hb hby d4_8)
    refine own_step st7 ?_
    show own_Fin p.tables e below _ (T7.setTop (mkF m 11 #[.val (.ref ob), .val (.long q), .second] [(.long w)]))
    refine own_step (fun _ k => XS.goto X7.here hx rfl (pc0 := 11) (pc' := 15) rfl (hb hby d4_11) (by decide) (by decide) k) ?_
    show own_Fin p.tables e below _ (T7.setTop (mkF m 15 #[.val (.ref ob), .val (.long q), .second] [(.long w)]))
    exact J3 T7 _ w X7 e7 N0 (by rw [if_neg hc2])
theorem ef_5 (m : MethodId) (x0 : Addr) (x1 : Int64) : entryFrame m #[(.ref x0), (.long x1)] 3 = mkF m 0 #[.val (.ref x0), .val (.long x1), .second] [] := by first | (simp [entryFrame, mkF, argsToLocals, Value.category]; done) | rfl
def Q5 (Z : State) (ob : Addr) (q : Int64) (nt : Int32) (w : Int64) (h0 : Heap) (n0 : Nat) (v : Option Value) (h : Heap) (L : List Loc) : Prop := v = some (.int (own_bf nt w q)) ∧ Fr n0 L ∧ h = h0
abbrev P5 (Z : State) (ob : Addr) (q : Int64) (nt : Int32) (w : Int64) (h0 : Heap) (n0 : Nat) (s : State) : Outcome → State → Prop := fun o U' => ∃ v L, o = .returned v ∧ Q5 Z ob q nt w h0 n0 v U'.heap L ∧ FrameEnd s o U' L ({ frames := 0, cells := 0, slots := 0, locals := 0 } : Room).cells ({ frames := 0, cells := 0, slots := 0, locals := 0 } : Room).slots
theorem d5_0 : decode prog_137_method_3_code 0 = .ok (.aload_n 0, 1) := by decide +kernel
theorem d5_1 : decode prog_137_method_3_code 1 = .ok (.getfield 7, 3) := by decide +kernel
theorem d5_4 : decode prog_137_method_3_code 4 = .ok (.ifCond .eq 18, 3) := by decide +kernel
theorem d5_22 : decode prog_137_method_3_code 22 = .ok (.iconst 0, 1) := by decide +kernel
theorem d5_7 : decode prog_137_method_3_code 7 = .ok (.lload_n 1, 1) := by decide +kernel
theorem d5_8 : decode prog_137_method_3_code 8 = .ok (.aload_n 0, 1) := by decide +kernel
theorem d5_9 : decode prog_137_method_3_code 9 = .ok (.getfield 13, 3) := by decide +kernel
theorem d5_12 : decode prog_137_method_3_code 12 = .ok (.lsub, 1) := by decide +kernel
theorem d5_13 : decode prog_137_method_3_code 13 = .ok (.lconst 0, 1) := by decide +kernel
theorem d5_14 : decode prog_137_method_3_code 14 = .ok (.lcmp, 1) := by decide +kernel
theorem d5_15 : decode prog_137_method_3_code 15 = .ok (.ifCond .ge 7, 3) := by decide +kernel
theorem d5_18 : decode prog_137_method_3_code 18 = .ok (.iconst 1, 1) := by decide +kernel
theorem d5_19 : decode prog_137_method_3_code 19 = .ok (.goto 4, 3) := by decide +kernel
theorem d5_23 : decode prog_137_method_3_code 23 = .ok (.ireturn, 1) := by decide +kernel
set_option maxRecDepth 65536 in
set_option maxHeartbeats 40000000 in
theorem rm5 (l : Launch) (Z : State) (a0 : Array Value) (hw : ∀ d ∈ tables_1, d.before a0 Z = true) (ws : List Jvm.Cond) (ob : Addr) (q : Int64) (nt : Int32) (w : Int64) (h0 : Heap) (n0 : Nat) (Z0 : n0 ≤ h0.size) (Fn0 : Fld Z h0 ob "com/example/riverhop/riverhop/overlay/Wake" "noted" "Z" (.int nt)) (Ft0 : Fld Z h0 ob "com/example/riverhop/riverhop/overlay/Wake" "at" "J" (.long w)) :
    MetFree l (⟨"com/example/riverhop/riverhop/overlay/Wake", "before", "(J)Z"⟩ : MethodName) (head1 (Jvm.Cond.code (⟨"com/example/riverhop/riverhop/overlay/Wake", "before", "(J)Z"⟩ : MethodName) prog_137_method_3_code 3 (some .boolean) :: ws) ({ frames := 0, cells := 0, slots := 0, locals := 0 } : Room)) (fun a U => a = #[(.ref ob), (.long q)] ∧ Z.Warmed39 U.vm ∧ U.heap = h0) (fun _ _ _ _ _ => True) (fun _ U o U' => ∃ v L, o = .returned v ∧ Q5 Z ob q nt w h0 n0 v U'.heap L ∧ FrameEnd U o U' L ({ frames := 0, cells := 0, slots := 0, locals := 0 } : Room).cells ({ frames := 0, cells := 0, slots := 0, locals := 0 } : Room).slots) := by
  refine MetFree.of_bodySF (plainFor_of_name pn_0) hisR ?_
  intro p e s m args below meth c s₁ Bd hml0 hP hK
  obtain ⟨rfl, hZ, hh⟩ := hP
  have hx := Bd.exec
  have hby := Bd.bytes
  have hml : c.maxLocals = 3 := hml0
  have hown : s.vm.findClass "com/example/riverhop/riverhop/overlay/Wake" = some m.cls := findClass_of_methodNamed Bd.named
  have hnm := (name_of_methodNamed Bd.named Bd.method).1
  have X0 : Stand p l e ({ frames := 0, cells := 0, slots := 0, locals := 0 } : Room) s m #[(.ref ob), (.long q)] below meth c s₁ [] 0 0 := Stand.of_body Bd
  have e0 : s₁.heap = h0 := by rw [← hh, Bd.state]; rfl
  have N0 := Fr.nil n0
  refine own_enter (P := (P5 Z ob q nt w h0 n0 s)) (ef_5 m ob q) ?_
  show own_Fin p.tables e below _ (s₁.setTop (mkF m 0 #[.val (.ref ob), .val (.long q), .second] []))
  refine own_step (fun _ k => XS.aloadN X0.here hx rfl (hb hby d5_0) rfl rfl k) ?_
  show own_Fin p.tables e below _ (s₁.setTop (mkF m 1 #[.val (.ref ob), .val (.long q), .second] [(.ref ob)]))
  obtain ⟨T1, X1, e1, st1⟩ := getF X0 hx hZ hown (host := "") (Or.inl (hw _ (List.mem_of_getElem? (i := 14) rfl))) Via.refl e0 Fn0 (g := (mkF m 1 #[.val (.ref ob), .val (.long q), .second] [(.ref ob)])) rfl rfl (hb hby d5_1)
  refine own_step st1 ?_
  show own_Fin p.tables e below _ (T1.setTop (mkF m 4 #[.val (.ref ob), .val (.long q), .second] [(.int nt)]))
  have J3 : ∀ (T4 : State) (locs4 : List Loc) (y5 : Int32) (X4 : Stand p l e ({ frames := 0, cells := 0, slots := 0, locals := 0 } : Room) s m #[(.ref ob), (.long q)] below meth c T4 locs4 0 0) (e4 : T4.heap = h0) (N4 : Fr n0 locs4) (gy5 : y5 = (if nt = (0 : Int32) then (0 : Int32) else (if (q - w) < (0 : Int64) then (1 : Int32) else (0 : Int32)))), own_Fin p.tables e below (P5 Z ob q nt w h0 n0 s) (T4.setTop (mkF m 23 #[.val (.ref ob), .val (.long q), .second] [(.int y5)])) := by
    intro T4 locs4 y5 X4 e4 N4 gy5
    obtain ⟨fs6, hr6, hrun6, hended6, hW6, hsame6⟩ := X4.leave (v := some (.int (nar .boolean y5))) (fun h => by rw [Bd.returns] at h; cases h)
    refine own_ret (retN X4 hx (t := .boolean) Bd.returns (by simp) (hb hby d5_23) hr6) hrun6 hended6 ?_
    refine ⟨_, _, rfl, ?_, ⟨_, rfl⟩, hW6, hsame6.mono (by decide) (by decide)⟩
    show Q5 Z ob q nt w h0 n0 _ T4.heap _
    rw [e4]
    refine ⟨congrArg (fun z => some (Value.int z)) ?_, N4, rfl⟩
    rw [gy5]; unfold own_bf; (repeat' split) <;> rfl
  by_cases hc2 : nt = (0 : Int32)
  · refine own_step (fun _ k => XS.ifYes X1.here hx rfl (pc0 := 4) (pc' := 22) rfl (hb hby d5_4) rfl ((if0 _ _).trans (teq hc2).1) (by decide) (by decide) k) ?_
    show own_Fin p.tables e below _ (T1.setTop (mkF m 22 #[.val (.ref ob), .val (.long q), .second] []))
    refine own_step (fun _ k => XS.iconst X1.here hx rfl (hb hby d5_22) k) ?_
    show own_Fin p.tables e below _ (T1.setTop (mkF m 23 #[.val (.ref ob), .val (.long q), .second] [(.int (0 : Int32))]))
    exact J3 T1 _ (0 : Int32) X1 e1 N0 (by rw [if_pos hc2])
  · refine own_step (fun _ k => XS.ifNo X1.here hx rfl (hb hby d5_4) rfl ((if0 _ _).trans (feq hc2).1) k) ?_
    show own_Fin p.tables e below _ (T1.setTop (mkF m 7 #[.val (.ref ob), .val (.long q), .second] []))
    refine own_step (fun _ k => XS.lloadN X1.here hx rfl (hb hby d5_7) rfl k) ?_
    show own_Fin p.tables e below _ (T1.setTop (mkF m 8 #[.val (.ref ob), .val (.long q), .second] [(.long q)]))
    refine own_step (fun _ k => XS.aloadN X1.here hx rfl (hb hby d5_8) rfl rfl k) ?_
    show own_Fin p.tables e below _ (T1.setTop (mkF m 9 #[.val (.ref ob), .val (.long q), .second] [(.ref ob), (.long q)]))
    obtain ⟨T7, X7, e7, st7⟩ := getF X1 hx hZ hown (host := "") (Or.inl (hw _ (List.mem_of_getElem? (i := 16) rfl))) Via.refl e1 Ft0 (g := (mkF m 9 #[.val (.ref ob), .val (.long q), .second] [(.ref ob), (.long q)])) rfl rfl (hb hby d5_9)
    refine own_step st7 ?_
    show own_Fin p.tables e below _ (T7.setTop (mkF m 12 #[.val (.ref ob), .val (.long q), .second] [(.long w), (.long q)]))
    refine own_step (fun _ k => XS.lsub X7.here hx rfl (hb hby d5_12) rfl k) ?_
    show own_Fin p.tables e below _ (T7.setTop (mkF m 13 #[.val (.ref ob), .val (.long q), .second] [(.long (q - w))]))
    refine own_step (fun _ k => XS.lconst X7.here hx rfl (hb hby d5_13) k) ?_
    show own_Fin p.tables e below _ (T7.setTop (mkF m 14 #[.val (.ref ob), .val (.long q), .second] [(.long (0 : Int64)), (.long (q - w))]))
    refine own_step (fun _ k => XS.lcmp X7.here hx rfl (hb hby d5_14) rfl k) ?_
    show own_Fin p.tables e below _ (T7.setTop (mkF m 15 #[.val (.ref ob), .val (.long q), .second] [(.int (lcmpW (q - w) (0 : Int64)))]))
    by_cases hc8 : (q - w) < (0 : Int64)
    · refine own_step (fun _ k => XS.ifNo X7.here hx rfl (hb hby d5_15) rfl ((if0 _ _).trans (tlt ((lw_lt _ _).mpr hc8)).2.1) k) ?_
      show own_Fin p.tables e below _ (T7.setTop (mkF m 18 #[.val (.ref ob), .val (.long q), .second] []))
      refine own_step (fun _ k => XS.iconst X7.here hx rfl (hb hby d5_18) k) ?_
      show own_Fin p.tables e below _ (T7.setTop (mkF m 19 #[.val (.ref ob), .val (.long q), .second] [(.int (1 : Int32))]))
      refine own_step (fun _ k => XS.goto X7.here hx rfl (pc0 := 19) (pc' := 23) rfl (hb hby d5_19) (by decide) (by decide) k) ?_
      show own_Fin p.tables e below _ (T7.setTop (mkF m 23 #[.val (.ref ob), .val (.long q), .second] [(.int (1 : Int32))]))
      exact J3 T7 _ (1 : Int32) X7 e7 N0 (by rw [if_neg hc2, if_pos hc8])
    · refine own_step (fun _ k => XS.ifYes X7.here hx rfl (pc0 := 15) (pc' := 22) rfl (hb hby d5_15) rfl ((if0 _ _).trans (flt (fun q => hc8 ((lw_lt _ _).mp q))).2.1) (by decide) (by decide) k) ?_
      show own_Fin p.tables e below _ (T7.setTop (mkF m 22 #[.val (.ref ob), .val (.long q), .second] []))
      refine own_step (fun _ k => XS.iconst X7.here hx rfl (hb hby d5_22) k) ?_
      show own_Fin p.tables e below _ (T7.setTop (mkF m 23 #[.val (.ref ob), .val (.long q), .second] [(.int (0 : Int32))]))
      exact J3 T7 _ (0 : Int32) X7 e7 N0 (by rw [if_neg hc2, if_neg hc8])
theorem pn_1 : plainName "com/example/riverhop/riverhop/overlay/WakeAtPinLaw" = true := by first | (simp [plainName, overriddenIn]; done) | decide +kernel
theorem ef_0 (m : MethodId) (x0 : Int64) (x1 : Int64) (x2 : Int64) (x3 : Int64) (x4 : Int32) : entryFrame m #[(.long x0), (.long x1), (.long x2), (.long x3), (.int x4)] maxLocals = mkF m 0 #[.val (.long x0), .second, .val (.long x1), .second, .val (.long x2), .second, .val (.long x3), .second, .val (.int x4), .unset, .unset, .unset, .unset, .unset, .unset, .unset, .unset] [] := by first | (simp [entryFrame, mkF, argsToLocals, Value.category, maxLocals]; done) | rfl
def Q0 (Z : State) (qa : Int64) (qb : Int64) (qc : Int64) (qd : Int64) (fl : Int32) (h0 : Heap) (n0 : Nat) (v : Option Value) (h : Heap) (L : List Loc) : Prop := v = some (.int 1) ∧ Fr n0 L
abbrev P0 (Z : State) (qa : Int64) (qb : Int64) (qc : Int64) (qd : Int64) (fl : Int32) (h0 : Heap) (n0 : Nat) (s : State) : Outcome → State → Prop := fun o U' => ∃ v L, o = .returned v ∧ Q0 Z qa qb qc qd fl h0 n0 v U'.heap L ∧ FrameEnd s o U' L room_1.cells room_1.slots
theorem pd_0 : parseMethodDescriptor "()V" = some ⟨[], none⟩ := by decide +kernel
theorem pd_1 : parseMethodDescriptor "(J)V" = some ⟨[.long], none⟩ := by decide +kernel
theorem pd_2 : parseMethodDescriptor "(J)J" = some ⟨[.long], some .long⟩ := by decide +kernel
theorem pd_3 : parseMethodDescriptor "(J)Z" = some ⟨[.long], some .boolean⟩ := by decide +kernel
set_option maxRecDepth 65536 in
set_option maxHeartbeats 40000000 in
theorem rm0 (l : Launch) (Z : State) (a0 : Array Value) (hw : ∀ d ∈ tables_1, d.before a0 Z = true) (ws : List Jvm.Cond) (qa : Int64) (qb : Int64) (qc : Int64) (qd : Int64) (fl : Int32) (h0 : Heap) (n0 : Nat) (Z0 : n0 ≤ h0.size) :
    MetFree l x (head1 (Jvm.Cond.code x code maxLocals ret :: ws) room_1) (fun a U => a = #[(.long qa), (.long qb), (.long qc), (.long qd), (.int fl)] ∧ Z.Warmed39 U.vm ∧ U.heap = h0) (fun _ _ _ _ _ => True) (fun _ U o U' => ∃ v L, o = .returned v ∧ Q0 Z qa qb qc qd fl h0 n0 v U'.heap L ∧ FrameEnd U o U' L room_1.cells room_1.slots) := by
  refine MetFree.of_bodySF (plainFor_of_name pn_1) hisR ?_
  intro p e s m args below meth c s₁ Bd hml0 hP hK
  obtain ⟨rfl, hZ, hh⟩ := hP
  have hx := Bd.exec
  have hby := Bd.bytes
  have hml : c.maxLocals = 17 := hml0
  have hown : s.vm.findClass "com/example/riverhop/riverhop/overlay/WakeAtPinLaw" = some m.cls := findClass_of_methodNamed Bd.named
  have hnm := (name_of_methodNamed Bd.named Bd.method).1
  have X0 : Stand p l e room_1 s m #[(.long qa), (.long qb), (.long qc), (.long qd), (.int fl)] below meth c s₁ [] 0 0 := Stand.of_body Bd
  have e0 : s₁.heap = h0 := by rw [← hh, Bd.state]; rfl
  have N0 := Fr.nil n0
  refine own_enter (P := (P0 Z qa qb qc qd fl h0 n0 s)) (ef_0 m qa qb qc qd fl) ?_
  show own_Fin p.tables e below _ (s₁.setTop (mkF m 0 #[.val (.long qa), .second, .val (.long qb), .second, .val (.long qc), .second, .val (.long qd), .second, .val (.int fl), .unset, .unset, .unset, .unset, .unset, .unset, .unset, .unset] []))
  refine own_step (fun _ k => XS.iload X0.here hx rfl (hb hby at_0) rfl k) ?_
  show own_Fin p.tables e below _ (s₁.setTop (mkF m 2 #[.val (.long qa), .second, .val (.long qb), .second, .val (.long qc), .second, .val (.long qd), .second, .val (.int fl), .unset, .unset, .unset, .unset, .unset, .unset, .unset, .unset] [(.int fl)]))
  refine own_step (fun _ k => XS.iconst X0.here hx rfl (hb hby at_2) k) ?_
  show own_Fin p.tables e below _ (s₁.setTop (mkF m 3 #[.val (.long qa), .second, .val (.long qb), .second, .val (.long qc), .second, .val (.long qd), .second, .val (.int fl), .unset, .unset, .unset, .unset, .unset, .unset, .unset, .unset] [(.int (1 : Int32)), (.int fl)]))
  refine own_step (fun _ k => XS.iand X0.here hx rfl (hb hby at_3) rfl k) ?_
  show own_Fin p.tables e below _ (s₁.setTop (mkF m 4 #[.val (.long qa), .second, .val (.long qb), .second, .val (.long qc), .second, .val (.long qd), .second, .val (.int fl), .unset, .unset, .unset, .unset, .unset, .unset, .unset, .unset] [(.int (fl &&& (1 : Int32)))]))
  have J2 : ∀ (T3 : State) (locs3 : List Loc) (y4 : Int32) (X3 : Stand p l e room_1 s m #[(.long qa), (.long qb), (.long qc), (.long qd), (.int fl)] below meth c T3 locs3 0 0) (e3 : T3.heap = h0) (N3 : Fr n0 locs3) (gy4 : y4 = (if (fl &&& (1 : Int32)) = (0 : Int32) then (0 : Int32) else (1 : Int32))), own_Fin p.tables e below (P0 Z qa qb qc qd fl h0 n0 s) (T3.setTop (mkF m 12 #[.val (.long qa), .second, .val (.long qb), .second, .val (.long qc), .second, .val (.long qd), .second, .val (.int fl), .unset, .unset, .unset, .unset, .unset, .unset, .unset, .unset] [(.int y4)])) := by
    intro T3 locs3 y4 X3 e3 N3 gy4
    refine own_step (fun _ k => XS.istore X3.here hx rfl (hb hby at_12) rfl (l' := #[.val (.long qa), .second, .val (.long qb), .second, .val (.long qc), .second, .val (.long qd), .second, .val (.int fl), .val (.int y4), .unset, .unset, .unset, .unset, .unset, .unset, .unset]) rfl k) ?_
    show own_Fin p.tables e below _ (T3.setTop (mkF m 14 #[.val (.long qa), .second, .val (.long qb), .second, .val (.long qc), .second, .val (.long qd), .second, .val (.int fl), .val (.int y4), .unset, .unset, .unset, .unset, .unset, .unset, .unset] []))
    refine own_step (fun _ k => XS.iload X3.here hx rfl (hb hby at_14) rfl k) ?_
    show own_Fin p.tables e below _ (T3.setTop (mkF m 16 #[.val (.long qa), .second, .val (.long qb), .second, .val (.long qc), .second, .val (.long qd), .second, .val (.int fl), .val (.int y4), .unset, .unset, .unset, .unset, .unset, .unset, .unset] [(.int fl)]))
    refine own_step (fun _ k => XS.iconst X3.here hx rfl (hb hby at_16) k) ?_
    show own_Fin p.tables e below _ (T3.setTop (mkF m 17 #[.val (.long qa), .second, .val (.long qb), .second, .val (.long qc), .second, .val (.long qd), .second, .val (.int fl), .val (.int y4), .unset, .unset, .unset, .unset, .unset, .unset, .unset] [(.int (2 : Int32)), (.int fl)]))
    refine own_step (fun _ k => XS.iand X3.here hx rfl (hb hby at_17) rfl k) ?_
    show own_Fin p.tables e below _ (T3.setTop (mkF m 18 #[.val (.long qa), .second, .val (.long qb), .second, .val (.long qc), .second, .val (.long qd), .second, .val (.int fl), .val (.int y4), .unset, .unset, .unset, .unset, .unset, .unset, .unset] [(.int (fl &&& (2 : Int32)))]))
    have J6 : ∀ (T7 : State) (locs7 : List Loc) (y8 : Int32) (X7 : Stand p l e room_1 s m #[(.long qa), (.long qb), (.long qc), (.long qd), (.int fl)] below meth c T7 locs7 0 0) (e7 : T7.heap = h0) (N7 : Fr n0 locs7) (gy8 : y8 = (if (fl &&& (2 : Int32)) = (0 : Int32) then (0 : Int32) else (1 : Int32))), own_Fin p.tables e below (P0 Z qa qb qc qd fl h0 n0 s) (T7.setTop (mkF m 26 #[.val (.long qa), .second, .val (.long qb), .second, .val (.long qc), .second, .val (.long qd), .second, .val (.int fl), .val (.int y4), .unset, .unset, .unset, .unset, .unset, .unset, .unset] [(.int y8)])) := by
      intro T7 locs7 y8 X7 e7 N7 gy8
      refine own_step (fun _ k => XS.istore X7.here hx rfl (hb hby at_26) rfl (l' := #[.val (.long qa), .second, .val (.long qb), .second, .val (.long qc), .second, .val (.long qd), .second, .val (.int fl), .val (.int y4), .val (.int y8), .unset, .unset, .unset, .unset, .unset, .unset]) rfl k) ?_
      show own_Fin p.tables e below _ (T7.setTop (mkF m 28 #[.val (.long qa), .second, .val (.long qb), .second, .val (.long qc), .second, .val (.long qd), .second, .val (.int fl), .val (.int y4), .val (.int y8), .unset, .unset, .unset, .unset, .unset, .unset] []))
      obtain ⟨T9, h9, X9, e9, E9, A9, D9, -, st9⟩ := newO X7 hx hZ hown (hw _ (List.mem_of_getElem? (i := 0) rfl)) (hw _ (List.mem_of_getElem? (i := 1) rfl)) (hw _ (List.mem_of_getElem? (i := 2) rfl)) e7 (g := (mkF m 28 #[.val (.long qa), .second, .val (.long qb), .second, .val (.long qc), .second, .val (.long qd), .second, .val (.int fl), .val (.int y4), .val (.int y8), .unset, .unset, .unset, .unset, .unset, .unset] [])) rfl (hb hby at_28) (by decide) (by decide)
      obtain ⟨b9, g9⟩ : ∃ z, z = h0.size := ⟨_, rfl⟩
      rw [← g9] at A9 D9 st9
      refine own_step st9 ?_
      have g_b9 : n0 ≤ b9 := Nat.le_trans Z0 (Nat.le_of_eq g9.symm)
      have f10 := Nat.le_trans Z0 E9.1
      have f11 : Fld Z h9 b9 "com/example/riverhop/riverhop/overlay/Wake" "noted" "Z" (.int (0 : Int32)) := D9 (Or.inl (hw _ (List.mem_of_getElem? (i := 15) rfl))) (ty := .boolean) (by decide)
      have f12 : Fld Z h9 b9 "com/example/riverhop/riverhop/overlay/Wake" "at" "J" (.long (0 : Int64)) := D9 (Or.inl (hw _ (List.mem_of_getElem? (i := 17) rfl))) (ty := .long) (by decide)
      show own_Fin p.tables e below _ (T9.setTop (mkF m 31 #[.val (.long qa), .second, .val (.long qb), .second, .val (.long qc), .second, .val (.long qd), .second, .val (.int fl), .val (.int y4), .val (.int y8), .unset, .unset, .unset, .unset, .unset, .unset] [(.ref b9)]))
      refine own_step (fun _ k => XS.dup X9.here hx rfl (hb hby at_31) rfl rfl k) ?_
      show own_Fin p.tables e below _ (T9.setTop (mkF m 32 #[.val (.long qa), .second, .val (.long qb), .second, .val (.long qc), .second, .val (.long qd), .second, .val (.int fl), .val (.int y4), .val (.int y8), .unset, .unset, .unset, .unset, .unset, .unset] [(.ref b9), (.ref b9)]))
      obtain ⟨_, _, ⟨T13, L13, k13, n13⟩, -, X13, ⟨Lc13, hQ13, l13, y13, z13⟩, st13⟩ := X9.specialBack hx (y := (⟨"com/example/riverhop/riverhop/overlay/Wake", "<init>", "()V"⟩ : MethodName)) rfl hown (mvT hZ (hw _ (List.mem_of_getElem? (i := 3) rfl))) (mvT hZ (hw _ (List.mem_of_getElem? (i := 4) rfl))) (mvT hZ (hw _ (List.mem_of_getElem? (i := 5) rfl))) (by decide) (backOf (W := 1) (rm1 l Z a0 hw [] b9  h9 n0 f10 ) hZ (hw _ (List.mem_of_getElem? (i := 5) rfl)) (hw _ (List.mem_of_getElem? (i := 2) rfl)) (by decide) (by decide)) (g := (mkF m 32 #[.val (.long qa), .second, .val (.long qb), .second, .val (.long qc), .second, .val (.long qd), .second, .val (.int fl), .val (.int y4), .val (.int y8), .unset, .unset, .unset, .unset, .unset, .unset] [(.ref b9), (.ref b9)])) rfl (by rw [hml]; rfl) (Steps.refl _) (a := b9) (argsL := []) (rest := [(.ref b9)]) (lenOf pd_0 rfl) rfl (by show 2 * 0 + _ ≤ _; exact Nat.le_of_eq rfl) (hb hby at_32) (fun _ _ => ⟨rfl, e9, (by decide : 1 + 0 ≤ _), (by decide : 2 + 0 ≤ _)⟩)
      dsimp only [Pt.U, Pt.locs, Pt.cells, Pt.slots] at X13 l13 y13 z13 st13 hQ13
      subst l13 y13 z13
      obtain ⟨rfl, N13q, e13⟩ := hQ13
      have N13 := Fr.app N7 N13q
      refine own_steps st13 ?_
      show own_Fin p.tables e below _ (T13.setTop (mkF m 35 #[.val (.long qa), .second, .val (.long qb), .second, .val (.long qc), .second, .val (.long qd), .second, .val (.int fl), .val (.int y4), .val (.int y8), .unset, .unset, .unset, .unset, .unset, .unset] [(.ref b9)]))
      refine own_step (fun _ k => XS.astore X13.here hx rfl (hb hby at_35) rfl rfl (l' := #[.val (.long qa), .second, .val (.long qb), .second, .val (.long qc), .second, .val (.long qd), .second, .val (.int fl), .val (.int y4), .val (.int y8), .val (.ref b9), .unset, .unset, .unset, .unset, .unset]) rfl k) ?_
      show own_Fin p.tables e below _ (T13.setTop (mkF m 37 #[.val (.long qa), .second, .val (.long qb), .second, .val (.long qc), .second, .val (.long qd), .second, .val (.int fl), .val (.int y4), .val (.int y8), .val (.ref b9), .unset, .unset, .unset, .unset, .unset] []))
      refine own_step (fun _ k => XS.iconst X13.here hx rfl (hb hby at_37) k) ?_
      show own_Fin p.tables e below _ (T13.setTop (mkF m 38 #[.val (.long qa), .second, .val (.long qb), .second, .val (.long qc), .second, .val (.long qd), .second, .val (.int fl), .val (.int y4), .val (.int y8), .val (.ref b9), .unset, .unset, .unset, .unset, .unset] [(.int (1 : Int32))]))
      refine own_step (fun _ k => XS.istore X13.here hx rfl (hb hby at_38) rfl (l' := #[.val (.long qa), .second, .val (.long qb), .second, .val (.long qc), .second, .val (.long qd), .second, .val (.int fl), .val (.int y4), .val (.int y8), .val (.ref b9), .val (.int (1 : Int32)), .unset, .unset, .unset, .unset]) rfl k) ?_
      show own_Fin p.tables e below _ (T13.setTop (mkF m 40 #[.val (.long qa), .second, .val (.long qb), .second, .val (.long qc), .second, .val (.long qd), .second, .val (.int fl), .val (.int y4), .val (.int y8), .val (.ref b9), .val (.int (1 : Int32)), .unset, .unset, .unset, .unset] []))
      refine own_step (fun _ k => XS.iload X13.here hx rfl (hb hby at_40) rfl k) ?_
      show own_Fin p.tables e below _ (T13.setTop (mkF m 42 #[.val (.long qa), .second, .val (.long qb), .second, .val (.long qc), .second, .val (.long qd), .second, .val (.int fl), .val (.int y4), .val (.int y8), .val (.ref b9), .val (.int (1 : Int32)), .unset, .unset, .unset, .unset] [(.int y4)]))
      have J15 : ∀ (T16 : State) (locs16 : List Loc) (h16 : Heap) (y19 : Int32) (y21 : Int64) (X16 : Stand p l e room_1 s m #[(.long qa), (.long qb), (.long qc), (.long qd), (.int fl)] below meth c T16 locs16 1 2) (e16 : T16.heap = h16) (N16 : Fr n0 locs16) (gy19 : y19 = (if y4 = (0 : Int32) then (0 : Int32) else (own_n (0 : Int32) qa (0 : Int64)))) (gy21 : y21 = (if y4 = (0 : Int32) then (0 : Int64) else (own_t (0 : Int32) qa (0 : Int64)))) (f17 : n0 ≤ h16.size) (f18 : Exa Z h16 b9 "com/example/riverhop/riverhop/overlay/Wake") (f20 : Fld Z h16 b9 "com/example/riverhop/riverhop/overlay/Wake" "noted" "Z" (.int y19)) (f22 : Fld Z h16 b9 "com/example/riverhop/riverhop/overlay/Wake" "at" "J" (.long y21)), own_Fin p.tables e below (P0 Z qa qb qc qd fl h0 n0 s) (T16.setTop (mkF m 75 #[.val (.long qa), .second, .val (.long qb), .second, .val (.long qc), .second, .val (.long qd), .second, .val (.int fl), .val (.int y4), .val (.int y8), .val (.ref b9), .val (.int (1 : Int32)), .unset, .unset, .unset, .unset] [])) := by
        intro T16 locs16 h16 y19 y21 X16 e16 N16 gy19 gy21 f17 f18 f20 f22
        refine own_step (fun _ k => XS.aload X16.here hx rfl (hb hby at_75) rfl rfl k) ?_
        show own_Fin p.tables e below _ (T16.setTop (mkF m 77 #[.val (.long qa), .second, .val (.long qb), .second, .val (.long qc), .second, .val (.long qd), .second, .val (.int fl), .val (.int y4), .val (.int y8), .val (.ref b9), .val (.int (1 : Int32)), .unset, .unset, .unset, .unset] [(.ref b9)]))
        refine own_step (fun _ k => XS.lloadN X16.here hx rfl (hb hby at_77) rfl k) ?_
        show own_Fin p.tables e below _ (T16.setTop (mkF m 78 #[.val (.long qa), .second, .val (.long qb), .second, .val (.long qc), .second, .val (.long qd), .second, .val (.int fl), .val (.int y4), .val (.int y8), .val (.ref b9), .val (.int (1 : Int32)), .unset, .unset, .unset, .unset] [(.long qb), (.ref b9)]))
        obtain ⟨cq23, kq23, q23a, q23b, q23c⟩ := isOf hZ e16 f18
        obtain ⟨_, _, ⟨T23, L23, k23, n23⟩, -, X23, ⟨Lc23, hQ23, l23, y23, z23⟩, st23⟩ := X16.virtualBack hx (y := (⟨"com/example/riverhop/riverhop/overlay/Wake", "at", "(J)V"⟩ : MethodName)) (z := (⟨"com/example/riverhop/riverhop/overlay/Wake", "at", "(J)V"⟩ : MethodName)) hown (mvT hZ (hw _ (List.mem_of_getElem? (i := 9) rfl))) (mvT hZ (hw _ (List.mem_of_getElem? (i := 10) rfl))) (notFace_of_selects (args := #[]) (mvT hZ (hw _ (List.mem_of_getElem? (i := 12) rfl)))) (mvT hZ (hw _ (List.mem_of_getElem? (i := 12) rfl))) (mvT hZ (hw _ (List.mem_of_getElem? (i := 11) rfl))) (by decide) (backOf (W := 0) (rm3 l Z a0 hw [] b9 qb y19 y21 h16 n0 f17 f20 f22 f18 g_b9) hZ (hw _ (List.mem_of_getElem? (i := 13) rfl)) (hw _ (List.mem_of_getElem? (i := 2) rfl)) (by decide) (by decide)) q23a q23c (g := (mkF m 78 #[.val (.long qa), .second, .val (.long qb), .second, .val (.long qc), .second, .val (.long qd), .second, .val (.int fl), .val (.int y4), .val (.int y8), .val (.ref b9), .val (.int (1 : Int32)), .unset, .unset, .unset, .unset] [(.long qb), (.ref b9)])) rfl (by rw [hml]; rfl) (Steps.refl _) (argsL := [(.long qb)]) (rest := []) (lenOf pd_1 rfl) rfl (by show 2 * 0 + _ ≤ _; exact Nat.le_of_eq rfl) (hb hby at_78) (fun _ _ => ⟨rfl, e16, (by decide : 1 + 0 ≤ _), (by decide : 2 + 0 ≤ _)⟩)
        dsimp only [Pt.U, Pt.locs, Pt.cells, Pt.slots] at X23 l23 y23 z23 st23 hQ23
        subst l23 y23 z23
        obtain ⟨rfl, N23q, K23, fe23, fn23, ft23⟩ := hQ23
        have N23 := Fr.app N16 N23q
        refine own_steps st23 ?_
        have f24 := Nat.le_trans f17 K23.1
        have f25 := f18.keep K23
        show own_Fin p.tables e below _ (T23.setTop (mkF m 81 #[.val (.long qa), .second, .val (.long qb), .second, .val (.long qc), .second, .val (.long qd), .second, .val (.int fl), .val (.int y4), .val (.int y8), .val (.ref b9), .val (.int (1 : Int32)), .unset, .unset, .unset, .unset] []))
        refine own_step (fun _ k => XS.lloadN X23.here hx rfl (hb hby at_81) rfl k) ?_
        show own_Fin p.tables e below _ (T23.setTop (mkF m 82 #[.val (.long qa), .second, .val (.long qb), .second, .val (.long qc), .second, .val (.long qd), .second, .val (.int fl), .val (.int y4), .val (.int y8), .val (.ref b9), .val (.int (1 : Int32)), .unset, .unset, .unset, .unset] [(.long qb)]))
        refine own_step (fun _ k => XS.lstore X23.here hx rfl (hb hby at_82) rfl (l' := #[.val (.long qa), .second, .val (.long qb), .second, .val (.long qc), .second, .val (.long qd), .second, .val (.int fl), .val (.int y4), .val (.int y8), .val (.ref b9), .val (.int (1 : Int32)), .val (.long qb), .second, .unset, .unset]) rfl k) ?_
        show own_Fin p.tables e below _ (T23.setTop (mkF m 84 #[.val (.long qa), .second, .val (.long qb), .second, .val (.long qc), .second, .val (.long qd), .second, .val (.int fl), .val (.int y4), .val (.int y8), .val (.ref b9), .val (.int (1 : Int32)), .val (.long qb), .second, .unset, .unset] []))
        refine own_step (fun _ k => XS.iload X23.here hx rfl (hb hby at_84) rfl k) ?_
        show own_Fin p.tables e below _ (T23.setTop (mkF m 86 #[.val (.long qa), .second, .val (.long qb), .second, .val (.long qc), .second, .val (.long qd), .second, .val (.int fl), .val (.int y4), .val (.int y8), .val (.ref b9), .val (.int (1 : Int32)), .val (.long qb), .second, .unset, .unset] [(.int y4)]))
        have J29 : ∀ (T30 : State) (locs30 : List Loc) (y31 : Int64) (sl32 sl33 : Slot) (X30 : Stand p l e room_1 s m #[(.long qa), (.long qb), (.long qc), (.long qd), (.int fl)] below meth c T30 locs30 1 2) (e30 : T30.heap = T23.heap) (N30 : Fr n0 locs30) (gy31 : y31 = (if y4 = (0 : Int32) then qb else (if (qb - qa) < (0 : Int64) then qb else qa))) (gsl32 : own_Two sl32 sl33), own_Fin p.tables e below (P0 Z qa qb qc qd fl h0 n0 s) (T30.setTop (mkF m 110 #[.val (.long qa), .second, .val (.long qb), .second, .val (.long qc), .second, .val (.long qd), .second, .val (.int fl), .val (.int y4), .val (.int y8), .val (.ref b9), .val (.int (1 : Int32)), .val (.long y31), .second, sl32, sl33] [])) := by
          intro T30 locs30 y31 sl32 sl33 X30 e30 N30 gy31 gsl32
          have hN34 : (own_n y19 qb y21) = (1 : Int32) := by
            simp only [gy19, gy21, own_n, own_t]
            by_cases h1 : y4 = (0 : Int32) <;> by_cases h2 : qb - qa < (0 : Int64) <;> simp [h1, h2]
          have hT34 : (own_t y19 qb y21) = y31 := by
            simp only [gy31, gy19, gy21, own_n, own_t]
            by_cases h1 : y4 = (0 : Int32) <;> by_cases h2 : qb - qa < (0 : Int64) <;> simp [h1, h2]
          rw [hN34] at fn23
          rw [hT34] at ft23
          refine own_step (fun _ k => XS.iload X30.here hx rfl (hb hby at_110) rfl k) ?_
          show own_Fin p.tables e below _ (T30.setTop (mkF m 112 #[.val (.long qa), .second, .val (.long qb), .second, .val (.long qc), .second, .val (.long qd), .second, .val (.int fl), .val (.int y4), .val (.int y8), .val (.ref b9), .val (.int (1 : Int32)), .val (.long y31), .second, sl32, sl33] [(.int y8)]))
          have J36 : ∀ (T37 : State) (locs37 : List Loc) (h37 : Heap) (y38 : Int64) (sl39 sl40 : Slot) (y43 : Int32) (y45 : Int64) (X37 : Stand p l e room_1 s m #[(.long qa), (.long qb), (.long qc), (.long qd), (.int fl)] below meth c T37 locs37 1 2) (e37 : T37.heap = h37) (N37 : Fr n0 locs37) (gy38 : y38 = (if y8 = (0 : Int32) then y31 else (if (qc - y31) < (0 : Int64) then qc else y31))) (gsl39 : own_Two sl39 sl40) (gy43 : y43 = (if y8 = (0 : Int32) then (1 : Int32) else (if (qc - y31) < (0 : Int64) then (own_n (1 : Int32) qc y31) else (own_n (1 : Int32) qc y31)))) (gy45 : y45 = (if y8 = (0 : Int32) then y31 else (if (qc - y31) < (0 : Int64) then (own_t (1 : Int32) qc y31) else (own_t (1 : Int32) qc y31)))) (f41 : n0 ≤ h37.size) (f42 : Exa Z h37 b9 "com/example/riverhop/riverhop/overlay/Wake") (f44 : Fld Z h37 b9 "com/example/riverhop/riverhop/overlay/Wake" "noted" "Z" (.int y43)) (f46 : Fld Z h37 b9 "com/example/riverhop/riverhop/overlay/Wake" "at" "J" (.long y45)), own_Fin p.tables e below (P0 Z qa qb qc qd fl h0 n0 s) (T37.setTop (mkF m 140 #[.val (.long qa), .second, .val (.long qb), .second, .val (.long qc), .second, .val (.long qd), .second, .val (.int fl), .val (.int y4), .val (.int y8), .val (.ref b9), .val (.int (1 : Int32)), .val (.long y38), .second, sl39, sl40] [])) := by
            intro T37 locs37 h37 y38 sl39 sl40 y43 y45 X37 e37 N37 gy38 gsl39 gy43 gy45 f41 f42 f44 f46
            have hN47 : y43 = (1 : Int32) := by
              rw [gy43]; unfold own_n; by_cases h1 : y8 = (0 : Int32)
              · rw [if_pos h1]
              · rw [if_neg h1, if_neg (by decide : ¬ ((1 : Int32) = 0))]; split <;> rfl
            have hT47 : y45 = y38 := by
              rw [gy45, gy38]; unfold own_t; by_cases h1 : y8 = (0 : Int32)
              · rw [if_pos h1, if_pos h1]
              · simp only [if_neg h1, if_neg (by decide : ¬ ((1 : Int32) = 0))]; by_cases h2 : qc - y31 < (0 : Int64) <;> simp only [h2, if_true, if_false, reduceIte]
            rw [hN47] at f44
            rw [hT47] at f46
            refine own_step (fun _ k => XS.lload X37.here hx rfl (hb hby at_140) rfl k) ?_
            show own_Fin p.tables e below _ (T37.setTop (mkF m 142 #[.val (.long qa), .second, .val (.long qb), .second, .val (.long qc), .second, .val (.long qd), .second, .val (.int fl), .val (.int y4), .val (.int y8), .val (.ref b9), .val (.int (1 : Int32)), .val (.long y38), .second, sl39, sl40] [(.long qd)]))
            refine own_step (fun _ k => XS.lload X37.here hx rfl (hb hby at_142) rfl k) ?_
            show own_Fin p.tables e below _ (T37.setTop (mkF m 144 #[.val (.long qa), .second, .val (.long qb), .second, .val (.long qc), .second, .val (.long qd), .second, .val (.int fl), .val (.int y4), .val (.int y8), .val (.ref b9), .val (.int (1 : Int32)), .val (.long y38), .second, sl39, sl40] [(.long y38), (.long qd)]))
            refine own_step (fun _ k => XS.lsub X37.here hx rfl (hb hby at_144) rfl k) ?_
            show own_Fin p.tables e below _ (T37.setTop (mkF m 145 #[.val (.long qa), .second, .val (.long qb), .second, .val (.long qc), .second, .val (.long qd), .second, .val (.int fl), .val (.int y4), .val (.int y8), .val (.ref b9), .val (.int (1 : Int32)), .val (.long y38), .second, sl39, sl40] [(.long (qd - y38))]))
            refine own_step (fun _ k => XS.lstore X37.here hx rfl (hb hby at_145) rfl (l' := #[.val (.long qa), .second, .val (.long qb), .second, .val (.long qc), .second, .val (.long qd), .second, .val (.int fl), .val (.int y4), .val (.int y8), .val (.ref b9), .val (.int (1 : Int32)), .val (.long y38), .second, .val (.long (qd - y38)), .second]) (by rcases gsl39 with ⟨rfl, rfl⟩ | ⟨v, rfl, rfl⟩ <;> rfl) k) ?_
            show own_Fin p.tables e below _ (T37.setTop (mkF m 147 #[.val (.long qa), .second, .val (.long qb), .second, .val (.long qc), .second, .val (.long qd), .second, .val (.int fl), .val (.int y4), .val (.int y8), .val (.ref b9), .val (.int (1 : Int32)), .val (.long y38), .second, .val (.long (qd - y38)), .second] []))
            refine own_step (fun _ k => XS.iload X37.here hx rfl (hb hby at_147) rfl k) ?_
            show own_Fin p.tables e below _ (T37.setTop (mkF m 149 #[.val (.long qa), .second, .val (.long qb), .second, .val (.long qc), .second, .val (.long qd), .second, .val (.int fl), .val (.int y4), .val (.int y8), .val (.ref b9), .val (.int (1 : Int32)), .val (.long y38), .second, .val (.long (qd - y38)), .second] [(.int (1 : Int32))]))
            refine own_step (fun _ k => XS.ifNo X37.here hx rfl (hb hby at_149) rfl ((if0 _ _).trans (feq (by decide : ¬ ((1 : Int32) = (0 : Int32)))).1) k) ?_
            show own_Fin p.tables e below _ (T37.setTop (mkF m 152 #[.val (.long qa), .second, .val (.long qb), .second, .val (.long qc), .second, .val (.long qd), .second, .val (.int fl), .val (.int y4), .val (.int y8), .val (.ref b9), .val (.int (1 : Int32)), .val (.long y38), .second, .val (.long (qd - y38)), .second] []))
            refine own_step (fun _ k => XS.aload X37.here hx rfl (hb hby at_152) rfl rfl k) ?_
            show own_Fin p.tables e below _ (T37.setTop (mkF m 154 #[.val (.long qa), .second, .val (.long qb), .second, .val (.long qc), .second, .val (.long qd), .second, .val (.int fl), .val (.int y4), .val (.int y8), .val (.ref b9), .val (.int (1 : Int32)), .val (.long y38), .second, .val (.long (qd - y38)), .second] [(.ref b9)]))
            refine own_step (fun _ k => XS.lload X37.here hx rfl (hb hby at_154) rfl k) ?_
            show own_Fin p.tables e below _ (T37.setTop (mkF m 156 #[.val (.long qa), .second, .val (.long qb), .second, .val (.long qc), .second, .val (.long qd), .second, .val (.int fl), .val (.int y4), .val (.int y8), .val (.ref b9), .val (.int (1 : Int32)), .val (.long y38), .second, .val (.long (qd - y38)), .second] [(.long qd), (.ref b9)]))
            obtain ⟨cq48, kq48, q48a, q48b, q48c⟩ := isOf hZ e37 f42
            obtain ⟨_, _, ⟨T48, L48, k48, n48⟩, -, X48, ⟨Lc48, hQ48, l48, y48, z48⟩, st48⟩ := X37.virtualBack hx (y := (⟨"com/example/riverhop/riverhop/overlay/Wake", "orElse", "(J)J"⟩ : MethodName)) (z := (⟨"com/example/riverhop/riverhop/overlay/Wake", "orElse", "(J)J"⟩ : MethodName)) hown (mvT hZ (hw _ (List.mem_of_getElem? (i := 18) rfl))) (mvT hZ (hw _ (List.mem_of_getElem? (i := 19) rfl))) (notFace_of_selects (args := #[]) (mvT hZ (hw _ (List.mem_of_getElem? (i := 21) rfl)))) (mvT hZ (hw _ (List.mem_of_getElem? (i := 21) rfl))) (mvT hZ (hw _ (List.mem_of_getElem? (i := 20) rfl))) (by decide) (backOf (W := 0) (rm4 l Z a0 hw [] b9 qd (1 : Int32) y38 h37 n0 f41 f44 f46) hZ (hw _ (List.mem_of_getElem? (i := 22) rfl)) (hw _ (List.mem_of_getElem? (i := 2) rfl)) (by decide) (by decide)) q48a q48c (g := (mkF m 156 #[.val (.long qa), .second, .val (.long qb), .second, .val (.long qc), .second, .val (.long qd), .second, .val (.int fl), .val (.int y4), .val (.int y8), .val (.ref b9), .val (.int (1 : Int32)), .val (.long y38), .second, .val (.long (qd - y38)), .second] [(.long qd), (.ref b9)])) rfl (by rw [hml]; rfl) (Steps.refl _) (argsL := [(.long qd)]) (rest := []) (lenOf pd_2 rfl) rfl (by show 2 * 0 + _ ≤ _; exact Nat.le_of_eq rfl) (hb hby at_156) (fun _ _ => ⟨rfl, e37, (by decide : 1 + 0 ≤ _), (by decide : 2 + 0 ≤ _)⟩)
            dsimp only [Pt.U, Pt.locs, Pt.cells, Pt.slots] at X48 l48 y48 z48 st48 hQ48
            subst l48 y48 z48
            obtain ⟨rfl, N48q, e48⟩ := hQ48
            have N48 := Fr.app N37 N48q
            refine own_steps st48 ?_
            show own_Fin p.tables e below _ (T48.setTop (mkF m 159 #[.val (.long qa), .second, .val (.long qb), .second, .val (.long qc), .second, .val (.long qd), .second, .val (.int fl), .val (.int y4), .val (.int y8), .val (.ref b9), .val (.int (1 : Int32)), .val (.long y38), .second, .val (.long (qd - y38)), .second] [(.long (own_or (1 : Int32) y38 qd))]))
            refine own_step (fun _ k => XS.lload X48.here hx rfl (hb hby at_159) rfl k) ?_
            show own_Fin p.tables e below _ (T48.setTop (mkF m 161 #[.val (.long qa), .second, .val (.long qb), .second, .val (.long qc), .second, .val (.long qd), .second, .val (.int fl), .val (.int y4), .val (.int y8), .val (.ref b9), .val (.int (1 : Int32)), .val (.long y38), .second, .val (.long (qd - y38)), .second] [(.long y38), (.long (own_or (1 : Int32) y38 qd))]))
            refine own_step (fun _ k => XS.lcmp X48.here hx rfl (hb hby at_161) rfl k) ?_
            show own_Fin p.tables e below _ (T48.setTop (mkF m 162 #[.val (.long qa), .second, .val (.long qb), .second, .val (.long qc), .second, .val (.long qd), .second, .val (.int fl), .val (.int y4), .val (.int y8), .val (.ref b9), .val (.int (1 : Int32)), .val (.long y38), .second, .val (.long (qd - y38)), .second] [(.int (lcmpW (own_or (1 : Int32) y38 qd) y38))]))
            have ha49 : (own_or (1 : Int32) y38 qd) = y38 := by
              simp [own_or]
            refine own_step (fun _ k => XS.ifNo X48.here hx rfl (hb hby at_162) rfl ((if0 _ _).trans (teq ((lw_eq _ _).mpr ha49)).2) k) ?_
            show own_Fin p.tables e below _ (T48.setTop (mkF m 165 #[.val (.long qa), .second, .val (.long qb), .second, .val (.long qc), .second, .val (.long qd), .second, .val (.int fl), .val (.int y4), .val (.int y8), .val (.ref b9), .val (.int (1 : Int32)), .val (.long y38), .second, .val (.long (qd - y38)), .second] []))
            refine own_step (fun _ k => XS.aload X48.here hx rfl (hb hby at_165) rfl rfl k) ?_
            show own_Fin p.tables e below _ (T48.setTop (mkF m 167 #[.val (.long qa), .second, .val (.long qb), .second, .val (.long qc), .second, .val (.long qd), .second, .val (.int fl), .val (.int y4), .val (.int y8), .val (.ref b9), .val (.int (1 : Int32)), .val (.long y38), .second, .val (.long (qd - y38)), .second] [(.ref b9)]))
            refine own_step (fun _ k => XS.lload X48.here hx rfl (hb hby at_167) rfl k) ?_
            show own_Fin p.tables e below _ (T48.setTop (mkF m 169 #[.val (.long qa), .second, .val (.long qb), .second, .val (.long qc), .second, .val (.long qd), .second, .val (.int fl), .val (.int y4), .val (.int y8), .val (.ref b9), .val (.int (1 : Int32)), .val (.long y38), .second, .val (.long (qd - y38)), .second] [(.long qd), (.ref b9)]))
            obtain ⟨cq50, kq50, q50a, q50b, q50c⟩ := isOf hZ e48 f42
            obtain ⟨_, _, ⟨T50, L50, k50, n50⟩, -, X50, ⟨Lc50, hQ50, l50, y50, z50⟩, st50⟩ := X48.virtualBack hx (y := (⟨"com/example/riverhop/riverhop/overlay/Wake", "before", "(J)Z"⟩ : MethodName)) (z := (⟨"com/example/riverhop/riverhop/overlay/Wake", "before", "(J)Z"⟩ : MethodName)) hown (mvT hZ (hw _ (List.mem_of_getElem? (i := 23) rfl))) (mvT hZ (hw _ (List.mem_of_getElem? (i := 24) rfl))) (notFace_of_selects (args := #[]) (mvT hZ (hw _ (List.mem_of_getElem? (i := 26) rfl)))) (mvT hZ (hw _ (List.mem_of_getElem? (i := 26) rfl))) (mvT hZ (hw _ (List.mem_of_getElem? (i := 25) rfl))) (by decide) (backOf (W := 0) (rm5 l Z a0 hw [] b9 qd (1 : Int32) y38 h37 n0 f41 f44 f46) hZ (hw _ (List.mem_of_getElem? (i := 27) rfl)) (hw _ (List.mem_of_getElem? (i := 2) rfl)) (by decide) (by decide)) q50a q50c (g := (mkF m 169 #[.val (.long qa), .second, .val (.long qb), .second, .val (.long qc), .second, .val (.long qd), .second, .val (.int fl), .val (.int y4), .val (.int y8), .val (.ref b9), .val (.int (1 : Int32)), .val (.long y38), .second, .val (.long (qd - y38)), .second] [(.long qd), (.ref b9)])) rfl (by rw [hml]; rfl) (Steps.refl _) (argsL := [(.long qd)]) (rest := []) (lenOf pd_3 rfl) rfl (by show 2 * 0 + _ ≤ _; exact Nat.le_of_eq rfl) (hb hby at_169) (fun _ _ => ⟨rfl, e48, (by decide : 1 + 0 ≤ _), (by decide : 2 + 0 ≤ _)⟩)
            dsimp only [Pt.U, Pt.locs, Pt.cells, Pt.slots] at X50 l50 y50 z50 st50 hQ50
            subst l50 y50 z50
            obtain ⟨rfl, N50q, e50⟩ := hQ50
            have N50 := Fr.app N48 N50q
            refine own_steps st50 ?_
            show own_Fin p.tables e below _ (T50.setTop (mkF m 172 #[.val (.long qa), .second, .val (.long qb), .second, .val (.long qc), .second, .val (.long qd), .second, .val (.int fl), .val (.int y4), .val (.int y8), .val (.ref b9), .val (.int (1 : Int32)), .val (.long y38), .second, .val (.long (qd - y38)), .second] [(.int (own_bf (1 : Int32) y38 qd))]))
            refine own_step (fun _ k => XS.lload X50.here hx rfl (hb hby at_172) rfl k) ?_
            show own_Fin p.tables e below _ (T50.setTop (mkF m 174 #[.val (.long qa), .second, .val (.long qb), .second, .val (.long qc), .second, .val (.long qd), .second, .val (.int fl), .val (.int y4), .val (.int y8), .val (.ref b9), .val (.int (1 : Int32)), .val (.long y38), .second, .val (.long (qd - y38)), .second] [(.long (qd - y38)), (.int (own_bf (1 : Int32) y38 qd))]))
            refine own_step (fun _ k => XS.lconst X50.here hx rfl (hb hby at_174) k) ?_
            show own_Fin p.tables e below _ (T50.setTop (mkF m 175 #[.val (.long qa), .second, .val (.long qb), .second, .val (.long qc), .second, .val (.long qd), .second, .val (.int fl), .val (.int y4), .val (.int y8), .val (.ref b9), .val (.int (1 : Int32)), .val (.long y38), .second, .val (.long (qd - y38)), .second] [(.long (0 : Int64)), (.long (qd - y38)), (.int (own_bf (1 : Int32) y38 qd))]))
            refine own_step (fun _ k => XS.lcmp X50.here hx rfl (hb hby at_175) rfl k) ?_
            show own_Fin p.tables e below _ (T50.setTop (mkF m 176 #[.val (.long qa), .second, .val (.long qb), .second, .val (.long qc), .second, .val (.long qd), .second, .val (.int fl), .val (.int y4), .val (.int y8), .val (.ref b9), .val (.int (1 : Int32)), .val (.long y38), .second, .val (.long (qd - y38)), .second] [(.int (lcmpW (qd - y38) (0 : Int64))), (.int (own_bf (1 : Int32) y38 qd))]))
            have J52 : ∀ (T53 : State) (locs53 : List Loc) (y54 : Int32) (X53 : Stand p l e room_1 s m #[(.long qa), (.long qb), (.long qc), (.long qd), (.int fl)] below meth c T53 locs53 1 2) (e53 : T53.heap = h37) (N53 : Fr n0 locs53) (gy54 : y54 = (if (qd - y38) < (0 : Int64) then (1 : Int32) else (0 : Int32))), own_Fin p.tables e below (P0 Z qa qb qc qd fl h0 n0 s) (T53.setTop (mkF m 184 #[.val (.long qa), .second, .val (.long qb), .second, .val (.long qc), .second, .val (.long qd), .second, .val (.int fl), .val (.int y4), .val (.int y8), .val (.ref b9), .val (.int (1 : Int32)), .val (.long y38), .second, .val (.long (qd - y38)), .second] [(.int y54), (.int (own_bf (1 : Int32) y38 qd))])) := by
              intro T53 locs53 y54 X53 e53 N53 gy54
              have ha55 : (own_bf (1 : Int32) y38 qd) = y54 := by
                rw [gy54]; simp [own_bf]
              refine own_step (fun _ k => XS.icmpNo X53.here hx rfl (hb hby at_184) rfl ((teq ha55).2) k) ?_
              show own_Fin p.tables e below _ (T53.setTop (mkF m 187 #[.val (.long qa), .second, .val (.long qb), .second, .val (.long qc), .second, .val (.long qd), .second, .val (.int fl), .val (.int y4), .val (.int y8), .val (.ref b9), .val (.int (1 : Int32)), .val (.long y38), .second, .val (.long (qd - y38)), .second] []))
              refine own_step (fun _ k => XS.iconst X53.here hx rfl (hb hby at_187) k) ?_
              show own_Fin p.tables e below _ (T53.setTop (mkF m 188 #[.val (.long qa), .second, .val (.long qb), .second, .val (.long qc), .second, .val (.long qd), .second, .val (.int fl), .val (.int y4), .val (.int y8), .val (.ref b9), .val (.int (1 : Int32)), .val (.long y38), .second, .val (.long (qd - y38)), .second] [(.int (1 : Int32))]))
              refine own_step (fun _ k => XS.goto X53.here hx rfl (pc0 := 188) (pc' := 192) rfl (hb hby at_188) (by decide) (by decide) k) ?_
              show own_Fin p.tables e below _ (T53.setTop (mkF m 192 #[.val (.long qa), .second, .val (.long qb), .second, .val (.long qc), .second, .val (.long qd), .second, .val (.int fl), .val (.int y4), .val (.int y8), .val (.ref b9), .val (.int (1 : Int32)), .val (.long y38), .second, .val (.long (qd - y38)), .second] [(.int (1 : Int32))]))
              obtain ⟨fs56, hr56, hrun56, hended56, hW56, hsame56⟩ := X53.leave (v := some (.int (nar .boolean (1 : Int32)))) (fun h => by rw [Bd.returns] at h; cases h)
              refine own_ret (retN X53 hx (t := .boolean) Bd.returns (by simp) (hb hby at_192) hr56) hrun56 hended56 ?_
              refine ⟨_, _, rfl, ?_, ⟨_, rfl⟩, hW56, hsame56.mono (by decide) (by decide)⟩
              show Q0 Z qa qb qc qd fl h0 n0 _ T53.heap _
              rw [e53]
              exact ⟨rfl, N53⟩
            by_cases hc51 : (qd - y38) < (0 : Int64)
            · refine own_step (fun _ k => XS.ifNo X50.here hx rfl (hb hby at_176) rfl ((if0 _ _).trans (tlt ((lw_lt _ _).mpr hc51)).2.1) k) ?_
              show own_Fin p.tables e below _ (T50.setTop (mkF m 179 #[.val (.long qa), .second, .val (.long qb), .second, .val (.long qc), .second, .val (.long qd), .second, .val (.int fl), .val (.int y4), .val (.int y8), .val (.ref b9), .val (.int (1 : Int32)), .val (.long y38), .second, .val (.long (qd - y38)), .second] [(.int (own_bf (1 : Int32) y38 qd))]))
              refine own_step (fun _ k => XS.iconst X50.here hx rfl (hb hby at_179) k) ?_
              show own_Fin p.tables e below _ (T50.setTop (mkF m 180 #[.val (.long qa), .second, .val (.long qb), .second, .val (.long qc), .second, .val (.long qd), .second, .val (.int fl), .val (.int y4), .val (.int y8), .val (.ref b9), .val (.int (1 : Int32)), .val (.long y38), .second, .val (.long (qd - y38)), .second] [(.int (1 : Int32)), (.int (own_bf (1 : Int32) y38 qd))]))
              refine own_step (fun _ k => XS.goto X50.here hx rfl (pc0 := 180) (pc' := 184) rfl (hb hby at_180) (by decide) (by decide) k) ?_
              show own_Fin p.tables e below _ (T50.setTop (mkF m 184 #[.val (.long qa), .second, .val (.long qb), .second, .val (.long qc), .second, .val (.long qd), .second, .val (.int fl), .val (.int y4), .val (.int y8), .val (.ref b9), .val (.int (1 : Int32)), .val (.long y38), .second, .val (.long (qd - y38)), .second] [(.int (1 : Int32)), (.int (own_bf (1 : Int32) y38 qd))]))
              exact J52 T50 _ (1 : Int32) X50 e50 N50 (by rw [if_pos hc51])
            · refine own_step (fun _ k => XS.ifYes X50.here hx rfl (pc0 := 176) (pc' := 183) rfl (hb hby at_176) rfl ((if0 _ _).trans (flt (fun q => hc51 ((lw_lt _ _).mp q))).2.1) (by decide) (by decide) k) ?_
              show own_Fin p.tables e below _ (T50.setTop (mkF m 183 #[.val (.long qa), .second, .val (.long qb), .second, .val (.long qc), .second, .val (.long qd), .second, .val (.int fl), .val (.int y4), .val (.int y8), .val (.ref b9), .val (.int (1 : Int32)), .val (.long y38), .second, .val (.long (qd - y38)), .second] [(.int (own_bf (1 : Int32) y38 qd))]))
              refine own_step (fun _ k => XS.iconst X50.here hx rfl (hb hby at_183) k) ?_
              show own_Fin p.tables e below _ (T50.setTop (mkF m 184 #[.val (.long qa), .second, .val (.long qb), .second, .val (.long qc), .second, .val (.long qd), .second, .val (.int fl), .val (.int y4), .val (.int y8), .val (.ref b9), .val (.int (1 : Int32)), .val (.long y38), .second, .val (.long (qd - y38)), .second] [(.int (0 : Int32)), (.int (own_bf (1 : Int32) y38 qd))]))
              exact J52 T50 _ (0 : Int32) X50 e50 N50 (by rw [if_neg hc51])
          by_cases hc35 : y8 = (0 : Int32)
          · refine own_step (fun _ k => XS.ifYes X30.here hx rfl (pc0 := 112) (pc' := 140) rfl (hb hby at_112) rfl ((if0 _ _).trans (teq hc35).1) (by decide) (by decide) k) ?_
            show own_Fin p.tables e below _ (T30.setTop (mkF m 140 #[.val (.long qa), .second, .val (.long qb), .second, .val (.long qc), .second, .val (.long qd), .second, .val (.int fl), .val (.int y4), .val (.int y8), .val (.ref b9), .val (.int (1 : Int32)), .val (.long y31), .second, sl32, sl33] []))
            exact J36 T30 _ T23.heap y31 (sl32) (sl33) (1 : Int32) y31 X30 e30 N30 (by rw [if_pos hc35]) (by first | exact own_Two.u | exact own_Two.l | assumption) (by rw [if_pos hc35]) (by rw [if_pos hc35]) f24 fe23 fn23 ft23
          · refine own_step (fun _ k => XS.ifNo X30.here hx rfl (hb hby at_112) rfl ((if0 _ _).trans (feq hc35).1) k) ?_
            show own_Fin p.tables e below _ (T30.setTop (mkF m 115 #[.val (.long qa), .second, .val (.long qb), .second, .val (.long qc), .second, .val (.long qd), .second, .val (.int fl), .val (.int y4), .val (.int y8), .val (.ref b9), .val (.int (1 : Int32)), .val (.long y31), .second, sl32, sl33] []))
            refine own_step (fun _ k => XS.aload X30.here hx rfl (hb hby at_115) rfl rfl k) ?_
            show own_Fin p.tables e below _ (T30.setTop (mkF m 117 #[.val (.long qa), .second, .val (.long qb), .second, .val (.long qc), .second, .val (.long qd), .second, .val (.int fl), .val (.int y4), .val (.int y8), .val (.ref b9), .val (.int (1 : Int32)), .val (.long y31), .second, sl32, sl33] [(.ref b9)]))
            refine own_step (fun _ k => XS.lload X30.here hx rfl (hb hby at_117) rfl k) ?_
            show own_Fin p.tables e below _ (T30.setTop (mkF m 119 #[.val (.long qa), .second, .val (.long qb), .second, .val (.long qc), .second, .val (.long qd), .second, .val (.int fl), .val (.int y4), .val (.int y8), .val (.ref b9), .val (.int (1 : Int32)), .val (.long y31), .second, sl32, sl33] [(.long qc), (.ref b9)]))
            obtain ⟨cq57, kq57, q57a, q57b, q57c⟩ := isOf hZ e30 fe23
            obtain ⟨_, _, ⟨T57, L57, k57, n57⟩, -, X57, ⟨Lc57, hQ57, l57, y57, z57⟩, st57⟩ := X30.virtualBack hx (y := (⟨"com/example/riverhop/riverhop/overlay/Wake", "at", "(J)V"⟩ : MethodName)) (z := (⟨"com/example/riverhop/riverhop/overlay/Wake", "at", "(J)V"⟩ : MethodName)) hown (mvT hZ (hw _ (List.mem_of_getElem? (i := 9) rfl))) (mvT hZ (hw _ (List.mem_of_getElem? (i := 10) rfl))) (notFace_of_selects (args := #[]) (mvT hZ (hw _ (List.mem_of_getElem? (i := 12) rfl)))) (mvT hZ (hw _ (List.mem_of_getElem? (i := 12) rfl))) (mvT hZ (hw _ (List.mem_of_getElem? (i := 11) rfl))) (by decide) (backOf (W := 0) (rm3 l Z a0 hw [] b9 qc (1 : Int32) y31 T23.heap n0 f24 fn23 ft23 fe23 g_b9) hZ (hw _ (List.mem_of_getElem? (i := 13) rfl)) (hw _ (List.mem_of_getElem? (i := 2) rfl)) (by decide) (by decide)) q57a q57c (g := (mkF m 119 #[.val (.long qa), .second, .val (.long qb), .second, .val (.long qc), .second, .val (.long qd), .second, .val (.int fl), .val (.int y4), .val (.int y8), .val (.ref b9), .val (.int (1 : Int32)), .val (.long y31), .second, sl32, sl33] [(.long qc), (.ref b9)])) rfl (by rw [hml]; rfl) (Steps.refl _) (argsL := [(.long qc)]) (rest := []) (lenOf pd_1 rfl) rfl (by show 2 * 0 + _ ≤ _; exact Nat.le_of_eq rfl) (hb hby at_119) (fun _ _ => ⟨rfl, e30, (by decide : 1 + 0 ≤ _), (by decide : 2 + 0 ≤ _)⟩)
            dsimp only [Pt.U, Pt.locs, Pt.cells, Pt.slots] at X57 l57 y57 z57 st57 hQ57
            subst l57 y57 z57
            obtain ⟨rfl, N57q, K57, fe57, fn57, ft57⟩ := hQ57
            have N57 := Fr.app N30 N57q
            refine own_steps st57 ?_
            have f58 := Nat.le_trans f24 K57.1
            have f59 := fe23.keep K57
            show own_Fin p.tables e below _ (T57.setTop (mkF m 122 #[.val (.long qa), .second, .val (.long qb), .second, .val (.long qc), .second, .val (.long qd), .second, .val (.int fl), .val (.int y4), .val (.int y8), .val (.ref b9), .val (.int (1 : Int32)), .val (.long y31), .second, sl32, sl33] []))
            refine own_step (fun _ k => XS.lload X57.here hx rfl (hb hby at_122) rfl k) ?_
            show own_Fin p.tables e below _ (T57.setTop (mkF m 124 #[.val (.long qa), .second, .val (.long qb), .second, .val (.long qc), .second, .val (.long qd), .second, .val (.int fl), .val (.int y4), .val (.int y8), .val (.ref b9), .val (.int (1 : Int32)), .val (.long y31), .second, sl32, sl33] [(.long qc)]))
            refine own_step (fun _ k => XS.lload X57.here hx rfl (hb hby at_124) rfl k) ?_
            show own_Fin p.tables e below _ (T57.setTop (mkF m 126 #[.val (.long qa), .second, .val (.long qb), .second, .val (.long qc), .second, .val (.long qd), .second, .val (.int fl), .val (.int y4), .val (.int y8), .val (.ref b9), .val (.int (1 : Int32)), .val (.long y31), .second, sl32, sl33] [(.long y31), (.long qc)]))
            refine own_step (fun _ k => XS.lsub X57.here hx rfl (hb hby at_126) rfl k) ?_
            show own_Fin p.tables e below _ (T57.setTop (mkF m 127 #[.val (.long qa), .second, .val (.long qb), .second, .val (.long qc), .second, .val (.long qd), .second, .val (.int fl), .val (.int y4), .val (.int y8), .val (.ref b9), .val (.int (1 : Int32)), .val (.long y31), .second, sl32, sl33] [(.long (qc - y31))]))
            refine own_step (fun _ k => XS.lstore X57.here hx rfl (hb hby at_127) rfl (l' := #[.val (.long qa), .second, .val (.long qb), .second, .val (.long qc), .second, .val (.long qd), .second, .val (.int fl), .val (.int y4), .val (.int y8), .val (.ref b9), .val (.int (1 : Int32)), .val (.long y31), .second, .val (.long (qc - y31)), .second]) (by rcases gsl32 with ⟨rfl, rfl⟩ | ⟨v, rfl, rfl⟩ <;> rfl) k) ?_
            show own_Fin p.tables e below _ (T57.setTop (mkF m 129 #[.val (.long qa), .second, .val (.long qb), .second, .val (.long qc), .second, .val (.long qd), .second, .val (.int fl), .val (.int y4), .val (.int y8), .val (.ref b9), .val (.int (1 : Int32)), .val (.long y31), .second, .val (.long (qc - y31)), .second] []))
            refine own_step (fun _ k => XS.lload X57.here hx rfl (hb hby at_129) rfl k) ?_
            show own_Fin p.tables e below _ (T57.setTop (mkF m 131 #[.val (.long qa), .second, .val (.long qb), .second, .val (.long qc), .second, .val (.long qd), .second, .val (.int fl), .val (.int y4), .val (.int y8), .val (.ref b9), .val (.int (1 : Int32)), .val (.long y31), .second, .val (.long (qc - y31)), .second] [(.long (qc - y31))]))
            refine own_step (fun _ k => XS.lconst X57.here hx rfl (hb hby at_131) k) ?_
            show own_Fin p.tables e below _ (T57.setTop (mkF m 132 #[.val (.long qa), .second, .val (.long qb), .second, .val (.long qc), .second, .val (.long qd), .second, .val (.int fl), .val (.int y4), .val (.int y8), .val (.ref b9), .val (.int (1 : Int32)), .val (.long y31), .second, .val (.long (qc - y31)), .second] [(.long (0 : Int64)), (.long (qc - y31))]))
            refine own_step (fun _ k => XS.lcmp X57.here hx rfl (hb hby at_132) rfl k) ?_
            show own_Fin p.tables e below _ (T57.setTop (mkF m 133 #[.val (.long qa), .second, .val (.long qb), .second, .val (.long qc), .second, .val (.long qd), .second, .val (.int fl), .val (.int y4), .val (.int y8), .val (.ref b9), .val (.int (1 : Int32)), .val (.long y31), .second, .val (.long (qc - y31)), .second] [(.int (lcmpW (qc - y31) (0 : Int64)))]))
            by_cases hc62 : (qc - y31) < (0 : Int64)
            · refine own_step (fun _ k => XS.ifNo X57.here hx rfl (hb hby at_133) rfl ((if0 _ _).trans (tlt ((lw_lt _ _).mpr hc62)).2.1) k) ?_
              show own_Fin p.tables e below _ (T57.setTop (mkF m 136 #[.val (.long qa), .second, .val (.long qb), .second, .val (.long qc), .second, .val (.long qd), .second, .val (.int fl), .val (.int y4), .val (.int y8), .val (.ref b9), .val (.int (1 : Int32)), .val (.long y31), .second, .val (.long (qc - y31)), .second] []))
              refine own_step (fun _ k => XS.lload X57.here hx rfl (hb hby at_136) rfl k) ?_
              show own_Fin p.tables e below _ (T57.setTop (mkF m 138 #[.val (.long qa), .second, .val (.long qb), .second, .val (.long qc), .second, .val (.long qd), .second, .val (.int fl), .val (.int y4), .val (.int y8), .val (.ref b9), .val (.int (1 : Int32)), .val (.long y31), .second, .val (.long (qc - y31)), .second] [(.long qc)]))
              refine own_step (fun _ k => XS.lstore X57.here hx rfl (hb hby at_138) rfl (l' := #[.val (.long qa), .second, .val (.long qb), .second, .val (.long qc), .second, .val (.long qd), .second, .val (.int fl), .val (.int y4), .val (.int y8), .val (.ref b9), .val (.int (1 : Int32)), .val (.long qc), .second, .val (.long (qc - y31)), .second]) rfl k) ?_
              show own_Fin p.tables e below _ (T57.setTop (mkF m 140 #[.val (.long qa), .second, .val (.long qb), .second, .val (.long qc), .second, .val (.long qd), .second, .val (.int fl), .val (.int y4), .val (.int y8), .val (.ref b9), .val (.int (1 : Int32)), .val (.long qc), .second, .val (.long (qc - y31)), .second] []))
              exact J36 T57 _ T57.heap qc (.val (.long (qc - y31))) (.second) (own_n (1 : Int32) qc y31) (own_t (1 : Int32) qc y31) X57 rfl N57 (by rw [if_neg hc35, if_pos hc62]) (by first | exact own_Two.u | exact own_Two.l | assumption) (by rw [if_neg hc35, if_pos hc62]) (by rw [if_neg hc35, if_pos hc62]) f58 fe57 fn57 ft57
            · refine own_step (fun _ k => XS.ifYes X57.here hx rfl (pc0 := 133) (pc' := 140) rfl (hb hby at_133) rfl ((if0 _ _).trans (flt (fun q => hc62 ((lw_lt _ _).mp q))).2.1) (by decide) (by decide) k) ?_
              show own_Fin p.tables e below _ (T57.setTop (mkF m 140 #[.val (.long qa), .second, .val (.long qb), .second, .val (.long qc), .second, .val (.long qd), .second, .val (.int fl), .val (.int y4), .val (.int y8), .val (.ref b9), .val (.int (1 : Int32)), .val (.long y31), .second, .val (.long (qc - y31)), .second] []))
              exact J36 T57 _ T57.heap y31 (.val (.long (qc - y31))) (.second) (own_n (1 : Int32) qc y31) (own_t (1 : Int32) qc y31) X57 rfl N57 (by rw [if_neg hc35, if_neg hc62]) (by first | exact own_Two.u | exact own_Two.l | assumption) (by rw [if_neg hc35, if_neg hc62]) (by rw [if_neg hc35, if_neg hc62]) f58 fe57 fn57 ft57
        by_cases hc28 : y4 = (0 : Int32)
        · refine own_step (fun _ k => XS.ifYes X23.here hx rfl (pc0 := 86) (pc' := 110) rfl (hb hby at_86) rfl ((if0 _ _).trans (teq hc28).1) (by decide) (by decide) k) ?_
          show own_Fin p.tables e below _ (T23.setTop (mkF m 110 #[.val (.long qa), .second, .val (.long qb), .second, .val (.long qc), .second, .val (.long qd), .second, .val (.int fl), .val (.int y4), .val (.int y8), .val (.ref b9), .val (.int (1 : Int32)), .val (.long qb), .second, .unset, .unset] []))
          exact J29 T23 _ qb (.unset) (.unset) X23 rfl N23 (by rw [if_pos hc28]) (by first | exact own_Two.u | exact own_Two.l | assumption)
        · refine own_step (fun _ k => XS.ifNo X23.here hx rfl (hb hby at_86) rfl ((if0 _ _).trans (feq hc28).1) k) ?_
          show own_Fin p.tables e below _ (T23.setTop (mkF m 89 #[.val (.long qa), .second, .val (.long qb), .second, .val (.long qc), .second, .val (.long qd), .second, .val (.int fl), .val (.int y4), .val (.int y8), .val (.ref b9), .val (.int (1 : Int32)), .val (.long qb), .second, .unset, .unset] []))
          refine own_step (fun _ k => XS.lloadN X23.here hx rfl (hb hby at_89) rfl k) ?_
          show own_Fin p.tables e below _ (T23.setTop (mkF m 90 #[.val (.long qa), .second, .val (.long qb), .second, .val (.long qc), .second, .val (.long qd), .second, .val (.int fl), .val (.int y4), .val (.int y8), .val (.ref b9), .val (.int (1 : Int32)), .val (.long qb), .second, .unset, .unset] [(.long qb)]))
          refine own_step (fun _ k => XS.lloadN X23.here hx rfl (hb hby at_90) rfl k) ?_
          show own_Fin p.tables e below _ (T23.setTop (mkF m 91 #[.val (.long qa), .second, .val (.long qb), .second, .val (.long qc), .second, .val (.long qd), .second, .val (.int fl), .val (.int y4), .val (.int y8), .val (.ref b9), .val (.int (1 : Int32)), .val (.long qb), .second, .unset, .unset] [(.long qa), (.long qb)]))
          refine own_step (fun _ k => XS.lsub X23.here hx rfl (hb hby at_91) rfl k) ?_
          show own_Fin p.tables e below _ (T23.setTop (mkF m 92 #[.val (.long qa), .second, .val (.long qb), .second, .val (.long qc), .second, .val (.long qd), .second, .val (.int fl), .val (.int y4), .val (.int y8), .val (.ref b9), .val (.int (1 : Int32)), .val (.long qb), .second, .unset, .unset] [(.long (qb - qa))]))
          refine own_step (fun _ k => XS.lstore X23.here hx rfl (hb hby at_92) rfl (l' := #[.val (.long qa), .second, .val (.long qb), .second, .val (.long qc), .second, .val (.long qd), .second, .val (.int fl), .val (.int y4), .val (.int y8), .val (.ref b9), .val (.int (1 : Int32)), .val (.long qb), .second, .val (.long (qb - qa)), .second]) rfl k) ?_
          show own_Fin p.tables e below _ (T23.setTop (mkF m 94 #[.val (.long qa), .second, .val (.long qb), .second, .val (.long qc), .second, .val (.long qd), .second, .val (.int fl), .val (.int y4), .val (.int y8), .val (.ref b9), .val (.int (1 : Int32)), .val (.long qb), .second, .val (.long (qb - qa)), .second] []))
          refine own_step (fun _ k => XS.lload X23.here hx rfl (hb hby at_94) rfl k) ?_
          show own_Fin p.tables e below _ (T23.setTop (mkF m 96 #[.val (.long qa), .second, .val (.long qb), .second, .val (.long qc), .second, .val (.long qd), .second, .val (.int fl), .val (.int y4), .val (.int y8), .val (.ref b9), .val (.int (1 : Int32)), .val (.long qb), .second, .val (.long (qb - qa)), .second] [(.long (qb - qa))]))
          refine own_step (fun _ k => XS.lconst X23.here hx rfl (hb hby at_96) k) ?_
          show own_Fin p.tables e below _ (T23.setTop (mkF m 97 #[.val (.long qa), .second, .val (.long qb), .second, .val (.long qc), .second, .val (.long qd), .second, .val (.int fl), .val (.int y4), .val (.int y8), .val (.ref b9), .val (.int (1 : Int32)), .val (.long qb), .second, .val (.long (qb - qa)), .second] [(.long (0 : Int64)), (.long (qb - qa))]))
          refine own_step (fun _ k => XS.lcmp X23.here hx rfl (hb hby at_97) rfl k) ?_
          show own_Fin p.tables e below _ (T23.setTop (mkF m 98 #[.val (.long qa), .second, .val (.long qb), .second, .val (.long qc), .second, .val (.long qd), .second, .val (.int fl), .val (.int y4), .val (.int y8), .val (.ref b9), .val (.int (1 : Int32)), .val (.long qb), .second, .val (.long (qb - qa)), .second] [(.int (lcmpW (qb - qa) (0 : Int64)))]))
          by_cases hc63 : (qb - qa) < (0 : Int64)
          · refine own_step (fun _ k => XS.ifNo X23.here hx rfl (hb hby at_98) rfl ((if0 _ _).trans (tlt ((lw_lt _ _).mpr hc63)).2.1) k) ?_
            show own_Fin p.tables e below _ (T23.setTop (mkF m 101 #[.val (.long qa), .second, .val (.long qb), .second, .val (.long qc), .second, .val (.long qd), .second, .val (.int fl), .val (.int y4), .val (.int y8), .val (.ref b9), .val (.int (1 : Int32)), .val (.long qb), .second, .val (.long (qb - qa)), .second] []))
            refine own_step (fun _ k => XS.lloadN X23.here hx rfl (hb hby at_101) rfl k) ?_
            show own_Fin p.tables e below _ (T23.setTop (mkF m 102 #[.val (.long qa), .second, .val (.long qb), .second, .val (.long qc), .second, .val (.long qd), .second, .val (.int fl), .val (.int y4), .val (.int y8), .val (.ref b9), .val (.int (1 : Int32)), .val (.long qb), .second, .val (.long (qb - qa)), .second] [(.long qb)]))
            refine own_step (fun _ k => XS.lstore X23.here hx rfl (hb hby at_102) rfl (l' := #[.val (.long qa), .second, .val (.long qb), .second, .val (.long qc), .second, .val (.long qd), .second, .val (.int fl), .val (.int y4), .val (.int y8), .val (.ref b9), .val (.int (1 : Int32)), .val (.long qb), .second, .val (.long (qb - qa)), .second]) rfl k) ?_
            show own_Fin p.tables e below _ (T23.setTop (mkF m 104 #[.val (.long qa), .second, .val (.long qb), .second, .val (.long qc), .second, .val (.long qd), .second, .val (.int fl), .val (.int y4), .val (.int y8), .val (.ref b9), .val (.int (1 : Int32)), .val (.long qb), .second, .val (.long (qb - qa)), .second] []))
            refine own_step (fun _ k => XS.goto X23.here hx rfl (pc0 := 104) (pc' := 110) rfl (hb hby at_104) (by decide) (by decide) k) ?_
            show own_Fin p.tables e below _ (T23.setTop (mkF m 110 #[.val (.long qa), .second, .val (.long qb), .second, .val (.long qc), .second, .val (.long qd), .second, .val (.int fl), .val (.int y4), .val (.int y8), .val (.ref b9), .val (.int (1 : Int32)), .val (.long qb), .second, .val (.long (qb - qa)), .second] []))
            exact J29 T23 _ qb (.val (.long (qb - qa))) (.second) X23 rfl N23 (by rw [if_neg hc28, if_pos hc63]) (by first | exact own_Two.u | exact own_Two.l | assumption)
          · refine own_step (fun _ k => XS.ifYes X23.here hx rfl (pc0 := 98) (pc' := 107) rfl (hb hby at_98) rfl ((if0 _ _).trans (flt (fun q => hc63 ((lw_lt _ _).mp q))).2.1) (by decide) (by decide) k) ?_
            show own_Fin p.tables e below _ (T23.setTop (mkF m 107 #[.val (.long qa), .second, .val (.long qb), .second, .val (.long qc), .second, .val (.long qd), .second, .val (.int fl), .val (.int y4), .val (.int y8), .val (.ref b9), .val (.int (1 : Int32)), .val (.long qb), .second, .val (.long (qb - qa)), .second] []))
            refine own_step (fun _ k => XS.lloadN X23.here hx rfl (hb hby at_107) rfl k) ?_
            show own_Fin p.tables e below _ (T23.setTop (mkF m 108 #[.val (.long qa), .second, .val (.long qb), .second, .val (.long qc), .second, .val (.long qd), .second, .val (.int fl), .val (.int y4), .val (.int y8), .val (.ref b9), .val (.int (1 : Int32)), .val (.long qb), .second, .val (.long (qb - qa)), .second] [(.long qa)]))
            refine own_step (fun _ k => XS.lstore X23.here hx rfl (hb hby at_108) rfl (l' := #[.val (.long qa), .second, .val (.long qb), .second, .val (.long qc), .second, .val (.long qd), .second, .val (.int fl), .val (.int y4), .val (.int y8), .val (.ref b9), .val (.int (1 : Int32)), .val (.long qa), .second, .val (.long (qb - qa)), .second]) rfl k) ?_
            show own_Fin p.tables e below _ (T23.setTop (mkF m 110 #[.val (.long qa), .second, .val (.long qb), .second, .val (.long qc), .second, .val (.long qd), .second, .val (.int fl), .val (.int y4), .val (.int y8), .val (.ref b9), .val (.int (1 : Int32)), .val (.long qa), .second, .val (.long (qb - qa)), .second] []))
            exact J29 T23 _ qa (.val (.long (qb - qa))) (.second) X23 rfl N23 (by rw [if_neg hc28, if_neg hc63]) (by first | exact own_Two.u | exact own_Two.l | assumption)
      by_cases hc14 : y4 = (0 : Int32)
      · refine own_step (fun _ k => XS.ifYes X13.here hx rfl (pc0 := 42) (pc' := 75) rfl (hb hby at_42) rfl ((if0 _ _).trans (teq hc14).1) (by decide) (by decide) k) ?_
        show own_Fin p.tables e below _ (T13.setTop (mkF m 75 #[.val (.long qa), .second, .val (.long qb), .second, .val (.long qc), .second, .val (.long qd), .second, .val (.int fl), .val (.int y4), .val (.int y8), .val (.ref b9), .val (.int (1 : Int32)), .unset, .unset, .unset, .unset] []))
        exact J15 T13 _ h9 (0 : Int32) (0 : Int64) X13 e13 N13 (by rw [if_pos hc14]) (by rw [if_pos hc14]) f10 A9 f11 f12
      · refine own_step (fun _ k => XS.ifNo X13.here hx rfl (hb hby at_42) rfl ((if0 _ _).trans (feq hc14).1) k) ?_
        show own_Fin p.tables e below _ (T13.setTop (mkF m 45 #[.val (.long qa), .second, .val (.long qb), .second, .val (.long qc), .second, .val (.long qd), .second, .val (.int fl), .val (.int y4), .val (.int y8), .val (.ref b9), .val (.int (1 : Int32)), .unset, .unset, .unset, .unset] []))
        refine own_step (fun _ k => XS.aload X13.here hx rfl (hb hby at_45) rfl rfl k) ?_
        show own_Fin p.tables e below _ (T13.setTop (mkF m 47 #[.val (.long qa), .second, .val (.long qb), .second, .val (.long qc), .second, .val (.long qd), .second, .val (.int fl), .val (.int y4), .val (.int y8), .val (.ref b9), .val (.int (1 : Int32)), .unset, .unset, .unset, .unset] [(.ref b9)]))
        refine own_step (fun _ k => XS.lloadN X13.here hx rfl (hb hby at_47) rfl k) ?_
        show own_Fin p.tables e below _ (T13.setTop (mkF m 48 #[.val (.long qa), .second, .val (.long qb), .second, .val (.long qc), .second, .val (.long qd), .second, .val (.int fl), .val (.int y4), .val (.int y8), .val (.ref b9), .val (.int (1 : Int32)), .unset, .unset, .unset, .unset] [(.long qa), (.ref b9)]))
        obtain ⟨cq64, kq64, q64a, q64b, q64c⟩ := isOf hZ e13 A9
        obtain ⟨_, _, ⟨T64, L64, k64, n64⟩, -, X64, ⟨Lc64, hQ64, l64, y64, z64⟩, st64⟩ := X13.virtualBack hx (y := (⟨"com/example/riverhop/riverhop/overlay/Wake", "at", "(J)V"⟩ : MethodName)) (z := (⟨"com/example/riverhop/riverhop/overlay/Wake", "at", "(J)V"⟩ : MethodName)) hown (mvT hZ (hw _ (List.mem_of_getElem? (i := 9) rfl))) (mvT hZ (hw _ (List.mem_of_getElem? (i := 10) rfl))) (notFace_of_selects (args := #[]) (mvT hZ (hw _ (List.mem_of_getElem? (i := 12) rfl)))) (mvT hZ (hw _ (List.mem_of_getElem? (i := 12) rfl))) (mvT hZ (hw _ (List.mem_of_getElem? (i := 11) rfl))) (by decide) (backOf (W := 0) (rm3 l Z a0 hw [] b9 qa (0 : Int32) (0 : Int64) h9 n0 f10 f11 f12 A9 g_b9) hZ (hw _ (List.mem_of_getElem? (i := 13) rfl)) (hw _ (List.mem_of_getElem? (i := 2) rfl)) (by decide) (by decide)) q64a q64c (g := (mkF m 48 #[.val (.long qa), .second, .val (.long qb), .second, .val (.long qc), .second, .val (.long qd), .second, .val (.int fl), .val (.int y4), .val (.int y8), .val (.ref b9), .val (.int (1 : Int32)), .unset, .unset, .unset, .unset] [(.long qa), (.ref b9)])) rfl (by rw [hml]; rfl) (Steps.refl _) (argsL := [(.long qa)]) (rest := []) (lenOf pd_1 rfl) rfl (by show 2 * 0 + _ ≤ _; exact Nat.le_of_eq rfl) (hb hby at_48) (fun _ _ => ⟨rfl, e13, (by decide : 1 + 0 ≤ _), (by decide : 2 + 0 ≤ _)⟩)
        dsimp only [Pt.U, Pt.locs, Pt.cells, Pt.slots] at X64 l64 y64 z64 st64 hQ64
        subst l64 y64 z64
        obtain ⟨rfl, N64q, K64, fe64, fn64, ft64⟩ := hQ64
        have N64 := Fr.app N13 N64q
        refine own_steps st64 ?_
        have f65 := Nat.le_trans f10 K64.1
        have f66 := A9.keep K64
        show own_Fin p.tables e below _ (T64.setTop (mkF m 51 #[.val (.long qa), .second, .val (.long qb), .second, .val (.long qc), .second, .val (.long qd), .second, .val (.int fl), .val (.int y4), .val (.int y8), .val (.ref b9), .val (.int (1 : Int32)), .unset, .unset, .unset, .unset] []))
        refine own_step (fun _ k => XS.iload X64.here hx rfl (hb hby at_51) rfl k) ?_
        show own_Fin p.tables e below _ (T64.setTop (mkF m 53 #[.val (.long qa), .second, .val (.long qb), .second, .val (.long qc), .second, .val (.long qd), .second, .val (.int fl), .val (.int y4), .val (.int y8), .val (.ref b9), .val (.int (1 : Int32)), .unset, .unset, .unset, .unset] [(.int (1 : Int32))]))
        refine own_step (fun _ k => XS.ifNo X64.here hx rfl (hb hby at_53) rfl ((if0 _ _).trans (feq (by decide : ¬ ((1 : Int32) = (0 : Int32)))).1) k) ?_
        show own_Fin p.tables e below _ (T64.setTop (mkF m 56 #[.val (.long qa), .second, .val (.long qb), .second, .val (.long qc), .second, .val (.long qd), .second, .val (.int fl), .val (.int y4), .val (.int y8), .val (.ref b9), .val (.int (1 : Int32)), .unset, .unset, .unset, .unset] []))
        refine own_step (fun _ k => XS.aload X64.here hx rfl (hb hby at_56) rfl rfl k) ?_
        show own_Fin p.tables e below _ (T64.setTop (mkF m 58 #[.val (.long qa), .second, .val (.long qb), .second, .val (.long qc), .second, .val (.long qd), .second, .val (.int fl), .val (.int y4), .val (.int y8), .val (.ref b9), .val (.int (1 : Int32)), .unset, .unset, .unset, .unset] [(.ref b9)]))
        refine own_step (fun _ k => XS.lload X64.here hx rfl (hb hby at_58) rfl k) ?_
        show own_Fin p.tables e below _ (T64.setTop (mkF m 60 #[.val (.long qa), .second, .val (.long qb), .second, .val (.long qc), .second, .val (.long qd), .second, .val (.int fl), .val (.int y4), .val (.int y8), .val (.ref b9), .val (.int (1 : Int32)), .unset, .unset, .unset, .unset] [(.long qd), (.ref b9)]))
        obtain ⟨cq69, kq69, q69a, q69b, q69c⟩ := isOf hZ rfl fe64
        obtain ⟨_, _, ⟨T69, L69, k69, n69⟩, -, X69, ⟨Lc69, hQ69, l69, y69, z69⟩, st69⟩ := X64.virtualBack hx (y := (⟨"com/example/riverhop/riverhop/overlay/Wake", "orElse", "(J)J"⟩ : MethodName)) (z := (⟨"com/example/riverhop/riverhop/overlay/Wake", "orElse", "(J)J"⟩ : MethodName)) hown (mvT hZ (hw _ (List.mem_of_getElem? (i := 18) rfl))) (mvT hZ (hw _ (List.mem_of_getElem? (i := 19) rfl))) (notFace_of_selects (args := #[]) (mvT hZ (hw _ (List.mem_of_getElem? (i := 21) rfl)))) (mvT hZ (hw _ (List.mem_of_getElem? (i := 21) rfl))) (mvT hZ (hw _ (List.mem_of_getElem? (i := 20) rfl))) (by decide) (backOf (W := 0) (rm4 l Z a0 hw [] b9 qd (own_n (0 : Int32) qa (0 : Int64)) (own_t (0 : Int32) qa (0 : Int64)) T64.heap n0 f65 fn64 ft64) hZ (hw _ (List.mem_of_getElem? (i := 22) rfl)) (hw _ (List.mem_of_getElem? (i := 2) rfl)) (by decide) (by decide)) q69a q69c (g := (mkF m 60 #[.val (.long qa), .second, .val (.long qb), .second, .val (.long qc), .second, .val (.long qd), .second, .val (.int fl), .val (.int y4), .val (.int y8), .val (.ref b9), .val (.int (1 : Int32)), .unset, .unset, .unset, .unset] [(.long qd), (.ref b9)])) rfl (by rw [hml]; rfl) (Steps.refl _) (argsL := [(.long qd)]) (rest := []) (lenOf pd_2 rfl) rfl (by show 2 * 0 + _ ≤ _; exact Nat.le_of_eq rfl) (hb hby at_60) (fun _ _ => ⟨rfl, rfl, (by decide : 1 + 0 ≤ _), (by decide : 2 + 0 ≤ _)⟩)
        dsimp only [Pt.U, Pt.locs, Pt.cells, Pt.slots] at X69 l69 y69 z69 st69 hQ69
        subst l69 y69 z69
        obtain ⟨rfl, N69q, e69⟩ := hQ69
        have N69 := Fr.app N64 N69q
        refine own_steps st69 ?_
        show own_Fin p.tables e below _ (T69.setTop (mkF m 63 #[.val (.long qa), .second, .val (.long qb), .second, .val (.long qc), .second, .val (.long qd), .second, .val (.int fl), .val (.int y4), .val (.int y8), .val (.ref b9), .val (.int (1 : Int32)), .unset, .unset, .unset, .unset] [(.long (own_or (own_n (0 : Int32) qa (0 : Int64)) (own_t (0 : Int32) qa (0 : Int64)) qd))]))
        refine own_step (fun _ k => XS.lloadN X69.here hx rfl (hb hby at_63) rfl k) ?_
        show own_Fin p.tables e below _ (T69.setTop (mkF m 64 #[.val (.long qa), .second, .val (.long qb), .second, .val (.long qc), .second, .val (.long qd), .second, .val (.int fl), .val (.int y4), .val (.int y8), .val (.ref b9), .val (.int (1 : Int32)), .unset, .unset, .unset, .unset] [(.long qa), (.long (own_or (own_n (0 : Int32) qa (0 : Int64)) (own_t (0 : Int32) qa (0 : Int64)) qd))]))
        refine own_step (fun _ k => XS.lcmp X69.here hx rfl (hb hby at_64) rfl k) ?_
        show own_Fin p.tables e below _ (T69.setTop (mkF m 65 #[.val (.long qa), .second, .val (.long qb), .second, .val (.long qc), .second, .val (.long qd), .second, .val (.int fl), .val (.int y4), .val (.int y8), .val (.ref b9), .val (.int (1 : Int32)), .unset, .unset, .unset, .unset] [(.int (lcmpW (own_or (own_n (0 : Int32) qa (0 : Int64)) (own_t (0 : Int32) qa (0 : Int64)) qd) qa))]))
        have ha70 : (own_or (own_n (0 : Int32) qa (0 : Int64)) (own_t (0 : Int32) qa (0 : Int64)) qd) = qa := by
          simp [own_or, own_n, own_t]
        refine own_step (fun _ k => XS.ifNo X69.here hx rfl (hb hby at_65) rfl ((if0 _ _).trans (teq ((lw_eq _ _).mpr ha70)).2) k) ?_
        show own_Fin p.tables e below _ (T69.setTop (mkF m 68 #[.val (.long qa), .second, .val (.long qb), .second, .val (.long qc), .second, .val (.long qd), .second, .val (.int fl), .val (.int y4), .val (.int y8), .val (.ref b9), .val (.int (1 : Int32)), .unset, .unset, .unset, .unset] []))
        refine own_step (fun _ k => XS.iconst X69.here hx rfl (hb hby at_68) k) ?_
        show own_Fin p.tables e below _ (T69.setTop (mkF m 69 #[.val (.long qa), .second, .val (.long qb), .second, .val (.long qc), .second, .val (.long qd), .second, .val (.int fl), .val (.int y4), .val (.int y8), .val (.ref b9), .val (.int (1 : Int32)), .unset, .unset, .unset, .unset] [(.int (1 : Int32))]))
        refine own_step (fun _ k => XS.goto X69.here hx rfl (pc0 := 69) (pc' := 73) rfl (hb hby at_69) (by decide) (by decide) k) ?_
        show own_Fin p.tables e below _ (T69.setTop (mkF m 73 #[.val (.long qa), .second, .val (.long qb), .second, .val (.long qc), .second, .val (.long qd), .second, .val (.int fl), .val (.int y4), .val (.int y8), .val (.ref b9), .val (.int (1 : Int32)), .unset, .unset, .unset, .unset] [(.int (1 : Int32))]))
        refine own_step (fun _ k => XS.istore X69.here hx rfl (hb hby at_73) rfl (l' := #[.val (.long qa), .second, .val (.long qb), .second, .val (.long qc), .second, .val (.long qd), .second, .val (.int fl), .val (.int y4), .val (.int y8), .val (.ref b9), .val (.int (1 : Int32)), .unset, .unset, .unset, .unset]) rfl k) ?_
        show own_Fin p.tables e below _ (T69.setTop (mkF m 75 #[.val (.long qa), .second, .val (.long qb), .second, .val (.long qc), .second, .val (.long qd), .second, .val (.int fl), .val (.int y4), .val (.int y8), .val (.ref b9), .val (.int (1 : Int32)), .unset, .unset, .unset, .unset] []))
        exact J15 T69 _ T64.heap (own_n (0 : Int32) qa (0 : Int64)) (own_t (0 : Int32) qa (0 : Int64)) X69 e69 N69 (by rw [if_neg hc14]) (by rw [if_neg hc14]) f65 fe64 fn64 ft64
    by_cases hc5 : (fl &&& (2 : Int32)) = (0 : Int32)
    · refine own_step (fun _ k => XS.ifYes X3.here hx rfl (pc0 := 18) (pc' := 25) rfl (hb hby at_18) rfl ((if0 _ _).trans (teq hc5).1) (by decide) (by decide) k) ?_
      show own_Fin p.tables e below _ (T3.setTop (mkF m 25 #[.val (.long qa), .second, .val (.long qb), .second, .val (.long qc), .second, .val (.long qd), .second, .val (.int fl), .val (.int y4), .unset, .unset, .unset, .unset, .unset, .unset, .unset] []))
      refine own_step (fun _ k => XS.iconst X3.here hx rfl (hb hby at_25) k) ?_
      show own_Fin p.tables e below _ (T3.setTop (mkF m 26 #[.val (.long qa), .second, .val (.long qb), .second, .val (.long qc), .second, .val (.long qd), .second, .val (.int fl), .val (.int y4), .unset, .unset, .unset, .unset, .unset, .unset, .unset] [(.int (0 : Int32))]))
      exact J6 T3 _ (0 : Int32) X3 e3 N3 (by rw [if_pos hc5])
    · refine own_step (fun _ k => XS.ifNo X3.here hx rfl (hb hby at_18) rfl ((if0 _ _).trans (feq hc5).1) k) ?_
      show own_Fin p.tables e below _ (T3.setTop (mkF m 21 #[.val (.long qa), .second, .val (.long qb), .second, .val (.long qc), .second, .val (.long qd), .second, .val (.int fl), .val (.int y4), .unset, .unset, .unset, .unset, .unset, .unset, .unset] []))
      refine own_step (fun _ k => XS.iconst X3.here hx rfl (hb hby at_21) k) ?_
      show own_Fin p.tables e below _ (T3.setTop (mkF m 22 #[.val (.long qa), .second, .val (.long qb), .second, .val (.long qc), .second, .val (.long qd), .second, .val (.int fl), .val (.int y4), .unset, .unset, .unset, .unset, .unset, .unset, .unset] [(.int (1 : Int32))]))
      refine own_step (fun _ k => XS.goto X3.here hx rfl (pc0 := 22) (pc' := 26) rfl (hb hby at_22) (by decide) (by decide) k) ?_
      show own_Fin p.tables e below _ (T3.setTop (mkF m 26 #[.val (.long qa), .second, .val (.long qb), .second, .val (.long qc), .second, .val (.long qd), .second, .val (.int fl), .val (.int y4), .unset, .unset, .unset, .unset, .unset, .unset, .unset] [(.int (1 : Int32))]))
      exact J6 T3 _ (1 : Int32) X3 e3 N3 (by rw [if_neg hc5])
  by_cases hc1 : (fl &&& (1 : Int32)) = (0 : Int32)
  · refine own_step (fun _ k => XS.ifYes X0.here hx rfl (pc0 := 4) (pc' := 11) rfl (hb hby at_4) rfl ((if0 _ _).trans (teq hc1).1) (by decide) (by decide) k) ?_
    show own_Fin p.tables e below _ (s₁.setTop (mkF m 11 #[.val (.long qa), .second, .val (.long qb), .second, .val (.long qc), .second, .val (.long qd), .second, .val (.int fl), .unset, .unset, .unset, .unset, .unset, .unset, .unset, .unset] []))
    refine own_step (fun _ k => XS.iconst X0.here hx rfl (hb hby at_11) k) ?_
    show own_Fin p.tables e below _ (s₁.setTop (mkF m 12 #[.val (.long qa), .second, .val (.long qb), .second, .val (.long qc), .second, .val (.long qd), .second, .val (.int fl), .unset, .unset, .unset, .unset, .unset, .unset, .unset, .unset] [(.int (0 : Int32))]))
    exact J2 s₁ _ (0 : Int32) X0 e0 N0 (by rw [if_pos hc1])
  · refine own_step (fun _ k => XS.ifNo X0.here hx rfl (hb hby at_4) rfl ((if0 _ _).trans (feq hc1).1) k) ?_
    show own_Fin p.tables e below _ (s₁.setTop (mkF m 7 #[.val (.long qa), .second, .val (.long qb), .second, .val (.long qc), .second, .val (.long qd), .second, .val (.int fl), .unset, .unset, .unset, .unset, .unset, .unset, .unset, .unset] []))
    refine own_step (fun _ k => XS.iconst X0.here hx rfl (hb hby at_7) k) ?_
    show own_Fin p.tables e below _ (s₁.setTop (mkF m 8 #[.val (.long qa), .second, .val (.long qb), .second, .val (.long qc), .second, .val (.long qd), .second, .val (.int fl), .unset, .unset, .unset, .unset, .unset, .unset, .unset, .unset] [(.int (1 : Int32))]))
    refine own_step (fun _ k => XS.goto X0.here hx rfl (pc0 := 8) (pc' := 12) rfl (hb hby at_8) (by decide) (by decide) k) ?_
    show own_Fin p.tables e below _ (s₁.setTop (mkF m 12 #[.val (.long qa), .second, .val (.long qb), .second, .val (.long qc), .second, .val (.long qd), .second, .val (.int fl), .unset, .unset, .unset, .unset, .unset, .unset, .unset, .unset] [(.int (1 : Int32))]))
    exact J2 s₁ _ (1 : Int32) X0 e0 N0 (by rw [if_neg hc1])
set_option maxRecDepth 65536 in
set_option maxHeartbeats 40000000 in
theorem comes_1 {Post : Tables → Env → Array Value → State → Outcome → State → Prop} (hpost : ∀ tb e args s v u, (limb_1_1.after args s (.returned v) u = true ∧ limb_1_2.after args s (.returned v) u = true ∧ True) → FrameEnd s (.returned v) u (Jvm.fieldLocs frame_1_writes args s ++ Jvm.arrayLocs frame_1_arrays args s ++ Jvm.staticLocs frame_1_statics s) 16 128 → Post tb e args s (.returned v) u) :
    ArmFor flags0 classFile x code maxLocals ret World_1 tables_1 room_1 Calls_1 rest_1 Pre_1 Post := by
  intro l hfl _ _ p e ha hc hk s m args below hf hA hF happ hP
  obtain ⟨hcalls, hrest, hpre⟩ := hP
  obtain ⟨-, -, -, hnamed, -, -, -, hat⟩ := (Spec.applies_iff hf).mp happ
  obtain ⟨hg, hn⟩ := and_e (Cond.before_iff.mp (show (Jvm.Cond.and given_1 narrow_1).before args s = true from hpre))
  obtain ⟨g1, g2⟩ := and_e hg
  obtain ⟨g3, g4⟩ := and_e g2
  obtain ⟨g5, g6⟩ := and_e g4
  obtain ⟨g7, g8⟩ := and_e g6
  obtain ⟨g9, g10⟩ := and_e g8
  obtain ⟨w0, w1, w2, w3, w4, rfl⟩ : ∃ w0 w1 w2 w3 w4 : Value, args = #[w0, w1, w2, w3, w4] := by
    have hs : args.size = 5 := by simpa [Cond.value, given_1] using g1
    obtain ⟨L⟩ := args
    match L, hs with
    | [w0, w1, w2, w3, w4], _ => exact ⟨w0, w1, w2, w3, w4, rfl⟩
  have hw := fun d (hd : d ∈ tables_1) => atoms_spec (ws := Jvm.Cond.code x code maxLocals ret :: tables_1) hat d (List.mem_cons_of_mem _ hd)
  have hfit : Fit s := fun {y c} hc i hi => by
    obtain ⟨ha, rfl⟩ := Array.getElem?_eq_some_iff.mp hc
    have q := List.all_eq_true.mp ((Array.all_eq_true_iff_forall_mem.mp hF) _ (Array.getElem_mem ha)) i (List.mem_range.mpr hi)
    simpa [Array.getElem?_eq_getElem hi] using q
  obtain ⟨i0, ei0⟩ := isL_v g3
  obtain rfl : w0 = (.long i0) := Option.some.inj ei0
  obtain ⟨i1, ei1⟩ := isL_v g5
  obtain rfl : w1 = (.long i1) := Option.some.inj ei1
  obtain ⟨i2, ei2⟩ := isL_v g7
  obtain rfl : w2 = (.long i2) := Option.some.inj ei2
  obtain ⟨i3, ei3⟩ := isL_v g9
  obtain rfl : w3 = (.long i3) := Option.some.inj ei3
  obtain ⟨i4, ei4⟩ := is_v g10
  obtain rfl : w4 = (.int i4) := Option.some.inj ei4
  obtain ⟨n, o, h1, h2, h3, _, L, rfl, ⟨rfl, N⟩, hq⟩ := rm0 l s _ hw tables_1 i0 i1 i2 i3 i4 s.heap s.heap.size (Nat.le_refl _)  p e ha hc hk s m _ below hf ((Spec.applies_iff_loose hf).mp happ).1 ⟨rfl, State.Warmed39.refl s, rfl⟩ trivial
  refine ⟨n, _, h1, h2, h3, hpost _ _ _ _ _ _ ⟨Cond.after_iff.mpr rfl, Cond.after_iff.mpr (eq_i res_at (Term.int_eval (1)) rfl), trivial⟩ ⟨hq.1, hq.2.1, (hq.2.2.sift fun y hy => Or.inr (N y hy)).mono (by decide) (by decide)⟩⟩
theorem main_1_1 : Claimed_1_1 := comes_1 fun _ _ _ _ _ _ h hF => ⟨h.1, hF⟩
theorem main_1_2 : Claimed_1_2 := comes_1 fun _ _ _ _ _ _ h hF => ⟨h.2.1, hF⟩
end Jvm.Pilot.@@N@@
namespace Jvm.Pilot.@@N@@
open Jvm Jvm.ClassFile Sem Op Lib Jvm.Free Jvm.Stand Jvm.Pilot.@@N@@.Jvm.D
/-! MADE BY PROGRAM (witnessworld.py) out of the Statement's table words and the real class files: 9 classes; the members and pool entries that the words name. The judged class is class 1, her method 1. -/
namespace start1
open Jvm.ClassFile
def u (s : String) : CpInfo := .utf8 (stringToUtf16 s)
/-- a pool by its gaps: so many unusable entries, then the entry; so many at the end -/
def gap : Nat → List CpInfo → List CpInfo
  | 0, r => r
  | n + 1, r => .unusable :: gap n r
def poolList (es : List (Nat × CpInfo)) (last : Nat) : List CpInfo := es.foldr (fun e r => gap e.1 (e.2 :: r)) (gap last [])
def pool (es : List (Nat × CpInfo)) (last : Nat) : Array CpInfo := ⟨poolList es last⟩
def fileOf (pool : Array CpInfo) (this : Nat) (attrs : Array Attribute := #[]) (ms : Array MethodInfo := #[]) (fl : Nat := 33) (sup : Nat := 0) (ifs : Array Nat := #[]) (fds : Array FieldInfo := #[]) : ClassFile where
  minorVersion := 0
  majorVersion := 65
  constantPool := pool
  accessFlags := fl
  thisClass := this
  superClass := sup
  interfaces := ifs
  fields := fds
  methods := ms
  attributes := attrs
def plain (name : String) (sup : Option ClassId) : Class where
  name := name
  kind := .ordinary
  loader := none
  accessFlags := 33
  super := sup
  interfaces := #[]
  cf := none
  fields := #[]
  methods := #[]
  instanceTypes := #[]
  staticTypes := #[]
  resolved := #[]
  callSites := []
  init := .initialized
  statics := none
  mirror := none

def pool0 : Array CpInfo := pool [(5, u "<init>"), (0, u "()V"), (1, .class_ 10), (1, u "java/lang/Object")] 113

def k0c0 : Code := { maxStack := 0, maxLocals := 1, code := object_method_1_code, exceptionTable := #[], attributes := #[] }
def k0m0 : Method := { name := "<init>", desc := "()V", sig := { parameters := [], returnType := none }, accessFlags := 1, code := some k0c0 }
/-- java/lang/Object -/
def k0 : Class := { plain "java/lang/Object" none with
  accessFlags := 33
  interfaces := #[]
  cf := some (fileOf pool0 8 #[] #[{ accessFlags := 1, nameIndex := 5, descriptorIndex := 6, attributes := #[] }] 33 0 #[] #[])
  fields := #[]
  methods := #[k0m0]
  instanceTypes := #[]
  staticTypes := #[]
  resolved := Array.replicate 124 none
  statics := none }

def pool1 : Array CpInfo := pool [(2, .class_ 4), (0, .nameAndType 5 6), (0, u "java/lang/Object"), (0, u "<init>"), (0, u "()V"), (0, .class_ 8), (0, u "com/example/riverhop/riverhop/overlay/Wake"), (0, .methodref 7 3), (0, .methodref 7 11), (0, .nameAndType 12 13), (0, u "at"), (0, u "(J)V"), (0, .methodref 7 15), (0, .nameAndType 16 17), (0, u "orElse"), (0, u "(J)J"), (0, .methodref 7 19), (0, .nameAndType 20 21), (0, u "before"), (0, u "(J)Z"), (0, .class_ 23), (0, u "com/example/riverhop/riverhop/overlay/WakeAtPinLaw"), (2, u "law"), (0, u "(JJJJI)Z")] 3

def k1m0 : Method := { name := "<init>", desc := "()V", sig := { parameters := [], returnType := none }, accessFlags := 1, code := none }
def k1c1 : Code := { maxStack := 5, maxLocals := 17, code := code, exceptionTable := #[], attributes := #[] }
def k1m1 : Method := { name := "law", desc := "(JJJJI)Z", sig := { parameters := [.long, .long, .long, .long, .int], returnType := some .boolean }, accessFlags := 9, code := some k1c1 }
/-- com/example/riverhop/riverhop/overlay/WakeAtPinLaw -/
def k1 : Class := { plain "com/example/riverhop/riverhop/overlay/WakeAtPinLaw" (some 0) with
  accessFlags := 49
  interfaces := #[]
  cf := some (fileOf pool1 22 #[] #[{ accessFlags := 1, nameIndex := 5, descriptorIndex := 6, attributes := #[] }, { accessFlags := 9, nameIndex := 26, descriptorIndex := 27, attributes := #[] }] 49 2 #[] #[])
  fields := #[]
  methods := #[k1m0, k1m1]
  instanceTypes := #[]
  staticTypes := #[]
  resolved := Array.replicate 31 none
  statics := none }

def pool2 : Array CpInfo := pool [(1, .methodref 2 3), (0, .class_ 4), (0, .nameAndType 5 6), (0, u "java/lang/Object"), (0, u "<init>"), (0, u "()V"), (0, .fieldref 8 9), (0, .class_ 10), (0, .nameAndType 11 12), (0, u "com/example/riverhop/riverhop/overlay/Wake"), (0, u "noted"), (0, u "Z"), (0, .fieldref 8 14), (0, .nameAndType 15 16), (0, u "at"), (0, u "J"), (2, u "(J)V"), (1, u "before"), (0, u "(J)Z"), (0, u "orElse"), (0, u "(J)J")] 5

def k2c0 : Code := { maxStack := 1, maxLocals := 1, code := prog_137_method_1_code, exceptionTable := #[], attributes := #[] }
def k2m0 : Method := { name := "<init>", desc := "()V", sig := { parameters := [], returnType := none }, accessFlags := 0, code := some k2c0 }
def k2c1 : Code := { maxStack := 4, maxLocals := 3, code := prog_137_method_2_code, exceptionTable := #[], attributes := #[] }
def k2m1 : Method := { name := "at", desc := "(J)V", sig := { parameters := [.long], returnType := none }, accessFlags := 0, code := some k2c1 }
def k2c2 : Code := { maxStack := 4, maxLocals := 3, code := prog_137_method_3_code, exceptionTable := #[], attributes := #[] }
def k2m2 : Method := { name := "before", desc := "(J)Z", sig := { parameters := [.long], returnType := some .boolean }, accessFlags := 0, code := some k2c2 }
def k2c3 : Code := { maxStack := 2, maxLocals := 3, code := prog_137_method_4_code, exceptionTable := #[], attributes := #[] }
def k2m3 : Method := { name := "orElse", desc := "(J)J", sig := { parameters := [.long], returnType := some .long }, accessFlags := 0, code := some k2c3 }
/-- com/example/riverhop/riverhop/overlay/Wake -/
def k2 : Class := { plain "com/example/riverhop/riverhop/overlay/Wake" (some 0) with
  accessFlags := 48
  interfaces := #[]
  cf := some (fileOf pool2 8 #[] #[{ accessFlags := 0, nameIndex := 5, descriptorIndex := 6, attributes := #[] }, { accessFlags := 0, nameIndex := 15, descriptorIndex := 19, attributes := #[] }, { accessFlags := 0, nameIndex := 21, descriptorIndex := 22, attributes := #[] }, { accessFlags := 0, nameIndex := 23, descriptorIndex := 24, attributes := #[] }] 48 2 #[] #[{ accessFlags := 2, nameIndex := 11, descriptorIndex := 12, attributes := #[] }, { accessFlags := 2, nameIndex := 15, descriptorIndex := 16, attributes := #[] }])
  fields := #[{ name := "noted", type := .boolean, accessFlags := 2, slot := 0, constantValue := 0 }, { name := "at", type := .long, accessFlags := 2, slot := 1, constantValue := 0 }]
  methods := #[k2m0, k2m1, k2m2, k2m3]
  instanceTypes := #[.boolean, .long]
  staticTypes := #[]
  resolved := Array.replicate 30 none
  statics := none }

def pool3 : Array CpInfo := pool [(1, u "java/lang/Cloneable"), (0, .class_ 1), (0, u "java/lang/Object"), (0, .class_ 3)] 3

/-- java/lang/Cloneable -/
def k3 : Class := { plain "java/lang/Cloneable" (some 0) with
  accessFlags := 1537
  interfaces := #[]
  cf := some (fileOf pool3 2 #[] #[] 1537 4 #[] #[])
  fields := #[]
  methods := #[]
  instanceTypes := #[]
  staticTypes := #[]
  resolved := Array.replicate 8 none
  statics := none }

def pool4 : Array CpInfo := pool [(1, u "java/io/Serializable"), (0, .class_ 1), (0, u "java/lang/Object"), (0, .class_ 3)] 3

/-- java/io/Serializable -/
def k4 : Class := { plain "java/io/Serializable" (some 0) with
  accessFlags := 1537
  interfaces := #[]
  cf := some (fileOf pool4 2 #[] #[] 1537 4 #[] #[])
  fields := #[]
  methods := #[]
  instanceTypes := #[]
  staticTypes := #[]
  resolved := Array.replicate 8 none
  statics := none }

/-- the primitive byte -/
def k5 : Class := { plain "byte" none with kind := .primitive 'B', accessFlags := 0x411 }
/-- [B -/
def k6 : Class := { plain "[B" (some 0) with kind := .array 5 .byte, interfaces := #[3, 4], accessFlags := 1041 }

/-- the primitive int -/
def k7 : Class := { plain "int" none with kind := .primitive 'I', accessFlags := 0x411 }
/-- [I -/
def k8 : Class := { plain "[I" (some 0) with kind := .array 7 .int, interfaces := #[3, 4], accessFlags := 1041 }

def heap : Heap := #[]
def classes : Array Class := #[k0, k1, k2, k3, k4, k5, k6, k7, k8]
def interned : List (Array UInt16 × Addr) := []
def slotsUsed : Nat := 0
def theMethod : MethodId := ⟨1, 1⟩
def args0 : Array Value := #[.long 5, .long 6, .long 7, .long 8, .int 3]
def aboutOver (below : List Frame) : State where
  vm := { classes := classes, interned := interned.toArray }
  heap := heap
  slotsUsed := slotsUsed
  threads := #[{ frames := .invoking theMethod args0 :: below }]
def below0 : List Frame := [.native { method := ⟨0, 0⟩, args := #[] }]
def about1 : State := aboutOver below0
def p0 : Program := .bare "" "" ""
def e0 : Env := launch0.env 0 0 0
theorem w_frames : about1.frames = Frame.invoking theMethod args0 :: below0 := rfl
set_option maxRecDepth 65536 in
theorem w_args : argsFit about1.vm theMethod args0 = true := by decide +kernel
set_option maxRecDepth 65536 in
theorem w_heap : heapFits about1 = true := by decide +kernel
set_option maxRecDepth 65536 in
theorem w_runnable : about1.curStatus? = some .runnable := by decide +kernel
set_option maxRecDepth 65536 in
theorem w_alone : about1.alone = true := by decide +kernel
set_option maxRecDepth 65536 in
theorem w_named : about1.methodNamed? x = some theMethod := by decide +kernel
set_option maxRecDepth 65536 in
theorem w_hears : about1.hears theMethod below0 = true := by decide +kernel
set_option maxRecDepth 65536 in
theorem w_ripe : about1.ripe theMethod args0 below0 = true := by decide +kernel
theorem w_running : about1.status = .running := rfl
set_option maxRecDepth 65536 in
theorem w_room : about1.hasRoom e0.platform room_1 = true :=
  launch0.hasRoom_least _ room_1 (by decide +kernel) (by decide +kernel) (by decide +kernel) (by decide +kernel) (by decide +kernel) (by decide +kernel)
theorem allAtoms_all (ts : List Jvm.Cond) (a : Array Jvm.Value) (st : Jvm.State) : (allAtoms ts).before a st = ts.all (fun c => c.before a st) := by
  induction ts with
  | nil => rfl
  | cons c t ih =>
    show (Jvm.Cond.and c (allAtoms t)).before a st = _
    rw [Jvm.Cond.before_and, ih, List.all_cons]
def words1 : List Jvm.Cond := Jvm.Cond.code x code maxLocals ret :: tables_1
/-- a 'code' word, met by the world's own term for the bytes: nothing is compared byte by byte -/
theorem code_word {y : MethodName} {bytes : ByteArray} {mx : Nat} {rt : Option FieldType} {a : Array Value} {s : State} {m : MethodId} {meth : Method} {c : Code} (h1 : s.methodNamed? y = some m) (h2 : s.vm.method? m = some meth) (h3 : meth.code = some c) (h4 : c.code = bytes)
    (h5 : (c.maxLocals == mx && c.exceptionTable.isEmpty && decide (c.maxStack ≤ mostOperands) && decide (meth.sig.returnType = rt) && !meth.locks && decide (parseMethodDescriptor y.desc = some meth.sig)) = true) : (Jvm.Cond.code y bytes mx rt).before a s = true := by
  simp only [Bool.and_eq_true, beq_iff_eq, Bool.not_eq_true', decide_eq_true_eq] at h5
  obtain ⟨⟨⟨⟨⟨g1, g2⟩, g3⟩, g4⟩, g5⟩, g6⟩ := h5
  simp [Cond.before, Cond.holds, Cond.value, h1, h2, h3, h4, g1, g2, g3, g4, g5, g6]
def isCode : Jvm.Cond → Bool
  | .code _ _ _ _ => true
  | _ => false
theorem all_split {L : List Jvm.Cond} {P : Jvm.Cond → Bool} (h1 : L.all (fun c => isCode c || P c) = true) (h2 : ∀ c ∈ L.filter isCode, P c = true) : L.all P = true := by
  refine List.all_eq_true.mpr fun c hc => ?_
  have h := List.all_eq_true.mp h1 c hc
  rcases Bool.eq_false_or_eq_true (isCode c) with hi | hi
  · exact h2 c (List.mem_filter.mpr ⟨hc, hi⟩)
  · simpa [hi] using h
set_option maxRecDepth 65536 in
theorem w_c0 : (Jvm.Cond.code x code maxLocals ret).before args0 about1 = true := code_word (m := ⟨1, 1⟩) (meth := k1m1) (c := k1c1) (by decide +kernel) rfl rfl rfl (by decide +kernel)
set_option maxRecDepth 65536 in
theorem w_c1 : (Jvm.Cond.code ({ cls := "com/example/riverhop/riverhop/overlay/Wake", name := "<init>", desc := "()V" } : Jvm.MethodName) prog_137_method_1_code (1 : Nat) (Option.none : Option Jvm.ClassFile.FieldType)).before args0 about1 = true := code_word (m := ⟨2, 0⟩) (meth := k2m0) (c := k2c0) (by decide +kernel) rfl rfl rfl (by decide +kernel)
set_option maxRecDepth 65536 in
theorem w_c2 : (Jvm.Cond.code ({ cls := "java/lang/Object", name := "<init>", desc := "()V" } : Jvm.MethodName) object_method_1_code (1 : Nat) (Option.none : Option Jvm.ClassFile.FieldType)).before args0 about1 = true := code_word (m := ⟨0, 0⟩) (meth := k0m0) (c := k0c0) (by decide +kernel) rfl rfl rfl (by decide +kernel)
set_option maxRecDepth 65536 in
theorem w_c3 : (Jvm.Cond.code ({ cls := "com/example/riverhop/riverhop/overlay/Wake", name := "at", desc := "(J)V" } : Jvm.MethodName) prog_137_method_2_code (3 : Nat) (Option.none : Option Jvm.ClassFile.FieldType)).before args0 about1 = true := code_word (m := ⟨2, 1⟩) (meth := k2m1) (c := k2c1) (by decide +kernel) rfl rfl rfl (by decide +kernel)
set_option maxRecDepth 65536 in
theorem w_c4 : (Jvm.Cond.code ({ cls := "com/example/riverhop/riverhop/overlay/Wake", name := "orElse", desc := "(J)J" } : Jvm.MethodName) prog_137_method_4_code (3 : Nat) (Option.some Jvm.ClassFile.FieldType.long)).before args0 about1 = true := code_word (m := ⟨2, 3⟩) (meth := k2m3) (c := k2c3) (by decide +kernel) rfl rfl rfl (by decide +kernel)
set_option maxRecDepth 65536 in
theorem w_c5 : (Jvm.Cond.code ({ cls := "com/example/riverhop/riverhop/overlay/Wake", name := "before", desc := "(J)Z" } : Jvm.MethodName) prog_137_method_3_code (3 : Nat) (Option.some Jvm.ClassFile.FieldType.boolean)).before args0 about1 = true := code_word (m := ⟨2, 2⟩) (meth := k2m2) (c := k2c2) (by decide +kernel) rfl rfl rfl (by decide +kernel)
def codes1 : List Jvm.Cond := [Jvm.Cond.code x code maxLocals ret, Jvm.Cond.code ({ cls := "com/example/riverhop/riverhop/overlay/Wake", name := "<init>", desc := "()V" } : Jvm.MethodName) prog_137_method_1_code (1 : Nat) (Option.none : Option Jvm.ClassFile.FieldType), Jvm.Cond.code ({ cls := "java/lang/Object", name := "<init>", desc := "()V" } : Jvm.MethodName) object_method_1_code (1 : Nat) (Option.none : Option Jvm.ClassFile.FieldType), Jvm.Cond.code ({ cls := "com/example/riverhop/riverhop/overlay/Wake", name := "at", desc := "(J)V" } : Jvm.MethodName) prog_137_method_2_code (3 : Nat) (Option.none : Option Jvm.ClassFile.FieldType), Jvm.Cond.code ({ cls := "com/example/riverhop/riverhop/overlay/Wake", name := "orElse", desc := "(J)J" } : Jvm.MethodName) prog_137_method_4_code (3 : Nat) (Option.some Jvm.ClassFile.FieldType.long), Jvm.Cond.code ({ cls := "com/example/riverhop/riverhop/overlay/Wake", name := "before", desc := "(J)Z" } : Jvm.MethodName) prog_137_method_3_code (3 : Nat) (Option.some Jvm.ClassFile.FieldType.boolean)]
set_option maxRecDepth 65536 in
theorem codes_eq : words1.filter isCode = codes1 := rfl
theorem w_codes : ∀ c ∈ words1.filter isCode, c.before args0 about1 = true := by
  rw [codes_eq]
  intro c hc
  simp only [codes1, List.mem_cons, List.not_mem_nil, or_false] at hc
  rcases hc with rfl | rfl | rfl | rfl | rfl | rfl
  · exact w_c0
  · exact w_c1
  · exact w_c2
  · exact w_c3
  · exact w_c4
  · exact w_c5
set_option maxRecDepth 65536 in
theorem w_t1 : (words1.take 24).all (fun c => isCode c || c.before args0 about1) = true := by decide +kernel
set_option maxRecDepth 65536 in
theorem w_t2 : (words1.drop 24).all (fun c => isCode c || c.before args0 about1) = true := by decide +kernel
theorem w_tables : (allAtoms (Jvm.Cond.code x code maxLocals ret :: tables_1)).before args0 about1 = true := by
  rw [allAtoms_all]
  show words1.all (fun c => c.before args0 about1) = true
  refine all_split ?_ w_codes
  rw [← List.take_append_drop 24 words1, List.all_append, w_t1, w_t2]
  rfl
set_option maxRecDepth 65536 in
theorem w_case : (Jvm.Cond.and given_1 narrow_1).before args0 about1 = true := by decide +kernel
theorem w_applies : (headSpec (Jvm.Cond.code x code maxLocals ret :: tables_1) room_1).applies x e0.platform about1 = true :=
  (Spec.applies_iff w_frames).mpr ⟨w_running, w_runnable, w_alone, w_named, w_hears, w_ripe, w_room, w_tables⟩
theorem atStart : AtStart classFile x code maxLocals ret World_1 tables_1 room_1 Calls_1 rest_1 Pre_1 launch0 p0 e0 about1 theMethod args0 below0 :=
  ⟨lists_1, trivial, launch0.admits_env _ _ _, launch0.least_env, fairChoices_fair.cas, fairChoices_fair.clock, w_frames, w_args, w_heap, w_applies, trivial, trivial, w_case⟩
end start1
theorem witness_1 : WitnessClaimed_1 := ⟨start1.p0, start1.e0, start1.about1, start1.theMethod, start1.args0, start1.below0, start1.atStart⟩
end Jvm.Pilot.@@N@@
