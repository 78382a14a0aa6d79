import JvmDerived
import JvmDerived.Pilot.@@N@@Statement
import JvmDerived.Pilot.@@N@@Code
set_option linter.unusedVariables false
set_option linter.unusedSimpArgs false
namespace Jvm.RoadKit
open Sem ClassFile Op Lib Jvm.Stand Jvm.Free Jvm.LawKit
section New
variable {p : Program} {l : Launch} {e : Env} {R : Room} {s : State} {m : MethodId} {args : Array Value} {below : List Frame} {meth : Method} {c : Code} {T : State} {locs : List Loc} {cells slots : Nat}
theorem retI (X : Stand p l e R s m args below meth c T locs cells slots) (hx : p.tables.exec = Jvm.exec) {pc : Nat} {Ls : Array Slot} {z : Int32} {rest : List Value} (hret : meth.sig.returnType = some .int) (hd : decode c.code pc = .ok (.ireturn, 1)) {fs : List Frame}
    (hl : ∀ (f : JFrame) (acts : List Action), f.method = m → f.locked = none → f.entered = [] → (doReturn e (T.setTop f) acts (some (.int z))).1 = T.setFrames fs) : Steps p.tables e below (T.setTop (mkF m pc Ls (.int z :: rest))) (T.setFrames fs) := by
  have hm' : T.vm.method? m = some meth := X.method'
  have hn : narrow .int (.int z) = .int z := rfl
  show Steps p.tables e below (T.setTop { method := m, pc := pc, locals := Ls, stack := _ :: rest, locked := none }) _
  jvm_step X.here [X.here.top, hx, hd, hm', hret, hn]
  first | (intro acts; rw [hl _ acts rfl rfl rfl]) | rw [hl _ _ rfl rfl rfl]
  exact Steps.refl _
theorem own_retJ (X : Stand p l e R s m args below meth c T locs cells slots) (hx : p.tables.exec = Jvm.exec) {pc : Nat} {Ls : Array Slot} {z : Int64} {rest : List Value} (hret : meth.sig.returnType = some .long) (hd : decode c.code pc = .ok (.lreturn, 1)) {fs : List Frame}
    (hl : ∀ (f : JFrame) (acts : List Action), f.method = m → f.locked = none → f.entered = [] → (doReturn e (T.setTop f) acts (some (.long z))).1 = T.setFrames fs) : Steps p.tables e below (T.setTop (mkF m pc Ls (.long z :: rest))) (T.setFrames fs) := by
  have hm' : T.vm.method? m = some meth := X.method'
  have hn : narrow .long (.long z) = .long z := rfl
  show Steps p.tables e below (T.setTop { method := m, pc := pc, locals := Ls, stack := _ :: rest, locked := none }) _
  jvm_step X.here [X.here.top, hx, hd, hm', hret, hn]
  first | (intro acts; rw [hl _ acts rfl rfl rfl]) | rw [hl _ _ rfl rfl rfl]
  exact Steps.refl _
end New
end Jvm.RoadKit
namespace Jvm.Pilot.@@N@@
open Jvm Jvm.ClassFile Sem Op Lib Jvm.Free Jvm.Stand Jvm.LawKit Jvm.RoadKit Bundle Jvm.Pilot.@@N@@.Jvm.D
def own_Fin (tb : Tables) (e : Env) (below : List Frame) (P : Outcome → State → Prop) (S : State) : Prop := ∃ s₂ o, Steps tb e below S s₂ ∧ s₂.status = .running ∧ Ended s₂ below o ∧ P o s₂
theorem own_step {tb : Tables} {e : Env} {below : List Frame} {P : Outcome → State → Prop} {A B : State} (h : ∀ t, Steps tb e below B t → Steps tb e below A t) (k : own_Fin tb e below P B) : own_Fin tb e below P A := by
  obtain ⟨s₂, o, h1, h2⟩ := k; exact ⟨s₂, o, h _ h1, h2⟩
theorem own_steps {tb : Tables} {e : Env} {below : List Frame} {P : Outcome → State → Prop} {A B : State} (h : Steps tb e below A B) (k : own_Fin tb e below P B) : own_Fin tb e below P A := by
  obtain ⟨s₂, o, h1, h2⟩ := k; exact ⟨s₂, o, h.trans h1, h2⟩
theorem own_ret {tb : Tables} {e : Env} {below : List Frame} {P : Outcome → State → Prop} {S s₂ : State} {o : Outcome} (h : Steps tb e below S s₂) (h1 : s₂.status = .running) (h2 : Ended s₂ below o) (h3 : P o s₂) : own_Fin tb e below P S := ⟨s₂, o, h, h1, h2, h3⟩
theorem own_enter {tb : Tables} {e : Env} {below : List Frame} {P : Outcome → State → Prop} {T : State} {g g' : JFrame} (q : g = g') (k : own_Fin tb e below P (T.setTop g')) : ∃ s₂ o, Steps tb e below (T.setTop g) s₂ ∧ s₂.status = .running ∧ Ended s₂ below o ∧ P o s₂ := q ▸ k
def own_Two (a b : Slot) : Prop := (a = .unset ∧ b = .unset) ∨ ∃ v : Int64, a = .val (.long v) ∧ b = .second
theorem own_Two.u : own_Two .unset .unset := Or.inl ⟨rfl, rfl⟩
theorem own_Two.l {v : Int64} : own_Two (.val (.long v)) .second := Or.inr ⟨v, rfl, rfl⟩
def own_n (nt : Int32) (t w : Int64) : Int32 := if nt = 0 then 1 else if t - w < 0 then 1 else nt
def own_t (nt : Int32) (t w : Int64) : Int64 := if nt = 0 then t else if t - w < 0 then t else w
def own_or (nt : Int32) (w d : Int64) : Int64 := if nt = 0 then d else w
def own_bf (nt : Int32) (w d : Int64) : Int32 := if nt = 0 then 0 else if d - w < 0 then 1 else 0
def own_nl (n1 : Int32) (t1 : Int64) (n2 : Int32) (t2 : Int64) : Int32 := if n1 = 0 then 1 else if n2 = 0 then 1 else if 0 < t1 - t2 then 0 else 1
theorem own_m2n {y4 y12 y35 y47 : Int32} {q : Int64} (h1 : y35 = (if y4 = (0 : Int32) then (if y12 = (0 : Int32) then (0 : Int32) else (own_n (0 : Int32) q (0 : Int64))) else (own_n (0 : Int32) q (0 : Int64)))) (h2 : y47 = (if y4 = (0 : Int32) then (0 : Int32) else y35)) : y47 = 0 ↔ y4 = 0 := by
  rw [h2, h1]; by_cases a : y4 = 0 <;> simp [a, own_n]
theorem own_m2t {y4 y12 : Int32} {q y37 : Int64} (h : y37 = (if y4 = (0 : Int32) then (if y12 = (0 : Int32) then (0 : Int64) else (own_t (0 : Int32) q (0 : Int64))) else (own_t (0 : Int32) q (0 : Int64)))) : ¬ y4 = 0 → y37 = q := by
  intro a; rw [h, if_neg a]; simp [own_t]
theorem own_m2a {n1 f1 n2 f2 : Int32} {t1 t2 a b : Int64} (hn1 : n1 = 0 ↔ f1 = 0) (hn2 : n2 = 0 ↔ f2 = 0) (ht1 : ¬ f1 = 0 → t1 = a) (ht2 : ¬ f2 = 0 → t2 = b) : own_nl n1 t1 n2 t2 = (if f1 = (0 : Int32) then (1 : Int32) else (if f2 = (0 : Int32) then (1 : Int32) else (if (0 : Int64) < (a - b) then (0 : Int32) else (1 : Int32)))) := by
  unfold own_nl
  by_cases h1 : f1 = 0
  · rw [if_pos (hn1.mpr h1), if_pos h1]
  · rw [if_neg (fun q => h1 (hn1.mp q)), if_neg h1]
    by_cases h2 : f2 = 0
    · rw [if_pos (hn2.mpr h2), if_pos h2]
    · rw [if_neg (fun q => h2 (hn2.mp q)), if_neg h2, ht1 h1, ht2 h2]
theorem own_m2b {n1 f1 n2 f2 : Int32} {t1 t2 a b : Int64} (hn1 : n1 = 0 ↔ f1 = 0) (hn2 : n2 = 0 ↔ f2 = 0) (ht1 : ¬ f1 = 0 → t1 = a) (ht2 : ¬ f2 = 0 → t2 = b) : own_nl n2 t2 n1 t1 = (if f1 = (0 : Int32) then (1 : Int32) else (if f2 = (0 : Int32) then (1 : Int32) else (if (0 : Int64) < (b - a) then (0 : Int32) else (1 : Int32)))) := by
  unfold own_nl
  by_cases h1 : f1 = 0
  · rw [if_pos (hn1.mpr h1), if_pos h1, ite_self]
  · rw [if_neg (fun q => h1 (hn1.mp q)), if_neg h1]
    by_cases h2 : f2 = 0
    · rw [if_pos (hn2.mpr h2), if_pos h2]
    · rw [if_neg (fun q => h2 (hn2.mp q)), if_neg h2, ht1 h1, ht2 h2]
theorem pn_0 : plainName "com/example/riverhop/riverhop/overlay/Wake" = true := by first | (simp [plainName, overriddenIn]; done) | decide +kernel
theorem ef_1 (m : MethodId) (x0 : Addr) : entryFrame m #[(.ref x0)] 1 = mkF m 0 #[.val (.ref x0)] [] := by first | (simp [entryFrame, mkF, argsToLocals, Value.category]; done) | rfl
def Q1 (Z : State) (ob : Addr) (h0 : Heap) (n0 : Nat) (v : Option Value) (h : Heap) (L : List Loc) : Prop := v = none ∧ Fr n0 L ∧ h = h0
abbrev P1 (Z : State) (ob : Addr) (h0 : Heap) (n0 : Nat) (s : State) : Outcome → State → Prop := fun o U' => ∃ v L, o = .returned v ∧ Q1 Z ob h0 n0 v U'.heap L ∧ FrameEnd s o U' L ({ frames := 1, cells := 0, slots := 0, locals := 12 } : Room).cells ({ frames := 1, cells := 0, slots := 0, locals := 12 } : Room).slots
theorem d1_0 : decode prog_137_method_1_code 0 = .ok (.aload_n 0, 1) := by decide +kernel
theorem d1_1 : decode prog_137_method_1_code 1 = .ok (.invokespecial 1, 3) := by decide +kernel
theorem d1_4 : decode prog_137_method_1_code 4 = .ok (.return_, 1) := by decide +kernel
set_option maxRecDepth 65536 in
set_option maxHeartbeats 40000000 in
theorem rm1 (l : Launch) (Z : State) (a0 : Array Value) (hw : ∀ d ∈ tables_1, d.before a0 Z = true) (ws : List Jvm.Cond) (ob : Addr) (h0 : Heap) (n0 : Nat) (Z0 : n0 ≤ h0.size) :
    MetFree l (⟨"com/example/riverhop/riverhop/overlay/Wake", "<init>", "()V"⟩ : MethodName) (head1 (Jvm.Cond.code (⟨"com/example/riverhop/riverhop/overlay/Wake", "<init>", "()V"⟩ : MethodName) prog_137_method_1_code 1 none :: ws) ({ frames := 1, cells := 0, slots := 0, locals := 12 } : Room)) (fun a U => a = #[(.ref ob)] ∧ Z.Warmed39 U.vm ∧ U.heap = h0) (fun _ _ _ _ _ => True) (fun _ U o U' => ∃ v L, o = .returned v ∧ Q1 Z ob h0 n0 v U'.heap L ∧ FrameEnd U o U' L ({ frames := 1, cells := 0, slots := 0, locals := 12 } : Room).cells ({ frames := 1, cells := 0, slots := 0, locals := 12 } : Room).slots) := by
  refine MetFree.of_bodySF (plainFor_of_name pn_0) hisR ?_
  intro p e s m args below meth c s₁ Bd hml0 hP hK
  obtain ⟨rfl, hZ, hh⟩ := hP
  have hx := Bd.exec
  have hby := Bd.bytes
  have hml : c.maxLocals = 1 := hml0
  have hown : s.vm.findClass "com/example/riverhop/riverhop/overlay/Wake" = some m.cls := findClass_of_methodNamed Bd.named
  have hnm := (name_of_methodNamed Bd.named Bd.method).1
  have X0 : Stand p l e ({ frames := 1, cells := 0, slots := 0, locals := 12 } : Room) s m #[(.ref ob)] below meth c s₁ [] 0 0 := Stand.of_body Bd
  have e0 : s₁.heap = h0 := by rw [← hh, Bd.state]; rfl
  have N0 := Fr.nil n0
  refine own_enter (P := (P1 Z ob h0 n0 s)) (ef_1 m ob) ?_
  show own_Fin p.tables e below _ (s₁.setTop (mkF m 0 #[.val (.ref ob)] []))
  refine own_step (fun _ k => XS.aloadN X0.here hx rfl (hb hby d1_0) rfl rfl k) ?_
  show own_Fin p.tables e below _ (s₁.setTop (mkF m 1 #[.val (.ref ob)] [(.ref ob)]))
  obtain ⟨T1, X1, e1, st1⟩ := initO X0 hx hZ hown (hw _ (List.mem_of_getElem? (i := 6) rfl)) (hw _ (List.mem_of_getElem? (i := 7) rfl)) (hw _ (List.mem_of_getElem? (i := 8) rfl)) e0 (g := (mkF m 1 #[.val (.ref ob)] [(.ref ob)])) rfl (by rw [hml]; rfl) rfl (hb hby d1_1) (by decide) (W := 0) (by show 2 * 0 + _ ≤ _; exact Nat.le_of_eq rfl) (by decide)
  refine own_step st1 ?_
  show own_Fin p.tables e below _ (T1.setTop (mkF m 4 #[.val (.ref ob)] []))
  obtain ⟨fs2, hr2, hrun2, hended2, hW2, hsame2⟩ := X1.leave (v := none) (fun _ => rfl)
  refine own_ret (X1.returnOut hx Bd.returns (hb hby d1_4) hr2) hrun2 hended2 ?_
  refine ⟨_, _, rfl, ?_, ⟨_, rfl⟩, hW2, hsame2.mono (by decide) (by decide)⟩
  show Q1 Z ob h0 n0 _ T1.heap _
  rw [e1]
  exact ⟨rfl, N0, rfl⟩
theorem ef_5 (m : MethodId) (x0 : Addr) (x1 : Int64) : entryFrame m #[(.ref x0), (.long x1)] 3 = mkF m 0 #[.val (.ref x0), .val (.long x1), .second] [] := by first | (simp [entryFrame, mkF, argsToLocals, Value.category]; done) | rfl
def Q5 (Z : State) (ob : Addr) (q : Int64) (nt : Int32) (w : Int64) (h0 : Heap) (n0 : Nat) (v : Option Value) (h : Heap) (L : List Loc) : Prop := v = none ∧ Fr n0 L ∧ Keep h0 h [ob] ∧ Exa Z h ob "com/example/riverhop/riverhop/overlay/Wake" ∧ Fld Z h ob "com/example/riverhop/riverhop/overlay/Wake" "noted" "Z" (.int (own_n nt q w)) ∧ Fld Z h ob "com/example/riverhop/riverhop/overlay/Wake" "at" "J" (.long (own_t nt q w))
abbrev P5 (Z : State) (ob : Addr) (q : Int64) (nt : Int32) (w : Int64) (h0 : Heap) (n0 : Nat) (s : State) : Outcome → State → Prop := fun o U' => ∃ v L, o = .returned v ∧ Q5 Z ob q nt w h0 n0 v U'.heap L ∧ FrameEnd s o U' L ({ frames := 0, cells := 0, slots := 0, locals := 0 } : Room).cells ({ frames := 0, cells := 0, slots := 0, locals := 0 } : Room).slots
theorem d5_0 : decode prog_137_method_2_code 0 = .ok (.aload_n 0, 1) := by decide +kernel
theorem d5_1 : decode prog_137_method_2_code 1 = .ok (.getfield 7, 3) := by decide +kernel
theorem d5_4 : decode prog_137_method_2_code 4 = .ok (.ifCond .eq 14, 3) := by decide +kernel
theorem d5_18 : decode prog_137_method_2_code 18 = .ok (.aload_n 0, 1) := by decide +kernel
theorem d5_19 : decode prog_137_method_2_code 19 = .ok (.lload_n 1, 1) := by decide +kernel
theorem d5_20 : decode prog_137_method_2_code 20 = .ok (.putfield 13, 3) := by decide +kernel
theorem d5_23 : decode prog_137_method_2_code 23 = .ok (.aload_n 0, 1) := by decide +kernel
theorem d5_24 : decode prog_137_method_2_code 24 = .ok (.iconst 1, 1) := by decide +kernel
theorem d5_25 : decode prog_137_method_2_code 25 = .ok (.putfield 7, 3) := by decide +kernel
theorem d5_7 : decode prog_137_method_2_code 7 = .ok (.lload_n 1, 1) := by decide +kernel
theorem d5_8 : decode prog_137_method_2_code 8 = .ok (.aload_n 0, 1) := by decide +kernel
theorem d5_9 : decode prog_137_method_2_code 9 = .ok (.getfield 13, 3) := by decide +kernel
theorem d5_12 : decode prog_137_method_2_code 12 = .ok (.lsub, 1) := by decide +kernel
theorem d5_13 : decode prog_137_method_2_code 13 = .ok (.lconst 0, 1) := by decide +kernel
theorem d5_14 : decode prog_137_method_2_code 14 = .ok (.lcmp, 1) := by decide +kernel
theorem d5_15 : decode prog_137_method_2_code 15 = .ok (.ifCond .ge 13, 3) := by decide +kernel
theorem d5_28 : decode prog_137_method_2_code 28 = .ok (.return_, 1) := by decide +kernel
set_option maxRecDepth 65536 in
set_option maxHeartbeats 40000000 in
theorem rm5 (l : Launch) (Z : State) (a0 : Array Value) (hw : ∀ d ∈ tables_1, d.before a0 Z = true) (ws : List Jvm.Cond) (ob : Addr) (q : Int64) (nt : Int32) (w : Int64) (h0 : Heap) (n0 : Nat) (Z0 : n0 ≤ h0.size) (Fn0 : Fld Z h0 ob "com/example/riverhop/riverhop/overlay/Wake" "noted" "Z" (.int nt)) (Ft0 : Fld Z h0 ob "com/example/riverhop/riverhop/overlay/Wake" "at" "J" (.long w)) (Ex0 : Exa Z h0 ob "com/example/riverhop/riverhop/overlay/Wake") (g_ob : n0 ≤ ob) :
    MetFree l (⟨"com/example/riverhop/riverhop/overlay/Wake", "at", "(J)V"⟩ : MethodName) (head1 (Jvm.Cond.code (⟨"com/example/riverhop/riverhop/overlay/Wake", "at", "(J)V"⟩ : MethodName) prog_137_method_2_code 3 none :: ws) ({ frames := 0, cells := 0, slots := 0, locals := 0 } : Room)) (fun a U => a = #[(.ref ob), (.long q)] ∧ Z.Warmed39 U.vm ∧ U.heap = h0) (fun _ _ _ _ _ => True) (fun _ U o U' => ∃ v L, o = .returned v ∧ Q5 Z ob q nt w h0 n0 v U'.heap L ∧ FrameEnd U o U' L ({ frames := 0, cells := 0, slots := 0, locals := 0 } : Room).cells ({ frames := 0, cells := 0, slots := 0, locals := 0 } : Room).slots) := by
  refine MetFree.of_bodySF (plainFor_of_name pn_0) hisR ?_
  intro p e s m args below meth c s₁ Bd hml0 hP hK
  obtain ⟨rfl, hZ, hh⟩ := hP
  have hx := Bd.exec
  have hby := Bd.bytes
  have hml : c.maxLocals = 3 := hml0
  have hown : s.vm.findClass "com/example/riverhop/riverhop/overlay/Wake" = some m.cls := findClass_of_methodNamed Bd.named
  have hnm := (name_of_methodNamed Bd.named Bd.method).1
  have X0 : Stand p l e ({ frames := 0, cells := 0, slots := 0, locals := 0 } : Room) s m #[(.ref ob), (.long q)] below meth c s₁ [] 0 0 := Stand.of_body Bd
  have e0 : s₁.heap = h0 := by rw [← hh, Bd.state]; rfl
  have N0 := Fr.nil n0
  refine own_enter (P := (P5 Z ob q nt w h0 n0 s)) (ef_5 m ob q) ?_
  have K0 : Keep h0 h0 [ob] := Keep.refl h0 _
  show own_Fin p.tables e below _ (s₁.setTop (mkF m 0 #[.val (.ref ob), .val (.long q), .second] []))
  refine own_step (fun _ k => XS.aloadN X0.here hx rfl (hb hby d5_0) rfl rfl k) ?_
  show own_Fin p.tables e below _ (s₁.setTop (mkF m 1 #[.val (.ref ob), .val (.long q), .second] [(.ref ob)]))
  obtain ⟨T1, X1, e1, st1⟩ := getF X0 hx hZ hown (host := "") (Or.inl (hw _ (List.mem_of_getElem? (i := 14) rfl))) Via.refl e0 Fn0 (g := (mkF m 1 #[.val (.ref ob), .val (.long q), .second] [(.ref ob)])) rfl rfl (hb hby d5_1)
  refine own_step st1 ?_
  show own_Fin p.tables e below _ (T1.setTop (mkF m 4 #[.val (.ref ob), .val (.long q), .second] [(.int nt)]))
  have J3 : ∀ (T4 : State) (locs4 : List Loc) (h4 : Heap) (y6 : Int32) (y8 : Int64) (X4 : Stand p l e ({ frames := 0, cells := 0, slots := 0, locals := 0 } : Room) s m #[(.ref ob), (.long q)] below meth c T4 locs4 0 0) (e4 : T4.heap = h4) (N4 : Fr n0 locs4) (gy6 : y6 = (if nt = (0 : Int32) then (1 : Int32) else (if (q - w) < (0 : Int64) then (1 : Int32) else nt))) (gy8 : y8 = (if nt = (0 : Int32) then q else (if (q - w) < (0 : Int64) then q else w))) (f5 : n0 ≤ h4.size) (f7 : Fld Z h4 ob "com/example/riverhop/riverhop/overlay/Wake" "noted" "Z" (.int y6)) (f9 : Fld Z h4 ob "com/example/riverhop/riverhop/overlay/Wake" "at" "J" (.long y8)) (f10 : Exa Z h4 ob "com/example/riverhop/riverhop/overlay/Wake") (f11 : Keep h0 h4 [ob]), own_Fin p.tables e below (P5 Z ob q nt w h0 n0 s) (T4.setTop (mkF m 28 #[.val (.ref ob), .val (.long q), .second] [])) := by
    intro T4 locs4 h4 y6 y8 X4 e4 N4 gy6 gy8 f5 f7 f9 f10 f11
    obtain ⟨fs12, hr12, hrun12, hended12, hW12, hsame12⟩ := X4.leave (v := none) (fun _ => rfl)
    refine own_ret (X4.returnOut hx Bd.returns (hb hby d5_28) hr12) hrun12 hended12 ?_
    refine ⟨_, _, rfl, ?_, ⟨_, rfl⟩, hW12, hsame12.mono (by decide) (by decide)⟩
    show Q5 Z ob q nt w h0 n0 _ T4.heap _
    rw [e4]
    have hq1 : y6 = own_n nt q w := by rw [gy6]; simp only [own_n]
    have hq2 : y8 = own_t nt q w := by rw [gy8]; simp only [own_t]
    rw [hq1] at f7
    rw [hq2] at f9
    exact ⟨rfl, N4, f11, f10, f7, f9⟩
  by_cases hc2 : nt = (0 : Int32)
  · refine own_step (fun _ k => XS.ifYes X1.here hx rfl (pc0 := 4) (pc' := 18) rfl (hb hby d5_4) rfl ((if0 _ _).trans (teq hc2).1) (by decide) (by decide) k) ?_
    show own_Fin p.tables e below _ (T1.setTop (mkF m 18 #[.val (.ref ob), .val (.long q), .second] []))
    refine own_step (fun _ k => XS.aloadN X1.here hx rfl (hb hby d5_18) rfl rfl k) ?_
    show own_Fin p.tables e below _ (T1.setTop (mkF m 19 #[.val (.ref ob), .val (.long q), .second] [(.ref ob)]))
    refine own_step (fun _ k => XS.lloadN X1.here hx rfl (hb hby d5_19) rfl k) ?_
    show own_Fin p.tables e below _ (T1.setTop (mkF m 20 #[.val (.ref ob), .val (.long q), .second] [(.long q), (.ref ob)]))
    obtain ⟨T13, h13, X13, e13, W13, st13⟩ := putF X1 hx hZ hown (host := "") (Or.inl (hw _ (List.mem_of_getElem? (i := 26) rfl))) Via.refl e1 Ft0 Ex0 (Or.inl (hw _ (List.mem_of_getElem? (i := 27) rfl))) (hw _ (List.mem_of_getElem? (i := 1) rfl)) (ty := .long) (by decide) rfl rfl (g := (mkF m 20 #[.val (.ref ob), .val (.long q), .second] [(.long q), (.ref ob)])) rfl rfl (hb hby d5_20)
    refine own_step st13 ?_
    have f14 := Nat.le_trans Z0 (Keep.of_wr W13).1
    have f15 := Fn0.other W13 (Or.inr (slot_ne (Or.inl (hw _ (List.mem_of_getElem? (i := 15) rfl))) (Or.inl (hw _ (List.mem_of_getElem? (i := 27) rfl))) (by decide) (t := .boolean) (t' := .long) (by decide) (by decide)))
    have f16 := Ex0.wr W13
    have f17 := K0.wr W13 (Or.inl (List.mem_of_getElem? (i := 0) rfl))
    have f18 := Ft0.same W13
    have N19 := Fr.snoc X13 N0 g_ob
    show own_Fin p.tables e below _ (T13.setTop (mkF m 23 #[.val (.ref ob), .val (.long q), .second] []))
    refine own_step (fun _ k => XS.aloadN X13.here hx rfl (hb hby d5_23) rfl rfl k) ?_
    show own_Fin p.tables e below _ (T13.setTop (mkF m 24 #[.val (.ref ob), .val (.long q), .second] [(.ref ob)]))
    refine own_step (fun _ k => XS.iconst X13.here hx rfl (hb hby d5_24) k) ?_
    show own_Fin p.tables e below _ (T13.setTop (mkF m 25 #[.val (.ref ob), .val (.long q), .second] [(.int (1 : Int32)), (.ref ob)]))
    obtain ⟨T20, h20, X20, e20, W20, st20⟩ := putFN X13 hx hZ hown (hw _ (List.mem_of_getElem? (i := 14) rfl)) Via.refl e13 f15 f16 (Or.inl (hw _ (List.mem_of_getElem? (i := 15) rfl))) (hw _ (List.mem_of_getElem? (i := 1) rfl)) (ty := .boolean) (v' := .int (1 : Int32)) (by decide) rfl rfl (g := (mkF m 25 #[.val (.ref ob), .val (.long q), .second] [(.int (1 : Int32)), (.ref ob)])) rfl rfl (hb hby d5_25)
    refine own_step st20 ?_
    have f21 := Nat.le_trans f14 (Keep.of_wr W20).1
    have f22 := f18.other W20 (Or.inr (slot_ne (Or.inl (hw _ (List.mem_of_getElem? (i := 27) rfl))) (Or.inl (hw _ (List.mem_of_getElem? (i := 15) rfl))) (by decide) (t := .long) (t' := .boolean) (by decide) (by decide)))
    have f23 := f16.wr W20
    have f24 := f17.wr W20 (Or.inl (List.mem_of_getElem? (i := 0) rfl))
    have f25 := f15.same W20
    have N26 := Fr.snoc X20 N19 g_ob
    show own_Fin p.tables e below _ (T20.setTop (mkF m 28 #[.val (.ref ob), .val (.long q), .second] []))
    exact J3 T20 _ h20 (1 : Int32) q X20 e20 N26 (by rw [if_pos hc2]) (by rw [if_pos hc2]) f21 f25 f22 f23 f24
  · refine own_step (fun _ k => XS.ifNo X1.here hx rfl (hb hby d5_4) rfl ((if0 _ _).trans (feq hc2).1) k) ?_
    show own_Fin p.tables e below _ (T1.setTop (mkF m 7 #[.val (.ref ob), .val (.long q), .second] []))
    refine own_step (fun _ k => XS.lloadN X1.here hx rfl (hb hby d5_7) rfl k) ?_
    show own_Fin p.tables e below _ (T1.setTop (mkF m 8 #[.val (.ref ob), .val (.long q), .second] [(.long q)]))
    refine own_step (fun _ k => XS.aloadN X1.here hx rfl (hb hby d5_8) rfl rfl k) ?_
    show own_Fin p.tables e below _ (T1.setTop (mkF m 9 #[.val (.ref ob), .val (.long q), .second] [(.ref ob), (.long q)]))
    obtain ⟨T27, X27, e27, st27⟩ := getF X1 hx hZ hown (host := "") (Or.inl (hw _ (List.mem_of_getElem? (i := 26) rfl))) Via.refl e1 Ft0 (g := (mkF m 9 #[.val (.ref ob), .val (.long q), .second] [(.ref ob), (.long q)])) rfl rfl (hb hby d5_9)
    refine own_step st27 ?_
    show own_Fin p.tables e below _ (T27.setTop (mkF m 12 #[.val (.ref ob), .val (.long q), .second] [(.long w), (.long q)]))
    refine own_step (fun _ k => XS.lsub X27.here hx rfl (hb hby d5_12) rfl k) ?_
    show own_Fin p.tables e below _ (T27.setTop (mkF m 13 #[.val (.ref ob), .val (.long q), .second] [(.long (q - w))]))
    refine own_step (fun _ k => XS.lconst X27.here hx rfl (hb hby d5_13) k) ?_
    show own_Fin p.tables e below _ (T27.setTop (mkF m 14 #[.val (.ref ob), .val (.long q), .second] [(.long (0 : Int64)), (.long (q - w))]))
    refine own_step (fun _ k => XS.lcmp X27.here hx rfl (hb hby d5_14) rfl k) ?_
    show own_Fin p.tables e below _ (T27.setTop (mkF m 15 #[.val (.ref ob), .val (.long q), .second] [(.int (lcmpW (q - w) (0 : Int64)))]))
    by_cases hc28 : (q - w) < (0 : Int64)
    · refine own_step (fun _ k => XS.ifNo X27.here hx rfl (hb hby d5_15) rfl ((if0 _ _).trans (tlt ((lw_lt _ _).mpr hc28)).2.1) k) ?_
      show own_Fin p.tables e below _ (T27.setTop (mkF m 18 #[.val (.ref ob), .val (.long q), .second] []))
      refine own_step (fun _ k => XS.aloadN X27.here hx rfl (hb hby d5_18) rfl rfl k) ?_
      show own_Fin p.tables e below _ (T27.setTop (mkF m 19 #[.val (.ref ob), .val (.long q), .second] [(.ref ob)]))
      refine own_step (fun _ k => XS.lloadN X27.here hx rfl (hb hby d5_19) rfl k) ?_
      show own_Fin p.tables e below _ (T27.setTop (mkF m 20 #[.val (.ref ob), .val (.long q), .second] [(.long q), (.ref ob)]))
      obtain ⟨T29, h29, X29, e29, W29, st29⟩ := putF X27 hx hZ hown (host := "") (Or.inl (hw _ (List.mem_of_getElem? (i := 26) rfl))) Via.refl e27 Ft0 Ex0 (Or.inl (hw _ (List.mem_of_getElem? (i := 27) rfl))) (hw _ (List.mem_of_getElem? (i := 1) rfl)) (ty := .long) (by decide) rfl rfl (g := (mkF m 20 #[.val (.ref ob), .val (.long q), .second] [(.long q), (.ref ob)])) rfl rfl (hb hby d5_20)
      refine own_step st29 ?_
      have f30 := Nat.le_trans Z0 (Keep.of_wr W29).1
      have f31 := Fn0.other W29 (Or.inr (slot_ne (Or.inl (hw _ (List.mem_of_getElem? (i := 15) rfl))) (Or.inl (hw _ (List.mem_of_getElem? (i := 27) rfl))) (by decide) (t := .boolean) (t' := .long) (by decide) (by decide)))
      have f32 := Ex0.wr W29
      have f33 := K0.wr W29 (Or.inl (List.mem_of_getElem? (i := 0) rfl))
      have f34 := Ft0.same W29
      have N35 := Fr.snoc X29 N0 g_ob
      show own_Fin p.tables e below _ (T29.setTop (mkF m 23 #[.val (.ref ob), .val (.long q), .second] []))
      refine own_step (fun _ k => XS.aloadN X29.here hx rfl (hb hby d5_23) rfl rfl k) ?_
      show own_Fin p.tables e below _ (T29.setTop (mkF m 24 #[.val (.ref ob), .val (.long q), .second] [(.ref ob)]))
      refine own_step (fun _ k => XS.iconst X29.here hx rfl (hb hby d5_24) k) ?_
      show own_Fin p.tables e below _ (T29.setTop (mkF m 25 #[.val (.ref ob), .val (.long q), .second] [(.int (1 : Int32)), (.ref ob)]))
      obtain ⟨T36, h36, X36, e36, W36, st36⟩ := putFN X29 hx hZ hown (hw _ (List.mem_of_getElem? (i := 14) rfl)) Via.refl e29 f31 f32 (Or.inl (hw _ (List.mem_of_getElem? (i := 15) rfl))) (hw _ (List.mem_of_getElem? (i := 1) rfl)) (ty := .boolean) (v' := .int (1 : Int32)) (by decide) rfl rfl (g := (mkF m 25 #[.val (.ref ob), .val (.long q), .second] [(.int (1 : Int32)), (.ref ob)])) rfl rfl (hb hby d5_25)
      refine own_step st36 ?_
      have f37 := Nat.le_trans f30 (Keep.of_wr W36).1
      have f38 := f34.other W36 (Or.inr (slot_ne (Or.inl (hw _ (List.mem_of_getElem? (i := 27) rfl))) (Or.inl (hw _ (List.mem_of_getElem? (i := 15) rfl))) (by decide) (t := .long) (t' := .boolean) (by decide) (by decide)))
      have f39 := f32.wr W36
      have f40 := f33.wr W36 (Or.inl (List.mem_of_getElem? (i := 0) rfl))
      have f41 := f31.same W36
      have N42 := Fr.snoc X36 N35 g_ob
      show own_Fin p.tables e below _ (T36.setTop (mkF m 28 #[.val (.ref ob), .val (.long q), .second] []))
      exact J3 T36 _ h36 (1 : Int32) q X36 e36 N42 (by rw [if_neg hc2, if_pos hc28]) (by rw [if_neg hc2, if_pos hc28]) f37 f41 f38 f39 f40
    · refine own_step (fun _ k => XS.ifYes X27.here hx rfl (pc0 := 15) (pc' := 28) rfl (hb hby d5_15) rfl ((if0 _ _).trans (flt (fun q => hc28 ((lw_lt _ _).mp q))).2.1) (by decide) (by decide) k) ?_
      show own_Fin p.tables e below _ (T27.setTop (mkF m 28 #[.val (.ref ob), .val (.long q), .second] []))
      exact J3 T27 _ h0 nt w X27 e27 N0 (by rw [if_neg hc2, if_neg hc28]) (by rw [if_neg hc2, if_neg hc28]) Z0 Fn0 Ft0 Ex0 K0
theorem ef_3 (m : MethodId) (x0 : Addr) : entryFrame m #[(.ref x0)] 1 = mkF m 0 #[.val (.ref x0)] [] := by first | (simp [entryFrame, mkF, argsToLocals, Value.category]; done) | rfl
def Q3 (Z : State) (ob : Addr) (nt : Int32) (w : Int64) (h0 : Heap) (n0 : Nat) (v : Option Value) (h : Heap) (L : List Loc) : Prop := v = none ∧ Fr n0 L ∧ Keep h0 h [ob] ∧ Exa Z h ob "com/example/riverhop/riverhop/overlay/Wake" ∧ Fld Z h ob "com/example/riverhop/riverhop/overlay/Wake" "noted" "Z" (.int 0) ∧ Fld Z h ob "com/example/riverhop/riverhop/overlay/Wake" "at" "J" (.long w)
abbrev P3 (Z : State) (ob : Addr) (nt : Int32) (w : Int64) (h0 : Heap) (n0 : Nat) (s : State) : Outcome → State → Prop := fun o U' => ∃ v L, o = .returned v ∧ Q3 Z ob nt w h0 n0 v U'.heap L ∧ FrameEnd s o U' L ({ frames := 0, cells := 0, slots := 0, locals := 0 } : Room).cells ({ frames := 0, cells := 0, slots := 0, locals := 0 } : Room).slots
theorem d3_0 : decode prog_137_method_6_code 0 = .ok (.aload_n 0, 1) := by decide +kernel
theorem d3_1 : decode prog_137_method_6_code 1 = .ok (.iconst 0, 1) := by decide +kernel
theorem d3_2 : decode prog_137_method_6_code 2 = .ok (.putfield 7, 3) := by decide +kernel
theorem d3_5 : decode prog_137_method_6_code 5 = .ok (.return_, 1) := by decide +kernel
set_option maxRecDepth 65536 in
set_option maxHeartbeats 40000000 in
theorem rm3 (l : Launch) (Z : State) (a0 : Array Value) (hw : ∀ d ∈ tables_1, d.before a0 Z = true) (ws : List Jvm.Cond) (ob : Addr) (nt : Int32) (w : Int64) (h0 : Heap) (n0 : Nat) (Z0 : n0 ≤ h0.size) (Fn0 : Fld Z h0 ob "com/example/riverhop/riverhop/overlay/Wake" "noted" "Z" (.int nt)) (Ft0 : Fld Z h0 ob "com/example/riverhop/riverhop/overlay/Wake" "at" "J" (.long w)) (Ex0 : Exa Z h0 ob "com/example/riverhop/riverhop/overlay/Wake") (g_ob : n0 ≤ ob) :
    MetFree l (⟨"com/example/riverhop/riverhop/overlay/Wake", "clear", "()V"⟩ : MethodName) (head1 (Jvm.Cond.code (⟨"com/example/riverhop/riverhop/overlay/Wake", "clear", "()V"⟩ : MethodName) prog_137_method_6_code 1 none :: ws) ({ frames := 0, cells := 0, slots := 0, locals := 0 } : Room)) (fun a U => a = #[(.ref ob)] ∧ Z.Warmed39 U.vm ∧ U.heap = h0) (fun _ _ _ _ _ => True) (fun _ U o U' => ∃ v L, o = .returned v ∧ Q3 Z ob nt w h0 n0 v U'.heap L ∧ FrameEnd U o U' L ({ frames := 0, cells := 0, slots := 0, locals := 0 } : Room).cells ({ frames := 0, cells := 0, slots := 0, locals := 0 } : Room).slots) := by
  refine MetFree.of_bodySF (plainFor_of_name pn_0) hisR ?_
  intro p e s m args below meth c s₁ Bd hml0 hP hK
  obtain ⟨rfl, hZ, hh⟩ := hP
  have hx := Bd.exec
  have hby := Bd.bytes
  have hml : c.maxLocals = 1 := hml0
  have hown : s.vm.findClass "com/example/riverhop/riverhop/overlay/Wake" = some m.cls := findClass_of_methodNamed Bd.named
  have hnm := (name_of_methodNamed Bd.named Bd.method).1
  have X0 : Stand p l e ({ frames := 0, cells := 0, slots := 0, locals := 0 } : Room) s m #[(.ref ob)] below meth c s₁ [] 0 0 := Stand.of_body Bd
  have e0 : s₁.heap = h0 := by rw [← hh, Bd.state]; rfl
  have N0 := Fr.nil n0
  refine own_enter (P := (P3 Z ob nt w h0 n0 s)) (ef_3 m ob) ?_
  have K0 : Keep h0 h0 [ob] := Keep.refl h0 _
  show own_Fin p.tables e below _ (s₁.setTop (mkF m 0 #[.val (.ref ob)] []))
  refine own_step (fun _ k => XS.aloadN X0.here hx rfl (hb hby d3_0) rfl rfl k) ?_
  show own_Fin p.tables e below _ (s₁.setTop (mkF m 1 #[.val (.ref ob)] [(.ref ob)]))
  refine own_step (fun _ k => XS.iconst X0.here hx rfl (hb hby d3_1) k) ?_
  show own_Fin p.tables e below _ (s₁.setTop (mkF m 2 #[.val (.ref ob)] [(.int (0 : Int32)), (.ref ob)]))
  obtain ⟨T1, h1, X1, e1, W1, st1⟩ := putFN X0 hx hZ hown (hw _ (List.mem_of_getElem? (i := 14) rfl)) Via.refl e0 Fn0 Ex0 (Or.inl (hw _ (List.mem_of_getElem? (i := 15) rfl))) (hw _ (List.mem_of_getElem? (i := 1) rfl)) (ty := .boolean) (v' := .int (0 : Int32)) (by decide) rfl rfl (g := (mkF m 2 #[.val (.ref ob)] [(.int (0 : Int32)), (.ref ob)])) rfl rfl (hb hby d3_2)
  refine own_step st1 ?_
  have f2 := Nat.le_trans Z0 (Keep.of_wr W1).1
  have f3 := Ft0.other W1 (Or.inr (slot_ne (Or.inl (hw _ (List.mem_of_getElem? (i := 27) rfl))) (Or.inl (hw _ (List.mem_of_getElem? (i := 15) rfl))) (by decide) (t := .long) (t' := .boolean) (by decide) (by decide)))
  have f4 := Ex0.wr W1
  have f5 := K0.wr W1 (Or.inl (List.mem_of_getElem? (i := 0) rfl))
  have f6 := Fn0.same W1
  have N7 := Fr.snoc X1 N0 g_ob
  show own_Fin p.tables e below _ (T1.setTop (mkF m 5 #[.val (.ref ob)] []))
  obtain ⟨fs8, hr8, hrun8, hended8, hW8, hsame8⟩ := X1.leave (v := none) (fun _ => rfl)
  refine own_ret (X1.returnOut hx Bd.returns (hb hby d3_5) hr8) hrun8 hended8 ?_
  refine ⟨_, _, rfl, ?_, ⟨_, rfl⟩, hW8, hsame8.mono (by decide) (by decide)⟩
  show Q3 Z ob nt w h0 n0 _ T1.heap _
  rw [e1]
  exact ⟨rfl, N7, f5, f4, f6, f3⟩
theorem ef_4 (m : MethodId) (x0 : Addr) (x1 : Addr) : entryFrame m #[(.ref x0), (.ref x1)] 2 = mkF m 0 #[.val (.ref x0), .val (.ref x1)] [] := by first | (simp [entryFrame, mkF, argsToLocals, Value.category]; done) | rfl
def Q4 (Z : State) (ob : Addr) (oc : Addr) (nt : Int32) (w : Int64) (nu : Int32) (wu : Int64) (h0 : Heap) (n0 : Nat) (v : Option Value) (h : Heap) (L : List Loc) : Prop := v = some (.int (own_nl nt w nu wu)) ∧ Fr n0 L ∧ h = h0
abbrev P4 (Z : State) (ob : Addr) (oc : Addr) (nt : Int32) (w : Int64) (nu : Int32) (wu : Int64) (h0 : Heap) (n0 : Nat) (s : State) : Outcome → State → Prop := fun o U' => ∃ v L, o = .returned v ∧ Q4 Z ob oc nt w nu wu h0 n0 v U'.heap L ∧ FrameEnd s o U' L ({ frames := 0, cells := 0, slots := 0, locals := 0 } : Room).cells ({ frames := 0, cells := 0, slots := 0, locals := 0 } : Room).slots
theorem d4_0 : decode prog_137_method_5_code 0 = .ok (.aload_n 0, 1) := by decide +kernel
theorem d4_1 : decode prog_137_method_5_code 1 = .ok (.getfield 7, 3) := by decide +kernel
theorem d4_4 : decode prog_137_method_5_code 4 = .ok (.ifCond .eq 24, 3) := by decide +kernel
theorem d4_28 : decode prog_137_method_5_code 28 = .ok (.iconst 1, 1) := by decide +kernel
theorem d4_29 : decode prog_137_method_5_code 29 = .ok (.goto 4, 3) := by decide +kernel
theorem d4_7 : decode prog_137_method_5_code 7 = .ok (.aload_n 1, 1) := by decide +kernel
theorem d4_8 : decode prog_137_method_5_code 8 = .ok (.getfield 7, 3) := by decide +kernel
theorem d4_11 : decode prog_137_method_5_code 11 = .ok (.ifCond .eq 17, 3) := by decide +kernel
theorem d4_14 : decode prog_137_method_5_code 14 = .ok (.aload_n 0, 1) := by decide +kernel
theorem d4_15 : decode prog_137_method_5_code 15 = .ok (.getfield 13, 3) := by decide +kernel
theorem d4_18 : decode prog_137_method_5_code 18 = .ok (.aload_n 1, 1) := by decide +kernel
theorem d4_19 : decode prog_137_method_5_code 19 = .ok (.getfield 13, 3) := by decide +kernel
theorem d4_22 : decode prog_137_method_5_code 22 = .ok (.lsub, 1) := by decide +kernel
theorem d4_23 : decode prog_137_method_5_code 23 = .ok (.lconst 0, 1) := by decide +kernel
theorem d4_24 : decode prog_137_method_5_code 24 = .ok (.lcmp, 1) := by decide +kernel
theorem d4_25 : decode prog_137_method_5_code 25 = .ok (.ifCond .gt 7, 3) := by decide +kernel
theorem d4_32 : decode prog_137_method_5_code 32 = .ok (.iconst 0, 1) := by decide +kernel
theorem d4_33 : decode prog_137_method_5_code 33 = .ok (.ireturn, 1) := by decide +kernel
set_option maxRecDepth 65536 in
set_option maxHeartbeats 40000000 in
theorem rm4 (l : Launch) (Z : State) (a0 : Array Value) (hw : ∀ d ∈ tables_1, d.before a0 Z = true) (ws : List Jvm.Cond) (ob : Addr) (oc : Addr) (nt : Int32) (w : Int64) (nu : Int32) (wu : Int64) (h0 : Heap) (n0 : Nat) (Z0 : n0 ≤ h0.size) (Fn0 : Fld Z h0 ob "com/example/riverhop/riverhop/overlay/Wake" "noted" "Z" (.int nt)) (Ft0 : Fld Z h0 ob "com/example/riverhop/riverhop/overlay/Wake" "at" "J" (.long w)) (Fn1 : Fld Z h0 oc "com/example/riverhop/riverhop/overlay/Wake" "noted" "Z" (.int nu)) (Ft1 : Fld Z h0 oc "com/example/riverhop/riverhop/overlay/Wake" "at" "J" (.long wu)) :
    MetFree l (⟨"com/example/riverhop/riverhop/overlay/Wake", "noLaterThan", "(Lcom/example/riverhop/riverhop/overlay/Wake;)Z"⟩ : MethodName) (head1 (Jvm.Cond.code (⟨"com/example/riverhop/riverhop/overlay/Wake", "noLaterThan", "(Lcom/example/riverhop/riverhop/overlay/Wake;)Z"⟩ : MethodName) prog_137_method_5_code 2 (some .boolean) :: ws) ({ frames := 0, cells := 0, slots := 0, locals := 0 } : Room)) (fun a U => a = #[(.ref ob), (.ref oc)] ∧ Z.Warmed39 U.vm ∧ U.heap = h0) (fun _ _ _ _ _ => True) (fun _ U o U' => ∃ v L, o = .returned v ∧ Q4 Z ob oc nt w nu wu h0 n0 v U'.heap L ∧ FrameEnd U o U' L ({ frames := 0, cells := 0, slots := 0, locals := 0 } : Room).cells ({ frames := 0, cells := 0, slots := 0, locals := 0 } : Room).slots) := by
  refine MetFree.of_bodySF (plainFor_of_name pn_0) hisR ?_
  intro p e s m args below meth c s₁ Bd hml0 hP hK
  obtain ⟨rfl, hZ, hh⟩ := hP
  have hx := Bd.exec
  have hby := Bd.bytes
  have hml : c.maxLocals = 2 := hml0
  have hown : s.vm.findClass "com/example/riverhop/riverhop/overlay/Wake" = some m.cls := findClass_of_methodNamed Bd.named
  have hnm := (name_of_methodNamed Bd.named Bd.method).1
  have X0 : Stand p l e ({ frames := 0, cells := 0, slots := 0, locals := 0 } : Room) s m #[(.ref ob), (.ref oc)] below meth c s₁ [] 0 0 := Stand.of_body Bd
  have e0 : s₁.heap = h0 := by rw [← hh, Bd.state]; rfl
  have N0 := Fr.nil n0
  refine own_enter (P := (P4 Z ob oc nt w nu wu h0 n0 s)) (ef_4 m ob oc) ?_
  show own_Fin p.tables e below _ (s₁.setTop (mkF m 0 #[.val (.ref ob), .val (.ref oc)] []))
  refine own_step (fun _ k => XS.aloadN X0.here hx rfl (hb hby d4_0) rfl rfl k) ?_
  show own_Fin p.tables e below _ (s₁.setTop (mkF m 1 #[.val (.ref ob), .val (.ref oc)] [(.ref ob)]))
  obtain ⟨T1, X1, e1, st1⟩ := getF X0 hx hZ hown (host := "") (Or.inl (hw _ (List.mem_of_getElem? (i := 14) rfl))) Via.refl e0 Fn0 (g := (mkF m 1 #[.val (.ref ob), .val (.ref oc)] [(.ref ob)])) rfl rfl (hb hby d4_1)
  refine own_step st1 ?_
  show own_Fin p.tables e below _ (T1.setTop (mkF m 4 #[.val (.ref ob), .val (.ref oc)] [(.int nt)]))
  have J3 : ∀ (T4 : State) (locs4 : List Loc) (y5 : Int32) (X4 : Stand p l e ({ frames := 0, cells := 0, slots := 0, locals := 0 } : Room) s m #[(.ref ob), (.ref oc)] below meth c T4 locs4 0 0) (e4 : T4.heap = h0) (N4 : Fr n0 locs4) (gy5 : y5 = (if nt = (0 : Int32) then (1 : Int32) else (if nu = (0 : Int32) then (1 : Int32) else (if (0 : Int64) < (w - wu) then (0 : Int32) else (1 : Int32))))), own_Fin p.tables e below (P4 Z ob oc nt w nu wu h0 n0 s) (T4.setTop (mkF m 33 #[.val (.ref ob), .val (.ref oc)] [(.int y5)])) := by
    intro T4 locs4 y5 X4 e4 N4 gy5
    obtain ⟨fs6, hr6, hrun6, hended6, hW6, hsame6⟩ := X4.leave (v := some (.int (nar .boolean y5))) (fun h => by rw [Bd.returns] at h; cases h)
    refine own_ret (retN X4 hx (t := .boolean) Bd.returns (by simp) (hb hby d4_33) hr6) hrun6 hended6 ?_
    refine ⟨_, _, rfl, ?_, ⟨_, rfl⟩, hW6, hsame6.mono (by decide) (by decide)⟩
    show Q4 Z ob oc nt w nu wu h0 n0 _ T4.heap _
    rw [e4]
    refine ⟨congrArg (fun z => some (Value.int z)) ?_, N4, rfl⟩
    rw [gy5]; unfold own_nl; (repeat' split) <;> rfl
  by_cases hc2 : nt = (0 : Int32)
  · refine own_step (fun _ k => XS.ifYes X1.here hx rfl (pc0 := 4) (pc' := 28) rfl (hb hby d4_4) rfl ((if0 _ _).trans (teq hc2).1) (by decide) (by decide) k) ?_
    show own_Fin p.tables e below _ (T1.setTop (mkF m 28 #[.val (.ref ob), .val (.ref oc)] []))
    refine own_step (fun _ k => XS.iconst X1.here hx rfl (hb hby d4_28) k) ?_
    show own_Fin p.tables e below _ (T1.setTop (mkF m 29 #[.val (.ref ob), .val (.ref oc)] [(.int (1 : Int32))]))
    refine own_step (fun _ k => XS.goto X1.here hx rfl (pc0 := 29) (pc' := 33) rfl (hb hby d4_29) (by decide) (by decide) k) ?_
    show own_Fin p.tables e below _ (T1.setTop (mkF m 33 #[.val (.ref ob), .val (.ref oc)] [(.int (1 : Int32))]))
    exact J3 T1 _ (1 : Int32) X1 e1 N0 (by rw [if_pos hc2])
  · refine own_step (fun _ k => XS.ifNo X1.here hx rfl (hb hby d4_4) rfl ((if0 _ _).trans (feq hc2).1) k) ?_
    show own_Fin p.tables e below _ (T1.setTop (mkF m 7 #[.val (.ref ob), .val (.ref oc)] []))
    refine own_step (fun _ k => XS.aloadN X1.here hx rfl (hb hby d4_7) rfl rfl k) ?_
    show own_Fin p.tables e below _ (T1.setTop (mkF m 8 #[.val (.ref ob), .val (.ref oc)] [(.ref oc)]))
    obtain ⟨T7, X7, e7, st7⟩ := getF X1 hx hZ hown (host := "") (Or.inl (hw _ (List.mem_of_getElem? (i := 14) rfl))) Via.refl e1 Fn1 (g := (mkF m 8 #[.val (.ref ob), .val (.ref oc)] [(.ref oc)])) rfl rfl (hb hby d4_8)
    refine own_step st7 ?_
    show own_Fin p.tables e below _ (T7.setTop (mkF m 11 #[.val (.ref ob), .val (.ref oc)] [(.int nu)]))
    by_cases hc8 : nu = (0 : Int32)
    · refine own_step (fun _ k => XS.ifYes X7.here hx rfl (pc0 := 11) (pc' := 28) rfl (hb hby d4_11) rfl ((if0 _ _).trans (teq hc8).1) (by decide) (by decide) k) ?_
      show own_Fin p.tables e below _ (T7.setTop (mkF m 28 #[.val (.ref ob), .val (.ref oc)] []))
      refine own_step (fun _ k => XS.iconst X7.here hx rfl (hb hby d4_28) k) ?_
      show own_Fin p.tables e below _ (T7.setTop (mkF m 29 #[.val (.ref ob), .val (.ref oc)] [(.int (1 : Int32))]))
      refine own_step (fun _ k => XS.goto X7.here hx rfl (pc0 := 29) (pc' := 33) rfl (hb hby d4_29) (by decide) (by decide) k) ?_
      show own_Fin p.tables e below _ (T7.setTop (mkF m 33 #[.val (.ref ob), .val (.ref oc)] [(.int (1 : Int32))]))
      exact J3 T7 _ (1 : Int32) X7 e7 N0 (by rw [if_neg hc2, if_pos hc8])
    · refine own_step (fun _ k => XS.ifNo X7.here hx rfl (hb hby d4_11) rfl ((if0 _ _).trans (feq hc8).1) k) ?_
      show own_Fin p.tables e below _ (T7.setTop (mkF m 14 #[.val (.ref ob), .val (.ref oc)] []))
      refine own_step (fun _ k => XS.aloadN X7.here hx rfl (hb hby d4_14) rfl rfl k) ?_
      show own_Fin p.tables e below _ (T7.setTop (mkF m 15 #[.val (.ref ob), .val (.ref oc)] [(.ref ob)]))
      obtain ⟨T9, X9, e9, st9⟩ := getF X7 hx hZ hown (host := "") (Or.inl (hw _ (List.mem_of_getElem? (i := 26) rfl))) Via.refl e7 Ft0 (g := (mkF m 15 #[.val (.ref ob), .val (.ref oc)] [(.ref ob)])) rfl rfl (hb hby d4_15)
      refine own_step st9 ?_
      show own_Fin p.tables e below _ (T9.setTop (mkF m 18 #[.val (.ref ob), .val (.ref oc)] [(.long w)]))
      refine own_step (fun _ k => XS.aloadN X9.here hx rfl (hb hby d4_18) rfl rfl k) ?_
      show own_Fin p.tables e below _ (T9.setTop (mkF m 19 #[.val (.ref ob), .val (.ref oc)] [(.ref oc), (.long w)]))
      obtain ⟨T10, X10, e10, st10⟩ := getF X9 hx hZ hown (host := "") (Or.inl (hw _ (List.mem_of_getElem? (i := 26) rfl))) Via.refl e9 Ft1 (g := (mkF m 19 #[.val (.ref ob), .val (.ref oc)] [(.ref oc), (.long w)])) rfl rfl (hb hby d4_19)
      refine own_step st10 ?_
      show own_Fin p.tables e below _ (T10.setTop (mkF m 22 #[.val (.ref ob), .val (.ref oc)] [(.long wu), (.long w)]))
      refine own_step (fun _ k => XS.lsub X10.here hx rfl (hb hby d4_22) rfl k) ?_
      show own_Fin p.tables e below _ (T10.setTop (mkF m 23 #[.val (.ref ob), .val (.ref oc)] [(.long (w - wu))]))
      refine own_step (fun _ k => XS.lconst X10.here hx rfl (hb hby d4_23) k) ?_
      show own_Fin p.tables e below _ (T10.setTop (mkF m 24 #[.val (.ref ob), .val (.ref oc)] [(.long (0 : Int64)), (.long (w - wu))]))
      refine own_step (fun _ k => XS.lcmp X10.here hx rfl (hb hby d4_24) rfl k) ?_
      show own_Fin p.tables e below _ (T10.setTop (mkF m 25 #[.val (.ref ob), .val (.ref oc)] [(.int (lcmpW (w - wu) (0 : Int64)))]))
      by_cases hc11 : (0 : Int64) < (w - wu)
      · refine own_step (fun _ k => XS.ifYes X10.here hx rfl (pc0 := 25) (pc' := 32) rfl (hb hby d4_25) rfl ((if0 _ _).trans (tlt ((lw_gt _ _).mpr hc11)).2.2.1) (by decide) (by decide) k) ?_
        show own_Fin p.tables e below _ (T10.setTop (mkF m 32 #[.val (.ref ob), .val (.ref oc)] []))
        refine own_step (fun _ k => XS.iconst X10.here hx rfl (hb hby d4_32) k) ?_
        show own_Fin p.tables e below _ (T10.setTop (mkF m 33 #[.val (.ref ob), .val (.ref oc)] [(.int (0 : Int32))]))
        exact J3 T10 _ (0 : Int32) X10 e10 N0 (by rw [if_neg hc2, if_neg hc8, if_pos hc11])
      · refine own_step (fun _ k => XS.ifNo X10.here hx rfl (hb hby d4_25) rfl ((if0 _ _).trans (flt (fun q => hc11 ((lw_gt _ _).mp q))).2.2.1) k) ?_
        show own_Fin p.tables e below _ (T10.setTop (mkF m 28 #[.val (.ref ob), .val (.ref oc)] []))
        refine own_step (fun _ k => XS.iconst X10.here hx rfl (hb hby d4_28) k) ?_
        show own_Fin p.tables e below _ (T10.setTop (mkF m 29 #[.val (.ref ob), .val (.ref oc)] [(.int (1 : Int32))]))
        refine own_step (fun _ k => XS.goto X10.here hx rfl (pc0 := 29) (pc' := 33) rfl (hb hby d4_29) (by decide) (by decide) k) ?_
        show own_Fin p.tables e below _ (T10.setTop (mkF m 33 #[.val (.ref ob), .val (.ref oc)] [(.int (1 : Int32))]))
        exact J3 T10 _ (1 : Int32) X10 e10 N0 (by rw [if_neg hc2, if_neg hc8, if_neg hc11])
theorem pn_1 : plainName "com/example/riverhop/riverhop/overlay/WakeNoLaterThanPinLaw" = true := by first | (simp [plainName, overriddenIn]; done) | decide +kernel
theorem ef_0 (m : MethodId) (x0 : Int64) (x1 : Int64) (x2 : Int32) : entryFrame m #[(.long x0), (.long x1), (.int x2)] maxLocals = mkF m 0 #[.val (.long x0), .second, .val (.long x1), .second, .val (.int x2), .unset, .unset, .unset, .unset, .unset, .unset, .unset, .unset, .unset, .unset] [] := by first | (simp [entryFrame, mkF, argsToLocals, Value.category, maxLocals]; done) | rfl
def Q0 (Z : State) (qa : Int64) (qb : Int64) (fl : Int32) (h0 : Heap) (n0 : Nat) (v : Option Value) (h : Heap) (L : List Loc) : Prop := v = some (.int 1) ∧ Fr n0 L
abbrev P0 (Z : State) (qa : Int64) (qb : Int64) (fl : Int32) (h0 : Heap) (n0 : Nat) (s : State) : Outcome → State → Prop := fun o U' => ∃ v L, o = .returned v ∧ Q0 Z qa qb fl h0 n0 v U'.heap L ∧ FrameEnd s o U' L room_1.cells room_1.slots
theorem pd_0 : parseMethodDescriptor "()V" = some ⟨[], none⟩ := by decide +kernel
theorem pd_1 : parseMethodDescriptor "(J)V" = some ⟨[.long], none⟩ := by decide +kernel
theorem pd_2 : parseMethodDescriptor "(Lcom/example/riverhop/riverhop/overlay/Wake;)Z" = some ⟨[(.object "com/example/riverhop/riverhop/overlay/Wake")], some .boolean⟩ := by decide +kernel
set_option maxRecDepth 65536 in
set_option maxHeartbeats 40000000 in
theorem rm0 (l : Launch) (Z : State) (a0 : Array Value) (hw : ∀ d ∈ tables_1, d.before a0 Z = true) (ws : List Jvm.Cond) (qa : Int64) (qb : Int64) (fl : Int32) (h0 : Heap) (n0 : Nat) (Z0 : n0 ≤ h0.size) :
    MetFree l x (head1 (Jvm.Cond.code x code maxLocals ret :: ws) room_1) (fun a U => a = #[(.long qa), (.long qb), (.int fl)] ∧ Z.Warmed39 U.vm ∧ U.heap = h0) (fun _ _ _ _ _ => True) (fun _ U o U' => ∃ v L, o = .returned v ∧ Q0 Z qa qb fl h0 n0 v U'.heap L ∧ FrameEnd U o U' L room_1.cells room_1.slots) := by
  refine MetFree.of_bodySF (plainFor_of_name pn_1) hisR ?_
  intro p e s m args below meth c s₁ Bd hml0 hP hK
  obtain ⟨rfl, hZ, hh⟩ := hP
  have hx := Bd.exec
  have hby := Bd.bytes
  have hml : c.maxLocals = 15 := hml0
  have hown : s.vm.findClass "com/example/riverhop/riverhop/overlay/WakeNoLaterThanPinLaw" = some m.cls := findClass_of_methodNamed Bd.named
  have hnm := (name_of_methodNamed Bd.named Bd.method).1
  have X0 : Stand p l e room_1 s m #[(.long qa), (.long qb), (.int fl)] below meth c s₁ [] 0 0 := Stand.of_body Bd
  have e0 : s₁.heap = h0 := by rw [← hh, Bd.state]; rfl
  have N0 := Fr.nil n0
  refine own_enter (P := (P0 Z qa qb fl h0 n0 s)) (ef_0 m qa qb fl) ?_
  show own_Fin p.tables e below _ (s₁.setTop (mkF m 0 #[.val (.long qa), .second, .val (.long qb), .second, .val (.int fl), .unset, .unset, .unset, .unset, .unset, .unset, .unset, .unset, .unset, .unset] []))
  refine own_step (fun _ k => XS.iload X0.here hx rfl (hb hby at_0) rfl k) ?_
  show own_Fin p.tables e below _ (s₁.setTop (mkF m 2 #[.val (.long qa), .second, .val (.long qb), .second, .val (.int fl), .unset, .unset, .unset, .unset, .unset, .unset, .unset, .unset, .unset, .unset] [(.int fl)]))
  refine own_step (fun _ k => XS.iconst X0.here hx rfl (hb hby at_2) k) ?_
  show own_Fin p.tables e below _ (s₁.setTop (mkF m 3 #[.val (.long qa), .second, .val (.long qb), .second, .val (.int fl), .unset, .unset, .unset, .unset, .unset, .unset, .unset, .unset, .unset, .unset] [(.int (1 : Int32)), (.int fl)]))
  refine own_step (fun _ k => XS.iand X0.here hx rfl (hb hby at_3) rfl k) ?_
  show own_Fin p.tables e below _ (s₁.setTop (mkF m 4 #[.val (.long qa), .second, .val (.long qb), .second, .val (.int fl), .unset, .unset, .unset, .unset, .unset, .unset, .unset, .unset, .unset, .unset] [(.int (fl &&& (1 : Int32)))]))
  have J2 : ∀ (T3 : State) (locs3 : List Loc) (y4 : Int32) (X3 : Stand p l e room_1 s m #[(.long qa), (.long qb), (.int fl)] below meth c T3 locs3 0 0) (e3 : T3.heap = h0) (N3 : Fr n0 locs3) (gy4 : y4 = (if (fl &&& (1 : Int32)) = (0 : Int32) then (0 : Int32) else (1 : Int32))), own_Fin p.tables e below (P0 Z qa qb fl h0 n0 s) (T3.setTop (mkF m 12 #[.val (.long qa), .second, .val (.long qb), .second, .val (.int fl), .unset, .unset, .unset, .unset, .unset, .unset, .unset, .unset, .unset, .unset] [(.int y4)])) := by
    intro T3 locs3 y4 X3 e3 N3 gy4
    refine own_step (fun _ k => XS.istore X3.here hx rfl (hb hby at_12) rfl (l' := #[.val (.long qa), .second, .val (.long qb), .second, .val (.int fl), .val (.int y4), .unset, .unset, .unset, .unset, .unset, .unset, .unset, .unset, .unset]) rfl k) ?_
    show own_Fin p.tables e below _ (T3.setTop (mkF m 14 #[.val (.long qa), .second, .val (.long qb), .second, .val (.int fl), .val (.int y4), .unset, .unset, .unset, .unset, .unset, .unset, .unset, .unset, .unset] []))
    refine own_step (fun _ k => XS.iload X3.here hx rfl (hb hby at_14) rfl k) ?_
    show own_Fin p.tables e below _ (T3.setTop (mkF m 16 #[.val (.long qa), .second, .val (.long qb), .second, .val (.int fl), .val (.int y4), .unset, .unset, .unset, .unset, .unset, .unset, .unset, .unset, .unset] [(.int fl)]))
    refine own_step (fun _ k => XS.iconst X3.here hx rfl (hb hby at_16) k) ?_
    show own_Fin p.tables e below _ (T3.setTop (mkF m 17 #[.val (.long qa), .second, .val (.long qb), .second, .val (.int fl), .val (.int y4), .unset, .unset, .unset, .unset, .unset, .unset, .unset, .unset, .unset] [(.int (2 : Int32)), (.int fl)]))
    refine own_step (fun _ k => XS.iand X3.here hx rfl (hb hby at_17) rfl k) ?_
    show own_Fin p.tables e below _ (T3.setTop (mkF m 18 #[.val (.long qa), .second, .val (.long qb), .second, .val (.int fl), .val (.int y4), .unset, .unset, .unset, .unset, .unset, .unset, .unset, .unset, .unset] [(.int (fl &&& (2 : Int32)))]))
    have J6 : ∀ (T7 : State) (locs7 : List Loc) (y8 : Int32) (X7 : Stand p l e room_1 s m #[(.long qa), (.long qb), (.int fl)] below meth c T7 locs7 0 0) (e7 : T7.heap = h0) (N7 : Fr n0 locs7) (gy8 : y8 = (if (fl &&& (2 : Int32)) = (0 : Int32) then (0 : Int32) else (1 : Int32))), own_Fin p.tables e below (P0 Z qa qb fl h0 n0 s) (T7.setTop (mkF m 26 #[.val (.long qa), .second, .val (.long qb), .second, .val (.int fl), .val (.int y4), .unset, .unset, .unset, .unset, .unset, .unset, .unset, .unset, .unset] [(.int y8)])) := by
      intro T7 locs7 y8 X7 e7 N7 gy8
      refine own_step (fun _ k => XS.istore X7.here hx rfl (hb hby at_26) rfl (l' := #[.val (.long qa), .second, .val (.long qb), .second, .val (.int fl), .val (.int y4), .val (.int y8), .unset, .unset, .unset, .unset, .unset, .unset, .unset, .unset]) rfl k) ?_
      show own_Fin p.tables e below _ (T7.setTop (mkF m 28 #[.val (.long qa), .second, .val (.long qb), .second, .val (.int fl), .val (.int y4), .val (.int y8), .unset, .unset, .unset, .unset, .unset, .unset, .unset, .unset] []))
      refine own_step (fun _ k => XS.iload X7.here hx rfl (hb hby at_28) rfl k) ?_
      show own_Fin p.tables e below _ (T7.setTop (mkF m 30 #[.val (.long qa), .second, .val (.long qb), .second, .val (.int fl), .val (.int y4), .val (.int y8), .unset, .unset, .unset, .unset, .unset, .unset, .unset, .unset] [(.int fl)]))
      refine own_step (fun _ k => XS.iconst X7.here hx rfl (hb hby at_30) k) ?_
      show own_Fin p.tables e below _ (T7.setTop (mkF m 31 #[.val (.long qa), .second, .val (.long qb), .second, .val (.int fl), .val (.int y4), .val (.int y8), .unset, .unset, .unset, .unset, .unset, .unset, .unset, .unset] [(.int (4 : Int32)), (.int fl)]))
      refine own_step (fun _ k => XS.iand X7.here hx rfl (hb hby at_31) rfl k) ?_
      show own_Fin p.tables e below _ (T7.setTop (mkF m 32 #[.val (.long qa), .second, .val (.long qb), .second, .val (.int fl), .val (.int y4), .val (.int y8), .unset, .unset, .unset, .unset, .unset, .unset, .unset, .unset] [(.int (fl &&& (4 : Int32)))]))
      have J10 : ∀ (T11 : State) (locs11 : List Loc) (y12 : Int32) (X11 : Stand p l e room_1 s m #[(.long qa), (.long qb), (.int fl)] below meth c T11 locs11 0 0) (e11 : T11.heap = h0) (N11 : Fr n0 locs11) (gy12 : y12 = (if (fl &&& (4 : Int32)) = (0 : Int32) then (0 : Int32) else (1 : Int32))), own_Fin p.tables e below (P0 Z qa qb fl h0 n0 s) (T11.setTop (mkF m 40 #[.val (.long qa), .second, .val (.long qb), .second, .val (.int fl), .val (.int y4), .val (.int y8), .unset, .unset, .unset, .unset, .unset, .unset, .unset, .unset] [(.int y12)])) := by
        intro T11 locs11 y12 X11 e11 N11 gy12
        refine own_step (fun _ k => XS.istore X11.here hx rfl (hb hby at_40) rfl (l' := #[.val (.long qa), .second, .val (.long qb), .second, .val (.int fl), .val (.int y4), .val (.int y8), .val (.int y12), .unset, .unset, .unset, .unset, .unset, .unset, .unset]) rfl k) ?_
        show own_Fin p.tables e below _ (T11.setTop (mkF m 42 #[.val (.long qa), .second, .val (.long qb), .second, .val (.int fl), .val (.int y4), .val (.int y8), .val (.int y12), .unset, .unset, .unset, .unset, .unset, .unset, .unset] []))
        refine own_step (fun _ k => XS.iload X11.here hx rfl (hb hby at_42) rfl k) ?_
        show own_Fin p.tables e below _ (T11.setTop (mkF m 44 #[.val (.long qa), .second, .val (.long qb), .second, .val (.int fl), .val (.int y4), .val (.int y8), .val (.int y12), .unset, .unset, .unset, .unset, .unset, .unset, .unset] [(.int fl)]))
        refine own_step (fun _ k => XS.bipush X11.here hx rfl (hb hby at_44) k) ?_
        show own_Fin p.tables e below _ (T11.setTop (mkF m 46 #[.val (.long qa), .second, .val (.long qb), .second, .val (.int fl), .val (.int y4), .val (.int y8), .val (.int y12), .unset, .unset, .unset, .unset, .unset, .unset, .unset] [(.int (8 : Int32)), (.int fl)]))
        refine own_step (fun _ k => XS.iand X11.here hx rfl (hb hby at_46) rfl k) ?_
        show own_Fin p.tables e below _ (T11.setTop (mkF m 47 #[.val (.long qa), .second, .val (.long qb), .second, .val (.int fl), .val (.int y4), .val (.int y8), .val (.int y12), .unset, .unset, .unset, .unset, .unset, .unset, .unset] [(.int (fl &&& (8 : Int32)))]))
        have J14 : ∀ (T15 : State) (locs15 : List Loc) (y16 : Int32) (X15 : Stand p l e room_1 s m #[(.long qa), (.long qb), (.int fl)] below meth c T15 locs15 0 0) (e15 : T15.heap = h0) (N15 : Fr n0 locs15) (gy16 : y16 = (if (fl &&& (8 : Int32)) = (0 : Int32) then (0 : Int32) else (1 : Int32))), own_Fin p.tables e below (P0 Z qa qb fl h0 n0 s) (T15.setTop (mkF m 55 #[.val (.long qa), .second, .val (.long qb), .second, .val (.int fl), .val (.int y4), .val (.int y8), .val (.int y12), .unset, .unset, .unset, .unset, .unset, .unset, .unset] [(.int y16)])) := by
          intro T15 locs15 y16 X15 e15 N15 gy16
          refine own_step (fun _ k => XS.istore X15.here hx rfl (hb hby at_55) rfl (l' := #[.val (.long qa), .second, .val (.long qb), .second, .val (.int fl), .val (.int y4), .val (.int y8), .val (.int y12), .val (.int y16), .unset, .unset, .unset, .unset, .unset, .unset]) rfl k) ?_
          show own_Fin p.tables e below _ (T15.setTop (mkF m 57 #[.val (.long qa), .second, .val (.long qb), .second, .val (.int fl), .val (.int y4), .val (.int y8), .val (.int y12), .val (.int y16), .unset, .unset, .unset, .unset, .unset, .unset] []))
          obtain ⟨T17, h17, X17, e17, E17, A17, D17, -, st17⟩ := newO X15 hx hZ hown (hw _ (List.mem_of_getElem? (i := 0) rfl)) (hw _ (List.mem_of_getElem? (i := 1) rfl)) (hw _ (List.mem_of_getElem? (i := 2) rfl)) e15 (g := (mkF m 57 #[.val (.long qa), .second, .val (.long qb), .second, .val (.int fl), .val (.int y4), .val (.int y8), .val (.int y12), .val (.int y16), .unset, .unset, .unset, .unset, .unset, .unset] [])) rfl (hb hby at_57) (by decide) (by decide)
          obtain ⟨b17, g17⟩ : ∃ z, z = h0.size := ⟨_, rfl⟩
          rw [← g17] at A17 D17 st17
          refine own_step st17 ?_
          have g_b17 : n0 ≤ b17 := Nat.le_trans Z0 (Nat.le_of_eq g17.symm)
          have f18 := Nat.le_trans Z0 E17.1
          have f19 : Fld Z h17 b17 "com/example/riverhop/riverhop/overlay/Wake" "noted" "Z" (.int (0 : Int32)) := D17 (Or.inl (hw _ (List.mem_of_getElem? (i := 15) rfl))) (ty := .boolean) (by decide)
          have f20 : Fld Z h17 b17 "com/example/riverhop/riverhop/overlay/Wake" "at" "J" (.long (0 : Int64)) := D17 (Or.inl (hw _ (List.mem_of_getElem? (i := 27) rfl))) (ty := .long) (by decide)
          show own_Fin p.tables e below _ (T17.setTop (mkF m 60 #[.val (.long qa), .second, .val (.long qb), .second, .val (.int fl), .val (.int y4), .val (.int y8), .val (.int y12), .val (.int y16), .unset, .unset, .unset, .unset, .unset, .unset] [(.ref b17)]))
          refine own_step (fun _ k => XS.dup X17.here hx rfl (hb hby at_60) rfl rfl k) ?_
          show own_Fin p.tables e below _ (T17.setTop (mkF m 61 #[.val (.long qa), .second, .val (.long qb), .second, .val (.int fl), .val (.int y4), .val (.int y8), .val (.int y12), .val (.int y16), .unset, .unset, .unset, .unset, .unset, .unset] [(.ref b17), (.ref b17)]))
          obtain ⟨_, _, ⟨T21, L21, k21, n21⟩, -, X21, ⟨Lc21, hQ21, l21, y21, z21⟩, st21⟩ := X17.specialBack hx (y := (⟨"com/example/riverhop/riverhop/overlay/Wake", "<init>", "()V"⟩ : MethodName)) rfl hown (mvT hZ (hw _ (List.mem_of_getElem? (i := 3) rfl))) (mvT hZ (hw _ (List.mem_of_getElem? (i := 4) rfl))) (mvT hZ (hw _ (List.mem_of_getElem? (i := 5) rfl))) (by decide) (backOf (W := 1) (rm1 l Z a0 hw [] b17  h17 n0 f18 ) hZ (hw _ (List.mem_of_getElem? (i := 5) rfl)) (hw _ (List.mem_of_getElem? (i := 2) rfl)) (by decide) (by decide)) (g := (mkF m 61 #[.val (.long qa), .second, .val (.long qb), .second, .val (.int fl), .val (.int y4), .val (.int y8), .val (.int y12), .val (.int y16), .unset, .unset, .unset, .unset, .unset, .unset] [(.ref b17), (.ref b17)])) rfl (by rw [hml]; rfl) (Steps.refl _) (a := b17) (argsL := []) (rest := [(.ref b17)]) (lenOf pd_0 rfl) rfl (by show 2 * 0 + _ ≤ _; exact Nat.le_of_eq rfl) (hb hby at_61) (fun _ _ => ⟨rfl, e17, (by decide : 1 + 0 ≤ _), (by decide : 2 + 0 ≤ _)⟩)
          dsimp only [Pt.U, Pt.locs, Pt.cells, Pt.slots] at X21 l21 y21 z21 st21 hQ21
          subst l21 y21 z21
          obtain ⟨rfl, N21q, e21⟩ := hQ21
          have N21 := Fr.app N15 N21q
          refine own_steps st21 ?_
          show own_Fin p.tables e below _ (T21.setTop (mkF m 64 #[.val (.long qa), .second, .val (.long qb), .second, .val (.int fl), .val (.int y4), .val (.int y8), .val (.int y12), .val (.int y16), .unset, .unset, .unset, .unset, .unset, .unset] [(.ref b17)]))
          refine own_step (fun _ k => XS.astore X21.here hx rfl (hb hby at_64) rfl rfl (l' := #[.val (.long qa), .second, .val (.long qb), .second, .val (.int fl), .val (.int y4), .val (.int y8), .val (.int y12), .val (.int y16), .val (.ref b17), .unset, .unset, .unset, .unset, .unset]) rfl k) ?_
          show own_Fin p.tables e below _ (T21.setTop (mkF m 66 #[.val (.long qa), .second, .val (.long qb), .second, .val (.int fl), .val (.int y4), .val (.int y8), .val (.int y12), .val (.int y16), .val (.ref b17), .unset, .unset, .unset, .unset, .unset] []))
          obtain ⟨T22, h22, X22, e22, E22, A22, D22, -, st22⟩ := newO X21 hx hZ hown (hw _ (List.mem_of_getElem? (i := 0) rfl)) (hw _ (List.mem_of_getElem? (i := 1) rfl)) (hw _ (List.mem_of_getElem? (i := 2) rfl)) e21 (g := (mkF m 66 #[.val (.long qa), .second, .val (.long qb), .second, .val (.int fl), .val (.int y4), .val (.int y8), .val (.int y12), .val (.int y16), .val (.ref b17), .unset, .unset, .unset, .unset, .unset] [])) rfl (hb hby at_66) (by decide) (by decide)
          obtain ⟨b22, g22⟩ : ∃ z, z = h17.size := ⟨_, rfl⟩
          rw [← g22] at A22 D22 st22
          refine own_step st22 ?_
          have g_b22 : n0 ≤ b22 := Nat.le_trans f18 (Nat.le_of_eq g22.symm)
          have ne_b17_b22 : b17 ≠ b22 := Nat.ne_of_lt (Nat.lt_of_lt_of_le A17.lt (Nat.le_of_eq g22.symm))
          have f23 := Nat.le_trans f18 E22.1
          have f24 := A17.ext E22
          have f25 := f19.ext E22
          have f26 := f20.ext E22
          have f27 : Fld Z h22 b22 "com/example/riverhop/riverhop/overlay/Wake" "noted" "Z" (.int (0 : Int32)) := D22 (Or.inl (hw _ (List.mem_of_getElem? (i := 15) rfl))) (ty := .boolean) (by decide)
          have f28 : Fld Z h22 b22 "com/example/riverhop/riverhop/overlay/Wake" "at" "J" (.long (0 : Int64)) := D22 (Or.inl (hw _ (List.mem_of_getElem? (i := 27) rfl))) (ty := .long) (by decide)
          show own_Fin p.tables e below _ (T22.setTop (mkF m 69 #[.val (.long qa), .second, .val (.long qb), .second, .val (.int fl), .val (.int y4), .val (.int y8), .val (.int y12), .val (.int y16), .val (.ref b17), .unset, .unset, .unset, .unset, .unset] [(.ref b22)]))
          refine own_step (fun _ k => XS.dup X22.here hx rfl (hb hby at_69) rfl rfl k) ?_
          show own_Fin p.tables e below _ (T22.setTop (mkF m 70 #[.val (.long qa), .second, .val (.long qb), .second, .val (.int fl), .val (.int y4), .val (.int y8), .val (.int y12), .val (.int y16), .val (.ref b17), .unset, .unset, .unset, .unset, .unset] [(.ref b22), (.ref b22)]))
          obtain ⟨_, _, ⟨T29, L29, k29, n29⟩, -, X29, ⟨Lc29, hQ29, l29, y29, z29⟩, st29⟩ := X22.specialBack hx (y := (⟨"com/example/riverhop/riverhop/overlay/Wake", "<init>", "()V"⟩ : MethodName)) rfl hown (mvT hZ (hw _ (List.mem_of_getElem? (i := 3) rfl))) (mvT hZ (hw _ (List.mem_of_getElem? (i := 4) rfl))) (mvT hZ (hw _ (List.mem_of_getElem? (i := 5) rfl))) (by decide) (backOf (W := 1) (rm1 l Z a0 hw [] b22  h22 n0 f23 ) hZ (hw _ (List.mem_of_getElem? (i := 5) rfl)) (hw _ (List.mem_of_getElem? (i := 2) rfl)) (by decide) (by decide)) (g := (mkF m 70 #[.val (.long qa), .second, .val (.long qb), .second, .val (.int fl), .val (.int y4), .val (.int y8), .val (.int y12), .val (.int y16), .val (.ref b17), .unset, .unset, .unset, .unset, .unset] [(.ref b22), (.ref b22)])) rfl (by rw [hml]; rfl) (Steps.refl _) (a := b22) (argsL := []) (rest := [(.ref b22)]) (lenOf pd_0 rfl) rfl (by show 2 * 0 + _ ≤ _; exact Nat.le_of_eq rfl) (hb hby at_70) (fun _ _ => ⟨rfl, e22, (by decide : 2 + 0 ≤ _), (by decide : 4 + 0 ≤ _)⟩)
          dsimp only [Pt.U, Pt.locs, Pt.cells, Pt.slots] at X29 l29 y29 z29 st29 hQ29
          subst l29 y29 z29
          obtain ⟨rfl, N29q, e29⟩ := hQ29
          have N29 := Fr.app N21 N29q
          refine own_steps st29 ?_
          show own_Fin p.tables e below _ (T29.setTop (mkF m 73 #[.val (.long qa), .second, .val (.long qb), .second, .val (.int fl), .val (.int y4), .val (.int y8), .val (.int y12), .val (.int y16), .val (.ref b17), .unset, .unset, .unset, .unset, .unset] [(.ref b22)]))
          refine own_step (fun _ k => XS.astore X29.here hx rfl (hb hby at_73) rfl rfl (l' := #[.val (.long qa), .second, .val (.long qb), .second, .val (.int fl), .val (.int y4), .val (.int y8), .val (.int y12), .val (.int y16), .val (.ref b17), .val (.ref b22), .unset, .unset, .unset, .unset]) rfl k) ?_
          show own_Fin p.tables e below _ (T29.setTop (mkF m 75 #[.val (.long qa), .second, .val (.long qb), .second, .val (.int fl), .val (.int y4), .val (.int y8), .val (.int y12), .val (.int y16), .val (.ref b17), .val (.ref b22), .unset, .unset, .unset, .unset] []))
          refine own_step (fun _ k => XS.iload X29.here hx rfl (hb hby at_75) rfl k) ?_
          show own_Fin p.tables e below _ (T29.setTop (mkF m 77 #[.val (.long qa), .second, .val (.long qb), .second, .val (.int fl), .val (.int y4), .val (.int y8), .val (.int y12), .val (.int y16), .val (.ref b17), .val (.ref b22), .unset, .unset, .unset, .unset] [(.int y4)]))
          have J31 : ∀ (T32 : State) (locs32 : List Loc) (h32 : Heap) (y35 : Int32) (y37 : Int64) (X32 : Stand p l e room_1 s m #[(.long qa), (.long qb), (.int fl)] below meth c T32 locs32 2 4) (e32 : T32.heap = h32) (N32 : Fr n0 locs32) (gy35 : y35 = (if y4 = (0 : Int32) then (if y12 = (0 : Int32) then (0 : Int32) else (own_n (0 : Int32) qa (0 : Int64))) else (own_n (0 : Int32) qa (0 : Int64)))) (gy37 : y37 = (if y4 = (0 : Int32) then (if y12 = (0 : Int32) then (0 : Int64) else (own_t (0 : Int32) qa (0 : Int64))) else (own_t (0 : Int32) qa (0 : Int64)))) (f33 : n0 ≤ h32.size) (f34 : Exa Z h32 b17 "com/example/riverhop/riverhop/overlay/Wake") (f36 : Fld Z h32 b17 "com/example/riverhop/riverhop/overlay/Wake" "noted" "Z" (.int y35)) (f38 : Fld Z h32 b17 "com/example/riverhop/riverhop/overlay/Wake" "at" "J" (.long y37)) (f39 : Exa Z h32 b22 "com/example/riverhop/riverhop/overlay/Wake") (f40 : Fld Z h32 b22 "com/example/riverhop/riverhop/overlay/Wake" "noted" "Z" (.int (0 : Int32))) (f41 : Fld Z h32 b22 "com/example/riverhop/riverhop/overlay/Wake" "at" "J" (.long (0 : Int64))), own_Fin p.tables e below (P0 Z qa qb fl h0 n0 s) (T32.setTop (mkF m 91 #[.val (.long qa), .second, .val (.long qb), .second, .val (.int fl), .val (.int y4), .val (.int y8), .val (.int y12), .val (.int y16), .val (.ref b17), .val (.ref b22), .unset, .unset, .unset, .unset] [])) := by
            intro T32 locs32 h32 y35 y37 X32 e32 N32 gy35 gy37 f33 f34 f36 f38 f39 f40 f41
            refine own_step (fun _ k => XS.iload X32.here hx rfl (hb hby at_91) rfl k) ?_
            show own_Fin p.tables e below _ (T32.setTop (mkF m 93 #[.val (.long qa), .second, .val (.long qb), .second, .val (.int fl), .val (.int y4), .val (.int y8), .val (.int y12), .val (.int y16), .val (.ref b17), .val (.ref b22), .unset, .unset, .unset, .unset] [(.int y4)]))
            have J43 : ∀ (T44 : State) (locs44 : List Loc) (h44 : Heap) (y47 : Int32) (X44 : Stand p l e room_1 s m #[(.long qa), (.long qb), (.int fl)] below meth c T44 locs44 2 4) (e44 : T44.heap = h44) (N44 : Fr n0 locs44) (gy47 : y47 = (if y4 = (0 : Int32) then (0 : Int32) else y35)) (f45 : n0 ≤ h44.size) (f46 : Exa Z h44 b17 "com/example/riverhop/riverhop/overlay/Wake") (f48 : Fld Z h44 b17 "com/example/riverhop/riverhop/overlay/Wake" "noted" "Z" (.int y47)) (f49 : Fld Z h44 b17 "com/example/riverhop/riverhop/overlay/Wake" "at" "J" (.long y37)) (f50 : Exa Z h44 b22 "com/example/riverhop/riverhop/overlay/Wake") (f51 : Fld Z h44 b22 "com/example/riverhop/riverhop/overlay/Wake" "noted" "Z" (.int (0 : Int32))) (f52 : Fld Z h44 b22 "com/example/riverhop/riverhop/overlay/Wake" "at" "J" (.long (0 : Int64))), own_Fin p.tables e below (P0 Z qa qb fl h0 n0 s) (T44.setTop (mkF m 101 #[.val (.long qa), .second, .val (.long qb), .second, .val (.int fl), .val (.int y4), .val (.int y8), .val (.int y12), .val (.int y16), .val (.ref b17), .val (.ref b22), .unset, .unset, .unset, .unset] [])) := by
              intro T44 locs44 h44 y47 X44 e44 N44 gy47 f45 f46 f48 f49 f50 f51 f52
              have hN53 : y47 = (0 : Int32) ↔ y4 = (0 : Int32) := own_m2n gy35 gy47
              have hT53 : ¬ y4 = (0 : Int32) → y37 = qa := own_m2t gy37
              refine own_step (fun _ k => XS.iload X44.here hx rfl (hb hby at_101) rfl k) ?_
              show own_Fin p.tables e below _ (T44.setTop (mkF m 103 #[.val (.long qa), .second, .val (.long qb), .second, .val (.int fl), .val (.int y4), .val (.int y8), .val (.int y12), .val (.int y16), .val (.ref b17), .val (.ref b22), .unset, .unset, .unset, .unset] [(.int y8)]))
              have J55 : ∀ (T56 : State) (locs56 : List Loc) (h56 : Heap) (y62 : Int32) (y64 : Int64) (X56 : Stand p l e room_1 s m #[(.long qa), (.long qb), (.int fl)] below meth c T56 locs56 2 4) (e56 : T56.heap = h56) (N56 : Fr n0 locs56) (gy62 : y62 = (if y8 = (0 : Int32) then (if y16 = (0 : Int32) then (0 : Int32) else (own_n (0 : Int32) qb (0 : Int64))) else (own_n (0 : Int32) qb (0 : Int64)))) (gy64 : y64 = (if y8 = (0 : Int32) then (if y16 = (0 : Int32) then (0 : Int64) else (own_t (0 : Int32) qb (0 : Int64))) else (own_t (0 : Int32) qb (0 : Int64)))) (f57 : n0 ≤ h56.size) (f58 : Exa Z h56 b17 "com/example/riverhop/riverhop/overlay/Wake") (f59 : Fld Z h56 b17 "com/example/riverhop/riverhop/overlay/Wake" "noted" "Z" (.int y47)) (f60 : Fld Z h56 b17 "com/example/riverhop/riverhop/overlay/Wake" "at" "J" (.long y37)) (f61 : Exa Z h56 b22 "com/example/riverhop/riverhop/overlay/Wake") (f63 : Fld Z h56 b22 "com/example/riverhop/riverhop/overlay/Wake" "noted" "Z" (.int y62)) (f65 : Fld Z h56 b22 "com/example/riverhop/riverhop/overlay/Wake" "at" "J" (.long y64)), own_Fin p.tables e below (P0 Z qa qb fl h0 n0 s) (T56.setTop (mkF m 117 #[.val (.long qa), .second, .val (.long qb), .second, .val (.int fl), .val (.int y4), .val (.int y8), .val (.int y12), .val (.int y16), .val (.ref b17), .val (.ref b22), .unset, .unset, .unset, .unset] [])) := by
                intro T56 locs56 h56 y62 y64 X56 e56 N56 gy62 gy64 f57 f58 f59 f60 f61 f63 f65
                refine own_step (fun _ k => XS.iload X56.here hx rfl (hb hby at_117) rfl k) ?_
                show own_Fin p.tables e below _ (T56.setTop (mkF m 119 #[.val (.long qa), .second, .val (.long qb), .second, .val (.int fl), .val (.int y4), .val (.int y8), .val (.int y12), .val (.int y16), .val (.ref b17), .val (.ref b22), .unset, .unset, .unset, .unset] [(.int y8)]))
                have J67 : ∀ (T68 : State) (locs68 : List Loc) (h68 : Heap) (y74 : Int32) (X68 : Stand p l e room_1 s m #[(.long qa), (.long qb), (.int fl)] below meth c T68 locs68 2 4) (e68 : T68.heap = h68) (N68 : Fr n0 locs68) (gy74 : y74 = (if y8 = (0 : Int32) then (0 : Int32) else y62)) (f69 : n0 ≤ h68.size) (f70 : Exa Z h68 b17 "com/example/riverhop/riverhop/overlay/Wake") (f71 : Fld Z h68 b17 "com/example/riverhop/riverhop/overlay/Wake" "noted" "Z" (.int y47)) (f72 : Fld Z h68 b17 "com/example/riverhop/riverhop/overlay/Wake" "at" "J" (.long y37)) (f73 : Exa Z h68 b22 "com/example/riverhop/riverhop/overlay/Wake") (f75 : Fld Z h68 b22 "com/example/riverhop/riverhop/overlay/Wake" "noted" "Z" (.int y74)) (f76 : Fld Z h68 b22 "com/example/riverhop/riverhop/overlay/Wake" "at" "J" (.long y64)), own_Fin p.tables e below (P0 Z qa qb fl h0 n0 s) (T68.setTop (mkF m 127 #[.val (.long qa), .second, .val (.long qb), .second, .val (.int fl), .val (.int y4), .val (.int y8), .val (.int y12), .val (.int y16), .val (.ref b17), .val (.ref b22), .unset, .unset, .unset, .unset] [])) := by
                  intro T68 locs68 h68 y74 X68 e68 N68 gy74 f69 f70 f71 f72 f73 f75 f76
                  have hN77 : y74 = (0 : Int32) ↔ y8 = (0 : Int32) := own_m2n gy62 gy74
                  have hT77 : ¬ y8 = (0 : Int32) → y64 = qb := own_m2t gy64
                  refine own_step (fun _ k => XS.iload X68.here hx rfl (hb hby at_127) rfl k) ?_
                  show own_Fin p.tables e below _ (T68.setTop (mkF m 129 #[.val (.long qa), .second, .val (.long qb), .second, .val (.int fl), .val (.int y4), .val (.int y8), .val (.int y12), .val (.int y16), .val (.ref b17), .val (.ref b22), .unset, .unset, .unset, .unset] [(.int y4)]))
                  have J79 : ∀ (T80 : State) (locs80 : List Loc) (y81 : Int32) (X80 : Stand p l e room_1 s m #[(.long qa), (.long qb), (.int fl)] below meth c T80 locs80 2 4) (e80 : T80.heap = h68) (N80 : Fr n0 locs80) (gy81 : y81 = (if y4 = (0 : Int32) then (1 : Int32) else (if y8 = (0 : Int32) then (1 : Int32) else (if (0 : Int64) < (qa - qb) then (0 : Int32) else (1 : Int32))))), own_Fin p.tables e below (P0 Z qa qb fl h0 n0 s) (T80.setTop (mkF m 150 #[.val (.long qa), .second, .val (.long qb), .second, .val (.int fl), .val (.int y4), .val (.int y8), .val (.int y12), .val (.int y16), .val (.ref b17), .val (.ref b22), .unset, .unset, .unset, .unset] [(.int y81)])) := by
                    intro T80 locs80 y81 X80 e80 N80 gy81
                    refine own_step (fun _ k => XS.istore X80.here hx rfl (hb hby at_150) rfl (l' := #[.val (.long qa), .second, .val (.long qb), .second, .val (.int fl), .val (.int y4), .val (.int y8), .val (.int y12), .val (.int y16), .val (.ref b17), .val (.ref b22), .val (.int y81), .unset, .unset, .unset]) rfl k) ?_
                    show own_Fin p.tables e below _ (T80.setTop (mkF m 152 #[.val (.long qa), .second, .val (.long qb), .second, .val (.int fl), .val (.int y4), .val (.int y8), .val (.int y12), .val (.int y16), .val (.ref b17), .val (.ref b22), .val (.int y81), .unset, .unset, .unset] []))
                    refine own_step (fun _ k => XS.iload X80.here hx rfl (hb hby at_152) rfl k) ?_
                    show own_Fin p.tables e below _ (T80.setTop (mkF m 154 #[.val (.long qa), .second, .val (.long qb), .second, .val (.int fl), .val (.int y4), .val (.int y8), .val (.int y12), .val (.int y16), .val (.ref b17), .val (.ref b22), .val (.int y81), .unset, .unset, .unset] [(.int y4)]))
                    have J83 : ∀ (T84 : State) (locs84 : List Loc) (y85 : Int32) (X84 : Stand p l e room_1 s m #[(.long qa), (.long qb), (.int fl)] below meth c T84 locs84 2 4) (e84 : T84.heap = h68) (N84 : Fr n0 locs84) (gy85 : y85 = (if y4 = (0 : Int32) then (1 : Int32) else (if y8 = (0 : Int32) then (1 : Int32) else (if (0 : Int64) < (qb - qa) then (0 : Int32) else (1 : Int32))))), own_Fin p.tables e below (P0 Z qa qb fl h0 n0 s) (T84.setTop (mkF m 175 #[.val (.long qa), .second, .val (.long qb), .second, .val (.int fl), .val (.int y4), .val (.int y8), .val (.int y12), .val (.int y16), .val (.ref b17), .val (.ref b22), .val (.int y81), .unset, .unset, .unset] [(.int y85)])) := by
                      intro T84 locs84 y85 X84 e84 N84 gy85
                      refine own_step (fun _ k => XS.istore X84.here hx rfl (hb hby at_175) rfl (l' := #[.val (.long qa), .second, .val (.long qb), .second, .val (.int fl), .val (.int y4), .val (.int y8), .val (.int y12), .val (.int y16), .val (.ref b17), .val (.ref b22), .val (.int y81), .val (.int y85), .unset, .unset]) rfl k) ?_
                      show own_Fin p.tables e below _ (T84.setTop (mkF m 177 #[.val (.long qa), .second, .val (.long qb), .second, .val (.int fl), .val (.int y4), .val (.int y8), .val (.int y12), .val (.int y16), .val (.ref b17), .val (.ref b22), .val (.int y81), .val (.int y85), .unset, .unset] []))
                      refine own_step (fun _ k => XS.aload X84.here hx rfl (hb hby at_177) rfl rfl k) ?_
                      show own_Fin p.tables e below _ (T84.setTop (mkF m 179 #[.val (.long qa), .second, .val (.long qb), .second, .val (.int fl), .val (.int y4), .val (.int y8), .val (.int y12), .val (.int y16), .val (.ref b17), .val (.ref b22), .val (.int y81), .val (.int y85), .unset, .unset] [(.ref b17)]))
                      refine own_step (fun _ k => XS.aload X84.here hx rfl (hb hby at_179) rfl rfl k) ?_
                      show own_Fin p.tables e below _ (T84.setTop (mkF m 181 #[.val (.long qa), .second, .val (.long qb), .second, .val (.int fl), .val (.int y4), .val (.int y8), .val (.int y12), .val (.int y16), .val (.ref b17), .val (.ref b22), .val (.int y81), .val (.int y85), .unset, .unset] [(.ref b22), (.ref b17)]))
                      obtain ⟨cq86, kq86, q86a, q86b, q86c⟩ := isOf hZ e84 f70
                      obtain ⟨_, _, ⟨T86, L86, k86, n86⟩, -, X86, ⟨Lc86, hQ86, l86, y86, z86⟩, st86⟩ := X84.virtualBack hx (y := (⟨"com/example/riverhop/riverhop/overlay/Wake", "noLaterThan", "(Lcom/example/riverhop/riverhop/overlay/Wake;)Z"⟩ : MethodName)) (z := (⟨"com/example/riverhop/riverhop/overlay/Wake", "noLaterThan", "(Lcom/example/riverhop/riverhop/overlay/Wake;)Z"⟩ : MethodName)) hown (mvT hZ (hw _ (List.mem_of_getElem? (i := 16) rfl))) (mvT hZ (hw _ (List.mem_of_getElem? (i := 17) rfl))) (notFace_of_selects (args := #[]) (mvT hZ (hw _ (List.mem_of_getElem? (i := 19) rfl)))) (mvT hZ (hw _ (List.mem_of_getElem? (i := 19) rfl))) (mvT hZ (hw _ (List.mem_of_getElem? (i := 18) rfl))) (by decide) (backOf (W := 0) (rm4 l Z a0 hw [] b17 b22 y47 y37 y74 y64 h68 n0 f69 f71 f72 f75 f76) hZ (hw _ (List.mem_of_getElem? (i := 20) rfl)) (hw _ (List.mem_of_getElem? (i := 2) rfl)) (by decide) (by decide)) q86a q86c (g := (mkF m 181 #[.val (.long qa), .second, .val (.long qb), .second, .val (.int fl), .val (.int y4), .val (.int y8), .val (.int y12), .val (.int y16), .val (.ref b17), .val (.ref b22), .val (.int y81), .val (.int y85), .unset, .unset] [(.ref b22), (.ref b17)])) rfl (by rw [hml]; rfl) (Steps.refl _) (argsL := [(.ref b22)]) (rest := []) (lenOf pd_2 rfl) rfl (by show 2 * 0 + _ ≤ _; exact Nat.le_of_eq rfl) (hb hby at_181) (fun _ _ => ⟨rfl, e84, (by decide : 2 + 0 ≤ _), (by decide : 4 + 0 ≤ _)⟩)
                      dsimp only [Pt.U, Pt.locs, Pt.cells, Pt.slots] at X86 l86 y86 z86 st86 hQ86
                      subst l86 y86 z86
                      obtain ⟨rfl, N86q, e86⟩ := hQ86
                      have N86 := Fr.app N84 N86q
                      refine own_steps st86 ?_
                      show own_Fin p.tables e below _ (T86.setTop (mkF m 184 #[.val (.long qa), .second, .val (.long qb), .second, .val (.int fl), .val (.int y4), .val (.int y8), .val (.int y12), .val (.int y16), .val (.ref b17), .val (.ref b22), .val (.int y81), .val (.int y85), .unset, .unset] [(.int (own_nl y47 y37 y74 y64))]))
                      refine own_step (fun _ k => XS.istore X86.here hx rfl (hb hby at_184) rfl (l' := #[.val (.long qa), .second, .val (.long qb), .second, .val (.int fl), .val (.int y4), .val (.int y8), .val (.int y12), .val (.int y16), .val (.ref b17), .val (.ref b22), .val (.int y81), .val (.int y85), .val (.int (own_nl y47 y37 y74 y64)), .unset]) rfl k) ?_
                      show own_Fin p.tables e below _ (T86.setTop (mkF m 186 #[.val (.long qa), .second, .val (.long qb), .second, .val (.int fl), .val (.int y4), .val (.int y8), .val (.int y12), .val (.int y16), .val (.ref b17), .val (.ref b22), .val (.int y81), .val (.int y85), .val (.int (own_nl y47 y37 y74 y64)), .unset] []))
                      refine own_step (fun _ k => XS.aload X86.here hx rfl (hb hby at_186) rfl rfl k) ?_
                      show own_Fin p.tables e below _ (T86.setTop (mkF m 188 #[.val (.long qa), .second, .val (.long qb), .second, .val (.int fl), .val (.int y4), .val (.int y8), .val (.int y12), .val (.int y16), .val (.ref b17), .val (.ref b22), .val (.int y81), .val (.int y85), .val (.int (own_nl y47 y37 y74 y64)), .unset] [(.ref b22)]))
                      refine own_step (fun _ k => XS.aload X86.here hx rfl (hb hby at_188) rfl rfl k) ?_
                      show own_Fin p.tables e below _ (T86.setTop (mkF m 190 #[.val (.long qa), .second, .val (.long qb), .second, .val (.int fl), .val (.int y4), .val (.int y8), .val (.int y12), .val (.int y16), .val (.ref b17), .val (.ref b22), .val (.int y81), .val (.int y85), .val (.int (own_nl y47 y37 y74 y64)), .unset] [(.ref b17), (.ref b22)]))
                      obtain ⟨cq87, kq87, q87a, q87b, q87c⟩ := isOf hZ e86 f73
                      obtain ⟨_, _, ⟨T87, L87, k87, n87⟩, -, X87, ⟨Lc87, hQ87, l87, y87, z87⟩, st87⟩ := X86.virtualBack hx (y := (⟨"com/example/riverhop/riverhop/overlay/Wake", "noLaterThan", "(Lcom/example/riverhop/riverhop/overlay/Wake;)Z"⟩ : MethodName)) (z := (⟨"com/example/riverhop/riverhop/overlay/Wake", "noLaterThan", "(Lcom/example/riverhop/riverhop/overlay/Wake;)Z"⟩ : MethodName)) hown (mvT hZ (hw _ (List.mem_of_getElem? (i := 16) rfl))) (mvT hZ (hw _ (List.mem_of_getElem? (i := 17) rfl))) (notFace_of_selects (args := #[]) (mvT hZ (hw _ (List.mem_of_getElem? (i := 19) rfl)))) (mvT hZ (hw _ (List.mem_of_getElem? (i := 19) rfl))) (mvT hZ (hw _ (List.mem_of_getElem? (i := 18) rfl))) (by decide) (backOf (W := 0) (rm4 l Z a0 hw [] b22 b17 y74 y64 y47 y37 h68 n0 f69 f75 f76 f71 f72) hZ (hw _ (List.mem_of_getElem? (i := 20) rfl)) (hw _ (List.mem_of_getElem? (i := 2) rfl)) (by decide) (by decide)) q87a q87c (g := (mkF m 190 #[.val (.long qa), .second, .val (.long qb), .second, .val (.int fl), .val (.int y4), .val (.int y8), .val (.int y12), .val (.int y16), .val (.ref b17), .val (.ref b22), .val (.int y81), .val (.int y85), .val (.int (own_nl y47 y37 y74 y64)), .unset] [(.ref b17), (.ref b22)])) rfl (by rw [hml]; rfl) (Steps.refl _) (argsL := [(.ref b17)]) (rest := []) (lenOf pd_2 rfl) rfl (by show 2 * 0 + _ ≤ _; exact Nat.le_of_eq rfl) (hb hby at_190) (fun _ _ => ⟨rfl, e86, (by decide : 2 + 0 ≤ _), (by decide : 4 + 0 ≤ _)⟩)
                      dsimp only [Pt.U, Pt.locs, Pt.cells, Pt.slots] at X87 l87 y87 z87 st87 hQ87
                      subst l87 y87 z87
                      obtain ⟨rfl, N87q, e87⟩ := hQ87
                      have N87 := Fr.app N86 N87q
                      refine own_steps st87 ?_
                      show own_Fin p.tables e below _ (T87.setTop (mkF m 193 #[.val (.long qa), .second, .val (.long qb), .second, .val (.int fl), .val (.int y4), .val (.int y8), .val (.int y12), .val (.int y16), .val (.ref b17), .val (.ref b22), .val (.int y81), .val (.int y85), .val (.int (own_nl y47 y37 y74 y64)), .unset] [(.int (own_nl y74 y64 y47 y37))]))
                      refine own_step (fun _ k => XS.istore X87.here hx rfl (hb hby at_193) rfl (l' := #[.val (.long qa), .second, .val (.long qb), .second, .val (.int fl), .val (.int y4), .val (.int y8), .val (.int y12), .val (.int y16), .val (.ref b17), .val (.ref b22), .val (.int y81), .val (.int y85), .val (.int (own_nl y47 y37 y74 y64)), .val (.int (own_nl y74 y64 y47 y37))]) rfl k) ?_
                      show own_Fin p.tables e below _ (T87.setTop (mkF m 195 #[.val (.long qa), .second, .val (.long qb), .second, .val (.int fl), .val (.int y4), .val (.int y8), .val (.int y12), .val (.int y16), .val (.ref b17), .val (.ref b22), .val (.int y81), .val (.int y85), .val (.int (own_nl y47 y37 y74 y64)), .val (.int (own_nl y74 y64 y47 y37))] []))
                      refine own_step (fun _ k => XS.iload X87.here hx rfl (hb hby at_195) rfl k) ?_
                      show own_Fin p.tables e below _ (T87.setTop (mkF m 197 #[.val (.long qa), .second, .val (.long qb), .second, .val (.int fl), .val (.int y4), .val (.int y8), .val (.int y12), .val (.int y16), .val (.ref b17), .val (.ref b22), .val (.int y81), .val (.int y85), .val (.int (own_nl y47 y37 y74 y64)), .val (.int (own_nl y74 y64 y47 y37))] [(.int (own_nl y47 y37 y74 y64))]))
                      refine own_step (fun _ k => XS.iload X87.here hx rfl (hb hby at_197) rfl k) ?_
                      show own_Fin p.tables e below _ (T87.setTop (mkF m 199 #[.val (.long qa), .second, .val (.long qb), .second, .val (.int fl), .val (.int y4), .val (.int y8), .val (.int y12), .val (.int y16), .val (.ref b17), .val (.ref b22), .val (.int y81), .val (.int y85), .val (.int (own_nl y47 y37 y74 y64)), .val (.int (own_nl y74 y64 y47 y37))] [(.int y81), (.int (own_nl y47 y37 y74 y64))]))
                      have ha88 : (own_nl y47 y37 y74 y64) = y81 := by
                        rw [gy81]; exact own_m2a hN53 hN77 hT53 hT77
                      refine own_step (fun _ k => XS.icmpNo X87.here hx rfl (hb hby at_199) rfl ((teq ha88).2) k) ?_
                      show own_Fin p.tables e below _ (T87.setTop (mkF m 202 #[.val (.long qa), .second, .val (.long qb), .second, .val (.int fl), .val (.int y4), .val (.int y8), .val (.int y12), .val (.int y16), .val (.ref b17), .val (.ref b22), .val (.int y81), .val (.int y85), .val (.int (own_nl y47 y37 y74 y64)), .val (.int (own_nl y74 y64 y47 y37))] []))
                      refine own_step (fun _ k => XS.iload X87.here hx rfl (hb hby at_202) rfl k) ?_
                      show own_Fin p.tables e below _ (T87.setTop (mkF m 204 #[.val (.long qa), .second, .val (.long qb), .second, .val (.int fl), .val (.int y4), .val (.int y8), .val (.int y12), .val (.int y16), .val (.ref b17), .val (.ref b22), .val (.int y81), .val (.int y85), .val (.int (own_nl y47 y37 y74 y64)), .val (.int (own_nl y74 y64 y47 y37))] [(.int (own_nl y74 y64 y47 y37))]))
                      refine own_step (fun _ k => XS.iload X87.here hx rfl (hb hby at_204) rfl k) ?_
                      show own_Fin p.tables e below _ (T87.setTop (mkF m 206 #[.val (.long qa), .second, .val (.long qb), .second, .val (.int fl), .val (.int y4), .val (.int y8), .val (.int y12), .val (.int y16), .val (.ref b17), .val (.ref b22), .val (.int y81), .val (.int y85), .val (.int (own_nl y47 y37 y74 y64)), .val (.int (own_nl y74 y64 y47 y37))] [(.int y85), (.int (own_nl y74 y64 y47 y37))]))
                      have ha89 : (own_nl y74 y64 y47 y37) = y85 := by
                        rw [gy85]; exact own_m2b hN53 hN77 hT53 hT77
                      refine own_step (fun _ k => XS.icmpNo X87.here hx rfl (hb hby at_206) rfl ((teq ha89).2) k) ?_
                      show own_Fin p.tables e below _ (T87.setTop (mkF m 209 #[.val (.long qa), .second, .val (.long qb), .second, .val (.int fl), .val (.int y4), .val (.int y8), .val (.int y12), .val (.int y16), .val (.ref b17), .val (.ref b22), .val (.int y81), .val (.int y85), .val (.int (own_nl y47 y37 y74 y64)), .val (.int (own_nl y74 y64 y47 y37))] []))
                      refine own_step (fun _ k => XS.iconst X87.here hx rfl (hb hby at_209) k) ?_
                      show own_Fin p.tables e below _ (T87.setTop (mkF m 210 #[.val (.long qa), .second, .val (.long qb), .second, .val (.int fl), .val (.int y4), .val (.int y8), .val (.int y12), .val (.int y16), .val (.ref b17), .val (.ref b22), .val (.int y81), .val (.int y85), .val (.int (own_nl y47 y37 y74 y64)), .val (.int (own_nl y74 y64 y47 y37))] [(.int (1 : Int32))]))
                      refine own_step (fun _ k => XS.goto X87.here hx rfl (pc0 := 210) (pc' := 214) rfl (hb hby at_210) (by decide) (by decide) k) ?_
                      show own_Fin p.tables e below _ (T87.setTop (mkF m 214 #[.val (.long qa), .second, .val (.long qb), .second, .val (.int fl), .val (.int y4), .val (.int y8), .val (.int y12), .val (.int y16), .val (.ref b17), .val (.ref b22), .val (.int y81), .val (.int y85), .val (.int (own_nl y47 y37 y74 y64)), .val (.int (own_nl y74 y64 y47 y37))] [(.int (1 : Int32))]))
                      obtain ⟨fs90, hr90, hrun90, hended90, hW90, hsame90⟩ := X87.leave (v := some (.int (nar .boolean (1 : Int32)))) (fun h => by rw [Bd.returns] at h; cases h)
                      refine own_ret (retN X87 hx (t := .boolean) Bd.returns (by simp) (hb hby at_214) hr90) hrun90 hended90 ?_
                      refine ⟨_, _, rfl, ?_, ⟨_, rfl⟩, hW90, hsame90.mono (by decide) (by decide)⟩
                      show Q0 Z qa qb fl h0 n0 _ T87.heap _
                      rw [e87]
                      exact ⟨rfl, N87⟩
                    by_cases hc82 : y4 = (0 : Int32)
                    · refine own_step (fun _ k => XS.ifYes X80.here hx rfl (pc0 := 154) (pc' := 170) rfl (hb hby at_154) rfl ((if0 _ _).trans (teq hc82).1) (by decide) (by decide) k) ?_
                      show own_Fin p.tables e below _ (T80.setTop (mkF m 170 #[.val (.long qa), .second, .val (.long qb), .second, .val (.int fl), .val (.int y4), .val (.int y8), .val (.int y12), .val (.int y16), .val (.ref b17), .val (.ref b22), .val (.int y81), .unset, .unset, .unset] []))
                      refine own_step (fun _ k => XS.iconst X80.here hx rfl (hb hby at_170) k) ?_
                      show own_Fin p.tables e below _ (T80.setTop (mkF m 171 #[.val (.long qa), .second, .val (.long qb), .second, .val (.int fl), .val (.int y4), .val (.int y8), .val (.int y12), .val (.int y16), .val (.ref b17), .val (.ref b22), .val (.int y81), .unset, .unset, .unset] [(.int (1 : Int32))]))
                      refine own_step (fun _ k => XS.goto X80.here hx rfl (pc0 := 171) (pc' := 175) rfl (hb hby at_171) (by decide) (by decide) k) ?_
                      show own_Fin p.tables e below _ (T80.setTop (mkF m 175 #[.val (.long qa), .second, .val (.long qb), .second, .val (.int fl), .val (.int y4), .val (.int y8), .val (.int y12), .val (.int y16), .val (.ref b17), .val (.ref b22), .val (.int y81), .unset, .unset, .unset] [(.int (1 : Int32))]))
                      exact J83 T80 _ (1 : Int32) X80 e80 N80 (by rw [if_pos hc82])
                    · refine own_step (fun _ k => XS.ifNo X80.here hx rfl (hb hby at_154) rfl ((if0 _ _).trans (feq hc82).1) k) ?_
                      show own_Fin p.tables e below _ (T80.setTop (mkF m 157 #[.val (.long qa), .second, .val (.long qb), .second, .val (.int fl), .val (.int y4), .val (.int y8), .val (.int y12), .val (.int y16), .val (.ref b17), .val (.ref b22), .val (.int y81), .unset, .unset, .unset] []))
                      refine own_step (fun _ k => XS.iload X80.here hx rfl (hb hby at_157) rfl k) ?_
                      show own_Fin p.tables e below _ (T80.setTop (mkF m 159 #[.val (.long qa), .second, .val (.long qb), .second, .val (.int fl), .val (.int y4), .val (.int y8), .val (.int y12), .val (.int y16), .val (.ref b17), .val (.ref b22), .val (.int y81), .unset, .unset, .unset] [(.int y8)]))
                      by_cases hc91 : y8 = (0 : Int32)
                      · refine own_step (fun _ k => XS.ifYes X80.here hx rfl (pc0 := 159) (pc' := 170) rfl (hb hby at_159) rfl ((if0 _ _).trans (teq hc91).1) (by decide) (by decide) k) ?_
                        show own_Fin p.tables e below _ (T80.setTop (mkF m 170 #[.val (.long qa), .second, .val (.long qb), .second, .val (.int fl), .val (.int y4), .val (.int y8), .val (.int y12), .val (.int y16), .val (.ref b17), .val (.ref b22), .val (.int y81), .unset, .unset, .unset] []))
                        refine own_step (fun _ k => XS.iconst X80.here hx rfl (hb hby at_170) k) ?_
                        show own_Fin p.tables e below _ (T80.setTop (mkF m 171 #[.val (.long qa), .second, .val (.long qb), .second, .val (.int fl), .val (.int y4), .val (.int y8), .val (.int y12), .val (.int y16), .val (.ref b17), .val (.ref b22), .val (.int y81), .unset, .unset, .unset] [(.int (1 : Int32))]))
                        refine own_step (fun _ k => XS.goto X80.here hx rfl (pc0 := 171) (pc' := 175) rfl (hb hby at_171) (by decide) (by decide) k) ?_
                        show own_Fin p.tables e below _ (T80.setTop (mkF m 175 #[.val (.long qa), .second, .val (.long qb), .second, .val (.int fl), .val (.int y4), .val (.int y8), .val (.int y12), .val (.int y16), .val (.ref b17), .val (.ref b22), .val (.int y81), .unset, .unset, .unset] [(.int (1 : Int32))]))
                        exact J83 T80 _ (1 : Int32) X80 e80 N80 (by rw [if_neg hc82, if_pos hc91])
                      · refine own_step (fun _ k => XS.ifNo X80.here hx rfl (hb hby at_159) rfl ((if0 _ _).trans (feq hc91).1) k) ?_
                        show own_Fin p.tables e below _ (T80.setTop (mkF m 162 #[.val (.long qa), .second, .val (.long qb), .second, .val (.int fl), .val (.int y4), .val (.int y8), .val (.int y12), .val (.int y16), .val (.ref b17), .val (.ref b22), .val (.int y81), .unset, .unset, .unset] []))
                        refine own_step (fun _ k => XS.lloadN X80.here hx rfl (hb hby at_162) rfl k) ?_
                        show own_Fin p.tables e below _ (T80.setTop (mkF m 163 #[.val (.long qa), .second, .val (.long qb), .second, .val (.int fl), .val (.int y4), .val (.int y8), .val (.int y12), .val (.int y16), .val (.ref b17), .val (.ref b22), .val (.int y81), .unset, .unset, .unset] [(.long qb)]))
                        refine own_step (fun _ k => XS.lloadN X80.here hx rfl (hb hby at_163) rfl k) ?_
                        show own_Fin p.tables e below _ (T80.setTop (mkF m 164 #[.val (.long qa), .second, .val (.long qb), .second, .val (.int fl), .val (.int y4), .val (.int y8), .val (.int y12), .val (.int y16), .val (.ref b17), .val (.ref b22), .val (.int y81), .unset, .unset, .unset] [(.long qa), (.long qb)]))
                        refine own_step (fun _ k => XS.lsub X80.here hx rfl (hb hby at_164) rfl k) ?_
                        show own_Fin p.tables e below _ (T80.setTop (mkF m 165 #[.val (.long qa), .second, .val (.long qb), .second, .val (.int fl), .val (.int y4), .val (.int y8), .val (.int y12), .val (.int y16), .val (.ref b17), .val (.ref b22), .val (.int y81), .unset, .unset, .unset] [(.long (qb - qa))]))
                        refine own_step (fun _ k => XS.lconst X80.here hx rfl (hb hby at_165) k) ?_
                        show own_Fin p.tables e below _ (T80.setTop (mkF m 166 #[.val (.long qa), .second, .val (.long qb), .second, .val (.int fl), .val (.int y4), .val (.int y8), .val (.int y12), .val (.int y16), .val (.ref b17), .val (.ref b22), .val (.int y81), .unset, .unset, .unset] [(.long (0 : Int64)), (.long (qb - qa))]))
                        refine own_step (fun _ k => XS.lcmp X80.here hx rfl (hb hby at_166) rfl k) ?_
                        show own_Fin p.tables e below _ (T80.setTop (mkF m 167 #[.val (.long qa), .second, .val (.long qb), .second, .val (.int fl), .val (.int y4), .val (.int y8), .val (.int y12), .val (.int y16), .val (.ref b17), .val (.ref b22), .val (.int y81), .unset, .unset, .unset] [(.int (lcmpW (qb - qa) (0 : Int64)))]))
                        by_cases hc92 : (0 : Int64) < (qb - qa)
                        · refine own_step (fun _ k => XS.ifYes X80.here hx rfl (pc0 := 167) (pc' := 174) rfl (hb hby at_167) rfl ((if0 _ _).trans (tlt ((lw_gt _ _).mpr hc92)).2.2.1) (by decide) (by decide) k) ?_
                          show own_Fin p.tables e below _ (T80.setTop (mkF m 174 #[.val (.long qa), .second, .val (.long qb), .second, .val (.int fl), .val (.int y4), .val (.int y8), .val (.int y12), .val (.int y16), .val (.ref b17), .val (.ref b22), .val (.int y81), .unset, .unset, .unset] []))
                          refine own_step (fun _ k => XS.iconst X80.here hx rfl (hb hby at_174) k) ?_
                          show own_Fin p.tables e below _ (T80.setTop (mkF m 175 #[.val (.long qa), .second, .val (.long qb), .second, .val (.int fl), .val (.int y4), .val (.int y8), .val (.int y12), .val (.int y16), .val (.ref b17), .val (.ref b22), .val (.int y81), .unset, .unset, .unset] [(.int (0 : Int32))]))
                          exact J83 T80 _ (0 : Int32) X80 e80 N80 (by rw [if_neg hc82, if_neg hc91, if_pos hc92])
                        · refine own_step (fun _ k => XS.ifNo X80.here hx rfl (hb hby at_167) rfl ((if0 _ _).trans (flt (fun q => hc92 ((lw_gt _ _).mp q))).2.2.1) k) ?_
                          show own_Fin p.tables e below _ (T80.setTop (mkF m 170 #[.val (.long qa), .second, .val (.long qb), .second, .val (.int fl), .val (.int y4), .val (.int y8), .val (.int y12), .val (.int y16), .val (.ref b17), .val (.ref b22), .val (.int y81), .unset, .unset, .unset] []))
                          refine own_step (fun _ k => XS.iconst X80.here hx rfl (hb hby at_170) k) ?_
                          show own_Fin p.tables e below _ (T80.setTop (mkF m 171 #[.val (.long qa), .second, .val (.long qb), .second, .val (.int fl), .val (.int y4), .val (.int y8), .val (.int y12), .val (.int y16), .val (.ref b17), .val (.ref b22), .val (.int y81), .unset, .unset, .unset] [(.int (1 : Int32))]))
                          refine own_step (fun _ k => XS.goto X80.here hx rfl (pc0 := 171) (pc' := 175) rfl (hb hby at_171) (by decide) (by decide) k) ?_
                          show own_Fin p.tables e below _ (T80.setTop (mkF m 175 #[.val (.long qa), .second, .val (.long qb), .second, .val (.int fl), .val (.int y4), .val (.int y8), .val (.int y12), .val (.int y16), .val (.ref b17), .val (.ref b22), .val (.int y81), .unset, .unset, .unset] [(.int (1 : Int32))]))
                          exact J83 T80 _ (1 : Int32) X80 e80 N80 (by rw [if_neg hc82, if_neg hc91, if_neg hc92])
                  by_cases hc78 : y4 = (0 : Int32)
                  · refine own_step (fun _ k => XS.ifYes X68.here hx rfl (pc0 := 129) (pc' := 145) rfl (hb hby at_129) rfl ((if0 _ _).trans (teq hc78).1) (by decide) (by decide) k) ?_
                    show own_Fin p.tables e below _ (T68.setTop (mkF m 145 #[.val (.long qa), .second, .val (.long qb), .second, .val (.int fl), .val (.int y4), .val (.int y8), .val (.int y12), .val (.int y16), .val (.ref b17), .val (.ref b22), .unset, .unset, .unset, .unset] []))
                    refine own_step (fun _ k => XS.iconst X68.here hx rfl (hb hby at_145) k) ?_
                    show own_Fin p.tables e below _ (T68.setTop (mkF m 146 #[.val (.long qa), .second, .val (.long qb), .second, .val (.int fl), .val (.int y4), .val (.int y8), .val (.int y12), .val (.int y16), .val (.ref b17), .val (.ref b22), .unset, .unset, .unset, .unset] [(.int (1 : Int32))]))
                    refine own_step (fun _ k => XS.goto X68.here hx rfl (pc0 := 146) (pc' := 150) rfl (hb hby at_146) (by decide) (by decide) k) ?_
                    show own_Fin p.tables e below _ (T68.setTop (mkF m 150 #[.val (.long qa), .second, .val (.long qb), .second, .val (.int fl), .val (.int y4), .val (.int y8), .val (.int y12), .val (.int y16), .val (.ref b17), .val (.ref b22), .unset, .unset, .unset, .unset] [(.int (1 : Int32))]))
                    exact J79 T68 _ (1 : Int32) X68 e68 N68 (by rw [if_pos hc78])
                  · refine own_step (fun _ k => XS.ifNo X68.here hx rfl (hb hby at_129) rfl ((if0 _ _).trans (feq hc78).1) k) ?_
                    show own_Fin p.tables e below _ (T68.setTop (mkF m 132 #[.val (.long qa), .second, .val (.long qb), .second, .val (.int fl), .val (.int y4), .val (.int y8), .val (.int y12), .val (.int y16), .val (.ref b17), .val (.ref b22), .unset, .unset, .unset, .unset] []))
                    refine own_step (fun _ k => XS.iload X68.here hx rfl (hb hby at_132) rfl k) ?_
                    show own_Fin p.tables e below _ (T68.setTop (mkF m 134 #[.val (.long qa), .second, .val (.long qb), .second, .val (.int fl), .val (.int y4), .val (.int y8), .val (.int y12), .val (.int y16), .val (.ref b17), .val (.ref b22), .unset, .unset, .unset, .unset] [(.int y8)]))
                    by_cases hc93 : y8 = (0 : Int32)
                    · refine own_step (fun _ k => XS.ifYes X68.here hx rfl (pc0 := 134) (pc' := 145) rfl (hb hby at_134) rfl ((if0 _ _).trans (teq hc93).1) (by decide) (by decide) k) ?_
                      show own_Fin p.tables e below _ (T68.setTop (mkF m 145 #[.val (.long qa), .second, .val (.long qb), .second, .val (.int fl), .val (.int y4), .val (.int y8), .val (.int y12), .val (.int y16), .val (.ref b17), .val (.ref b22), .unset, .unset, .unset, .unset] []))
                      refine own_step (fun _ k => XS.iconst X68.here hx rfl (hb hby at_145) k) ?_
                      show own_Fin p.tables e below _ (T68.setTop (mkF m 146 #[.val (.long qa), .second, .val (.long qb), .second, .val (.int fl), .val (.int y4), .val (.int y8), .val (.int y12), .val (.int y16), .val (.ref b17), .val (.ref b22), .unset, .unset, .unset, .unset] [(.int (1 : Int32))]))
                      refine own_step (fun _ k => XS.goto X68.here hx rfl (pc0 := 146) (pc' := 150) rfl (hb hby at_146) (by decide) (by decide) k) ?_
                      show own_Fin p.tables e below _ (T68.setTop (mkF m 150 #[.val (.long qa), .second, .val (.long qb), .second, .val (.int fl), .val (.int y4), .val (.int y8), .val (.int y12), .val (.int y16), .val (.ref b17), .val (.ref b22), .unset, .unset, .unset, .unset] [(.int (1 : Int32))]))
                      exact J79 T68 _ (1 : Int32) X68 e68 N68 (by rw [if_neg hc78, if_pos hc93])
                    · refine own_step (fun _ k => XS.ifNo X68.here hx rfl (hb hby at_134) rfl ((if0 _ _).trans (feq hc93).1) k) ?_
                      show own_Fin p.tables e below _ (T68.setTop (mkF m 137 #[.val (.long qa), .second, .val (.long qb), .second, .val (.int fl), .val (.int y4), .val (.int y8), .val (.int y12), .val (.int y16), .val (.ref b17), .val (.ref b22), .unset, .unset, .unset, .unset] []))
                      refine own_step (fun _ k => XS.lloadN X68.here hx rfl (hb hby at_137) rfl k) ?_
                      show own_Fin p.tables e below _ (T68.setTop (mkF m 138 #[.val (.long qa), .second, .val (.long qb), .second, .val (.int fl), .val (.int y4), .val (.int y8), .val (.int y12), .val (.int y16), .val (.ref b17), .val (.ref b22), .unset, .unset, .unset, .unset] [(.long qa)]))
                      refine own_step (fun _ k => XS.lloadN X68.here hx rfl (hb hby at_138) rfl k) ?_
                      show own_Fin p.tables e below _ (T68.setTop (mkF m 139 #[.val (.long qa), .second, .val (.long qb), .second, .val (.int fl), .val (.int y4), .val (.int y8), .val (.int y12), .val (.int y16), .val (.ref b17), .val (.ref b22), .unset, .unset, .unset, .unset] [(.long qb), (.long qa)]))
                      refine own_step (fun _ k => XS.lsub X68.here hx rfl (hb hby at_139) rfl k) ?_
                      show own_Fin p.tables e below _ (T68.setTop (mkF m 140 #[.val (.long qa), .second, .val (.long qb), .second, .val (.int fl), .val (.int y4), .val (.int y8), .val (.int y12), .val (.int y16), .val (.ref b17), .val (.ref b22), .unset, .unset, .unset, .unset] [(.long (qa - qb))]))
                      refine own_step (fun _ k => XS.lconst X68.here hx rfl (hb hby at_140) k) ?_
                      show own_Fin p.tables e below _ (T68.setTop (mkF m 141 #[.val (.long qa), .second, .val (.long qb), .second, .val (.int fl), .val (.int y4), .val (.int y8), .val (.int y12), .val (.int y16), .val (.ref b17), .val (.ref b22), .unset, .unset, .unset, .unset] [(.long (0 : Int64)), (.long (qa - qb))]))
                      refine own_step (fun _ k => XS.lcmp X68.here hx rfl (hb hby at_141) rfl k) ?_
                      show own_Fin p.tables e below _ (T68.setTop (mkF m 142 #[.val (.long qa), .second, .val (.long qb), .second, .val (.int fl), .val (.int y4), .val (.int y8), .val (.int y12), .val (.int y16), .val (.ref b17), .val (.ref b22), .unset, .unset, .unset, .unset] [(.int (lcmpW (qa - qb) (0 : Int64)))]))
                      by_cases hc94 : (0 : Int64) < (qa - qb)
                      · refine own_step (fun _ k => XS.ifYes X68.here hx rfl (pc0 := 142) (pc' := 149) rfl (hb hby at_142) rfl ((if0 _ _).trans (tlt ((lw_gt _ _).mpr hc94)).2.2.1) (by decide) (by decide) k) ?_
                        show own_Fin p.tables e below _ (T68.setTop (mkF m 149 #[.val (.long qa), .second, .val (.long qb), .second, .val (.int fl), .val (.int y4), .val (.int y8), .val (.int y12), .val (.int y16), .val (.ref b17), .val (.ref b22), .unset, .unset, .unset, .unset] []))
                        refine own_step (fun _ k => XS.iconst X68.here hx rfl (hb hby at_149) k) ?_
                        show own_Fin p.tables e below _ (T68.setTop (mkF m 150 #[.val (.long qa), .second, .val (.long qb), .second, .val (.int fl), .val (.int y4), .val (.int y8), .val (.int y12), .val (.int y16), .val (.ref b17), .val (.ref b22), .unset, .unset, .unset, .unset] [(.int (0 : Int32))]))
                        exact J79 T68 _ (0 : Int32) X68 e68 N68 (by rw [if_neg hc78, if_neg hc93, if_pos hc94])
                      · refine own_step (fun _ k => XS.ifNo X68.here hx rfl (hb hby at_142) rfl ((if0 _ _).trans (flt (fun q => hc94 ((lw_gt _ _).mp q))).2.2.1) k) ?_
                        show own_Fin p.tables e below _ (T68.setTop (mkF m 145 #[.val (.long qa), .second, .val (.long qb), .second, .val (.int fl), .val (.int y4), .val (.int y8), .val (.int y12), .val (.int y16), .val (.ref b17), .val (.ref b22), .unset, .unset, .unset, .unset] []))
                        refine own_step (fun _ k => XS.iconst X68.here hx rfl (hb hby at_145) k) ?_
                        show own_Fin p.tables e below _ (T68.setTop (mkF m 146 #[.val (.long qa), .second, .val (.long qb), .second, .val (.int fl), .val (.int y4), .val (.int y8), .val (.int y12), .val (.int y16), .val (.ref b17), .val (.ref b22), .unset, .unset, .unset, .unset] [(.int (1 : Int32))]))
                        refine own_step (fun _ k => XS.goto X68.here hx rfl (pc0 := 146) (pc' := 150) rfl (hb hby at_146) (by decide) (by decide) k) ?_
                        show own_Fin p.tables e below _ (T68.setTop (mkF m 150 #[.val (.long qa), .second, .val (.long qb), .second, .val (.int fl), .val (.int y4), .val (.int y8), .val (.int y12), .val (.int y16), .val (.ref b17), .val (.ref b22), .unset, .unset, .unset, .unset] [(.int (1 : Int32))]))
                        exact J79 T68 _ (1 : Int32) X68 e68 N68 (by rw [if_neg hc78, if_neg hc93, if_neg hc94])
                by_cases hc66 : y8 = (0 : Int32)
                · refine own_step (fun _ k => XS.ifNo X56.here hx rfl (hb hby at_119) rfl ((if0 _ _).trans (teq hc66).2) k) ?_
                  show own_Fin p.tables e below _ (T56.setTop (mkF m 122 #[.val (.long qa), .second, .val (.long qb), .second, .val (.int fl), .val (.int y4), .val (.int y8), .val (.int y12), .val (.int y16), .val (.ref b17), .val (.ref b22), .unset, .unset, .unset, .unset] []))
                  refine own_step (fun _ k => XS.aload X56.here hx rfl (hb hby at_122) rfl rfl k) ?_
                  show own_Fin p.tables e below _ (T56.setTop (mkF m 124 #[.val (.long qa), .second, .val (.long qb), .second, .val (.int fl), .val (.int y4), .val (.int y8), .val (.int y12), .val (.int y16), .val (.ref b17), .val (.ref b22), .unset, .unset, .unset, .unset] [(.ref b22)]))
                  obtain ⟨cq95, kq95, q95a, q95b, q95c⟩ := isOf hZ e56 f61
                  obtain ⟨_, _, ⟨T95, L95, k95, n95⟩, -, X95, ⟨Lc95, hQ95, l95, y95, z95⟩, st95⟩ := X56.virtualBack hx (y := (⟨"com/example/riverhop/riverhop/overlay/Wake", "clear", "()V"⟩ : MethodName)) (z := (⟨"com/example/riverhop/riverhop/overlay/Wake", "clear", "()V"⟩ : MethodName)) hown (mvT hZ (hw _ (List.mem_of_getElem? (i := 9) rfl))) (mvT hZ (hw _ (List.mem_of_getElem? (i := 10) rfl))) (notFace_of_selects (args := #[]) (mvT hZ (hw _ (List.mem_of_getElem? (i := 12) rfl)))) (mvT hZ (hw _ (List.mem_of_getElem? (i := 12) rfl))) (mvT hZ (hw _ (List.mem_of_getElem? (i := 11) rfl))) (by decide) (backOf (W := 0) (rm3 l Z a0 hw [] b22 y62 y64 h56 n0 f57 f63 f65 f61 g_b22) hZ (hw _ (List.mem_of_getElem? (i := 13) rfl)) (hw _ (List.mem_of_getElem? (i := 2) rfl)) (by decide) (by decide)) q95a q95c (g := (mkF m 124 #[.val (.long qa), .second, .val (.long qb), .second, .val (.int fl), .val (.int y4), .val (.int y8), .val (.int y12), .val (.int y16), .val (.ref b17), .val (.ref b22), .unset, .unset, .unset, .unset] [(.ref b22)])) rfl (by rw [hml]; rfl) (Steps.refl _) (argsL := []) (rest := []) (lenOf pd_0 rfl) rfl (by show 2 * 0 + _ ≤ _; exact Nat.le_of_eq rfl) (hb hby at_124) (fun _ _ => ⟨rfl, e56, (by decide : 2 + 0 ≤ _), (by decide : 4 + 0 ≤ _)⟩)
                  dsimp only [Pt.U, Pt.locs, Pt.cells, Pt.slots] at X95 l95 y95 z95 st95 hQ95
                  subst l95 y95 z95
                  obtain ⟨rfl, N95q, K95, fe95, fn95, ft95⟩ := hQ95
                  have N95 := Fr.app N56 N95q
                  refine own_steps st95 ?_
                  have f96 := Nat.le_trans f57 K95.1
                  have f97 := f58.keep K95
                  have f98 := f59.keep K95 (ninS ne_b17_b22 nin0)
                  have f99 := f60.keep K95 (ninS ne_b17_b22 nin0)
                  have f100 := f61.keep K95
                  show own_Fin p.tables e below _ (T95.setTop (mkF m 127 #[.val (.long qa), .second, .val (.long qb), .second, .val (.int fl), .val (.int y4), .val (.int y8), .val (.int y12), .val (.int y16), .val (.ref b17), .val (.ref b22), .unset, .unset, .unset, .unset] []))
                  exact J67 T95 _ T95.heap (0 : Int32) X95 rfl N95 (by rw [if_pos hc66]) f96 f97 f98 f99 fe95 fn95 ft95
                · refine own_step (fun _ k => XS.ifYes X56.here hx rfl (pc0 := 119) (pc' := 127) rfl (hb hby at_119) rfl ((if0 _ _).trans (feq hc66).2) (by decide) (by decide) k) ?_
                  show own_Fin p.tables e below _ (T56.setTop (mkF m 127 #[.val (.long qa), .second, .val (.long qb), .second, .val (.int fl), .val (.int y4), .val (.int y8), .val (.int y12), .val (.int y16), .val (.ref b17), .val (.ref b22), .unset, .unset, .unset, .unset] []))
                  exact J67 T56 _ h56 y62 X56 e56 N56 (by rw [if_neg hc66]) f57 f58 f59 f60 f61 f63 f65
              by_cases hc54 : y8 = (0 : Int32)
              · refine own_step (fun _ k => XS.ifNo X44.here hx rfl (hb hby at_103) rfl ((if0 _ _).trans (teq hc54).2) k) ?_
                show own_Fin p.tables e below _ (T44.setTop (mkF m 106 #[.val (.long qa), .second, .val (.long qb), .second, .val (.int fl), .val (.int y4), .val (.int y8), .val (.int y12), .val (.int y16), .val (.ref b17), .val (.ref b22), .unset, .unset, .unset, .unset] []))
                refine own_step (fun _ k => XS.iload X44.here hx rfl (hb hby at_106) rfl k) ?_
                show own_Fin p.tables e below _ (T44.setTop (mkF m 108 #[.val (.long qa), .second, .val (.long qb), .second, .val (.int fl), .val (.int y4), .val (.int y8), .val (.int y12), .val (.int y16), .val (.ref b17), .val (.ref b22), .unset, .unset, .unset, .unset] [(.int y16)]))
                by_cases hc103 : y16 = (0 : Int32)
                · refine own_step (fun _ k => XS.ifYes X44.here hx rfl (pc0 := 108) (pc' := 117) rfl (hb hby at_108) rfl ((if0 _ _).trans (teq hc103).1) (by decide) (by decide) k) ?_
                  show own_Fin p.tables e below _ (T44.setTop (mkF m 117 #[.val (.long qa), .second, .val (.long qb), .second, .val (.int fl), .val (.int y4), .val (.int y8), .val (.int y12), .val (.int y16), .val (.ref b17), .val (.ref b22), .unset, .unset, .unset, .unset] []))
                  exact J55 T44 _ h44 (0 : Int32) (0 : Int64) X44 e44 N44 (by rw [if_pos hc54, if_pos hc103]) (by rw [if_pos hc54, if_pos hc103]) f45 f46 f48 f49 f50 f51 f52
                · refine own_step (fun _ k => XS.ifNo X44.here hx rfl (hb hby at_108) rfl ((if0 _ _).trans (feq hc103).1) k) ?_
                  show own_Fin p.tables e below _ (T44.setTop (mkF m 111 #[.val (.long qa), .second, .val (.long qb), .second, .val (.int fl), .val (.int y4), .val (.int y8), .val (.int y12), .val (.int y16), .val (.ref b17), .val (.ref b22), .unset, .unset, .unset, .unset] []))
                  refine own_step (fun _ k => XS.aload X44.here hx rfl (hb hby at_111) rfl rfl k) ?_
                  show own_Fin p.tables e below _ (T44.setTop (mkF m 113 #[.val (.long qa), .second, .val (.long qb), .second, .val (.int fl), .val (.int y4), .val (.int y8), .val (.int y12), .val (.int y16), .val (.ref b17), .val (.ref b22), .unset, .unset, .unset, .unset] [(.ref b22)]))
                  refine own_step (fun _ k => XS.lloadN X44.here hx rfl (hb hby at_113) rfl k) ?_
                  show own_Fin p.tables e below _ (T44.setTop (mkF m 114 #[.val (.long qa), .second, .val (.long qb), .second, .val (.int fl), .val (.int y4), .val (.int y8), .val (.int y12), .val (.int y16), .val (.ref b17), .val (.ref b22), .unset, .unset, .unset, .unset] [(.long qb), (.ref b22)]))
                  obtain ⟨cq104, kq104, q104a, q104b, q104c⟩ := isOf hZ e44 f50
                  obtain ⟨_, _, ⟨T104, L104, k104, n104⟩, -, X104, ⟨Lc104, hQ104, l104, y104, z104⟩, st104⟩ := X44.virtualBack hx (y := (⟨"com/example/riverhop/riverhop/overlay/Wake", "at", "(J)V"⟩ : MethodName)) (z := (⟨"com/example/riverhop/riverhop/overlay/Wake", "at", "(J)V"⟩ : MethodName)) hown (mvT hZ (hw _ (List.mem_of_getElem? (i := 21) rfl))) (mvT hZ (hw _ (List.mem_of_getElem? (i := 22) rfl))) (notFace_of_selects (args := #[]) (mvT hZ (hw _ (List.mem_of_getElem? (i := 24) rfl)))) (mvT hZ (hw _ (List.mem_of_getElem? (i := 24) rfl))) (mvT hZ (hw _ (List.mem_of_getElem? (i := 23) rfl))) (by decide) (backOf (W := 0) (rm5 l Z a0 hw [] b22 qb (0 : Int32) (0 : Int64) h44 n0 f45 f51 f52 f50 g_b22) hZ (hw _ (List.mem_of_getElem? (i := 25) rfl)) (hw _ (List.mem_of_getElem? (i := 2) rfl)) (by decide) (by decide)) q104a q104c (g := (mkF m 114 #[.val (.long qa), .second, .val (.long qb), .second, .val (.int fl), .val (.int y4), .val (.int y8), .val (.int y12), .val (.int y16), .val (.ref b17), .val (.ref b22), .unset, .unset, .unset, .unset] [(.long qb), (.ref b22)])) rfl (by rw [hml]; rfl) (Steps.refl _) (argsL := [(.long qb)]) (rest := []) (lenOf pd_1 rfl) rfl (by show 2 * 0 + _ ≤ _; exact Nat.le_of_eq rfl) (hb hby at_114) (fun _ _ => ⟨rfl, e44, (by decide : 2 + 0 ≤ _), (by decide : 4 + 0 ≤ _)⟩)
                  dsimp only [Pt.U, Pt.locs, Pt.cells, Pt.slots] at X104 l104 y104 z104 st104 hQ104
                  subst l104 y104 z104
                  obtain ⟨rfl, N104q, K104, fe104, fn104, ft104⟩ := hQ104
                  have N104 := Fr.app N44 N104q
                  refine own_steps st104 ?_
                  have f105 := Nat.le_trans f45 K104.1
                  have f106 := f46.keep K104
                  have f107 := f48.keep K104 (ninS ne_b17_b22 nin0)
                  have f108 := f49.keep K104 (ninS ne_b17_b22 nin0)
                  have f109 := f50.keep K104
                  show own_Fin p.tables e below _ (T104.setTop (mkF m 117 #[.val (.long qa), .second, .val (.long qb), .second, .val (.int fl), .val (.int y4), .val (.int y8), .val (.int y12), .val (.int y16), .val (.ref b17), .val (.ref b22), .unset, .unset, .unset, .unset] []))
                  exact J55 T104 _ T104.heap (own_n (0 : Int32) qb (0 : Int64)) (own_t (0 : Int32) qb (0 : Int64)) X104 rfl N104 (by rw [if_pos hc54, if_neg hc103]) (by rw [if_pos hc54, if_neg hc103]) f105 f106 f107 f108 fe104 fn104 ft104
              · refine own_step (fun _ k => XS.ifYes X44.here hx rfl (pc0 := 103) (pc' := 111) rfl (hb hby at_103) rfl ((if0 _ _).trans (feq hc54).2) (by decide) (by decide) k) ?_
                show own_Fin p.tables e below _ (T44.setTop (mkF m 111 #[.val (.long qa), .second, .val (.long qb), .second, .val (.int fl), .val (.int y4), .val (.int y8), .val (.int y12), .val (.int y16), .val (.ref b17), .val (.ref b22), .unset, .unset, .unset, .unset] []))
                refine own_step (fun _ k => XS.aload X44.here hx rfl (hb hby at_111) rfl rfl k) ?_
                show own_Fin p.tables e below _ (T44.setTop (mkF m 113 #[.val (.long qa), .second, .val (.long qb), .second, .val (.int fl), .val (.int y4), .val (.int y8), .val (.int y12), .val (.int y16), .val (.ref b17), .val (.ref b22), .unset, .unset, .unset, .unset] [(.ref b22)]))
                refine own_step (fun _ k => XS.lloadN X44.here hx rfl (hb hby at_113) rfl k) ?_
                show own_Fin p.tables e below _ (T44.setTop (mkF m 114 #[.val (.long qa), .second, .val (.long qb), .second, .val (.int fl), .val (.int y4), .val (.int y8), .val (.int y12), .val (.int y16), .val (.ref b17), .val (.ref b22), .unset, .unset, .unset, .unset] [(.long qb), (.ref b22)]))
                obtain ⟨cq112, kq112, q112a, q112b, q112c⟩ := isOf hZ e44 f50
                obtain ⟨_, _, ⟨T112, L112, k112, n112⟩, -, X112, ⟨Lc112, hQ112, l112, y112, z112⟩, st112⟩ := X44.virtualBack hx (y := (⟨"com/example/riverhop/riverhop/overlay/Wake", "at", "(J)V"⟩ : MethodName)) (z := (⟨"com/example/riverhop/riverhop/overlay/Wake", "at", "(J)V"⟩ : MethodName)) hown (mvT hZ (hw _ (List.mem_of_getElem? (i := 21) rfl))) (mvT hZ (hw _ (List.mem_of_getElem? (i := 22) rfl))) (notFace_of_selects (args := #[]) (mvT hZ (hw _ (List.mem_of_getElem? (i := 24) rfl)))) (mvT hZ (hw _ (List.mem_of_getElem? (i := 24) rfl))) (mvT hZ (hw _ (List.mem_of_getElem? (i := 23) rfl))) (by decide) (backOf (W := 0) (rm5 l Z a0 hw [] b22 qb (0 : Int32) (0 : Int64) h44 n0 f45 f51 f52 f50 g_b22) hZ (hw _ (List.mem_of_getElem? (i := 25) rfl)) (hw _ (List.mem_of_getElem? (i := 2) rfl)) (by decide) (by decide)) q112a q112c (g := (mkF m 114 #[.val (.long qa), .second, .val (.long qb), .second, .val (.int fl), .val (.int y4), .val (.int y8), .val (.int y12), .val (.int y16), .val (.ref b17), .val (.ref b22), .unset, .unset, .unset, .unset] [(.long qb), (.ref b22)])) rfl (by rw [hml]; rfl) (Steps.refl _) (argsL := [(.long qb)]) (rest := []) (lenOf pd_1 rfl) rfl (by show 2 * 0 + _ ≤ _; exact Nat.le_of_eq rfl) (hb hby at_114) (fun _ _ => ⟨rfl, e44, (by decide : 2 + 0 ≤ _), (by decide : 4 + 0 ≤ _)⟩)
                dsimp only [Pt.U, Pt.locs, Pt.cells, Pt.slots] at X112 l112 y112 z112 st112 hQ112
                subst l112 y112 z112
                obtain ⟨rfl, N112q, K112, fe112, fn112, ft112⟩ := hQ112
                have N112 := Fr.app N44 N112q
                refine own_steps st112 ?_
                have f113 := Nat.le_trans f45 K112.1
                have f114 := f46.keep K112
                have f115 := f48.keep K112 (ninS ne_b17_b22 nin0)
                have f116 := f49.keep K112 (ninS ne_b17_b22 nin0)
                have f117 := f50.keep K112
                show own_Fin p.tables e below _ (T112.setTop (mkF m 117 #[.val (.long qa), .second, .val (.long qb), .second, .val (.int fl), .val (.int y4), .val (.int y8), .val (.int y12), .val (.int y16), .val (.ref b17), .val (.ref b22), .unset, .unset, .unset, .unset] []))
                exact J55 T112 _ T112.heap (own_n (0 : Int32) qb (0 : Int64)) (own_t (0 : Int32) qb (0 : Int64)) X112 rfl N112 (by rw [if_neg hc54]) (by rw [if_neg hc54]) f113 f114 f115 f116 fe112 fn112 ft112
            by_cases hc42 : y4 = (0 : Int32)
            · refine own_step (fun _ k => XS.ifNo X32.here hx rfl (hb hby at_93) rfl ((if0 _ _).trans (teq hc42).2) k) ?_
              show own_Fin p.tables e below _ (T32.setTop (mkF m 96 #[.val (.long qa), .second, .val (.long qb), .second, .val (.int fl), .val (.int y4), .val (.int y8), .val (.int y12), .val (.int y16), .val (.ref b17), .val (.ref b22), .unset, .unset, .unset, .unset] []))
              refine own_step (fun _ k => XS.aload X32.here hx rfl (hb hby at_96) rfl rfl k) ?_
              show own_Fin p.tables e below _ (T32.setTop (mkF m 98 #[.val (.long qa), .second, .val (.long qb), .second, .val (.int fl), .val (.int y4), .val (.int y8), .val (.int y12), .val (.int y16), .val (.ref b17), .val (.ref b22), .unset, .unset, .unset, .unset] [(.ref b17)]))
              obtain ⟨cq120, kq120, q120a, q120b, q120c⟩ := isOf hZ e32 f34
              obtain ⟨_, _, ⟨T120, L120, k120, n120⟩, -, X120, ⟨Lc120, hQ120, l120, y120, z120⟩, st120⟩ := X32.virtualBack hx (y := (⟨"com/example/riverhop/riverhop/overlay/Wake", "clear", "()V"⟩ : MethodName)) (z := (⟨"com/example/riverhop/riverhop/overlay/Wake", "clear", "()V"⟩ : MethodName)) hown (mvT hZ (hw _ (List.mem_of_getElem? (i := 9) rfl))) (mvT hZ (hw _ (List.mem_of_getElem? (i := 10) rfl))) (notFace_of_selects (args := #[]) (mvT hZ (hw _ (List.mem_of_getElem? (i := 12) rfl)))) (mvT hZ (hw _ (List.mem_of_getElem? (i := 12) rfl))) (mvT hZ (hw _ (List.mem_of_getElem? (i := 11) rfl))) (by decide) (backOf (W := 0) (rm3 l Z a0 hw [] b17 y35 y37 h32 n0 f33 f36 f38 f34 g_b17) hZ (hw _ (List.mem_of_getElem? (i := 13) rfl)) (hw _ (List.mem_of_getElem? (i := 2) rfl)) (by decide) (by decide)) q120a q120c (g := (mkF m 98 #[.val (.long qa), .second, .val (.long qb), .second, .val (.int fl), .val (.int y4), .val (.int y8), .val (.int y12), .val (.int y16), .val (.ref b17), .val (.ref b22), .unset, .unset, .unset, .unset] [(.ref b17)])) rfl (by rw [hml]; rfl) (Steps.refl _) (argsL := []) (rest := []) (lenOf pd_0 rfl) rfl (by show 2 * 0 + _ ≤ _; exact Nat.le_of_eq rfl) (hb hby at_98) (fun _ _ => ⟨rfl, e32, (by decide : 2 + 0 ≤ _), (by decide : 4 + 0 ≤ _)⟩)
              dsimp only [Pt.U, Pt.locs, Pt.cells, Pt.slots] at X120 l120 y120 z120 st120 hQ120
              subst l120 y120 z120
              obtain ⟨rfl, N120q, K120, fe120, fn120, ft120⟩ := hQ120
              have N120 := Fr.app N32 N120q
              refine own_steps st120 ?_
              have f121 := Nat.le_trans f33 K120.1
              have f122 := f34.keep K120
              have f125 := f39.keep K120
              have f126 := f40.keep K120 (ninS (Ne.symm ne_b17_b22) nin0)
              have f127 := f41.keep K120 (ninS (Ne.symm ne_b17_b22) nin0)
              show own_Fin p.tables e below _ (T120.setTop (mkF m 101 #[.val (.long qa), .second, .val (.long qb), .second, .val (.int fl), .val (.int y4), .val (.int y8), .val (.int y12), .val (.int y16), .val (.ref b17), .val (.ref b22), .unset, .unset, .unset, .unset] []))
              exact J43 T120 _ T120.heap (0 : Int32) X120 rfl N120 (by rw [if_pos hc42]) f121 fe120 fn120 ft120 f125 f126 f127
            · refine own_step (fun _ k => XS.ifYes X32.here hx rfl (pc0 := 93) (pc' := 101) rfl (hb hby at_93) rfl ((if0 _ _).trans (feq hc42).2) (by decide) (by decide) k) ?_
              show own_Fin p.tables e below _ (T32.setTop (mkF m 101 #[.val (.long qa), .second, .val (.long qb), .second, .val (.int fl), .val (.int y4), .val (.int y8), .val (.int y12), .val (.int y16), .val (.ref b17), .val (.ref b22), .unset, .unset, .unset, .unset] []))
              exact J43 T32 _ h32 y35 X32 e32 N32 (by rw [if_neg hc42]) f33 f34 f36 f38 f39 f40 f41
          by_cases hc30 : y4 = (0 : Int32)
          · refine own_step (fun _ k => XS.ifNo X29.here hx rfl (hb hby at_77) rfl ((if0 _ _).trans (teq hc30).2) k) ?_
            show own_Fin p.tables e below _ (T29.setTop (mkF m 80 #[.val (.long qa), .second, .val (.long qb), .second, .val (.int fl), .val (.int y4), .val (.int y8), .val (.int y12), .val (.int y16), .val (.ref b17), .val (.ref b22), .unset, .unset, .unset, .unset] []))
            refine own_step (fun _ k => XS.iload X29.here hx rfl (hb hby at_80) rfl k) ?_
            show own_Fin p.tables e below _ (T29.setTop (mkF m 82 #[.val (.long qa), .second, .val (.long qb), .second, .val (.int fl), .val (.int y4), .val (.int y8), .val (.int y12), .val (.int y16), .val (.ref b17), .val (.ref b22), .unset, .unset, .unset, .unset] [(.int y12)]))
            by_cases hc128 : y12 = (0 : Int32)
            · refine own_step (fun _ k => XS.ifYes X29.here hx rfl (pc0 := 82) (pc' := 91) rfl (hb hby at_82) rfl ((if0 _ _).trans (teq hc128).1) (by decide) (by decide) k) ?_
              show own_Fin p.tables e below _ (T29.setTop (mkF m 91 #[.val (.long qa), .second, .val (.long qb), .second, .val (.int fl), .val (.int y4), .val (.int y8), .val (.int y12), .val (.int y16), .val (.ref b17), .val (.ref b22), .unset, .unset, .unset, .unset] []))
              exact J31 T29 _ h22 (0 : Int32) (0 : Int64) X29 e29 N29 (by rw [if_pos hc30, if_pos hc128]) (by rw [if_pos hc30, if_pos hc128]) f23 f24 f25 f26 A22 f27 f28
            · refine own_step (fun _ k => XS.ifNo X29.here hx rfl (hb hby at_82) rfl ((if0 _ _).trans (feq hc128).1) k) ?_
              show own_Fin p.tables e below _ (T29.setTop (mkF m 85 #[.val (.long qa), .second, .val (.long qb), .second, .val (.int fl), .val (.int y4), .val (.int y8), .val (.int y12), .val (.int y16), .val (.ref b17), .val (.ref b22), .unset, .unset, .unset, .unset] []))
              refine own_step (fun _ k => XS.aload X29.here hx rfl (hb hby at_85) rfl rfl k) ?_
              show own_Fin p.tables e below _ (T29.setTop (mkF m 87 #[.val (.long qa), .second, .val (.long qb), .second, .val (.int fl), .val (.int y4), .val (.int y8), .val (.int y12), .val (.int y16), .val (.ref b17), .val (.ref b22), .unset, .unset, .unset, .unset] [(.ref b17)]))
              refine own_step (fun _ k => XS.lloadN X29.here hx rfl (hb hby at_87) rfl k) ?_
              show own_Fin p.tables e below _ (T29.setTop (mkF m 88 #[.val (.long qa), .second, .val (.long qb), .second, .val (.int fl), .val (.int y4), .val (.int y8), .val (.int y12), .val (.int y16), .val (.ref b17), .val (.ref b22), .unset, .unset, .unset, .unset] [(.long qa), (.ref b17)]))
              obtain ⟨cq129, kq129, q129a, q129b, q129c⟩ := isOf hZ e29 f24
              obtain ⟨_, _, ⟨T129, L129, k129, n129⟩, -, X129, ⟨Lc129, hQ129, l129, y129, z129⟩, st129⟩ := X29.virtualBack hx (y := (⟨"com/example/riverhop/riverhop/overlay/Wake", "at", "(J)V"⟩ : MethodName)) (z := (⟨"com/example/riverhop/riverhop/overlay/Wake", "at", "(J)V"⟩ : MethodName)) hown (mvT hZ (hw _ (List.mem_of_getElem? (i := 21) rfl))) (mvT hZ (hw _ (List.mem_of_getElem? (i := 22) rfl))) (notFace_of_selects (args := #[]) (mvT hZ (hw _ (List.mem_of_getElem? (i := 24) rfl)))) (mvT hZ (hw _ (List.mem_of_getElem? (i := 24) rfl))) (mvT hZ (hw _ (List.mem_of_getElem? (i := 23) rfl))) (by decide) (backOf (W := 0) (rm5 l Z a0 hw [] b17 qa (0 : Int32) (0 : Int64) h22 n0 f23 f25 f26 f24 g_b17) hZ (hw _ (List.mem_of_getElem? (i := 25) rfl)) (hw _ (List.mem_of_getElem? (i := 2) rfl)) (by decide) (by decide)) q129a q129c (g := (mkF m 88 #[.val (.long qa), .second, .val (.long qb), .second, .val (.int fl), .val (.int y4), .val (.int y8), .val (.int y12), .val (.int y16), .val (.ref b17), .val (.ref b22), .unset, .unset, .unset, .unset] [(.long qa), (.ref b17)])) rfl (by rw [hml]; rfl) (Steps.refl _) (argsL := [(.long qa)]) (rest := []) (lenOf pd_1 rfl) rfl (by show 2 * 0 + _ ≤ _; exact Nat.le_of_eq rfl) (hb hby at_88) (fun _ _ => ⟨rfl, e29, (by decide : 2 + 0 ≤ _), (by decide : 4 + 0 ≤ _)⟩)
              dsimp only [Pt.U, Pt.locs, Pt.cells, Pt.slots] at X129 l129 y129 z129 st129 hQ129
              subst l129 y129 z129
              obtain ⟨rfl, N129q, K129, fe129, fn129, ft129⟩ := hQ129
              have N129 := Fr.app N29 N129q
              refine own_steps st129 ?_
              have f130 := Nat.le_trans f23 K129.1
              have f131 := f24.keep K129
              have f134 := A22.keep K129
              have f135 := f27.keep K129 (ninS (Ne.symm ne_b17_b22) nin0)
              have f136 := f28.keep K129 (ninS (Ne.symm ne_b17_b22) nin0)
              show own_Fin p.tables e below _ (T129.setTop (mkF m 91 #[.val (.long qa), .second, .val (.long qb), .second, .val (.int fl), .val (.int y4), .val (.int y8), .val (.int y12), .val (.int y16), .val (.ref b17), .val (.ref b22), .unset, .unset, .unset, .unset] []))
              exact J31 T129 _ T129.heap (own_n (0 : Int32) qa (0 : Int64)) (own_t (0 : Int32) qa (0 : Int64)) X129 rfl N129 (by rw [if_pos hc30, if_neg hc128]) (by rw [if_pos hc30, if_neg hc128]) f130 fe129 fn129 ft129 f134 f135 f136
          · refine own_step (fun _ k => XS.ifYes X29.here hx rfl (pc0 := 77) (pc' := 85) rfl (hb hby at_77) rfl ((if0 _ _).trans (feq hc30).2) (by decide) (by decide) k) ?_
            show own_Fin p.tables e below _ (T29.setTop (mkF m 85 #[.val (.long qa), .second, .val (.long qb), .second, .val (.int fl), .val (.int y4), .val (.int y8), .val (.int y12), .val (.int y16), .val (.ref b17), .val (.ref b22), .unset, .unset, .unset, .unset] []))
            refine own_step (fun _ k => XS.aload X29.here hx rfl (hb hby at_85) rfl rfl k) ?_
            show own_Fin p.tables e below _ (T29.setTop (mkF m 87 #[.val (.long qa), .second, .val (.long qb), .second, .val (.int fl), .val (.int y4), .val (.int y8), .val (.int y12), .val (.int y16), .val (.ref b17), .val (.ref b22), .unset, .unset, .unset, .unset] [(.ref b17)]))
            refine own_step (fun _ k => XS.lloadN X29.here hx rfl (hb hby at_87) rfl k) ?_
            show own_Fin p.tables e below _ (T29.setTop (mkF m 88 #[.val (.long qa), .second, .val (.long qb), .second, .val (.int fl), .val (.int y4), .val (.int y8), .val (.int y12), .val (.int y16), .val (.ref b17), .val (.ref b22), .unset, .unset, .unset, .unset] [(.long qa), (.ref b17)]))
            obtain ⟨cq137, kq137, q137a, q137b, q137c⟩ := isOf hZ e29 f24
            obtain ⟨_, _, ⟨T137, L137, k137, n137⟩, -, X137, ⟨Lc137, hQ137, l137, y137, z137⟩, st137⟩ := X29.virtualBack hx (y := (⟨"com/example/riverhop/riverhop/overlay/Wake", "at", "(J)V"⟩ : MethodName)) (z := (⟨"com/example/riverhop/riverhop/overlay/Wake", "at", "(J)V"⟩ : MethodName)) hown (mvT hZ (hw _ (List.mem_of_getElem? (i := 21) rfl))) (mvT hZ (hw _ (List.mem_of_getElem? (i := 22) rfl))) (notFace_of_selects (args := #[]) (mvT hZ (hw _ (List.mem_of_getElem? (i := 24) rfl)))) (mvT hZ (hw _ (List.mem_of_getElem? (i := 24) rfl))) (mvT hZ (hw _ (List.mem_of_getElem? (i := 23) rfl))) (by decide) (backOf (W := 0) (rm5 l Z a0 hw [] b17 qa (0 : Int32) (0 : Int64) h22 n0 f23 f25 f26 f24 g_b17) hZ (hw _ (List.mem_of_getElem? (i := 25) rfl)) (hw _ (List.mem_of_getElem? (i := 2) rfl)) (by decide) (by decide)) q137a q137c (g := (mkF m 88 #[.val (.long qa), .second, .val (.long qb), .second, .val (.int fl), .val (.int y4), .val (.int y8), .val (.int y12), .val (.int y16), .val (.ref b17), .val (.ref b22), .unset, .unset, .unset, .unset] [(.long qa), (.ref b17)])) rfl (by rw [hml]; rfl) (Steps.refl _) (argsL := [(.long qa)]) (rest := []) (lenOf pd_1 rfl) rfl (by show 2 * 0 + _ ≤ _; exact Nat.le_of_eq rfl) (hb hby at_88) (fun _ _ => ⟨rfl, e29, (by decide : 2 + 0 ≤ _), (by decide : 4 + 0 ≤ _)⟩)
            dsimp only [Pt.U, Pt.locs, Pt.cells, Pt.slots] at X137 l137 y137 z137 st137 hQ137
            subst l137 y137 z137
            obtain ⟨rfl, N137q, K137, fe137, fn137, ft137⟩ := hQ137
            have N137 := Fr.app N29 N137q
            refine own_steps st137 ?_
            have f138 := Nat.le_trans f23 K137.1
            have f139 := f24.keep K137
            have f142 := A22.keep K137
            have f143 := f27.keep K137 (ninS (Ne.symm ne_b17_b22) nin0)
            have f144 := f28.keep K137 (ninS (Ne.symm ne_b17_b22) nin0)
            show own_Fin p.tables e below _ (T137.setTop (mkF m 91 #[.val (.long qa), .second, .val (.long qb), .second, .val (.int fl), .val (.int y4), .val (.int y8), .val (.int y12), .val (.int y16), .val (.ref b17), .val (.ref b22), .unset, .unset, .unset, .unset] []))
            exact J31 T137 _ T137.heap (own_n (0 : Int32) qa (0 : Int64)) (own_t (0 : Int32) qa (0 : Int64)) X137 rfl N137 (by rw [if_neg hc30]) (by rw [if_neg hc30]) f138 fe137 fn137 ft137 f142 f143 f144
        by_cases hc13 : (fl &&& (8 : Int32)) = (0 : Int32)
        · refine own_step (fun _ k => XS.ifYes X11.here hx rfl (pc0 := 47) (pc' := 54) rfl (hb hby at_47) rfl ((if0 _ _).trans (teq hc13).1) (by decide) (by decide) k) ?_
          show own_Fin p.tables e below _ (T11.setTop (mkF m 54 #[.val (.long qa), .second, .val (.long qb), .second, .val (.int fl), .val (.int y4), .val (.int y8), .val (.int y12), .unset, .unset, .unset, .unset, .unset, .unset, .unset] []))
          refine own_step (fun _ k => XS.iconst X11.here hx rfl (hb hby at_54) k) ?_
          show own_Fin p.tables e below _ (T11.setTop (mkF m 55 #[.val (.long qa), .second, .val (.long qb), .second, .val (.int fl), .val (.int y4), .val (.int y8), .val (.int y12), .unset, .unset, .unset, .unset, .unset, .unset, .unset] [(.int (0 : Int32))]))
          exact J14 T11 _ (0 : Int32) X11 e11 N11 (by rw [if_pos hc13])
        · refine own_step (fun _ k => XS.ifNo X11.here hx rfl (hb hby at_47) rfl ((if0 _ _).trans (feq hc13).1) k) ?_
          show own_Fin p.tables e below _ (T11.setTop (mkF m 50 #[.val (.long qa), .second, .val (.long qb), .second, .val (.int fl), .val (.int y4), .val (.int y8), .val (.int y12), .unset, .unset, .unset, .unset, .unset, .unset, .unset] []))
          refine own_step (fun _ k => XS.iconst X11.here hx rfl (hb hby at_50) k) ?_
          show own_Fin p.tables e below _ (T11.setTop (mkF m 51 #[.val (.long qa), .second, .val (.long qb), .second, .val (.int fl), .val (.int y4), .val (.int y8), .val (.int y12), .unset, .unset, .unset, .unset, .unset, .unset, .unset] [(.int (1 : Int32))]))
          refine own_step (fun _ k => XS.goto X11.here hx rfl (pc0 := 51) (pc' := 55) rfl (hb hby at_51) (by decide) (by decide) k) ?_
          show own_Fin p.tables e below _ (T11.setTop (mkF m 55 #[.val (.long qa), .second, .val (.long qb), .second, .val (.int fl), .val (.int y4), .val (.int y8), .val (.int y12), .unset, .unset, .unset, .unset, .unset, .unset, .unset] [(.int (1 : Int32))]))
          exact J14 T11 _ (1 : Int32) X11 e11 N11 (by rw [if_neg hc13])
      by_cases hc9 : (fl &&& (4 : Int32)) = (0 : Int32)
      · refine own_step (fun _ k => XS.ifYes X7.here hx rfl (pc0 := 32) (pc' := 39) rfl (hb hby at_32) rfl ((if0 _ _).trans (teq hc9).1) (by decide) (by decide) k) ?_
        show own_Fin p.tables e below _ (T7.setTop (mkF m 39 #[.val (.long qa), .second, .val (.long qb), .second, .val (.int fl), .val (.int y4), .val (.int y8), .unset, .unset, .unset, .unset, .unset, .unset, .unset, .unset] []))
        refine own_step (fun _ k => XS.iconst X7.here hx rfl (hb hby at_39) k) ?_
        show own_Fin p.tables e below _ (T7.setTop (mkF m 40 #[.val (.long qa), .second, .val (.long qb), .second, .val (.int fl), .val (.int y4), .val (.int y8), .unset, .unset, .unset, .unset, .unset, .unset, .unset, .unset] [(.int (0 : Int32))]))
        exact J10 T7 _ (0 : Int32) X7 e7 N7 (by rw [if_pos hc9])
      · refine own_step (fun _ k => XS.ifNo X7.here hx rfl (hb hby at_32) rfl ((if0 _ _).trans (feq hc9).1) k) ?_
        show own_Fin p.tables e below _ (T7.setTop (mkF m 35 #[.val (.long qa), .second, .val (.long qb), .second, .val (.int fl), .val (.int y4), .val (.int y8), .unset, .unset, .unset, .unset, .unset, .unset, .unset, .unset] []))
        refine own_step (fun _ k => XS.iconst X7.here hx rfl (hb hby at_35) k) ?_
        show own_Fin p.tables e below _ (T7.setTop (mkF m 36 #[.val (.long qa), .second, .val (.long qb), .second, .val (.int fl), .val (.int y4), .val (.int y8), .unset, .unset, .unset, .unset, .unset, .unset, .unset, .unset] [(.int (1 : Int32))]))
        refine own_step (fun _ k => XS.goto X7.here hx rfl (pc0 := 36) (pc' := 40) rfl (hb hby at_36) (by decide) (by decide) k) ?_
        show own_Fin p.tables e below _ (T7.setTop (mkF m 40 #[.val (.long qa), .second, .val (.long qb), .second, .val (.int fl), .val (.int y4), .val (.int y8), .unset, .unset, .unset, .unset, .unset, .unset, .unset, .unset] [(.int (1 : Int32))]))
        exact J10 T7 _ (1 : Int32) X7 e7 N7 (by rw [if_neg hc9])
    by_cases hc5 : (fl &&& (2 : Int32)) = (0 : Int32)
    · refine own_step (fun _ k => XS.ifYes X3.here hx rfl (pc0 := 18) (pc' := 25) rfl (hb hby at_18) rfl ((if0 _ _).trans (teq hc5).1) (by decide) (by decide) k) ?_
      show own_Fin p.tables e below _ (T3.setTop (mkF m 25 #[.val (.long qa), .second, .val (.long qb), .second, .val (.int fl), .val (.int y4), .unset, .unset, .unset, .unset, .unset, .unset, .unset, .unset, .unset] []))
      refine own_step (fun _ k => XS.iconst X3.here hx rfl (hb hby at_25) k) ?_
      show own_Fin p.tables e below _ (T3.setTop (mkF m 26 #[.val (.long qa), .second, .val (.long qb), .second, .val (.int fl), .val (.int y4), .unset, .unset, .unset, .unset, .unset, .unset, .unset, .unset, .unset] [(.int (0 : Int32))]))
      exact J6 T3 _ (0 : Int32) X3 e3 N3 (by rw [if_pos hc5])
    · refine own_step (fun _ k => XS.ifNo X3.here hx rfl (hb hby at_18) rfl ((if0 _ _).trans (feq hc5).1) k) ?_
      show own_Fin p.tables e below _ (T3.setTop (mkF m 21 #[.val (.long qa), .second, .val (.long qb), .second, .val (.int fl), .val (.int y4), .unset, .unset, .unset, .unset, .unset, .unset, .unset, .unset, .unset] []))
      refine own_step (fun _ k => XS.iconst X3.here hx rfl (hb hby at_21) k) ?_
      show own_Fin p.tables e below _ (T3.setTop (mkF m 22 #[.val (.long qa), .second, .val (.long qb), .second, .val (.int fl), .val (.int y4), .unset, .unset, .unset, .unset, .unset, .unset, .unset, .unset, .unset] [(.int (1 : Int32))]))
      refine own_step (fun _ k => XS.goto X3.here hx rfl (pc0 := 22) (pc' := 26) rfl (hb hby at_22) (by decide) (by decide) k) ?_
      show own_Fin p.tables e below _ (T3.setTop (mkF m 26 #[.val (.long qa), .second, .val (.long qb), .second, .val (.int fl), .val (.int y4), .unset, .unset, .unset, .unset, .unset, .unset, .unset, .unset, .unset] [(.int (1 : Int32))]))
      exact J6 T3 _ (1 : Int32) X3 e3 N3 (by rw [if_neg hc5])
  by_cases hc1 : (fl &&& (1 : Int32)) = (0 : Int32)
  · refine own_step (fun _ k => XS.ifYes X0.here hx rfl (pc0 := 4) (pc' := 11) rfl (hb hby at_4) rfl ((if0 _ _).trans (teq hc1).1) (by decide) (by decide) k) ?_
    show own_Fin p.tables e below _ (s₁.setTop (mkF m 11 #[.val (.long qa), .second, .val (.long qb), .second, .val (.int fl), .unset, .unset, .unset, .unset, .unset, .unset, .unset, .unset, .unset, .unset] []))
    refine own_step (fun _ k => XS.iconst X0.here hx rfl (hb hby at_11) k) ?_
    show own_Fin p.tables e below _ (s₁.setTop (mkF m 12 #[.val (.long qa), .second, .val (.long qb), .second, .val (.int fl), .unset, .unset, .unset, .unset, .unset, .unset, .unset, .unset, .unset, .unset] [(.int (0 : Int32))]))
    exact J2 s₁ _ (0 : Int32) X0 e0 N0 (by rw [if_pos hc1])
  · refine own_step (fun _ k => XS.ifNo X0.here hx rfl (hb hby at_4) rfl ((if0 _ _).trans (feq hc1).1) k) ?_
    show own_Fin p.tables e below _ (s₁.setTop (mkF m 7 #[.val (.long qa), .second, .val (.long qb), .second, .val (.int fl), .unset, .unset, .unset, .unset, .unset, .unset, .unset, .unset, .unset, .unset] []))
    refine own_step (fun _ k => XS.iconst X0.here hx rfl (hb hby at_7) k) ?_
    show own_Fin p.tables e below _ (s₁.setTop (mkF m 8 #[.val (.long qa), .second, .val (.long qb), .second, .val (.int fl), .unset, .unset, .unset, .unset, .unset, .unset, .unset, .unset, .unset, .unset] [(.int (1 : Int32))]))
    refine own_step (fun _ k => XS.goto X0.here hx rfl (pc0 := 8) (pc' := 12) rfl (hb hby at_8) (by decide) (by decide) k) ?_
    show own_Fin p.tables e below _ (s₁.setTop (mkF m 12 #[.val (.long qa), .second, .val (.long qb), .second, .val (.int fl), .unset, .unset, .unset, .unset, .unset, .unset, .unset, .unset, .unset, .unset] [(.int (1 : Int32))]))
    exact J2 s₁ _ (1 : Int32) X0 e0 N0 (by rw [if_neg hc1])
set_option maxRecDepth 65536 in
set_option maxHeartbeats 40000000 in
theorem comes_1 {Post : Tables → Env → Array Value → State → Outcome → State → Prop} (hpost : ∀ tb e args s v u, (limb_1_1.after args s (.returned v) u = true ∧ limb_1_2.after args s (.returned v) u = true ∧ True) → FrameEnd s (.returned v) u (Jvm.fieldLocs frame_1_writes args s ++ Jvm.arrayLocs frame_1_arrays args s ++ Jvm.staticLocs frame_1_statics s) 16 128 → Post tb e args s (.returned v) u) :
    ArmFor flags0 classFile x code maxLocals ret World_1 tables_1 room_1 Calls_1 rest_1 Pre_1 Post := by
  intro l hfl _ _ p e ha hc hk s m args below hf hA hF happ hP
  obtain ⟨hcalls, hrest, hpre⟩ := hP
  obtain ⟨-, -, -, hnamed, -, -, -, hat⟩ := (Spec.applies_iff hf).mp happ
  obtain ⟨hg, hn⟩ := and_e (Cond.before_iff.mp (show (Jvm.Cond.and given_1 narrow_1).before args s = true from hpre))
  obtain ⟨g1, g2⟩ := and_e hg
  obtain ⟨g3, g4⟩ := and_e g2
  obtain ⟨g5, g6⟩ := and_e g4
  obtain ⟨w0, w1, w2, rfl⟩ : ∃ w0 w1 w2 : Value, args = #[w0, w1, w2] := by
    have hs : args.size = 3 := by simpa [Cond.value, given_1] using g1
    obtain ⟨L⟩ := args
    match L, hs with
    | [w0, w1, w2], _ => exact ⟨w0, w1, w2, rfl⟩
  have hw := fun d (hd : d ∈ tables_1) => atoms_spec (ws := Jvm.Cond.code x code maxLocals ret :: tables_1) hat d (List.mem_cons_of_mem _ hd)
  have hfit : Fit s := fun {y c} hc i hi => by
    obtain ⟨ha, rfl⟩ := Array.getElem?_eq_some_iff.mp hc
    have q := List.all_eq_true.mp ((Array.all_eq_true_iff_forall_mem.mp hF) _ (Array.getElem_mem ha)) i (List.mem_range.mpr hi)
    simpa [Array.getElem?_eq_getElem hi] using q
  obtain ⟨i0, ei0⟩ := isL_v g3
  obtain rfl : w0 = (.long i0) := Option.some.inj ei0
  obtain ⟨i1, ei1⟩ := isL_v g5
  obtain rfl : w1 = (.long i1) := Option.some.inj ei1
  obtain ⟨i2, ei2⟩ := is_v g6
  obtain rfl : w2 = (.int i2) := Option.some.inj ei2
  obtain ⟨n, o, h1, h2, h3, _, L, rfl, ⟨rfl, N⟩, hq⟩ := rm0 l s _ hw tables_1 i0 i1 i2 s.heap s.heap.size (Nat.le_refl _)  p e ha hc hk s m _ below hf ((Spec.applies_iff_loose hf).mp happ).1 ⟨rfl, State.Warmed39.refl s, rfl⟩ trivial
  refine ⟨n, _, h1, h2, h3, hpost _ _ _ _ _ _ ⟨Cond.after_iff.mpr rfl, Cond.after_iff.mpr (eq_i res_at (Term.int_eval (1)) rfl), trivial⟩ ⟨hq.1, hq.2.1, (hq.2.2.sift fun y hy => Or.inr (N y hy)).mono (by decide) (by decide)⟩⟩
theorem main_1_1 : Claimed_1_1 := comes_1 fun _ _ _ _ _ _ h hF => ⟨h.1, hF⟩
theorem main_1_2 : Claimed_1_2 := comes_1 fun _ _ _ _ _ _ h hF => ⟨h.2.1, hF⟩
end Jvm.Pilot.@@N@@
namespace Jvm.Pilot.@@N@@
open Jvm Jvm.ClassFile Sem Op Lib Jvm.Free Jvm.Stand Jvm.Pilot.@@N@@.Jvm.D
/-! MADE BY PROGRAM (witnessworld.py) out of the Statement's table words and the real class files: 9 classes; the members and pool entries that the words name. The judged class is class 1, her method 1. -/
namespace start1
open Jvm.ClassFile
def u (s : String) : CpInfo := .utf8 (stringToUtf16 s)
/-- a pool by its gaps: so many unusable entries, then the entry; so many at the end -/
def gap : Nat → List CpInfo → List CpInfo
  | 0, r => r
  | n + 1, r => .unusable :: gap n r
def poolList (es : List (Nat × CpInfo)) (last : Nat) : List CpInfo := es.foldr (fun e r => gap e.1 (e.2 :: r)) (gap last [])
def pool (es : List (Nat × CpInfo)) (last : Nat) : Array CpInfo := ⟨poolList es last⟩
def fileOf (pool : Array CpInfo) (this : Nat) (attrs : Array Attribute := #[]) (ms : Array MethodInfo := #[]) (fl : Nat := 33) (sup : Nat := 0) (ifs : Array Nat := #[]) (fds : Array FieldInfo := #[]) : ClassFile where
  minorVersion := 0
  majorVersion := 65
  constantPool := pool
  accessFlags := fl
  thisClass := this
  superClass := sup
  interfaces := ifs
  fields := fds
  methods := ms
  attributes := attrs
def plain (name : String) (sup : Option ClassId) : Class where
  name := name
  kind := .ordinary
  loader := none
  accessFlags := 33
  super := sup
  interfaces := #[]
  cf := none
  fields := #[]
  methods := #[]
  instanceTypes := #[]
  staticTypes := #[]
  resolved := #[]
  callSites := []
  init := .initialized
  statics := none
  mirror := none

def pool0 : Array CpInfo := pool [(5, u "<init>"), (0, u "()V"), (1, .class_ 10), (1, u "java/lang/Object")] 113

def k0c0 : Code := { maxStack := 0, maxLocals := 1, code := object_method_1_code, exceptionTable := #[], attributes := #[] }
def k0m0 : Method := { name := "<init>", desc := "()V", sig := { parameters := [], returnType := none }, accessFlags := 1, code := some k0c0 }
/-- java/lang/Object -/
def k0 : Class := { plain "java/lang/Object" none with
  accessFlags := 33
  interfaces := #[]
  cf := some (fileOf pool0 8 #[] #[{ accessFlags := 1, nameIndex := 5, descriptorIndex := 6, attributes := #[] }] 33 0 #[] #[])
  fields := #[]
  methods := #[k0m0]
  instanceTypes := #[]
  staticTypes := #[]
  resolved := Array.replicate 124 none
  statics := none }

def pool1 : Array CpInfo := pool [(2, .class_ 4), (0, .nameAndType 5 6), (0, u "java/lang/Object"), (0, u "<init>"), (0, u "()V"), (0, .class_ 8), (0, u "com/example/riverhop/riverhop/overlay/Wake"), (0, .methodref 7 3), (0, .methodref 7 11), (0, .nameAndType 12 13), (0, u "at"), (0, u "(J)V"), (0, .methodref 7 15), (0, .nameAndType 16 6), (0, u "clear"), (0, .methodref 7 18), (0, .nameAndType 19 20), (0, u "noLaterThan"), (0, u "(Lcom/example/riverhop/riverhop/overlay/Wake;)Z"), (0, .class_ 22), (0, u "com/example/riverhop/riverhop/overlay/WakeNoLaterThanPinLaw"), (2, u "law"), (0, u "(JJI)Z")] 3

def k1m0 : Method := { name := "<init>", desc := "()V", sig := { parameters := [], returnType := none }, accessFlags := 1, code := none }
def k1c1 : Code := { maxStack := 4, maxLocals := 15, code := code, exceptionTable := #[], attributes := #[] }
def k1m1 : Method := { name := "law", desc := "(JJI)Z", sig := { parameters := [.long, .long, .int], returnType := some .boolean }, accessFlags := 9, code := some k1c1 }
/-- com/example/riverhop/riverhop/overlay/WakeNoLaterThanPinLaw -/
def k1 : Class := { plain "com/example/riverhop/riverhop/overlay/WakeNoLaterThanPinLaw" (some 0) with
  accessFlags := 49
  interfaces := #[]
  cf := some (fileOf pool1 21 #[] #[{ accessFlags := 1, nameIndex := 5, descriptorIndex := 6, attributes := #[] }, { accessFlags := 9, nameIndex := 25, descriptorIndex := 26, attributes := #[] }] 49 2 #[] #[])
  fields := #[]
  methods := #[k1m0, k1m1]
  instanceTypes := #[]
  staticTypes := #[]
  resolved := Array.replicate 30 none
  statics := none }

def pool2 : Array CpInfo := pool [(1, .methodref 2 3), (0, .class_ 4), (0, .nameAndType 5 6), (0, u "java/lang/Object"), (0, u "<init>"), (0, u "()V"), (0, .fieldref 8 9), (0, .class_ 10), (0, .nameAndType 11 12), (0, u "com/example/riverhop/riverhop/overlay/Wake"), (0, u "noted"), (0, u "Z"), (0, .fieldref 8 14), (0, .nameAndType 15 16), (0, u "at"), (0, u "J"), (2, u "(J)V"), (5, u "noLaterThan"), (0, u "(Lcom/example/riverhop/riverhop/overlay/Wake;)Z"), (0, u "clear")] 2

def k2c0 : Code := { maxStack := 1, maxLocals := 1, code := prog_137_method_1_code, exceptionTable := #[], attributes := #[] }
def k2m0 : Method := { name := "<init>", desc := "()V", sig := { parameters := [], returnType := none }, accessFlags := 0, code := some k2c0 }
def k2c1 : Code := { maxStack := 4, maxLocals := 3, code := prog_137_method_2_code, exceptionTable := #[], attributes := #[] }
def k2m1 : Method := { name := "at", desc := "(J)V", sig := { parameters := [.long], returnType := none }, accessFlags := 0, code := some k2c1 }
def k2c2 : Code := { maxStack := 4, maxLocals := 2, code := prog_137_method_5_code, exceptionTable := #[], attributes := #[] }
def k2m2 : Method := { name := "noLaterThan", desc := "(Lcom/example/riverhop/riverhop/overlay/Wake;)Z", sig := { parameters := [(.object "com/example/riverhop/riverhop/overlay/Wake")], returnType := some .boolean }, accessFlags := 0, code := some k2c2 }
def k2c3 : Code := { maxStack := 2, maxLocals := 1, code := prog_137_method_6_code, exceptionTable := #[], attributes := #[] }
def k2m3 : Method := { name := "clear", desc := "()V", sig := { parameters := [], returnType := none }, accessFlags := 0, code := some k2c3 }
/-- com/example/riverhop/riverhop/overlay/Wake -/
def k2 : Class := { plain "com/example/riverhop/riverhop/overlay/Wake" (some 0) with
  accessFlags := 48
  interfaces := #[]
  cf := some (fileOf pool2 8 #[] #[{ accessFlags := 0, nameIndex := 5, descriptorIndex := 6, attributes := #[] }, { accessFlags := 0, nameIndex := 15, descriptorIndex := 19, attributes := #[] }, { accessFlags := 0, nameIndex := 25, descriptorIndex := 26, attributes := #[] }, { accessFlags := 0, nameIndex := 27, descriptorIndex := 6, attributes := #[] }] 48 2 #[] #[{ accessFlags := 2, nameIndex := 11, descriptorIndex := 12, attributes := #[] }, { accessFlags := 2, nameIndex := 15, descriptorIndex := 16, attributes := #[] }])
  fields := #[{ name := "noted", type := .boolean, accessFlags := 2, slot := 0, constantValue := 0 }, { name := "at", type := .long, accessFlags := 2, slot := 1, constantValue := 0 }]
  methods := #[k2m0, k2m1, k2m2, k2m3]
  instanceTypes := #[.boolean, .long]
  staticTypes := #[]
  resolved := Array.replicate 30 none
  statics := none }

def pool3 : Array CpInfo := pool [(1, u "java/lang/Cloneable"), (0, .class_ 1), (0, u "java/lang/Object"), (0, .class_ 3)] 3

/-- java/lang/Cloneable -/
def k3 : Class := { plain "java/lang/Cloneable" (some 0) with
  accessFlags := 1537
  interfaces := #[]
  cf := some (fileOf pool3 2 #[] #[] 1537 4 #[] #[])
  fields := #[]
  methods := #[]
  instanceTypes := #[]
  staticTypes := #[]
  resolved := Array.replicate 8 none
  statics := none }

def pool4 : Array CpInfo := pool [(1, u "java/io/Serializable"), (0, .class_ 1), (0, u "java/lang/Object"), (0, .class_ 3)] 3

/-- java/io/Serializable -/
def k4 : Class := { plain "java/io/Serializable" (some 0) with
  accessFlags := 1537
  interfaces := #[]
  cf := some (fileOf pool4 2 #[] #[] 1537 4 #[] #[])
  fields := #[]
  methods := #[]
  instanceTypes := #[]
  staticTypes := #[]
  resolved := Array.replicate 8 none
  statics := none }

/-- the primitive byte -/
def k5 : Class := { plain "byte" none with kind := .primitive 'B', accessFlags := 0x411 }
/-- [B -/
def k6 : Class := { plain "[B" (some 0) with kind := .array 5 .byte, interfaces := #[3, 4], accessFlags := 1041 }

/-- the primitive int -/
def k7 : Class := { plain "int" none with kind := .primitive 'I', accessFlags := 0x411 }
/-- [I -/
def k8 : Class := { plain "[I" (some 0) with kind := .array 7 .int, interfaces := #[3, 4], accessFlags := 1041 }

def heap : Heap := #[]
def classes : Array Class := #[k0, k1, k2, k3, k4, k5, k6, k7, k8]
def interned : List (Array UInt16 × Addr) := []
def slotsUsed : Nat := 0
def theMethod : MethodId := ⟨1, 1⟩
def args0 : Array Value := #[.long 5, .long 6, .int 3]
def aboutOver (below : List Frame) : State where
  vm := { classes := classes, interned := interned.toArray }
  heap := heap
  slotsUsed := slotsUsed
  threads := #[{ frames := .invoking theMethod args0 :: below }]
def below0 : List Frame := [.native { method := ⟨0, 0⟩, args := #[] }]
def about1 : State := aboutOver below0
def p0 : Program := .bare "" "" ""
def e0 : Env := launch0.env 0 0 0
theorem w_frames : about1.frames = Frame.invoking theMethod args0 :: below0 := rfl
set_option maxRecDepth 65536 in
theorem w_args : argsFit about1.vm theMethod args0 = true := by decide +kernel
set_option maxRecDepth 65536 in
theorem w_heap : heapFits about1 = true := by decide +kernel
set_option maxRecDepth 65536 in
theorem w_runnable : about1.curStatus? = some .runnable := by decide +kernel
set_option maxRecDepth 65536 in
theorem w_alone : about1.alone = true := by decide +kernel
set_option maxRecDepth 65536 in
theorem w_named : about1.methodNamed? x = some theMethod := by decide +kernel
set_option maxRecDepth 65536 in
theorem w_hears : about1.hears theMethod below0 = true := by decide +kernel
set_option maxRecDepth 65536 in
theorem w_ripe : about1.ripe theMethod args0 below0 = true := by decide +kernel
theorem w_running : about1.status = .running := rfl
set_option maxRecDepth 65536 in
theorem w_room : about1.hasRoom e0.platform room_1 = true :=
  launch0.hasRoom_least _ room_1 (by decide +kernel) (by decide +kernel) (by decide +kernel) (by decide +kernel) (by decide +kernel) (by decide +kernel)
theorem allAtoms_all (ts : List Jvm.Cond) (a : Array Jvm.Value) (st : Jvm.State) : (allAtoms ts).before a st = ts.all (fun c => c.before a st) := by
  induction ts with
  | nil => rfl
  | cons c t ih =>
    show (Jvm.Cond.and c (allAtoms t)).before a st = _
    rw [Jvm.Cond.before_and, ih, List.all_cons]
def words1 : List Jvm.Cond := Jvm.Cond.code x code maxLocals ret :: tables_1
/-- a 'code' word, met by the world's own term for the bytes: nothing is compared byte by byte -/
theorem code_word {y : MethodName} {bytes : ByteArray} {mx : Nat} {rt : Option FieldType} {a : Array Value} {s : State} {m : MethodId} {meth : Method} {c : Code} (h1 : s.methodNamed? y = some m) (h2 : s.vm.method? m = some meth) (h3 : meth.code = some c) (h4 : c.code = bytes)
    (h5 : (c.maxLocals == mx && c.exceptionTable.isEmpty && decide (c.maxStack ≤ mostOperands) && decide (meth.sig.returnType = rt) && !meth.locks && decide (parseMethodDescriptor y.desc = some meth.sig)) = true) : (Jvm.Cond.code y bytes mx rt).before a s = true := by
  simp only [Bool.and_eq_true, beq_iff_eq, Bool.not_eq_true', decide_eq_true_eq] at h5
  obtain ⟨⟨⟨⟨⟨g1, g2⟩, g3⟩, g4⟩, g5⟩, g6⟩ := h5
  simp [Cond.before, Cond.holds, Cond.value, h1, h2, h3, h4, g1, g2, g3, g4, g5, g6]
def isCode : Jvm.Cond → Bool
  | .code _ _ _ _ => true
  | _ => false
theorem all_split {L : List Jvm.Cond} {P : Jvm.Cond → Bool} (h1 : L.all (fun c => isCode c || P c) = true) (h2 : ∀ c ∈ L.filter isCode, P c = true) : L.all P = true := by
  refine List.all_eq_true.mpr fun c hc => ?_
  have h := List.all_eq_true.mp h1 c hc
  rcases Bool.eq_false_or_eq_true (isCode c) with hi | hi
  · exact h2 c (List.mem_filter.mpr ⟨hc, hi⟩)
  · simpa [hi] using h
set_option maxRecDepth 65536 in
theorem w_c0 : (Jvm.Cond.code x code maxLocals ret).before args0 about1 = true := code_word (m := ⟨1, 1⟩) (meth := k1m1) (c := k1c1) (by decide +kernel) rfl rfl rfl (by decide +kernel)
set_option maxRecDepth 65536 in
theorem w_c1 : (Jvm.Cond.code ({ cls := "com/example/riverhop/riverhop/overlay/Wake", name := "<init>", desc := "()V" } : Jvm.MethodName) prog_137_method_1_code (1 : Nat) (Option.none : Option Jvm.ClassFile.FieldType)).before args0 about1 = true := code_word (m := ⟨2, 0⟩) (meth := k2m0) (c := k2c0) (by decide +kernel) rfl rfl rfl (by decide +kernel)
set_option maxRecDepth 65536 in
theorem w_c2 : (Jvm.Cond.code ({ cls := "java/lang/Object", name := "<init>", desc := "()V" } : Jvm.MethodName) object_method_1_code (1 : Nat) (Option.none : Option Jvm.ClassFile.FieldType)).before args0 about1 = true := code_word (m := ⟨0, 0⟩) (meth := k0m0) (c := k0c0) (by decide +kernel) rfl rfl rfl (by decide +kernel)
set_option maxRecDepth 65536 in
theorem w_c3 : (Jvm.Cond.code ({ cls := "com/example/riverhop/riverhop/overlay/Wake", name := "clear", desc := "()V" } : Jvm.MethodName) prog_137_method_6_code (1 : Nat) (Option.none : Option Jvm.ClassFile.FieldType)).before args0 about1 = true := code_word (m := ⟨2, 3⟩) (meth := k2m3) (c := k2c3) (by decide +kernel) rfl rfl rfl (by decide +kernel)
set_option maxRecDepth 65536 in
theorem w_c4 : (Jvm.Cond.code ({ cls := "com/example/riverhop/riverhop/overlay/Wake", name := "noLaterThan", desc := "(Lcom/example/riverhop/riverhop/overlay/Wake;)Z" } : Jvm.MethodName) prog_137_method_5_code (2 : Nat) (Option.some Jvm.ClassFile.FieldType.boolean)).before args0 about1 = true := code_word (m := ⟨2, 2⟩) (meth := k2m2) (c := k2c2) (by decide +kernel) rfl rfl rfl (by decide +kernel)
set_option maxRecDepth 65536 in
theorem w_c5 : (Jvm.Cond.code ({ cls := "com/example/riverhop/riverhop/overlay/Wake", name := "at", desc := "(J)V" } : Jvm.MethodName) prog_137_method_2_code (3 : Nat) (Option.none : Option Jvm.ClassFile.FieldType)).before args0 about1 = true := code_word (m := ⟨2, 1⟩) (meth := k2m1) (c := k2c1) (by decide +kernel) rfl rfl rfl (by decide +kernel)
def codes1 : List Jvm.Cond := [Jvm.Cond.code x code maxLocals ret, Jvm.Cond.code ({ cls := "com/example/riverhop/riverhop/overlay/Wake", name := "<init>", desc := "()V" } : Jvm.MethodName) prog_137_method_1_code (1 : Nat) (Option.none : Option Jvm.ClassFile.FieldType), Jvm.Cond.code ({ cls := "java/lang/Object", name := "<init>", desc := "()V" } : Jvm.MethodName) object_method_1_code (1 : Nat) (Option.none : Option Jvm.ClassFile.FieldType), Jvm.Cond.code ({ cls := "com/example/riverhop/riverhop/overlay/Wake", name := "clear", desc := "()V" } : Jvm.MethodName) prog_137_method_6_code (1 : Nat) (Option.none : Option Jvm.ClassFile.FieldType), Jvm.Cond.code ({ cls := "com/example/riverhop/riverhop/overlay/Wake", name := "noLaterThan", desc := "(Lcom/example/riverhop/riverhop/overlay/Wake;)Z" } : Jvm.MethodName) prog_137_method_5_code (2 : Nat) (Option.some Jvm.ClassFile.FieldType.boolean), Jvm.Cond.code ({ cls := "com/example/riverhop/riverhop/overlay/Wake", name := "at", desc := "(J)V" } : Jvm.MethodName) prog_137_method_2_code (3 : Nat) (Option.none : Option Jvm.ClassFile.FieldType)]
set_option maxRecDepth 65536 in
theorem codes_eq : words1.filter isCode = codes1 := rfl
theorem w_codes : ∀ c ∈ words1.filter isCode, c.before args0 about1 = true := by
  rw [codes_eq]
  intro c hc
  simp only [codes1, List.mem_cons, List.not_mem_nil, or_false] at hc
  rcases hc with rfl | rfl | rfl | rfl | rfl | rfl
  · exact w_c0
  · exact w_c1
  · exact w_c2
  · exact w_c3
  · exact w_c4
  · exact w_c5
set_option maxRecDepth 65536 in
theorem w_t1 : (words1.take 24).all (fun c => isCode c || c.before args0 about1) = true := by decide +kernel
set_option maxRecDepth 65536 in
theorem w_t2 : (words1.drop 24).all (fun c => isCode c || c.before args0 about1) = true := by decide +kernel
theorem w_tables : (allAtoms (Jvm.Cond.code x code maxLocals ret :: tables_1)).before args0 about1 = true := by
  rw [allAtoms_all]
  show words1.all (fun c => c.before args0 about1) = true
  refine all_split ?_ w_codes
  rw [← List.take_append_drop 24 words1, List.all_append, w_t1, w_t2]
  rfl
set_option maxRecDepth 65536 in
theorem w_case : (Jvm.Cond.and given_1 narrow_1).before args0 about1 = true := by decide +kernel
theorem w_applies : (headSpec (Jvm.Cond.code x code maxLocals ret :: tables_1) room_1).applies x e0.platform about1 = true :=
  (Spec.applies_iff w_frames).mpr ⟨w_running, w_runnable, w_alone, w_named, w_hears, w_ripe, w_room, w_tables⟩
theorem atStart : AtStart classFile x code maxLocals ret World_1 tables_1 room_1 Calls_1 rest_1 Pre_1 launch0 p0 e0 about1 theMethod args0 below0 :=
  ⟨lists_1, trivial, launch0.admits_env _ _ _, launch0.least_env, fairChoices_fair.cas, fairChoices_fair.clock, w_frames, w_args, w_heap, w_applies, trivial, trivial, w_case⟩
end start1
theorem witness_1 : WitnessClaimed_1 := ⟨start1.p0, start1.e0, start1.about1, start1.theMethod, start1.args0, start1.below0, start1.atStart⟩
end Jvm.Pilot.@@N@@
