import JvmDerived
import JvmDerived.Pilot.@@N@@Statement
import JvmDerived.Pilot.@@N@@Code
set_option linter.unusedVariables false
set_option linter.unusedSimpArgs false
namespace Jvm.RoadKit
open Sem ClassFile Op Lib Jvm.Stand Jvm.Free Jvm.LawKit
section New
variable {p : Program} {l : Launch} {e : Env} {R : Room} {s : State} {m : MethodId} {args : Array Value} {below : List Frame} {meth : Method} {c : Code} {T : State} {locs : List Loc} {cells slots : Nat}
theorem retI (X : Stand p l e R s m args below meth c T locs cells slots) (hx : p.tables.exec = Jvm.exec) {pc : Nat} {Ls : Array Slot} {z : Int32} {rest : List Value} (hret : meth.sig.returnType = some .int) (hd : decode c.code pc = .ok (.ireturn, 1)) {fs : List Frame}
    (hl : ∀ (f : JFrame) (acts : List Action), f.method = m → f.locked = none → f.entered = [] → (doReturn e (T.setTop f) acts (some (.int z))).1 = T.setFrames fs) : Steps p.tables e below (T.setTop (mkF m pc Ls (.int z :: rest))) (T.setFrames fs) := by
  have hm' : T.vm.method? m = some meth := X.method'
  have hn : narrow .int (.int z) = .int z := rfl
  show Steps p.tables e below (T.setTop { method := m, pc := pc, locals := Ls, stack := _ :: rest, locked := none }) _
  jvm_step X.here [X.here.top, hx, hd, hm', hret, hn]
  first | (intro acts; rw [hl _ acts rfl rfl rfl]) | rw [hl _ _ rfl rfl rfl]
  exact Steps.refl _
theorem own_retJ (X : Stand p l e R s m args below meth c T locs cells slots) (hx : p.tables.exec = Jvm.exec) {pc : Nat} {Ls : Array Slot} {z : Int64} {rest : List Value} (hret : meth.sig.returnType = some .long) (hd : decode c.code pc = .ok (.lreturn, 1)) {fs : List Frame}
    (hl : ∀ (f : JFrame) (acts : List Action), f.method = m → f.locked = none → f.entered = [] → (doReturn e (T.setTop f) acts (some (.long z))).1 = T.setFrames fs) : Steps p.tables e below (T.setTop (mkF m pc Ls (.long z :: rest))) (T.setFrames fs) := by
  have hm' : T.vm.method? m = some meth := X.method'
  have hn : narrow .long (.long z) = .long z := rfl
  show Steps p.tables e below (T.setTop { method := m, pc := pc, locals := Ls, stack := _ :: rest, locked := none }) _
  jvm_step X.here [X.here.top, hx, hd, hm', hret, hn]
  first | (intro acts; rw [hl _ acts rfl rfl rfl]) | rw [hl _ _ rfl rfl rfl]
  exact Steps.refl _
end New
end Jvm.RoadKit
namespace Jvm.Pilot.@@N@@
open Jvm Jvm.ClassFile Sem Op Lib Jvm.Free Jvm.Stand Jvm.LawKit Jvm.RoadKit Bundle Jvm.Pilot.@@N@@.Jvm.D
def own_Fin (tb : Tables) (e : Env) (below : List Frame) (P : Outcome → State → Prop) (S : State) : Prop := ∃ s₂ o, Steps tb e below S s₂ ∧ s₂.status = .running ∧ Ended s₂ below o ∧ P o s₂
theorem own_step {tb : Tables} {e : Env} {below : List Frame} {P : Outcome → State → Prop} {A B : State} (h : ∀ t, Steps tb e below B t → Steps tb e below A t) (k : own_Fin tb e below P B) : own_Fin tb e below P A := by
  obtain ⟨s₂, o, h1, h2⟩ := k; exact ⟨s₂, o, h _ h1, h2⟩
theorem own_steps {tb : Tables} {e : Env} {below : List Frame} {P : Outcome → State → Prop} {A B : State} (h : Steps tb e below A B) (k : own_Fin tb e below P B) : own_Fin tb e below P A := by
  obtain ⟨s₂, o, h1, h2⟩ := k; exact ⟨s₂, o, h.trans h1, h2⟩
theorem own_ret {tb : Tables} {e : Env} {below : List Frame} {P : Outcome → State → Prop} {S s₂ : State} {o : Outcome} (h : Steps tb e below S s₂) (h1 : s₂.status = .running) (h2 : Ended s₂ below o) (h3 : P o s₂) : own_Fin tb e below P S := ⟨s₂, o, h, h1, h2, h3⟩
theorem own_enter {tb : Tables} {e : Env} {below : List Frame} {P : Outcome → State → Prop} {T : State} {g g' : JFrame} (q : g = g') (k : own_Fin tb e below P (T.setTop g')) : ∃ s₂ o, Steps tb e below (T.setTop g) s₂ ∧ s₂.status = .running ∧ Ended s₂ below o ∧ P o s₂ := q ▸ k
def own_Two (a b : Slot) : Prop := (a = .unset ∧ b = .unset) ∨ ∃ v : Int64, a = .val (.long v) ∧ b = .second
theorem own_Two.u : own_Two .unset .unset := Or.inl ⟨rfl, rfl⟩
theorem own_Two.l {v : Int64} : own_Two (.val (.long v)) .second := Or.inr ⟨v, rfl, rfl⟩
def own_Arf (Z : State) (h : Heap) (a : Addr) (ty : FieldType) (n : Nat) (f : Nat → Value) : Prop := ∃ cl : Cell, Arr Z h a cl ty ∧ cl.slots.size = n ∧ ∀ i, i < n → cl.slots[i]? = some (f i)
def own_upd {α : Type} (g : Nat → α) (j : Nat) (v : α) : Nat → α := fun i => if i = j then v else g i
section OwnArr
variable {Z : State} {h h' : Heap} {a b : Addr} {ty : FieldType} {n : Nat} {f : Nat → Value} {v : Value} {sl : Nat} {ws : List Addr}
theorem own_Arf.lt (F : own_Arf Z h a ty n f) : a < h.size := by obtain ⟨c, A, -⟩ := F; exact A.lt
theorem own_Arf.ext (F : own_Arf Z h a ty n f) (E : Ext h h') : own_Arf Z h' a ty n f := by obtain ⟨c, A, r⟩ := F; exact ⟨c, A.ext E, r⟩
theorem own_Arf.other (F : own_Arf Z h b ty n f) (W : Wr h h' a sl v) (q : b ≠ a) : own_Arf Z h' b ty n f := by obtain ⟨c, A, r⟩ := F; exact ⟨c, A.other W q, r⟩
theorem own_Arf.keep (F : own_Arf Z h a ty n f) (K : Keep h h' ws) (q : a ∉ ws) : own_Arf Z h' a ty n f := by obtain ⟨c, A, r⟩ := F; exact ⟨c, ⟨K.2.1 a c A.1 q, A.2⟩, r⟩
theorem own_Arf.set (F : own_Arf Z h a ty n f) (W : Wr h h' a sl v) : own_Arf Z h' a ty n (fun i => if i = sl then v else f i) := by
  obtain ⟨c, A, S, H⟩ := F
  obtain ⟨c', e1, -, -, e4, -, e6, e7⟩ := wr_at W A.1
  have e8 := (e7 rfl).2.1
  refine ⟨c', ⟨e1, ?_, ?_⟩, by rw [e4, S], fun i hi => ?_⟩
  · rw [(e7 rfl).1]; exact (A.same W).2.1
  · rw [(e7 rfl).1]; exact (A.same W).2.2
  · show c'.slots[i]? = some (if i = sl then v else f i)
    by_cases q : i = sl
    · rw [if_pos q, q]; exact e8
    · rw [if_neg q, e6 _ q]; exact H i hi
theorem own_Arf.setI {g : Nat → Int32} {x : Int32} (F : own_Arf Z h a ty n (fun i => .int (g i))) (W : Wr h h' a sl (.int x)) : own_Arf Z h' a ty n (fun i => .int (own_upd g sl x i)) := by
  have q := F.set W
  have e : (fun i => Value.int (own_upd g sl x i)) = (fun i => if i = sl then Value.int x else Value.int (g i)) := by funext i; unfold own_upd; split <;> rfl
  rw [e]; exact q
theorem own_Arf.setJ {g : Nat → Int64} {x : Int64} (F : own_Arf Z h a ty n (fun i => .long (g i))) (W : Wr h h' a sl (.long x)) : own_Arf Z h' a ty n (fun i => .long (own_upd g sl x i)) := by
  have q := F.set W
  have e : (fun i => Value.long (own_upd g sl x i)) = (fun i => if i = sl then Value.long x else Value.long (g i)) := by funext i; unfold own_upd; split <;> rfl
  rw [e]; exact q
theorem own_Arf.ofI {k : ClassId} {z : Int32} {vs : List Value} (V : Arv Z h a k ty z vs (.int 0)) (l : List Int32) (hl : vs = l.map Value.int) (hz : z.toNatClampNeg = n) : own_Arf Z h a ty n (fun i => .int (l.getD i 0)) := by
  obtain ⟨c, A, -, S, -, H, -⟩ := V
  refine ⟨c, A, S.trans hz, fun i hi => ?_⟩
  rw [H i (by rw [S, hz]; exact hi), hl]
  simp only [List.getD, List.getElem?_map]
  cases l[i]? <;> rfl
theorem own_Arf.ofJ {k : ClassId} {z : Int32} {vs : List Value} (V : Arv Z h a k ty z vs (.long 0)) (l : List Int64) (hl : vs = l.map Value.long) (hz : z.toNatClampNeg = n) : own_Arf Z h a ty n (fun i => .long (l.getD i 0)) := by
  obtain ⟨c, A, -, S, -, H, -⟩ := V
  refine ⟨c, A, S.trans hz, fun i hi => ?_⟩
  rw [H i (by rw [S, hz]; exact hi), hl]
  simp only [List.getD, List.getElem?_map]
  cases l[i]? <;> rfl
theorem own_in {c : Cell} {j : Int32} (S : c.slots.size = n) (q : 0 ≤ j.toInt ∧ j.toInt < n) : ¬ (j < 0 ∨ c.slots.size ≤ j.toNatClampNeg) := by
  rw [S]; simp only [Int32.lt_iff_toInt_lt, Int32.toNatClampNeg, Int32.reduceToInt]; omega
theorem own_in2 {j : Int32} (q : 0 ≤ j.toInt ∧ j.toInt < n) : j.toNatClampNeg < n := by simp only [Int32.toNatClampNeg]; omega
end OwnArr
theorem own_dload {tb : Tables} [Ours tb] {e : Env} {below : List Frame} {T target : State} {m : MethodId} {c : Code} {g : JFrame} (h : At T m c below) (hx : tb.exec = Jvm.exec) (hg : g.method = m) {k : Nat} {v : UInt64} (hd : decode c.code g.pc = .ok (.dload k, 2)) (hl : g.locals[k]? = some (.val (.double v)))
    (hr : Steps tb e below (T.setTop { g with pc := g.pc + 2, stack := .double v :: g.stack }) target) : Steps tb e below (T.setTop g) target := by
  subst hg
  jvm_step h [h.top, hx, hd, hl]
  exact hr
theorem own_dconst {tb : Tables} [Ours tb] {e : Env} {below : List Frame} {T target : State} {m : MethodId} {c : Code} {g : JFrame} (h : At T m c below) (hx : tb.exec = Jvm.exec) (hg : g.method = m) (hd : decode c.code g.pc = .ok (.dconst 0, 1))
    (hr : Steps tb e below (T.setTop { g with pc := g.pc + 1, stack := .double 0 :: g.stack }) target) : Steps tb e below (T.setTop g) target := by
  subst hg
  jvm_step h [h.top, hx, hd]
  exact hr
def own_cnt (c i n : Int32) : Int32 := if i < n then (((c.toUInt32 >>> (((3 : Int32) * i) &&& 31).toUInt32).toInt32) &&& (7 : Int32)) else 0
theorem own_cnt_rng (c i n : Int32) : 0 ≤ (own_cnt c i n).toInt ∧ (own_cnt c i n).toInt ≤ 7 := by
  unfold own_cnt; split
  · exact c_and _ 7 (by decide)
  · decide
theorem own_cnt_z {c i n : Int32} (h : ¬ i < n) : own_cnt c i n = 0 := if_neg h
theorem own_sub1 {n : Int32} (h : 0 < n.toInt) : (n - 1).toInt = n.toInt - 1 := by
  have := c_isub n 1; have := rng32 n; have := rng32 (n - 1); have : (1 : Int32).toInt = 1 := by decide
  omega
theorem own_add1 {n : Int32} (h : n.toInt < 1000) : (n + 1).toInt = n.toInt + 1 := by
  have := c_iadd n 1; have := rng32 n; have := rng32 (n + 1); have : (1 : Int32).toInt = 1 := by decide
  omega
theorem own_mid {a b : Int32} (ha : 0 ≤ a.toInt) (hb : 0 ≤ b.toInt) (ha' : a.toInt < 1000) (hb' : b.toInt < 1000) : ((((a + b) + (1 : Int32)).toUInt32 >>> ((1 : Int32) &&& 31).toUInt32).toInt32).toInt = (a.toInt + b.toInt + 1) / 2 := by
  rw [c_iushr _ _ 1 (by decide) (by decide)]
  have h1 := c_iadd a b; have h2 := c_iadd (a + b) 1; have h3 := rng32 (a + b); have h4 := rng32 (a + b + 1); have h5 : (1 : Int32).toInt = 1 := by decide
  have : (a + b + 1).toInt = a.toInt + b.toInt + 1 := by omega
  rw [this]; omega
theorem own_c0 : (0 : Int32).toNatClampNeg = 0 := by decide
theorem own_clamp {n : Int32} (h : 0 ≤ n.toInt) : (n.toNatClampNeg : Int) = n.toInt := by simp only [Int32.toNatClampNeg]; omega
theorem own_lt {a b : Int32} : a < b ↔ a.toInt < b.toInt := Int32.lt_iff_toInt_lt
theorem own_bits (x : Int32) : 0 ≤ (x &&& (2147483647 : Int32)).toInt := (c_and x 2147483647 (by decide)).1
theorem own_rem {x y : Int32} (hx : 0 ≤ x.toInt) (hy : 0 < y.toInt) : 0 ≤ (x - (x / y) * y).toInt ∧ (x - (x / y) * y).toInt < y.toInt := by
  have hr : x - (x / y) * y = x % y := by
    apply Int32.toInt_inj.mp
    have h1 := c_isub x (x / y * y); have h2 := c_imul (x / y) y; have h3 := rng32 (x - x / y * y)
    have h4 : y ≠ -1 := fun q => by rw [q] at hy; revert hy; decide
    have h5 := (c_idiv x y y.toInt rfl h4).1 hx; have h6 := (c_irem x y y.toInt rfl).1 hx
    have h7 := Int.emod_add_mul_ediv x.toInt y.toInt; have h8 := Int.emod_nonneg x.toInt (show y.toInt ≠ 0 by omega); have h9 := Int.emod_lt_of_pos x.toInt hy; have h10 := rng32 y
    rw [h5] at h2
    have h11 : y.toInt * (x.toInt / y.toInt) = x.toInt / y.toInt * y.toInt := Int.mul_comm _ _
    rw [h6]; omega
  rw [hr]
  have := (c_iremV x y).1 hx hy
  exact ⟨this.1, this.2.1⟩
theorem own_law {k0 k1 k2 nn s0 s1 s2 s3 s4 s5 s6 s7 s8 en : Int32} {gS : Nat → Int32} (hnn : nn = ((1 : Int32) + (k0 &&& (7 : Int32)))) (hs0 : s0 = (0 : Int32)) (hs1 : s1 = (s0 + (own_cnt k1 (0 : Int32) nn))) (hs2 : s2 = (s1 + (own_cnt k1 (1 : Int32) nn))) (hs3 : s3 = (s2 + (own_cnt k1 (2 : Int32) nn))) (hs4 : s4 = (s3 + (own_cnt k1 (3 : Int32) nn))) (hs5 : s5 = (s4 + (own_cnt k1 (4 : Int32) nn))) (hs6 : s6 = (s5 + (own_cnt k1 (5 : Int32) nn))) (hs7 : s7 = (s6 + (own_cnt k1 (6 : Int32) nn))) (hs8 : s8 = (s7 + (own_cnt k1 (7 : Int32) nn)))
    (h8 : ¬ s8 = (0 : Int32)) (hen : en = ((k2 &&& (2147483647 : Int32)) - ((k2 &&& (2147483647 : Int32)) / s8) * s8)) (hgS : gS = fun i => [s0, s1, s2, s3, s4, s5, s6, s7, s8].getD i 0) : 0 < nn.toInt ∧ nn.toInt ≤ 8 ∧ ¬ en < gS 0 ∧ en < gS nn.toNatClampNeg := by
  have r0 := own_cnt_rng k1 0 nn; have r1 := own_cnt_rng k1 1 nn; have r2 := own_cnt_rng k1 2 nn; have r3 := own_cnt_rng k1 3 nn; have r4 := own_cnt_rng k1 4 nn; have r5 := own_cnt_rng k1 5 nn; have r6 := own_cnt_rng k1 6 nn; have r7 := own_cnt_rng k1 7 nn
  have z0 : s0.toInt = 0 := by rw [hs0]; decide
  have add : ∀ a b c : Int32, c = a + b → 0 ≤ a.toInt → a.toInt ≤ 100 → 0 ≤ b.toInt → b.toInt ≤ 7 → c.toInt = a.toInt + b.toInt := fun a b c e h1 h2 h3 h4 => by
    have := c_iadd a b; have := rng32 (a + b); rw [e]; omega
  have a1 := add _ _ _ hs1 (by omega) (by omega) r0.1 r0.2
  have a2 := add _ _ _ hs2 (by omega) (by omega) r1.1 r1.2
  have a3 := add _ _ _ hs3 (by omega) (by omega) r2.1 r2.2
  have a4 := add _ _ _ hs4 (by omega) (by omega) r3.1 r3.2
  have a5 := add _ _ _ hs5 (by omega) (by omega) r4.1 r4.2
  have a6 := add _ _ _ hs6 (by omega) (by omega) r5.1 r5.2
  have a7 := add _ _ _ hs7 (by omega) (by omega) r6.1 r6.2
  have a8 := add _ _ _ hs8 (by omega) (by omega) r7.1 r7.2
  have p8 : 0 < s8.toInt := by
    have : s8.toInt ≠ 0 := fun q => h8 (Int32.toInt_inj.mp (q.trans (by decide)))
    omega
  have hn := c_and k0 7 (by decide)
  have hn' : nn.toInt = 1 + (k0 &&& 7).toInt := by
    have := c_iadd 1 (k0 &&& 7); have := rng32 (1 + (k0 &&& 7)); have : (1 : Int32).toInt = 1 := by decide
    have : (7 : Int32).toInt = 7 := by decide
    rw [hnn]; omega
  have h7 : (7 : Int32).toInt = 7 := by decide
  have he := own_rem (own_bits k2) p8
  rw [← hen] at he
  refine ⟨by omega, by omega, ?_, ?_⟩
  · rw [hgS]; intro q; have q2 := own_lt.mp q; simp only [List.getD, List.getElem?_cons_zero, Option.getD_some] at q2; omega
  · have cz : ∀ i : Int32, nn.toInt ≤ i.toInt → (own_cnt k1 i nn).toInt = 0 := fun i hi => by rw [own_cnt_z (fun q => by have := own_lt.mp q; omega)]; decide
    have i1 : (1 : Int32).toInt = 1 := by decide
    have i2 : (2 : Int32).toInt = 2 := by decide
    have i3 : (3 : Int32).toInt = 3 := by decide
    have i4 : (4 : Int32).toInt = 4 := by decide
    have i5 : (5 : Int32).toInt = 5 := by decide
    have i6 : (6 : Int32).toInt = 6 := by decide
    have hc : nn.toNatClampNeg = 1 ∨ nn.toNatClampNeg = 2 ∨ nn.toNatClampNeg = 3 ∨ nn.toNatClampNeg = 4 ∨ nn.toNatClampNeg = 5 ∨ nn.toNatClampNeg = 6 ∨ nn.toNatClampNeg = 7 ∨ nn.toNatClampNeg = 8 := by
      have := own_clamp (n := nn) (by omega); omega
    have hcl := own_clamp (n := nn) (by omega)
    rw [own_lt, hgS]
    have c1 := cz 1; have c2 := cz 2; have c3 := cz 3; have c4 := cz 4; have c5 := cz 5; have c6 := cz 6; have c7 := cz 7
    rcases hc with q | q | q | q | q | q | q | q <;> (rw [q] at hcl ⊢; simp only [List.getD, List.getElem?_cons_succ, List.getElem?_cons_zero, Option.getD_some]; omega)
theorem pn_0 : plainName "com/example/fusewright/fusewright/runtime/SparseMatrixRowOfPinLaw" = true := by first | (simp [plainName, overriddenIn]; done) | decide +kernel
theorem ef_1 (m : MethodId) (x0 : Int32) (x1 : Int32) (x2 : Int32) : entryFrame m #[(.int x0), (.int x1), (.int x2)] 3 = mkF m 0 #[.val (.int x0), .val (.int x1), .val (.int x2)] [] := by first | (simp [entryFrame, mkF, argsToLocals, Value.category]; done) | rfl
def Q1 (Z : State) (p0 : Int32) (p1 : Int32) (p2 : Int32) (h0 : Heap) (n0 : Nat) (v : Option Value) (h : Heap) (L : List Loc) : Prop := v = some (.int (own_cnt p0 p1 p2)) ∧ Fr n0 L ∧ h = h0
abbrev P1 (Z : State) (p0 : Int32) (p1 : Int32) (p2 : Int32) (h0 : Heap) (n0 : Nat) (s : State) : Outcome → State → Prop := fun o U' => ∃ v L, o = .returned v ∧ Q1 Z p0 p1 p2 h0 n0 v U'.heap L ∧ FrameEnd s o U' L ({ frames := 0, cells := 0, slots := 0, locals := 0 } : Room).cells ({ frames := 0, cells := 0, slots := 0, locals := 0 } : Room).slots
theorem d1_0 : decode method_2_code 0 = .ok (.iload_n 1, 1) := by decide +kernel
theorem d1_1 : decode method_2_code 1 = .ok (.iload_n 2, 1) := by decide +kernel
theorem d1_2 : decode method_2_code 2 = .ok (.if_icmp .ge 14, 3) := by decide +kernel
theorem d1_5 : decode method_2_code 5 = .ok (.iload_n 0, 1) := by decide +kernel
theorem d1_6 : decode method_2_code 6 = .ok (.iconst 3, 1) := by decide +kernel
theorem d1_7 : decode method_2_code 7 = .ok (.iload_n 1, 1) := by decide +kernel
theorem d1_8 : decode method_2_code 8 = .ok (.imul, 1) := by decide +kernel
theorem d1_9 : decode method_2_code 9 = .ok (.iushr, 1) := by decide +kernel
theorem d1_10 : decode method_2_code 10 = .ok (.bipush 7, 2) := by decide +kernel
theorem d1_12 : decode method_2_code 12 = .ok (.iand, 1) := by decide +kernel
theorem d1_13 : decode method_2_code 13 = .ok (.goto 4, 3) := by decide +kernel
theorem d1_16 : decode method_2_code 16 = .ok (.iconst 0, 1) := by decide +kernel
theorem d1_17 : decode method_2_code 17 = .ok (.ireturn, 1) := by decide +kernel
set_option maxRecDepth 65536 in
set_option maxHeartbeats 40000000 in
theorem rm1 (l : Launch) (Z : State) (a0 : Array Value) (hw : ∀ d ∈ tables_1, d.before a0 Z = true) (ws : List Jvm.Cond) (p0 : Int32) (p1 : Int32) (p2 : Int32) (h0 : Heap) (n0 : Nat) (Z0 : n0 ≤ h0.size) :
    MetFree l (⟨"com/example/fusewright/fusewright/runtime/SparseMatrixRowOfPinLaw", "cnt", "(III)I"⟩ : MethodName) (head1 (Jvm.Cond.code (⟨"com/example/fusewright/fusewright/runtime/SparseMatrixRowOfPinLaw", "cnt", "(III)I"⟩ : MethodName) method_2_code 3 (some .int) :: ws) ({ frames := 0, cells := 0, slots := 0, locals := 0 } : Room)) (fun a U => a = #[(.int p0), (.int p1), (.int p2)] ∧ Z.Warmed39 U.vm ∧ U.heap = h0) (fun _ _ _ _ _ => True) (fun _ U o U' => ∃ v L, o = .returned v ∧ Q1 Z p0 p1 p2 h0 n0 v U'.heap L ∧ FrameEnd U o U' L ({ frames := 0, cells := 0, slots := 0, locals := 0 } : Room).cells ({ frames := 0, cells := 0, slots := 0, locals := 0 } : Room).slots) := by
  refine MetFree.of_bodySF (plainFor_of_name pn_0) hisR ?_
  intro p e s m args below meth c s₁ Bd hml0 hP hK
  obtain ⟨rfl, hZ, hh⟩ := hP
  have hx := Bd.exec
  have hby := Bd.bytes
  have hml : c.maxLocals = 3 := hml0
  have hown : s.vm.findClass "com/example/fusewright/fusewright/runtime/SparseMatrixRowOfPinLaw" = some m.cls := findClass_of_methodNamed Bd.named
  have hnm := (name_of_methodNamed Bd.named Bd.method).1
  have X0 : Stand p l e ({ frames := 0, cells := 0, slots := 0, locals := 0 } : Room) s m #[(.int p0), (.int p1), (.int p2)] below meth c s₁ [] 0 0 := Stand.of_body Bd
  have e0 : s₁.heap = h0 := by rw [← hh, Bd.state]; rfl
  have N0 := Fr.nil n0
  refine own_enter (P := (P1 Z p0 p1 p2 h0 n0 s)) (ef_1 m p0 p1 p2) ?_
  show own_Fin p.tables e below _ (s₁.setTop (mkF m 0 #[.val (.int p0), .val (.int p1), .val (.int p2)] []))
  refine own_step (fun _ k => XS.iloadN X0.here hx rfl (hb hby d1_0) rfl k) ?_
  show own_Fin p.tables e below _ (s₁.setTop (mkF m 1 #[.val (.int p0), .val (.int p1), .val (.int p2)] [(.int p1)]))
  refine own_step (fun _ k => XS.iloadN X0.here hx rfl (hb hby d1_1) rfl k) ?_
  show own_Fin p.tables e below _ (s₁.setTop (mkF m 2 #[.val (.int p0), .val (.int p1), .val (.int p2)] [(.int p2), (.int p1)]))
  have J2 : ∀ (T3 : State) (locs3 : List Loc) (y4 : Int32) (X3 : Stand p l e ({ frames := 0, cells := 0, slots := 0, locals := 0 } : Room) s m #[(.int p0), (.int p1), (.int p2)] below meth c T3 locs3 0 0) (e3 : T3.heap = h0) (N3 : Fr n0 locs3) (gy4 : y4 = (if p1 < p2 then (((p0.toUInt32 >>> (((3 : Int32) * p1) &&& 31).toUInt32).toInt32) &&& (7 : Int32)) else (0 : Int32))), own_Fin p.tables e below (P1 Z p0 p1 p2 h0 n0 s) (T3.setTop (mkF m 17 #[.val (.int p0), .val (.int p1), .val (.int p2)] [(.int y4)])) := by
    intro T3 locs3 y4 X3 e3 N3 gy4
    obtain ⟨fs5, hr5, hrun5, hended5, hW5, hsame5⟩ := X3.leave (v := some (.int y4)) (fun h => by rw [Bd.returns] at h; cases h)
    refine own_ret (retI X3 hx Bd.returns (hb hby d1_17) hr5) hrun5 hended5 ?_
    refine ⟨_, _, rfl, ?_, ⟨_, rfl⟩, hW5, hsame5.mono (by decide) (by decide)⟩
    show Q1 Z p0 p1 p2 h0 n0 _ T3.heap _
    rw [e3]
    refine ⟨congrArg (fun z => some (Value.int z)) ?_, N3, rfl⟩
    rw [gy4]; rfl
  by_cases hc1 : p1 < p2
  · refine own_step (fun _ k => XS.icmpNo X0.here hx rfl (hb hby d1_2) rfl ((tlt hc1).2.1) k) ?_
    show own_Fin p.tables e below _ (s₁.setTop (mkF m 5 #[.val (.int p0), .val (.int p1), .val (.int p2)] []))
    refine own_step (fun _ k => XS.iloadN X0.here hx rfl (hb hby d1_5) rfl k) ?_
    show own_Fin p.tables e below _ (s₁.setTop (mkF m 6 #[.val (.int p0), .val (.int p1), .val (.int p2)] [(.int p0)]))
    refine own_step (fun _ k => XS.iconst X0.here hx rfl (hb hby d1_6) k) ?_
    show own_Fin p.tables e below _ (s₁.setTop (mkF m 7 #[.val (.int p0), .val (.int p1), .val (.int p2)] [(.int (3 : Int32)), (.int p0)]))
    refine own_step (fun _ k => XS.iloadN X0.here hx rfl (hb hby d1_7) rfl k) ?_
    show own_Fin p.tables e below _ (s₁.setTop (mkF m 8 #[.val (.int p0), .val (.int p1), .val (.int p2)] [(.int p1), (.int (3 : Int32)), (.int p0)]))
    refine own_step (fun _ k => XS.imul X0.here hx rfl (hb hby d1_8) rfl k) ?_
    show own_Fin p.tables e below _ (s₁.setTop (mkF m 9 #[.val (.int p0), .val (.int p1), .val (.int p2)] [(.int ((3 : Int32) * p1)), (.int p0)]))
    refine own_step (fun _ k => XS.iushr X0.here hx rfl (hb hby d1_9) rfl k) ?_
    show own_Fin p.tables e below _ (s₁.setTop (mkF m 10 #[.val (.int p0), .val (.int p1), .val (.int p2)] [(.int ((p0.toUInt32 >>> (((3 : Int32) * p1) &&& 31).toUInt32).toInt32))]))
    refine own_step (fun _ k => XS.bipush X0.here hx rfl (hb hby d1_10) k) ?_
    show own_Fin p.tables e below _ (s₁.setTop (mkF m 12 #[.val (.int p0), .val (.int p1), .val (.int p2)] [(.int (7 : Int32)), (.int ((p0.toUInt32 >>> (((3 : Int32) * p1) &&& 31).toUInt32).toInt32))]))
    refine own_step (fun _ k => XS.iand X0.here hx rfl (hb hby d1_12) rfl k) ?_
    show own_Fin p.tables e below _ (s₁.setTop (mkF m 13 #[.val (.int p0), .val (.int p1), .val (.int p2)] [(.int (((p0.toUInt32 >>> (((3 : Int32) * p1) &&& 31).toUInt32).toInt32) &&& (7 : Int32)))]))
    refine own_step (fun _ k => XS.goto X0.here hx rfl (pc0 := 13) (pc' := 17) rfl (hb hby d1_13) (by decide) (by decide) k) ?_
    show own_Fin p.tables e below _ (s₁.setTop (mkF m 17 #[.val (.int p0), .val (.int p1), .val (.int p2)] [(.int (((p0.toUInt32 >>> (((3 : Int32) * p1) &&& 31).toUInt32).toInt32) &&& (7 : Int32)))]))
    exact J2 s₁ _ (((p0.toUInt32 >>> (((3 : Int32) * p1) &&& 31).toUInt32).toInt32) &&& (7 : Int32)) X0 e0 N0 (by rw [if_pos hc1])
  · refine own_step (fun _ k => XS.icmpYes X0.here hx rfl (pc0 := 2) (pc' := 16) rfl (hb hby d1_2) rfl ((flt hc1).2.1) (by decide) (by decide) k) ?_
    show own_Fin p.tables e below _ (s₁.setTop (mkF m 16 #[.val (.int p0), .val (.int p1), .val (.int p2)] []))
    refine own_step (fun _ k => XS.iconst X0.here hx rfl (hb hby d1_16) k) ?_
    show own_Fin p.tables e below _ (s₁.setTop (mkF m 17 #[.val (.int p0), .val (.int p1), .val (.int p2)] [(.int (0 : Int32))]))
    exact J2 s₁ _ (0 : Int32) X0 e0 N0 (by rw [if_neg hc1])
theorem pn_1 : plainName "com/example/fusewright/fusewright/runtime/SparseMatrix" = true := by first | (simp [plainName, overriddenIn]; done) | decide +kernel
theorem ef_2 (m : MethodId) (x0 : Addr) (x1 : Int32) (x2 : Int32) (x3 : Addr) (x4 : Addr) (x5 : Addr) (x6 : UInt64) : entryFrame m #[(.ref x0), (.int x1), (.int x2), (.ref x3), (.ref x4), (.ref x5), (.double x6)] 8 = mkF m 0 #[.val (.ref x0), .val (.int x1), .val (.int x2), .val (.ref x3), .val (.ref x4), .val (.ref x5), .val (.double x6), .second] [] := by first | (simp [entryFrame, mkF, argsToLocals, Value.category]; done) | rfl
def Q2 (Z : State) (ob : Addr) (p1 : Int32) (p2 : Int32) (t3 : Addr) (t4 : Addr) (t5 : Addr) (z6 : UInt64) (u1 u2 u3 u4 u5 u6 : Value) (h0 : Heap) (n0 : Nat) (v : Option Value) (h : Heap) (L : List Loc) : Prop := v = none ∧ Fr n0 L ∧ Keep h0 h [ob] ∧ Exa Z h ob "com/example/fusewright/fusewright/runtime/SparseMatrix" ∧ Fld Z h ob "com/example/fusewright/fusewright/runtime/SparseMatrix" "rows" "I" (.int p1) ∧ Fld Z h ob "com/example/fusewright/fusewright/runtime/SparseMatrix" "columns" "I" (.int p2) ∧ Fld Z h ob "com/example/fusewright/fusewright/runtime/SparseMatrix" "rowStarts" "[I" (.ref t3) ∧ Fld Z h ob "com/example/fusewright/fusewright/runtime/SparseMatrix" "columnIndices" "[I" (.ref t4) ∧ Fld Z h ob "com/example/fusewright/fusewright/runtime/SparseMatrix" "values" "[D" (.ref t5) ∧ Fld Z h ob "com/example/fusewright/fusewright/runtime/SparseMatrix" "zero" "D" (.double z6)
abbrev P2 (Z : State) (ob : Addr) (p1 : Int32) (p2 : Int32) (t3 : Addr) (t4 : Addr) (t5 : Addr) (z6 : UInt64) (u1 u2 u3 u4 u5 u6 : Value) (h0 : Heap) (n0 : Nat) (s : State) : Outcome → State → Prop := fun o U' => ∃ v L, o = .returned v ∧ Q2 Z ob p1 p2 t3 t4 t5 z6 u1 u2 u3 u4 u5 u6 h0 n0 v U'.heap L ∧ FrameEnd s o U' L ({ frames := 1, cells := 0, slots := 0, locals := 12 } : Room).cells ({ frames := 1, cells := 0, slots := 0, locals := 12 } : Room).slots
theorem d2_0 : decode prog_115_method_1_code 0 = .ok (.aload_n 0, 1) := by decide +kernel
theorem d2_1 : decode prog_115_method_1_code 1 = .ok (.invokespecial 3, 3) := by decide +kernel
theorem d2_4 : decode prog_115_method_1_code 4 = .ok (.aload_n 0, 1) := by decide +kernel
theorem d2_5 : decode prog_115_method_1_code 5 = .ok (.iload_n 1, 1) := by decide +kernel
theorem d2_6 : decode prog_115_method_1_code 6 = .ok (.putfield 9, 3) := by decide +kernel
theorem d2_9 : decode prog_115_method_1_code 9 = .ok (.aload_n 0, 1) := by decide +kernel
theorem d2_10 : decode prog_115_method_1_code 10 = .ok (.iload_n 2, 1) := by decide +kernel
theorem d2_11 : decode prog_115_method_1_code 11 = .ok (.putfield 15, 3) := by decide +kernel
theorem d2_14 : decode prog_115_method_1_code 14 = .ok (.aload_n 0, 1) := by decide +kernel
theorem d2_15 : decode prog_115_method_1_code 15 = .ok (.aload_n 3, 1) := by decide +kernel
theorem d2_16 : decode prog_115_method_1_code 16 = .ok (.putfield 18, 3) := by decide +kernel
theorem d2_19 : decode prog_115_method_1_code 19 = .ok (.aload_n 0, 1) := by decide +kernel
theorem d2_20 : decode prog_115_method_1_code 20 = .ok (.aload 4, 2) := by decide +kernel
theorem d2_22 : decode prog_115_method_1_code 22 = .ok (.putfield 22, 3) := by decide +kernel
theorem d2_25 : decode prog_115_method_1_code 25 = .ok (.aload_n 0, 1) := by decide +kernel
theorem d2_26 : decode prog_115_method_1_code 26 = .ok (.aload 5, 2) := by decide +kernel
theorem d2_28 : decode prog_115_method_1_code 28 = .ok (.putfield 25, 3) := by decide +kernel
theorem d2_31 : decode prog_115_method_1_code 31 = .ok (.aload_n 0, 1) := by decide +kernel
theorem d2_32 : decode prog_115_method_1_code 32 = .ok (.dload 6, 2) := by decide +kernel
theorem d2_34 : decode prog_115_method_1_code 34 = .ok (.putfield 29, 3) := by decide +kernel
theorem d2_37 : decode prog_115_method_1_code 37 = .ok (.return_, 1) := by decide +kernel
set_option maxRecDepth 65536 in
set_option maxHeartbeats 40000000 in
theorem rm2 (l : Launch) (Z : State) (a0 : Array Value) (hw : ∀ d ∈ tables_1, d.before a0 Z = true) (ws : List Jvm.Cond) (ob : Addr) (p1 : Int32) (p2 : Int32) (t3 : Addr) (t4 : Addr) (t5 : Addr) (z6 : UInt64) (u1 u2 u3 u4 u5 u6 : Value) (h0 : Heap) (n0 : Nat) (Z0 : n0 ≤ h0.size) (F0_0 : Fld Z h0 ob "com/example/fusewright/fusewright/runtime/SparseMatrix" "rows" "I" u1) (F1_0 : Fld Z h0 ob "com/example/fusewright/fusewright/runtime/SparseMatrix" "columns" "I" u2) (F2_0 : Fld Z h0 ob "com/example/fusewright/fusewright/runtime/SparseMatrix" "rowStarts" "[I" u3) (F3_0 : Fld Z h0 ob "com/example/fusewright/fusewright/runtime/SparseMatrix" "columnIndices" "[I" u4) (F4_0 : Fld Z h0 ob "com/example/fusewright/fusewright/runtime/SparseMatrix" "values" "[D" u5) (F5_0 : Fld Z h0 ob "com/example/fusewright/fusewright/runtime/SparseMatrix" "zero" "D" u6) (Ex0 : Exa Z h0 ob "com/example/fusewright/fusewright/runtime/SparseMatrix") (g_ob : n0 ≤ ob) :
    MetFree l (⟨"com/example/fusewright/fusewright/runtime/SparseMatrix", "<init>", "(II[I[I[DD)V"⟩ : MethodName) (head1 (Jvm.Cond.code (⟨"com/example/fusewright/fusewright/runtime/SparseMatrix", "<init>", "(II[I[I[DD)V"⟩ : MethodName) prog_115_method_1_code 8 none :: ws) ({ frames := 1, cells := 0, slots := 0, locals := 12 } : Room)) (fun a U => a = #[(.ref ob), (.int p1), (.int p2), (.ref t3), (.ref t4), (.ref t5), (.double z6)] ∧ Z.Warmed39 U.vm ∧ U.heap = h0) (fun _ _ _ _ _ => True) (fun _ U o U' => ∃ v L, o = .returned v ∧ Q2 Z ob p1 p2 t3 t4 t5 z6 u1 u2 u3 u4 u5 u6 h0 n0 v U'.heap L ∧ FrameEnd U o U' L ({ frames := 1, cells := 0, slots := 0, locals := 12 } : Room).cells ({ frames := 1, cells := 0, slots := 0, locals := 12 } : Room).slots) := by
  refine MetFree.of_bodySF (plainFor_of_name pn_1) hisR ?_
  intro p e s m args below meth c s₁ Bd hml0 hP hK
  obtain ⟨rfl, hZ, hh⟩ := hP
  have hx := Bd.exec
  have hby := Bd.bytes
  have hml : c.maxLocals = 8 := hml0
  have hown : s.vm.findClass "com/example/fusewright/fusewright/runtime/SparseMatrix" = some m.cls := findClass_of_methodNamed Bd.named
  have hnm := (name_of_methodNamed Bd.named Bd.method).1
  have X0 : Stand p l e ({ frames := 1, cells := 0, slots := 0, locals := 12 } : Room) s m #[(.ref ob), (.int p1), (.int p2), (.ref t3), (.ref t4), (.ref t5), (.double z6)] below meth c s₁ [] 0 0 := Stand.of_body Bd
  have e0 : s₁.heap = h0 := by rw [← hh, Bd.state]; rfl
  have N0 := Fr.nil n0
  refine own_enter (P := (P2 Z ob p1 p2 t3 t4 t5 z6 u1 u2 u3 u4 u5 u6 h0 n0 s)) (ef_2 m ob p1 p2 t3 t4 t5 z6) ?_
  have K0 : Keep h0 h0 [ob] := Keep.refl h0 _
  show own_Fin p.tables e below _ (s₁.setTop (mkF m 0 #[.val (.ref ob), .val (.int p1), .val (.int p2), .val (.ref t3), .val (.ref t4), .val (.ref t5), .val (.double z6), .second] []))
  refine own_step (fun _ k => XS.aloadN X0.here hx rfl (hb hby d2_0) rfl rfl k) ?_
  show own_Fin p.tables e below _ (s₁.setTop (mkF m 1 #[.val (.ref ob), .val (.int p1), .val (.int p2), .val (.ref t3), .val (.ref t4), .val (.ref t5), .val (.double z6), .second] [(.ref ob)]))
  obtain ⟨T1, X1, e1, st1⟩ := initO X0 hx hZ hown (hw _ (List.mem_of_getElem? (i := 13) rfl)) (hw _ (List.mem_of_getElem? (i := 14) rfl)) (hw _ (List.mem_of_getElem? (i := 15) rfl)) e0 (g := (mkF m 1 #[.val (.ref ob), .val (.int p1), .val (.int p2), .val (.ref t3), .val (.ref t4), .val (.ref t5), .val (.double z6), .second] [(.ref ob)])) rfl (by rw [hml]; rfl) rfl (hb hby d2_1) (by decide) (W := 0) (by show 2 * 0 + _ ≤ _; exact Nat.le_of_eq rfl) (by decide)
  refine own_step st1 ?_
  show own_Fin p.tables e below _ (T1.setTop (mkF m 4 #[.val (.ref ob), .val (.int p1), .val (.int p2), .val (.ref t3), .val (.ref t4), .val (.ref t5), .val (.double z6), .second] []))
  refine own_step (fun _ k => XS.aloadN X1.here hx rfl (hb hby d2_4) rfl rfl k) ?_
  show own_Fin p.tables e below _ (T1.setTop (mkF m 5 #[.val (.ref ob), .val (.int p1), .val (.int p2), .val (.ref t3), .val (.ref t4), .val (.ref t5), .val (.double z6), .second] [(.ref ob)]))
  refine own_step (fun _ k => XS.iloadN X1.here hx rfl (hb hby d2_5) rfl k) ?_
  show own_Fin p.tables e below _ (T1.setTop (mkF m 6 #[.val (.ref ob), .val (.int p1), .val (.int p2), .val (.ref t3), .val (.ref t4), .val (.ref t5), .val (.double z6), .second] [(.int p1), (.ref ob)]))
  obtain ⟨T2, h2, X2, e2, W2, st2⟩ := putF X1 hx hZ hown (host := "") (Or.inl (hw _ (List.mem_of_getElem? (i := 16) rfl))) Via.refl e1 F0_0 Ex0 (Or.inr ⟨(hw _ (List.mem_of_getElem? (i := 17) rfl)), rfl, hnm⟩) (hw _ (List.mem_of_getElem? (i := 7) rfl)) (ty := .int) (by decide) rfl rfl (g := (mkF m 6 #[.val (.ref ob), .val (.int p1), .val (.int p2), .val (.ref t3), .val (.ref t4), .val (.ref t5), .val (.double z6), .second] [(.int p1), (.ref ob)])) rfl rfl (hb hby d2_6)
  refine own_step st2 ?_
  have f3 := Nat.le_trans Z0 (Keep.of_wr W2).1
  have f4 := F1_0.other W2 (Or.inr (slot_ne (Or.inr (hw _ (List.mem_of_getElem? (i := 19) rfl))) (Or.inr (hw _ (List.mem_of_getElem? (i := 17) rfl))) (by decide) (t := .int) (t' := .int) (by decide) (by decide)))
  have f5 := F2_0.other W2 (Or.inr (slot_ne (Or.inr (hw _ (List.mem_of_getElem? (i := 21) rfl))) (Or.inr (hw _ (List.mem_of_getElem? (i := 17) rfl))) (by decide) (t := (.array .int)) (t' := .int) (by decide) (by decide)))
  have f6 := F3_0.other W2 (Or.inr (slot_ne (Or.inr (hw _ (List.mem_of_getElem? (i := 23) rfl))) (Or.inr (hw _ (List.mem_of_getElem? (i := 17) rfl))) (by decide) (t := (.array .int)) (t' := .int) (by decide) (by decide)))
  have f7 := F4_0.other W2 (Or.inr (slot_ne (Or.inr (hw _ (List.mem_of_getElem? (i := 25) rfl))) (Or.inr (hw _ (List.mem_of_getElem? (i := 17) rfl))) (by decide) (t := (.array .double)) (t' := .int) (by decide) (by decide)))
  have f8 := F5_0.other W2 (Or.inr (slot_ne (Or.inr (hw _ (List.mem_of_getElem? (i := 27) rfl))) (Or.inr (hw _ (List.mem_of_getElem? (i := 17) rfl))) (by decide) (t := .double) (t' := .int) (by decide) (by decide)))
  have f9 := Ex0.wr W2
  have f10 := K0.wr W2 (Or.inl (List.mem_of_getElem? (i := 0) rfl))
  have f11 := F0_0.same W2
  have N12 := Fr.snoc X2 N0 g_ob
  show own_Fin p.tables e below _ (T2.setTop (mkF m 9 #[.val (.ref ob), .val (.int p1), .val (.int p2), .val (.ref t3), .val (.ref t4), .val (.ref t5), .val (.double z6), .second] []))
  refine own_step (fun _ k => XS.aloadN X2.here hx rfl (hb hby d2_9) rfl rfl k) ?_
  show own_Fin p.tables e below _ (T2.setTop (mkF m 10 #[.val (.ref ob), .val (.int p1), .val (.int p2), .val (.ref t3), .val (.ref t4), .val (.ref t5), .val (.double z6), .second] [(.ref ob)]))
  refine own_step (fun _ k => XS.iloadN X2.here hx rfl (hb hby d2_10) rfl k) ?_
  show own_Fin p.tables e below _ (T2.setTop (mkF m 11 #[.val (.ref ob), .val (.int p1), .val (.int p2), .val (.ref t3), .val (.ref t4), .val (.ref t5), .val (.double z6), .second] [(.int p2), (.ref ob)]))
  obtain ⟨T13, h13, X13, e13, W13, st13⟩ := putF X2 hx hZ hown (host := "") (Or.inl (hw _ (List.mem_of_getElem? (i := 18) rfl))) Via.refl e2 f4 f9 (Or.inr ⟨(hw _ (List.mem_of_getElem? (i := 19) rfl)), rfl, hnm⟩) (hw _ (List.mem_of_getElem? (i := 7) rfl)) (ty := .int) (by decide) rfl rfl (g := (mkF m 11 #[.val (.ref ob), .val (.int p1), .val (.int p2), .val (.ref t3), .val (.ref t4), .val (.ref t5), .val (.double z6), .second] [(.int p2), (.ref ob)])) rfl rfl (hb hby d2_11)
  refine own_step st13 ?_
  have f14 := Nat.le_trans f3 (Keep.of_wr W13).1
  have f15 := f11.other W13 (Or.inr (slot_ne (Or.inr (hw _ (List.mem_of_getElem? (i := 17) rfl))) (Or.inr (hw _ (List.mem_of_getElem? (i := 19) rfl))) (by decide) (t := .int) (t' := .int) (by decide) (by decide)))
  have f16 := f5.other W13 (Or.inr (slot_ne (Or.inr (hw _ (List.mem_of_getElem? (i := 21) rfl))) (Or.inr (hw _ (List.mem_of_getElem? (i := 19) rfl))) (by decide) (t := (.array .int)) (t' := .int) (by decide) (by decide)))
  have f17 := f6.other W13 (Or.inr (slot_ne (Or.inr (hw _ (List.mem_of_getElem? (i := 23) rfl))) (Or.inr (hw _ (List.mem_of_getElem? (i := 19) rfl))) (by decide) (t := (.array .int)) (t' := .int) (by decide) (by decide)))
  have f18 := f7.other W13 (Or.inr (slot_ne (Or.inr (hw _ (List.mem_of_getElem? (i := 25) rfl))) (Or.inr (hw _ (List.mem_of_getElem? (i := 19) rfl))) (by decide) (t := (.array .double)) (t' := .int) (by decide) (by decide)))
  have f19 := f8.other W13 (Or.inr (slot_ne (Or.inr (hw _ (List.mem_of_getElem? (i := 27) rfl))) (Or.inr (hw _ (List.mem_of_getElem? (i := 19) rfl))) (by decide) (t := .double) (t' := .int) (by decide) (by decide)))
  have f20 := f9.wr W13
  have f21 := f10.wr W13 (Or.inl (List.mem_of_getElem? (i := 0) rfl))
  have f22 := f4.same W13
  have N23 := Fr.snoc X13 N12 g_ob
  show own_Fin p.tables e below _ (T13.setTop (mkF m 14 #[.val (.ref ob), .val (.int p1), .val (.int p2), .val (.ref t3), .val (.ref t4), .val (.ref t5), .val (.double z6), .second] []))
  refine own_step (fun _ k => XS.aloadN X13.here hx rfl (hb hby d2_14) rfl rfl k) ?_
  show own_Fin p.tables e below _ (T13.setTop (mkF m 15 #[.val (.ref ob), .val (.int p1), .val (.int p2), .val (.ref t3), .val (.ref t4), .val (.ref t5), .val (.double z6), .second] [(.ref ob)]))
  refine own_step (fun _ k => XS.aloadN X13.here hx rfl (hb hby d2_15) rfl rfl k) ?_
  show own_Fin p.tables e below _ (T13.setTop (mkF m 16 #[.val (.ref ob), .val (.int p1), .val (.int p2), .val (.ref t3), .val (.ref t4), .val (.ref t5), .val (.double z6), .second] [(.ref t3), (.ref ob)]))
  obtain ⟨T24, h24, X24, e24, W24, st24⟩ := putF X13 hx hZ hown (host := "") (Or.inl (hw _ (List.mem_of_getElem? (i := 20) rfl))) Via.refl e13 f16 f20 (Or.inr ⟨(hw _ (List.mem_of_getElem? (i := 21) rfl)), rfl, hnm⟩) (hw _ (List.mem_of_getElem? (i := 7) rfl)) (ty := (.array .int)) (by decide) rfl rfl (g := (mkF m 16 #[.val (.ref ob), .val (.int p1), .val (.int p2), .val (.ref t3), .val (.ref t4), .val (.ref t5), .val (.double z6), .second] [(.ref t3), (.ref ob)])) rfl rfl (hb hby d2_16)
  refine own_step st24 ?_
  have f25 := Nat.le_trans f14 (Keep.of_wr W24).1
  have f26 := f15.other W24 (Or.inr (slot_ne (Or.inr (hw _ (List.mem_of_getElem? (i := 17) rfl))) (Or.inr (hw _ (List.mem_of_getElem? (i := 21) rfl))) (by decide) (t := .int) (t' := (.array .int)) (by decide) (by decide)))
  have f27 := f22.other W24 (Or.inr (slot_ne (Or.inr (hw _ (List.mem_of_getElem? (i := 19) rfl))) (Or.inr (hw _ (List.mem_of_getElem? (i := 21) rfl))) (by decide) (t := .int) (t' := (.array .int)) (by decide) (by decide)))
  have f28 := f17.other W24 (Or.inr (slot_ne (Or.inr (hw _ (List.mem_of_getElem? (i := 23) rfl))) (Or.inr (hw _ (List.mem_of_getElem? (i := 21) rfl))) (by decide) (t := (.array .int)) (t' := (.array .int)) (by decide) (by decide)))
  have f29 := f18.other W24 (Or.inr (slot_ne (Or.inr (hw _ (List.mem_of_getElem? (i := 25) rfl))) (Or.inr (hw _ (List.mem_of_getElem? (i := 21) rfl))) (by decide) (t := (.array .double)) (t' := (.array .int)) (by decide) (by decide)))
  have f30 := f19.other W24 (Or.inr (slot_ne (Or.inr (hw _ (List.mem_of_getElem? (i := 27) rfl))) (Or.inr (hw _ (List.mem_of_getElem? (i := 21) rfl))) (by decide) (t := .double) (t' := (.array .int)) (by decide) (by decide)))
  have f31 := f20.wr W24
  have f32 := f21.wr W24 (Or.inl (List.mem_of_getElem? (i := 0) rfl))
  have f33 := f16.same W24
  have N34 := Fr.snoc X24 N23 g_ob
  show own_Fin p.tables e below _ (T24.setTop (mkF m 19 #[.val (.ref ob), .val (.int p1), .val (.int p2), .val (.ref t3), .val (.ref t4), .val (.ref t5), .val (.double z6), .second] []))
  refine own_step (fun _ k => XS.aloadN X24.here hx rfl (hb hby d2_19) rfl rfl k) ?_
  show own_Fin p.tables e below _ (T24.setTop (mkF m 20 #[.val (.ref ob), .val (.int p1), .val (.int p2), .val (.ref t3), .val (.ref t4), .val (.ref t5), .val (.double z6), .second] [(.ref ob)]))
  refine own_step (fun _ k => XS.aload X24.here hx rfl (hb hby d2_20) rfl rfl k) ?_
  show own_Fin p.tables e below _ (T24.setTop (mkF m 22 #[.val (.ref ob), .val (.int p1), .val (.int p2), .val (.ref t3), .val (.ref t4), .val (.ref t5), .val (.double z6), .second] [(.ref t4), (.ref ob)]))
  obtain ⟨T35, h35, X35, e35, W35, st35⟩ := putF X24 hx hZ hown (host := "") (Or.inl (hw _ (List.mem_of_getElem? (i := 22) rfl))) Via.refl e24 f28 f31 (Or.inr ⟨(hw _ (List.mem_of_getElem? (i := 23) rfl)), rfl, hnm⟩) (hw _ (List.mem_of_getElem? (i := 7) rfl)) (ty := (.array .int)) (by decide) rfl rfl (g := (mkF m 22 #[.val (.ref ob), .val (.int p1), .val (.int p2), .val (.ref t3), .val (.ref t4), .val (.ref t5), .val (.double z6), .second] [(.ref t4), (.ref ob)])) rfl rfl (hb hby d2_22)
  refine own_step st35 ?_
  have f36 := Nat.le_trans f25 (Keep.of_wr W35).1
  have f37 := f26.other W35 (Or.inr (slot_ne (Or.inr (hw _ (List.mem_of_getElem? (i := 17) rfl))) (Or.inr (hw _ (List.mem_of_getElem? (i := 23) rfl))) (by decide) (t := .int) (t' := (.array .int)) (by decide) (by decide)))
  have f38 := f27.other W35 (Or.inr (slot_ne (Or.inr (hw _ (List.mem_of_getElem? (i := 19) rfl))) (Or.inr (hw _ (List.mem_of_getElem? (i := 23) rfl))) (by decide) (t := .int) (t' := (.array .int)) (by decide) (by decide)))
  have f39 := f33.other W35 (Or.inr (slot_ne (Or.inr (hw _ (List.mem_of_getElem? (i := 21) rfl))) (Or.inr (hw _ (List.mem_of_getElem? (i := 23) rfl))) (by decide) (t := (.array .int)) (t' := (.array .int)) (by decide) (by decide)))
  have f40 := f29.other W35 (Or.inr (slot_ne (Or.inr (hw _ (List.mem_of_getElem? (i := 25) rfl))) (Or.inr (hw _ (List.mem_of_getElem? (i := 23) rfl))) (by decide) (t := (.array .double)) (t' := (.array .int)) (by decide) (by decide)))
  have f41 := f30.other W35 (Or.inr (slot_ne (Or.inr (hw _ (List.mem_of_getElem? (i := 27) rfl))) (Or.inr (hw _ (List.mem_of_getElem? (i := 23) rfl))) (by decide) (t := .double) (t' := (.array .int)) (by decide) (by decide)))
  have f42 := f31.wr W35
  have f43 := f32.wr W35 (Or.inl (List.mem_of_getElem? (i := 0) rfl))
  have f44 := f28.same W35
  have N45 := Fr.snoc X35 N34 g_ob
  show own_Fin p.tables e below _ (T35.setTop (mkF m 25 #[.val (.ref ob), .val (.int p1), .val (.int p2), .val (.ref t3), .val (.ref t4), .val (.ref t5), .val (.double z6), .second] []))
  refine own_step (fun _ k => XS.aloadN X35.here hx rfl (hb hby d2_25) rfl rfl k) ?_
  show own_Fin p.tables e below _ (T35.setTop (mkF m 26 #[.val (.ref ob), .val (.int p1), .val (.int p2), .val (.ref t3), .val (.ref t4), .val (.ref t5), .val (.double z6), .second] [(.ref ob)]))
  refine own_step (fun _ k => XS.aload X35.here hx rfl (hb hby d2_26) rfl rfl k) ?_
  show own_Fin p.tables e below _ (T35.setTop (mkF m 28 #[.val (.ref ob), .val (.int p1), .val (.int p2), .val (.ref t3), .val (.ref t4), .val (.ref t5), .val (.double z6), .second] [(.ref t5), (.ref ob)]))
  obtain ⟨T46, h46, X46, e46, W46, st46⟩ := putF X35 hx hZ hown (host := "") (Or.inl (hw _ (List.mem_of_getElem? (i := 24) rfl))) Via.refl e35 f40 f42 (Or.inr ⟨(hw _ (List.mem_of_getElem? (i := 25) rfl)), rfl, hnm⟩) (hw _ (List.mem_of_getElem? (i := 7) rfl)) (ty := (.array .double)) (by decide) rfl rfl (g := (mkF m 28 #[.val (.ref ob), .val (.int p1), .val (.int p2), .val (.ref t3), .val (.ref t4), .val (.ref t5), .val (.double z6), .second] [(.ref t5), (.ref ob)])) rfl rfl (hb hby d2_28)
  refine own_step st46 ?_
  have f47 := Nat.le_trans f36 (Keep.of_wr W46).1
  have f48 := f37.other W46 (Or.inr (slot_ne (Or.inr (hw _ (List.mem_of_getElem? (i := 17) rfl))) (Or.inr (hw _ (List.mem_of_getElem? (i := 25) rfl))) (by decide) (t := .int) (t' := (.array .double)) (by decide) (by decide)))
  have f49 := f38.other W46 (Or.inr (slot_ne (Or.inr (hw _ (List.mem_of_getElem? (i := 19) rfl))) (Or.inr (hw _ (List.mem_of_getElem? (i := 25) rfl))) (by decide) (t := .int) (t' := (.array .double)) (by decide) (by decide)))
  have f50 := f39.other W46 (Or.inr (slot_ne (Or.inr (hw _ (List.mem_of_getElem? (i := 21) rfl))) (Or.inr (hw _ (List.mem_of_getElem? (i := 25) rfl))) (by decide) (t := (.array .int)) (t' := (.array .double)) (by decide) (by decide)))
  have f51 := f44.other W46 (Or.inr (slot_ne (Or.inr (hw _ (List.mem_of_getElem? (i := 23) rfl))) (Or.inr (hw _ (List.mem_of_getElem? (i := 25) rfl))) (by decide) (t := (.array .int)) (t' := (.array .double)) (by decide) (by decide)))
  have f52 := f41.other W46 (Or.inr (slot_ne (Or.inr (hw _ (List.mem_of_getElem? (i := 27) rfl))) (Or.inr (hw _ (List.mem_of_getElem? (i := 25) rfl))) (by decide) (t := .double) (t' := (.array .double)) (by decide) (by decide)))
  have f53 := f42.wr W46
  have f54 := f43.wr W46 (Or.inl (List.mem_of_getElem? (i := 0) rfl))
  have f55 := f40.same W46
  have N56 := Fr.snoc X46 N45 g_ob
  show own_Fin p.tables e below _ (T46.setTop (mkF m 31 #[.val (.ref ob), .val (.int p1), .val (.int p2), .val (.ref t3), .val (.ref t4), .val (.ref t5), .val (.double z6), .second] []))
  refine own_step (fun _ k => XS.aloadN X46.here hx rfl (hb hby d2_31) rfl rfl k) ?_
  show own_Fin p.tables e below _ (T46.setTop (mkF m 32 #[.val (.ref ob), .val (.int p1), .val (.int p2), .val (.ref t3), .val (.ref t4), .val (.ref t5), .val (.double z6), .second] [(.ref ob)]))
  refine own_step (fun _ k => own_dload X46.here hx rfl (hb hby d2_32) rfl k) ?_
  show own_Fin p.tables e below _ (T46.setTop (mkF m 34 #[.val (.ref ob), .val (.int p1), .val (.int p2), .val (.ref t3), .val (.ref t4), .val (.ref t5), .val (.double z6), .second] [(.double z6), (.ref ob)]))
  obtain ⟨T57, h57, X57, e57, W57, st57⟩ := putF X46 hx hZ hown (host := "") (Or.inl (hw _ (List.mem_of_getElem? (i := 26) rfl))) Via.refl e46 f52 f53 (Or.inr ⟨(hw _ (List.mem_of_getElem? (i := 27) rfl)), rfl, hnm⟩) (hw _ (List.mem_of_getElem? (i := 7) rfl)) (ty := .double) (by decide) rfl rfl (g := (mkF m 34 #[.val (.ref ob), .val (.int p1), .val (.int p2), .val (.ref t3), .val (.ref t4), .val (.ref t5), .val (.double z6), .second] [(.double z6), (.ref ob)])) rfl rfl (hb hby d2_34)
  refine own_step st57 ?_
  have f58 := Nat.le_trans f47 (Keep.of_wr W57).1
  have f59 := f48.other W57 (Or.inr (slot_ne (Or.inr (hw _ (List.mem_of_getElem? (i := 17) rfl))) (Or.inr (hw _ (List.mem_of_getElem? (i := 27) rfl))) (by decide) (t := .int) (t' := .double) (by decide) (by decide)))
  have f60 := f49.other W57 (Or.inr (slot_ne (Or.inr (hw _ (List.mem_of_getElem? (i := 19) rfl))) (Or.inr (hw _ (List.mem_of_getElem? (i := 27) rfl))) (by decide) (t := .int) (t' := .double) (by decide) (by decide)))
  have f61 := f50.other W57 (Or.inr (slot_ne (Or.inr (hw _ (List.mem_of_getElem? (i := 21) rfl))) (Or.inr (hw _ (List.mem_of_getElem? (i := 27) rfl))) (by decide) (t := (.array .int)) (t' := .double) (by decide) (by decide)))
  have f62 := f51.other W57 (Or.inr (slot_ne (Or.inr (hw _ (List.mem_of_getElem? (i := 23) rfl))) (Or.inr (hw _ (List.mem_of_getElem? (i := 27) rfl))) (by decide) (t := (.array .int)) (t' := .double) (by decide) (by decide)))
  have f63 := f55.other W57 (Or.inr (slot_ne (Or.inr (hw _ (List.mem_of_getElem? (i := 25) rfl))) (Or.inr (hw _ (List.mem_of_getElem? (i := 27) rfl))) (by decide) (t := (.array .double)) (t' := .double) (by decide) (by decide)))
  have f64 := f53.wr W57
  have f65 := f54.wr W57 (Or.inl (List.mem_of_getElem? (i := 0) rfl))
  have f66 := f52.same W57
  have N67 := Fr.snoc X57 N56 g_ob
  show own_Fin p.tables e below _ (T57.setTop (mkF m 37 #[.val (.ref ob), .val (.int p1), .val (.int p2), .val (.ref t3), .val (.ref t4), .val (.ref t5), .val (.double z6), .second] []))
  obtain ⟨fs68, hr68, hrun68, hended68, hW68, hsame68⟩ := X57.leave (v := none) (fun _ => rfl)
  refine own_ret (X57.returnOut hx Bd.returns (hb hby d2_37) hr68) hrun68 hended68 ?_
  refine ⟨_, _, rfl, ?_, ⟨_, rfl⟩, hW68, hsame68.mono (by decide) (by decide)⟩
  show Q2 Z ob p1 p2 t3 t4 t5 z6 u1 u2 u3 u4 u5 u6 h0 n0 _ T57.heap _
  rw [e57]
  exact ⟨rfl, N67, f65, f64, f59, f60, f61, f62, f63, f66⟩
theorem ef_4 (m : MethodId) (x0 : Addr) (x1 : Int32) : entryFrame m #[(.ref x0), (.int x1)] 5 = mkF m 0 #[.val (.ref x0), .val (.int x1), .unset, .unset, .unset] [] := by first | (simp [entryFrame, mkF, argsToLocals, Value.category]; done) | rfl
def Q4 (Z : State) (ob : Addr) (en : Int32) (nr : Int32) (ts : Addr) (g : Nat → Int32) (h0 : Heap) (n0 : Nat) (v : Option Value) (h : Heap) (L : List Loc) : Prop := ∃ r : Int32, v = some (.int r) ∧ Fr n0 L ∧ h = h0 ∧ 0 ≤ r.toInt ∧ r.toInt < nr.toInt ∧ ¬ en < g r.toNatClampNeg ∧ en < g (r.toNatClampNeg + 1)
abbrev P4 (Z : State) (ob : Addr) (en : Int32) (nr : Int32) (ts : Addr) (g : Nat → Int32) (h0 : Heap) (n0 : Nat) (s : State) : Outcome → State → Prop := fun o U' => ∃ v L, o = .returned v ∧ Q4 Z ob en nr ts g h0 n0 v U'.heap L ∧ FrameEnd s o U' L ({ frames := 0, cells := 0, slots := 0, locals := 0 } : Room).cells ({ frames := 0, cells := 0, slots := 0, locals := 0 } : Room).slots
theorem d4_0 : decode prog_115_method_17_code 0 = .ok (.iconst 0, 1) := by decide +kernel
theorem d4_1 : decode prog_115_method_17_code 1 = .ok (.istore_n 2, 1) := by decide +kernel
theorem d4_2 : decode prog_115_method_17_code 2 = .ok (.aload_n 0, 1) := by decide +kernel
theorem d4_3 : decode prog_115_method_17_code 3 = .ok (.getfield 9, 3) := by decide +kernel
theorem d4_6 : decode prog_115_method_17_code 6 = .ok (.iconst 1, 1) := by decide +kernel
theorem d4_7 : decode prog_115_method_17_code 7 = .ok (.isub, 1) := by decide +kernel
theorem d4_8 : decode prog_115_method_17_code 8 = .ok (.istore_n 3, 1) := by decide +kernel
theorem d4_9 : decode prog_115_method_17_code 9 = .ok (.iload_n 2, 1) := by decide +kernel
theorem d4_10 : decode prog_115_method_17_code 10 = .ok (.iload_n 3, 1) := by decide +kernel
theorem d4_11 : decode prog_115_method_17_code 11 = .ok (.if_icmp .ge 37, 3) := by decide +kernel
theorem d4_14 : decode prog_115_method_17_code 14 = .ok (.iload_n 2, 1) := by decide +kernel
theorem d4_15 : decode prog_115_method_17_code 15 = .ok (.iload_n 3, 1) := by decide +kernel
theorem d4_16 : decode prog_115_method_17_code 16 = .ok (.iadd, 1) := by decide +kernel
theorem d4_17 : decode prog_115_method_17_code 17 = .ok (.iconst 1, 1) := by decide +kernel
theorem d4_18 : decode prog_115_method_17_code 18 = .ok (.iadd, 1) := by decide +kernel
theorem d4_19 : decode prog_115_method_17_code 19 = .ok (.iconst 1, 1) := by decide +kernel
theorem d4_20 : decode prog_115_method_17_code 20 = .ok (.iushr, 1) := by decide +kernel
theorem d4_21 : decode prog_115_method_17_code 21 = .ok (.istore 4, 2) := by decide +kernel
theorem d4_23 : decode prog_115_method_17_code 23 = .ok (.aload_n 0, 1) := by decide +kernel
theorem d4_24 : decode prog_115_method_17_code 24 = .ok (.getfield 18, 3) := by decide +kernel
theorem d4_27 : decode prog_115_method_17_code 27 = .ok (.iload 4, 2) := by decide +kernel
theorem d4_29 : decode prog_115_method_17_code 29 = .ok (.iaload, 1) := by decide +kernel
theorem d4_30 : decode prog_115_method_17_code 30 = .ok (.iload_n 1, 1) := by decide +kernel
theorem d4_31 : decode prog_115_method_17_code 31 = .ok (.if_icmp .gt 9, 3) := by decide +kernel
theorem d4_40 : decode prog_115_method_17_code 40 = .ok (.iload 4, 2) := by decide +kernel
theorem d4_42 : decode prog_115_method_17_code 42 = .ok (.iconst 1, 1) := by decide +kernel
theorem d4_43 : decode prog_115_method_17_code 43 = .ok (.isub, 1) := by decide +kernel
theorem d4_44 : decode prog_115_method_17_code 44 = .ok (.istore_n 3, 1) := by decide +kernel
theorem d4_45 : decode prog_115_method_17_code 45 = .ok (.goto (-36), 3) := by decide +kernel
theorem d4_34 : decode prog_115_method_17_code 34 = .ok (.iload 4, 2) := by decide +kernel
theorem d4_36 : decode prog_115_method_17_code 36 = .ok (.istore_n 2, 1) := by decide +kernel
theorem d4_37 : decode prog_115_method_17_code 37 = .ok (.goto 8, 3) := by decide +kernel
theorem d4_48 : decode prog_115_method_17_code 48 = .ok (.iload_n 2, 1) := by decide +kernel
theorem d4_49 : decode prog_115_method_17_code 49 = .ok (.ireturn, 1) := by decide +kernel
set_option maxRecDepth 65536 in
set_option maxHeartbeats 40000000 in
theorem rm4 (l : Launch) (Z : State) (a0 : Array Value) (hw : ∀ d ∈ tables_1, d.before a0 Z = true) (ws : List Jvm.Cond) (ob : Addr) (en : Int32) (nr : Int32) (ts : Addr) (g : Nat → Int32) (h0 : Heap) (n0 : Nat) (Z0 : n0 ≤ h0.size) (Fr0 : Fld Z h0 ob "com/example/fusewright/fusewright/runtime/SparseMatrix" "rows" "I" (.int nr)) (Fs0 : Fld Z h0 ob "com/example/fusewright/fusewright/runtime/SparseMatrix" "rowStarts" "[I" (.ref ts)) (As0 : own_Arf Z h0 ts .int 9 (fun i => .int (g i))) (hn1 : 0 < nr.toInt) (hn2 : nr.toInt ≤ 8) (hlo : ¬ en < g 0) (hhi : en < g nr.toNatClampNeg) :
    MetFree l (⟨"com/example/fusewright/fusewright/runtime/SparseMatrix", "rowOf", "(I)I"⟩ : MethodName) (head1 (Jvm.Cond.code (⟨"com/example/fusewright/fusewright/runtime/SparseMatrix", "rowOf", "(I)I"⟩ : MethodName) prog_115_method_17_code 5 (some .int) :: ws) ({ frames := 0, cells := 0, slots := 0, locals := 0 } : Room)) (fun a U => a = #[(.ref ob), (.int en)] ∧ Z.Warmed39 U.vm ∧ U.heap = h0) (fun _ _ _ _ _ => True) (fun _ U o U' => ∃ v L, o = .returned v ∧ Q4 Z ob en nr ts g h0 n0 v U'.heap L ∧ FrameEnd U o U' L ({ frames := 0, cells := 0, slots := 0, locals := 0 } : Room).cells ({ frames := 0, cells := 0, slots := 0, locals := 0 } : Room).slots) := by
  refine MetFree.of_bodySF (plainFor_of_name pn_1) hisR ?_
  intro p e s m args below meth c s₁ Bd hml0 hP hK
  obtain ⟨rfl, hZ, hh⟩ := hP
  have hx := Bd.exec
  have hby := Bd.bytes
  have hml : c.maxLocals = 5 := hml0
  have hown : s.vm.findClass "com/example/fusewright/fusewright/runtime/SparseMatrix" = some m.cls := findClass_of_methodNamed Bd.named
  have hnm := (name_of_methodNamed Bd.named Bd.method).1
  have X0 : Stand p l e ({ frames := 0, cells := 0, slots := 0, locals := 0 } : Room) s m #[(.ref ob), (.int en)] below meth c s₁ [] 0 0 := Stand.of_body Bd
  have e0 : s₁.heap = h0 := by rw [← hh, Bd.state]; rfl
  have N0 := Fr.nil n0
  refine own_enter (P := (P4 Z ob en nr ts g h0 n0 s)) (ef_4 m ob en) ?_
  show own_Fin p.tables e below _ (s₁.setTop (mkF m 0 #[.val (.ref ob), .val (.int en), .unset, .unset, .unset] []))
  refine own_step (fun _ k => XS.iconst X0.here hx rfl (hb hby d4_0) k) ?_
  show own_Fin p.tables e below _ (s₁.setTop (mkF m 1 #[.val (.ref ob), .val (.int en), .unset, .unset, .unset] [(.int (0 : Int32))]))
  refine own_step (fun _ k => XS.istoreN X0.here hx rfl (hb hby d4_1) rfl (l' := #[.val (.ref ob), .val (.int en), .val (.int (0 : Int32)), .unset, .unset]) rfl k) ?_
  show own_Fin p.tables e below _ (s₁.setTop (mkF m 2 #[.val (.ref ob), .val (.int en), .val (.int (0 : Int32)), .unset, .unset] []))
  refine own_step (fun _ k => XS.aloadN X0.here hx rfl (hb hby d4_2) rfl rfl k) ?_
  show own_Fin p.tables e below _ (s₁.setTop (mkF m 3 #[.val (.ref ob), .val (.int en), .val (.int (0 : Int32)), .unset, .unset] [(.ref ob)]))
  obtain ⟨T1, X1, e1, st1⟩ := getF X0 hx hZ hown (host := "") (Or.inl (hw _ (List.mem_of_getElem? (i := 16) rfl))) Via.refl e0 Fr0 (g := (mkF m 3 #[.val (.ref ob), .val (.int en), .val (.int (0 : Int32)), .unset, .unset] [(.ref ob)])) rfl rfl (hb hby d4_3)
  refine own_step st1 ?_
  show own_Fin p.tables e below _ (T1.setTop (mkF m 6 #[.val (.ref ob), .val (.int en), .val (.int (0 : Int32)), .unset, .unset] [(.int nr)]))
  refine own_step (fun _ k => XS.iconst X1.here hx rfl (hb hby d4_6) k) ?_
  show own_Fin p.tables e below _ (T1.setTop (mkF m 7 #[.val (.ref ob), .val (.int en), .val (.int (0 : Int32)), .unset, .unset] [(.int (1 : Int32)), (.int nr)]))
  refine own_step (fun _ k => XS.isub X1.here hx rfl (hb hby d4_7) rfl k) ?_
  show own_Fin p.tables e below _ (T1.setTop (mkF m 8 #[.val (.ref ob), .val (.int en), .val (.int (0 : Int32)), .unset, .unset] [(.int (nr - (1 : Int32)))]))
  refine own_step (fun _ k => XS.istoreN X1.here hx rfl (hb hby d4_8) rfl (l' := #[.val (.ref ob), .val (.int en), .val (.int (0 : Int32)), .val (.int (nr - (1 : Int32))), .unset]) rfl k) ?_
  show own_Fin p.tables e below _ (T1.setTop (mkF m 9 #[.val (.ref ob), .val (.int en), .val (.int (0 : Int32)), .val (.int (nr - (1 : Int32))), .unset] []))
  have loop2 : ∀ (k : Nat) (T2 : State) (locs2 : List Loc) (lo : Int32) (hi : Int32) (sl2_4 : Slot) (X2 : Stand p l e ({ frames := 0, cells := 0, slots := 0, locals := 0 } : Room) s m #[(.ref ob), (.int en)] below meth c T2 locs2 0 0) (e2 : T2.heap = h0) (N2 : Fr n0 locs2) (gsl2_4 : One sl2_4) (i1 : 0 ≤ lo.toInt) (i2 : lo.toInt ≤ hi.toInt) (i3 : hi.toInt < nr.toInt) (i4 : ¬ en < g lo.toNatClampNeg) (i5 : en < g (hi.toNatClampNeg + 1)), (hi.toInt - lo.toInt).toNat = k → own_Fin p.tables e below (P4 Z ob en nr ts g h0 n0 s) (T2.setTop (mkF m 9 #[.val (.ref ob), .val (.int en), .val (.int lo), .val (.int hi), sl2_4] [])) := by
    intro k
    induction k using Nat.strongRecOn with
    | _ k ih =>
      intro T2 locs2 lo hi sl2_4 X2 e2 N2 gsl2_4 i1 i2 i3 i4 i5 hmeas
      show own_Fin p.tables e below _ (T2.setTop (mkF m 9 #[.val (.ref ob), .val (.int en), .val (.int lo), .val (.int hi), sl2_4] []))
      refine own_step (fun _ k => XS.iloadN X2.here hx rfl (hb hby d4_9) rfl k) ?_
      show own_Fin p.tables e below _ (T2.setTop (mkF m 10 #[.val (.ref ob), .val (.int en), .val (.int lo), .val (.int hi), sl2_4] [(.int lo)]))
      refine own_step (fun _ k => XS.iloadN X2.here hx rfl (hb hby d4_10) rfl k) ?_
      show own_Fin p.tables e below _ (T2.setTop (mkF m 11 #[.val (.ref ob), .val (.int en), .val (.int lo), .val (.int hi), sl2_4] [(.int hi), (.int lo)]))
      by_cases hc3 : lo < hi
      · refine own_step (fun _ k => XS.icmpNo X2.here hx rfl (hb hby d4_11) rfl ((tlt hc3).2.1) k) ?_
        show own_Fin p.tables e below _ (T2.setTop (mkF m 14 #[.val (.ref ob), .val (.int en), .val (.int lo), .val (.int hi), sl2_4] []))
        refine own_step (fun _ k => XS.iloadN X2.here hx rfl (hb hby d4_14) rfl k) ?_
        show own_Fin p.tables e below _ (T2.setTop (mkF m 15 #[.val (.ref ob), .val (.int en), .val (.int lo), .val (.int hi), sl2_4] [(.int lo)]))
        refine own_step (fun _ k => XS.iloadN X2.here hx rfl (hb hby d4_15) rfl k) ?_
        show own_Fin p.tables e below _ (T2.setTop (mkF m 16 #[.val (.ref ob), .val (.int en), .val (.int lo), .val (.int hi), sl2_4] [(.int hi), (.int lo)]))
        refine own_step (fun _ k => XS.iadd X2.here hx rfl (hb hby d4_16) rfl k) ?_
        show own_Fin p.tables e below _ (T2.setTop (mkF m 17 #[.val (.ref ob), .val (.int en), .val (.int lo), .val (.int hi), sl2_4] [(.int (lo + hi))]))
        refine own_step (fun _ k => XS.iconst X2.here hx rfl (hb hby d4_17) k) ?_
        show own_Fin p.tables e below _ (T2.setTop (mkF m 18 #[.val (.ref ob), .val (.int en), .val (.int lo), .val (.int hi), sl2_4] [(.int (1 : Int32)), (.int (lo + hi))]))
        refine own_step (fun _ k => XS.iadd X2.here hx rfl (hb hby d4_18) rfl k) ?_
        show own_Fin p.tables e below _ (T2.setTop (mkF m 19 #[.val (.ref ob), .val (.int en), .val (.int lo), .val (.int hi), sl2_4] [(.int ((lo + hi) + (1 : Int32)))]))
        refine own_step (fun _ k => XS.iconst X2.here hx rfl (hb hby d4_19) k) ?_
        show own_Fin p.tables e below _ (T2.setTop (mkF m 20 #[.val (.ref ob), .val (.int en), .val (.int lo), .val (.int hi), sl2_4] [(.int (1 : Int32)), (.int ((lo + hi) + (1 : Int32)))]))
        refine own_step (fun _ k => XS.iushr X2.here hx rfl (hb hby d4_20) rfl k) ?_
        show own_Fin p.tables e below _ (T2.setTop (mkF m 21 #[.val (.ref ob), .val (.int en), .val (.int lo), .val (.int hi), sl2_4] [(.int ((((lo + hi) + (1 : Int32)).toUInt32 >>> ((1 : Int32) &&& 31).toUInt32).toInt32))]))
        refine own_step (fun _ k => XS.istoreS X2.here hx rfl (hb hby d4_21) rfl rfl gsl2_4 k) ?_
        show own_Fin p.tables e below _ (T2.setTop (mkF m 23 #[.val (.ref ob), .val (.int en), .val (.int lo), .val (.int hi), .val (.int ((((lo + hi) + (1 : Int32)).toUInt32 >>> ((1 : Int32) &&& 31).toUInt32).toInt32))] []))
        have hlt : lo.toInt < hi.toInt := own_lt.mp hc3
        obtain ⟨md, hmd⟩ : ∃ z, z = ((((lo + hi) + (1 : Int32)).toUInt32 >>> ((1 : Int32) &&& 31).toUInt32).toInt32) := ⟨_, rfl⟩
        rw [← hmd]
        show own_Fin p.tables e below _ (T2.setTop (mkF m 23 #[.val (.ref ob), .val (.int en), .val (.int lo), .val (.int hi), .val (.int md)] []))
        have hmd2 : md.toInt = (lo.toInt + hi.toInt + 1) / 2 := by rw [hmd]; exact own_mid i1 (by omega) (by omega) (by omega)
        refine own_step (fun _ k => XS.aloadN X2.here hx rfl (hb hby d4_23) rfl rfl k) ?_
        show own_Fin p.tables e below _ (T2.setTop (mkF m 24 #[.val (.ref ob), .val (.int en), .val (.int lo), .val (.int hi), .val (.int md)] [(.ref ob)]))
        obtain ⟨T4, X4, e4, st4⟩ := getF X2 hx hZ hown (host := "") (Or.inl (hw _ (List.mem_of_getElem? (i := 20) rfl))) Via.refl e2 Fs0 (g := (mkF m 24 #[.val (.ref ob), .val (.int en), .val (.int lo), .val (.int hi), .val (.int md)] [(.ref ob)])) rfl rfl (hb hby d4_24)
        refine own_step st4 ?_
        show own_Fin p.tables e below _ (T4.setTop (mkF m 27 #[.val (.ref ob), .val (.int en), .val (.int lo), .val (.int hi), .val (.int md)] [(.ref ts)]))
        refine own_step (fun _ k => XS.iload X4.here hx rfl (hb hby d4_27) rfl k) ?_
        show own_Fin p.tables e below _ (T4.setTop (mkF m 29 #[.val (.ref ob), .val (.int en), .val (.int lo), .val (.int hi), .val (.int md)] [(.int md), (.ref ts)]))
        obtain ⟨cl5, Ar5, S5, H5⟩ := id As0
        have hin5 : ¬ (md < 0 ∨ cl5.slots.size ≤ (md).toNatClampNeg) := own_in S5 ⟨by omega, by omega⟩
        refine own_step (X4.iaload hx (j := md) (v := (.int (g (md).toNatClampNeg))) (by first | exact Ar5.1 | (rw [e4]; exact Ar5.1)) (State.isArrayOf_alike hZ.alike Ar5.2.1) Ar5.2.2 hin5 (H5 _ (own_in2 ⟨by omega, by omega⟩)) (g := (mkF m 29 #[.val (.ref ob), .val (.int en), .val (.int lo), .val (.int hi), .val (.int md)] [(.int md), (.ref ts)])) rfl rfl (hb hby d4_29)) ?_
        show own_Fin p.tables e below _ (T4.setTop (mkF m 30 #[.val (.ref ob), .val (.int en), .val (.int lo), .val (.int hi), .val (.int md)] [(.int (g (md).toNatClampNeg))]))
        refine own_step (fun _ k => XS.iloadN X4.here hx rfl (hb hby d4_30) rfl k) ?_
        show own_Fin p.tables e below _ (T4.setTop (mkF m 31 #[.val (.ref ob), .val (.int en), .val (.int lo), .val (.int hi), .val (.int md)] [(.int en), (.int (g (md).toNatClampNeg))]))
        by_cases hc6 : en < (g (md).toNatClampNeg)
        · refine own_step (fun _ k => XS.icmpYes X4.here hx rfl (pc0 := 31) (pc' := 40) rfl (hb hby d4_31) rfl ((tlt hc6).2.2.1) (by decide) (by decide) k) ?_
          show own_Fin p.tables e below _ (T4.setTop (mkF m 40 #[.val (.ref ob), .val (.int en), .val (.int lo), .val (.int hi), .val (.int md)] []))
          refine own_step (fun _ k => XS.iload X4.here hx rfl (hb hby d4_40) rfl k) ?_
          show own_Fin p.tables e below _ (T4.setTop (mkF m 42 #[.val (.ref ob), .val (.int en), .val (.int lo), .val (.int hi), .val (.int md)] [(.int md)]))
          refine own_step (fun _ k => XS.iconst X4.here hx rfl (hb hby d4_42) k) ?_
          show own_Fin p.tables e below _ (T4.setTop (mkF m 43 #[.val (.ref ob), .val (.int en), .val (.int lo), .val (.int hi), .val (.int md)] [(.int (1 : Int32)), (.int md)]))
          refine own_step (fun _ k => XS.isub X4.here hx rfl (hb hby d4_43) rfl k) ?_
          show own_Fin p.tables e below _ (T4.setTop (mkF m 44 #[.val (.ref ob), .val (.int en), .val (.int lo), .val (.int hi), .val (.int md)] [(.int (md - (1 : Int32)))]))
          refine own_step (fun _ k => XS.istoreN X4.here hx rfl (hb hby d4_44) rfl (l' := #[.val (.ref ob), .val (.int en), .val (.int lo), .val (.int (md - (1 : Int32))), .val (.int md)]) rfl k) ?_
          show own_Fin p.tables e below _ (T4.setTop (mkF m 45 #[.val (.ref ob), .val (.int en), .val (.int lo), .val (.int (md - (1 : Int32))), .val (.int md)] []))
          refine own_step (fun _ k => XS.goto X4.here hx rfl (pc0 := 45) (pc' := 9) rfl (hb hby d4_45) (by decide) (by decide) k) ?_
          show own_Fin p.tables e below _ (T4.setTop (mkF m 9 #[.val (.ref ob), .val (.int en), .val (.int lo), .val (.int (md - (1 : Int32))), .val (.int md)] []))
          have hb1 : (md - (1 : Int32)).toInt = md.toInt - 1 := own_sub1 (by omega)
          have hb2 : (md - (1 : Int32)).toNatClampNeg + 1 = md.toNatClampNeg := by have a2 := own_clamp (n := md) (by omega); have a3 := own_clamp (n := md - 1) (by omega); omega
          exact ih _ (by omega) T4 _ lo (md - (1 : Int32)) (.val (.int md)) X4 e4 N2 (by first | exact One.u | exact One.val rfl | assumption) i1 (by omega) (by omega) i4 (by rw [hb2]; exact hc6) rfl
        · refine own_step (fun _ k => XS.icmpNo X4.here hx rfl (hb hby d4_31) rfl ((flt hc6).2.2.1) k) ?_
          show own_Fin p.tables e below _ (T4.setTop (mkF m 34 #[.val (.ref ob), .val (.int en), .val (.int lo), .val (.int hi), .val (.int md)] []))
          refine own_step (fun _ k => XS.iload X4.here hx rfl (hb hby d4_34) rfl k) ?_
          show own_Fin p.tables e below _ (T4.setTop (mkF m 36 #[.val (.ref ob), .val (.int en), .val (.int lo), .val (.int hi), .val (.int md)] [(.int md)]))
          refine own_step (fun _ k => XS.istoreN X4.here hx rfl (hb hby d4_36) rfl (l' := #[.val (.ref ob), .val (.int en), .val (.int md), .val (.int hi), .val (.int md)]) rfl k) ?_
          show own_Fin p.tables e below _ (T4.setTop (mkF m 37 #[.val (.ref ob), .val (.int en), .val (.int md), .val (.int hi), .val (.int md)] []))
          refine own_step (fun _ k => XS.goto X4.here hx rfl (pc0 := 37) (pc' := 45) rfl (hb hby d4_37) (by decide) (by decide) k) ?_
          show own_Fin p.tables e below _ (T4.setTop (mkF m 45 #[.val (.ref ob), .val (.int en), .val (.int md), .val (.int hi), .val (.int md)] []))
          refine own_step (fun _ k => XS.goto X4.here hx rfl (pc0 := 45) (pc' := 9) rfl (hb hby d4_45) (by decide) (by decide) k) ?_
          show own_Fin p.tables e below _ (T4.setTop (mkF m 9 #[.val (.ref ob), .val (.int en), .val (.int md), .val (.int hi), .val (.int md)] []))
          exact ih _ (by omega) T4 _ md hi (.val (.int md)) X4 e4 N2 (by first | exact One.u | exact One.val rfl | assumption) (by omega) (by omega) i3 hc6 i5 rfl
      · refine own_step (fun _ k => XS.icmpYes X2.here hx rfl (pc0 := 11) (pc' := 48) rfl (hb hby d4_11) rfl ((flt hc3).2.1) (by decide) (by decide) k) ?_
        show own_Fin p.tables e below _ (T2.setTop (mkF m 48 #[.val (.ref ob), .val (.int en), .val (.int lo), .val (.int hi), sl2_4] []))
        refine own_step (fun _ k => XS.iloadN X2.here hx rfl (hb hby d4_48) rfl k) ?_
        show own_Fin p.tables e below _ (T2.setTop (mkF m 49 #[.val (.ref ob), .val (.int en), .val (.int lo), .val (.int hi), sl2_4] [(.int lo)]))
        obtain ⟨fs7, hr7, hrun7, hended7, hW7, hsame7⟩ := X2.leave (v := some (.int lo)) (fun h => by rw [Bd.returns] at h; cases h)
        refine own_ret (retI X2 hx Bd.returns (hb hby d4_49) hr7) hrun7 hended7 ?_
        refine ⟨_, _, rfl, ?_, ⟨_, rfl⟩, hW7, hsame7.mono (by decide) (by decide)⟩
        show Q4 Z ob en nr ts g h0 n0 _ T2.heap _
        rw [e2]
        have hee : hi = lo := Int32.toInt_inj.mp (by have := mt own_lt.mpr hc3; omega)
        subst hee
        exact ⟨_, rfl, N2, rfl, i1, i3, i4, i5⟩
  exact loop2 _ T1 _ (0 : Int32) (nr - (1 : Int32)) (.unset) X1 e1 N0 (by first | exact One.u | exact One.val rfl | assumption) (by decide) (by rw [own_sub1 hn1]; show (0 : Int) ≤ _; omega) (by rw [own_sub1 hn1]; omega) (by rw [own_c0]; exact hlo) (by have q : (nr - 1).toNatClampNeg + 1 = nr.toNatClampNeg := (by have a1 := own_sub1 hn1; have a2 := own_clamp (n := nr) (by omega); have a3 := own_clamp (n := nr - 1) (by omega); omega); rw [q]; exact hhi) rfl
theorem ef_0 (m : MethodId) (x0 : Int32) (x1 : Int32) (x2 : Int32) : entryFrame m #[(.int x0), (.int x1), (.int x2)] maxLocals = mkF m 0 #[.val (.int x0), .val (.int x1), .val (.int x2), .unset, .unset, .unset, .unset, .unset, .unset] [] := by first | (simp [entryFrame, mkF, argsToLocals, Value.category, maxLocals]; done) | rfl
def Q0 (Z : State) (v0 : Int32) (v1 : Int32) (v2 : Int32) (h0 : Heap) (n0 : Nat) (v : Option Value) (h : Heap) (L : List Loc) : Prop := v = some (.int 1) ∧ Fr n0 L
abbrev P0 (Z : State) (v0 : Int32) (v1 : Int32) (v2 : Int32) (h0 : Heap) (n0 : Nat) (s : State) : Outcome → State → Prop := fun o U' => ∃ v L, o = .returned v ∧ Q0 Z v0 v1 v2 h0 n0 v U'.heap L ∧ FrameEnd s o U' L room_1.cells room_1.slots
theorem pd_0 : parseMethodDescriptor "(III)I" = some ⟨[.int, .int, .int], some .int⟩ := by decide +kernel
theorem pd_1 : parseMethodDescriptor "(II[I[I[DD)V" = some ⟨[.int, .int, (.array .int), (.array .int), (.array .double), .double], none⟩ := by decide +kernel
theorem pd_2 : parseMethodDescriptor "(I)I" = some ⟨[.int], some .int⟩ := by decide +kernel
set_option maxRecDepth 65536 in
set_option maxHeartbeats 40000000 in
theorem rm0 (l : Launch) (Z : State) (a0 : Array Value) (hw : ∀ d ∈ tables_1, d.before a0 Z = true) (ws : List Jvm.Cond) (v0 : Int32) (v1 : Int32) (v2 : Int32) (h0 : Heap) (n0 : Nat) (Z0 : n0 ≤ h0.size) :
    MetFree l x (head1 (Jvm.Cond.code x code maxLocals ret :: ws) room_1) (fun a U => a = #[(.int v0), (.int v1), (.int v2)] ∧ Z.Warmed39 U.vm ∧ U.heap = h0) (fun _ _ _ _ _ => True) (fun _ U o U' => ∃ v L, o = .returned v ∧ Q0 Z v0 v1 v2 h0 n0 v U'.heap L ∧ FrameEnd U o U' L room_1.cells room_1.slots) := by
  refine MetFree.of_bodySF (plainFor_of_name pn_0) hisR ?_
  intro p e s m args below meth c s₁ Bd hml0 hP hK
  obtain ⟨rfl, hZ, hh⟩ := hP
  have hx := Bd.exec
  have hby := Bd.bytes
  have hml : c.maxLocals = 9 := hml0
  have hown : s.vm.findClass "com/example/fusewright/fusewright/runtime/SparseMatrixRowOfPinLaw" = some m.cls := findClass_of_methodNamed Bd.named
  have hnm := (name_of_methodNamed Bd.named Bd.method).1
  have X0 : Stand p l e room_1 s m #[(.int v0), (.int v1), (.int v2)] below meth c s₁ [] 0 0 := Stand.of_body Bd
  have e0 : s₁.heap = h0 := by rw [← hh, Bd.state]; rfl
  have N0 := Fr.nil n0
  refine own_enter (P := (P0 Z v0 v1 v2 h0 n0 s)) (ef_0 m v0 v1 v2) ?_
  show own_Fin p.tables e below _ (s₁.setTop (mkF m 0 #[.val (.int v0), .val (.int v1), .val (.int v2), .unset, .unset, .unset, .unset, .unset, .unset] []))
  refine own_step (fun _ k => XS.iconst X0.here hx rfl (hb hby at_0) k) ?_
  show own_Fin p.tables e below _ (s₁.setTop (mkF m 1 #[.val (.int v0), .val (.int v1), .val (.int v2), .unset, .unset, .unset, .unset, .unset, .unset] [(.int (1 : Int32))]))
  refine own_step (fun _ k => XS.iloadN X0.here hx rfl (hb hby at_1) rfl k) ?_
  show own_Fin p.tables e below _ (s₁.setTop (mkF m 2 #[.val (.int v0), .val (.int v1), .val (.int v2), .unset, .unset, .unset, .unset, .unset, .unset] [(.int v0), (.int (1 : Int32))]))
  refine own_step (fun _ k => XS.bipush X0.here hx rfl (hb hby at_2) k) ?_
  show own_Fin p.tables e below _ (s₁.setTop (mkF m 4 #[.val (.int v0), .val (.int v1), .val (.int v2), .unset, .unset, .unset, .unset, .unset, .unset] [(.int (7 : Int32)), (.int v0), (.int (1 : Int32))]))
  refine own_step (fun _ k => XS.iand X0.here hx rfl (hb hby at_4) rfl k) ?_
  show own_Fin p.tables e below _ (s₁.setTop (mkF m 5 #[.val (.int v0), .val (.int v1), .val (.int v2), .unset, .unset, .unset, .unset, .unset, .unset] [(.int (v0 &&& (7 : Int32))), (.int (1 : Int32))]))
  refine own_step (fun _ k => XS.iadd X0.here hx rfl (hb hby at_5) rfl k) ?_
  show own_Fin p.tables e below _ (s₁.setTop (mkF m 6 #[.val (.int v0), .val (.int v1), .val (.int v2), .unset, .unset, .unset, .unset, .unset, .unset] [(.int ((1 : Int32) + (v0 &&& (7 : Int32))))]))
  refine own_step (fun _ k => XS.istoreN X0.here hx rfl (hb hby at_6) rfl (l' := #[.val (.int v0), .val (.int v1), .val (.int v2), .val (.int ((1 : Int32) + (v0 &&& (7 : Int32)))), .unset, .unset, .unset, .unset, .unset]) rfl k) ?_
  show own_Fin p.tables e below _ (s₁.setTop (mkF m 7 #[.val (.int v0), .val (.int v1), .val (.int v2), .val (.int ((1 : Int32) + (v0 &&& (7 : Int32)))), .unset, .unset, .unset, .unset, .unset] []))
  obtain ⟨nn, hnn⟩ : ∃ z, z = ((1 : Int32) + (v0 &&& (7 : Int32))) := ⟨_, rfl⟩
  rw [← hnn]
  show own_Fin p.tables e below _ (s₁.setTop (mkF m 7 #[.val (.int v0), .val (.int v1), .val (.int v2), .val (.int nn), .unset, .unset, .unset, .unset, .unset] []))
  refine own_step (fun _ k => XS.bipush X0.here hx rfl (hb hby at_7) k) ?_
  show own_Fin p.tables e below _ (s₁.setTop (mkF m 9 #[.val (.int v0), .val (.int v1), .val (.int v2), .val (.int nn), .unset, .unset, .unset, .unset, .unset] [(.int (9 : Int32))]))
  obtain ⟨T1, h1, k1, X1, e1, E1, A1, st1⟩ := newP X0 hx hZ (hw _ (List.mem_of_getElem? (i := 0) rfl)) e0 (g := (mkF m 9 #[.val (.int v0), .val (.int v1), .val (.int v2), .val (.int nn), .unset, .unset, .unset, .unset, .unset] [(.int (9 : Int32))])) rfl (hb hby at_9) rfl (by decide) (cap := 9) (by decide) (by decide) (by decide) (by decide)
  obtain ⟨b1, g1⟩ : ∃ z, z = h0.size := ⟨_, rfl⟩
  rw [← g1] at A1 st1
  refine own_step st1 ?_
  have g_b1 : n0 ≤ b1 := Nat.le_trans Z0 (Nat.le_of_eq g1.symm)
  have f2 := Nat.le_trans Z0 E1.1
  have f3 : Arv Z h1 b1 k1 .int (9 : Int32) [(.int (0 : Int32)), (.int (0 : Int32)), (.int (0 : Int32)), (.int (0 : Int32)), (.int (0 : Int32)), (.int (0 : Int32)), (.int (0 : Int32)), (.int (0 : Int32)), (.int (0 : Int32))] (.int (0 : Int32)) := (Arv.new A1 (by decide)).pad (pad_rep [] (.int (0 : Int32)) 9)
  show own_Fin p.tables e below _ (T1.setTop (mkF m 11 #[.val (.int v0), .val (.int v1), .val (.int v2), .val (.int nn), .unset, .unset, .unset, .unset, .unset] [(.ref b1)]))
  refine own_step (fun _ k => XS.astore X1.here hx rfl (hb hby at_11) rfl rfl (l' := #[.val (.int v0), .val (.int v1), .val (.int v2), .val (.int nn), .val (.ref b1), .unset, .unset, .unset, .unset]) rfl k) ?_
  show own_Fin p.tables e below _ (T1.setTop (mkF m 13 #[.val (.int v0), .val (.int v1), .val (.int v2), .val (.int nn), .val (.ref b1), .unset, .unset, .unset, .unset] []))
  refine own_step (fun _ k => XS.aload X1.here hx rfl (hb hby at_13) rfl rfl k) ?_
  show own_Fin p.tables e below _ (T1.setTop (mkF m 15 #[.val (.int v0), .val (.int v1), .val (.int v2), .val (.int nn), .val (.ref b1), .unset, .unset, .unset, .unset] [(.ref b1)]))
  refine own_step (fun _ k => XS.iconst X1.here hx rfl (hb hby at_15) k) ?_
  show own_Fin p.tables e below _ (T1.setTop (mkF m 16 #[.val (.int v0), .val (.int v1), .val (.int v2), .val (.int nn), .val (.ref b1), .unset, .unset, .unset, .unset] [(.int (0 : Int32)), (.ref b1)]))
  refine own_step (fun _ k => XS.iconst X1.here hx rfl (hb hby at_16) k) ?_
  show own_Fin p.tables e below _ (T1.setTop (mkF m 17 #[.val (.int v0), .val (.int v1), .val (.int v2), .val (.int nn), .val (.ref b1), .unset, .unset, .unset, .unset] [(.int (0 : Int32)), (.int (0 : Int32)), (.ref b1)]))
  obtain ⟨cl4, Ar4, q4, S4, M4, H4, G4⟩ := id f3
  have hin4 : ¬ ((0 : Int32) < 0 ∨ cl4.slots.size ≤ ((0 : Int32)).toNatClampNeg) := inb_of S4 ⟨by decide, by decide⟩
  obtain ⟨T4, h4, X4, e4, W4, st4⟩ := stI X1 hx hZ e1 Ar4 (j := (0 : Int32)) hin4 (g := (mkF m 17 #[.val (.int v0), .val (.int v1), .val (.int v2), .val (.int nn), .val (.ref b1), .unset, .unset, .unset, .unset] [(.int (0 : Int32)), (.int (0 : Int32)), (.ref b1)])) rfl rfl (hb hby at_17)
  refine own_step st4 ?_
  have f5 := Nat.le_trans f2 (Keep.of_wr W4).1
  have f6 : Arv Z h4 b1 k1 .int (9 : Int32) [(.int (0 : Int32)), (.int (0 : Int32)), (.int (0 : Int32)), (.int (0 : Int32)), (.int (0 : Int32)), (.int (0 : Int32)), (.int (0 : Int32)), (.int (0 : Int32)), (.int (0 : Int32))] (.int (0 : Int32)) := Arv.set Ar4 q4 S4 M4 H4 G4 rfl W4 0 rfl (Nat.le_of_ble_eq_true rfl)
  have N7 := Fr.snoc X4 N0 g_b1
  show own_Fin p.tables e below _ (T4.setTop (mkF m 18 #[.val (.int v0), .val (.int v1), .val (.int v2), .val (.int nn), .val (.ref b1), .unset, .unset, .unset, .unset] []))
  refine own_step (fun _ k => XS.aload X4.here hx rfl (hb hby at_18) rfl rfl k) ?_
  show own_Fin p.tables e below _ (T4.setTop (mkF m 20 #[.val (.int v0), .val (.int v1), .val (.int v2), .val (.int nn), .val (.ref b1), .unset, .unset, .unset, .unset] [(.ref b1)]))
  refine own_step (fun _ k => XS.iconst X4.here hx rfl (hb hby at_20) k) ?_
  show own_Fin p.tables e below _ (T4.setTop (mkF m 21 #[.val (.int v0), .val (.int v1), .val (.int v2), .val (.int nn), .val (.ref b1), .unset, .unset, .unset, .unset] [(.int (1 : Int32)), (.ref b1)]))
  refine own_step (fun _ k => XS.aload X4.here hx rfl (hb hby at_21) rfl rfl k) ?_
  show own_Fin p.tables e below _ (T4.setTop (mkF m 23 #[.val (.int v0), .val (.int v1), .val (.int v2), .val (.int nn), .val (.ref b1), .unset, .unset, .unset, .unset] [(.ref b1), (.int (1 : Int32)), (.ref b1)]))
  refine own_step (fun _ k => XS.iconst X4.here hx rfl (hb hby at_23) k) ?_
  show own_Fin p.tables e below _ (T4.setTop (mkF m 24 #[.val (.int v0), .val (.int v1), .val (.int v2), .val (.int nn), .val (.ref b1), .unset, .unset, .unset, .unset] [(.int (0 : Int32)), (.ref b1), (.int (1 : Int32)), (.ref b1)]))
  obtain ⟨cl8, Ar8, -, S8, M8, H8, -⟩ := id f6
  have hin8 : ¬ ((0 : Int32) < 0 ∨ cl8.slots.size ≤ ((0 : Int32)).toNatClampNeg) := inb_of S8 ⟨by decide, by decide⟩
  refine own_step (X4.iaload hx (j := (0 : Int32)) (v := (.int (0 : Int32))) (by first | exact Ar8.1 | (rw [e4]; exact Ar8.1)) (State.isArrayOf_alike hZ.alike Ar8.2.1) Ar8.2.2 hin8 (H8.at hin8 rfl) (g := (mkF m 24 #[.val (.int v0), .val (.int v1), .val (.int v2), .val (.int nn), .val (.ref b1), .unset, .unset, .unset, .unset] [(.int (0 : Int32)), (.ref b1), (.int (1 : Int32)), (.ref b1)])) rfl rfl (hb hby at_24)) ?_
  show own_Fin p.tables e below _ (T4.setTop (mkF m 25 #[.val (.int v0), .val (.int v1), .val (.int v2), .val (.int nn), .val (.ref b1), .unset, .unset, .unset, .unset] [(.int (0 : Int32)), (.int (1 : Int32)), (.ref b1)]))
  refine own_step (fun _ k => XS.iloadN X4.here hx rfl (hb hby at_25) rfl k) ?_
  show own_Fin p.tables e below _ (T4.setTop (mkF m 26 #[.val (.int v0), .val (.int v1), .val (.int v2), .val (.int nn), .val (.ref b1), .unset, .unset, .unset, .unset] [(.int v1), (.int (0 : Int32)), (.int (1 : Int32)), (.ref b1)]))
  refine own_step (fun _ k => XS.iconst X4.here hx rfl (hb hby at_26) k) ?_
  show own_Fin p.tables e below _ (T4.setTop (mkF m 27 #[.val (.int v0), .val (.int v1), .val (.int v2), .val (.int nn), .val (.ref b1), .unset, .unset, .unset, .unset] [(.int (0 : Int32)), (.int v1), (.int (0 : Int32)), (.int (1 : Int32)), (.ref b1)]))
  refine own_step (fun _ k => XS.iloadN X4.here hx rfl (hb hby at_27) rfl k) ?_
  show own_Fin p.tables e below _ (T4.setTop (mkF m 28 #[.val (.int v0), .val (.int v1), .val (.int v2), .val (.int nn), .val (.ref b1), .unset, .unset, .unset, .unset] [(.int nn), (.int (0 : Int32)), (.int v1), (.int (0 : Int32)), (.int (1 : Int32)), (.ref b1)]))
  obtain ⟨_, _, ⟨T9, L9, k9, n9⟩, -, X9, ⟨Lc9, hQ9, l9, y9, z9⟩, st9⟩ := Jvm.LawKit.callS X4 hx (y := (⟨"com/example/fusewright/fusewright/runtime/SparseMatrixRowOfPinLaw", "cnt", "(III)I"⟩ : MethodName)) hown (mvT hZ (hw _ (List.mem_of_getElem? (i := 1) rfl))) (mvT hZ (hw _ (List.mem_of_getElem? (i := 2) rfl))) (mvT hZ (hw _ (List.mem_of_getElem? (i := 3) rfl))) (mvT hZ (hw _ (List.mem_of_getElem? (i := 4) rfl))) (by decide) (backOf (W := 3) (rm1 l Z a0 hw [] v1 (0 : Int32) nn  h4 n0 f5 ) hZ (hw _ (List.mem_of_getElem? (i := 4) rfl)) (hw _ (List.mem_of_getElem? (i := 3) rfl)) (by decide) (by decide)) (g := (mkF m 28 #[.val (.int v0), .val (.int v1), .val (.int v2), .val (.int nn), .val (.ref b1), .unset, .unset, .unset, .unset] [(.int nn), (.int (0 : Int32)), (.int v1), (.int (0 : Int32)), (.int (1 : Int32)), (.ref b1)])) rfl (by rw [hml]; rfl) (argsL := [(.int v1), (.int (0 : Int32)), (.int nn)]) (rest := [(.int (0 : Int32)), (.int (1 : Int32)), (.ref b1)]) (lenOf pd_0 rfl) rfl (by show 2 * 0 + _ ≤ _; exact Nat.le_of_eq rfl) (hb hby at_28) (fun _ _ => ⟨rfl, e4, (by decide : 1 + 0 ≤ _), (by decide : 9 + 0 ≤ _)⟩)
  dsimp only [Pt.U, Pt.locs, Pt.cells, Pt.slots] at X9 l9 y9 z9 st9 hQ9
  subst l9 y9 z9
  obtain ⟨rfl, N9q, e9⟩ := hQ9
  have N9 := Fr.app N7 N9q
  refine own_step st9 ?_
  show own_Fin p.tables e below _ (T9.setTop (mkF m 31 #[.val (.int v0), .val (.int v1), .val (.int v2), .val (.int nn), .val (.ref b1), .unset, .unset, .unset, .unset] [(.int (own_cnt v1 (0 : Int32) nn)), (.int (0 : Int32)), (.int (1 : Int32)), (.ref b1)]))
  refine own_step (fun _ k => XS.iadd X9.here hx rfl (hb hby at_31) rfl k) ?_
  show own_Fin p.tables e below _ (T9.setTop (mkF m 32 #[.val (.int v0), .val (.int v1), .val (.int v2), .val (.int nn), .val (.ref b1), .unset, .unset, .unset, .unset] [(.int ((0 : Int32) + (own_cnt v1 (0 : Int32) nn))), (.int (1 : Int32)), (.ref b1)]))
  obtain ⟨s1, hs1⟩ : ∃ z, z = ((0 : Int32) + (own_cnt v1 (0 : Int32) nn)) := ⟨_, rfl⟩
  rw [← hs1]
  show own_Fin p.tables e below _ (T9.setTop (mkF m 32 #[.val (.int v0), .val (.int v1), .val (.int v2), .val (.int nn), .val (.ref b1), .unset, .unset, .unset, .unset] [(.int s1), (.int (1 : Int32)), (.ref b1)]))
  obtain ⟨cl10, Ar10, q10, S10, M10, H10, G10⟩ := id f6
  have hin10 : ¬ ((1 : Int32) < 0 ∨ cl10.slots.size ≤ ((1 : Int32)).toNatClampNeg) := inb_of S10 ⟨by decide, by decide⟩
  obtain ⟨T10, h10, X10, e10, W10, st10⟩ := stI X9 hx hZ e9 Ar10 (j := (1 : Int32)) hin10 (g := (mkF m 32 #[.val (.int v0), .val (.int v1), .val (.int v2), .val (.int nn), .val (.ref b1), .unset, .unset, .unset, .unset] [(.int s1), (.int (1 : Int32)), (.ref b1)])) rfl rfl (hb hby at_32)
  refine own_step st10 ?_
  have f11 := Nat.le_trans f5 (Keep.of_wr W10).1
  have f12 : Arv Z h10 b1 k1 .int (9 : Int32) [(.int (0 : Int32)), (.int s1), (.int (0 : Int32)), (.int (0 : Int32)), (.int (0 : Int32)), (.int (0 : Int32)), (.int (0 : Int32)), (.int (0 : Int32)), (.int (0 : Int32))] (.int (0 : Int32)) := Arv.set Ar10 q10 S10 M10 H10 G10 rfl W10 1 rfl (Nat.le_of_ble_eq_true rfl)
  have N13 := Fr.snoc X10 N9 g_b1
  show own_Fin p.tables e below _ (T10.setTop (mkF m 33 #[.val (.int v0), .val (.int v1), .val (.int v2), .val (.int nn), .val (.ref b1), .unset, .unset, .unset, .unset] []))
  refine own_step (fun _ k => XS.aload X10.here hx rfl (hb hby at_33) rfl rfl k) ?_
  show own_Fin p.tables e below _ (T10.setTop (mkF m 35 #[.val (.int v0), .val (.int v1), .val (.int v2), .val (.int nn), .val (.ref b1), .unset, .unset, .unset, .unset] [(.ref b1)]))
  refine own_step (fun _ k => XS.iconst X10.here hx rfl (hb hby at_35) k) ?_
  show own_Fin p.tables e below _ (T10.setTop (mkF m 36 #[.val (.int v0), .val (.int v1), .val (.int v2), .val (.int nn), .val (.ref b1), .unset, .unset, .unset, .unset] [(.int (2 : Int32)), (.ref b1)]))
  refine own_step (fun _ k => XS.aload X10.here hx rfl (hb hby at_36) rfl rfl k) ?_
  show own_Fin p.tables e below _ (T10.setTop (mkF m 38 #[.val (.int v0), .val (.int v1), .val (.int v2), .val (.int nn), .val (.ref b1), .unset, .unset, .unset, .unset] [(.ref b1), (.int (2 : Int32)), (.ref b1)]))
  refine own_step (fun _ k => XS.iconst X10.here hx rfl (hb hby at_38) k) ?_
  show own_Fin p.tables e below _ (T10.setTop (mkF m 39 #[.val (.int v0), .val (.int v1), .val (.int v2), .val (.int nn), .val (.ref b1), .unset, .unset, .unset, .unset] [(.int (1 : Int32)), (.ref b1), (.int (2 : Int32)), (.ref b1)]))
  obtain ⟨cl14, Ar14, -, S14, M14, H14, -⟩ := id f12
  have hin14 : ¬ ((1 : Int32) < 0 ∨ cl14.slots.size ≤ ((1 : Int32)).toNatClampNeg) := inb_of S14 ⟨by decide, by decide⟩
  refine own_step (X10.iaload hx (j := (1 : Int32)) (v := (.int s1)) (by first | exact Ar14.1 | (rw [e10]; exact Ar14.1)) (State.isArrayOf_alike hZ.alike Ar14.2.1) Ar14.2.2 hin14 (H14.at hin14 rfl) (g := (mkF m 39 #[.val (.int v0), .val (.int v1), .val (.int v2), .val (.int nn), .val (.ref b1), .unset, .unset, .unset, .unset] [(.int (1 : Int32)), (.ref b1), (.int (2 : Int32)), (.ref b1)])) rfl rfl (hb hby at_39)) ?_
  show own_Fin p.tables e below _ (T10.setTop (mkF m 40 #[.val (.int v0), .val (.int v1), .val (.int v2), .val (.int nn), .val (.ref b1), .unset, .unset, .unset, .unset] [(.int s1), (.int (2 : Int32)), (.ref b1)]))
  refine own_step (fun _ k => XS.iloadN X10.here hx rfl (hb hby at_40) rfl k) ?_
  show own_Fin p.tables e below _ (T10.setTop (mkF m 41 #[.val (.int v0), .val (.int v1), .val (.int v2), .val (.int nn), .val (.ref b1), .unset, .unset, .unset, .unset] [(.int v1), (.int s1), (.int (2 : Int32)), (.ref b1)]))
  refine own_step (fun _ k => XS.iconst X10.here hx rfl (hb hby at_41) k) ?_
  show own_Fin p.tables e below _ (T10.setTop (mkF m 42 #[.val (.int v0), .val (.int v1), .val (.int v2), .val (.int nn), .val (.ref b1), .unset, .unset, .unset, .unset] [(.int (1 : Int32)), (.int v1), (.int s1), (.int (2 : Int32)), (.ref b1)]))
  refine own_step (fun _ k => XS.iloadN X10.here hx rfl (hb hby at_42) rfl k) ?_
  show own_Fin p.tables e below _ (T10.setTop (mkF m 43 #[.val (.int v0), .val (.int v1), .val (.int v2), .val (.int nn), .val (.ref b1), .unset, .unset, .unset, .unset] [(.int nn), (.int (1 : Int32)), (.int v1), (.int s1), (.int (2 : Int32)), (.ref b1)]))
  obtain ⟨_, _, ⟨T15, L15, k15, n15⟩, -, X15, ⟨Lc15, hQ15, l15, y15, z15⟩, st15⟩ := Jvm.LawKit.callS X10 hx (y := (⟨"com/example/fusewright/fusewright/runtime/SparseMatrixRowOfPinLaw", "cnt", "(III)I"⟩ : MethodName)) hown (mvT hZ (hw _ (List.mem_of_getElem? (i := 1) rfl))) (mvT hZ (hw _ (List.mem_of_getElem? (i := 2) rfl))) (mvT hZ (hw _ (List.mem_of_getElem? (i := 3) rfl))) (mvT hZ (hw _ (List.mem_of_getElem? (i := 4) rfl))) (by decide) (backOf (W := 3) (rm1 l Z a0 hw [] v1 (1 : Int32) nn  h10 n0 f11 ) hZ (hw _ (List.mem_of_getElem? (i := 4) rfl)) (hw _ (List.mem_of_getElem? (i := 3) rfl)) (by decide) (by decide)) (g := (mkF m 43 #[.val (.int v0), .val (.int v1), .val (.int v2), .val (.int nn), .val (.ref b1), .unset, .unset, .unset, .unset] [(.int nn), (.int (1 : Int32)), (.int v1), (.int s1), (.int (2 : Int32)), (.ref b1)])) rfl (by rw [hml]; rfl) (argsL := [(.int v1), (.int (1 : Int32)), (.int nn)]) (rest := [(.int s1), (.int (2 : Int32)), (.ref b1)]) (lenOf pd_0 rfl) rfl (by show 2 * 0 + _ ≤ _; exact Nat.le_of_eq rfl) (hb hby at_43) (fun _ _ => ⟨rfl, e10, (by decide : 1 + 0 ≤ _), (by decide : 9 + 0 ≤ _)⟩)
  dsimp only [Pt.U, Pt.locs, Pt.cells, Pt.slots] at X15 l15 y15 z15 st15 hQ15
  subst l15 y15 z15
  obtain ⟨rfl, N15q, e15⟩ := hQ15
  have N15 := Fr.app N13 N15q
  refine own_step st15 ?_
  show own_Fin p.tables e below _ (T15.setTop (mkF m 46 #[.val (.int v0), .val (.int v1), .val (.int v2), .val (.int nn), .val (.ref b1), .unset, .unset, .unset, .unset] [(.int (own_cnt v1 (1 : Int32) nn)), (.int s1), (.int (2 : Int32)), (.ref b1)]))
  refine own_step (fun _ k => XS.iadd X15.here hx rfl (hb hby at_46) rfl k) ?_
  show own_Fin p.tables e below _ (T15.setTop (mkF m 47 #[.val (.int v0), .val (.int v1), .val (.int v2), .val (.int nn), .val (.ref b1), .unset, .unset, .unset, .unset] [(.int (s1 + (own_cnt v1 (1 : Int32) nn))), (.int (2 : Int32)), (.ref b1)]))
  obtain ⟨s2, hs2⟩ : ∃ z, z = (s1 + (own_cnt v1 (1 : Int32) nn)) := ⟨_, rfl⟩
  rw [← hs2]
  show own_Fin p.tables e below _ (T15.setTop (mkF m 47 #[.val (.int v0), .val (.int v1), .val (.int v2), .val (.int nn), .val (.ref b1), .unset, .unset, .unset, .unset] [(.int s2), (.int (2 : Int32)), (.ref b1)]))
  obtain ⟨cl16, Ar16, q16, S16, M16, H16, G16⟩ := id f12
  have hin16 : ¬ ((2 : Int32) < 0 ∨ cl16.slots.size ≤ ((2 : Int32)).toNatClampNeg) := inb_of S16 ⟨by decide, by decide⟩
  obtain ⟨T16, h16, X16, e16, W16, st16⟩ := stI X15 hx hZ e15 Ar16 (j := (2 : Int32)) hin16 (g := (mkF m 47 #[.val (.int v0), .val (.int v1), .val (.int v2), .val (.int nn), .val (.ref b1), .unset, .unset, .unset, .unset] [(.int s2), (.int (2 : Int32)), (.ref b1)])) rfl rfl (hb hby at_47)
  refine own_step st16 ?_
  have f17 := Nat.le_trans f11 (Keep.of_wr W16).1
  have f18 : Arv Z h16 b1 k1 .int (9 : Int32) [(.int (0 : Int32)), (.int s1), (.int s2), (.int (0 : Int32)), (.int (0 : Int32)), (.int (0 : Int32)), (.int (0 : Int32)), (.int (0 : Int32)), (.int (0 : Int32))] (.int (0 : Int32)) := Arv.set Ar16 q16 S16 M16 H16 G16 rfl W16 2 rfl (Nat.le_of_ble_eq_true rfl)
  have N19 := Fr.snoc X16 N15 g_b1
  show own_Fin p.tables e below _ (T16.setTop (mkF m 48 #[.val (.int v0), .val (.int v1), .val (.int v2), .val (.int nn), .val (.ref b1), .unset, .unset, .unset, .unset] []))
  refine own_step (fun _ k => XS.aload X16.here hx rfl (hb hby at_48) rfl rfl k) ?_
  show own_Fin p.tables e below _ (T16.setTop (mkF m 50 #[.val (.int v0), .val (.int v1), .val (.int v2), .val (.int nn), .val (.ref b1), .unset, .unset, .unset, .unset] [(.ref b1)]))
  refine own_step (fun _ k => XS.iconst X16.here hx rfl (hb hby at_50) k) ?_
  show own_Fin p.tables e below _ (T16.setTop (mkF m 51 #[.val (.int v0), .val (.int v1), .val (.int v2), .val (.int nn), .val (.ref b1), .unset, .unset, .unset, .unset] [(.int (3 : Int32)), (.ref b1)]))
  refine own_step (fun _ k => XS.aload X16.here hx rfl (hb hby at_51) rfl rfl k) ?_
  show own_Fin p.tables e below _ (T16.setTop (mkF m 53 #[.val (.int v0), .val (.int v1), .val (.int v2), .val (.int nn), .val (.ref b1), .unset, .unset, .unset, .unset] [(.ref b1), (.int (3 : Int32)), (.ref b1)]))
  refine own_step (fun _ k => XS.iconst X16.here hx rfl (hb hby at_53) k) ?_
  show own_Fin p.tables e below _ (T16.setTop (mkF m 54 #[.val (.int v0), .val (.int v1), .val (.int v2), .val (.int nn), .val (.ref b1), .unset, .unset, .unset, .unset] [(.int (2 : Int32)), (.ref b1), (.int (3 : Int32)), (.ref b1)]))
  obtain ⟨cl20, Ar20, -, S20, M20, H20, -⟩ := id f18
  have hin20 : ¬ ((2 : Int32) < 0 ∨ cl20.slots.size ≤ ((2 : Int32)).toNatClampNeg) := inb_of S20 ⟨by decide, by decide⟩
  refine own_step (X16.iaload hx (j := (2 : Int32)) (v := (.int s2)) (by first | exact Ar20.1 | (rw [e16]; exact Ar20.1)) (State.isArrayOf_alike hZ.alike Ar20.2.1) Ar20.2.2 hin20 (H20.at hin20 rfl) (g := (mkF m 54 #[.val (.int v0), .val (.int v1), .val (.int v2), .val (.int nn), .val (.ref b1), .unset, .unset, .unset, .unset] [(.int (2 : Int32)), (.ref b1), (.int (3 : Int32)), (.ref b1)])) rfl rfl (hb hby at_54)) ?_
  show own_Fin p.tables e below _ (T16.setTop (mkF m 55 #[.val (.int v0), .val (.int v1), .val (.int v2), .val (.int nn), .val (.ref b1), .unset, .unset, .unset, .unset] [(.int s2), (.int (3 : Int32)), (.ref b1)]))
  refine own_step (fun _ k => XS.iloadN X16.here hx rfl (hb hby at_55) rfl k) ?_
  show own_Fin p.tables e below _ (T16.setTop (mkF m 56 #[.val (.int v0), .val (.int v1), .val (.int v2), .val (.int nn), .val (.ref b1), .unset, .unset, .unset, .unset] [(.int v1), (.int s2), (.int (3 : Int32)), (.ref b1)]))
  refine own_step (fun _ k => XS.iconst X16.here hx rfl (hb hby at_56) k) ?_
  show own_Fin p.tables e below _ (T16.setTop (mkF m 57 #[.val (.int v0), .val (.int v1), .val (.int v2), .val (.int nn), .val (.ref b1), .unset, .unset, .unset, .unset] [(.int (2 : Int32)), (.int v1), (.int s2), (.int (3 : Int32)), (.ref b1)]))
  refine own_step (fun _ k => XS.iloadN X16.here hx rfl (hb hby at_57) rfl k) ?_
  show own_Fin p.tables e below _ (T16.setTop (mkF m 58 #[.val (.int v0), .val (.int v1), .val (.int v2), .val (.int nn), .val (.ref b1), .unset, .unset, .unset, .unset] [(.int nn), (.int (2 : Int32)), (.int v1), (.int s2), (.int (3 : Int32)), (.ref b1)]))
  obtain ⟨_, _, ⟨T21, L21, k21, n21⟩, -, X21, ⟨Lc21, hQ21, l21, y21, z21⟩, st21⟩ := Jvm.LawKit.callS X16 hx (y := (⟨"com/example/fusewright/fusewright/runtime/SparseMatrixRowOfPinLaw", "cnt", "(III)I"⟩ : MethodName)) hown (mvT hZ (hw _ (List.mem_of_getElem? (i := 1) rfl))) (mvT hZ (hw _ (List.mem_of_getElem? (i := 2) rfl))) (mvT hZ (hw _ (List.mem_of_getElem? (i := 3) rfl))) (mvT hZ (hw _ (List.mem_of_getElem? (i := 4) rfl))) (by decide) (backOf (W := 3) (rm1 l Z a0 hw [] v1 (2 : Int32) nn  h16 n0 f17 ) hZ (hw _ (List.mem_of_getElem? (i := 4) rfl)) (hw _ (List.mem_of_getElem? (i := 3) rfl)) (by decide) (by decide)) (g := (mkF m 58 #[.val (.int v0), .val (.int v1), .val (.int v2), .val (.int nn), .val (.ref b1), .unset, .unset, .unset, .unset] [(.int nn), (.int (2 : Int32)), (.int v1), (.int s2), (.int (3 : Int32)), (.ref b1)])) rfl (by rw [hml]; rfl) (argsL := [(.int v1), (.int (2 : Int32)), (.int nn)]) (rest := [(.int s2), (.int (3 : Int32)), (.ref b1)]) (lenOf pd_0 rfl) rfl (by show 2 * 0 + _ ≤ _; exact Nat.le_of_eq rfl) (hb hby at_58) (fun _ _ => ⟨rfl, e16, (by decide : 1 + 0 ≤ _), (by decide : 9 + 0 ≤ _)⟩)
  dsimp only [Pt.U, Pt.locs, Pt.cells, Pt.slots] at X21 l21 y21 z21 st21 hQ21
  subst l21 y21 z21
  obtain ⟨rfl, N21q, e21⟩ := hQ21
  have N21 := Fr.app N19 N21q
  refine own_step st21 ?_
  show own_Fin p.tables e below _ (T21.setTop (mkF m 61 #[.val (.int v0), .val (.int v1), .val (.int v2), .val (.int nn), .val (.ref b1), .unset, .unset, .unset, .unset] [(.int (own_cnt v1 (2 : Int32) nn)), (.int s2), (.int (3 : Int32)), (.ref b1)]))
  refine own_step (fun _ k => XS.iadd X21.here hx rfl (hb hby at_61) rfl k) ?_
  show own_Fin p.tables e below _ (T21.setTop (mkF m 62 #[.val (.int v0), .val (.int v1), .val (.int v2), .val (.int nn), .val (.ref b1), .unset, .unset, .unset, .unset] [(.int (s2 + (own_cnt v1 (2 : Int32) nn))), (.int (3 : Int32)), (.ref b1)]))
  obtain ⟨s3, hs3⟩ : ∃ z, z = (s2 + (own_cnt v1 (2 : Int32) nn)) := ⟨_, rfl⟩
  rw [← hs3]
  show own_Fin p.tables e below _ (T21.setTop (mkF m 62 #[.val (.int v0), .val (.int v1), .val (.int v2), .val (.int nn), .val (.ref b1), .unset, .unset, .unset, .unset] [(.int s3), (.int (3 : Int32)), (.ref b1)]))
  obtain ⟨cl22, Ar22, q22, S22, M22, H22, G22⟩ := id f18
  have hin22 : ¬ ((3 : Int32) < 0 ∨ cl22.slots.size ≤ ((3 : Int32)).toNatClampNeg) := inb_of S22 ⟨by decide, by decide⟩
  obtain ⟨T22, h22, X22, e22, W22, st22⟩ := stI X21 hx hZ e21 Ar22 (j := (3 : Int32)) hin22 (g := (mkF m 62 #[.val (.int v0), .val (.int v1), .val (.int v2), .val (.int nn), .val (.ref b1), .unset, .unset, .unset, .unset] [(.int s3), (.int (3 : Int32)), (.ref b1)])) rfl rfl (hb hby at_62)
  refine own_step st22 ?_
  have f23 := Nat.le_trans f17 (Keep.of_wr W22).1
  have f24 : Arv Z h22 b1 k1 .int (9 : Int32) [(.int (0 : Int32)), (.int s1), (.int s2), (.int s3), (.int (0 : Int32)), (.int (0 : Int32)), (.int (0 : Int32)), (.int (0 : Int32)), (.int (0 : Int32))] (.int (0 : Int32)) := Arv.set Ar22 q22 S22 M22 H22 G22 rfl W22 3 rfl (Nat.le_of_ble_eq_true rfl)
  have N25 := Fr.snoc X22 N21 g_b1
  show own_Fin p.tables e below _ (T22.setTop (mkF m 63 #[.val (.int v0), .val (.int v1), .val (.int v2), .val (.int nn), .val (.ref b1), .unset, .unset, .unset, .unset] []))
  refine own_step (fun _ k => XS.aload X22.here hx rfl (hb hby at_63) rfl rfl k) ?_
  show own_Fin p.tables e below _ (T22.setTop (mkF m 65 #[.val (.int v0), .val (.int v1), .val (.int v2), .val (.int nn), .val (.ref b1), .unset, .unset, .unset, .unset] [(.ref b1)]))
  refine own_step (fun _ k => XS.iconst X22.here hx rfl (hb hby at_65) k) ?_
  show own_Fin p.tables e below _ (T22.setTop (mkF m 66 #[.val (.int v0), .val (.int v1), .val (.int v2), .val (.int nn), .val (.ref b1), .unset, .unset, .unset, .unset] [(.int (4 : Int32)), (.ref b1)]))
  refine own_step (fun _ k => XS.aload X22.here hx rfl (hb hby at_66) rfl rfl k) ?_
  show own_Fin p.tables e below _ (T22.setTop (mkF m 68 #[.val (.int v0), .val (.int v1), .val (.int v2), .val (.int nn), .val (.ref b1), .unset, .unset, .unset, .unset] [(.ref b1), (.int (4 : Int32)), (.ref b1)]))
  refine own_step (fun _ k => XS.iconst X22.here hx rfl (hb hby at_68) k) ?_
  show own_Fin p.tables e below _ (T22.setTop (mkF m 69 #[.val (.int v0), .val (.int v1), .val (.int v2), .val (.int nn), .val (.ref b1), .unset, .unset, .unset, .unset] [(.int (3 : Int32)), (.ref b1), (.int (4 : Int32)), (.ref b1)]))
  obtain ⟨cl26, Ar26, -, S26, M26, H26, -⟩ := id f24
  have hin26 : ¬ ((3 : Int32) < 0 ∨ cl26.slots.size ≤ ((3 : Int32)).toNatClampNeg) := inb_of S26 ⟨by decide, by decide⟩
  refine own_step (X22.iaload hx (j := (3 : Int32)) (v := (.int s3)) (by first | exact Ar26.1 | (rw [e22]; exact Ar26.1)) (State.isArrayOf_alike hZ.alike Ar26.2.1) Ar26.2.2 hin26 (H26.at hin26 rfl) (g := (mkF m 69 #[.val (.int v0), .val (.int v1), .val (.int v2), .val (.int nn), .val (.ref b1), .unset, .unset, .unset, .unset] [(.int (3 : Int32)), (.ref b1), (.int (4 : Int32)), (.ref b1)])) rfl rfl (hb hby at_69)) ?_
  show own_Fin p.tables e below _ (T22.setTop (mkF m 70 #[.val (.int v0), .val (.int v1), .val (.int v2), .val (.int nn), .val (.ref b1), .unset, .unset, .unset, .unset] [(.int s3), (.int (4 : Int32)), (.ref b1)]))
  refine own_step (fun _ k => XS.iloadN X22.here hx rfl (hb hby at_70) rfl k) ?_
  show own_Fin p.tables e below _ (T22.setTop (mkF m 71 #[.val (.int v0), .val (.int v1), .val (.int v2), .val (.int nn), .val (.ref b1), .unset, .unset, .unset, .unset] [(.int v1), (.int s3), (.int (4 : Int32)), (.ref b1)]))
  refine own_step (fun _ k => XS.iconst X22.here hx rfl (hb hby at_71) k) ?_
  show own_Fin p.tables e below _ (T22.setTop (mkF m 72 #[.val (.int v0), .val (.int v1), .val (.int v2), .val (.int nn), .val (.ref b1), .unset, .unset, .unset, .unset] [(.int (3 : Int32)), (.int v1), (.int s3), (.int (4 : Int32)), (.ref b1)]))
  refine own_step (fun _ k => XS.iloadN X22.here hx rfl (hb hby at_72) rfl k) ?_
  show own_Fin p.tables e below _ (T22.setTop (mkF m 73 #[.val (.int v0), .val (.int v1), .val (.int v2), .val (.int nn), .val (.ref b1), .unset, .unset, .unset, .unset] [(.int nn), (.int (3 : Int32)), (.int v1), (.int s3), (.int (4 : Int32)), (.ref b1)]))
  obtain ⟨_, _, ⟨T27, L27, k27, n27⟩, -, X27, ⟨Lc27, hQ27, l27, y27, z27⟩, st27⟩ := Jvm.LawKit.callS X22 hx (y := (⟨"com/example/fusewright/fusewright/runtime/SparseMatrixRowOfPinLaw", "cnt", "(III)I"⟩ : MethodName)) hown (mvT hZ (hw _ (List.mem_of_getElem? (i := 1) rfl))) (mvT hZ (hw _ (List.mem_of_getElem? (i := 2) rfl))) (mvT hZ (hw _ (List.mem_of_getElem? (i := 3) rfl))) (mvT hZ (hw _ (List.mem_of_getElem? (i := 4) rfl))) (by decide) (backOf (W := 3) (rm1 l Z a0 hw [] v1 (3 : Int32) nn  h22 n0 f23 ) hZ (hw _ (List.mem_of_getElem? (i := 4) rfl)) (hw _ (List.mem_of_getElem? (i := 3) rfl)) (by decide) (by decide)) (g := (mkF m 73 #[.val (.int v0), .val (.int v1), .val (.int v2), .val (.int nn), .val (.ref b1), .unset, .unset, .unset, .unset] [(.int nn), (.int (3 : Int32)), (.int v1), (.int s3), (.int (4 : Int32)), (.ref b1)])) rfl (by rw [hml]; rfl) (argsL := [(.int v1), (.int (3 : Int32)), (.int nn)]) (rest := [(.int s3), (.int (4 : Int32)), (.ref b1)]) (lenOf pd_0 rfl) rfl (by show 2 * 0 + _ ≤ _; exact Nat.le_of_eq rfl) (hb hby at_73) (fun _ _ => ⟨rfl, e22, (by decide : 1 + 0 ≤ _), (by decide : 9 + 0 ≤ _)⟩)
  dsimp only [Pt.U, Pt.locs, Pt.cells, Pt.slots] at X27 l27 y27 z27 st27 hQ27
  subst l27 y27 z27
  obtain ⟨rfl, N27q, e27⟩ := hQ27
  have N27 := Fr.app N25 N27q
  refine own_step st27 ?_
  show own_Fin p.tables e below _ (T27.setTop (mkF m 76 #[.val (.int v0), .val (.int v1), .val (.int v2), .val (.int nn), .val (.ref b1), .unset, .unset, .unset, .unset] [(.int (own_cnt v1 (3 : Int32) nn)), (.int s3), (.int (4 : Int32)), (.ref b1)]))
  refine own_step (fun _ k => XS.iadd X27.here hx rfl (hb hby at_76) rfl k) ?_
  show own_Fin p.tables e below _ (T27.setTop (mkF m 77 #[.val (.int v0), .val (.int v1), .val (.int v2), .val (.int nn), .val (.ref b1), .unset, .unset, .unset, .unset] [(.int (s3 + (own_cnt v1 (3 : Int32) nn))), (.int (4 : Int32)), (.ref b1)]))
  obtain ⟨s4, hs4⟩ : ∃ z, z = (s3 + (own_cnt v1 (3 : Int32) nn)) := ⟨_, rfl⟩
  rw [← hs4]
  show own_Fin p.tables e below _ (T27.setTop (mkF m 77 #[.val (.int v0), .val (.int v1), .val (.int v2), .val (.int nn), .val (.ref b1), .unset, .unset, .unset, .unset] [(.int s4), (.int (4 : Int32)), (.ref b1)]))
  obtain ⟨cl28, Ar28, q28, S28, M28, H28, G28⟩ := id f24
  have hin28 : ¬ ((4 : Int32) < 0 ∨ cl28.slots.size ≤ ((4 : Int32)).toNatClampNeg) := inb_of S28 ⟨by decide, by decide⟩
  obtain ⟨T28, h28, X28, e28, W28, st28⟩ := stI X27 hx hZ e27 Ar28 (j := (4 : Int32)) hin28 (g := (mkF m 77 #[.val (.int v0), .val (.int v1), .val (.int v2), .val (.int nn), .val (.ref b1), .unset, .unset, .unset, .unset] [(.int s4), (.int (4 : Int32)), (.ref b1)])) rfl rfl (hb hby at_77)
  refine own_step st28 ?_
  have f29 := Nat.le_trans f23 (Keep.of_wr W28).1
  have f30 : Arv Z h28 b1 k1 .int (9 : Int32) [(.int (0 : Int32)), (.int s1), (.int s2), (.int s3), (.int s4), (.int (0 : Int32)), (.int (0 : Int32)), (.int (0 : Int32)), (.int (0 : Int32))] (.int (0 : Int32)) := Arv.set Ar28 q28 S28 M28 H28 G28 rfl W28 4 rfl (Nat.le_of_ble_eq_true rfl)
  have N31 := Fr.snoc X28 N27 g_b1
  show own_Fin p.tables e below _ (T28.setTop (mkF m 78 #[.val (.int v0), .val (.int v1), .val (.int v2), .val (.int nn), .val (.ref b1), .unset, .unset, .unset, .unset] []))
  refine own_step (fun _ k => XS.aload X28.here hx rfl (hb hby at_78) rfl rfl k) ?_
  show own_Fin p.tables e below _ (T28.setTop (mkF m 80 #[.val (.int v0), .val (.int v1), .val (.int v2), .val (.int nn), .val (.ref b1), .unset, .unset, .unset, .unset] [(.ref b1)]))
  refine own_step (fun _ k => XS.iconst X28.here hx rfl (hb hby at_80) k) ?_
  show own_Fin p.tables e below _ (T28.setTop (mkF m 81 #[.val (.int v0), .val (.int v1), .val (.int v2), .val (.int nn), .val (.ref b1), .unset, .unset, .unset, .unset] [(.int (5 : Int32)), (.ref b1)]))
  refine own_step (fun _ k => XS.aload X28.here hx rfl (hb hby at_81) rfl rfl k) ?_
  show own_Fin p.tables e below _ (T28.setTop (mkF m 83 #[.val (.int v0), .val (.int v1), .val (.int v2), .val (.int nn), .val (.ref b1), .unset, .unset, .unset, .unset] [(.ref b1), (.int (5 : Int32)), (.ref b1)]))
  refine own_step (fun _ k => XS.iconst X28.here hx rfl (hb hby at_83) k) ?_
  show own_Fin p.tables e below _ (T28.setTop (mkF m 84 #[.val (.int v0), .val (.int v1), .val (.int v2), .val (.int nn), .val (.ref b1), .unset, .unset, .unset, .unset] [(.int (4 : Int32)), (.ref b1), (.int (5 : Int32)), (.ref b1)]))
  obtain ⟨cl32, Ar32, -, S32, M32, H32, -⟩ := id f30
  have hin32 : ¬ ((4 : Int32) < 0 ∨ cl32.slots.size ≤ ((4 : Int32)).toNatClampNeg) := inb_of S32 ⟨by decide, by decide⟩
  refine own_step (X28.iaload hx (j := (4 : Int32)) (v := (.int s4)) (by first | exact Ar32.1 | (rw [e28]; exact Ar32.1)) (State.isArrayOf_alike hZ.alike Ar32.2.1) Ar32.2.2 hin32 (H32.at hin32 rfl) (g := (mkF m 84 #[.val (.int v0), .val (.int v1), .val (.int v2), .val (.int nn), .val (.ref b1), .unset, .unset, .unset, .unset] [(.int (4 : Int32)), (.ref b1), (.int (5 : Int32)), (.ref b1)])) rfl rfl (hb hby at_84)) ?_
  show own_Fin p.tables e below _ (T28.setTop (mkF m 85 #[.val (.int v0), .val (.int v1), .val (.int v2), .val (.int nn), .val (.ref b1), .unset, .unset, .unset, .unset] [(.int s4), (.int (5 : Int32)), (.ref b1)]))
  refine own_step (fun _ k => XS.iloadN X28.here hx rfl (hb hby at_85) rfl k) ?_
  show own_Fin p.tables e below _ (T28.setTop (mkF m 86 #[.val (.int v0), .val (.int v1), .val (.int v2), .val (.int nn), .val (.ref b1), .unset, .unset, .unset, .unset] [(.int v1), (.int s4), (.int (5 : Int32)), (.ref b1)]))
  refine own_step (fun _ k => XS.iconst X28.here hx rfl (hb hby at_86) k) ?_
  show own_Fin p.tables e below _ (T28.setTop (mkF m 87 #[.val (.int v0), .val (.int v1), .val (.int v2), .val (.int nn), .val (.ref b1), .unset, .unset, .unset, .unset] [(.int (4 : Int32)), (.int v1), (.int s4), (.int (5 : Int32)), (.ref b1)]))
  refine own_step (fun _ k => XS.iloadN X28.here hx rfl (hb hby at_87) rfl k) ?_
  show own_Fin p.tables e below _ (T28.setTop (mkF m 88 #[.val (.int v0), .val (.int v1), .val (.int v2), .val (.int nn), .val (.ref b1), .unset, .unset, .unset, .unset] [(.int nn), (.int (4 : Int32)), (.int v1), (.int s4), (.int (5 : Int32)), (.ref b1)]))
  obtain ⟨_, _, ⟨T33, L33, k33, n33⟩, -, X33, ⟨Lc33, hQ33, l33, y33, z33⟩, st33⟩ := Jvm.LawKit.callS X28 hx (y := (⟨"com/example/fusewright/fusewright/runtime/SparseMatrixRowOfPinLaw", "cnt", "(III)I"⟩ : MethodName)) hown (mvT hZ (hw _ (List.mem_of_getElem? (i := 1) rfl))) (mvT hZ (hw _ (List.mem_of_getElem? (i := 2) rfl))) (mvT hZ (hw _ (List.mem_of_getElem? (i := 3) rfl))) (mvT hZ (hw _ (List.mem_of_getElem? (i := 4) rfl))) (by decide) (backOf (W := 3) (rm1 l Z a0 hw [] v1 (4 : Int32) nn  h28 n0 f29 ) hZ (hw _ (List.mem_of_getElem? (i := 4) rfl)) (hw _ (List.mem_of_getElem? (i := 3) rfl)) (by decide) (by decide)) (g := (mkF m 88 #[.val (.int v0), .val (.int v1), .val (.int v2), .val (.int nn), .val (.ref b1), .unset, .unset, .unset, .unset] [(.int nn), (.int (4 : Int32)), (.int v1), (.int s4), (.int (5 : Int32)), (.ref b1)])) rfl (by rw [hml]; rfl) (argsL := [(.int v1), (.int (4 : Int32)), (.int nn)]) (rest := [(.int s4), (.int (5 : Int32)), (.ref b1)]) (lenOf pd_0 rfl) rfl (by show 2 * 0 + _ ≤ _; exact Nat.le_of_eq rfl) (hb hby at_88) (fun _ _ => ⟨rfl, e28, (by decide : 1 + 0 ≤ _), (by decide : 9 + 0 ≤ _)⟩)
  dsimp only [Pt.U, Pt.locs, Pt.cells, Pt.slots] at X33 l33 y33 z33 st33 hQ33
  subst l33 y33 z33
  obtain ⟨rfl, N33q, e33⟩ := hQ33
  have N33 := Fr.app N31 N33q
  refine own_step st33 ?_
  show own_Fin p.tables e below _ (T33.setTop (mkF m 91 #[.val (.int v0), .val (.int v1), .val (.int v2), .val (.int nn), .val (.ref b1), .unset, .unset, .unset, .unset] [(.int (own_cnt v1 (4 : Int32) nn)), (.int s4), (.int (5 : Int32)), (.ref b1)]))
  refine own_step (fun _ k => XS.iadd X33.here hx rfl (hb hby at_91) rfl k) ?_
  show own_Fin p.tables e below _ (T33.setTop (mkF m 92 #[.val (.int v0), .val (.int v1), .val (.int v2), .val (.int nn), .val (.ref b1), .unset, .unset, .unset, .unset] [(.int (s4 + (own_cnt v1 (4 : Int32) nn))), (.int (5 : Int32)), (.ref b1)]))
  obtain ⟨s5, hs5⟩ : ∃ z, z = (s4 + (own_cnt v1 (4 : Int32) nn)) := ⟨_, rfl⟩
  rw [← hs5]
  show own_Fin p.tables e below _ (T33.setTop (mkF m 92 #[.val (.int v0), .val (.int v1), .val (.int v2), .val (.int nn), .val (.ref b1), .unset, .unset, .unset, .unset] [(.int s5), (.int (5 : Int32)), (.ref b1)]))
  obtain ⟨cl34, Ar34, q34, S34, M34, H34, G34⟩ := id f30
  have hin34 : ¬ ((5 : Int32) < 0 ∨ cl34.slots.size ≤ ((5 : Int32)).toNatClampNeg) := inb_of S34 ⟨by decide, by decide⟩
  obtain ⟨T34, h34, X34, e34, W34, st34⟩ := stI X33 hx hZ e33 Ar34 (j := (5 : Int32)) hin34 (g := (mkF m 92 #[.val (.int v0), .val (.int v1), .val (.int v2), .val (.int nn), .val (.ref b1), .unset, .unset, .unset, .unset] [(.int s5), (.int (5 : Int32)), (.ref b1)])) rfl rfl (hb hby at_92)
  refine own_step st34 ?_
  have f35 := Nat.le_trans f29 (Keep.of_wr W34).1
  have f36 : Arv Z h34 b1 k1 .int (9 : Int32) [(.int (0 : Int32)), (.int s1), (.int s2), (.int s3), (.int s4), (.int s5), (.int (0 : Int32)), (.int (0 : Int32)), (.int (0 : Int32))] (.int (0 : Int32)) := Arv.set Ar34 q34 S34 M34 H34 G34 rfl W34 5 rfl (Nat.le_of_ble_eq_true rfl)
  have N37 := Fr.snoc X34 N33 g_b1
  show own_Fin p.tables e below _ (T34.setTop (mkF m 93 #[.val (.int v0), .val (.int v1), .val (.int v2), .val (.int nn), .val (.ref b1), .unset, .unset, .unset, .unset] []))
  refine own_step (fun _ k => XS.aload X34.here hx rfl (hb hby at_93) rfl rfl k) ?_
  show own_Fin p.tables e below _ (T34.setTop (mkF m 95 #[.val (.int v0), .val (.int v1), .val (.int v2), .val (.int nn), .val (.ref b1), .unset, .unset, .unset, .unset] [(.ref b1)]))
  refine own_step (fun _ k => XS.bipush X34.here hx rfl (hb hby at_95) k) ?_
  show own_Fin p.tables e below _ (T34.setTop (mkF m 97 #[.val (.int v0), .val (.int v1), .val (.int v2), .val (.int nn), .val (.ref b1), .unset, .unset, .unset, .unset] [(.int (6 : Int32)), (.ref b1)]))
  refine own_step (fun _ k => XS.aload X34.here hx rfl (hb hby at_97) rfl rfl k) ?_
  show own_Fin p.tables e below _ (T34.setTop (mkF m 99 #[.val (.int v0), .val (.int v1), .val (.int v2), .val (.int nn), .val (.ref b1), .unset, .unset, .unset, .unset] [(.ref b1), (.int (6 : Int32)), (.ref b1)]))
  refine own_step (fun _ k => XS.iconst X34.here hx rfl (hb hby at_99) k) ?_
  show own_Fin p.tables e below _ (T34.setTop (mkF m 100 #[.val (.int v0), .val (.int v1), .val (.int v2), .val (.int nn), .val (.ref b1), .unset, .unset, .unset, .unset] [(.int (5 : Int32)), (.ref b1), (.int (6 : Int32)), (.ref b1)]))
  obtain ⟨cl38, Ar38, -, S38, M38, H38, -⟩ := id f36
  have hin38 : ¬ ((5 : Int32) < 0 ∨ cl38.slots.size ≤ ((5 : Int32)).toNatClampNeg) := inb_of S38 ⟨by decide, by decide⟩
  refine own_step (X34.iaload hx (j := (5 : Int32)) (v := (.int s5)) (by first | exact Ar38.1 | (rw [e34]; exact Ar38.1)) (State.isArrayOf_alike hZ.alike Ar38.2.1) Ar38.2.2 hin38 (H38.at hin38 rfl) (g := (mkF m 100 #[.val (.int v0), .val (.int v1), .val (.int v2), .val (.int nn), .val (.ref b1), .unset, .unset, .unset, .unset] [(.int (5 : Int32)), (.ref b1), (.int (6 : Int32)), (.ref b1)])) rfl rfl (hb hby at_100)) ?_
  show own_Fin p.tables e below _ (T34.setTop (mkF m 101 #[.val (.int v0), .val (.int v1), .val (.int v2), .val (.int nn), .val (.ref b1), .unset, .unset, .unset, .unset] [(.int s5), (.int (6 : Int32)), (.ref b1)]))
  refine own_step (fun _ k => XS.iloadN X34.here hx rfl (hb hby at_101) rfl k) ?_
  show own_Fin p.tables e below _ (T34.setTop (mkF m 102 #[.val (.int v0), .val (.int v1), .val (.int v2), .val (.int nn), .val (.ref b1), .unset, .unset, .unset, .unset] [(.int v1), (.int s5), (.int (6 : Int32)), (.ref b1)]))
  refine own_step (fun _ k => XS.iconst X34.here hx rfl (hb hby at_102) k) ?_
  show own_Fin p.tables e below _ (T34.setTop (mkF m 103 #[.val (.int v0), .val (.int v1), .val (.int v2), .val (.int nn), .val (.ref b1), .unset, .unset, .unset, .unset] [(.int (5 : Int32)), (.int v1), (.int s5), (.int (6 : Int32)), (.ref b1)]))
  refine own_step (fun _ k => XS.iloadN X34.here hx rfl (hb hby at_103) rfl k) ?_
  show own_Fin p.tables e below _ (T34.setTop (mkF m 104 #[.val (.int v0), .val (.int v1), .val (.int v2), .val (.int nn), .val (.ref b1), .unset, .unset, .unset, .unset] [(.int nn), (.int (5 : Int32)), (.int v1), (.int s5), (.int (6 : Int32)), (.ref b1)]))
  obtain ⟨_, _, ⟨T39, L39, k39, n39⟩, -, X39, ⟨Lc39, hQ39, l39, y39, z39⟩, st39⟩ := Jvm.LawKit.callS X34 hx (y := (⟨"com/example/fusewright/fusewright/runtime/SparseMatrixRowOfPinLaw", "cnt", "(III)I"⟩ : MethodName)) hown (mvT hZ (hw _ (List.mem_of_getElem? (i := 1) rfl))) (mvT hZ (hw _ (List.mem_of_getElem? (i := 2) rfl))) (mvT hZ (hw _ (List.mem_of_getElem? (i := 3) rfl))) (mvT hZ (hw _ (List.mem_of_getElem? (i := 4) rfl))) (by decide) (backOf (W := 3) (rm1 l Z a0 hw [] v1 (5 : Int32) nn  h34 n0 f35 ) hZ (hw _ (List.mem_of_getElem? (i := 4) rfl)) (hw _ (List.mem_of_getElem? (i := 3) rfl)) (by decide) (by decide)) (g := (mkF m 104 #[.val (.int v0), .val (.int v1), .val (.int v2), .val (.int nn), .val (.ref b1), .unset, .unset, .unset, .unset] [(.int nn), (.int (5 : Int32)), (.int v1), (.int s5), (.int (6 : Int32)), (.ref b1)])) rfl (by rw [hml]; rfl) (argsL := [(.int v1), (.int (5 : Int32)), (.int nn)]) (rest := [(.int s5), (.int (6 : Int32)), (.ref b1)]) (lenOf pd_0 rfl) rfl (by show 2 * 0 + _ ≤ _; exact Nat.le_of_eq rfl) (hb hby at_104) (fun _ _ => ⟨rfl, e34, (by decide : 1 + 0 ≤ _), (by decide : 9 + 0 ≤ _)⟩)
  dsimp only [Pt.U, Pt.locs, Pt.cells, Pt.slots] at X39 l39 y39 z39 st39 hQ39
  subst l39 y39 z39
  obtain ⟨rfl, N39q, e39⟩ := hQ39
  have N39 := Fr.app N37 N39q
  refine own_step st39 ?_
  show own_Fin p.tables e below _ (T39.setTop (mkF m 107 #[.val (.int v0), .val (.int v1), .val (.int v2), .val (.int nn), .val (.ref b1), .unset, .unset, .unset, .unset] [(.int (own_cnt v1 (5 : Int32) nn)), (.int s5), (.int (6 : Int32)), (.ref b1)]))
  refine own_step (fun _ k => XS.iadd X39.here hx rfl (hb hby at_107) rfl k) ?_
  show own_Fin p.tables e below _ (T39.setTop (mkF m 108 #[.val (.int v0), .val (.int v1), .val (.int v2), .val (.int nn), .val (.ref b1), .unset, .unset, .unset, .unset] [(.int (s5 + (own_cnt v1 (5 : Int32) nn))), (.int (6 : Int32)), (.ref b1)]))
  obtain ⟨s6, hs6⟩ : ∃ z, z = (s5 + (own_cnt v1 (5 : Int32) nn)) := ⟨_, rfl⟩
  rw [← hs6]
  show own_Fin p.tables e below _ (T39.setTop (mkF m 108 #[.val (.int v0), .val (.int v1), .val (.int v2), .val (.int nn), .val (.ref b1), .unset, .unset, .unset, .unset] [(.int s6), (.int (6 : Int32)), (.ref b1)]))
  obtain ⟨cl40, Ar40, q40, S40, M40, H40, G40⟩ := id f36
  have hin40 : ¬ ((6 : Int32) < 0 ∨ cl40.slots.size ≤ ((6 : Int32)).toNatClampNeg) := inb_of S40 ⟨by decide, by decide⟩
  obtain ⟨T40, h40, X40, e40, W40, st40⟩ := stI X39 hx hZ e39 Ar40 (j := (6 : Int32)) hin40 (g := (mkF m 108 #[.val (.int v0), .val (.int v1), .val (.int v2), .val (.int nn), .val (.ref b1), .unset, .unset, .unset, .unset] [(.int s6), (.int (6 : Int32)), (.ref b1)])) rfl rfl (hb hby at_108)
  refine own_step st40 ?_
  have f41 := Nat.le_trans f35 (Keep.of_wr W40).1
  have f42 : Arv Z h40 b1 k1 .int (9 : Int32) [(.int (0 : Int32)), (.int s1), (.int s2), (.int s3), (.int s4), (.int s5), (.int s6), (.int (0 : Int32)), (.int (0 : Int32))] (.int (0 : Int32)) := Arv.set Ar40 q40 S40 M40 H40 G40 rfl W40 6 rfl (Nat.le_of_ble_eq_true rfl)
  have N43 := Fr.snoc X40 N39 g_b1
  show own_Fin p.tables e below _ (T40.setTop (mkF m 109 #[.val (.int v0), .val (.int v1), .val (.int v2), .val (.int nn), .val (.ref b1), .unset, .unset, .unset, .unset] []))
  refine own_step (fun _ k => XS.aload X40.here hx rfl (hb hby at_109) rfl rfl k) ?_
  show own_Fin p.tables e below _ (T40.setTop (mkF m 111 #[.val (.int v0), .val (.int v1), .val (.int v2), .val (.int nn), .val (.ref b1), .unset, .unset, .unset, .unset] [(.ref b1)]))
  refine own_step (fun _ k => XS.bipush X40.here hx rfl (hb hby at_111) k) ?_
  show own_Fin p.tables e below _ (T40.setTop (mkF m 113 #[.val (.int v0), .val (.int v1), .val (.int v2), .val (.int nn), .val (.ref b1), .unset, .unset, .unset, .unset] [(.int (7 : Int32)), (.ref b1)]))
  refine own_step (fun _ k => XS.aload X40.here hx rfl (hb hby at_113) rfl rfl k) ?_
  show own_Fin p.tables e below _ (T40.setTop (mkF m 115 #[.val (.int v0), .val (.int v1), .val (.int v2), .val (.int nn), .val (.ref b1), .unset, .unset, .unset, .unset] [(.ref b1), (.int (7 : Int32)), (.ref b1)]))
  refine own_step (fun _ k => XS.bipush X40.here hx rfl (hb hby at_115) k) ?_
  show own_Fin p.tables e below _ (T40.setTop (mkF m 117 #[.val (.int v0), .val (.int v1), .val (.int v2), .val (.int nn), .val (.ref b1), .unset, .unset, .unset, .unset] [(.int (6 : Int32)), (.ref b1), (.int (7 : Int32)), (.ref b1)]))
  obtain ⟨cl44, Ar44, -, S44, M44, H44, -⟩ := id f42
  have hin44 : ¬ ((6 : Int32) < 0 ∨ cl44.slots.size ≤ ((6 : Int32)).toNatClampNeg) := inb_of S44 ⟨by decide, by decide⟩
  refine own_step (X40.iaload hx (j := (6 : Int32)) (v := (.int s6)) (by first | exact Ar44.1 | (rw [e40]; exact Ar44.1)) (State.isArrayOf_alike hZ.alike Ar44.2.1) Ar44.2.2 hin44 (H44.at hin44 rfl) (g := (mkF m 117 #[.val (.int v0), .val (.int v1), .val (.int v2), .val (.int nn), .val (.ref b1), .unset, .unset, .unset, .unset] [(.int (6 : Int32)), (.ref b1), (.int (7 : Int32)), (.ref b1)])) rfl rfl (hb hby at_117)) ?_
  show own_Fin p.tables e below _ (T40.setTop (mkF m 118 #[.val (.int v0), .val (.int v1), .val (.int v2), .val (.int nn), .val (.ref b1), .unset, .unset, .unset, .unset] [(.int s6), (.int (7 : Int32)), (.ref b1)]))
  refine own_step (fun _ k => XS.iloadN X40.here hx rfl (hb hby at_118) rfl k) ?_
  show own_Fin p.tables e below _ (T40.setTop (mkF m 119 #[.val (.int v0), .val (.int v1), .val (.int v2), .val (.int nn), .val (.ref b1), .unset, .unset, .unset, .unset] [(.int v1), (.int s6), (.int (7 : Int32)), (.ref b1)]))
  refine own_step (fun _ k => XS.bipush X40.here hx rfl (hb hby at_119) k) ?_
  show own_Fin p.tables e below _ (T40.setTop (mkF m 121 #[.val (.int v0), .val (.int v1), .val (.int v2), .val (.int nn), .val (.ref b1), .unset, .unset, .unset, .unset] [(.int (6 : Int32)), (.int v1), (.int s6), (.int (7 : Int32)), (.ref b1)]))
  refine own_step (fun _ k => XS.iloadN X40.here hx rfl (hb hby at_121) rfl k) ?_
  show own_Fin p.tables e below _ (T40.setTop (mkF m 122 #[.val (.int v0), .val (.int v1), .val (.int v2), .val (.int nn), .val (.ref b1), .unset, .unset, .unset, .unset] [(.int nn), (.int (6 : Int32)), (.int v1), (.int s6), (.int (7 : Int32)), (.ref b1)]))
  obtain ⟨_, _, ⟨T45, L45, k45, n45⟩, -, X45, ⟨Lc45, hQ45, l45, y45, z45⟩, st45⟩ := Jvm.LawKit.callS X40 hx (y := (⟨"com/example/fusewright/fusewright/runtime/SparseMatrixRowOfPinLaw", "cnt", "(III)I"⟩ : MethodName)) hown (mvT hZ (hw _ (List.mem_of_getElem? (i := 1) rfl))) (mvT hZ (hw _ (List.mem_of_getElem? (i := 2) rfl))) (mvT hZ (hw _ (List.mem_of_getElem? (i := 3) rfl))) (mvT hZ (hw _ (List.mem_of_getElem? (i := 4) rfl))) (by decide) (backOf (W := 3) (rm1 l Z a0 hw [] v1 (6 : Int32) nn  h40 n0 f41 ) hZ (hw _ (List.mem_of_getElem? (i := 4) rfl)) (hw _ (List.mem_of_getElem? (i := 3) rfl)) (by decide) (by decide)) (g := (mkF m 122 #[.val (.int v0), .val (.int v1), .val (.int v2), .val (.int nn), .val (.ref b1), .unset, .unset, .unset, .unset] [(.int nn), (.int (6 : Int32)), (.int v1), (.int s6), (.int (7 : Int32)), (.ref b1)])) rfl (by rw [hml]; rfl) (argsL := [(.int v1), (.int (6 : Int32)), (.int nn)]) (rest := [(.int s6), (.int (7 : Int32)), (.ref b1)]) (lenOf pd_0 rfl) rfl (by show 2 * 0 + _ ≤ _; exact Nat.le_of_eq rfl) (hb hby at_122) (fun _ _ => ⟨rfl, e40, (by decide : 1 + 0 ≤ _), (by decide : 9 + 0 ≤ _)⟩)
  dsimp only [Pt.U, Pt.locs, Pt.cells, Pt.slots] at X45 l45 y45 z45 st45 hQ45
  subst l45 y45 z45
  obtain ⟨rfl, N45q, e45⟩ := hQ45
  have N45 := Fr.app N43 N45q
  refine own_step st45 ?_
  show own_Fin p.tables e below _ (T45.setTop (mkF m 125 #[.val (.int v0), .val (.int v1), .val (.int v2), .val (.int nn), .val (.ref b1), .unset, .unset, .unset, .unset] [(.int (own_cnt v1 (6 : Int32) nn)), (.int s6), (.int (7 : Int32)), (.ref b1)]))
  refine own_step (fun _ k => XS.iadd X45.here hx rfl (hb hby at_125) rfl k) ?_
  show own_Fin p.tables e below _ (T45.setTop (mkF m 126 #[.val (.int v0), .val (.int v1), .val (.int v2), .val (.int nn), .val (.ref b1), .unset, .unset, .unset, .unset] [(.int (s6 + (own_cnt v1 (6 : Int32) nn))), (.int (7 : Int32)), (.ref b1)]))
  obtain ⟨s7, hs7⟩ : ∃ z, z = (s6 + (own_cnt v1 (6 : Int32) nn)) := ⟨_, rfl⟩
  rw [← hs7]
  show own_Fin p.tables e below _ (T45.setTop (mkF m 126 #[.val (.int v0), .val (.int v1), .val (.int v2), .val (.int nn), .val (.ref b1), .unset, .unset, .unset, .unset] [(.int s7), (.int (7 : Int32)), (.ref b1)]))
  obtain ⟨cl46, Ar46, q46, S46, M46, H46, G46⟩ := id f42
  have hin46 : ¬ ((7 : Int32) < 0 ∨ cl46.slots.size ≤ ((7 : Int32)).toNatClampNeg) := inb_of S46 ⟨by decide, by decide⟩
  obtain ⟨T46, h46, X46, e46, W46, st46⟩ := stI X45 hx hZ e45 Ar46 (j := (7 : Int32)) hin46 (g := (mkF m 126 #[.val (.int v0), .val (.int v1), .val (.int v2), .val (.int nn), .val (.ref b1), .unset, .unset, .unset, .unset] [(.int s7), (.int (7 : Int32)), (.ref b1)])) rfl rfl (hb hby at_126)
  refine own_step st46 ?_
  have f47 := Nat.le_trans f41 (Keep.of_wr W46).1
  have f48 : Arv Z h46 b1 k1 .int (9 : Int32) [(.int (0 : Int32)), (.int s1), (.int s2), (.int s3), (.int s4), (.int s5), (.int s6), (.int s7), (.int (0 : Int32))] (.int (0 : Int32)) := Arv.set Ar46 q46 S46 M46 H46 G46 rfl W46 7 rfl (Nat.le_of_ble_eq_true rfl)
  have N49 := Fr.snoc X46 N45 g_b1
  show own_Fin p.tables e below _ (T46.setTop (mkF m 127 #[.val (.int v0), .val (.int v1), .val (.int v2), .val (.int nn), .val (.ref b1), .unset, .unset, .unset, .unset] []))
  refine own_step (fun _ k => XS.aload X46.here hx rfl (hb hby at_127) rfl rfl k) ?_
  show own_Fin p.tables e below _ (T46.setTop (mkF m 129 #[.val (.int v0), .val (.int v1), .val (.int v2), .val (.int nn), .val (.ref b1), .unset, .unset, .unset, .unset] [(.ref b1)]))
  refine own_step (fun _ k => XS.bipush X46.here hx rfl (hb hby at_129) k) ?_
  show own_Fin p.tables e below _ (T46.setTop (mkF m 131 #[.val (.int v0), .val (.int v1), .val (.int v2), .val (.int nn), .val (.ref b1), .unset, .unset, .unset, .unset] [(.int (8 : Int32)), (.ref b1)]))
  refine own_step (fun _ k => XS.aload X46.here hx rfl (hb hby at_131) rfl rfl k) ?_
  show own_Fin p.tables e below _ (T46.setTop (mkF m 133 #[.val (.int v0), .val (.int v1), .val (.int v2), .val (.int nn), .val (.ref b1), .unset, .unset, .unset, .unset] [(.ref b1), (.int (8 : Int32)), (.ref b1)]))
  refine own_step (fun _ k => XS.bipush X46.here hx rfl (hb hby at_133) k) ?_
  show own_Fin p.tables e below _ (T46.setTop (mkF m 135 #[.val (.int v0), .val (.int v1), .val (.int v2), .val (.int nn), .val (.ref b1), .unset, .unset, .unset, .unset] [(.int (7 : Int32)), (.ref b1), (.int (8 : Int32)), (.ref b1)]))
  obtain ⟨cl50, Ar50, -, S50, M50, H50, -⟩ := id f48
  have hin50 : ¬ ((7 : Int32) < 0 ∨ cl50.slots.size ≤ ((7 : Int32)).toNatClampNeg) := inb_of S50 ⟨by decide, by decide⟩
  refine own_step (X46.iaload hx (j := (7 : Int32)) (v := (.int s7)) (by first | exact Ar50.1 | (rw [e46]; exact Ar50.1)) (State.isArrayOf_alike hZ.alike Ar50.2.1) Ar50.2.2 hin50 (H50.at hin50 rfl) (g := (mkF m 135 #[.val (.int v0), .val (.int v1), .val (.int v2), .val (.int nn), .val (.ref b1), .unset, .unset, .unset, .unset] [(.int (7 : Int32)), (.ref b1), (.int (8 : Int32)), (.ref b1)])) rfl rfl (hb hby at_135)) ?_
  show own_Fin p.tables e below _ (T46.setTop (mkF m 136 #[.val (.int v0), .val (.int v1), .val (.int v2), .val (.int nn), .val (.ref b1), .unset, .unset, .unset, .unset] [(.int s7), (.int (8 : Int32)), (.ref b1)]))
  refine own_step (fun _ k => XS.iloadN X46.here hx rfl (hb hby at_136) rfl k) ?_
  show own_Fin p.tables e below _ (T46.setTop (mkF m 137 #[.val (.int v0), .val (.int v1), .val (.int v2), .val (.int nn), .val (.ref b1), .unset, .unset, .unset, .unset] [(.int v1), (.int s7), (.int (8 : Int32)), (.ref b1)]))
  refine own_step (fun _ k => XS.bipush X46.here hx rfl (hb hby at_137) k) ?_
  show own_Fin p.tables e below _ (T46.setTop (mkF m 139 #[.val (.int v0), .val (.int v1), .val (.int v2), .val (.int nn), .val (.ref b1), .unset, .unset, .unset, .unset] [(.int (7 : Int32)), (.int v1), (.int s7), (.int (8 : Int32)), (.ref b1)]))
  refine own_step (fun _ k => XS.iloadN X46.here hx rfl (hb hby at_139) rfl k) ?_
  show own_Fin p.tables e below _ (T46.setTop (mkF m 140 #[.val (.int v0), .val (.int v1), .val (.int v2), .val (.int nn), .val (.ref b1), .unset, .unset, .unset, .unset] [(.int nn), (.int (7 : Int32)), (.int v1), (.int s7), (.int (8 : Int32)), (.ref b1)]))
  obtain ⟨_, _, ⟨T51, L51, k51, n51⟩, -, X51, ⟨Lc51, hQ51, l51, y51, z51⟩, st51⟩ := Jvm.LawKit.callS X46 hx (y := (⟨"com/example/fusewright/fusewright/runtime/SparseMatrixRowOfPinLaw", "cnt", "(III)I"⟩ : MethodName)) hown (mvT hZ (hw _ (List.mem_of_getElem? (i := 1) rfl))) (mvT hZ (hw _ (List.mem_of_getElem? (i := 2) rfl))) (mvT hZ (hw _ (List.mem_of_getElem? (i := 3) rfl))) (mvT hZ (hw _ (List.mem_of_getElem? (i := 4) rfl))) (by decide) (backOf (W := 3) (rm1 l Z a0 hw [] v1 (7 : Int32) nn  h46 n0 f47 ) hZ (hw _ (List.mem_of_getElem? (i := 4) rfl)) (hw _ (List.mem_of_getElem? (i := 3) rfl)) (by decide) (by decide)) (g := (mkF m 140 #[.val (.int v0), .val (.int v1), .val (.int v2), .val (.int nn), .val (.ref b1), .unset, .unset, .unset, .unset] [(.int nn), (.int (7 : Int32)), (.int v1), (.int s7), (.int (8 : Int32)), (.ref b1)])) rfl (by rw [hml]; rfl) (argsL := [(.int v1), (.int (7 : Int32)), (.int nn)]) (rest := [(.int s7), (.int (8 : Int32)), (.ref b1)]) (lenOf pd_0 rfl) rfl (by show 2 * 0 + _ ≤ _; exact Nat.le_of_eq rfl) (hb hby at_140) (fun _ _ => ⟨rfl, e46, (by decide : 1 + 0 ≤ _), (by decide : 9 + 0 ≤ _)⟩)
  dsimp only [Pt.U, Pt.locs, Pt.cells, Pt.slots] at X51 l51 y51 z51 st51 hQ51
  subst l51 y51 z51
  obtain ⟨rfl, N51q, e51⟩ := hQ51
  have N51 := Fr.app N49 N51q
  refine own_step st51 ?_
  show own_Fin p.tables e below _ (T51.setTop (mkF m 143 #[.val (.int v0), .val (.int v1), .val (.int v2), .val (.int nn), .val (.ref b1), .unset, .unset, .unset, .unset] [(.int (own_cnt v1 (7 : Int32) nn)), (.int s7), (.int (8 : Int32)), (.ref b1)]))
  refine own_step (fun _ k => XS.iadd X51.here hx rfl (hb hby at_143) rfl k) ?_
  show own_Fin p.tables e below _ (T51.setTop (mkF m 144 #[.val (.int v0), .val (.int v1), .val (.int v2), .val (.int nn), .val (.ref b1), .unset, .unset, .unset, .unset] [(.int (s7 + (own_cnt v1 (7 : Int32) nn))), (.int (8 : Int32)), (.ref b1)]))
  obtain ⟨s8, hs8⟩ : ∃ z, z = (s7 + (own_cnt v1 (7 : Int32) nn)) := ⟨_, rfl⟩
  rw [← hs8]
  show own_Fin p.tables e below _ (T51.setTop (mkF m 144 #[.val (.int v0), .val (.int v1), .val (.int v2), .val (.int nn), .val (.ref b1), .unset, .unset, .unset, .unset] [(.int s8), (.int (8 : Int32)), (.ref b1)]))
  obtain ⟨cl52, Ar52, q52, S52, M52, H52, G52⟩ := id f48
  have hin52 : ¬ ((8 : Int32) < 0 ∨ cl52.slots.size ≤ ((8 : Int32)).toNatClampNeg) := inb_of S52 ⟨by decide, by decide⟩
  obtain ⟨T52, h52, X52, e52, W52, st52⟩ := stI X51 hx hZ e51 Ar52 (j := (8 : Int32)) hin52 (g := (mkF m 144 #[.val (.int v0), .val (.int v1), .val (.int v2), .val (.int nn), .val (.ref b1), .unset, .unset, .unset, .unset] [(.int s8), (.int (8 : Int32)), (.ref b1)])) rfl rfl (hb hby at_144)
  refine own_step st52 ?_
  have f53 := Nat.le_trans f47 (Keep.of_wr W52).1
  have f54 : Arv Z h52 b1 k1 .int (9 : Int32) [(.int (0 : Int32)), (.int s1), (.int s2), (.int s3), (.int s4), (.int s5), (.int s6), (.int s7), (.int s8)] (.int (0 : Int32)) := Arv.set Ar52 q52 S52 M52 H52 G52 rfl W52 8 rfl (Nat.le_of_ble_eq_true rfl)
  have N55 := Fr.snoc X52 N51 g_b1
  show own_Fin p.tables e below _ (T52.setTop (mkF m 145 #[.val (.int v0), .val (.int v1), .val (.int v2), .val (.int nn), .val (.ref b1), .unset, .unset, .unset, .unset] []))
  refine own_step (fun _ k => XS.aload X52.here hx rfl (hb hby at_145) rfl rfl k) ?_
  show own_Fin p.tables e below _ (T52.setTop (mkF m 147 #[.val (.int v0), .val (.int v1), .val (.int v2), .val (.int nn), .val (.ref b1), .unset, .unset, .unset, .unset] [(.ref b1)]))
  refine own_step (fun _ k => XS.bipush X52.here hx rfl (hb hby at_147) k) ?_
  show own_Fin p.tables e below _ (T52.setTop (mkF m 149 #[.val (.int v0), .val (.int v1), .val (.int v2), .val (.int nn), .val (.ref b1), .unset, .unset, .unset, .unset] [(.int (8 : Int32)), (.ref b1)]))
  obtain ⟨cl56, Ar56, -, S56, M56, H56, -⟩ := id f54
  have hin56 : ¬ ((8 : Int32) < 0 ∨ cl56.slots.size ≤ ((8 : Int32)).toNatClampNeg) := inb_of S56 ⟨by decide, by decide⟩
  refine own_step (X52.iaload hx (j := (8 : Int32)) (v := (.int s8)) (by first | exact Ar56.1 | (rw [e52]; exact Ar56.1)) (State.isArrayOf_alike hZ.alike Ar56.2.1) Ar56.2.2 hin56 (H56.at hin56 rfl) (g := (mkF m 149 #[.val (.int v0), .val (.int v1), .val (.int v2), .val (.int nn), .val (.ref b1), .unset, .unset, .unset, .unset] [(.int (8 : Int32)), (.ref b1)])) rfl rfl (hb hby at_149)) ?_
  show own_Fin p.tables e below _ (T52.setTop (mkF m 150 #[.val (.int v0), .val (.int v1), .val (.int v2), .val (.int nn), .val (.ref b1), .unset, .unset, .unset, .unset] [(.int s8)]))
  refine own_step (fun _ k => XS.istore X52.here hx rfl (hb hby at_150) rfl (l' := #[.val (.int v0), .val (.int v1), .val (.int v2), .val (.int nn), .val (.ref b1), .val (.int s8), .unset, .unset, .unset]) rfl k) ?_
  show own_Fin p.tables e below _ (T52.setTop (mkF m 152 #[.val (.int v0), .val (.int v1), .val (.int v2), .val (.int nn), .val (.ref b1), .val (.int s8), .unset, .unset, .unset] []))
  refine own_step (fun _ k => XS.iload X52.here hx rfl (hb hby at_152) rfl k) ?_
  show own_Fin p.tables e below _ (T52.setTop (mkF m 154 #[.val (.int v0), .val (.int v1), .val (.int v2), .val (.int nn), .val (.ref b1), .val (.int s8), .unset, .unset, .unset] [(.int s8)]))
  by_cases hc57 : s8 = (0 : Int32)
  · refine own_step (fun _ k => XS.ifNo X52.here hx rfl (hb hby at_154) rfl ((if0 _ _).trans (teq hc57).2) k) ?_
    show own_Fin p.tables e below _ (T52.setTop (mkF m 157 #[.val (.int v0), .val (.int v1), .val (.int v2), .val (.int nn), .val (.ref b1), .val (.int s8), .unset, .unset, .unset] []))
    refine own_step (fun _ k => XS.iconst X52.here hx rfl (hb hby at_157) k) ?_
    show own_Fin p.tables e below _ (T52.setTop (mkF m 158 #[.val (.int v0), .val (.int v1), .val (.int v2), .val (.int nn), .val (.ref b1), .val (.int s8), .unset, .unset, .unset] [(.int (1 : Int32))]))
    obtain ⟨fs58, hr58, hrun58, hended58, hW58, hsame58⟩ := X52.leave (v := some (.int (nar .boolean (1 : Int32)))) (fun h => by rw [Bd.returns] at h; cases h)
    refine own_ret (retN X52 hx (t := .boolean) Bd.returns (by simp) (hb hby at_158) hr58) hrun58 hended58 ?_
    refine ⟨_, _, rfl, ?_, ⟨_, rfl⟩, hW58, hsame58.mono (by decide) (by decide)⟩
    show Q0 Z v0 v1 v2 h0 n0 _ T52.heap _
    rw [e52]
    exact ⟨rfl, N55⟩
  · refine own_step (fun _ k => XS.ifYes X52.here hx rfl (pc0 := 154) (pc' := 159) rfl (hb hby at_154) rfl ((if0 _ _).trans (feq hc57).2) (by decide) (by decide) k) ?_
    show own_Fin p.tables e below _ (T52.setTop (mkF m 159 #[.val (.int v0), .val (.int v1), .val (.int v2), .val (.int nn), .val (.ref b1), .val (.int s8), .unset, .unset, .unset] []))
    refine own_step (fun _ k => XS.iloadN X52.here hx rfl (hb hby at_159) rfl k) ?_
    show own_Fin p.tables e below _ (T52.setTop (mkF m 160 #[.val (.int v0), .val (.int v1), .val (.int v2), .val (.int nn), .val (.ref b1), .val (.int s8), .unset, .unset, .unset] [(.int v2)]))
    refine own_step (X52.ldcInt hx hown (mvT hZ (hw _ (List.mem_of_getElem? (i := 5) rfl))) (g := (mkF m 160 #[.val (.int v0), .val (.int v1), .val (.int v2), .val (.int nn), .val (.ref b1), .val (.int s8), .unset, .unset, .unset] [(.int v2)])) rfl (hb hby at_160)) ?_
    show own_Fin p.tables e below _ (T52.setTop (mkF m 162 #[.val (.int v0), .val (.int v1), .val (.int v2), .val (.int nn), .val (.ref b1), .val (.int s8), .unset, .unset, .unset] [(.int (2147483647 : Int32)), (.int v2)]))
    refine own_step (fun _ k => XS.iand X52.here hx rfl (hb hby at_162) rfl k) ?_
    show own_Fin p.tables e below _ (T52.setTop (mkF m 163 #[.val (.int v0), .val (.int v1), .val (.int v2), .val (.int nn), .val (.ref b1), .val (.int s8), .unset, .unset, .unset] [(.int (v2 &&& (2147483647 : Int32)))]))
    refine own_step (fun _ k => XS.iload X52.here hx rfl (hb hby at_163) rfl k) ?_
    show own_Fin p.tables e below _ (T52.setTop (mkF m 165 #[.val (.int v0), .val (.int v1), .val (.int v2), .val (.int nn), .val (.ref b1), .val (.int s8), .unset, .unset, .unset] [(.int s8), (.int (v2 &&& (2147483647 : Int32)))]))
    refine own_step (fun _ k => XS.irem X52.here hx rfl (hb hby at_165) rfl hc57 k) ?_
    show own_Fin p.tables e below _ (T52.setTop (mkF m 166 #[.val (.int v0), .val (.int v1), .val (.int v2), .val (.int nn), .val (.ref b1), .val (.int s8), .unset, .unset, .unset] [(.int ((v2 &&& (2147483647 : Int32)) - ((v2 &&& (2147483647 : Int32)) / s8) * s8))]))
    refine own_step (fun _ k => XS.istore X52.here hx rfl (hb hby at_166) rfl (l' := #[.val (.int v0), .val (.int v1), .val (.int v2), .val (.int nn), .val (.ref b1), .val (.int s8), .val (.int ((v2 &&& (2147483647 : Int32)) - ((v2 &&& (2147483647 : Int32)) / s8) * s8)), .unset, .unset]) rfl k) ?_
    show own_Fin p.tables e below _ (T52.setTop (mkF m 168 #[.val (.int v0), .val (.int v1), .val (.int v2), .val (.int nn), .val (.ref b1), .val (.int s8), .val (.int ((v2 &&& (2147483647 : Int32)) - ((v2 &&& (2147483647 : Int32)) / s8) * s8)), .unset, .unset] []))
    obtain ⟨en, hen⟩ : ∃ z, z = ((v2 &&& (2147483647 : Int32)) - ((v2 &&& (2147483647 : Int32)) / s8) * s8) := ⟨_, rfl⟩
    rw [← hen]
    show own_Fin p.tables e below _ (T52.setTop (mkF m 168 #[.val (.int v0), .val (.int v1), .val (.int v2), .val (.int nn), .val (.ref b1), .val (.int s8), .val (.int en), .unset, .unset] []))
    obtain ⟨T59, h59, X59, e59, E59, A59, D59, -, st59⟩ := newO X52 hx hZ hown (hw _ (List.mem_of_getElem? (i := 6) rfl)) (hw _ (List.mem_of_getElem? (i := 7) rfl)) (hw _ (List.mem_of_getElem? (i := 8) rfl)) e52 (g := (mkF m 168 #[.val (.int v0), .val (.int v1), .val (.int v2), .val (.int nn), .val (.ref b1), .val (.int s8), .val (.int en), .unset, .unset] [])) rfl (hb hby at_168) (by decide) (by decide)
    obtain ⟨b59, g59⟩ : ∃ z, z = h52.size := ⟨_, rfl⟩
    rw [← g59] at A59 D59 st59
    refine own_step st59 ?_
    have g_b59 : n0 ≤ b59 := Nat.le_trans f53 (Nat.le_of_eq g59.symm)
    have ne_b1_b59 : b1 ≠ b59 := Nat.ne_of_lt (Nat.lt_of_lt_of_le f54.lt (Nat.le_of_eq g59.symm))
    have f60 := Nat.le_trans f53 E59.1
    have f61 := f54.ext E59
    have f62 : Fld Z h59 b59 "com/example/fusewright/fusewright/runtime/SparseMatrix" "rows" "I" (.int (0 : Int32)) := D59 (Or.inr (hw _ (List.mem_of_getElem? (i := 17) rfl))) (ty := .int) (by decide)
    have f63 : Fld Z h59 b59 "com/example/fusewright/fusewright/runtime/SparseMatrix" "columns" "I" (.int (0 : Int32)) := D59 (Or.inr (hw _ (List.mem_of_getElem? (i := 19) rfl))) (ty := .int) (by decide)
    have f64 : Fld Z h59 b59 "com/example/fusewright/fusewright/runtime/SparseMatrix" "rowStarts" "[I" .null := D59 (Or.inr (hw _ (List.mem_of_getElem? (i := 21) rfl))) (ty := (.array .int)) (by decide)
    have f65 : Fld Z h59 b59 "com/example/fusewright/fusewright/runtime/SparseMatrix" "columnIndices" "[I" .null := D59 (Or.inr (hw _ (List.mem_of_getElem? (i := 23) rfl))) (ty := (.array .int)) (by decide)
    have f66 : Fld Z h59 b59 "com/example/fusewright/fusewright/runtime/SparseMatrix" "values" "[D" .null := D59 (Or.inr (hw _ (List.mem_of_getElem? (i := 25) rfl))) (ty := (.array .double)) (by decide)
    have f67 : Fld Z h59 b59 "com/example/fusewright/fusewright/runtime/SparseMatrix" "zero" "D" (.double (0 : UInt64)) := D59 (Or.inr (hw _ (List.mem_of_getElem? (i := 27) rfl))) (ty := .double) (by decide)
    show own_Fin p.tables e below _ (T59.setTop (mkF m 171 #[.val (.int v0), .val (.int v1), .val (.int v2), .val (.int nn), .val (.ref b1), .val (.int s8), .val (.int en), .unset, .unset] [(.ref b59)]))
    refine own_step (fun _ k => XS.dup X59.here hx rfl (hb hby at_171) rfl rfl k) ?_
    show own_Fin p.tables e below _ (T59.setTop (mkF m 172 #[.val (.int v0), .val (.int v1), .val (.int v2), .val (.int nn), .val (.ref b1), .val (.int s8), .val (.int en), .unset, .unset] [(.ref b59), (.ref b59)]))
    refine own_step (fun _ k => XS.iloadN X59.here hx rfl (hb hby at_172) rfl k) ?_
    show own_Fin p.tables e below _ (T59.setTop (mkF m 173 #[.val (.int v0), .val (.int v1), .val (.int v2), .val (.int nn), .val (.ref b1), .val (.int s8), .val (.int en), .unset, .unset] [(.int nn), (.ref b59), (.ref b59)]))
    refine own_step (fun _ k => XS.bipush X59.here hx rfl (hb hby at_173) k) ?_
    show own_Fin p.tables e below _ (T59.setTop (mkF m 175 #[.val (.int v0), .val (.int v1), .val (.int v2), .val (.int nn), .val (.ref b1), .val (.int s8), .val (.int en), .unset, .unset] [(.int (8 : Int32)), (.int nn), (.ref b59), (.ref b59)]))
    refine own_step (fun _ k => XS.aload X59.here hx rfl (hb hby at_175) rfl rfl k) ?_
    show own_Fin p.tables e below _ (T59.setTop (mkF m 177 #[.val (.int v0), .val (.int v1), .val (.int v2), .val (.int nn), .val (.ref b1), .val (.int s8), .val (.int en), .unset, .unset] [(.ref b1), (.int (8 : Int32)), (.int nn), (.ref b59), (.ref b59)]))
    refine own_step (fun _ k => XS.bipush X59.here hx rfl (hb hby at_177) k) ?_
    show own_Fin p.tables e below _ (T59.setTop (mkF m 179 #[.val (.int v0), .val (.int v1), .val (.int v2), .val (.int nn), .val (.ref b1), .val (.int s8), .val (.int en), .unset, .unset] [(.int (64 : Int32)), (.ref b1), (.int (8 : Int32)), (.int nn), (.ref b59), (.ref b59)]))
    obtain ⟨T68, h68, k68, X68, e68, E68, A68, st68⟩ := newP X59 hx hZ (hw _ (List.mem_of_getElem? (i := 0) rfl)) e59 (g := (mkF m 179 #[.val (.int v0), .val (.int v1), .val (.int v2), .val (.int nn), .val (.ref b1), .val (.int s8), .val (.int en), .unset, .unset] [(.int (64 : Int32)), (.ref b1), (.int (8 : Int32)), (.int nn), (.ref b59), (.ref b59)])) rfl (hb hby at_179) rfl (by decide) (cap := 64) (by decide) (by decide) (by decide) (by decide)
    obtain ⟨b68, g68⟩ : ∃ z, z = h59.size := ⟨_, rfl⟩
    rw [← g68] at A68 st68
    refine own_step st68 ?_
    have g_b68 : n0 ≤ b68 := Nat.le_trans f60 (Nat.le_of_eq g68.symm)
    have ne_b1_b68 : b1 ≠ b68 := Nat.ne_of_lt (Nat.lt_of_lt_of_le f61.lt (Nat.le_of_eq g68.symm))
    have ne_b59_b68 : b59 ≠ b68 := Nat.ne_of_lt (Nat.lt_of_lt_of_le A59.lt (Nat.le_of_eq g68.symm))
    have f69 := Nat.le_trans f60 E68.1
    have f70 := f61.ext E68
    have f71 := A59.ext E68
    have f72 := f62.ext E68
    have f73 := f63.ext E68
    have f74 := f64.ext E68
    have f75 := f65.ext E68
    have f76 := f66.ext E68
    have f77 := f67.ext E68
    have f78 : Arv Z h68 b68 k68 .int (64 : Int32) [] (.int (0 : Int32)) := Arv.new A68 (by decide)
    show own_Fin p.tables e below _ (T68.setTop (mkF m 181 #[.val (.int v0), .val (.int v1), .val (.int v2), .val (.int nn), .val (.ref b1), .val (.int s8), .val (.int en), .unset, .unset] [(.ref b68), (.ref b1), (.int (8 : Int32)), (.int nn), (.ref b59), (.ref b59)]))
    refine own_step (fun _ k => XS.bipush X68.here hx rfl (hb hby at_181) k) ?_
    show own_Fin p.tables e below _ (T68.setTop (mkF m 183 #[.val (.int v0), .val (.int v1), .val (.int v2), .val (.int nn), .val (.ref b1), .val (.int s8), .val (.int en), .unset, .unset] [(.int (64 : Int32)), (.ref b68), (.ref b1), (.int (8 : Int32)), (.int nn), (.ref b59), (.ref b59)]))
    obtain ⟨T79, h79, k79, X79, e79, E79, A79, st79⟩ := newP X68 hx hZ (hw _ (List.mem_of_getElem? (i := 9) rfl)) e68 (g := (mkF m 183 #[.val (.int v0), .val (.int v1), .val (.int v2), .val (.int nn), .val (.ref b1), .val (.int s8), .val (.int en), .unset, .unset] [(.int (64 : Int32)), (.ref b68), (.ref b1), (.int (8 : Int32)), (.int nn), (.ref b59), (.ref b59)])) rfl (hb hby at_183) rfl (by decide) (cap := 64) (by decide) (by decide) (by decide) (by decide)
    obtain ⟨b79, g79⟩ : ∃ z, z = h68.size := ⟨_, rfl⟩
    rw [← g79] at A79 st79
    refine own_step st79 ?_
    have g_b79 : n0 ≤ b79 := Nat.le_trans f69 (Nat.le_of_eq g79.symm)
    have ne_b1_b79 : b1 ≠ b79 := Nat.ne_of_lt (Nat.lt_of_lt_of_le f70.lt (Nat.le_of_eq g79.symm))
    have ne_b59_b79 : b59 ≠ b79 := Nat.ne_of_lt (Nat.lt_of_lt_of_le f71.lt (Nat.le_of_eq g79.symm))
    have ne_b68_b79 : b68 ≠ b79 := Nat.ne_of_lt (Nat.lt_of_lt_of_le f78.lt (Nat.le_of_eq g79.symm))
    have f80 := Nat.le_trans f69 E79.1
    have f81 := f70.ext E79
    have f82 := f71.ext E79
    have f83 := f72.ext E79
    have f84 := f73.ext E79
    have f85 := f74.ext E79
    have f86 := f75.ext E79
    have f87 := f76.ext E79
    have f88 := f77.ext E79
    have f89 := f78.ext E79
    have f90 : Arv Z h79 b79 k79 .double (64 : Int32) [] (.double 0) := Arv.new A79 (by decide)
    show own_Fin p.tables e below _ (T79.setTop (mkF m 185 #[.val (.int v0), .val (.int v1), .val (.int v2), .val (.int nn), .val (.ref b1), .val (.int s8), .val (.int en), .unset, .unset] [(.ref b79), (.ref b68), (.ref b1), (.int (8 : Int32)), (.int nn), (.ref b59), (.ref b59)]))
    refine own_step (fun _ k => own_dconst X79.here hx rfl (hb hby at_185) k) ?_
    show own_Fin p.tables e below _ (T79.setTop (mkF m 186 #[.val (.int v0), .val (.int v1), .val (.int v2), .val (.int nn), .val (.ref b1), .val (.int s8), .val (.int en), .unset, .unset] [(.double (0 : UInt64)), (.ref b79), (.ref b68), (.ref b1), (.int (8 : Int32)), (.int nn), (.ref b59), (.ref b59)]))
    obtain ⟨_, _, ⟨T91, L91, k91, n91⟩, -, X91, ⟨Lc91, hQ91, l91, y91, z91⟩, st91⟩ := X79.specialBack hx (y := (⟨"com/example/fusewright/fusewright/runtime/SparseMatrix", "<init>", "(II[I[I[DD)V"⟩ : MethodName)) rfl hown (mvT hZ (hw _ (List.mem_of_getElem? (i := 10) rfl))) (mvT hZ (hw _ (List.mem_of_getElem? (i := 11) rfl))) (mvT hZ (hw _ (List.mem_of_getElem? (i := 12) rfl))) (by decide) (backOf (W := 1) (rm2 l Z a0 hw [] b59 nn (8 : Int32) b1 b68 b79 (0 : UInt64) _ _ _ _ _ _ h79 n0 f80 f83 f84 f85 f86 f87 f88 f82 g_b59) hZ (hw _ (List.mem_of_getElem? (i := 12) rfl)) (hw _ (List.mem_of_getElem? (i := 8) rfl)) (by decide) (by decide)) (g := (mkF m 186 #[.val (.int v0), .val (.int v1), .val (.int v2), .val (.int nn), .val (.ref b1), .val (.int s8), .val (.int en), .unset, .unset] [(.double (0 : UInt64)), (.ref b79), (.ref b68), (.ref b1), (.int (8 : Int32)), (.int nn), (.ref b59), (.ref b59)])) rfl (by rw [hml]; rfl) (Steps.refl _) (a := b59) (argsL := [(.int nn), (.int (8 : Int32)), (.ref b1), (.ref b68), (.ref b79), (.double (0 : UInt64))]) (rest := [(.ref b59)]) (lenOf pd_1 rfl) rfl (by show 2 * 0 + _ ≤ _; exact Nat.le_of_eq rfl) (hb hby at_186) (fun _ _ => ⟨rfl, e79, (by decide : 4 + 0 ≤ _), (by decide : 143 + 0 ≤ _)⟩)
    dsimp only [Pt.U, Pt.locs, Pt.cells, Pt.slots] at X91 l91 y91 z91 st91 hQ91
    subst l91 y91 z91
    obtain ⟨rfl, N91q, K91, fe91, fs91_0, fs91_1, fs91_2, fs91_3, fs91_4, fs91_5⟩ := hQ91
    have N91 := Fr.app N55 N91q
    refine own_steps st91 ?_
    have f92 := Nat.le_trans f80 K91.1
    have f93 := f81.keep K91 (ninS ne_b1_b59 nin0)
    have f94 := f82.keep K91
    have f101 := f89.keep K91 (ninS (Ne.symm ne_b59_b68) nin0)
    have f102 := f90.keep K91 (ninS (Ne.symm ne_b59_b79) nin0)
    show own_Fin p.tables e below _ (T91.setTop (mkF m 189 #[.val (.int v0), .val (.int v1), .val (.int v2), .val (.int nn), .val (.ref b1), .val (.int s8), .val (.int en), .unset, .unset] [(.ref b59)]))
    refine own_step (fun _ k => XS.astore X91.here hx rfl (hb hby at_189) rfl rfl (l' := #[.val (.int v0), .val (.int v1), .val (.int v2), .val (.int nn), .val (.ref b1), .val (.int s8), .val (.int en), .val (.ref b59), .unset]) rfl k) ?_
    show own_Fin p.tables e below _ (T91.setTop (mkF m 191 #[.val (.int v0), .val (.int v1), .val (.int v2), .val (.int nn), .val (.ref b1), .val (.int s8), .val (.int en), .val (.ref b59), .unset] []))
    refine own_step (fun _ k => XS.aload X91.here hx rfl (hb hby at_191) rfl rfl k) ?_
    show own_Fin p.tables e below _ (T91.setTop (mkF m 193 #[.val (.int v0), .val (.int v1), .val (.int v2), .val (.int nn), .val (.ref b1), .val (.int s8), .val (.int en), .val (.ref b59), .unset] [(.ref b59)]))
    refine own_step (fun _ k => XS.iload X91.here hx rfl (hb hby at_193) rfl k) ?_
    show own_Fin p.tables e below _ (T91.setTop (mkF m 195 #[.val (.int v0), .val (.int v1), .val (.int v2), .val (.int nn), .val (.ref b1), .val (.int s8), .val (.int en), .val (.ref b59), .unset] [(.int en), (.ref b59)]))
    obtain ⟨gS, hgS⟩ : ∃ z : Nat → Int32, z = fun i => [(0 : Int32), s1, s2, s3, s4, s5, s6, s7, s8].getD i 0 := ⟨_, rfl⟩
    have AS : own_Arf Z T91.heap b1 .int 9 (fun i => .int (gS i)) := by rw [hgS]; exact own_Arf.ofI f93 [(0 : Int32), s1, s2, s3, s4, s5, s6, s7, s8] rfl rfl
    have hL := own_law hnn (rfl : (0 : Int32) = 0) hs1 hs2 hs3 hs4 hs5 hs6 hs7 hs8 hc57 hen hgS
    obtain ⟨hl1, hl2, hl3, hl4⟩ := hL
    obtain ⟨cq103, kq103, q103a, q103b, q103c⟩ := isOf hZ rfl fe91
    obtain ⟨_, _, ⟨T103, L103, k103, n103⟩, -, X103, ⟨Lc103, hQ103, l103, y103, z103⟩, st103⟩ := X91.virtualBack hx (y := (⟨"com/example/fusewright/fusewright/runtime/SparseMatrix", "rowOf", "(I)I"⟩ : MethodName)) (z := (⟨"com/example/fusewright/fusewright/runtime/SparseMatrix", "rowOf", "(I)I"⟩ : MethodName)) hown (mvT hZ (hw _ (List.mem_of_getElem? (i := 28) rfl))) (mvT hZ (hw _ (List.mem_of_getElem? (i := 29) rfl))) (notFace_of_selects (args := #[]) (mvT hZ (hw _ (List.mem_of_getElem? (i := 31) rfl)))) (mvT hZ (hw _ (List.mem_of_getElem? (i := 31) rfl))) (mvT hZ (hw _ (List.mem_of_getElem? (i := 30) rfl))) (by decide) (backOf (W := 0) (rm4 l Z a0 hw [] b59 en nn b1 gS T91.heap n0 f92 fs91_0 fs91_2 AS hl1 hl2 hl3 hl4) hZ (hw _ (List.mem_of_getElem? (i := 32) rfl)) (hw _ (List.mem_of_getElem? (i := 8) rfl)) (by decide) (by decide)) q103a q103c (g := (mkF m 195 #[.val (.int v0), .val (.int v1), .val (.int v2), .val (.int nn), .val (.ref b1), .val (.int s8), .val (.int en), .val (.ref b59), .unset] [(.int en), (.ref b59)])) rfl (by rw [hml]; rfl) (Steps.refl _) (argsL := [(.int en)]) (rest := []) (lenOf pd_2 rfl) rfl (by show 2 * 0 + _ ≤ _; exact Nat.le_of_eq rfl) (hb hby at_195) (fun _ _ => ⟨rfl, rfl, (by decide : 4 + 0 ≤ _), (by decide : 143 + 0 ≤ _)⟩)
    dsimp only [Pt.U, Pt.locs, Pt.cells, Pt.slots] at X103 l103 y103 z103 st103 hQ103
    subst l103 y103 z103
    obtain ⟨rr, rfl, N103q, e103, hr1, hr2, hr3, hr4⟩ := hQ103
    have N103 := Fr.app N91 N103q
    refine own_steps st103 ?_
    have hr5 : (rr + (1 : Int32)).toInt = rr.toInt + 1 := own_add1 (by omega)
    have hr6 : (rr + (1 : Int32)).toNatClampNeg = rr.toNatClampNeg + 1 := by have a2 := own_clamp (n := rr) (by omega); have a3 := own_clamp (n := rr + 1) (by omega); omega
    show own_Fin p.tables e below _ (T103.setTop (mkF m 198 #[.val (.int v0), .val (.int v1), .val (.int v2), .val (.int nn), .val (.ref b1), .val (.int s8), .val (.int en), .val (.ref b59), .unset] [(.int rr)]))
    refine own_step (fun _ k => XS.istore X103.here hx rfl (hb hby at_198) rfl (l' := #[.val (.int v0), .val (.int v1), .val (.int v2), .val (.int nn), .val (.ref b1), .val (.int s8), .val (.int en), .val (.ref b59), .val (.int rr)]) rfl k) ?_
    show own_Fin p.tables e below _ (T103.setTop (mkF m 200 #[.val (.int v0), .val (.int v1), .val (.int v2), .val (.int nn), .val (.ref b1), .val (.int s8), .val (.int en), .val (.ref b59), .val (.int rr)] []))
    refine own_step (fun _ k => XS.iload X103.here hx rfl (hb hby at_200) rfl k) ?_
    show own_Fin p.tables e below _ (T103.setTop (mkF m 202 #[.val (.int v0), .val (.int v1), .val (.int v2), .val (.int nn), .val (.ref b1), .val (.int s8), .val (.int en), .val (.ref b59), .val (.int rr)] [(.int rr)]))
    have ha104 : ¬ (rr < (0 : Int32)) := by
      intro q; have := own_lt.mp q; have : (0 : Int32).toInt = 0 := by decide
      omega
    refine own_step (fun _ k => XS.ifNo X103.here hx rfl (hb hby at_202) rfl ((if0 _ _).trans (flt ha104).1) k) ?_
    show own_Fin p.tables e below _ (T103.setTop (mkF m 205 #[.val (.int v0), .val (.int v1), .val (.int v2), .val (.int nn), .val (.ref b1), .val (.int s8), .val (.int en), .val (.ref b59), .val (.int rr)] []))
    refine own_step (fun _ k => XS.iload X103.here hx rfl (hb hby at_205) rfl k) ?_
    show own_Fin p.tables e below _ (T103.setTop (mkF m 207 #[.val (.int v0), .val (.int v1), .val (.int v2), .val (.int nn), .val (.ref b1), .val (.int s8), .val (.int en), .val (.ref b59), .val (.int rr)] [(.int rr)]))
    refine own_step (fun _ k => XS.iloadN X103.here hx rfl (hb hby at_207) rfl k) ?_
    show own_Fin p.tables e below _ (T103.setTop (mkF m 208 #[.val (.int v0), .val (.int v1), .val (.int v2), .val (.int nn), .val (.ref b1), .val (.int s8), .val (.int en), .val (.ref b59), .val (.int rr)] [(.int nn), (.int rr)]))
    have ha105 : rr < nn := by
      exact own_lt.mpr hr2
    refine own_step (fun _ k => XS.icmpNo X103.here hx rfl (hb hby at_208) rfl ((tlt ha105).2.1) k) ?_
    show own_Fin p.tables e below _ (T103.setTop (mkF m 211 #[.val (.int v0), .val (.int v1), .val (.int v2), .val (.int nn), .val (.ref b1), .val (.int s8), .val (.int en), .val (.ref b59), .val (.int rr)] []))
    refine own_step (fun _ k => XS.aload X103.here hx rfl (hb hby at_211) rfl rfl k) ?_
    show own_Fin p.tables e below _ (T103.setTop (mkF m 213 #[.val (.int v0), .val (.int v1), .val (.int v2), .val (.int nn), .val (.ref b1), .val (.int s8), .val (.int en), .val (.ref b59), .val (.int rr)] [(.ref b1)]))
    refine own_step (fun _ k => XS.iload X103.here hx rfl (hb hby at_213) rfl k) ?_
    show own_Fin p.tables e below _ (T103.setTop (mkF m 215 #[.val (.int v0), .val (.int v1), .val (.int v2), .val (.int nn), .val (.ref b1), .val (.int s8), .val (.int en), .val (.ref b59), .val (.int rr)] [(.int rr), (.ref b1)]))
    obtain ⟨cl106, Ar106, S106, H106⟩ := id AS
    have hin106 : ¬ (rr < 0 ∨ cl106.slots.size ≤ (rr).toNatClampNeg) := own_in S106 ⟨hr1, by omega⟩
    refine own_step (X103.iaload hx (j := rr) (v := (.int (gS (rr).toNatClampNeg))) (by first | exact Ar106.1 | (rw [e103]; exact Ar106.1)) (State.isArrayOf_alike hZ.alike Ar106.2.1) Ar106.2.2 hin106 (H106 _ (own_in2 ⟨hr1, by omega⟩)) (g := (mkF m 215 #[.val (.int v0), .val (.int v1), .val (.int v2), .val (.int nn), .val (.ref b1), .val (.int s8), .val (.int en), .val (.ref b59), .val (.int rr)] [(.int rr), (.ref b1)])) rfl rfl (hb hby at_215)) ?_
    show own_Fin p.tables e below _ (T103.setTop (mkF m 216 #[.val (.int v0), .val (.int v1), .val (.int v2), .val (.int nn), .val (.ref b1), .val (.int s8), .val (.int en), .val (.ref b59), .val (.int rr)] [(.int (gS (rr).toNatClampNeg))]))
    refine own_step (fun _ k => XS.iload X103.here hx rfl (hb hby at_216) rfl k) ?_
    show own_Fin p.tables e below _ (T103.setTop (mkF m 218 #[.val (.int v0), .val (.int v1), .val (.int v2), .val (.int nn), .val (.ref b1), .val (.int s8), .val (.int en), .val (.ref b59), .val (.int rr)] [(.int en), (.int (gS (rr).toNatClampNeg))]))
    have ha107 : ¬ (en < (gS (rr).toNatClampNeg)) := by
      exact hr3
    refine own_step (fun _ k => XS.icmpNo X103.here hx rfl (hb hby at_218) rfl ((flt ha107).2.2.1) k) ?_
    show own_Fin p.tables e below _ (T103.setTop (mkF m 221 #[.val (.int v0), .val (.int v1), .val (.int v2), .val (.int nn), .val (.ref b1), .val (.int s8), .val (.int en), .val (.ref b59), .val (.int rr)] []))
    refine own_step (fun _ k => XS.iload X103.here hx rfl (hb hby at_221) rfl k) ?_
    show own_Fin p.tables e below _ (T103.setTop (mkF m 223 #[.val (.int v0), .val (.int v1), .val (.int v2), .val (.int nn), .val (.ref b1), .val (.int s8), .val (.int en), .val (.ref b59), .val (.int rr)] [(.int en)]))
    refine own_step (fun _ k => XS.aload X103.here hx rfl (hb hby at_223) rfl rfl k) ?_
    show own_Fin p.tables e below _ (T103.setTop (mkF m 225 #[.val (.int v0), .val (.int v1), .val (.int v2), .val (.int nn), .val (.ref b1), .val (.int s8), .val (.int en), .val (.ref b59), .val (.int rr)] [(.ref b1), (.int en)]))
    refine own_step (fun _ k => XS.iload X103.here hx rfl (hb hby at_225) rfl k) ?_
    show own_Fin p.tables e below _ (T103.setTop (mkF m 227 #[.val (.int v0), .val (.int v1), .val (.int v2), .val (.int nn), .val (.ref b1), .val (.int s8), .val (.int en), .val (.ref b59), .val (.int rr)] [(.int rr), (.ref b1), (.int en)]))
    refine own_step (fun _ k => XS.iconst X103.here hx rfl (hb hby at_227) k) ?_
    show own_Fin p.tables e below _ (T103.setTop (mkF m 228 #[.val (.int v0), .val (.int v1), .val (.int v2), .val (.int nn), .val (.ref b1), .val (.int s8), .val (.int en), .val (.ref b59), .val (.int rr)] [(.int (1 : Int32)), (.int rr), (.ref b1), (.int en)]))
    refine own_step (fun _ k => XS.iadd X103.here hx rfl (hb hby at_228) rfl k) ?_
    show own_Fin p.tables e below _ (T103.setTop (mkF m 229 #[.val (.int v0), .val (.int v1), .val (.int v2), .val (.int nn), .val (.ref b1), .val (.int s8), .val (.int en), .val (.ref b59), .val (.int rr)] [(.int (rr + (1 : Int32))), (.ref b1), (.int en)]))
    obtain ⟨cl108, Ar108, S108, H108⟩ := id AS
    have hin108 : ¬ ((rr + (1 : Int32)) < 0 ∨ cl108.slots.size ≤ ((rr + (1 : Int32))).toNatClampNeg) := own_in S108 ⟨by rw [hr5]; omega, by rw [hr5]; omega⟩
    refine own_step (X103.iaload hx (j := (rr + (1 : Int32))) (v := (.int (gS ((rr + (1 : Int32))).toNatClampNeg))) (by first | exact Ar108.1 | (rw [e103]; exact Ar108.1)) (State.isArrayOf_alike hZ.alike Ar108.2.1) Ar108.2.2 hin108 (H108 _ (own_in2 ⟨by rw [hr5]; omega, by rw [hr5]; omega⟩)) (g := (mkF m 229 #[.val (.int v0), .val (.int v1), .val (.int v2), .val (.int nn), .val (.ref b1), .val (.int s8), .val (.int en), .val (.ref b59), .val (.int rr)] [(.int (rr + (1 : Int32))), (.ref b1), (.int en)])) rfl rfl (hb hby at_229)) ?_
    show own_Fin p.tables e below _ (T103.setTop (mkF m 230 #[.val (.int v0), .val (.int v1), .val (.int v2), .val (.int nn), .val (.ref b1), .val (.int s8), .val (.int en), .val (.ref b59), .val (.int rr)] [(.int (gS ((rr + (1 : Int32))).toNatClampNeg)), (.int en)]))
    have ha109 : en < (gS ((rr + (1 : Int32))).toNatClampNeg) := by
      rw [hr6]; exact hr4
    refine own_step (fun _ k => XS.icmpNo X103.here hx rfl (hb hby at_230) rfl ((tlt ha109).2.1) k) ?_
    show own_Fin p.tables e below _ (T103.setTop (mkF m 233 #[.val (.int v0), .val (.int v1), .val (.int v2), .val (.int nn), .val (.ref b1), .val (.int s8), .val (.int en), .val (.ref b59), .val (.int rr)] []))
    refine own_step (fun _ k => XS.iconst X103.here hx rfl (hb hby at_233) k) ?_
    show own_Fin p.tables e below _ (T103.setTop (mkF m 234 #[.val (.int v0), .val (.int v1), .val (.int v2), .val (.int nn), .val (.ref b1), .val (.int s8), .val (.int en), .val (.ref b59), .val (.int rr)] [(.int (1 : Int32))]))
    refine own_step (fun _ k => XS.goto X103.here hx rfl (pc0 := 234) (pc' := 238) rfl (hb hby at_234) (by decide) (by decide) k) ?_
    show own_Fin p.tables e below _ (T103.setTop (mkF m 238 #[.val (.int v0), .val (.int v1), .val (.int v2), .val (.int nn), .val (.ref b1), .val (.int s8), .val (.int en), .val (.ref b59), .val (.int rr)] [(.int (1 : Int32))]))
    obtain ⟨fs110, hr110, hrun110, hended110, hW110, hsame110⟩ := X103.leave (v := some (.int (nar .boolean (1 : Int32)))) (fun h => by rw [Bd.returns] at h; cases h)
    refine own_ret (retN X103 hx (t := .boolean) Bd.returns (by simp) (hb hby at_238) hr110) hrun110 hended110 ?_
    refine ⟨_, _, rfl, ?_, ⟨_, rfl⟩, hW110, hsame110.mono (by decide) (by decide)⟩
    show Q0 Z v0 v1 v2 h0 n0 _ T103.heap _
    rw [e103]
    exact ⟨rfl, N103⟩
set_option maxRecDepth 65536 in
set_option maxHeartbeats 40000000 in
theorem comes_1 {Post : Tables → Env → Array Value → State → Outcome → State → Prop} (hpost : ∀ tb e args s v u, (limb_1_1.after args s (.returned v) u = true ∧ limb_1_2.after args s (.returned v) u = true ∧ True) → FrameEnd s (.returned v) u (Jvm.fieldLocs frame_1_writes args s ++ Jvm.arrayLocs frame_1_arrays args s ++ Jvm.staticLocs frame_1_statics s) 16 384 → Post tb e args s (.returned v) u) :
    ArmFor flags0 classFile x code maxLocals ret World_1 tables_1 room_1 Calls_1 rest_1 Pre_1 Post := by
  intro l hfl _ _ p e ha hc hk s m args below hf hA hF happ hP
  obtain ⟨hcalls, hrest, hpre⟩ := hP
  obtain ⟨-, -, -, hnamed, -, -, -, hat⟩ := (Spec.applies_iff hf).mp happ
  obtain ⟨hg, hn⟩ := and_e (Cond.before_iff.mp (show (Jvm.Cond.and given_1 narrow_1).before args s = true from hpre))
  obtain ⟨g1, g2⟩ := and_e hg
  obtain ⟨g3, g4⟩ := and_e g2
  obtain ⟨g5, g6⟩ := and_e g4
  obtain ⟨w0, w1, w2, rfl⟩ : ∃ w0 w1 w2 : Value, args = #[w0, w1, w2] := by
    have hs : args.size = 3 := by simpa [Cond.value, given_1] using g1
    obtain ⟨L⟩ := args
    match L, hs with
    | [w0, w1, w2], _ => exact ⟨w0, w1, w2, rfl⟩
  have hw := fun d (hd : d ∈ tables_1) => atoms_spec (ws := Jvm.Cond.code x code maxLocals ret :: tables_1) hat d (List.mem_cons_of_mem _ hd)
  have hfit : Fit s := fun {y c} hc i hi => by
    obtain ⟨ha, rfl⟩ := Array.getElem?_eq_some_iff.mp hc
    have q := List.all_eq_true.mp ((Array.all_eq_true_iff_forall_mem.mp hF) _ (Array.getElem_mem ha)) i (List.mem_range.mpr hi)
    simpa [Array.getElem?_eq_getElem hi] using q
  obtain ⟨i0, ei0⟩ := is_v g3
  obtain rfl : w0 = (.int i0) := Option.some.inj ei0
  obtain ⟨i1, ei1⟩ := is_v g5
  obtain rfl : w1 = (.int i1) := Option.some.inj ei1
  obtain ⟨i2, ei2⟩ := is_v g6
  obtain rfl : w2 = (.int i2) := Option.some.inj ei2
  obtain ⟨n, o, h1, h2, h3, _, L, rfl, ⟨rfl, N⟩, hq⟩ := rm0 l s _ hw tables_1 i0 i1 i2 s.heap s.heap.size (Nat.le_refl _)  p e ha hc hk s m _ below hf ((Spec.applies_iff_loose hf).mp happ).1 ⟨rfl, State.Warmed39.refl s, rfl⟩ trivial
  refine ⟨n, _, h1, h2, h3, hpost _ _ _ _ _ _ ⟨Cond.after_iff.mpr rfl, Cond.after_iff.mpr (eq_i res_at (Term.int_eval (1)) rfl), trivial⟩ ⟨hq.1, hq.2.1, (hq.2.2.sift fun y hy => Or.inr (N y hy)).mono (by decide) (by decide)⟩⟩
theorem main_1_1 : Claimed_1_1 := comes_1 fun _ _ _ _ _ _ h hF => ⟨h.1, hF⟩
theorem main_1_2 : Claimed_1_2 := comes_1 fun _ _ _ _ _ _ h hF => ⟨h.2.1, hF⟩
end Jvm.Pilot.@@N@@
namespace Jvm.Pilot.@@N@@
open Jvm Jvm.ClassFile Sem Op Lib Jvm.Free Jvm.Stand Jvm.Pilot.@@N@@.Jvm.D
/-! MADE BY PROGRAM (witnessworld.py) out of the Statement's table words and the real class files: 10 classes; the members and pool entries that the words name. The judged class is class 1, her method 2. -/
namespace start1
open Jvm.ClassFile
def u (s : String) : CpInfo := .utf8 (stringToUtf16 s)
/-- a pool by its gaps: so many unusable entries, then the entry; so many at the end -/
def gap : Nat → List CpInfo → List CpInfo
  | 0, r => r
  | n + 1, r => .unusable :: gap n r
def poolList (es : List (Nat × CpInfo)) (last : Nat) : List CpInfo := es.foldr (fun e r => gap e.1 (e.2 :: r)) (gap last [])
def pool (es : List (Nat × CpInfo)) (last : Nat) : Array CpInfo := ⟨poolList es last⟩
def fileOf (pool : Array CpInfo) (this : Nat) (attrs : Array Attribute := #[]) (ms : Array MethodInfo := #[]) (fl : Nat := 33) (sup : Nat := 0) (ifs : Array Nat := #[]) (fds : Array FieldInfo := #[]) : ClassFile where
  minorVersion := 0
  majorVersion := 65
  constantPool := pool
  accessFlags := fl
  thisClass := this
  superClass := sup
  interfaces := ifs
  fields := fds
  methods := ms
  attributes := attrs
def plain (name : String) (sup : Option ClassId) : Class where
  name := name
  kind := .ordinary
  loader := none
  accessFlags := 33
  super := sup
  interfaces := #[]
  cf := none
  fields := #[]
  methods := #[]
  instanceTypes := #[]
  staticTypes := #[]
  resolved := #[]
  callSites := []
  init := .initialized
  statics := none
  mirror := none

def pool0 : Array CpInfo := pool [(5, u "<init>"), (0, u "()V"), (1, .class_ 10), (1, u "java/lang/Object")] 113

def k0c0 : Code := { maxStack := 0, maxLocals := 1, code := object_method_1_code, exceptionTable := #[], attributes := #[] }
def k0m0 : Method := { name := "<init>", desc := "()V", sig := { parameters := [], returnType := none }, accessFlags := 1, code := some k0c0 }
/-- java/lang/Object -/
def k0 : Class := { plain "java/lang/Object" none with
  accessFlags := 33
  interfaces := #[]
  cf := some (fileOf pool0 8 #[] #[{ accessFlags := 1, nameIndex := 5, descriptorIndex := 6, attributes := #[] }] 33 0 #[] #[])
  fields := #[]
  methods := #[k0m0]
  instanceTypes := #[]
  staticTypes := #[]
  resolved := Array.replicate 124 none
  statics := none }

def pool1 : Array CpInfo := pool [(2, .class_ 4), (1, u "java/lang/Object"), (0, u "<init>"), (0, u "()V"), (0, .methodref 8 9), (0, .class_ 10), (0, .nameAndType 11 12), (0, u "com/example/fusewright/fusewright/runtime/SparseMatrixRowOfPinLaw"), (0, u "cnt"), (0, u "(III)I"), (0, .integer 2147483647), (0, .class_ 15), (0, u "com/example/fusewright/fusewright/runtime/SparseMatrix"), (0, .methodref 14 17), (0, .nameAndType 5 18), (0, u "(II[I[I[DD)V"), (0, .methodref 14 20), (0, .nameAndType 21 22), (0, u "rowOf"), (0, u "(I)I"), (3, u "law"), (0, u "(III)Z")] 4

def k1m0 : Method := { name := "<init>", desc := "()V", sig := { parameters := [], returnType := none }, accessFlags := 1, code := none }
def k1c1 : Code := { maxStack := 3, maxLocals := 3, code := method_2_code, exceptionTable := #[], attributes := #[] }
def k1m1 : Method := { name := "cnt", desc := "(III)I", sig := { parameters := [.int, .int, .int], returnType := some .int }, accessFlags := 10, code := some k1c1 }
def k1c2 : Code := { maxStack := 9, maxLocals := 9, code := code, exceptionTable := #[], attributes := #[] }
def k1m2 : Method := { name := "law", desc := "(III)Z", sig := { parameters := [.int, .int, .int], returnType := some .boolean }, accessFlags := 9, code := some k1c2 }
/-- com/example/fusewright/fusewright/runtime/SparseMatrixRowOfPinLaw -/
def k1 : Class := { plain "com/example/fusewright/fusewright/runtime/SparseMatrixRowOfPinLaw" (some 0) with
  accessFlags := 49
  interfaces := #[]
  cf := some (fileOf pool1 8 #[] #[{ accessFlags := 1, nameIndex := 5, descriptorIndex := 6, attributes := #[] }, { accessFlags := 10, nameIndex := 11, descriptorIndex := 12, attributes := #[] }, { accessFlags := 9, nameIndex := 26, descriptorIndex := 27, attributes := #[] }] 49 2 #[] #[])
  fields := #[]
  methods := #[k1m0, k1m1, k1m2]
  instanceTypes := #[]
  staticTypes := #[]
  resolved := Array.replicate 32 none
  statics := none }

def pool2 : Array CpInfo := pool [(4, .class_ 6), (1, u "com/example/fusewright/fusewright/runtime/Matrix"), (12, .class_ 20), (0, u "java/lang/Object"), (0, u "MAX_SIZE"), (0, u "J")] 34

/-- com/example/fusewright/fusewright/runtime/Matrix -/
def k2 : Class := { plain "com/example/fusewright/fusewright/runtime/Matrix" (some 0) with
  accessFlags := 1537
  interfaces := #[]
  cf := some (fileOf pool2 4 #[] #[] 1537 19 #[] #[{ accessFlags := 25, nameIndex := 21, descriptorIndex := 22, attributes := #[] }])
  fields := #[{ name := "MAX_SIZE", type := .long, accessFlags := 25, slot := 0, constantValue := 0 }]
  methods := #[]
  instanceTypes := #[]
  staticTypes := #[.long]
  resolved := Array.replicate 57 none
  statics := none }

def pool3 : Array CpInfo := pool [(1, .class_ 2), (0, u "com/example/fusewright/fusewright/runtime/Matrix"), (0, .methodref 4 5), (0, .class_ 6), (0, .nameAndType 7 8), (0, u "java/lang/Object"), (0, u "<init>"), (0, u "()V"), (0, .fieldref 10 11), (0, .class_ 12), (0, .nameAndType 13 14), (0, u "com/example/fusewright/fusewright/runtime/SparseMatrix"), (0, u "rows"), (0, u "I"), (0, .fieldref 10 16), (0, .nameAndType 17 14), (0, u "columns"), (0, .fieldref 10 19), (0, .nameAndType 20 21), (0, u "rowStarts"), (0, u "[I"), (0, .fieldref 10 23), (0, .nameAndType 24 21), (0, u "columnIndices"), (0, .fieldref 10 26), (0, .nameAndType 27 28), (0, u "values"), (0, u "[D"), (0, .fieldref 10 30), (0, .nameAndType 31 32), (0, u "zero"), (0, u "D"), (109, .class_ 143), (0, u "com/example/fusewright/fusewright/runtime/SparseMatrix$Placement"), (33, u "(II[I[I[DD)V"), (26, .class_ 205), (0, u "com/example/fusewright/fusewright/runtime/SparseMatrix$Builder"), (40, .class_ 248), (1, u "com/example/fusewright/fusewright/runtime/SparseMatrix$Rows"), (16, u "MAX_ENTRIES"), (0, u "J"), (1, u "MAX_DENSITY"), (0, u "PLACES_PER_UNUSED"), (14, u "rowOf"), (0, u "(I)I")] 71

def k3c0 : Code := { maxStack := 3, maxLocals := 8, code := prog_115_method_1_code, exceptionTable := #[], attributes := #[] }
def k3m0 : Method := { name := "<init>", desc := "(II[I[I[DD)V", sig := { parameters := [.int, .int, (.array .int), (.array .int), (.array .double), .double], returnType := none }, accessFlags := 0, code := some k3c0 }
def k3c1 : Code := { maxStack := 2, maxLocals := 5, code := prog_115_method_17_code, exceptionTable := #[], attributes := #[] }
def k3m1 : Method := { name := "rowOf", desc := "(I)I", sig := { parameters := [.int], returnType := some .int }, accessFlags := 0, code := some k3c1 }
/-- com/example/fusewright/fusewright/runtime/SparseMatrix -/
def k3 : Class := { plain "com/example/fusewright/fusewright/runtime/SparseMatrix" (some 0) with
  accessFlags := 49
  interfaces := #[2]
  cf := some (fileOf pool3 10 #[.nestMembers #[204, 142, 246]] #[{ accessFlags := 0, nameIndex := 7, descriptorIndex := 177, attributes := #[] }, { accessFlags := 0, nameIndex := 284, descriptorIndex := 285, attributes := #[] }] 49 4 #[1] #[{ accessFlags := 25, nameIndex := 265, descriptorIndex := 266, attributes := #[] }, { accessFlags := 25, nameIndex := 268, descriptorIndex := 32, attributes := #[] }, { accessFlags := 26, nameIndex := 269, descriptorIndex := 14, attributes := #[] }, { accessFlags := 18, nameIndex := 13, descriptorIndex := 14, attributes := #[] }, { accessFlags := 18, nameIndex := 17, descriptorIndex := 14, attributes := #[] }, { accessFlags := 18, nameIndex := 20, descriptorIndex := 21, attributes := #[] }, { accessFlags := 18, nameIndex := 24, descriptorIndex := 21, attributes := #[] }, { accessFlags := 18, nameIndex := 27, descriptorIndex := 28, attributes := #[] }, { accessFlags := 18, nameIndex := 31, descriptorIndex := 32, attributes := #[] }])
  fields := #[{ name := "MAX_ENTRIES", type := .long, accessFlags := 25, slot := 0, constantValue := 0 }, { name := "MAX_DENSITY", type := .double, accessFlags := 25, slot := 1, constantValue := 0 }, { name := "PLACES_PER_UNUSED", type := .int, accessFlags := 26, slot := 2, constantValue := 0 }, { name := "rows", type := .int, accessFlags := 18, slot := 0, constantValue := 0 }, { name := "columns", type := .int, accessFlags := 18, slot := 1, constantValue := 0 }, { name := "rowStarts", type := (.array .int), accessFlags := 18, slot := 2, constantValue := 0 }, { name := "columnIndices", type := (.array .int), accessFlags := 18, slot := 3, constantValue := 0 }, { name := "values", type := (.array .double), accessFlags := 18, slot := 4, constantValue := 0 }, { name := "zero", type := .double, accessFlags := 18, slot := 5, constantValue := 0 }]
  methods := #[k3m0, k3m1]
  instanceTypes := #[.int, .int, (.array .int), (.array .int), (.array .double), .double]
  staticTypes := #[.long, .double, .int]
  resolved := Array.replicate 357 none
  statics := none }

def pool4 : Array CpInfo := pool [(1, u "java/lang/Cloneable"), (0, .class_ 1), (0, u "java/lang/Object"), (0, .class_ 3)] 3

/-- java/lang/Cloneable -/
def k4 : Class := { plain "java/lang/Cloneable" (some 0) with
  accessFlags := 1537
  interfaces := #[]
  cf := some (fileOf pool4 2 #[] #[] 1537 4 #[] #[])
  fields := #[]
  methods := #[]
  instanceTypes := #[]
  staticTypes := #[]
  resolved := Array.replicate 8 none
  statics := none }

def pool5 : Array CpInfo := pool [(1, u "java/io/Serializable"), (0, .class_ 1), (0, u "java/lang/Object"), (0, .class_ 3)] 3

/-- java/io/Serializable -/
def k5 : Class := { plain "java/io/Serializable" (some 0) with
  accessFlags := 1537
  interfaces := #[]
  cf := some (fileOf pool5 2 #[] #[] 1537 4 #[] #[])
  fields := #[]
  methods := #[]
  instanceTypes := #[]
  staticTypes := #[]
  resolved := Array.replicate 8 none
  statics := none }

/-- the primitive byte -/
def k6 : Class := { plain "byte" none with kind := .primitive 'B', accessFlags := 0x411 }
/-- [B -/
def k7 : Class := { plain "[B" (some 0) with kind := .array 6 .byte, interfaces := #[4, 5], accessFlags := 1041 }

/-- the primitive int -/
def k8 : Class := { plain "int" none with kind := .primitive 'I', accessFlags := 0x411 }
/-- [I -/
def k9 : Class := { plain "[I" (some 0) with kind := .array 8 .int, interfaces := #[4, 5], accessFlags := 1041 }

def k10 : Class := { plain "double" none with kind := .primitive 'D', accessFlags := 0x411 }
def k11 : Class := { plain "[D" (some 0) with kind := .array 10 .double, interfaces := #[4, 5], accessFlags := 1041 }
def heap : Heap := #[]
def classes : Array Class := #[k0, k1, k2, k3, k4, k5, k6, k7, k8, k9, k10, k11]
def interned : List (Array UInt16 × Addr) := []
def slotsUsed : Nat := 0
def theMethod : MethodId := ⟨1, 2⟩
def args0 : Array Value := #[.int 1, .int 2, .int 3]
def aboutOver (below : List Frame) : State where
  vm := { classes := classes, interned := interned.toArray }
  heap := heap
  slotsUsed := slotsUsed
  threads := #[{ frames := .invoking theMethod args0 :: below }]
def below0 : List Frame := [.native { method := ⟨0, 0⟩, args := #[] }]
def about1 : State := aboutOver below0
def p0 : Program := .bare "" "" ""
def e0 : Env := launch0.env 0 0 0
theorem w_frames : about1.frames = Frame.invoking theMethod args0 :: below0 := rfl
set_option maxRecDepth 65536 in
theorem w_args : argsFit about1.vm theMethod args0 = true := by decide +kernel
set_option maxRecDepth 65536 in
theorem w_heap : heapFits about1 = true := by decide +kernel
set_option maxRecDepth 65536 in
theorem w_runnable : about1.curStatus? = some .runnable := by decide +kernel
set_option maxRecDepth 65536 in
theorem w_alone : about1.alone = true := by decide +kernel
set_option maxRecDepth 65536 in
theorem w_named : about1.methodNamed? x = some theMethod := by decide +kernel
set_option maxRecDepth 65536 in
theorem w_hears : about1.hears theMethod below0 = true := by decide +kernel
set_option maxRecDepth 65536 in
theorem w_ripe : about1.ripe theMethod args0 below0 = true := by decide +kernel
theorem w_running : about1.status = .running := rfl
set_option maxRecDepth 65536 in
theorem w_room : about1.hasRoom e0.platform room_1 = true :=
  launch0.hasRoom_least _ room_1 (by decide +kernel) (by decide +kernel) (by decide +kernel) (by decide +kernel) (by decide +kernel) (by decide +kernel)
theorem allAtoms_all (ts : List Jvm.Cond) (a : Array Jvm.Value) (st : Jvm.State) : (allAtoms ts).before a st = ts.all (fun c => c.before a st) := by
  induction ts with
  | nil => rfl
  | cons c t ih =>
    show (Jvm.Cond.and c (allAtoms t)).before a st = _
    rw [Jvm.Cond.before_and, ih, List.all_cons]
def words1 : List Jvm.Cond := Jvm.Cond.code x code maxLocals ret :: tables_1
/-- a 'code' word, met by the world's own term for the bytes: nothing is compared byte by byte -/
theorem code_word {y : MethodName} {bytes : ByteArray} {mx : Nat} {rt : Option FieldType} {a : Array Value} {s : State} {m : MethodId} {meth : Method} {c : Code} (h1 : s.methodNamed? y = some m) (h2 : s.vm.method? m = some meth) (h3 : meth.code = some c) (h4 : c.code = bytes)
    (h5 : (c.maxLocals == mx && c.exceptionTable.isEmpty && decide (c.maxStack ≤ mostOperands) && decide (meth.sig.returnType = rt) && !meth.locks && decide (parseMethodDescriptor y.desc = some meth.sig)) = true) : (Jvm.Cond.code y bytes mx rt).before a s = true := by
  simp only [Bool.and_eq_true, beq_iff_eq, Bool.not_eq_true', decide_eq_true_eq] at h5
  obtain ⟨⟨⟨⟨⟨g1, g2⟩, g3⟩, g4⟩, g5⟩, g6⟩ := h5
  simp [Cond.before, Cond.holds, Cond.value, h1, h2, h3, h4, g1, g2, g3, g4, g5, g6]
def isCode : Jvm.Cond → Bool
  | .code _ _ _ _ => true
  | _ => false
theorem all_split {L : List Jvm.Cond} {P : Jvm.Cond → Bool} (h1 : L.all (fun c => isCode c || P c) = true) (h2 : ∀ c ∈ L.filter isCode, P c = true) : L.all P = true := by
  refine List.all_eq_true.mpr fun c hc => ?_
  have h := List.all_eq_true.mp h1 c hc
  rcases Bool.eq_false_or_eq_true (isCode c) with hi | hi
  · exact h2 c (List.mem_filter.mpr ⟨hc, hi⟩)
  · simpa [hi] using h
set_option maxRecDepth 65536 in
theorem w_c0 : (Jvm.Cond.code x code maxLocals ret).before args0 about1 = true := code_word (m := ⟨1, 2⟩) (meth := k1m2) (c := k1c2) (by decide +kernel) rfl rfl rfl (by decide +kernel)
set_option maxRecDepth 65536 in
theorem w_c1 : (Jvm.Cond.code ({ cls := "com/example/fusewright/fusewright/runtime/SparseMatrixRowOfPinLaw", name := "cnt", desc := "(III)I" } : Jvm.MethodName) method_2_code (3 : Nat) (Option.some Jvm.ClassFile.FieldType.int)).before args0 about1 = true := code_word (m := ⟨1, 1⟩) (meth := k1m1) (c := k1c1) (by decide +kernel) rfl rfl rfl (by decide +kernel)
set_option maxRecDepth 65536 in
theorem w_c2 : (Jvm.Cond.code ({ cls := "com/example/fusewright/fusewright/runtime/SparseMatrix", name := "<init>", desc := "(II[I[I[DD)V" } : Jvm.MethodName) prog_115_method_1_code (8 : Nat) (Option.none : Option Jvm.ClassFile.FieldType)).before args0 about1 = true := code_word (m := ⟨3, 0⟩) (meth := k3m0) (c := k3c0) (by decide +kernel) rfl rfl rfl (by decide +kernel)
set_option maxRecDepth 65536 in
theorem w_c3 : (Jvm.Cond.code ({ cls := "java/lang/Object", name := "<init>", desc := "()V" } : Jvm.MethodName) object_method_1_code (1 : Nat) (Option.none : Option Jvm.ClassFile.FieldType)).before args0 about1 = true := code_word (m := ⟨0, 0⟩) (meth := k0m0) (c := k0c0) (by decide +kernel) rfl rfl rfl (by decide +kernel)
set_option maxRecDepth 65536 in
theorem w_c4 : (Jvm.Cond.code ({ cls := "com/example/fusewright/fusewright/runtime/SparseMatrix", name := "rowOf", desc := "(I)I" } : Jvm.MethodName) prog_115_method_17_code (5 : Nat) (Option.some Jvm.ClassFile.FieldType.int)).before args0 about1 = true := code_word (m := ⟨3, 1⟩) (meth := k3m1) (c := k3c1) (by decide +kernel) rfl rfl rfl (by decide +kernel)
def codes1 : List Jvm.Cond := [Jvm.Cond.code x code maxLocals ret, Jvm.Cond.code ({ cls := "com/example/fusewright/fusewright/runtime/SparseMatrixRowOfPinLaw", name := "cnt", desc := "(III)I" } : Jvm.MethodName) method_2_code (3 : Nat) (Option.some Jvm.ClassFile.FieldType.int), Jvm.Cond.code ({ cls := "com/example/fusewright/fusewright/runtime/SparseMatrix", name := "<init>", desc := "(II[I[I[DD)V" } : Jvm.MethodName) prog_115_method_1_code (8 : Nat) (Option.none : Option Jvm.ClassFile.FieldType), Jvm.Cond.code ({ cls := "java/lang/Object", name := "<init>", desc := "()V" } : Jvm.MethodName) object_method_1_code (1 : Nat) (Option.none : Option Jvm.ClassFile.FieldType), Jvm.Cond.code ({ cls := "com/example/fusewright/fusewright/runtime/SparseMatrix", name := "rowOf", desc := "(I)I" } : Jvm.MethodName) prog_115_method_17_code (5 : Nat) (Option.some Jvm.ClassFile.FieldType.int)]
set_option maxRecDepth 65536 in
theorem codes_eq : words1.filter isCode = codes1 := rfl
theorem w_codes : ∀ c ∈ words1.filter isCode, c.before args0 about1 = true := by
  rw [codes_eq]
  intro c hc
  simp only [codes1, List.mem_cons, List.not_mem_nil, or_false] at hc
  rcases hc with rfl | rfl | rfl | rfl | rfl
  · exact w_c0
  · exact w_c1
  · exact w_c2
  · exact w_c3
  · exact w_c4
set_option maxRecDepth 65536 in
theorem w_t1 : (words1.take 24).all (fun c => isCode c || c.before args0 about1) = true := by decide +kernel
set_option maxRecDepth 65536 in
theorem w_t2 : (words1.drop 24).all (fun c => isCode c || c.before args0 about1) = true := by decide +kernel
theorem w_tables : (allAtoms (Jvm.Cond.code x code maxLocals ret :: tables_1)).before args0 about1 = true := by
  rw [allAtoms_all]
  show words1.all (fun c => c.before args0 about1) = true
  refine all_split ?_ w_codes
  rw [← List.take_append_drop 24 words1, List.all_append, w_t1, w_t2]
  rfl
set_option maxRecDepth 65536 in
theorem w_case : (Jvm.Cond.and given_1 narrow_1).before args0 about1 = true := by decide +kernel
theorem w_applies : (headSpec (Jvm.Cond.code x code maxLocals ret :: tables_1) room_1).applies x e0.platform about1 = true :=
  (Spec.applies_iff w_frames).mpr ⟨w_running, w_runnable, w_alone, w_named, w_hears, w_ripe, w_room, w_tables⟩
theorem atStart : AtStart classFile x code maxLocals ret World_1 tables_1 room_1 Calls_1 rest_1 Pre_1 launch0 p0 e0 about1 theMethod args0 below0 :=
  ⟨lists_1, trivial, launch0.admits_env _ _ _, launch0.least_env, fairChoices_fair.cas, fairChoices_fair.clock, w_frames, w_args, w_heap, w_applies, trivial, trivial, w_case⟩
end start1
theorem witness_1 : WitnessClaimed_1 := ⟨start1.p0, start1.e0, start1.about1, start1.theMethod, start1.args0, start1.below0, start1.atStart⟩
end Jvm.Pilot.@@N@@
