import JvmDerived
import JvmDerived.Pilot.@@N@@Statement
import JvmDerived.Pilot.@@N@@Code
set_option linter.unusedVariables false
set_option linter.unusedSimpArgs false
namespace Jvm.RoadKit
open Sem ClassFile Op Lib Jvm.Stand Jvm.Free Jvm.LawKit
section New
variable {p : Program} {l : Launch} {e : Env} {R : Room} {s : State} {m : MethodId} {args : Array Value} {below : List Frame} {meth : Method} {c : Code} {T : State} {locs : List Loc} {cells slots : Nat}
theorem retI (X : Stand p l e R s m args below meth c T locs cells slots) (hx : p.tables.exec = Jvm.exec) {pc : Nat} {Ls : Array Slot} {z : Int32} {rest : List Value} (hret : meth.sig.returnType = some .int) (hd : decode c.code pc = .ok (.ireturn, 1)) {fs : List Frame}
    (hl : ∀ (f : JFrame) (acts : List Action), f.method = m → f.locked = none → f.entered = [] → (doReturn e (T.setTop f) acts (some (.int z))).1 = T.setFrames fs) : Steps p.tables e below (T.setTop (mkF m pc Ls (.int z :: rest))) (T.setFrames fs) := by
  have hm' : T.vm.method? m = some meth := X.method'
  have hn : narrow .int (.int z) = .int z := rfl
  show Steps p.tables e below (T.setTop { method := m, pc := pc, locals := Ls, stack := _ :: rest, locked := none }) _
  jvm_step X.here [X.here.top, hx, hd, hm', hret, hn]
  first | (intro acts; rw [hl _ acts rfl rfl rfl]) | rw [hl _ _ rfl rfl rfl]
  exact Steps.refl _
theorem own_retJ (X : Stand p l e R s m args below meth c T locs cells slots) (hx : p.tables.exec = Jvm.exec) {pc : Nat} {Ls : Array Slot} {z : Int64} {rest : List Value} (hret : meth.sig.returnType = some .long) (hd : decode c.code pc = .ok (.lreturn, 1)) {fs : List Frame}
    (hl : ∀ (f : JFrame) (acts : List Action), f.method = m → f.locked = none → f.entered = [] → (doReturn e (T.setTop f) acts (some (.long z))).1 = T.setFrames fs) : Steps p.tables e below (T.setTop (mkF m pc Ls (.long z :: rest))) (T.setFrames fs) := by
  have hm' : T.vm.method? m = some meth := X.method'
  have hn : narrow .long (.long z) = .long z := rfl
  show Steps p.tables e below (T.setTop { method := m, pc := pc, locals := Ls, stack := _ :: rest, locked := none }) _
  jvm_step X.here [X.here.top, hx, hd, hm', hret, hn]
  first | (intro acts; rw [hl _ acts rfl rfl rfl]) | rw [hl _ _ rfl rfl rfl]
  exact Steps.refl _
end New
end Jvm.RoadKit
namespace Jvm.Pilot.@@N@@
open Jvm Jvm.ClassFile Sem Op Lib Jvm.Free Jvm.Stand Jvm.LawKit Jvm.RoadKit Bundle Jvm.Pilot.@@N@@.Jvm.D
def own_Fin (tb : Tables) (e : Env) (below : List Frame) (P : Outcome → State → Prop) (S : State) : Prop := ∃ s₂ o, Steps tb e below S s₂ ∧ s₂.status = .running ∧ Ended s₂ below o ∧ P o s₂
theorem own_step {tb : Tables} {e : Env} {below : List Frame} {P : Outcome → State → Prop} {A B : State} (h : ∀ t, Steps tb e below B t → Steps tb e below A t) (k : own_Fin tb e below P B) : own_Fin tb e below P A := by
  obtain ⟨s₂, o, h1, h2⟩ := k; exact ⟨s₂, o, h _ h1, h2⟩
theorem own_steps {tb : Tables} {e : Env} {below : List Frame} {P : Outcome → State → Prop} {A B : State} (h : Steps tb e below A B) (k : own_Fin tb e below P B) : own_Fin tb e below P A := by
  obtain ⟨s₂, o, h1, h2⟩ := k; exact ⟨s₂, o, h.trans h1, h2⟩
theorem own_ret {tb : Tables} {e : Env} {below : List Frame} {P : Outcome → State → Prop} {S s₂ : State} {o : Outcome} (h : Steps tb e below S s₂) (h1 : s₂.status = .running) (h2 : Ended s₂ below o) (h3 : P o s₂) : own_Fin tb e below P S := ⟨s₂, o, h, h1, h2, h3⟩
theorem own_enter {tb : Tables} {e : Env} {below : List Frame} {P : Outcome → State → Prop} {T : State} {g g' : JFrame} (q : g = g') (k : own_Fin tb e below P (T.setTop g')) : ∃ s₂ o, Steps tb e below (T.setTop g) s₂ ∧ s₂.status = .running ∧ Ended s₂ below o ∧ P o s₂ := q ▸ k
def own_Two (a b : Slot) : Prop := (a = .unset ∧ b = .unset) ∨ ∃ v : Int64, a = .val (.long v) ∧ b = .second
theorem own_Two.u : own_Two .unset .unset := Or.inl ⟨rfl, rfl⟩
theorem own_Two.l {v : Int64} : own_Two (.val (.long v)) .second := Or.inr ⟨v, rfl, rfl⟩
def own_Arf (Z : State) (h : Heap) (a : Addr) (ty : FieldType) (n : Nat) (f : Nat → Value) : Prop := ∃ cl : Cell, Arr Z h a cl ty ∧ cl.slots.size = n ∧ ∀ i, i < n → cl.slots[i]? = some (f i)
def own_upd {α : Type} (g : Nat → α) (j : Nat) (v : α) : Nat → α := fun i => if i = j then v else g i
section OwnArr
variable {Z : State} {h h' : Heap} {a b : Addr} {ty : FieldType} {n : Nat} {f : Nat → Value} {v : Value} {sl : Nat} {ws : List Addr}
theorem own_Arf.lt (F : own_Arf Z h a ty n f) : a < h.size := by obtain ⟨c, A, -⟩ := F; exact A.lt
theorem own_Arf.ext (F : own_Arf Z h a ty n f) (E : Ext h h') : own_Arf Z h' a ty n f := by obtain ⟨c, A, r⟩ := F; exact ⟨c, A.ext E, r⟩
theorem own_Arf.other (F : own_Arf Z h b ty n f) (W : Wr h h' a sl v) (q : b ≠ a) : own_Arf Z h' b ty n f := by obtain ⟨c, A, r⟩ := F; exact ⟨c, A.other W q, r⟩
theorem own_Arf.keep (F : own_Arf Z h a ty n f) (K : Keep h h' ws) (q : a ∉ ws) : own_Arf Z h' a ty n f := by obtain ⟨c, A, r⟩ := F; exact ⟨c, ⟨K.2.1 a c A.1 q, A.2⟩, r⟩
theorem own_Arf.set (F : own_Arf Z h a ty n f) (W : Wr h h' a sl v) : own_Arf Z h' a ty n (fun i => if i = sl then v else f i) := by
  obtain ⟨c, A, S, H⟩ := F
  obtain ⟨c', e1, -, -, e4, -, e6, e7⟩ := wr_at W A.1
  have e8 := (e7 rfl).2.1
  refine ⟨c', ⟨e1, ?_, ?_⟩, by rw [e4, S], fun i hi => ?_⟩
  · rw [(e7 rfl).1]; exact (A.same W).2.1
  · rw [(e7 rfl).1]; exact (A.same W).2.2
  · show c'.slots[i]? = some (if i = sl then v else f i)
    by_cases q : i = sl
    · rw [if_pos q, q]; exact e8
    · rw [if_neg q, e6 _ q]; exact H i hi
theorem own_Arf.setI {g : Nat → Int32} {x : Int32} (F : own_Arf Z h a ty n (fun i => .int (g i))) (W : Wr h h' a sl (.int x)) : own_Arf Z h' a ty n (fun i => .int (own_upd g sl x i)) := by
  have q := F.set W
  have e : (fun i => Value.int (own_upd g sl x i)) = (fun i => if i = sl then Value.int x else Value.int (g i)) := by funext i; unfold own_upd; split <;> rfl
  rw [e]; exact q
theorem own_Arf.setJ {g : Nat → Int64} {x : Int64} (F : own_Arf Z h a ty n (fun i => .long (g i))) (W : Wr h h' a sl (.long x)) : own_Arf Z h' a ty n (fun i => .long (own_upd g sl x i)) := by
  have q := F.set W
  have e : (fun i => Value.long (own_upd g sl x i)) = (fun i => if i = sl then Value.long x else Value.long (g i)) := by funext i; unfold own_upd; split <;> rfl
  rw [e]; exact q
theorem own_Arf.ofI {k : ClassId} {z : Int32} {vs : List Value} (V : Arv Z h a k ty z vs (.int 0)) (l : List Int32) (hl : vs = l.map Value.int) (hz : z.toNatClampNeg = n) : own_Arf Z h a ty n (fun i => .int (l.getD i 0)) := by
  obtain ⟨c, A, -, S, -, H, -⟩ := V
  refine ⟨c, A, S.trans hz, fun i hi => ?_⟩
  rw [H i (by rw [S, hz]; exact hi), hl]
  simp only [List.getD, List.getElem?_map]
  cases l[i]? <;> rfl
theorem own_Arf.ofJ {k : ClassId} {z : Int32} {vs : List Value} (V : Arv Z h a k ty z vs (.long 0)) (l : List Int64) (hl : vs = l.map Value.long) (hz : z.toNatClampNeg = n) : own_Arf Z h a ty n (fun i => .long (l.getD i 0)) := by
  obtain ⟨c, A, -, S, -, H, -⟩ := V
  refine ⟨c, A, S.trans hz, fun i hi => ?_⟩
  rw [H i (by rw [S, hz]; exact hi), hl]
  simp only [List.getD, List.getElem?_map]
  cases l[i]? <;> rfl
theorem own_in {c : Cell} {j : Int32} (S : c.slots.size = n) (q : 0 ≤ j.toInt ∧ j.toInt < n) : ¬ (j < 0 ∨ c.slots.size ≤ j.toNatClampNeg) := by
  rw [S]; simp only [Int32.lt_iff_toInt_lt, Int32.toNatClampNeg, Int32.reduceToInt]; omega
theorem own_in2 {j : Int32} (q : 0 ≤ j.toInt ∧ j.toInt < n) : j.toNatClampNeg < n := by simp only [Int32.toNatClampNeg]; omega
end OwnArr
theorem own_dload {tb : Tables} [Ours tb] {e : Env} {below : List Frame} {T target : State} {m : MethodId} {c : Code} {g : JFrame} (h : At T m c below) (hx : tb.exec = Jvm.exec) (hg : g.method = m) {k : Nat} {v : UInt64} (hd : decode c.code g.pc = .ok (.dload k, 2)) (hl : g.locals[k]? = some (.val (.double v)))
    (hr : Steps tb e below (T.setTop { g with pc := g.pc + 2, stack := .double v :: g.stack }) target) : Steps tb e below (T.setTop g) target := by
  subst hg
  jvm_step h [h.top, hx, hd, hl]
  exact hr
theorem own_dconst {tb : Tables} [Ours tb] {e : Env} {below : List Frame} {T target : State} {m : MethodId} {c : Code} {g : JFrame} (h : At T m c below) (hx : tb.exec = Jvm.exec) (hg : g.method = m) (hd : decode c.code g.pc = .ok (.dconst 0, 1))
    (hr : Steps tb e below (T.setTop { g with pc := g.pc + 1, stack := .double 0 :: g.stack }) target) : Steps tb e below (T.setTop g) target := by
  subst hg
  jvm_step h [h.top, hx, hd]
  exact hr
theorem own_canon {n : Int} (h : n.natAbs < 2 ^ 53) : ∃ c k : Nat, Jvm.FP.Core.round Jvm.FP.Core.b64 (Jvm.FP.Core.ofInt n) = .fin (decide (n < 0)) c (-(k : Int)) ∧ c = n.natAbs * 2 ^ k := by
  by_cases hz : n.natAbs = 0
  · obtain ⟨K, hK⟩ : ∃ K : Nat, K = 1074 := ⟨_, rfl⟩
    refine ⟨0, K, ?_, by rw [hz, Nat.zero_mul]⟩
    have h0 : n = 0 := by omega
    subst h0
    subst hK
    decide +kernel
  · obtain ⟨L, hL⟩ : ∃ L, L = Nat.log2 n.natAbs := ⟨_, rfl⟩
    have h1 : 2 ^ L ≤ n.natAbs := by rw [hL]; exact Nat.log2_self_le hz
    have h2 : n.natAbs < 2 ^ (L + 1) := by rw [hL]; exact Nat.lt_log2_self
    have hL52 : L ≤ 52 := by
      refine Nat.le_of_lt_succ ?_
      exact (Nat.pow_lt_pow_iff_right (a := 2) (by decide)).mp (Nat.lt_of_le_of_lt h1 h)
    obtain ⟨k, hk⟩ : ∃ k, k = 52 - L := ⟨_, rfl⟩
    refine ⟨n.natAbs * 2 ^ k, k, ?_, rfl⟩
    have e1 : 2 ^ L * 2 ^ k = 2 ^ 52 := by rw [← Nat.pow_add]; congr 1; omega
    have e2 : 2 ^ (L + 1) * 2 ^ k = 2 ^ 53 := by rw [← Nat.pow_add]; congr 1; omega
    have p := Nat.two_pow_pos k
    have b1 : 2 ^ 52 ≤ n.natAbs * 2 ^ k := by rw [← e1]; exact Nat.mul_le_mul_right _ h1
    have b2 : n.natAbs * 2 ^ k < 2 ^ 53 := by rw [← e2]; exact Nat.mul_lt_mul_of_pos_right h2 p
    have q1 : Jvm.FP.Core.b64.qmin = -1074 := by decide
    have q2 : Jvm.FP.Core.b64.qmax = 971 := by decide
    have q3 : Jvm.FP.Core.b64.tails = 2 ^ 52 := by decide
    refine Jvm.FP.Core.roundRatio_exact Jvm.FP.Core.good_b64 (by decide) ⟨b2, by rw [q1]; omega, by rw [q2]; omega, Or.inr (by rw [q3]; exact b1)⟩ ?_
    have a1 : ((0 : Int) - -(k : Int)).toNat = k := by omega
    have a2 : (-(k : Int) - 0).toNat = 0 := by omega
    rw [a1, a2, Nat.pow_zero, Nat.mul_one, Nat.mul_one]
def own_isd (x : UInt64) (n : Int) : Prop := Jvm.FP.Core.val64 x = Jvm.FP.Core.round Jvm.FP.Core.b64 (Jvm.FP.Core.ofInt n) ∧ n.natAbs < 2 ^ 53
theorem own_isd.nn {x : UInt64} {n : Int} (h : own_isd x n) : Jvm.FP.Core.val64 x ≠ .nan := by
  obtain ⟨c, k, e, -⟩ := own_canon h.2
  rw [h.1, e]; exact fun q => nomatch q
theorem own_sg (n : Int) : Jvm.FP.Core.signed (decide (n < 0)) n.natAbs = n := by
  unfold Jvm.FP.Core.signed
  by_cases h : n < 0
  · simp only [h, decide_true, if_true]; omega
  · simp only [h, decide_false]; show (n.natAbs : Int) = n; omega
theorem own_iu {m : Int} {k K : Nat} (h : k ≤ K) : Jvm.FP.Core.signed (decide (m < 0)) (Jvm.FP.Core.inUnits (m.natAbs * 2 ^ k) (-(k : Int)) (-(K : Int))) = m * ((2 ^ K : Nat) : Int) := by
  have e : Jvm.FP.Core.inUnits (m.natAbs * 2 ^ k) (-(k : Int)) (-(K : Int)) = m.natAbs * 2 ^ K := by
    unfold Jvm.FP.Core.inUnits
    rw [show (-(k : Int) - -(K : Int)).toNat = K - k by omega, Nat.mul_assoc, ← Nat.pow_add]; congr 2; omega
  rw [e, Jvm.FP.Core.signed_mul, own_sg]
theorem own_isd.add {x y : UInt64} {m n : Int} (hx : own_isd x m) (hy : own_isd y n) (hs : (m + n).natAbs < 2 ^ 53) : own_isd (Jvm.FP.dadd x y) (m + n) := by
  refine ⟨?_, hs⟩
  obtain ⟨c, k, e1, rfl⟩ := own_canon hx.2
  obtain ⟨d, j, e2, rfl⟩ := own_canon hy.2
  show Jvm.FP.Core.val64 (Jvm.FP.Core.dadd x y) = _
  rw [Jvm.FP.Core.val64_dadd, hx.1, hy.1, e1, e2]
  obtain ⟨K, hK⟩ : ∃ K, K = max k j := ⟨_, rfl⟩
  have hm : min (-(k : Int)) (-(j : Int)) = -(K : Int) := by omega
  simp only [Jvm.FP.Core.exactSum, hm]
  have su : Jvm.FP.Core.sumUnits (decide (m < 0)) (m.natAbs * 2 ^ k) (-(k : Int)) (decide (n < 0)) (n.natAbs * 2 ^ j) (-(j : Int)) (-(K : Int)) = (m + n) * ((2 ^ K : Nat) : Int) := by
    unfold Jvm.FP.Core.sumUnits
    rw [own_iu (by omega), own_iu (by omega), Int.add_mul]
  rw [su]
  have p : 0 < ((2 ^ K : Nat) : Int) := Int.natCast_pos.mpr (Nat.two_pow_pos K)
  have sg : Jvm.FP.Core.sumSign (decide (m < 0)) (decide (n < 0)) ((m + n) * ((2 ^ K : Nat) : Int)) = decide (m + n < 0) := by
    unfold Jvm.FP.Core.sumSign
    by_cases z : m + n = 0
    · rw [z, Int.zero_mul, if_pos rfl]
      by_cases a : m < 0
      · have b : ¬ n < 0 := by omega
        simp [a, b]
      · simp [a]
    · rw [if_neg (by intro q; rcases Int.mul_eq_zero.mp q with q | q <;> omega)]
      by_cases a : m + n < 0
      · have : (m + n) * ((2 ^ K : Nat) : Int) < 0 := Int.mul_neg_of_neg_of_pos a p
        simp only [this, a]
      · have : ¬ (m + n) * ((2 ^ K : Nat) : Int) < 0 := Int.not_lt.mpr (Int.mul_nonneg (Int.not_lt.mp a) (Int.le_of_lt p))
        simp only [this, a]
  rw [sg, Int.natAbs_mul, Int.natAbs_natCast]
  refine Jvm.FP.Core.roundRatio_congr (by decide) (by decide) ?_
  rw [show (-(K : Int) - 0).toNat = 0 by omega, show ((0 : Int) - -(K : Int)).toNat = K by omega]
  simp
theorem own_isd.i2d (a : Int32) : own_isd (Jvm.FP.i2d a) a.toInt := ⟨Jvm.FP.Core.val64_i2d a, by have := rng32 a; omega⟩
theorem own_isd.l2d {a : Int64} (h : a.toInt.natAbs < 2 ^ 53) : own_isd (Jvm.FP.l2d a) a.toInt := ⟨Jvm.FP.Core.val64_l2d a, h⟩
theorem own_isd.zero : own_isd 0 0 := ⟨by decide +kernel, by decide⟩
theorem own_isd.num {x : UInt64} {n : Int} (h : own_isd x n) : x &&& 0x7fffffffffffffff ≤ 0x7ff0000000000000 := by
  rw [UInt64.le_iff_toNat_le, Jvm.FP.Core.mask_toNat]
  exact (Jvm.FP.Core.ne_nan x).mp h.nn
theorem own_isd.eq {x y : UInt64} {n : Int} (hx : own_isd x n) (hy : own_isd y n) : Op.cmpValue (Jvm.FP.dcmp x y) .l = 0 := by
  have e : x = y := Jvm.FP.Core.val64_inj hx.nn (hx.1.trans hy.1.symm)
  subst e
  show Op.cmpValue (Jvm.FP.Core.dcmp x x) .l = 0
  rw [Jvm.FP.Core.dcmp_self hx.nn]; rfl
section OwnSteps
variable {tb : Tables} [Ours tb] {e : Env} {below : List Frame} {T target : State} {m : MethodId} {c : Code} {g : JFrame}
theorem own_dloadN (h : At T m c below) (hx : tb.exec = Jvm.exec) (hg : g.method = m) {k : Fin 4} {v : UInt64} (hd : decode c.code g.pc = .ok (.dload_n k, 1)) (hl : g.locals[k.val]? = some (.val (.double v)))
    (hr : Steps tb e below (T.setTop { g with pc := g.pc + 1, stack := .double v :: g.stack }) target) : Steps tb e below (T.setTop g) target := by
  subst hg
  jvm_step h [h.top, hx, hd, hl]
  exact hr
theorem own_dstore (h : At T m c below) (hx : tb.exec = Jvm.exec) (hg : g.method = m) {k : Nat} {v : UInt64} {rest : List Value} {l' : Array Slot} (hd : decode c.code g.pc = .ok (.dstore k, 2)) (hs : g.stack = .double v :: rest) (hl : storeLocals g.locals k (.double v) = some l')
    (hr : Steps tb e below (T.setTop { g with pc := g.pc + 2, stack := rest, locals := l' }) target) : Steps tb e below (T.setTop g) target := by
  subst hg
  jvm_step h [h.top, hx, hd, hs, hl]
  exact hr
theorem own_i2d (h : At T m c below) (hx : tb.exec = Jvm.exec) (hg : g.method = m) {x : Int32} {rest : List Value} (hd : decode c.code g.pc = .ok (.i2d, 1)) (hs : g.stack = .int x :: rest)
    (hr : Steps tb e below (T.setTop { g with pc := g.pc + 1, stack := .double (Jvm.FP.i2d x) :: rest }) target) : Steps tb e below (T.setTop g) target := by
  subst hg
  jvm_step h [h.top, hx, hd, hs]
  exact hr
theorem own_l2d (h : At T m c below) (hx : tb.exec = Jvm.exec) (hg : g.method = m) {x : Int64} {rest : List Value} (hd : decode c.code g.pc = .ok (.l2d, 1)) (hs : g.stack = .long x :: rest)
    (hr : Steps tb e below (T.setTop { g with pc := g.pc + 1, stack := .double (Jvm.FP.l2d x) :: rest }) target) : Steps tb e below (T.setTop g) target := by
  subst hg
  jvm_step h [h.top, hx, hd, hs]
  exact hr
theorem own_dcmpl (h : At T m c below) (hx : tb.exec = Jvm.exec) (hg : g.method = m) {x y : UInt64} {rest : List Value} (hd : decode c.code g.pc = .ok (.dcmp .l, 1)) (hs : g.stack = .double y :: .double x :: rest)
    (hr : Steps tb e below (T.setTop { g with pc := g.pc + 1, stack := .int (Op.cmpValue (Jvm.FP.dcmp x y) .l) :: rest }) target) : Steps tb e below (T.setTop g) target := by
  subst hg
  jvm_step h [h.top, hx, hd, hs, Op.dcmp.wp_sem]
  exact hr
theorem own_dadd (h : At T m c below) (hx : tb.exec = Jvm.exec) (hg : g.method = m) {x y : UInt64} {n : Int} (hn : own_isd (Jvm.FP.dadd x y) n) {rest : List Value} (hd : decode c.code g.pc = .ok (.dadd, 1)) (hs : g.stack = .double y :: .double x :: rest)
    (hr : Steps tb e below (T.setTop { g with pc := g.pc + 1, stack := .double (Jvm.FP.dadd x y) :: rest }) target) : Steps tb e below (T.setTop g) target := by
  subst hg
  jvm_step h [h.top, hx, hd, hs, Op.dadd.wp_number (e := e) (s := T) (f := g) h.top hs hn.num]
  exact hr
end OwnSteps
section OwnD
variable {p : Program} {l : Launch} {e : Env} {R : Room} {s : State} {m : MethodId} {args : Array Value} {below : List Frame} {meth : Method} {c : Code} {T : State} {locs : List Loc} {cells slots : Nat} {Z : State} {h h' : Heap}
theorem own_daload (X : Stand p l e R s m args below meth c T locs cells slots) (hexec : p.tables.exec = Jvm.exec) {a : Addr} {cell : Cell} {j : Int32} {v : Value} (hcell : T.heap[a]? = some cell) (harr : s.isArrayOf cell .double) (hknown : cell.vm ≠ .unknown)
    (hin : ¬ (j < 0 ∨ cell.slots.size ≤ j.toNatClampNeg)) (hv : cell.slots[j.toNatClampNeg]? = some v)
    {g : JFrame} (hg : g.method = m) {rest : List Value} (hstack : g.stack = .int j :: .ref a :: rest) (hdg : decode c.code g.pc = .ok (.daload, 1)) (target : State)
    (hrest : Steps p.tables e below (T.setTop { g with pc := g.pc + 1, stack := v :: rest }) target) : Steps p.tables e below (T.setTop g) target := by
  have hT := State.isArrayOf_alike X.warmed.alike harr
  subst hg
  jvm_step X.here [hexec, hdg, Op.daload.wp_sem, hstack, hcell, hT.isArray, hin, hknown, hv]
  exact ⟨hT, hrest⟩
theorem own_stD (X : Stand p l e R s m args below meth c T locs cells slots) (hx : p.tables.exec = Jvm.exec) (hZ : Z.Warmed39 s.vm) (eT : T.heap = h) {a : Addr} {cl : Cell} (A : Arr Z h a cl .double) {j : Int32} {x : UInt64} (hj : ¬ (j < 0 ∨ cl.slots.size ≤ j.toNatClampNeg)) {g : JFrame} (hg : g.method = m) {rest : List Value} (hs : g.stack = .double x :: .int j :: .ref a :: rest) (hd : decode c.code g.pc = .ok (.dastore, 1)) :
    ∃ T' h', Stand p l e R s m args below meth c T' (locs ++ [⟨a, j.toNatClampNeg⟩]) cells slots ∧ T'.heap = h' ∧ Wr h h' a j.toNatClampNeg (.double x) ∧ ∀ target, Steps p.tables e below (T'.setTop { g with pc := g.pc + 1, stack := rest }) target → Steps p.tables e below (T.setTop g) target := by
  have hcell : T.heap[a]? = some cl := by rw [eT]; exact A.1
  have hT : T.isArrayOf cl .double := State.isArrayOf_alike X.warmed.alike (State.isArrayOf_alike hZ.alike A.2.1)
  have hfit : T.fitsSlot cl.cls cl.vm j.toNatClampNeg (.double x) = true := by
    obtain ⟨hobj, k, hk, comp, hkind⟩ := hT
    cases hvm : cl.vm <;> first | exact absurd hvm (hobj _) | simp [State.fitsSlot, State.slotType?, hk, hkind, fits]
  refine ⟨_, _, X.stored hcell _ _, rfl, ⟨cl, A.1, A.plain, Nat.lt_of_not_le fun q => hj (Or.inr q), by rw [← eT]; rfl⟩, fun target hrest => ?_⟩
  subst hg
  jvm_step X.here [hx, hd, Op.dastore.wp_sem, hs, hcell, hT.isArray, hj, A.2.2, hfit]
  refine ⟨x, j, .ref a, rest, ⟨rfl, rfl, rfl, rfl⟩, cl, hcell, hT.isArray, ?_⟩
  rw [if_neg hj]
  exact ⟨hT, A.2.2, hfit, hrest⟩
theorem own_Arf.setD {a : Addr} {ty : FieldType} {n : Nat} {sl : Nat} {g : Nat → UInt64} {x : UInt64} (F : own_Arf Z h a ty n (fun i => .double (g i))) (W : Wr h h' a sl (.double x)) : own_Arf Z h' a ty n (fun i => .double (own_upd g sl x i)) := by
  have q := F.set W
  have e : (fun i => Value.double (own_upd g sl x i)) = (fun i => if i = sl then Value.double x else Value.double (g i)) := by funext i; unfold own_upd; split <;> rfl
  rw [e]; exact q
theorem own_Arf.ofD {a : Addr} {ty : FieldType} {n : Nat} {k : ClassId} {z : Int32} (V : Arv Z h a k ty z [] (.double 0)) (hz : z.toNatClampNeg = n) : own_Arf Z h a ty n (fun i => .double ((fun _ => 0) i)) := by
  obtain ⟨c, A, -, S, -, H, -⟩ := V
  exact ⟨c, A, S.trans hz, fun i hi => H i (by rw [S, hz]; exact hi)⟩
theorem own_Arf.ne {a b : Addr} {C : String} {ty : FieldType} {n kk : Nat} {f : Nat → Value} {a0 : Array Value} (F : own_Arf Z h b ty n f) (E : Exa Z h a C) (wi : (Jvm.Cond.instantiable C kk).before a0 Z = true) : a ≠ b := by
  obtain ⟨c, A, -⟩ := F
  exact ne_arr E wi A
end OwnD
def own_Inv (S : Nat → Int) (n : Int32) (Vf : Nat → UInt64) (Rf Kf : Nat → Int32) : Prop :=
  (0 ≤ n.toInt ∧ n.toInt ≤ 4) ∧ (∀ i : Nat, (i : Int) < n.toInt → 0 ≤ (Kf i).toInt ∧ (Kf i).toInt < 4) ∧ (∀ i j : Nat, (i : Int) < n.toInt → (j : Int) < n.toInt → (Kf i).toInt = (Kf j).toInt → i = j) ∧ (∀ c : Nat, c < 4 → own_isd (Vf c) (S c)) ∧
  (∀ c : Nat, c < 4 → Rf c = 0 → S c = 0 ∧ ∀ i : Nat, (i : Int) < n.toInt → (Kf i).toInt ≠ c) ∧ (∀ c : Nat, c < 4 → ¬ Rf c = 0 → ∃ i : Nat, (i : Int) < n.toInt ∧ (Kf i).toInt = c)
theorem own_cl {n : Int32} (h : 0 ≤ n.toInt) : (n.toNatClampNeg : Int) = n.toInt := by simp only [Int32.toNatClampNeg]; omega
theorem own_p1 {n : Int32} (h : n.toInt < 1000) : (n + 1).toInt = n.toInt + 1 := by
  have := c_iadd n 1; have := rng32 n; have := rng32 (n + 1); have : (1 : Int32).toInt = 1 := by decide
  omega
theorem own_room {S : Nat → Int} {n : Int32} {Vf : Nat → UInt64} {Rf Kf : Nat → Int32} {c : Nat} (I : own_Inv S n Vf Rf Kf) (hc : c < 4) (h0 : Rf c = 0) : n.toInt < 4 := by
  obtain ⟨⟨h1, h2⟩, h3, h4, -, h6, -⟩ := I
  obtain ⟨-, h7⟩ := h6 c hc h0
  refine Int.lt_of_not_ge fun q => ?_
  have e : n.toInt = 4 := by omega
  have a0 := h3 0 (by omega); have a1 := h3 1 (by omega); have a2 := h3 2 (by omega); have a3 := h3 3 (by omega)
  have b0 := h7 0 (by omega); have b1 := h7 1 (by omega); have b2 := h7 2 (by omega); have b3 := h7 3 (by omega)
  have c01 : (Kf 0).toInt ≠ (Kf 1).toInt := fun q => by have := h4 0 1 (by omega) (by omega) q; omega
  have c02 : (Kf 0).toInt ≠ (Kf 2).toInt := fun q => by have := h4 0 2 (by omega) (by omega) q; omega
  have c03 : (Kf 0).toInt ≠ (Kf 3).toInt := fun q => by have := h4 0 3 (by omega) (by omega) q; omega
  have c12 : (Kf 1).toInt ≠ (Kf 2).toInt := fun q => by have := h4 1 2 (by omega) (by omega) q; omega
  have c13 : (Kf 1).toInt ≠ (Kf 3).toInt := fun q => by have := h4 1 3 (by omega) (by omega) q; omega
  have c23 : (Kf 2).toInt ≠ (Kf 3).toInt := fun q => by have := h4 2 3 (by omega) (by omega) q; omega
  omega
theorem own_inv_new {S : Nat → Int} {n col : Int32} {Vf : Nat → UInt64} {Rf Kf : Nat → Int32} {z : UInt64} {t : Int} (I : own_Inv S n Vf Rf Kf) (hc0 : 0 ≤ col.toInt) (hc4 : col.toInt < 4) (h0 : Rf (col).toNatClampNeg = 0) (hz : own_isd z t) (hb : (S (col).toNatClampNeg + t).natAbs < 2 ^ 53) :
    own_Inv (own_upd S (col).toNatClampNeg (S (col).toNatClampNeg + t)) (n + (1 : Int32)) (own_upd Vf (col).toNatClampNeg (Jvm.FP.dadd (Vf (col).toNatClampNeg) z)) (own_upd Rf (col).toNatClampNeg (1 : Int32)) (own_upd Kf (n).toNatClampNeg col) := by
  have hcl := own_cl hc0
  have hn4 := own_room I (by omega) h0
  obtain ⟨⟨h1, h2⟩, h3, h4, h5, h6, h7⟩ := I
  have hn := own_cl h1
  have hp := own_p1 (n := n) (by omega)
  obtain ⟨s0, hno⟩ := h6 _ (by omega) h0
  have kat : ∀ i : Nat, (i : Int) < (n + (1 : Int32)).toInt → (i = n.toNatClampNeg ∧ own_upd Kf (n).toNatClampNeg col i = col) ∨ ((i : Int) < n.toInt ∧ own_upd Kf (n).toNatClampNeg col i = Kf i) := fun i hi => by
    unfold own_upd
    by_cases q : i = n.toNatClampNeg
    · exact Or.inl ⟨q, if_pos q⟩
    · exact Or.inr ⟨by omega, if_neg q⟩
  refine ⟨⟨by omega, by omega⟩, fun i hi => ?_, fun i j hi hj e => ?_, fun c hc => ?_, fun c hc hr => ?_, fun c hc hr => ?_⟩
  · rcases kat i hi with ⟨-, e⟩ | ⟨q, e⟩
    · rw [e]; exact ⟨hc0, hc4⟩
    · rw [e]; exact h3 i q
  · rcases kat i hi with ⟨qi, ei⟩ | ⟨qi, ei⟩ <;> rcases kat j hj with ⟨qj, ej⟩ | ⟨qj, ej⟩ <;> rw [ei, ej] at e
    · omega
    · exact absurd (e.symm.trans hcl.symm) (hno j qj)
    · exact absurd (e.trans hcl.symm) (hno i qi)
    · exact h4 i j qi qj e
  · unfold own_upd
    by_cases q : c = col.toNatClampNeg
    · rw [if_pos q, if_pos q]; exact (h5 _ (by omega)).add hz hb
    · rw [if_neg q, if_neg q]; exact h5 c hc
  · unfold own_upd at hr ⊢
    by_cases q : c = col.toNatClampNeg
    · rw [if_pos q] at hr; exact absurd hr (by decide)
    · rw [if_neg q] at hr
      obtain ⟨a1, a2⟩ := h6 c hc hr
      refine ⟨by rw [if_neg q]; exact a1, fun i hi => ?_⟩
      have := kat i hi
      unfold own_upd at this
      rcases this with ⟨-, e⟩ | ⟨q2, e⟩
      · rw [e]; omega
      · rw [e]; exact a2 i q2
  · by_cases q : c = col.toNatClampNeg
    · refine ⟨n.toNatClampNeg, by omega, ?_⟩
      unfold own_upd; rw [if_pos rfl]; omega
    · have hr' : ¬ Rf c = 0 := by unfold own_upd at hr; rw [if_neg q] at hr; exact hr
      obtain ⟨i, a1, a2⟩ := h7 c hc hr'
      refine ⟨i, by omega, ?_⟩
      unfold own_upd; rw [if_neg (by omega)]; exact a2
theorem own_inv_old {S : Nat → Int} {n col : Int32} {Vf : Nat → UInt64} {Rf Kf : Nat → Int32} {z : UInt64} {t : Int} (I : own_Inv S n Vf Rf Kf) (hc0 : 0 ≤ col.toInt) (hc4 : col.toInt < 4) (h0 : ¬ Rf (col).toNatClampNeg = 0) (hz : own_isd z t) (hb : (S (col).toNatClampNeg + t).natAbs < 2 ^ 53) :
    own_Inv (own_upd S (col).toNatClampNeg (S (col).toNatClampNeg + t)) n (own_upd Vf (col).toNatClampNeg (Jvm.FP.dadd (Vf (col).toNatClampNeg) z)) Rf Kf := by
  have hcl := own_cl hc0
  obtain ⟨h1, h3, h4, h5, h6, h7⟩ := I
  refine ⟨h1, h3, h4, fun c hc => ?_, fun c hc hr => ?_, h7⟩
  · unfold own_upd
    by_cases q : c = col.toNatClampNeg
    · rw [if_pos q, if_pos q]; exact (h5 _ (by omega)).add hz hb
    · rw [if_neg q, if_neg q]; exact h5 c hc
  · have q : ¬ c = col.toNatClampNeg := fun q => h0 (q ▸ hr)
    unfold own_upd; rw [if_neg q]; exact h6 c hc hr
def own_AddI (S : Nat → Int) (off i : Int32) (Kf : Nat → Int32) (O Ow : Nat → UInt64) : Prop :=
  (∀ c : Nat, c < 4 → (∃ j : Nat, (j : Int) < i.toInt ∧ (Kf j).toInt = c) → own_isd (Ow (off.toInt.toNat + c)) (S c)) ∧ (∀ c : Nat, c < 4 → (∀ j : Nat, (j : Int) < i.toInt → (Kf j).toInt ≠ c) → own_isd (Ow (off.toInt.toNat + c)) 0) ∧ ∀ k : Nat, (k < off.toInt.toNat ∨ off.toInt.toNat + 4 ≤ k) → Ow k = O k
theorem own_add_turn {S : Nat → Int} {n off i cw : Int32} {Vf O Ow : Nat → UInt64} {Rf Kf : Nat → Int32} (I : own_Inv S n Vf Rf Kf) (A : own_AddI S off i Kf O Ow) (h0 : 0 ≤ i.toInt) (hi : i.toInt < n.toInt) (ho : 0 ≤ off.toInt) (ho2 : off.toInt ≤ 100) (hcw : cw = Kf (i).toNatClampNeg) :
    (0 ≤ cw.toInt ∧ cw.toInt < 4) ∧ (off + cw).toInt = off.toInt + cw.toInt ∧ own_isd (Jvm.FP.dadd (Ow ((off + cw)).toNatClampNeg) (Vf (cw).toNatClampNeg)) (S (cw).toNatClampNeg) ∧ own_AddI S off (i + (1 : Int32)) Kf O (own_upd Ow ((off + cw)).toNatClampNeg (Jvm.FP.dadd (Ow ((off + cw)).toNatClampNeg) (Vf (cw).toNatClampNeg))) := by
  obtain ⟨⟨h1, h2⟩, h3, h4, h5, h6, h7⟩ := I
  obtain ⟨A1, A2, A3⟩ := A
  have ci := own_cl h0
  have k := h3 i.toNatClampNeg (by omega)
  rw [← hcw] at k
  have ea : (off + cw).toInt = off.toInt + cw.toInt := by have := c_iadd off cw; have := rng32 (off + cw); omega
  have cc := own_cl k.1
  have co := own_cl (n := off + cw) (by omega)
  have ei : ((off + cw)).toNatClampNeg = off.toInt.toNat + cw.toNatClampNeg := by omega
  have hp := own_p1 (n := i) (by omega)
  have no : ∀ j : Nat, (j : Int) < i.toInt → (Kf j).toInt ≠ cw.toNatClampNeg := fun j hj q => by
    have := h4 j i.toNatClampNeg (by omega) (by omega) (by rw [← hcw]; omega)
    omega
  have z := A2 cw.toNatClampNeg (by omega) no
  rw [ei]
  have sm := z.add (h5 cw.toNatClampNeg (by omega)) (by rw [Int.zero_add]; exact (h5 cw.toNatClampNeg (by omega)).2)
  rw [Int.zero_add] at sm
  refine ⟨k, ea, sm, fun c hc q => ?_, fun c hc q => ?_, fun k hk => ?_⟩
  · unfold own_upd
    by_cases e : c = cw.toNatClampNeg
    · rw [if_pos (by omega), e]; exact sm
    · rw [if_neg (by omega)]
      obtain ⟨j, q1, q2⟩ := q
      refine A1 c hc ⟨j, ?_, q2⟩
      by_cases e2 : j = i.toNatClampNeg
      · rw [e2, ← hcw] at q2; omega
      · omega
  · unfold own_upd
    have e : ¬ c = cw.toNatClampNeg := fun e => by
      refine q i.toNatClampNeg (by omega) ?_
      rw [← hcw]; omega
    rw [if_neg (by omega)]
    exact A2 c hc fun j hj => q j (by omega)
  · unfold own_upd; rw [if_neg (by omega)]; exact A3 k hk
theorem own_add_end {S : Nat → Int} {n off i : Int32} {Vf O Ow : Nat → UInt64} {Rf Kf : Nat → Int32} (I : own_Inv S n Vf Rf Kf) (A : own_AddI S off i Kf O Ow) (hi : i = n) : (∀ c : Nat, c < 4 → own_isd (Ow (off.toInt.toNat + c)) (S c)) ∧ ∀ k : Nat, (k < off.toInt.toNat ∨ off.toInt.toNat + 4 ≤ k) → Ow k = O k := by
  subst hi
  obtain ⟨⟨h1, h2⟩, h3, h4, h5, h6, h7⟩ := I
  refine ⟨fun c hc => ?_, A.2.2⟩
  by_cases q : Rf c = 0
  · obtain ⟨s0, no⟩ := h6 c hc q
    rw [s0]; exact A.2.1 c hc no
  · exact A.1 c hc (h7 c hc q)
def own_ClrI (i : Int32) (Kf : Nat → Int32) (Vf Vw : Nat → UInt64) (Rf Rw : Nat → Int32) : Prop :=
  (∀ c : Nat, c < 4 → (∃ j : Nat, (j : Int) < i.toInt ∧ (Kf j).toInt = c) → own_isd (Vw c) 0 ∧ Rw c = 0) ∧ (∀ c : Nat, c < 4 → (∀ j : Nat, (j : Int) < i.toInt → (Kf j).toInt ≠ c) → Vw c = Vf c ∧ Rw c = Rf c)
theorem own_clr_turn {S : Nat → Int} {n i : Int32} {Vf Vw : Nat → UInt64} {Rf Rw Kf : Nat → Int32} (I : own_Inv S n Vf Rf Kf) (A : own_ClrI i Kf Vf Vw Rf Rw) (h0 : 0 ≤ i.toInt) (hi : i.toInt < n.toInt) :
    (0 ≤ (Kf (i).toNatClampNeg).toInt ∧ (Kf (i).toNatClampNeg).toInt < 4) ∧ own_ClrI (i + (1 : Int32)) Kf Vf (own_upd Vw ((Kf (i).toNatClampNeg)).toNatClampNeg 0) Rf (own_upd Rw ((Kf (i).toNatClampNeg)).toNatClampNeg (0 : Int32)) := by
  obtain ⟨⟨h1, h2⟩, h3, -, -, -, -⟩ := I
  have ci := own_cl h0
  have k := h3 i.toNatClampNeg (by omega)
  have cc := own_cl k.1
  have hp := own_p1 (n := i) (by omega)
  refine ⟨k, fun c hc q => ?_, fun c hc q => ?_⟩
  · unfold own_upd
    by_cases e : c = (Kf (i).toNatClampNeg).toNatClampNeg
    · rw [if_pos e, if_pos e]; exact ⟨own_isd.zero, rfl⟩
    · rw [if_neg e, if_neg e]
      obtain ⟨j, q1, q2⟩ := q
      refine A.1 c hc ⟨j, ?_, q2⟩
      by_cases e2 : j = i.toNatClampNeg
      · rw [e2] at q2; omega
      · omega
  · unfold own_upd
    have e : ¬ c = (Kf (i).toNatClampNeg).toNatClampNeg := fun e => q i.toNatClampNeg (by omega) (by omega)
    rw [if_neg e, if_neg e]
    exact A.2 c hc fun j hj => q j (by omega)
theorem own_clr_end {S : Nat → Int} {n i : Int32} {Vf Vw : Nat → UInt64} {Rf Rw Kf : Nat → Int32} (I : own_Inv S n Vf Rf Kf) (A : own_ClrI i Kf Vf Vw Rf Rw) (hi : i = n) : own_Inv (fun _ => 0) (0 : Int32) Vw Rw Kf := by
  subst hi
  have z : (0 : Int32).toInt = 0 := by decide
  obtain ⟨-, -, -, h5, h6, h7⟩ := I
  have all : ∀ c : Nat, c < 4 → own_isd (Vw c) 0 ∧ Rw c = 0 := fun c hc => by
    by_cases q : Rf c = 0
    · obtain ⟨s0, no⟩ := h6 c hc q
      obtain ⟨e1, e2⟩ := A.2 c hc no
      rw [e1, e2]; exact ⟨s0 ▸ h5 c hc, q⟩
    · exact A.1 c hc (h7 c hc q)
  exact ⟨⟨by decide, by decide⟩, fun i hi => absurd hi (by omega), fun i j hi => absurd hi (by omega), fun c hc => (all c hc).1, fun c hc _ => ⟨rfl, fun i hi => absurd hi (by omega)⟩, fun c hc hr => absurd (all c hc).2 hr⟩
theorem own_inv0 {Kf : Nat → Int32} : own_Inv (fun _ => 0) (0 : Int32) (fun _ => 0) (fun i => ([0, 0, 0, 0] : List Int32).getD i 0) Kf := by
  have z : (0 : Int32).toInt = 0 := by decide
  refine ⟨⟨by decide, by decide⟩, fun i hi => absurd hi (by omega), fun i j hi => absurd hi (by omega), fun c hc => own_isd.zero, fun c hc _ => ⟨rfl, fun i hi => absurd hi (by omega)⟩, fun c hc hr => absurd ?_ hr⟩
  have hc' : c = 0 ∨ c = 1 ∨ c = 2 ∨ c = 3 := by omega
  rcases hc' with q | q | q | q <;> rw [q] <;> rfl
theorem own_Sb {S : Nat → Int} {B t : Int} {k : Nat} (h : ∀ c, -B ≤ S c ∧ S c ≤ B) (ht : -2147483648 ≤ t ∧ t ≤ 2147483648) (hB : 0 ≤ B) : ∀ c, -(B + 2147483648) ≤ own_upd S k (S k + t) c ∧ own_upd S k (S k + t) c ≤ B + 2147483648 := by
  intro c
  have := h c; have := h k
  unfold own_upd; split <;> omega
def own_x (s : Int64) (a k : Int32) (t : Int64) : Int64 := if a = k then (s + t) else s
def own_exp (k a : Int32) (ta : Int64) (b : Int32) (tb : Int64) (c : Int32) (tc : Int64) : Int64 := own_x (own_x (own_x 0 a k ta) b k tb) c k tc
theorem own_x1 {s : Int64} {S : Nat → Int} {B : Int} {a k x : Int32} {kN : Nat} (hk : k.toInt = kN) (ha : 0 ≤ a.toInt) (hs : s.toInt = S kN) (hB : -B ≤ S kN ∧ S kN ≤ B) (hB2 : B ≤ 10000000000) : (own_x s a k x.toInt64).toInt = own_upd S (a).toNatClampNeg (S (a).toNatClampNeg + x.toInt) kN := by
  have ca := own_cl ha
  have hx := rng32 x
  unfold own_x own_upd
  by_cases q : a = k
  · have e : kN = a.toNatClampNeg := by rw [q] at ca ⊢; omega
    rw [if_pos q, if_pos e, ← e]
    have h1 := c_ladd s x.toInt64; have h2 := rng64 (s + x.toInt64); have h3 := c_i2l x
    rw [h3] at h1
    omega
  · have e : ¬ kN = a.toNatClampNeg := fun e => q (Int32.toInt_inj.mp (by omega))
    rw [if_neg q, if_neg e]; exact hs
theorem own_expS {k a b c x y z : Int32} {kN : Nat} {S1 S2 S3 : Nat → Int} (hk : k.toInt = kN) (ha : 0 ≤ a.toInt) (hb : 0 ≤ b.toInt) (hc : 0 ≤ c.toInt) (hS1 : S1 = own_upd (fun _ => (0 : Int)) (a).toNatClampNeg ((fun _ => (0 : Int)) (a).toNatClampNeg + x.toInt)) (hS2 : S2 = own_upd S1 (b).toNatClampNeg (S1 (b).toNatClampNeg + y.toInt)) (hS3 : S3 = own_upd S2 (c).toNatClampNeg (S2 (c).toNatClampNeg + z.toInt)) :
    own_isd (Jvm.FP.l2d (own_exp k a (x.toInt64) b (y.toInt64) c (z.toInt64))) (S3 kN) := by
  have r1 := rng32 x; have r2 := rng32 y; have r3 := rng32 z
  have b0 : ∀ i, -(0 : Int) ≤ (fun _ : Nat => (0 : Int)) i ∧ (fun _ : Nat => (0 : Int)) i ≤ 0 := fun i => ⟨by show -(0 : Int) ≤ 0; decide, Int.le_refl _⟩
  have b1 := own_Sb (k := a.toNatClampNeg) b0 (t := x.toInt) (by omega) (by decide)
  rw [← hS1] at b1
  have b2 := own_Sb (k := b.toNatClampNeg) b1 (t := y.toInt) (by omega) (by decide)
  rw [← hS2] at b2
  have b3 := own_Sb (k := c.toNatClampNeg) b2 (t := z.toInt) (by omega) (by decide)
  rw [← hS3] at b3
  have e1 : (own_x 0 a k x.toInt64).toInt = S1 kN := by rw [hS1]; exact own_x1 (S := fun _ => 0) (B := 0) hk ha (by decide) (b0 kN) (by decide)
  have e2 : (own_x (own_x 0 a k x.toInt64) b k y.toInt64).toInt = S2 kN := by rw [hS2]; exact own_x1 hk hb e1 (b1 kN) (by decide)
  have e3 : (own_exp k a (x.toInt64) b (y.toInt64) c (z.toInt64)).toInt = S3 kN := by rw [hS3]; exact own_x1 hk hc e2 (b2 kN) (by decide)
  have q := b3 kN
  rw [← e3]
  exact own_isd.l2d (by rw [e3]; omega)
theorem own_cmp2 {cd k w : Int32} {kN : Nat} {y : UInt64} (hk : k.toInt = kN) (hc : 0 ≤ cd.toInt) (h : y = (if cd = k then (Jvm.FP.i2d w) else (0 : UInt64))) : own_isd y (own_upd (fun _ => (0 : Int)) (cd).toNatClampNeg ((fun _ => (0 : Int)) (cd).toNatClampNeg + w.toInt) kN) := by
  have ca := own_cl hc
  unfold own_upd
  rw [h]
  by_cases q : cd = k
  · rw [if_pos q, if_pos (by rw [q] at ca ⊢; omega), Int.zero_add]; exact own_isd.i2d w
  · rw [if_neg q, if_neg (fun e => q (Int32.toInt_inj.mp (by omega)))]; exact own_isd.zero
theorem own_3 {x c : Int32} (h : c = (x &&& (3 : Int32))) : 0 ≤ c.toInt ∧ c.toInt < 4 := by
  have e := c_and x 3 (by decide); have : (3 : Int32).toInt = 3 := by decide
  rw [h]; omega
theorem pn_0 : plainName "com/example/fusewright/fusewright/runtime/MatrixProduct$Sums" = true := by first | (simp [plainName, overriddenIn]; done) | decide +kernel
theorem ef_1 (m : MethodId) (x0 : Addr) (x1 : Int32) : entryFrame m #[(.ref x0), (.int x1)] 2 = mkF m 0 #[.val (.ref x0), .val (.int x1)] [] := by first | (simp [entryFrame, mkF, argsToLocals, Value.category]; done) | rfl
def Q1 (Z : State) (ob : Addr) (p1 : Int32) (u1 u2 u3 : Value) (h0 : Heap) (n0 : Nat) (v : Option Value) (h : Heap) (L : List Loc) : Prop := v = none ∧ Fr n0 L ∧ Keep h0 h [ob] ∧ ∃ tv tr tc : Addr, (n0 ≤ tv ∧ n0 ≤ tr ∧ n0 ≤ tc) ∧ (h0.size ≤ tv ∧ h0.size ≤ tr ∧ h0.size ≤ tc) ∧ (ob ≠ tv ∧ ob ≠ tr ∧ ob ≠ tc ∧ tv ≠ tr ∧ tv ≠ tc ∧ tr ≠ tc) ∧ Exa Z h ob "com/example/fusewright/fusewright/runtime/MatrixProduct$Sums" ∧ Fld Z h ob "com/example/fusewright/fusewright/runtime/MatrixProduct$Sums" "values" "[D" (.ref tv) ∧ Fld Z h ob "com/example/fusewright/fusewright/runtime/MatrixProduct$Sums" "reached" "[Z" (.ref tr) ∧ Fld Z h ob "com/example/fusewright/fusewright/runtime/MatrixProduct$Sums" "columns" "[I" (.ref tc) ∧ Fld Z h ob "com/example/fusewright/fusewright/runtime/MatrixProduct$Sums" "count" "I" (.int (0 : Int32)) ∧ ∃ (Vf : Nat → UInt64) (Rf Kf : Nat → Int32), own_Arf Z h tv .double 4 (fun i => .double (Vf i)) ∧ own_Arf Z h tr .boolean 4 (fun i => .int (Rf i)) ∧ own_Arf Z h tc .int 4 (fun i => .int (Kf i)) ∧ own_Inv (fun _ => (0 : Int)) (0 : Int32) Vf Rf Kf
abbrev P1 (Z : State) (ob : Addr) (p1 : Int32) (u1 u2 u3 : Value) (h0 : Heap) (n0 : Nat) (s : State) : Outcome → State → Prop := fun o U' => ∃ v L, o = .returned v ∧ Q1 Z ob p1 u1 u2 u3 h0 n0 v U'.heap L ∧ FrameEnd s o U' L ({ frames := 1, cells := 3, slots := 12, locals := 13 } : Room).cells ({ frames := 1, cells := 3, slots := 12, locals := 13 } : Room).slots
theorem d1_0 : decode prog_84_method_1_code 0 = .ok (.aload_n 0, 1) := by decide +kernel
theorem d1_1 : decode prog_84_method_1_code 1 = .ok (.invokespecial 1, 3) := by decide +kernel
theorem d1_4 : decode prog_84_method_1_code 4 = .ok (.aload_n 0, 1) := by decide +kernel
theorem d1_5 : decode prog_84_method_1_code 5 = .ok (.iload_n 1, 1) := by decide +kernel
theorem d1_6 : decode prog_84_method_1_code 6 = .ok (.newarray .double, 2) := by decide +kernel
theorem d1_8 : decode prog_84_method_1_code 8 = .ok (.putfield 7, 3) := by decide +kernel
theorem d1_11 : decode prog_84_method_1_code 11 = .ok (.aload_n 0, 1) := by decide +kernel
theorem d1_12 : decode prog_84_method_1_code 12 = .ok (.iload_n 1, 1) := by decide +kernel
theorem d1_13 : decode prog_84_method_1_code 13 = .ok (.newarray .boolean, 2) := by decide +kernel
theorem d1_15 : decode prog_84_method_1_code 15 = .ok (.putfield 13, 3) := by decide +kernel
theorem d1_18 : decode prog_84_method_1_code 18 = .ok (.aload_n 0, 1) := by decide +kernel
theorem d1_19 : decode prog_84_method_1_code 19 = .ok (.iload_n 1, 1) := by decide +kernel
theorem d1_20 : decode prog_84_method_1_code 20 = .ok (.newarray .int, 2) := by decide +kernel
theorem d1_22 : decode prog_84_method_1_code 22 = .ok (.putfield 17, 3) := by decide +kernel
theorem d1_25 : decode prog_84_method_1_code 25 = .ok (.return_, 1) := by decide +kernel
set_option maxRecDepth 65536 in
set_option maxHeartbeats 40000000 in
theorem rm1 (l : Launch) (Z : State) (a0 : Array Value) (hw : ∀ d ∈ tables_1, d.before a0 Z = true) (ws : List Jvm.Cond) (ob : Addr) (p1 : Int32) (u1 u2 u3 : Value) (h0 : Heap) (n0 : Nat) (Z0 : n0 ≤ h0.size) (F0_0 : Fld Z h0 ob "com/example/fusewright/fusewright/runtime/MatrixProduct$Sums" "values" "[D" u1) (F1_0 : Fld Z h0 ob "com/example/fusewright/fusewright/runtime/MatrixProduct$Sums" "reached" "[Z" u2) (F2_0 : Fld Z h0 ob "com/example/fusewright/fusewright/runtime/MatrixProduct$Sums" "columns" "[I" u3) (FN_0 : Fld Z h0 ob "com/example/fusewright/fusewright/runtime/MatrixProduct$Sums" "count" "I" (.int (0 : Int32))) (Ex0 : Exa Z h0 ob "com/example/fusewright/fusewright/runtime/MatrixProduct$Sums") (g_ob : n0 ≤ ob) (hp : p1 = (4 : Int32)) :
    MetFree l (⟨"com/example/fusewright/fusewright/runtime/MatrixProduct$Sums", "<init>", "(I)V"⟩ : MethodName) (head1 (Jvm.Cond.code (⟨"com/example/fusewright/fusewright/runtime/MatrixProduct$Sums", "<init>", "(I)V"⟩ : MethodName) prog_84_method_1_code 2 none :: ws) ({ frames := 1, cells := 3, slots := 12, locals := 13 } : Room)) (fun a U => a = #[(.ref ob), (.int p1)] ∧ Z.Warmed39 U.vm ∧ U.heap = h0) (fun _ _ _ _ _ => True) (fun _ U o U' => ∃ v L, o = .returned v ∧ Q1 Z ob p1 u1 u2 u3 h0 n0 v U'.heap L ∧ FrameEnd U o U' L ({ frames := 1, cells := 3, slots := 12, locals := 13 } : Room).cells ({ frames := 1, cells := 3, slots := 12, locals := 13 } : Room).slots) := by
  refine MetFree.of_bodySF (plainFor_of_name pn_0) hisR ?_
  intro p e s m args below meth c s₁ Bd hml0 hP hK
  obtain ⟨rfl, hZ, hh⟩ := hP
  have hx := Bd.exec
  have hby := Bd.bytes
  have hml : c.maxLocals = 2 := hml0
  have hown : s.vm.findClass "com/example/fusewright/fusewright/runtime/MatrixProduct$Sums" = some m.cls := findClass_of_methodNamed Bd.named
  have hnm := (name_of_methodNamed Bd.named Bd.method).1
  have X0 : Stand p l e ({ frames := 1, cells := 3, slots := 12, locals := 13 } : Room) s m #[(.ref ob), (.int p1)] below meth c s₁ [] 0 0 := Stand.of_body Bd
  have e0 : s₁.heap = h0 := by rw [← hh, Bd.state]; rfl
  have N0 := Fr.nil n0
  refine own_enter (P := (P1 Z ob p1 u1 u2 u3 h0 n0 s)) (ef_1 m ob p1) ?_
  have K0 : Keep h0 h0 [ob] := Keep.refl h0 _
  show own_Fin p.tables e below _ (s₁.setTop (mkF m 0 #[.val (.ref ob), .val (.int p1)] []))
  subst hp
  show own_Fin p.tables e below _ (s₁.setTop (mkF m 0 #[.val (.ref ob), .val (.int (4 : Int32))] []))
  refine own_step (fun _ k => XS.aloadN X0.here hx rfl (hb hby d1_0) rfl rfl k) ?_
  show own_Fin p.tables e below _ (s₁.setTop (mkF m 1 #[.val (.ref ob), .val (.int (4 : Int32))] [(.ref ob)]))
  obtain ⟨T1, X1, e1, st1⟩ := initO X0 hx hZ hown (hw _ (List.mem_of_getElem? (i := 6) rfl)) (hw _ (List.mem_of_getElem? (i := 7) rfl)) (hw _ (List.mem_of_getElem? (i := 8) rfl)) e0 (g := (mkF m 1 #[.val (.ref ob), .val (.int (4 : Int32))] [(.ref ob)])) rfl (by rw [hml]; rfl) rfl (hb hby d1_1) (by decide) (W := 0) (by show 2 * 0 + _ ≤ _; exact Nat.le_of_eq rfl) (by decide)
  refine own_step st1 ?_
  show own_Fin p.tables e below _ (T1.setTop (mkF m 4 #[.val (.ref ob), .val (.int (4 : Int32))] []))
  refine own_step (fun _ k => XS.aloadN X1.here hx rfl (hb hby d1_4) rfl rfl k) ?_
  show own_Fin p.tables e below _ (T1.setTop (mkF m 5 #[.val (.ref ob), .val (.int (4 : Int32))] [(.ref ob)]))
  refine own_step (fun _ k => XS.iloadN X1.here hx rfl (hb hby d1_5) rfl k) ?_
  show own_Fin p.tables e below _ (T1.setTop (mkF m 6 #[.val (.ref ob), .val (.int (4 : Int32))] [(.int (4 : Int32)), (.ref ob)]))
  obtain ⟨T2, h2, k2, X2, e2, E2, A2, st2⟩ := newP X1 hx hZ (hw _ (List.mem_of_getElem? (i := 9) rfl)) e1 (g := (mkF m 6 #[.val (.ref ob), .val (.int (4 : Int32))] [(.int (4 : Int32)), (.ref ob)])) rfl (hb hby d1_6) rfl (by decide) (cap := 4) (by decide) (by decide) (by decide) (by decide)
  obtain ⟨b2, g2⟩ : ∃ z, z = h0.size := ⟨_, rfl⟩
  rw [← g2] at A2 st2
  refine own_step st2 ?_
  have g_b2 : n0 ≤ b2 := Nat.le_trans Z0 (Nat.le_of_eq g2.symm)
  have sz_b2 : h0.size ≤ b2 := Nat.le_trans K0.1 (Nat.le_of_eq g2.symm)
  have ne_ob_b2 : ob ≠ b2 := Nat.ne_of_lt (Nat.lt_of_lt_of_le F0_0.lt (Nat.le_of_eq g2.symm))
  have f3 := Nat.le_trans Z0 E2.1
  have f4 := F0_0.ext E2
  have f5 := F1_0.ext E2
  have f6 := F2_0.ext E2
  have f7 := FN_0.ext E2
  have f8 := Ex0.ext E2
  have f9 := K0.ext E2
  have f10 : Arv Z h2 b2 k2 .double (4 : Int32) [] (.double 0) := Arv.new A2 (by decide)
  show own_Fin p.tables e below _ (T2.setTop (mkF m 8 #[.val (.ref ob), .val (.int (4 : Int32))] [(.ref b2), (.ref ob)]))
  obtain ⟨T11, h11, X11, e11, W11, st11⟩ := putF X2 hx hZ hown (host := "") (Or.inl (hw _ (List.mem_of_getElem? (i := 10) rfl))) Via.refl e2 f4 f8 (Or.inr ⟨(hw _ (List.mem_of_getElem? (i := 11) rfl)), rfl, hnm⟩) (hw _ (List.mem_of_getElem? (i := 1) rfl)) (ty := (.array .double)) (by decide) rfl rfl (g := (mkF m 8 #[.val (.ref ob), .val (.int (4 : Int32))] [(.ref b2), (.ref ob)])) rfl rfl (hb hby d1_8)
  refine own_step st11 ?_
  have f12 := Nat.le_trans f3 (Keep.of_wr W11).1
  have f13 := f5.other W11 (Or.inr (slot_ne (Or.inr (hw _ (List.mem_of_getElem? (i := 14) rfl))) (Or.inr (hw _ (List.mem_of_getElem? (i := 11) rfl))) (by decide) (t := (.array .boolean)) (t' := (.array .double)) (by decide) (by decide)))
  have f14 := f6.other W11 (Or.inr (slot_ne (Or.inr (hw _ (List.mem_of_getElem? (i := 17) rfl))) (Or.inr (hw _ (List.mem_of_getElem? (i := 11) rfl))) (by decide) (t := (.array .int)) (t' := (.array .double)) (by decide) (by decide)))
  have f15 := f7.other W11 (Or.inr (slot_ne (Or.inl (hw _ (List.mem_of_getElem? (i := 24) rfl))) (Or.inr (hw _ (List.mem_of_getElem? (i := 11) rfl))) (by decide) (t := .int) (t' := (.array .double)) (by decide) (by decide)))
  have f16 := f8.wr W11
  have f17 := f9.wr W11 (Or.inl (List.mem_of_getElem? (i := 0) rfl))
  have f18 := f10.other W11 (Ne.symm ne_ob_b2)
  have f19 := f4.same W11
  have N20 := Fr.snoc X11 N0 g_ob
  show own_Fin p.tables e below _ (T11.setTop (mkF m 11 #[.val (.ref ob), .val (.int (4 : Int32))] []))
  refine own_step (fun _ k => XS.aloadN X11.here hx rfl (hb hby d1_11) rfl rfl k) ?_
  show own_Fin p.tables e below _ (T11.setTop (mkF m 12 #[.val (.ref ob), .val (.int (4 : Int32))] [(.ref ob)]))
  refine own_step (fun _ k => XS.iloadN X11.here hx rfl (hb hby d1_12) rfl k) ?_
  show own_Fin p.tables e below _ (T11.setTop (mkF m 13 #[.val (.ref ob), .val (.int (4 : Int32))] [(.int (4 : Int32)), (.ref ob)]))
  obtain ⟨T21, h21, k21, X21, e21, E21, A21, st21⟩ := newP X11 hx hZ (hw _ (List.mem_of_getElem? (i := 12) rfl)) e11 (g := (mkF m 13 #[.val (.ref ob), .val (.int (4 : Int32))] [(.int (4 : Int32)), (.ref ob)])) rfl (hb hby d1_13) rfl (by decide) (cap := 4) (by decide) (by decide) (by decide) (by decide)
  obtain ⟨b21, g21⟩ : ∃ z, z = h11.size := ⟨_, rfl⟩
  rw [← g21] at A21 st21
  refine own_step st21 ?_
  have g_b21 : n0 ≤ b21 := Nat.le_trans f12 (Nat.le_of_eq g21.symm)
  have sz_b21 : h0.size ≤ b21 := Nat.le_trans f17.1 (Nat.le_of_eq g21.symm)
  have ne_b2_b21 : b2 ≠ b21 := Nat.ne_of_lt (Nat.lt_of_lt_of_le f18.lt (Nat.le_of_eq g21.symm))
  have ne_ob_b21 : ob ≠ b21 := Nat.ne_of_lt (Nat.lt_of_lt_of_le f19.lt (Nat.le_of_eq g21.symm))
  have f22 := Nat.le_trans f12 E21.1
  have f23 := f19.ext E21
  have f24 := f13.ext E21
  have f25 := f14.ext E21
  have f26 := f15.ext E21
  have f27 := f16.ext E21
  have f28 := f17.ext E21
  have f29 := f18.ext E21
  have f30 : Arv Z h21 b21 k21 .boolean (4 : Int32) [(.int (0 : Int32)), (.int (0 : Int32)), (.int (0 : Int32)), (.int (0 : Int32))] (.int (0 : Int32)) := (Arv.new A21 (by decide)).pad (pad_rep [] (.int (0 : Int32)) 4)
  show own_Fin p.tables e below _ (T21.setTop (mkF m 15 #[.val (.ref ob), .val (.int (4 : Int32))] [(.ref b21), (.ref ob)]))
  obtain ⟨T31, h31, X31, e31, W31, st31⟩ := putF X21 hx hZ hown (host := "") (Or.inl (hw _ (List.mem_of_getElem? (i := 13) rfl))) Via.refl e21 f24 f27 (Or.inr ⟨(hw _ (List.mem_of_getElem? (i := 14) rfl)), rfl, hnm⟩) (hw _ (List.mem_of_getElem? (i := 1) rfl)) (ty := (.array .boolean)) (by decide) rfl rfl (g := (mkF m 15 #[.val (.ref ob), .val (.int (4 : Int32))] [(.ref b21), (.ref ob)])) rfl rfl (hb hby d1_15)
  refine own_step st31 ?_
  have f32 := Nat.le_trans f22 (Keep.of_wr W31).1
  have f33 := f23.other W31 (Or.inr (slot_ne (Or.inr (hw _ (List.mem_of_getElem? (i := 11) rfl))) (Or.inr (hw _ (List.mem_of_getElem? (i := 14) rfl))) (by decide) (t := (.array .double)) (t' := (.array .boolean)) (by decide) (by decide)))
  have f34 := f25.other W31 (Or.inr (slot_ne (Or.inr (hw _ (List.mem_of_getElem? (i := 17) rfl))) (Or.inr (hw _ (List.mem_of_getElem? (i := 14) rfl))) (by decide) (t := (.array .int)) (t' := (.array .boolean)) (by decide) (by decide)))
  have f35 := f26.other W31 (Or.inr (slot_ne (Or.inl (hw _ (List.mem_of_getElem? (i := 24) rfl))) (Or.inr (hw _ (List.mem_of_getElem? (i := 14) rfl))) (by decide) (t := .int) (t' := (.array .boolean)) (by decide) (by decide)))
  have f36 := f27.wr W31
  have f37 := f28.wr W31 (Or.inl (List.mem_of_getElem? (i := 0) rfl))
  have f38 := f29.other W31 (Ne.symm ne_ob_b2)
  have f39 := f30.other W31 (Ne.symm ne_ob_b21)
  have f40 := f24.same W31
  have N41 := Fr.snoc X31 N20 g_ob
  show own_Fin p.tables e below _ (T31.setTop (mkF m 18 #[.val (.ref ob), .val (.int (4 : Int32))] []))
  refine own_step (fun _ k => XS.aloadN X31.here hx rfl (hb hby d1_18) rfl rfl k) ?_
  show own_Fin p.tables e below _ (T31.setTop (mkF m 19 #[.val (.ref ob), .val (.int (4 : Int32))] [(.ref ob)]))
  refine own_step (fun _ k => XS.iloadN X31.here hx rfl (hb hby d1_19) rfl k) ?_
  show own_Fin p.tables e below _ (T31.setTop (mkF m 20 #[.val (.ref ob), .val (.int (4 : Int32))] [(.int (4 : Int32)), (.ref ob)]))
  obtain ⟨T42, h42, k42, X42, e42, E42, A42, st42⟩ := newP X31 hx hZ (hw _ (List.mem_of_getElem? (i := 15) rfl)) e31 (g := (mkF m 20 #[.val (.ref ob), .val (.int (4 : Int32))] [(.int (4 : Int32)), (.ref ob)])) rfl (hb hby d1_20) rfl (by decide) (cap := 4) (by decide) (by decide) (by decide) (by decide)
  obtain ⟨b42, g42⟩ : ∃ z, z = h31.size := ⟨_, rfl⟩
  rw [← g42] at A42 st42
  refine own_step st42 ?_
  have g_b42 : n0 ≤ b42 := Nat.le_trans f32 (Nat.le_of_eq g42.symm)
  have sz_b42 : h0.size ≤ b42 := Nat.le_trans f37.1 (Nat.le_of_eq g42.symm)
  have ne_b2_b42 : b2 ≠ b42 := Nat.ne_of_lt (Nat.lt_of_lt_of_le f38.lt (Nat.le_of_eq g42.symm))
  have ne_b21_b42 : b21 ≠ b42 := Nat.ne_of_lt (Nat.lt_of_lt_of_le f39.lt (Nat.le_of_eq g42.symm))
  have ne_ob_b42 : ob ≠ b42 := Nat.ne_of_lt (Nat.lt_of_lt_of_le f33.lt (Nat.le_of_eq g42.symm))
  have f43 := Nat.le_trans f32 E42.1
  have f44 := f33.ext E42
  have f45 := f40.ext E42
  have f46 := f34.ext E42
  have f47 := f35.ext E42
  have f48 := f36.ext E42
  have f49 := f37.ext E42
  have f50 := f38.ext E42
  have f51 := f39.ext E42
  have f52 : Arv Z h42 b42 k42 .int (4 : Int32) [(.int (0 : Int32)), (.int (0 : Int32)), (.int (0 : Int32)), (.int (0 : Int32))] (.int (0 : Int32)) := (Arv.new A42 (by decide)).pad (pad_rep [] (.int (0 : Int32)) 4)
  show own_Fin p.tables e below _ (T42.setTop (mkF m 22 #[.val (.ref ob), .val (.int (4 : Int32))] [(.ref b42), (.ref ob)]))
  obtain ⟨T53, h53, X53, e53, W53, st53⟩ := putF X42 hx hZ hown (host := "") (Or.inl (hw _ (List.mem_of_getElem? (i := 16) rfl))) Via.refl e42 f46 f48 (Or.inr ⟨(hw _ (List.mem_of_getElem? (i := 17) rfl)), rfl, hnm⟩) (hw _ (List.mem_of_getElem? (i := 1) rfl)) (ty := (.array .int)) (by decide) rfl rfl (g := (mkF m 22 #[.val (.ref ob), .val (.int (4 : Int32))] [(.ref b42), (.ref ob)])) rfl rfl (hb hby d1_22)
  refine own_step st53 ?_
  have f54 := Nat.le_trans f43 (Keep.of_wr W53).1
  have f55 := f44.other W53 (Or.inr (slot_ne (Or.inr (hw _ (List.mem_of_getElem? (i := 11) rfl))) (Or.inr (hw _ (List.mem_of_getElem? (i := 17) rfl))) (by decide) (t := (.array .double)) (t' := (.array .int)) (by decide) (by decide)))
  have f56 := f45.other W53 (Or.inr (slot_ne (Or.inr (hw _ (List.mem_of_getElem? (i := 14) rfl))) (Or.inr (hw _ (List.mem_of_getElem? (i := 17) rfl))) (by decide) (t := (.array .boolean)) (t' := (.array .int)) (by decide) (by decide)))
  have f57 := f47.other W53 (Or.inr (slot_ne (Or.inl (hw _ (List.mem_of_getElem? (i := 24) rfl))) (Or.inr (hw _ (List.mem_of_getElem? (i := 17) rfl))) (by decide) (t := .int) (t' := (.array .int)) (by decide) (by decide)))
  have f58 := f48.wr W53
  have f59 := f49.wr W53 (Or.inl (List.mem_of_getElem? (i := 0) rfl))
  have f60 := f50.other W53 (Ne.symm ne_ob_b2)
  have f61 := f51.other W53 (Ne.symm ne_ob_b21)
  have f62 := f52.other W53 (Ne.symm ne_ob_b42)
  have f63 := f46.same W53
  have N64 := Fr.snoc X53 N41 g_ob
  show own_Fin p.tables e below _ (T53.setTop (mkF m 25 #[.val (.ref ob), .val (.int (4 : Int32))] []))
  obtain ⟨fs65, hr65, hrun65, hended65, hW65, hsame65⟩ := X53.leave (v := none) (fun _ => rfl)
  refine own_ret (X53.returnOut hx Bd.returns (hb hby d1_25) hr65) hrun65 hended65 ?_
  refine ⟨_, _, rfl, ?_, ⟨_, rfl⟩, hW65, hsame65.mono (by decide) (by decide)⟩
  show Q1 Z ob (4 : Int32) u1 u2 u3 h0 n0 _ T53.heap _
  rw [e53]
  exact ⟨rfl, N64, f59, b2, b21, b42, ⟨g_b2, g_b21, g_b42⟩, ⟨sz_b2, sz_b21, sz_b42⟩, ⟨ne_ob_b2, ne_ob_b21, ne_ob_b42, ne_b2_b21, ne_b2_b42, ne_b21_b42⟩, f58, f55, f56, f63, f57, (fun _ => 0), (fun i => ([0, 0, 0, 0] : List Int32).getD i 0), (fun i => ([0, 0, 0, 0] : List Int32).getD i 0), own_Arf.ofD f60 rfl, own_Arf.ofI f61 [0, 0, 0, 0] rfl rfl, own_Arf.ofI f62 [0, 0, 0, 0] rfl rfl, own_inv0⟩
theorem ef_3 (m : MethodId) (x0 : Addr) (x1 : Int32) (x2 : UInt64) : entryFrame m #[(.ref x0), (.int x1), (.double x2)] 4 = mkF m 0 #[.val (.ref x0), .val (.int x1), .val (.double x2), .second] [] := by first | (simp [entryFrame, mkF, argsToLocals, Value.category]; done) | rfl
def Q3 (Z : State) (ob : Addr) (col : Int32) (zt : UInt64) (tv tr tc : Addr) (nn : Int32) (Vf : Nat → UInt64) (Rf Kf : Nat → Int32) (S : Nat → Int) (t : Int) (h0 : Heap) (n0 : Nat) (v : Option Value) (h : Heap) (L : List Loc) : Prop := v = none ∧ Fr n0 L ∧ Keep h0 h [ob, tv, tr, tc] ∧ Exa Z h ob "com/example/fusewright/fusewright/runtime/MatrixProduct$Sums" ∧ Fld Z h ob "com/example/fusewright/fusewright/runtime/MatrixProduct$Sums" "values" "[D" (.ref tv) ∧ Fld Z h ob "com/example/fusewright/fusewright/runtime/MatrixProduct$Sums" "reached" "[Z" (.ref tr) ∧ Fld Z h ob "com/example/fusewright/fusewright/runtime/MatrixProduct$Sums" "columns" "[I" (.ref tc) ∧ ∃ (n' : Int32) (V' : Nat → UInt64) (R' K' : Nat → Int32), Fld Z h ob "com/example/fusewright/fusewright/runtime/MatrixProduct$Sums" "count" "I" (.int n') ∧ own_Arf Z h tv .double 4 (fun i => .double (V' i)) ∧ own_Arf Z h tr .boolean 4 (fun i => .int (R' i)) ∧ own_Arf Z h tc .int 4 (fun i => .int (K' i)) ∧ own_Inv (own_upd S (col).toNatClampNeg (S (col).toNatClampNeg + t)) n' V' R' K'
abbrev P3 (Z : State) (ob : Addr) (col : Int32) (zt : UInt64) (tv tr tc : Addr) (nn : Int32) (Vf : Nat → UInt64) (Rf Kf : Nat → Int32) (S : Nat → Int) (t : Int) (h0 : Heap) (n0 : Nat) (s : State) : Outcome → State → Prop := fun o U' => ∃ v L, o = .returned v ∧ Q3 Z ob col zt tv tr tc nn Vf Rf Kf S t h0 n0 v U'.heap L ∧ FrameEnd s o U' L ({ frames := 0, cells := 0, slots := 0, locals := 0 } : Room).cells ({ frames := 0, cells := 0, slots := 0, locals := 0 } : Room).slots
theorem d3_0 : decode prog_84_method_2_code 0 = .ok (.aload_n 0, 1) := by decide +kernel
theorem d3_1 : decode prog_84_method_2_code 1 = .ok (.getfield 13, 3) := by decide +kernel
theorem d3_4 : decode prog_84_method_2_code 4 = .ok (.iload_n 1, 1) := by decide +kernel
theorem d3_5 : decode prog_84_method_2_code 5 = .ok (.baload, 1) := by decide +kernel
theorem d3_6 : decode prog_84_method_2_code 6 = .ok (.ifCond .ne 27, 3) := by decide +kernel
theorem d3_9 : decode prog_84_method_2_code 9 = .ok (.aload_n 0, 1) := by decide +kernel
theorem d3_10 : decode prog_84_method_2_code 10 = .ok (.getfield 13, 3) := by decide +kernel
theorem d3_13 : decode prog_84_method_2_code 13 = .ok (.iload_n 1, 1) := by decide +kernel
theorem d3_14 : decode prog_84_method_2_code 14 = .ok (.iconst 1, 1) := by decide +kernel
theorem d3_15 : decode prog_84_method_2_code 15 = .ok (.bastore, 1) := by decide +kernel
theorem d3_16 : decode prog_84_method_2_code 16 = .ok (.aload_n 0, 1) := by decide +kernel
theorem d3_17 : decode prog_84_method_2_code 17 = .ok (.getfield 17, 3) := by decide +kernel
theorem d3_20 : decode prog_84_method_2_code 20 = .ok (.aload_n 0, 1) := by decide +kernel
theorem d3_21 : decode prog_84_method_2_code 21 = .ok (.dup, 1) := by decide +kernel
theorem d3_22 : decode prog_84_method_2_code 22 = .ok (.getfield 21, 3) := by decide +kernel
theorem d3_25 : decode prog_84_method_2_code 25 = .ok (.dup_x1, 1) := by decide +kernel
theorem d3_26 : decode prog_84_method_2_code 26 = .ok (.iconst 1, 1) := by decide +kernel
theorem d3_27 : decode prog_84_method_2_code 27 = .ok (.iadd, 1) := by decide +kernel
theorem d3_28 : decode prog_84_method_2_code 28 = .ok (.putfield 21, 3) := by decide +kernel
theorem d3_31 : decode prog_84_method_2_code 31 = .ok (.iload_n 1, 1) := by decide +kernel
theorem d3_32 : decode prog_84_method_2_code 32 = .ok (.iastore, 1) := by decide +kernel
theorem d3_33 : decode prog_84_method_2_code 33 = .ok (.aload_n 0, 1) := by decide +kernel
theorem d3_34 : decode prog_84_method_2_code 34 = .ok (.getfield 7, 3) := by decide +kernel
theorem d3_37 : decode prog_84_method_2_code 37 = .ok (.iload_n 1, 1) := by decide +kernel
theorem d3_38 : decode prog_84_method_2_code 38 = .ok (.dup2, 1) := by decide +kernel
theorem d3_39 : decode prog_84_method_2_code 39 = .ok (.daload, 1) := by decide +kernel
theorem d3_40 : decode prog_84_method_2_code 40 = .ok (.dload_n 2, 1) := by decide +kernel
theorem d3_41 : decode prog_84_method_2_code 41 = .ok (.dadd, 1) := by decide +kernel
theorem d3_42 : decode prog_84_method_2_code 42 = .ok (.dastore, 1) := by decide +kernel
theorem d3_43 : decode prog_84_method_2_code 43 = .ok (.return_, 1) := by decide +kernel
set_option maxRecDepth 65536 in
set_option maxHeartbeats 40000000 in
theorem rm3 (l : Launch) (Z : State) (a0 : Array Value) (hw : ∀ d ∈ tables_1, d.before a0 Z = true) (ws : List Jvm.Cond) (ob : Addr) (col : Int32) (zt : UInt64) (tv tr tc : Addr) (nn : Int32) (Vf : Nat → UInt64) (Rf Kf : Nat → Int32) (S : Nat → Int) (t : Int) (h0 : Heap) (n0 : Nat) (Z0 : n0 ≤ h0.size) (sE : Exa Z h0 ob "com/example/fusewright/fusewright/runtime/MatrixProduct$Sums") (sF0 : Fld Z h0 ob "com/example/fusewright/fusewright/runtime/MatrixProduct$Sums" "values" "[D" (.ref tv)) (sF1 : Fld Z h0 ob "com/example/fusewright/fusewright/runtime/MatrixProduct$Sums" "reached" "[Z" (.ref tr)) (sF2 : Fld Z h0 ob "com/example/fusewright/fusewright/runtime/MatrixProduct$Sums" "columns" "[I" (.ref tc)) (sN : Fld Z h0 ob "com/example/fusewright/fusewright/runtime/MatrixProduct$Sums" "count" "I" (.int nn)) (sA0 : own_Arf Z h0 tv .double 4 (fun i => .double (Vf i))) (sA1 : own_Arf Z h0 tr .boolean 4 (fun i => .int (Rf i))) (sA2 : own_Arf Z h0 tc .int 4 (fun i => .int (Kf i))) (ne_ob_tv : ob ≠ tv) (ne_ob_tr : ob ≠ tr) (ne_ob_tc : ob ≠ tc) (ne_tv_tr : tv ≠ tr) (ne_tv_tc : tv ≠ tc) (ne_tr_tc : tr ≠ tc) (g_ob : n0 ≤ ob) (g_tv : n0 ≤ tv) (g_tr : n0 ≤ tr) (g_tc : n0 ≤ tc) (hc0 : 0 ≤ col.toInt) (hc4 : col.toInt < 4) (hz : own_isd zt t) (hI : own_Inv S nn Vf Rf Kf) (hbd : (S (col).toNatClampNeg + t).natAbs < 2 ^ 53) :
    MetFree l (⟨"com/example/fusewright/fusewright/runtime/MatrixProduct$Sums", "add", "(ID)V"⟩ : MethodName) (head1 (Jvm.Cond.code (⟨"com/example/fusewright/fusewright/runtime/MatrixProduct$Sums", "add", "(ID)V"⟩ : MethodName) prog_84_method_2_code 4 none :: ws) ({ frames := 0, cells := 0, slots := 0, locals := 0 } : Room)) (fun a U => a = #[(.ref ob), (.int col), (.double zt)] ∧ Z.Warmed39 U.vm ∧ U.heap = h0) (fun _ _ _ _ _ => True) (fun _ U o U' => ∃ v L, o = .returned v ∧ Q3 Z ob col zt tv tr tc nn Vf Rf Kf S t h0 n0 v U'.heap L ∧ FrameEnd U o U' L ({ frames := 0, cells := 0, slots := 0, locals := 0 } : Room).cells ({ frames := 0, cells := 0, slots := 0, locals := 0 } : Room).slots) := by
  refine MetFree.of_bodySF (plainFor_of_name pn_0) hisR ?_
  intro p e s m args below meth c s₁ Bd hml0 hP hK
  obtain ⟨rfl, hZ, hh⟩ := hP
  have hx := Bd.exec
  have hby := Bd.bytes
  have hml : c.maxLocals = 4 := hml0
  have hown : s.vm.findClass "com/example/fusewright/fusewright/runtime/MatrixProduct$Sums" = some m.cls := findClass_of_methodNamed Bd.named
  have hnm := (name_of_methodNamed Bd.named Bd.method).1
  have X0 : Stand p l e ({ frames := 0, cells := 0, slots := 0, locals := 0 } : Room) s m #[(.ref ob), (.int col), (.double zt)] below meth c s₁ [] 0 0 := Stand.of_body Bd
  have e0 : s₁.heap = h0 := by rw [← hh, Bd.state]; rfl
  have N0 := Fr.nil n0
  refine own_enter (P := (P3 Z ob col zt tv tr tc nn Vf Rf Kf S t h0 n0 s)) (ef_3 m ob col zt) ?_
  have K0 : Keep h0 h0 [ob, tv, tr, tc] := Keep.refl h0 _
  show own_Fin p.tables e below _ (s₁.setTop (mkF m 0 #[.val (.ref ob), .val (.int col), .val (.double zt), .second] []))
  refine own_step (fun _ k => XS.aloadN X0.here hx rfl (hb hby d3_0) rfl rfl k) ?_
  show own_Fin p.tables e below _ (s₁.setTop (mkF m 1 #[.val (.ref ob), .val (.int col), .val (.double zt), .second] [(.ref ob)]))
  obtain ⟨T1, X1, e1, st1⟩ := getF X0 hx hZ hown (host := "") (Or.inl (hw _ (List.mem_of_getElem? (i := 13) rfl))) Via.refl e0 sF1 (g := (mkF m 1 #[.val (.ref ob), .val (.int col), .val (.double zt), .second] [(.ref ob)])) rfl rfl (hb hby d3_1)
  refine own_step st1 ?_
  show own_Fin p.tables e below _ (T1.setTop (mkF m 4 #[.val (.ref ob), .val (.int col), .val (.double zt), .second] [(.ref tr)]))
  refine own_step (fun _ k => XS.iloadN X1.here hx rfl (hb hby d3_4) rfl k) ?_
  show own_Fin p.tables e below _ (T1.setTop (mkF m 5 #[.val (.ref ob), .val (.int col), .val (.double zt), .second] [(.int col), (.ref tr)]))
  obtain ⟨cl2, Ar2, S2, H2⟩ := id sA1
  have hin2 : ¬ (col < 0 ∨ cl2.slots.size ≤ (col).toNatClampNeg) := own_in S2 ⟨hc0, by omega⟩
  refine own_step (X1.baloadBooleans hx (j := col) (v := (.int (Rf (col).toNatClampNeg))) (by first | exact Ar2.1 | (rw [e1]; exact Ar2.1)) (State.isArrayOf_alike hZ.alike Ar2.2.1) Ar2.2.2 hin2 (H2 _ (own_in2 ⟨hc0, by omega⟩)) (g := (mkF m 5 #[.val (.ref ob), .val (.int col), .val (.double zt), .second] [(.int col), (.ref tr)])) rfl rfl (hb hby d3_5)) ?_
  show own_Fin p.tables e below _ (T1.setTop (mkF m 6 #[.val (.ref ob), .val (.int col), .val (.double zt), .second] [(.int (Rf (col).toNatClampNeg))]))
  by_cases hc3 : (Rf (col).toNatClampNeg) = (0 : Int32)
  · refine own_step (fun _ k => XS.ifNo X1.here hx rfl (hb hby d3_6) rfl ((if0 _ _).trans (teq hc3).2) k) ?_
    show own_Fin p.tables e below _ (T1.setTop (mkF m 9 #[.val (.ref ob), .val (.int col), .val (.double zt), .second] []))
    refine own_step (fun _ k => XS.aloadN X1.here hx rfl (hb hby d3_9) rfl rfl k) ?_
    show own_Fin p.tables e below _ (T1.setTop (mkF m 10 #[.val (.ref ob), .val (.int col), .val (.double zt), .second] [(.ref ob)]))
    obtain ⟨T4, X4, e4, st4⟩ := getF X1 hx hZ hown (host := "") (Or.inl (hw _ (List.mem_of_getElem? (i := 13) rfl))) Via.refl e1 sF1 (g := (mkF m 10 #[.val (.ref ob), .val (.int col), .val (.double zt), .second] [(.ref ob)])) rfl rfl (hb hby d3_10)
    refine own_step st4 ?_
    show own_Fin p.tables e below _ (T4.setTop (mkF m 13 #[.val (.ref ob), .val (.int col), .val (.double zt), .second] [(.ref tr)]))
    refine own_step (fun _ k => XS.iloadN X4.here hx rfl (hb hby d3_13) rfl k) ?_
    show own_Fin p.tables e below _ (T4.setTop (mkF m 14 #[.val (.ref ob), .val (.int col), .val (.double zt), .second] [(.int col), (.ref tr)]))
    refine own_step (fun _ k => XS.iconst X4.here hx rfl (hb hby d3_14) k) ?_
    show own_Fin p.tables e below _ (T4.setTop (mkF m 15 #[.val (.ref ob), .val (.int col), .val (.double zt), .second] [(.int (1 : Int32)), (.int col), (.ref tr)]))
    obtain ⟨cl5, Ar5, S5, H5⟩ := id sA1
    have hin5 : ¬ (col < 0 ∨ cl5.slots.size ≤ (col).toNatClampNeg) := own_in S5 ⟨hc0, by omega⟩
    obtain ⟨T5, h5, X5, e5, W5, st5⟩ := stZ X4 hx hZ e4 Ar5 (j := col) hin5 (g := (mkF m 15 #[.val (.ref ob), .val (.int col), .val (.double zt), .second] [(.int (1 : Int32)), (.int col), (.ref tr)])) rfl rfl (hb hby d3_15)
    refine own_step st5 ?_
    have f6 := Nat.le_trans Z0 (Keep.of_wr W5).1
    have f7 := sE.wr W5
    have f8 := sF0.other W5 (Or.inl ne_ob_tr)
    have f9 := sF1.other W5 (Or.inl ne_ob_tr)
    have f10 := sF2.other W5 (Or.inl ne_ob_tr)
    have f11 := sN.other W5 (Or.inl ne_ob_tr)
    have f12 := sA0.other W5 ne_tv_tr
    have f13 := sA2.other W5 (Ne.symm ne_tr_tc)
    have f14 := K0.wr W5 (Or.inl (List.mem_of_getElem? (i := 2) rfl))
    have f15 : own_Arf Z h5 tr .boolean 4 (fun i => .int ((own_upd Rf (col).toNatClampNeg (1 : Int32)) i)) := own_Arf.setI sA1 W5
    have N16 := Fr.snoc X5 N0 g_tr
    show own_Fin p.tables e below _ (T5.setTop (mkF m 16 #[.val (.ref ob), .val (.int col), .val (.double zt), .second] []))
    refine own_step (fun _ k => XS.aloadN X5.here hx rfl (hb hby d3_16) rfl rfl k) ?_
    show own_Fin p.tables e below _ (T5.setTop (mkF m 17 #[.val (.ref ob), .val (.int col), .val (.double zt), .second] [(.ref ob)]))
    obtain ⟨T17, X17, e17, st17⟩ := getF X5 hx hZ hown (host := "") (Or.inl (hw _ (List.mem_of_getElem? (i := 16) rfl))) Via.refl e5 f10 (g := (mkF m 17 #[.val (.ref ob), .val (.int col), .val (.double zt), .second] [(.ref ob)])) rfl rfl (hb hby d3_17)
    refine own_step st17 ?_
    show own_Fin p.tables e below _ (T17.setTop (mkF m 20 #[.val (.ref ob), .val (.int col), .val (.double zt), .second] [(.ref tc)]))
    refine own_step (fun _ k => XS.aloadN X17.here hx rfl (hb hby d3_20) rfl rfl k) ?_
    show own_Fin p.tables e below _ (T17.setTop (mkF m 21 #[.val (.ref ob), .val (.int col), .val (.double zt), .second] [(.ref ob), (.ref tc)]))
    refine own_step (fun _ k => XS.dup X17.here hx rfl (hb hby d3_21) rfl rfl k) ?_
    show own_Fin p.tables e below _ (T17.setTop (mkF m 22 #[.val (.ref ob), .val (.int col), .val (.double zt), .second] [(.ref ob), (.ref ob), (.ref tc)]))
    obtain ⟨T18, X18, e18, st18⟩ := getF X17 hx hZ hown (host := "") (Or.inl (hw _ (List.mem_of_getElem? (i := 23) rfl))) Via.refl e17 f11 (g := (mkF m 22 #[.val (.ref ob), .val (.int col), .val (.double zt), .second] [(.ref ob), (.ref ob), (.ref tc)])) rfl rfl (hb hby d3_22)
    refine own_step st18 ?_
    show own_Fin p.tables e below _ (T18.setTop (mkF m 25 #[.val (.ref ob), .val (.int col), .val (.double zt), .second] [(.int nn), (.ref ob), (.ref tc)]))
    refine own_step (fun _ k => XS.dupX1 X18.here hx rfl (hb hby d3_25) rfl rfl rfl k) ?_
    show own_Fin p.tables e below _ (T18.setTop (mkF m 26 #[.val (.ref ob), .val (.int col), .val (.double zt), .second] [(.int nn), (.ref ob), (.int nn), (.ref tc)]))
    refine own_step (fun _ k => XS.iconst X18.here hx rfl (hb hby d3_26) k) ?_
    show own_Fin p.tables e below _ (T18.setTop (mkF m 27 #[.val (.ref ob), .val (.int col), .val (.double zt), .second] [(.int (1 : Int32)), (.int nn), (.ref ob), (.int nn), (.ref tc)]))
    refine own_step (fun _ k => XS.iadd X18.here hx rfl (hb hby d3_27) rfl k) ?_
    show own_Fin p.tables e below _ (T18.setTop (mkF m 28 #[.val (.ref ob), .val (.int col), .val (.double zt), .second] [(.int (nn + (1 : Int32))), (.ref ob), (.int nn), (.ref tc)]))
    obtain ⟨T19, h19, X19, e19, W19, st19⟩ := putF X18 hx hZ hown (host := "") (Or.inl (hw _ (List.mem_of_getElem? (i := 23) rfl))) Via.refl e18 f11 f7 (Or.inl (hw _ (List.mem_of_getElem? (i := 24) rfl))) (hw _ (List.mem_of_getElem? (i := 1) rfl)) (ty := .int) (by decide) rfl rfl (g := (mkF m 28 #[.val (.ref ob), .val (.int col), .val (.double zt), .second] [(.int (nn + (1 : Int32))), (.ref ob), (.int nn), (.ref tc)])) rfl rfl (hb hby d3_28)
    refine own_step st19 ?_
    have f20 := Nat.le_trans f6 (Keep.of_wr W19).1
    have f21 := f7.wr W19
    have f22 := f8.other W19 (Or.inr (slot_ne (Or.inr (hw _ (List.mem_of_getElem? (i := 11) rfl))) (Or.inl (hw _ (List.mem_of_getElem? (i := 24) rfl))) (by decide) (t := (.array .double)) (t' := .int) (by decide) (by decide)))
    have f23 := f9.other W19 (Or.inr (slot_ne (Or.inr (hw _ (List.mem_of_getElem? (i := 14) rfl))) (Or.inl (hw _ (List.mem_of_getElem? (i := 24) rfl))) (by decide) (t := (.array .boolean)) (t' := .int) (by decide) (by decide)))
    have f24 := f10.other W19 (Or.inr (slot_ne (Or.inr (hw _ (List.mem_of_getElem? (i := 17) rfl))) (Or.inl (hw _ (List.mem_of_getElem? (i := 24) rfl))) (by decide) (t := (.array .int)) (t' := .int) (by decide) (by decide)))
    have f25 := f12.other W19 (Ne.symm ne_ob_tv)
    have f26 := f15.other W19 (Ne.symm ne_ob_tr)
    have f27 := f13.other W19 (Ne.symm ne_ob_tc)
    have f28 := f14.wr W19 (Or.inl (List.mem_of_getElem? (i := 0) rfl))
    have f29 := f11.same W19
    have N30 := Fr.snoc X19 N16 g_ob
    show own_Fin p.tables e below _ (T19.setTop (mkF m 31 #[.val (.ref ob), .val (.int col), .val (.double zt), .second] [(.int nn), (.ref tc)]))
    refine own_step (fun _ k => XS.iloadN X19.here hx rfl (hb hby d3_31) rfl k) ?_
    show own_Fin p.tables e below _ (T19.setTop (mkF m 32 #[.val (.ref ob), .val (.int col), .val (.double zt), .second] [(.int col), (.int nn), (.ref tc)]))
    obtain ⟨cl31, Ar31, S31, H31⟩ := id f27
    have hin31 : ¬ (nn < 0 ∨ cl31.slots.size ≤ (nn).toNatClampNeg) := own_in S31 ⟨hI.1.1, by have := own_room hI (by have := own_cl hc0; omega) hc3; omega⟩
    obtain ⟨T31, h31, X31, e31, W31, st31⟩ := stI X19 hx hZ e19 Ar31 (j := nn) hin31 (g := (mkF m 32 #[.val (.ref ob), .val (.int col), .val (.double zt), .second] [(.int col), (.int nn), (.ref tc)])) rfl rfl (hb hby d3_32)
    refine own_step st31 ?_
    have f32 := Nat.le_trans f20 (Keep.of_wr W31).1
    have f33 := f21.wr W31
    have f34 := f22.other W31 (Or.inl ne_ob_tc)
    have f35 := f23.other W31 (Or.inl ne_ob_tc)
    have f36 := f24.other W31 (Or.inl ne_ob_tc)
    have f37 := f29.other W31 (Or.inl ne_ob_tc)
    have f38 := f25.other W31 ne_tv_tc
    have f39 := f26.other W31 ne_tr_tc
    have f40 := f28.wr W31 (Or.inl (List.mem_of_getElem? (i := 3) rfl))
    have f41 : own_Arf Z h31 tc .int 4 (fun i => .int ((own_upd Kf (nn).toNatClampNeg col) i)) := own_Arf.setI f27 W31
    have N42 := Fr.snoc X31 N30 g_tc
    show own_Fin p.tables e below _ (T31.setTop (mkF m 33 #[.val (.ref ob), .val (.int col), .val (.double zt), .second] []))
    refine own_step (fun _ k => XS.aloadN X31.here hx rfl (hb hby d3_33) rfl rfl k) ?_
    show own_Fin p.tables e below _ (T31.setTop (mkF m 34 #[.val (.ref ob), .val (.int col), .val (.double zt), .second] [(.ref ob)]))
    obtain ⟨T43, X43, e43, st43⟩ := getF X31 hx hZ hown (host := "") (Or.inl (hw _ (List.mem_of_getElem? (i := 10) rfl))) Via.refl e31 f34 (g := (mkF m 34 #[.val (.ref ob), .val (.int col), .val (.double zt), .second] [(.ref ob)])) rfl rfl (hb hby d3_34)
    refine own_step st43 ?_
    show own_Fin p.tables e below _ (T43.setTop (mkF m 37 #[.val (.ref ob), .val (.int col), .val (.double zt), .second] [(.ref tv)]))
    refine own_step (fun _ k => XS.iloadN X43.here hx rfl (hb hby d3_37) rfl k) ?_
    show own_Fin p.tables e below _ (T43.setTop (mkF m 38 #[.val (.ref ob), .val (.int col), .val (.double zt), .second] [(.int col), (.ref tv)]))
    refine own_step (fun _ k => Jvm.Free.XT.dup2 X43.here hx rfl (hb hby d3_38) rfl rfl rfl k) ?_
    show own_Fin p.tables e below _ (T43.setTop (mkF m 39 #[.val (.ref ob), .val (.int col), .val (.double zt), .second] [(.int col), (.ref tv), (.int col), (.ref tv)]))
    obtain ⟨cl44, Ar44, S44, H44⟩ := id f38
    have hin44 : ¬ (col < 0 ∨ cl44.slots.size ≤ (col).toNatClampNeg) := own_in S44 ⟨hc0, by omega⟩
    refine own_step (own_daload X43 hx (j := col) (v := (.double (Vf (col).toNatClampNeg))) (by first | exact Ar44.1 | (rw [e43]; exact Ar44.1)) (State.isArrayOf_alike hZ.alike Ar44.2.1) Ar44.2.2 hin44 (H44 _ (own_in2 ⟨hc0, by omega⟩)) (g := (mkF m 39 #[.val (.ref ob), .val (.int col), .val (.double zt), .second] [(.int col), (.ref tv), (.int col), (.ref tv)])) rfl rfl (hb hby d3_39)) ?_
    show own_Fin p.tables e below _ (T43.setTop (mkF m 40 #[.val (.ref ob), .val (.int col), .val (.double zt), .second] [(.double (Vf (col).toNatClampNeg)), (.int col), (.ref tv)]))
    refine own_step (fun _ k => own_dloadN X43.here hx rfl (hb hby d3_40) rfl k) ?_
    show own_Fin p.tables e below _ (T43.setTop (mkF m 41 #[.val (.ref ob), .val (.int col), .val (.double zt), .second] [(.double zt), (.double (Vf (col).toNatClampNeg)), (.int col), (.ref tv)]))
    refine own_step (fun _ k => own_dadd X43.here hx rfl ((hI.2.2.2.1 _ (by have := own_cl hc0; omega)).add hz hbd) (hb hby d3_41) rfl k) ?_
    show own_Fin p.tables e below _ (T43.setTop (mkF m 42 #[.val (.ref ob), .val (.int col), .val (.double zt), .second] [(.double (Jvm.FP.dadd (Vf (col).toNatClampNeg) zt)), (.int col), (.ref tv)]))
    obtain ⟨cl45, Ar45, S45, H45⟩ := id f38
    have hin45 : ¬ (col < 0 ∨ cl45.slots.size ≤ (col).toNatClampNeg) := own_in S45 ⟨hc0, by omega⟩
    obtain ⟨T45, h45, X45, e45, W45, st45⟩ := own_stD X43 hx hZ e43 Ar45 (j := col) hin45 (g := (mkF m 42 #[.val (.ref ob), .val (.int col), .val (.double zt), .second] [(.double (Jvm.FP.dadd (Vf (col).toNatClampNeg) zt)), (.int col), (.ref tv)])) rfl rfl (hb hby d3_42)
    refine own_step st45 ?_
    have f46 := Nat.le_trans f32 (Keep.of_wr W45).1
    have f47 := f33.wr W45
    have f48 := f34.other W45 (Or.inl ne_ob_tv)
    have f49 := f35.other W45 (Or.inl ne_ob_tv)
    have f50 := f36.other W45 (Or.inl ne_ob_tv)
    have f51 := f37.other W45 (Or.inl ne_ob_tv)
    have f52 := f39.other W45 (Ne.symm ne_tv_tr)
    have f53 := f41.other W45 (Ne.symm ne_tv_tc)
    have f54 := f40.wr W45 (Or.inl (List.mem_of_getElem? (i := 1) rfl))
    have f55 : own_Arf Z h45 tv .double 4 (fun i => .double ((own_upd Vf (col).toNatClampNeg (Jvm.FP.dadd (Vf (col).toNatClampNeg) zt)) i)) := own_Arf.setD f38 W45
    have N56 := Fr.snoc X45 N42 g_tv
    show own_Fin p.tables e below _ (T45.setTop (mkF m 43 #[.val (.ref ob), .val (.int col), .val (.double zt), .second] []))
    obtain ⟨fs57, hr57, hrun57, hended57, hW57, hsame57⟩ := X45.leave (v := none) (fun _ => rfl)
    refine own_ret (X45.returnOut hx Bd.returns (hb hby d3_43) hr57) hrun57 hended57 ?_
    refine ⟨_, _, rfl, ?_, ⟨_, rfl⟩, hW57, hsame57.mono (by decide) (by decide)⟩
    show Q3 Z ob col zt tv tr tc nn Vf Rf Kf S t h0 n0 _ T45.heap _
    rw [e45]
    exact ⟨rfl, N56, f54, f47, f48, f49, f50, _, _, _, _, f51, f55, f52, f53, own_inv_new hI hc0 hc4 hc3 hz hbd⟩
  · refine own_step (fun _ k => XS.ifYes X1.here hx rfl (pc0 := 6) (pc' := 33) rfl (hb hby d3_6) rfl ((if0 _ _).trans (feq hc3).2) (by decide) (by decide) k) ?_
    show own_Fin p.tables e below _ (T1.setTop (mkF m 33 #[.val (.ref ob), .val (.int col), .val (.double zt), .second] []))
    refine own_step (fun _ k => XS.aloadN X1.here hx rfl (hb hby d3_33) rfl rfl k) ?_
    show own_Fin p.tables e below _ (T1.setTop (mkF m 34 #[.val (.ref ob), .val (.int col), .val (.double zt), .second] [(.ref ob)]))
    obtain ⟨T58, X58, e58, st58⟩ := getF X1 hx hZ hown (host := "") (Or.inl (hw _ (List.mem_of_getElem? (i := 10) rfl))) Via.refl e1 sF0 (g := (mkF m 34 #[.val (.ref ob), .val (.int col), .val (.double zt), .second] [(.ref ob)])) rfl rfl (hb hby d3_34)
    refine own_step st58 ?_
    show own_Fin p.tables e below _ (T58.setTop (mkF m 37 #[.val (.ref ob), .val (.int col), .val (.double zt), .second] [(.ref tv)]))
    refine own_step (fun _ k => XS.iloadN X58.here hx rfl (hb hby d3_37) rfl k) ?_
    show own_Fin p.tables e below _ (T58.setTop (mkF m 38 #[.val (.ref ob), .val (.int col), .val (.double zt), .second] [(.int col), (.ref tv)]))
    refine own_step (fun _ k => Jvm.Free.XT.dup2 X58.here hx rfl (hb hby d3_38) rfl rfl rfl k) ?_
    show own_Fin p.tables e below _ (T58.setTop (mkF m 39 #[.val (.ref ob), .val (.int col), .val (.double zt), .second] [(.int col), (.ref tv), (.int col), (.ref tv)]))
    obtain ⟨cl59, Ar59, S59, H59⟩ := id sA0
    have hin59 : ¬ (col < 0 ∨ cl59.slots.size ≤ (col).toNatClampNeg) := own_in S59 ⟨hc0, by omega⟩
    refine own_step (own_daload X58 hx (j := col) (v := (.double (Vf (col).toNatClampNeg))) (by first | exact Ar59.1 | (rw [e58]; exact Ar59.1)) (State.isArrayOf_alike hZ.alike Ar59.2.1) Ar59.2.2 hin59 (H59 _ (own_in2 ⟨hc0, by omega⟩)) (g := (mkF m 39 #[.val (.ref ob), .val (.int col), .val (.double zt), .second] [(.int col), (.ref tv), (.int col), (.ref tv)])) rfl rfl (hb hby d3_39)) ?_
    show own_Fin p.tables e below _ (T58.setTop (mkF m 40 #[.val (.ref ob), .val (.int col), .val (.double zt), .second] [(.double (Vf (col).toNatClampNeg)), (.int col), (.ref tv)]))
    refine own_step (fun _ k => own_dloadN X58.here hx rfl (hb hby d3_40) rfl k) ?_
    show own_Fin p.tables e below _ (T58.setTop (mkF m 41 #[.val (.ref ob), .val (.int col), .val (.double zt), .second] [(.double zt), (.double (Vf (col).toNatClampNeg)), (.int col), (.ref tv)]))
    refine own_step (fun _ k => own_dadd X58.here hx rfl ((hI.2.2.2.1 _ (by have := own_cl hc0; omega)).add hz hbd) (hb hby d3_41) rfl k) ?_
    show own_Fin p.tables e below _ (T58.setTop (mkF m 42 #[.val (.ref ob), .val (.int col), .val (.double zt), .second] [(.double (Jvm.FP.dadd (Vf (col).toNatClampNeg) zt)), (.int col), (.ref tv)]))
    obtain ⟨cl60, Ar60, S60, H60⟩ := id sA0
    have hin60 : ¬ (col < 0 ∨ cl60.slots.size ≤ (col).toNatClampNeg) := own_in S60 ⟨hc0, by omega⟩
    obtain ⟨T60, h60, X60, e60, W60, st60⟩ := own_stD X58 hx hZ e58 Ar60 (j := col) hin60 (g := (mkF m 42 #[.val (.ref ob), .val (.int col), .val (.double zt), .second] [(.double (Jvm.FP.dadd (Vf (col).toNatClampNeg) zt)), (.int col), (.ref tv)])) rfl rfl (hb hby d3_42)
    refine own_step st60 ?_
    have f61 := Nat.le_trans Z0 (Keep.of_wr W60).1
    have f62 := sE.wr W60
    have f63 := sF0.other W60 (Or.inl ne_ob_tv)
    have f64 := sF1.other W60 (Or.inl ne_ob_tv)
    have f65 := sF2.other W60 (Or.inl ne_ob_tv)
    have f66 := sN.other W60 (Or.inl ne_ob_tv)
    have f67 := sA1.other W60 (Ne.symm ne_tv_tr)
    have f68 := sA2.other W60 (Ne.symm ne_tv_tc)
    have f69 := K0.wr W60 (Or.inl (List.mem_of_getElem? (i := 1) rfl))
    have f70 : own_Arf Z h60 tv .double 4 (fun i => .double ((own_upd Vf (col).toNatClampNeg (Jvm.FP.dadd (Vf (col).toNatClampNeg) zt)) i)) := own_Arf.setD sA0 W60
    have N71 := Fr.snoc X60 N0 g_tv
    show own_Fin p.tables e below _ (T60.setTop (mkF m 43 #[.val (.ref ob), .val (.int col), .val (.double zt), .second] []))
    obtain ⟨fs72, hr72, hrun72, hended72, hW72, hsame72⟩ := X60.leave (v := none) (fun _ => rfl)
    refine own_ret (X60.returnOut hx Bd.returns (hb hby d3_43) hr72) hrun72 hended72 ?_
    refine ⟨_, _, rfl, ?_, ⟨_, rfl⟩, hW72, hsame72.mono (by decide) (by decide)⟩
    show Q3 Z ob col zt tv tr tc nn Vf Rf Kf S t h0 n0 _ T60.heap _
    rw [e60]
    exact ⟨rfl, N71, f69, f62, f63, f64, f65, _, _, _, _, f66, f70, f67, f68, own_inv_old hI hc0 hc4 hc3 hz hbd⟩
theorem ef_5 (m : MethodId) (x0 : Addr) : entryFrame m #[(.ref x0)] 2 = mkF m 0 #[.val (.ref x0), .unset] [] := by first | (simp [entryFrame, mkF, argsToLocals, Value.category]; done) | rfl
def Q5 (Z : State) (ob : Addr) (tv tr tc : Addr) (nn : Int32) (Vf : Nat → UInt64) (Rf Kf : Nat → Int32) (S : Nat → Int) (h0 : Heap) (n0 : Nat) (v : Option Value) (h : Heap) (L : List Loc) : Prop := v = none ∧ Fr n0 L ∧ Keep h0 h [ob, tv, tr] ∧ Exa Z h ob "com/example/fusewright/fusewright/runtime/MatrixProduct$Sums" ∧ Fld Z h ob "com/example/fusewright/fusewright/runtime/MatrixProduct$Sums" "values" "[D" (.ref tv) ∧ Fld Z h ob "com/example/fusewright/fusewright/runtime/MatrixProduct$Sums" "reached" "[Z" (.ref tr) ∧ Fld Z h ob "com/example/fusewright/fusewright/runtime/MatrixProduct$Sums" "columns" "[I" (.ref tc) ∧ Fld Z h ob "com/example/fusewright/fusewright/runtime/MatrixProduct$Sums" "count" "I" (.int (0 : Int32)) ∧ ∃ (V' : Nat → UInt64) (R' : Nat → Int32), own_Arf Z h tv .double 4 (fun i => .double (V' i)) ∧ own_Arf Z h tr .boolean 4 (fun i => .int (R' i)) ∧ own_Arf Z h tc .int 4 (fun i => .int (Kf i)) ∧ own_Inv (fun _ => (0 : Int)) (0 : Int32) V' R' Kf
abbrev P5 (Z : State) (ob : Addr) (tv tr tc : Addr) (nn : Int32) (Vf : Nat → UInt64) (Rf Kf : Nat → Int32) (S : Nat → Int) (h0 : Heap) (n0 : Nat) (s : State) : Outcome → State → Prop := fun o U' => ∃ v L, o = .returned v ∧ Q5 Z ob tv tr tc nn Vf Rf Kf S h0 n0 v U'.heap L ∧ FrameEnd s o U' L ({ frames := 0, cells := 0, slots := 0, locals := 0 } : Room).cells ({ frames := 0, cells := 0, slots := 0, locals := 0 } : Room).slots
theorem d5_0 : decode prog_84_method_6_code 0 = .ok (.iconst 0, 1) := by decide +kernel
theorem d5_1 : decode prog_84_method_6_code 1 = .ok (.istore_n 1, 1) := by decide +kernel
theorem d5_2 : decode prog_84_method_6_code 2 = .ok (.iload_n 1, 1) := by decide +kernel
theorem d5_3 : decode prog_84_method_6_code 3 = .ok (.aload_n 0, 1) := by decide +kernel
theorem d5_4 : decode prog_84_method_6_code 4 = .ok (.getfield 21, 3) := by decide +kernel
theorem d5_7 : decode prog_84_method_6_code 7 = .ok (.if_icmp .ge 33, 3) := by decide +kernel
theorem d5_10 : decode prog_84_method_6_code 10 = .ok (.aload_n 0, 1) := by decide +kernel
theorem d5_11 : decode prog_84_method_6_code 11 = .ok (.getfield 7, 3) := by decide +kernel
theorem d5_14 : decode prog_84_method_6_code 14 = .ok (.aload_n 0, 1) := by decide +kernel
theorem d5_15 : decode prog_84_method_6_code 15 = .ok (.getfield 17, 3) := by decide +kernel
theorem d5_18 : decode prog_84_method_6_code 18 = .ok (.iload_n 1, 1) := by decide +kernel
theorem d5_19 : decode prog_84_method_6_code 19 = .ok (.iaload, 1) := by decide +kernel
theorem d5_20 : decode prog_84_method_6_code 20 = .ok (.dconst 0, 1) := by decide +kernel
theorem d5_21 : decode prog_84_method_6_code 21 = .ok (.dastore, 1) := by decide +kernel
theorem d5_22 : decode prog_84_method_6_code 22 = .ok (.aload_n 0, 1) := by decide +kernel
theorem d5_23 : decode prog_84_method_6_code 23 = .ok (.getfield 13, 3) := by decide +kernel
theorem d5_26 : decode prog_84_method_6_code 26 = .ok (.aload_n 0, 1) := by decide +kernel
theorem d5_27 : decode prog_84_method_6_code 27 = .ok (.getfield 17, 3) := by decide +kernel
theorem d5_30 : decode prog_84_method_6_code 30 = .ok (.iload_n 1, 1) := by decide +kernel
theorem d5_31 : decode prog_84_method_6_code 31 = .ok (.iaload, 1) := by decide +kernel
theorem d5_32 : decode prog_84_method_6_code 32 = .ok (.iconst 0, 1) := by decide +kernel
theorem d5_33 : decode prog_84_method_6_code 33 = .ok (.bastore, 1) := by decide +kernel
theorem d5_34 : decode prog_84_method_6_code 34 = .ok (.iinc 1 1, 3) := by decide +kernel
theorem d5_37 : decode prog_84_method_6_code 37 = .ok (.goto (-35), 3) := by decide +kernel
theorem d5_40 : decode prog_84_method_6_code 40 = .ok (.aload_n 0, 1) := by decide +kernel
theorem d5_41 : decode prog_84_method_6_code 41 = .ok (.iconst 0, 1) := by decide +kernel
theorem d5_42 : decode prog_84_method_6_code 42 = .ok (.putfield 21, 3) := by decide +kernel
theorem d5_45 : decode prog_84_method_6_code 45 = .ok (.return_, 1) := by decide +kernel
set_option maxRecDepth 65536 in
set_option maxHeartbeats 40000000 in
theorem rm5 (l : Launch) (Z : State) (a0 : Array Value) (hw : ∀ d ∈ tables_1, d.before a0 Z = true) (ws : List Jvm.Cond) (ob : Addr) (tv tr tc : Addr) (nn : Int32) (Vf : Nat → UInt64) (Rf Kf : Nat → Int32) (S : Nat → Int) (h0 : Heap) (n0 : Nat) (Z0 : n0 ≤ h0.size) (sE : Exa Z h0 ob "com/example/fusewright/fusewright/runtime/MatrixProduct$Sums") (sF0 : Fld Z h0 ob "com/example/fusewright/fusewright/runtime/MatrixProduct$Sums" "values" "[D" (.ref tv)) (sF1 : Fld Z h0 ob "com/example/fusewright/fusewright/runtime/MatrixProduct$Sums" "reached" "[Z" (.ref tr)) (sF2 : Fld Z h0 ob "com/example/fusewright/fusewright/runtime/MatrixProduct$Sums" "columns" "[I" (.ref tc)) (sN : Fld Z h0 ob "com/example/fusewright/fusewright/runtime/MatrixProduct$Sums" "count" "I" (.int nn)) (sA0 : own_Arf Z h0 tv .double 4 (fun i => .double (Vf i))) (sA1 : own_Arf Z h0 tr .boolean 4 (fun i => .int (Rf i))) (sA2 : own_Arf Z h0 tc .int 4 (fun i => .int (Kf i))) (ne_ob_tv : ob ≠ tv) (ne_ob_tr : ob ≠ tr) (ne_ob_tc : ob ≠ tc) (ne_tv_tr : tv ≠ tr) (ne_tv_tc : tv ≠ tc) (ne_tr_tc : tr ≠ tc) (g_ob : n0 ≤ ob) (g_tv : n0 ≤ tv) (g_tr : n0 ≤ tr) (g_tc : n0 ≤ tc) (hI : own_Inv S nn Vf Rf Kf) :
    MetFree l (⟨"com/example/fusewright/fusewright/runtime/MatrixProduct$Sums", "clear", "()V"⟩ : MethodName) (head1 (Jvm.Cond.code (⟨"com/example/fusewright/fusewright/runtime/MatrixProduct$Sums", "clear", "()V"⟩ : MethodName) prog_84_method_6_code 2 none :: ws) ({ frames := 0, cells := 0, slots := 0, locals := 0 } : Room)) (fun a U => a = #[(.ref ob)] ∧ Z.Warmed39 U.vm ∧ U.heap = h0) (fun _ _ _ _ _ => True) (fun _ U o U' => ∃ v L, o = .returned v ∧ Q5 Z ob tv tr tc nn Vf Rf Kf S h0 n0 v U'.heap L ∧ FrameEnd U o U' L ({ frames := 0, cells := 0, slots := 0, locals := 0 } : Room).cells ({ frames := 0, cells := 0, slots := 0, locals := 0 } : Room).slots) := by
  refine MetFree.of_bodySF (plainFor_of_name pn_0) hisR ?_
  intro p e s m args below meth c s₁ Bd hml0 hP hK
  obtain ⟨rfl, hZ, hh⟩ := hP
  have hx := Bd.exec
  have hby := Bd.bytes
  have hml : c.maxLocals = 2 := hml0
  have hown : s.vm.findClass "com/example/fusewright/fusewright/runtime/MatrixProduct$Sums" = some m.cls := findClass_of_methodNamed Bd.named
  have hnm := (name_of_methodNamed Bd.named Bd.method).1
  have X0 : Stand p l e ({ frames := 0, cells := 0, slots := 0, locals := 0 } : Room) s m #[(.ref ob)] below meth c s₁ [] 0 0 := Stand.of_body Bd
  have e0 : s₁.heap = h0 := by rw [← hh, Bd.state]; rfl
  have N0 := Fr.nil n0
  refine own_enter (P := (P5 Z ob tv tr tc nn Vf Rf Kf S h0 n0 s)) (ef_5 m ob) ?_
  have K0 : Keep h0 h0 [ob, tv, tr] := Keep.refl h0 _
  show own_Fin p.tables e below _ (s₁.setTop (mkF m 0 #[.val (.ref ob), .unset] []))
  refine own_step (fun _ k => XS.iconst X0.here hx rfl (hb hby d5_0) k) ?_
  show own_Fin p.tables e below _ (s₁.setTop (mkF m 1 #[.val (.ref ob), .unset] [(.int (0 : Int32))]))
  refine own_step (fun _ k => XS.istoreN X0.here hx rfl (hb hby d5_1) rfl (l' := #[.val (.ref ob), .val (.int (0 : Int32))]) rfl k) ?_
  show own_Fin p.tables e below _ (s₁.setTop (mkF m 2 #[.val (.ref ob), .val (.int (0 : Int32))] []))
  have loop1 : ∀ (k : Nat) (T1 : State) (locs1 : List Loc) (h1 : Heap) (ix : Int32) (Vw : Nat → UInt64) (Rw : Nat → Int32) (X1 : Stand p l e ({ frames := 0, cells := 0, slots := 0, locals := 0 } : Room) s m #[(.ref ob)] below meth c T1 locs1 0 0) (e1 : T1.heap = h1) (N1 : Fr n0 locs1) (lZ : n0 ≤ h1.size) (lE : Exa Z h1 ob "com/example/fusewright/fusewright/runtime/MatrixProduct$Sums") (lF0 : Fld Z h1 ob "com/example/fusewright/fusewright/runtime/MatrixProduct$Sums" "values" "[D" (.ref tv)) (lF1 : Fld Z h1 ob "com/example/fusewright/fusewright/runtime/MatrixProduct$Sums" "reached" "[Z" (.ref tr)) (lF2 : Fld Z h1 ob "com/example/fusewright/fusewright/runtime/MatrixProduct$Sums" "columns" "[I" (.ref tc)) (lN : Fld Z h1 ob "com/example/fusewright/fusewright/runtime/MatrixProduct$Sums" "count" "I" (.int nn)) (lA0 : own_Arf Z h1 tv .double 4 (fun i => .double (Vw i))) (lA1 : own_Arf Z h1 tr .boolean 4 (fun i => .int (Rw i))) (lA2 : own_Arf Z h1 tc .int 4 (fun i => .int (Kf i))) (lK : Keep h0 h1 [ob, tv, tr]) (i1 : 0 ≤ ix.toInt) (i2 : ix.toInt ≤ nn.toInt) (i3 : own_ClrI ix Kf Vf Vw Rf Rw), (nn.toInt - ix.toInt).toNat = k → own_Fin p.tables e below (P5 Z ob tv tr tc nn Vf Rf Kf S h0 n0 s) (T1.setTop (mkF m 2 #[.val (.ref ob), .val (.int ix)] [])) := by
    intro k
    induction k using Nat.strongRecOn with
    | _ k ih =>
      intro T1 locs1 h1 ix Vw Rw X1 e1 N1 lZ lE lF0 lF1 lF2 lN lA0 lA1 lA2 lK i1 i2 i3 hmeas
      show own_Fin p.tables e below _ (T1.setTop (mkF m 2 #[.val (.ref ob), .val (.int ix)] []))
      refine own_step (fun _ k => XS.iloadN X1.here hx rfl (hb hby d5_2) rfl k) ?_
      show own_Fin p.tables e below _ (T1.setTop (mkF m 3 #[.val (.ref ob), .val (.int ix)] [(.int ix)]))
      refine own_step (fun _ k => XS.aloadN X1.here hx rfl (hb hby d5_3) rfl rfl k) ?_
      show own_Fin p.tables e below _ (T1.setTop (mkF m 4 #[.val (.ref ob), .val (.int ix)] [(.ref ob), (.int ix)]))
      obtain ⟨T2, X2, e2, st2⟩ := getF X1 hx hZ hown (host := "") (Or.inl (hw _ (List.mem_of_getElem? (i := 23) rfl))) Via.refl e1 lN (g := (mkF m 4 #[.val (.ref ob), .val (.int ix)] [(.ref ob), (.int ix)])) rfl rfl (hb hby d5_4)
      refine own_step st2 ?_
      show own_Fin p.tables e below _ (T2.setTop (mkF m 7 #[.val (.ref ob), .val (.int ix)] [(.int nn), (.int ix)]))
      by_cases hc3 : ix < nn
      · refine own_step (fun _ k => XS.icmpNo X2.here hx rfl (hb hby d5_7) rfl ((tlt hc3).2.1) k) ?_
        show own_Fin p.tables e below _ (T2.setTop (mkF m 10 #[.val (.ref ob), .val (.int ix)] []))
        have hlt := Int32.lt_iff_toInt_lt.mp hc3
        have hip : (ix + (1 : Int32)).toInt = ix.toInt + 1 := own_p1 (by have := hI.1; omega)
        obtain ⟨hk, hnext⟩ := own_clr_turn hI i3 i1 hlt
        refine own_step (fun _ k => XS.aloadN X2.here hx rfl (hb hby d5_10) rfl rfl k) ?_
        show own_Fin p.tables e below _ (T2.setTop (mkF m 11 #[.val (.ref ob), .val (.int ix)] [(.ref ob)]))
        obtain ⟨T4, X4, e4, st4⟩ := getF X2 hx hZ hown (host := "") (Or.inl (hw _ (List.mem_of_getElem? (i := 10) rfl))) Via.refl e2 lF0 (g := (mkF m 11 #[.val (.ref ob), .val (.int ix)] [(.ref ob)])) rfl rfl (hb hby d5_11)
        refine own_step st4 ?_
        show own_Fin p.tables e below _ (T4.setTop (mkF m 14 #[.val (.ref ob), .val (.int ix)] [(.ref tv)]))
        refine own_step (fun _ k => XS.aloadN X4.here hx rfl (hb hby d5_14) rfl rfl k) ?_
        show own_Fin p.tables e below _ (T4.setTop (mkF m 15 #[.val (.ref ob), .val (.int ix)] [(.ref ob), (.ref tv)]))
        obtain ⟨T5, X5, e5, st5⟩ := getF X4 hx hZ hown (host := "") (Or.inl (hw _ (List.mem_of_getElem? (i := 16) rfl))) Via.refl e4 lF2 (g := (mkF m 15 #[.val (.ref ob), .val (.int ix)] [(.ref ob), (.ref tv)])) rfl rfl (hb hby d5_15)
        refine own_step st5 ?_
        show own_Fin p.tables e below _ (T5.setTop (mkF m 18 #[.val (.ref ob), .val (.int ix)] [(.ref tc), (.ref tv)]))
        refine own_step (fun _ k => XS.iloadN X5.here hx rfl (hb hby d5_18) rfl k) ?_
        show own_Fin p.tables e below _ (T5.setTop (mkF m 19 #[.val (.ref ob), .val (.int ix)] [(.int ix), (.ref tc), (.ref tv)]))
        obtain ⟨cl6, Ar6, S6, H6⟩ := id lA2
        have hin6 : ¬ (ix < 0 ∨ cl6.slots.size ≤ (ix).toNatClampNeg) := own_in S6 ⟨i1, by have := hI.1; omega⟩
        refine own_step (X5.iaload hx (j := ix) (v := (.int (Kf (ix).toNatClampNeg))) (by first | exact Ar6.1 | (rw [e5]; exact Ar6.1)) (State.isArrayOf_alike hZ.alike Ar6.2.1) Ar6.2.2 hin6 (H6 _ (own_in2 ⟨i1, by have := hI.1; omega⟩)) (g := (mkF m 19 #[.val (.ref ob), .val (.int ix)] [(.int ix), (.ref tc), (.ref tv)])) rfl rfl (hb hby d5_19)) ?_
        show own_Fin p.tables e below _ (T5.setTop (mkF m 20 #[.val (.ref ob), .val (.int ix)] [(.int (Kf (ix).toNatClampNeg)), (.ref tv)]))
        refine own_step (fun _ k => own_dconst X5.here hx rfl (hb hby d5_20) k) ?_
        show own_Fin p.tables e below _ (T5.setTop (mkF m 21 #[.val (.ref ob), .val (.int ix)] [(.double (0 : UInt64)), (.int (Kf (ix).toNatClampNeg)), (.ref tv)]))
        obtain ⟨cl7, Ar7, S7, H7⟩ := id lA0
        have hin7 : ¬ ((Kf (ix).toNatClampNeg) < 0 ∨ cl7.slots.size ≤ ((Kf (ix).toNatClampNeg)).toNatClampNeg) := own_in S7 ⟨hk.1, by have := hk.2; omega⟩
        obtain ⟨T7, h7, X7, e7, W7, st7⟩ := own_stD X5 hx hZ e5 Ar7 (j := (Kf (ix).toNatClampNeg)) hin7 (g := (mkF m 21 #[.val (.ref ob), .val (.int ix)] [(.double (0 : UInt64)), (.int (Kf (ix).toNatClampNeg)), (.ref tv)])) rfl rfl (hb hby d5_21)
        refine own_step st7 ?_
        have f8 := Nat.le_trans lZ (Keep.of_wr W7).1
        have f9 := lE.wr W7
        have f10 := lF0.other W7 (Or.inl ne_ob_tv)
        have f11 := lF1.other W7 (Or.inl ne_ob_tv)
        have f12 := lF2.other W7 (Or.inl ne_ob_tv)
        have f13 := lN.other W7 (Or.inl ne_ob_tv)
        have f14 := lA1.other W7 (Ne.symm ne_tv_tr)
        have f15 := lA2.other W7 (Ne.symm ne_tv_tc)
        have f16 := lK.wr W7 (Or.inl (List.mem_of_getElem? (i := 1) rfl))
        have f17 : own_Arf Z h7 tv .double 4 (fun i => .double ((own_upd Vw ((Kf (ix).toNatClampNeg)).toNatClampNeg (0 : UInt64)) i)) := own_Arf.setD lA0 W7
        have N18 := Fr.snoc X7 N1 g_tv
        show own_Fin p.tables e below _ (T7.setTop (mkF m 22 #[.val (.ref ob), .val (.int ix)] []))
        refine own_step (fun _ k => XS.aloadN X7.here hx rfl (hb hby d5_22) rfl rfl k) ?_
        show own_Fin p.tables e below _ (T7.setTop (mkF m 23 #[.val (.ref ob), .val (.int ix)] [(.ref ob)]))
        obtain ⟨T19, X19, e19, st19⟩ := getF X7 hx hZ hown (host := "") (Or.inl (hw _ (List.mem_of_getElem? (i := 13) rfl))) Via.refl e7 f11 (g := (mkF m 23 #[.val (.ref ob), .val (.int ix)] [(.ref ob)])) rfl rfl (hb hby d5_23)
        refine own_step st19 ?_
        show own_Fin p.tables e below _ (T19.setTop (mkF m 26 #[.val (.ref ob), .val (.int ix)] [(.ref tr)]))
        refine own_step (fun _ k => XS.aloadN X19.here hx rfl (hb hby d5_26) rfl rfl k) ?_
        show own_Fin p.tables e below _ (T19.setTop (mkF m 27 #[.val (.ref ob), .val (.int ix)] [(.ref ob), (.ref tr)]))
        obtain ⟨T20, X20, e20, st20⟩ := getF X19 hx hZ hown (host := "") (Or.inl (hw _ (List.mem_of_getElem? (i := 16) rfl))) Via.refl e19 f12 (g := (mkF m 27 #[.val (.ref ob), .val (.int ix)] [(.ref ob), (.ref tr)])) rfl rfl (hb hby d5_27)
        refine own_step st20 ?_
        show own_Fin p.tables e below _ (T20.setTop (mkF m 30 #[.val (.ref ob), .val (.int ix)] [(.ref tc), (.ref tr)]))
        refine own_step (fun _ k => XS.iloadN X20.here hx rfl (hb hby d5_30) rfl k) ?_
        show own_Fin p.tables e below _ (T20.setTop (mkF m 31 #[.val (.ref ob), .val (.int ix)] [(.int ix), (.ref tc), (.ref tr)]))
        obtain ⟨cl21, Ar21, S21, H21⟩ := id f15
        have hin21 : ¬ (ix < 0 ∨ cl21.slots.size ≤ (ix).toNatClampNeg) := own_in S21 ⟨i1, by have := hI.1; omega⟩
        refine own_step (X20.iaload hx (j := ix) (v := (.int (Kf (ix).toNatClampNeg))) (by first | exact Ar21.1 | (rw [e20]; exact Ar21.1)) (State.isArrayOf_alike hZ.alike Ar21.2.1) Ar21.2.2 hin21 (H21 _ (own_in2 ⟨i1, by have := hI.1; omega⟩)) (g := (mkF m 31 #[.val (.ref ob), .val (.int ix)] [(.int ix), (.ref tc), (.ref tr)])) rfl rfl (hb hby d5_31)) ?_
        show own_Fin p.tables e below _ (T20.setTop (mkF m 32 #[.val (.ref ob), .val (.int ix)] [(.int (Kf (ix).toNatClampNeg)), (.ref tr)]))
        refine own_step (fun _ k => XS.iconst X20.here hx rfl (hb hby d5_32) k) ?_
        show own_Fin p.tables e below _ (T20.setTop (mkF m 33 #[.val (.ref ob), .val (.int ix)] [(.int (0 : Int32)), (.int (Kf (ix).toNatClampNeg)), (.ref tr)]))
        obtain ⟨cl22, Ar22, S22, H22⟩ := id f14
        have hin22 : ¬ ((Kf (ix).toNatClampNeg) < 0 ∨ cl22.slots.size ≤ ((Kf (ix).toNatClampNeg)).toNatClampNeg) := own_in S22 ⟨hk.1, by have := hk.2; omega⟩
        obtain ⟨T22, h22, X22, e22, W22, st22⟩ := stZ X20 hx hZ e20 Ar22 (j := (Kf (ix).toNatClampNeg)) hin22 (g := (mkF m 33 #[.val (.ref ob), .val (.int ix)] [(.int (0 : Int32)), (.int (Kf (ix).toNatClampNeg)), (.ref tr)])) rfl rfl (hb hby d5_33)
        refine own_step st22 ?_
        have f23 := Nat.le_trans f8 (Keep.of_wr W22).1
        have f24 := f9.wr W22
        have f25 := f10.other W22 (Or.inl ne_ob_tr)
        have f26 := f11.other W22 (Or.inl ne_ob_tr)
        have f27 := f12.other W22 (Or.inl ne_ob_tr)
        have f28 := f13.other W22 (Or.inl ne_ob_tr)
        have f29 := f17.other W22 ne_tv_tr
        have f30 := f15.other W22 (Ne.symm ne_tr_tc)
        have f31 := f16.wr W22 (Or.inl (List.mem_of_getElem? (i := 2) rfl))
        have f32 : own_Arf Z h22 tr .boolean 4 (fun i => .int ((own_upd Rw ((Kf (ix).toNatClampNeg)).toNatClampNeg (0 : Int32)) i)) := own_Arf.setI f14 W22
        have N33 := Fr.snoc X22 N18 g_tr
        show own_Fin p.tables e below _ (T22.setTop (mkF m 34 #[.val (.ref ob), .val (.int ix)] []))
        refine own_step (fun _ k => XS.iinc X22.here hx rfl (hb hby d5_34) rfl (l' := #[.val (.ref ob), .val (.int (ix + (1 : Int32)))]) rfl k) ?_
        show own_Fin p.tables e below _ (T22.setTop (mkF m 37 #[.val (.ref ob), .val (.int (ix + (1 : Int32)))] []))
        refine own_step (fun _ k => XS.goto X22.here hx rfl (pc0 := 37) (pc' := 2) rfl (hb hby d5_37) (by decide) (by decide) k) ?_
        show own_Fin p.tables e below _ (T22.setTop (mkF m 2 #[.val (.ref ob), .val (.int (ix + (1 : Int32)))] []))
        exact ih _ (by rw [hip]; omega) T22 _ h22 (ix + (1 : Int32)) (own_upd Vw ((Kf (ix).toNatClampNeg)).toNatClampNeg (0 : UInt64)) (own_upd Rw ((Kf (ix).toNatClampNeg)).toNatClampNeg (0 : Int32)) X22 e22 N33 f23 f24 f25 f26 f27 f28 f29 f32 f30 f31 (by rw [hip]; omega) (by rw [hip]; omega) hnext rfl
      · refine own_step (fun _ k => XS.icmpYes X2.here hx rfl (pc0 := 7) (pc' := 40) rfl (hb hby d5_7) rfl ((flt hc3).2.1) (by decide) (by decide) k) ?_
        show own_Fin p.tables e below _ (T2.setTop (mkF m 40 #[.val (.ref ob), .val (.int ix)] []))
        refine own_step (fun _ k => XS.aloadN X2.here hx rfl (hb hby d5_40) rfl rfl k) ?_
        show own_Fin p.tables e below _ (T2.setTop (mkF m 41 #[.val (.ref ob), .val (.int ix)] [(.ref ob)]))
        refine own_step (fun _ k => XS.iconst X2.here hx rfl (hb hby d5_41) k) ?_
        show own_Fin p.tables e below _ (T2.setTop (mkF m 42 #[.val (.ref ob), .val (.int ix)] [(.int (0 : Int32)), (.ref ob)]))
        obtain ⟨T34, h34, X34, e34, W34, st34⟩ := putF X2 hx hZ hown (host := "") (Or.inl (hw _ (List.mem_of_getElem? (i := 23) rfl))) Via.refl e2 lN lE (Or.inl (hw _ (List.mem_of_getElem? (i := 24) rfl))) (hw _ (List.mem_of_getElem? (i := 1) rfl)) (ty := .int) (by decide) rfl rfl (g := (mkF m 42 #[.val (.ref ob), .val (.int ix)] [(.int (0 : Int32)), (.ref ob)])) rfl rfl (hb hby d5_42)
        refine own_step st34 ?_
        have f35 := Nat.le_trans lZ (Keep.of_wr W34).1
        have f36 := lE.wr W34
        have f37 := lF0.other W34 (Or.inr (slot_ne (Or.inr (hw _ (List.mem_of_getElem? (i := 11) rfl))) (Or.inl (hw _ (List.mem_of_getElem? (i := 24) rfl))) (by decide) (t := (.array .double)) (t' := .int) (by decide) (by decide)))
        have f38 := lF1.other W34 (Or.inr (slot_ne (Or.inr (hw _ (List.mem_of_getElem? (i := 14) rfl))) (Or.inl (hw _ (List.mem_of_getElem? (i := 24) rfl))) (by decide) (t := (.array .boolean)) (t' := .int) (by decide) (by decide)))
        have f39 := lF2.other W34 (Or.inr (slot_ne (Or.inr (hw _ (List.mem_of_getElem? (i := 17) rfl))) (Or.inl (hw _ (List.mem_of_getElem? (i := 24) rfl))) (by decide) (t := (.array .int)) (t' := .int) (by decide) (by decide)))
        have f40 := lA0.other W34 (Ne.symm ne_ob_tv)
        have f41 := lA1.other W34 (Ne.symm ne_ob_tr)
        have f42 := lA2.other W34 (Ne.symm ne_ob_tc)
        have f43 := lK.wr W34 (Or.inl (List.mem_of_getElem? (i := 0) rfl))
        have f44 := lN.same W34
        have N45 := Fr.snoc X34 N1 g_ob
        show own_Fin p.tables e below _ (T34.setTop (mkF m 45 #[.val (.ref ob), .val (.int ix)] []))
        obtain ⟨fs46, hr46, hrun46, hended46, hW46, hsame46⟩ := X34.leave (v := none) (fun _ => rfl)
        refine own_ret (X34.returnOut hx Bd.returns (hb hby d5_45) hr46) hrun46 hended46 ?_
        refine ⟨_, _, rfl, ?_, ⟨_, rfl⟩, hW46, hsame46.mono (by decide) (by decide)⟩
        show Q5 Z ob tv tr tc nn Vf Rf Kf S h0 n0 _ T34.heap _
        rw [e34]
        have hee : ix = nn := Int32.toInt_inj.mp (by have := mt Int32.lt_iff_toInt_lt.mpr hc3; omega)
        exact ⟨rfl, N45, f43, f36, f37, f38, f39, f44, _, _, f40, f41, f42, own_clr_end hI i3 hee⟩
  exact loop1 _ s₁ _ h0 (0 : Int32) Vf Rf X0 e0 N0 Z0 sE sF0 sF1 sF2 sN sA0 sA1 sA2 K0 (by decide) hI.1.1 ⟨fun c hc q => by obtain ⟨j, q1, q2⟩ := q; exact absurd q1 (by show ¬ (j : Int) < 0; omega), fun c hc q => ⟨rfl, rfl⟩⟩ rfl
theorem ef_4 (m : MethodId) (x0 : Addr) (x1 : Addr) (x2 : Int32) : entryFrame m #[(.ref x0), (.ref x1), (.int x2)] 5 = mkF m 0 #[.val (.ref x0), .val (.ref x1), .val (.int x2), .unset, .unset] [] := by first | (simp [entryFrame, mkF, argsToLocals, Value.category]; done) | rfl
def Q4 (Z : State) (ob : Addr) (to : Addr) (off : Int32) (tv tr tc : Addr) (nn : Int32) (Vf : Nat → UInt64) (Rf Kf : Nat → Int32) (S : Nat → Int) (M : Nat) (O : Nat → UInt64) (h0 : Heap) (n0 : Nat) (v : Option Value) (h : Heap) (L : List Loc) : Prop := v = none ∧ Fr n0 L ∧ Keep h0 h [to, ob, tv, tr, tc] ∧ Exa Z h ob "com/example/fusewright/fusewright/runtime/MatrixProduct$Sums" ∧ Fld Z h ob "com/example/fusewright/fusewright/runtime/MatrixProduct$Sums" "values" "[D" (.ref tv) ∧ Fld Z h ob "com/example/fusewright/fusewright/runtime/MatrixProduct$Sums" "reached" "[Z" (.ref tr) ∧ Fld Z h ob "com/example/fusewright/fusewright/runtime/MatrixProduct$Sums" "columns" "[I" (.ref tc) ∧ Fld Z h ob "com/example/fusewright/fusewright/runtime/MatrixProduct$Sums" "count" "I" (.int (0 : Int32)) ∧ ∃ (V' : Nat → UInt64) (R' : Nat → Int32), own_Arf Z h tv .double 4 (fun i => .double (V' i)) ∧ own_Arf Z h tr .boolean 4 (fun i => .int (R' i)) ∧ own_Arf Z h tc .int 4 (fun i => .int (Kf i)) ∧ own_Inv (fun _ => (0 : Int)) (0 : Int32) V' R' Kf ∧ ∃ O' : Nat → UInt64, own_Arf Z h to .double M (fun i => .double (O' i)) ∧ (∀ c : Nat, c < 4 → own_isd (O' (off.toInt.toNat + c)) (S c)) ∧ ∀ k : Nat, (k < off.toInt.toNat ∨ off.toInt.toNat + 4 ≤ k) → O' k = O k
abbrev P4 (Z : State) (ob : Addr) (to : Addr) (off : Int32) (tv tr tc : Addr) (nn : Int32) (Vf : Nat → UInt64) (Rf Kf : Nat → Int32) (S : Nat → Int) (M : Nat) (O : Nat → UInt64) (h0 : Heap) (n0 : Nat) (s : State) : Outcome → State → Prop := fun o U' => ∃ v L, o = .returned v ∧ Q4 Z ob to off tv tr tc nn Vf Rf Kf S M O h0 n0 v U'.heap L ∧ FrameEnd s o U' L ({ frames := 1, cells := 0, slots := 0, locals := 13 } : Room).cells ({ frames := 1, cells := 0, slots := 0, locals := 13 } : Room).slots
theorem d4_0 : decode prog_84_method_4_code 0 = .ok (.iconst 0, 1) := by decide +kernel
theorem d4_1 : decode prog_84_method_4_code 1 = .ok (.istore_n 3, 1) := by decide +kernel
theorem d4_2 : decode prog_84_method_4_code 2 = .ok (.iload_n 3, 1) := by decide +kernel
theorem d4_3 : decode prog_84_method_4_code 3 = .ok (.aload_n 0, 1) := by decide +kernel
theorem d4_4 : decode prog_84_method_4_code 4 = .ok (.getfield 21, 3) := by decide +kernel
theorem d4_7 : decode prog_84_method_4_code 7 = .ok (.if_icmp .ge 33, 3) := by decide +kernel
theorem d4_10 : decode prog_84_method_4_code 10 = .ok (.aload_n 0, 1) := by decide +kernel
theorem d4_11 : decode prog_84_method_4_code 11 = .ok (.getfield 17, 3) := by decide +kernel
theorem d4_14 : decode prog_84_method_4_code 14 = .ok (.iload_n 3, 1) := by decide +kernel
theorem d4_15 : decode prog_84_method_4_code 15 = .ok (.iaload, 1) := by decide +kernel
theorem d4_16 : decode prog_84_method_4_code 16 = .ok (.istore 4, 2) := by decide +kernel
theorem d4_18 : decode prog_84_method_4_code 18 = .ok (.aload_n 1, 1) := by decide +kernel
theorem d4_19 : decode prog_84_method_4_code 19 = .ok (.iload_n 2, 1) := by decide +kernel
theorem d4_20 : decode prog_84_method_4_code 20 = .ok (.iload 4, 2) := by decide +kernel
theorem d4_22 : decode prog_84_method_4_code 22 = .ok (.iadd, 1) := by decide +kernel
theorem d4_23 : decode prog_84_method_4_code 23 = .ok (.dup2, 1) := by decide +kernel
theorem d4_24 : decode prog_84_method_4_code 24 = .ok (.daload, 1) := by decide +kernel
theorem d4_25 : decode prog_84_method_4_code 25 = .ok (.aload_n 0, 1) := by decide +kernel
theorem d4_26 : decode prog_84_method_4_code 26 = .ok (.getfield 7, 3) := by decide +kernel
theorem d4_29 : decode prog_84_method_4_code 29 = .ok (.iload 4, 2) := by decide +kernel
theorem d4_31 : decode prog_84_method_4_code 31 = .ok (.daload, 1) := by decide +kernel
theorem d4_32 : decode prog_84_method_4_code 32 = .ok (.dadd, 1) := by decide +kernel
theorem d4_33 : decode prog_84_method_4_code 33 = .ok (.dastore, 1) := by decide +kernel
theorem d4_34 : decode prog_84_method_4_code 34 = .ok (.iinc 3 1, 3) := by decide +kernel
theorem d4_37 : decode prog_84_method_4_code 37 = .ok (.goto (-35), 3) := by decide +kernel
theorem d4_40 : decode prog_84_method_4_code 40 = .ok (.aload_n 0, 1) := by decide +kernel
theorem d4_41 : decode prog_84_method_4_code 41 = .ok (.invokevirtual 29, 3) := by decide +kernel
theorem pd_0 : parseMethodDescriptor "()V" = some ⟨[], none⟩ := by decide +kernel
theorem d4_44 : decode prog_84_method_4_code 44 = .ok (.return_, 1) := by decide +kernel
set_option maxRecDepth 65536 in
set_option maxHeartbeats 40000000 in
theorem rm4 (l : Launch) (Z : State) (a0 : Array Value) (hw : ∀ d ∈ tables_1, d.before a0 Z = true) (ws : List Jvm.Cond) (ob : Addr) (to : Addr) (off : Int32) (tv tr tc : Addr) (nn : Int32) (Vf : Nat → UInt64) (Rf Kf : Nat → Int32) (S : Nat → Int) (M : Nat) (O : Nat → UInt64) (h0 : Heap) (n0 : Nat) (Z0 : n0 ≤ h0.size) (sE : Exa Z h0 ob "com/example/fusewright/fusewright/runtime/MatrixProduct$Sums") (sF0 : Fld Z h0 ob "com/example/fusewright/fusewright/runtime/MatrixProduct$Sums" "values" "[D" (.ref tv)) (sF1 : Fld Z h0 ob "com/example/fusewright/fusewright/runtime/MatrixProduct$Sums" "reached" "[Z" (.ref tr)) (sF2 : Fld Z h0 ob "com/example/fusewright/fusewright/runtime/MatrixProduct$Sums" "columns" "[I" (.ref tc)) (sN : Fld Z h0 ob "com/example/fusewright/fusewright/runtime/MatrixProduct$Sums" "count" "I" (.int nn)) (sA0 : own_Arf Z h0 tv .double 4 (fun i => .double (Vf i))) (sA1 : own_Arf Z h0 tr .boolean 4 (fun i => .int (Rf i))) (sA2 : own_Arf Z h0 tc .int 4 (fun i => .int (Kf i))) (sO : own_Arf Z h0 to .double M (fun i => .double (O i))) (ne_ob_tv : ob ≠ tv) (ne_ob_tr : ob ≠ tr) (ne_ob_tc : ob ≠ tc) (ne_tv_tr : tv ≠ tr) (ne_tv_tc : tv ≠ tc) (ne_tr_tc : tr ≠ tc) (ne_to_ob : to ≠ ob) (ne_to_tv : to ≠ tv) (ne_to_tr : to ≠ tr) (ne_to_tc : to ≠ tc) (g_ob : n0 ≤ ob) (g_tv : n0 ≤ tv) (g_tr : n0 ≤ tr) (g_tc : n0 ≤ tc) (g_to : n0 ≤ to) (hI : own_Inv S nn Vf Rf Kf) (ho : 0 ≤ off.toInt) (ho2 : off.toInt ≤ 100) (hM : off.toInt + 4 ≤ M) (hO : ∀ c : Nat, c < 4 → own_isd (O (off.toInt.toNat + c)) 0) :
    MetFree l (⟨"com/example/fusewright/fusewright/runtime/MatrixProduct$Sums", "addTo", "([DI)V"⟩ : MethodName) (head1 (Jvm.Cond.code (⟨"com/example/fusewright/fusewright/runtime/MatrixProduct$Sums", "addTo", "([DI)V"⟩ : MethodName) prog_84_method_4_code 5 none :: ws) ({ frames := 1, cells := 0, slots := 0, locals := 13 } : Room)) (fun a U => a = #[(.ref ob), (.ref to), (.int off)] ∧ Z.Warmed39 U.vm ∧ U.heap = h0) (fun _ _ _ _ _ => True) (fun _ U o U' => ∃ v L, o = .returned v ∧ Q4 Z ob to off tv tr tc nn Vf Rf Kf S M O h0 n0 v U'.heap L ∧ FrameEnd U o U' L ({ frames := 1, cells := 0, slots := 0, locals := 13 } : Room).cells ({ frames := 1, cells := 0, slots := 0, locals := 13 } : Room).slots) := by
  refine MetFree.of_bodySF (plainFor_of_name pn_0) hisR ?_
  intro p e s m args below meth c s₁ Bd hml0 hP hK
  obtain ⟨rfl, hZ, hh⟩ := hP
  have hx := Bd.exec
  have hby := Bd.bytes
  have hml : c.maxLocals = 5 := hml0
  have hown : s.vm.findClass "com/example/fusewright/fusewright/runtime/MatrixProduct$Sums" = some m.cls := findClass_of_methodNamed Bd.named
  have hnm := (name_of_methodNamed Bd.named Bd.method).1
  have X0 : Stand p l e ({ frames := 1, cells := 0, slots := 0, locals := 13 } : Room) s m #[(.ref ob), (.ref to), (.int off)] below meth c s₁ [] 0 0 := Stand.of_body Bd
  have e0 : s₁.heap = h0 := by rw [← hh, Bd.state]; rfl
  have N0 := Fr.nil n0
  refine own_enter (P := (P4 Z ob to off tv tr tc nn Vf Rf Kf S M O h0 n0 s)) (ef_4 m ob to off) ?_
  have K0 : Keep h0 h0 [to, ob, tv, tr, tc] := Keep.refl h0 _
  show own_Fin p.tables e below _ (s₁.setTop (mkF m 0 #[.val (.ref ob), .val (.ref to), .val (.int off), .unset, .unset] []))
  refine own_step (fun _ k => XS.iconst X0.here hx rfl (hb hby d4_0) k) ?_
  show own_Fin p.tables e below _ (s₁.setTop (mkF m 1 #[.val (.ref ob), .val (.ref to), .val (.int off), .unset, .unset] [(.int (0 : Int32))]))
  refine own_step (fun _ k => XS.istoreN X0.here hx rfl (hb hby d4_1) rfl (l' := #[.val (.ref ob), .val (.ref to), .val (.int off), .val (.int (0 : Int32)), .unset]) rfl k) ?_
  show own_Fin p.tables e below _ (s₁.setTop (mkF m 2 #[.val (.ref ob), .val (.ref to), .val (.int off), .val (.int (0 : Int32)), .unset] []))
  have loop1 : ∀ (k : Nat) (T1 : State) (locs1 : List Loc) (h1 : Heap) (ix : Int32) (sl1_4 : Slot) (Ow : Nat → UInt64) (X1 : Stand p l e ({ frames := 1, cells := 0, slots := 0, locals := 13 } : Room) s m #[(.ref ob), (.ref to), (.int off)] below meth c T1 locs1 0 0) (e1 : T1.heap = h1) (N1 : Fr n0 locs1) (gsl1_4 : One sl1_4) (lZ : n0 ≤ h1.size) (lE : Exa Z h1 ob "com/example/fusewright/fusewright/runtime/MatrixProduct$Sums") (lF0 : Fld Z h1 ob "com/example/fusewright/fusewright/runtime/MatrixProduct$Sums" "values" "[D" (.ref tv)) (lF1 : Fld Z h1 ob "com/example/fusewright/fusewright/runtime/MatrixProduct$Sums" "reached" "[Z" (.ref tr)) (lF2 : Fld Z h1 ob "com/example/fusewright/fusewright/runtime/MatrixProduct$Sums" "columns" "[I" (.ref tc)) (lN : Fld Z h1 ob "com/example/fusewright/fusewright/runtime/MatrixProduct$Sums" "count" "I" (.int nn)) (lA0 : own_Arf Z h1 tv .double 4 (fun i => .double (Vf i))) (lA1 : own_Arf Z h1 tr .boolean 4 (fun i => .int (Rf i))) (lA2 : own_Arf Z h1 tc .int 4 (fun i => .int (Kf i))) (lO : own_Arf Z h1 to .double M (fun i => .double (Ow i))) (lK : Keep h0 h1 [to, ob, tv, tr, tc]) (i1 : 0 ≤ ix.toInt) (i2 : ix.toInt ≤ nn.toInt) (i3 : own_AddI S off ix Kf O Ow), (nn.toInt - ix.toInt).toNat = k → own_Fin p.tables e below (P4 Z ob to off tv tr tc nn Vf Rf Kf S M O h0 n0 s) (T1.setTop (mkF m 2 #[.val (.ref ob), .val (.ref to), .val (.int off), .val (.int ix), sl1_4] [])) := by
    intro k
    induction k using Nat.strongRecOn with
    | _ k ih =>
      intro T1 locs1 h1 ix sl1_4 Ow X1 e1 N1 gsl1_4 lZ lE lF0 lF1 lF2 lN lA0 lA1 lA2 lO lK i1 i2 i3 hmeas
      show own_Fin p.tables e below _ (T1.setTop (mkF m 2 #[.val (.ref ob), .val (.ref to), .val (.int off), .val (.int ix), sl1_4] []))
      refine own_step (fun _ k => XS.iloadN X1.here hx rfl (hb hby d4_2) rfl k) ?_
      show own_Fin p.tables e below _ (T1.setTop (mkF m 3 #[.val (.ref ob), .val (.ref to), .val (.int off), .val (.int ix), sl1_4] [(.int ix)]))
      refine own_step (fun _ k => XS.aloadN X1.here hx rfl (hb hby d4_3) rfl rfl k) ?_
      show own_Fin p.tables e below _ (T1.setTop (mkF m 4 #[.val (.ref ob), .val (.ref to), .val (.int off), .val (.int ix), sl1_4] [(.ref ob), (.int ix)]))
      obtain ⟨T2, X2, e2, st2⟩ := getF X1 hx hZ hown (host := "") (Or.inl (hw _ (List.mem_of_getElem? (i := 23) rfl))) Via.refl e1 lN (g := (mkF m 4 #[.val (.ref ob), .val (.ref to), .val (.int off), .val (.int ix), sl1_4] [(.ref ob), (.int ix)])) rfl rfl (hb hby d4_4)
      refine own_step st2 ?_
      show own_Fin p.tables e below _ (T2.setTop (mkF m 7 #[.val (.ref ob), .val (.ref to), .val (.int off), .val (.int ix), sl1_4] [(.int nn), (.int ix)]))
      by_cases hc3 : ix < nn
      · refine own_step (fun _ k => XS.icmpNo X2.here hx rfl (hb hby d4_7) rfl ((tlt hc3).2.1) k) ?_
        show own_Fin p.tables e below _ (T2.setTop (mkF m 10 #[.val (.ref ob), .val (.ref to), .val (.int off), .val (.int ix), sl1_4] []))
        have hlt := Int32.lt_iff_toInt_lt.mp hc3
        have hip : (ix + (1 : Int32)).toInt = ix.toInt + 1 := own_p1 (by have := hI.1; omega)
        refine own_step (fun _ k => XS.aloadN X2.here hx rfl (hb hby d4_10) rfl rfl k) ?_
        show own_Fin p.tables e below _ (T2.setTop (mkF m 11 #[.val (.ref ob), .val (.ref to), .val (.int off), .val (.int ix), sl1_4] [(.ref ob)]))
        obtain ⟨T4, X4, e4, st4⟩ := getF X2 hx hZ hown (host := "") (Or.inl (hw _ (List.mem_of_getElem? (i := 16) rfl))) Via.refl e2 lF2 (g := (mkF m 11 #[.val (.ref ob), .val (.ref to), .val (.int off), .val (.int ix), sl1_4] [(.ref ob)])) rfl rfl (hb hby d4_11)
        refine own_step st4 ?_
        show own_Fin p.tables e below _ (T4.setTop (mkF m 14 #[.val (.ref ob), .val (.ref to), .val (.int off), .val (.int ix), sl1_4] [(.ref tc)]))
        refine own_step (fun _ k => XS.iloadN X4.here hx rfl (hb hby d4_14) rfl k) ?_
        show own_Fin p.tables e below _ (T4.setTop (mkF m 15 #[.val (.ref ob), .val (.ref to), .val (.int off), .val (.int ix), sl1_4] [(.int ix), (.ref tc)]))
        obtain ⟨cl5, Ar5, S5, H5⟩ := id lA2
        have hin5 : ¬ (ix < 0 ∨ cl5.slots.size ≤ (ix).toNatClampNeg) := own_in S5 ⟨i1, by have := hI.1; omega⟩
        refine own_step (X4.iaload hx (j := ix) (v := (.int (Kf (ix).toNatClampNeg))) (by first | exact Ar5.1 | (rw [e4]; exact Ar5.1)) (State.isArrayOf_alike hZ.alike Ar5.2.1) Ar5.2.2 hin5 (H5 _ (own_in2 ⟨i1, by have := hI.1; omega⟩)) (g := (mkF m 15 #[.val (.ref ob), .val (.ref to), .val (.int off), .val (.int ix), sl1_4] [(.int ix), (.ref tc)])) rfl rfl (hb hby d4_15)) ?_
        show own_Fin p.tables e below _ (T4.setTop (mkF m 16 #[.val (.ref ob), .val (.ref to), .val (.int off), .val (.int ix), sl1_4] [(.int (Kf (ix).toNatClampNeg))]))
        refine own_step (fun _ k => XS.istoreS X4.here hx rfl (hb hby d4_16) rfl rfl gsl1_4 k) ?_
        show own_Fin p.tables e below _ (T4.setTop (mkF m 18 #[.val (.ref ob), .val (.ref to), .val (.int off), .val (.int ix), .val (.int (Kf (ix).toNatClampNeg))] []))
        obtain ⟨cw, hcw⟩ : ∃ z, z = (Kf (ix).toNatClampNeg) := ⟨_, rfl⟩
        rw [← hcw]
        show own_Fin p.tables e below _ (T4.setTop (mkF m 18 #[.val (.ref ob), .val (.ref to), .val (.int off), .val (.int ix), .val (.int cw)] []))
        obtain ⟨hk, hoc, hsm, hnext⟩ := own_add_turn hI i3 i1 hlt ho ho2 hcw
        refine own_step (fun _ k => XS.aloadN X4.here hx rfl (hb hby d4_18) rfl rfl k) ?_
        show own_Fin p.tables e below _ (T4.setTop (mkF m 19 #[.val (.ref ob), .val (.ref to), .val (.int off), .val (.int ix), .val (.int cw)] [(.ref to)]))
        refine own_step (fun _ k => XS.iloadN X4.here hx rfl (hb hby d4_19) rfl k) ?_
        show own_Fin p.tables e below _ (T4.setTop (mkF m 20 #[.val (.ref ob), .val (.ref to), .val (.int off), .val (.int ix), .val (.int cw)] [(.int off), (.ref to)]))
        refine own_step (fun _ k => XS.iload X4.here hx rfl (hb hby d4_20) rfl k) ?_
        show own_Fin p.tables e below _ (T4.setTop (mkF m 22 #[.val (.ref ob), .val (.ref to), .val (.int off), .val (.int ix), .val (.int cw)] [(.int cw), (.int off), (.ref to)]))
        refine own_step (fun _ k => XS.iadd X4.here hx rfl (hb hby d4_22) rfl k) ?_
        show own_Fin p.tables e below _ (T4.setTop (mkF m 23 #[.val (.ref ob), .val (.ref to), .val (.int off), .val (.int ix), .val (.int cw)] [(.int (off + cw)), (.ref to)]))
        refine own_step (fun _ k => Jvm.Free.XT.dup2 X4.here hx rfl (hb hby d4_23) rfl rfl rfl k) ?_
        show own_Fin p.tables e below _ (T4.setTop (mkF m 24 #[.val (.ref ob), .val (.ref to), .val (.int off), .val (.int ix), .val (.int cw)] [(.int (off + cw)), (.ref to), (.int (off + cw)), (.ref to)]))
        obtain ⟨cl6, Ar6, S6, H6⟩ := id lO
        have hin6 : ¬ ((off + cw) < 0 ∨ cl6.slots.size ≤ ((off + cw)).toNatClampNeg) := own_in S6 ⟨by rw [hoc]; omega, by rw [hoc]; omega⟩
        refine own_step (own_daload X4 hx (j := (off + cw)) (v := (.double (Ow ((off + cw)).toNatClampNeg))) (by first | exact Ar6.1 | (rw [e4]; exact Ar6.1)) (State.isArrayOf_alike hZ.alike Ar6.2.1) Ar6.2.2 hin6 (H6 _ (own_in2 ⟨by rw [hoc]; omega, by rw [hoc]; omega⟩)) (g := (mkF m 24 #[.val (.ref ob), .val (.ref to), .val (.int off), .val (.int ix), .val (.int cw)] [(.int (off + cw)), (.ref to), (.int (off + cw)), (.ref to)])) rfl rfl (hb hby d4_24)) ?_
        show own_Fin p.tables e below _ (T4.setTop (mkF m 25 #[.val (.ref ob), .val (.ref to), .val (.int off), .val (.int ix), .val (.int cw)] [(.double (Ow ((off + cw)).toNatClampNeg)), (.int (off + cw)), (.ref to)]))
        refine own_step (fun _ k => XS.aloadN X4.here hx rfl (hb hby d4_25) rfl rfl k) ?_
        show own_Fin p.tables e below _ (T4.setTop (mkF m 26 #[.val (.ref ob), .val (.ref to), .val (.int off), .val (.int ix), .val (.int cw)] [(.ref ob), (.double (Ow ((off + cw)).toNatClampNeg)), (.int (off + cw)), (.ref to)]))
        obtain ⟨T7, X7, e7, st7⟩ := getF X4 hx hZ hown (host := "") (Or.inl (hw _ (List.mem_of_getElem? (i := 10) rfl))) Via.refl e4 lF0 (g := (mkF m 26 #[.val (.ref ob), .val (.ref to), .val (.int off), .val (.int ix), .val (.int cw)] [(.ref ob), (.double (Ow ((off + cw)).toNatClampNeg)), (.int (off + cw)), (.ref to)])) rfl rfl (hb hby d4_26)
        refine own_step st7 ?_
        show own_Fin p.tables e below _ (T7.setTop (mkF m 29 #[.val (.ref ob), .val (.ref to), .val (.int off), .val (.int ix), .val (.int cw)] [(.ref tv), (.double (Ow ((off + cw)).toNatClampNeg)), (.int (off + cw)), (.ref to)]))
        refine own_step (fun _ k => XS.iload X7.here hx rfl (hb hby d4_29) rfl k) ?_
        show own_Fin p.tables e below _ (T7.setTop (mkF m 31 #[.val (.ref ob), .val (.ref to), .val (.int off), .val (.int ix), .val (.int cw)] [(.int cw), (.ref tv), (.double (Ow ((off + cw)).toNatClampNeg)), (.int (off + cw)), (.ref to)]))
        obtain ⟨cl8, Ar8, S8, H8⟩ := id lA0
        have hin8 : ¬ (cw < 0 ∨ cl8.slots.size ≤ (cw).toNatClampNeg) := own_in S8 ⟨hk.1, by have := hk.2; omega⟩
        refine own_step (own_daload X7 hx (j := cw) (v := (.double (Vf (cw).toNatClampNeg))) (by first | exact Ar8.1 | (rw [e7]; exact Ar8.1)) (State.isArrayOf_alike hZ.alike Ar8.2.1) Ar8.2.2 hin8 (H8 _ (own_in2 ⟨hk.1, by have := hk.2; omega⟩)) (g := (mkF m 31 #[.val (.ref ob), .val (.ref to), .val (.int off), .val (.int ix), .val (.int cw)] [(.int cw), (.ref tv), (.double (Ow ((off + cw)).toNatClampNeg)), (.int (off + cw)), (.ref to)])) rfl rfl (hb hby d4_31)) ?_
        show own_Fin p.tables e below _ (T7.setTop (mkF m 32 #[.val (.ref ob), .val (.ref to), .val (.int off), .val (.int ix), .val (.int cw)] [(.double (Vf (cw).toNatClampNeg)), (.double (Ow ((off + cw)).toNatClampNeg)), (.int (off + cw)), (.ref to)]))
        refine own_step (fun _ k => own_dadd X7.here hx rfl hsm (hb hby d4_32) rfl k) ?_
        show own_Fin p.tables e below _ (T7.setTop (mkF m 33 #[.val (.ref ob), .val (.ref to), .val (.int off), .val (.int ix), .val (.int cw)] [(.double (Jvm.FP.dadd (Ow ((off + cw)).toNatClampNeg) (Vf (cw).toNatClampNeg))), (.int (off + cw)), (.ref to)]))
        obtain ⟨cl9, Ar9, S9, H9⟩ := id lO
        have hin9 : ¬ ((off + cw) < 0 ∨ cl9.slots.size ≤ ((off + cw)).toNatClampNeg) := own_in S9 ⟨by rw [hoc]; omega, by rw [hoc]; omega⟩
        obtain ⟨T9, h9, X9, e9, W9, st9⟩ := own_stD X7 hx hZ e7 Ar9 (j := (off + cw)) hin9 (g := (mkF m 33 #[.val (.ref ob), .val (.ref to), .val (.int off), .val (.int ix), .val (.int cw)] [(.double (Jvm.FP.dadd (Ow ((off + cw)).toNatClampNeg) (Vf (cw).toNatClampNeg))), (.int (off + cw)), (.ref to)])) rfl rfl (hb hby d4_33)
        refine own_step st9 ?_
        have f10 := Nat.le_trans lZ (Keep.of_wr W9).1
        have f11 := lE.wr W9
        have f12 := lF0.other W9 (Or.inl (Ne.symm ne_to_ob))
        have f13 := lF1.other W9 (Or.inl (Ne.symm ne_to_ob))
        have f14 := lF2.other W9 (Or.inl (Ne.symm ne_to_ob))
        have f15 := lN.other W9 (Or.inl (Ne.symm ne_to_ob))
        have f16 := lA0.other W9 (Ne.symm ne_to_tv)
        have f17 := lA1.other W9 (Ne.symm ne_to_tr)
        have f18 := lA2.other W9 (Ne.symm ne_to_tc)
        have f19 := lK.wr W9 (Or.inl (List.mem_of_getElem? (i := 0) rfl))
        have f20 : own_Arf Z h9 to .double M (fun i => .double ((own_upd Ow ((off + cw)).toNatClampNeg (Jvm.FP.dadd (Ow ((off + cw)).toNatClampNeg) (Vf (cw).toNatClampNeg))) i)) := own_Arf.setD lO W9
        have N21 := Fr.snoc X9 N1 g_to
        show own_Fin p.tables e below _ (T9.setTop (mkF m 34 #[.val (.ref ob), .val (.ref to), .val (.int off), .val (.int ix), .val (.int cw)] []))
        refine own_step (fun _ k => XS.iinc X9.here hx rfl (hb hby d4_34) rfl (l' := #[.val (.ref ob), .val (.ref to), .val (.int off), .val (.int (ix + (1 : Int32))), .val (.int cw)]) rfl k) ?_
        show own_Fin p.tables e below _ (T9.setTop (mkF m 37 #[.val (.ref ob), .val (.ref to), .val (.int off), .val (.int (ix + (1 : Int32))), .val (.int cw)] []))
        refine own_step (fun _ k => XS.goto X9.here hx rfl (pc0 := 37) (pc' := 2) rfl (hb hby d4_37) (by decide) (by decide) k) ?_
        show own_Fin p.tables e below _ (T9.setTop (mkF m 2 #[.val (.ref ob), .val (.ref to), .val (.int off), .val (.int (ix + (1 : Int32))), .val (.int cw)] []))
        exact ih _ (by rw [hip]; omega) T9 _ h9 (ix + (1 : Int32)) (.val (.int cw)) (own_upd Ow ((off + cw)).toNatClampNeg (Jvm.FP.dadd (Ow ((off + cw)).toNatClampNeg) (Vf (cw).toNatClampNeg))) X9 e9 N21 (by first | exact One.u | exact One.val rfl | assumption) f10 f11 f12 f13 f14 f15 f16 f17 f18 f20 f19 (by rw [hip]; omega) (by rw [hip]; omega) hnext rfl
      · refine own_step (fun _ k => XS.icmpYes X2.here hx rfl (pc0 := 7) (pc' := 40) rfl (hb hby d4_7) rfl ((flt hc3).2.1) (by decide) (by decide) k) ?_
        show own_Fin p.tables e below _ (T2.setTop (mkF m 40 #[.val (.ref ob), .val (.ref to), .val (.int off), .val (.int ix), sl1_4] []))
        refine own_step (fun _ k => XS.aloadN X2.here hx rfl (hb hby d4_40) rfl rfl k) ?_
        show own_Fin p.tables e below _ (T2.setTop (mkF m 41 #[.val (.ref ob), .val (.ref to), .val (.int off), .val (.int ix), sl1_4] [(.ref ob)]))
        have hee : ix = nn := Int32.toInt_inj.mp (by have := mt Int32.lt_iff_toInt_lt.mpr hc3; omega)
        obtain ⟨cq22, q22, q22'⟩ := lE.cell
        have hpv22 := Cond.privateMethod_at (mvP hZ (hw _ (List.mem_of_getElem? (i := 32) rfl)) (args := #[]))
        obtain ⟨ci22, ki22, hci22, hki22, -, hni22, -⟩ := Cond.instantiable_spec (mvT (args := #[]) hZ (hw _ (List.mem_of_getElem? (i := 1) rfl)))
        obtain ⟨_, _, ⟨T22, L22, k22, n22⟩, -, X22, ⟨Lc22, hQ22, l22, y22, z22⟩, st22⟩ := X2.privateBack hx (y := (⟨"com/example/fusewright/fusewright/runtime/MatrixProduct$Sums", "clear", "()V"⟩ : MethodName)) hown (mvT hZ (hw _ (List.mem_of_getElem? (i := 30) rfl))) (mvT hZ (hw _ (List.mem_of_getElem? (i := 31) rfl))) (selects_self_of_private hci22 hki22 (Bool.or_eq_false_iff.mp hni22).1 hpv22 (mvT hZ (hw _ (List.mem_of_getElem? (i := 31) rfl))) (by decide)) hpv22 (mvT hZ (hw _ (List.mem_of_getElem? (i := 33) rfl))) (by decide) (backOf (W := 0) (rm5 l Z a0 hw [] ob tv tr tc nn Vf Rf Kf S h1 n0 lZ lE lF0 lF1 lF2 lN lA0 lA1 lA2 ne_ob_tv ne_ob_tr ne_ob_tc ne_tv_tr ne_tv_tc ne_tr_tc g_ob g_tv g_tr g_tc hI) hZ (hw _ (List.mem_of_getElem? (i := 33) rfl)) (hw _ (List.mem_of_getElem? (i := 2) rfl)) (by decide) (by decide)) (g := (mkF m 41 #[.val (.ref ob), .val (.ref to), .val (.int off), .val (.int ix), sl1_4] [(.ref ob)])) rfl (by rw [hml]; rfl) (Steps.refl _) (a := ob) (by first | exact q22 | (rw [e2]; exact q22)) q22' (argsL := []) (rest := []) (lenOf pd_0 rfl) rfl (by show 2 * 0 + _ ≤ _; exact Nat.le_of_eq rfl) (hb hby d4_41) (fun _ _ => ⟨rfl, e2, (by decide : 0 + 0 ≤ _), (by decide : 0 + 0 ≤ _)⟩)
        dsimp only [Pt.U, Pt.locs, Pt.cells, Pt.slots] at X22 l22 y22 z22 st22 hQ22
        subst l22 y22 z22
        obtain ⟨rfl, N22q, K22, c22E, c22F0, c22F1, c22F2, c22N, V22, R22, c22A0, c22A1, c22A2, hI2⟩ := hQ22
        have N22 := Fr.app N1 N22q
        refine own_steps st22 ?_
        have f23 := Nat.le_trans lZ K22.1
        have f24 := lE.keep K22
        have f31 := lA2.keep K22 (ninS (Ne.symm ne_ob_tc) (ninS (Ne.symm ne_tv_tc) (ninS (Ne.symm ne_tr_tc) nin0)))
        have f32 := lO.keep K22 (ninS ne_to_ob (ninS ne_to_tv (ninS ne_to_tr nin0)))
        have f33 := lK.trans K22 (allS (Or.inl (List.mem_of_getElem? (i := 1) rfl)) (allS (Or.inl (List.mem_of_getElem? (i := 2) rfl)) (allS (Or.inl (List.mem_of_getElem? (i := 3) rfl)) all0)))
        show own_Fin p.tables e below _ (T22.setTop (mkF m 44 #[.val (.ref ob), .val (.ref to), .val (.int off), .val (.int ix), sl1_4] []))
        obtain ⟨fs34, hr34, hrun34, hended34, hW34, hsame34⟩ := X22.leave (v := none) (fun _ => rfl)
        refine own_ret (X22.returnOut hx Bd.returns (hb hby d4_44) hr34) hrun34 hended34 ?_
        refine ⟨_, _, rfl, ?_, ⟨_, rfl⟩, hW34, hsame34.mono (by decide) (by decide)⟩
        show Q4 Z ob to off tv tr tc nn Vf Rf Kf S M O h0 n0 _ T22.heap _
        exact ⟨rfl, N22, f33, c22E, c22F0, c22F1, c22F2, c22N, _, _, c22A0, c22A1, c22A2, hI2, _, f32, (own_add_end hI i3 hee).1, (own_add_end hI i3 hee).2⟩
  exact loop1 _ s₁ _ h0 (0 : Int32) (.unset) O X0 e0 N0 (by first | exact One.u | exact One.val rfl | assumption) Z0 sE sF0 sF1 sF2 sN sA0 sA1 sA2 sO K0 (by decide) hI.1.1 ⟨fun c hc q => by obtain ⟨j, q1, q2⟩ := q; exact absurd q1 (by show ¬ (j : Int) < 0; omega), fun c hc q => hO c hc, fun k hk => rfl⟩ rfl
theorem pn_1 : plainName "com/example/fusewright/fusewright/runtime/SumsAddPinLaw" = true := by first | (simp [plainName, overriddenIn]; done) | decide +kernel
theorem ef_6 (m : MethodId) (x0 : Int32) (x1 : Int32) (x2 : Int64) (x3 : Int32) (x4 : Int64) (x5 : Int32) (x6 : Int64) : entryFrame m #[(.int x0), (.int x1), (.long x2), (.int x3), (.long x4), (.int x5), (.long x6)] 12 = mkF m 0 #[.val (.int x0), .val (.int x1), .val (.long x2), .second, .val (.int x3), .val (.long x4), .second, .val (.int x5), .val (.long x6), .second, .unset, .unset] [] := by first | (simp [entryFrame, mkF, argsToLocals, Value.category]; done) | rfl
def Q6 (Z : State) (p0 : Int32) (p1 : Int32) (q2 : Int64) (p3 : Int32) (q4 : Int64) (p5 : Int32) (q6 : Int64) (h0 : Heap) (n0 : Nat) (v : Option Value) (h : Heap) (L : List Loc) : Prop := v = some (.long (own_exp p0 p1 q2 p3 q4 p5 q6)) ∧ Fr n0 L ∧ h = h0
abbrev P6 (Z : State) (p0 : Int32) (p1 : Int32) (q2 : Int64) (p3 : Int32) (q4 : Int64) (p5 : Int32) (q6 : Int64) (h0 : Heap) (n0 : Nat) (s : State) : Outcome → State → Prop := fun o U' => ∃ v L, o = .returned v ∧ Q6 Z p0 p1 q2 p3 q4 p5 q6 h0 n0 v U'.heap L ∧ FrameEnd s o U' L ({ frames := 0, cells := 0, slots := 0, locals := 0 } : Room).cells ({ frames := 0, cells := 0, slots := 0, locals := 0 } : Room).slots
theorem d6_0 : decode method_2_code 0 = .ok (.lconst 0, 1) := by decide +kernel
theorem d6_1 : decode method_2_code 1 = .ok (.lstore 10, 2) := by decide +kernel
theorem d6_3 : decode method_2_code 3 = .ok (.iload_n 1, 1) := by decide +kernel
theorem d6_4 : decode method_2_code 4 = .ok (.iload_n 0, 1) := by decide +kernel
theorem d6_5 : decode method_2_code 5 = .ok (.if_icmp .ne 9, 3) := by decide +kernel
theorem d6_8 : decode method_2_code 8 = .ok (.lload 10, 2) := by decide +kernel
theorem d6_10 : decode method_2_code 10 = .ok (.lload_n 2, 1) := by decide +kernel
theorem d6_11 : decode method_2_code 11 = .ok (.ladd, 1) := by decide +kernel
theorem d6_12 : decode method_2_code 12 = .ok (.lstore 10, 2) := by decide +kernel
theorem d6_14 : decode method_2_code 14 = .ok (.iload 4, 2) := by decide +kernel
theorem d6_16 : decode method_2_code 16 = .ok (.iload_n 0, 1) := by decide +kernel
theorem d6_17 : decode method_2_code 17 = .ok (.if_icmp .ne 10, 3) := by decide +kernel
theorem d6_20 : decode method_2_code 20 = .ok (.lload 10, 2) := by decide +kernel
theorem d6_22 : decode method_2_code 22 = .ok (.lload 5, 2) := by decide +kernel
theorem d6_24 : decode method_2_code 24 = .ok (.ladd, 1) := by decide +kernel
theorem d6_25 : decode method_2_code 25 = .ok (.lstore 10, 2) := by decide +kernel
theorem d6_27 : decode method_2_code 27 = .ok (.iload 7, 2) := by decide +kernel
theorem d6_29 : decode method_2_code 29 = .ok (.iload_n 0, 1) := by decide +kernel
theorem d6_30 : decode method_2_code 30 = .ok (.if_icmp .ne 10, 3) := by decide +kernel
theorem d6_33 : decode method_2_code 33 = .ok (.lload 10, 2) := by decide +kernel
theorem d6_35 : decode method_2_code 35 = .ok (.lload 8, 2) := by decide +kernel
theorem d6_37 : decode method_2_code 37 = .ok (.ladd, 1) := by decide +kernel
theorem d6_38 : decode method_2_code 38 = .ok (.lstore 10, 2) := by decide +kernel
theorem d6_40 : decode method_2_code 40 = .ok (.lload 10, 2) := by decide +kernel
theorem d6_42 : decode method_2_code 42 = .ok (.lreturn, 1) := by decide +kernel
set_option maxRecDepth 65536 in
set_option maxHeartbeats 40000000 in
theorem rm6 (l : Launch) (Z : State) (a0 : Array Value) (hw : ∀ d ∈ tables_1, d.before a0 Z = true) (ws : List Jvm.Cond) (p0 : Int32) (p1 : Int32) (q2 : Int64) (p3 : Int32) (q4 : Int64) (p5 : Int32) (q6 : Int64) (h0 : Heap) (n0 : Nat) (Z0 : n0 ≤ h0.size) :
    MetFree l (⟨"com/example/fusewright/fusewright/runtime/SumsAddPinLaw", "expect", "(IIJIJIJ)J"⟩ : MethodName) (head1 (Jvm.Cond.code (⟨"com/example/fusewright/fusewright/runtime/SumsAddPinLaw", "expect", "(IIJIJIJ)J"⟩ : MethodName) method_2_code 12 (some .long) :: ws) ({ frames := 0, cells := 0, slots := 0, locals := 0 } : Room)) (fun a U => a = #[(.int p0), (.int p1), (.long q2), (.int p3), (.long q4), (.int p5), (.long q6)] ∧ Z.Warmed39 U.vm ∧ U.heap = h0) (fun _ _ _ _ _ => True) (fun _ U o U' => ∃ v L, o = .returned v ∧ Q6 Z p0 p1 q2 p3 q4 p5 q6 h0 n0 v U'.heap L ∧ FrameEnd U o U' L ({ frames := 0, cells := 0, slots := 0, locals := 0 } : Room).cells ({ frames := 0, cells := 0, slots := 0, locals := 0 } : Room).slots) := by
  refine MetFree.of_bodySF (plainFor_of_name pn_1) hisR ?_
  intro p e s m args below meth c s₁ Bd hml0 hP hK
  obtain ⟨rfl, hZ, hh⟩ := hP
  have hx := Bd.exec
  have hby := Bd.bytes
  have hml : c.maxLocals = 12 := hml0
  have hown : s.vm.findClass "com/example/fusewright/fusewright/runtime/SumsAddPinLaw" = some m.cls := findClass_of_methodNamed Bd.named
  have hnm := (name_of_methodNamed Bd.named Bd.method).1
  have X0 : Stand p l e ({ frames := 0, cells := 0, slots := 0, locals := 0 } : Room) s m #[(.int p0), (.int p1), (.long q2), (.int p3), (.long q4), (.int p5), (.long q6)] below meth c s₁ [] 0 0 := Stand.of_body Bd
  have e0 : s₁.heap = h0 := by rw [← hh, Bd.state]; rfl
  have N0 := Fr.nil n0
  refine own_enter (P := (P6 Z p0 p1 q2 p3 q4 p5 q6 h0 n0 s)) (ef_6 m p0 p1 q2 p3 q4 p5 q6) ?_
  show own_Fin p.tables e below _ (s₁.setTop (mkF m 0 #[.val (.int p0), .val (.int p1), .val (.long q2), .second, .val (.int p3), .val (.long q4), .second, .val (.int p5), .val (.long q6), .second, .unset, .unset] []))
  refine own_step (fun _ k => XS.lconst X0.here hx rfl (hb hby d6_0) k) ?_
  show own_Fin p.tables e below _ (s₁.setTop (mkF m 1 #[.val (.int p0), .val (.int p1), .val (.long q2), .second, .val (.int p3), .val (.long q4), .second, .val (.int p5), .val (.long q6), .second, .unset, .unset] [(.long (0 : Int64))]))
  refine own_step (fun _ k => XS.lstore X0.here hx rfl (hb hby d6_1) rfl (l' := #[.val (.int p0), .val (.int p1), .val (.long q2), .second, .val (.int p3), .val (.long q4), .second, .val (.int p5), .val (.long q6), .second, .val (.long (0 : Int64)), .second]) rfl k) ?_
  show own_Fin p.tables e below _ (s₁.setTop (mkF m 3 #[.val (.int p0), .val (.int p1), .val (.long q2), .second, .val (.int p3), .val (.long q4), .second, .val (.int p5), .val (.long q6), .second, .val (.long (0 : Int64)), .second] []))
  refine own_step (fun _ k => XS.iloadN X0.here hx rfl (hb hby d6_3) rfl k) ?_
  show own_Fin p.tables e below _ (s₁.setTop (mkF m 4 #[.val (.int p0), .val (.int p1), .val (.long q2), .second, .val (.int p3), .val (.long q4), .second, .val (.int p5), .val (.long q6), .second, .val (.long (0 : Int64)), .second] [(.int p1)]))
  refine own_step (fun _ k => XS.iloadN X0.here hx rfl (hb hby d6_4) rfl k) ?_
  show own_Fin p.tables e below _ (s₁.setTop (mkF m 5 #[.val (.int p0), .val (.int p1), .val (.long q2), .second, .val (.int p3), .val (.long q4), .second, .val (.int p5), .val (.long q6), .second, .val (.long (0 : Int64)), .second] [(.int p0), (.int p1)]))
  have J2 : ∀ (T3 : State) (locs3 : List Loc) (y4 : Int64) (X3 : Stand p l e ({ frames := 0, cells := 0, slots := 0, locals := 0 } : Room) s m #[(.int p0), (.int p1), (.long q2), (.int p3), (.long q4), (.int p5), (.long q6)] below meth c T3 locs3 0 0) (e3 : T3.heap = h0) (N3 : Fr n0 locs3) (gy4 : y4 = (if p1 = p0 then ((0 : Int64) + q2) else (0 : Int64))), own_Fin p.tables e below (P6 Z p0 p1 q2 p3 q4 p5 q6 h0 n0 s) (T3.setTop (mkF m 14 #[.val (.int p0), .val (.int p1), .val (.long q2), .second, .val (.int p3), .val (.long q4), .second, .val (.int p5), .val (.long q6), .second, .val (.long y4), .second] [])) := by
    intro T3 locs3 y4 X3 e3 N3 gy4
    refine own_step (fun _ k => XS.iload X3.here hx rfl (hb hby d6_14) rfl k) ?_
    show own_Fin p.tables e below _ (T3.setTop (mkF m 16 #[.val (.int p0), .val (.int p1), .val (.long q2), .second, .val (.int p3), .val (.long q4), .second, .val (.int p5), .val (.long q6), .second, .val (.long y4), .second] [(.int p3)]))
    refine own_step (fun _ k => XS.iloadN X3.here hx rfl (hb hby d6_16) rfl k) ?_
    show own_Fin p.tables e below _ (T3.setTop (mkF m 17 #[.val (.int p0), .val (.int p1), .val (.long q2), .second, .val (.int p3), .val (.long q4), .second, .val (.int p5), .val (.long q6), .second, .val (.long y4), .second] [(.int p0), (.int p3)]))
    have J6 : ∀ (T7 : State) (locs7 : List Loc) (y8 : Int64) (X7 : Stand p l e ({ frames := 0, cells := 0, slots := 0, locals := 0 } : Room) s m #[(.int p0), (.int p1), (.long q2), (.int p3), (.long q4), (.int p5), (.long q6)] below meth c T7 locs7 0 0) (e7 : T7.heap = h0) (N7 : Fr n0 locs7) (gy8 : y8 = (if p3 = p0 then (y4 + q4) else y4)), own_Fin p.tables e below (P6 Z p0 p1 q2 p3 q4 p5 q6 h0 n0 s) (T7.setTop (mkF m 27 #[.val (.int p0), .val (.int p1), .val (.long q2), .second, .val (.int p3), .val (.long q4), .second, .val (.int p5), .val (.long q6), .second, .val (.long y8), .second] [])) := by
      intro T7 locs7 y8 X7 e7 N7 gy8
      refine own_step (fun _ k => XS.iload X7.here hx rfl (hb hby d6_27) rfl k) ?_
      show own_Fin p.tables e below _ (T7.setTop (mkF m 29 #[.val (.int p0), .val (.int p1), .val (.long q2), .second, .val (.int p3), .val (.long q4), .second, .val (.int p5), .val (.long q6), .second, .val (.long y8), .second] [(.int p5)]))
      refine own_step (fun _ k => XS.iloadN X7.here hx rfl (hb hby d6_29) rfl k) ?_
      show own_Fin p.tables e below _ (T7.setTop (mkF m 30 #[.val (.int p0), .val (.int p1), .val (.long q2), .second, .val (.int p3), .val (.long q4), .second, .val (.int p5), .val (.long q6), .second, .val (.long y8), .second] [(.int p0), (.int p5)]))
      have J10 : ∀ (T11 : State) (locs11 : List Loc) (y12 : Int64) (X11 : Stand p l e ({ frames := 0, cells := 0, slots := 0, locals := 0 } : Room) s m #[(.int p0), (.int p1), (.long q2), (.int p3), (.long q4), (.int p5), (.long q6)] below meth c T11 locs11 0 0) (e11 : T11.heap = h0) (N11 : Fr n0 locs11) (gy12 : y12 = (if p5 = p0 then (y8 + q6) else y8)), own_Fin p.tables e below (P6 Z p0 p1 q2 p3 q4 p5 q6 h0 n0 s) (T11.setTop (mkF m 40 #[.val (.int p0), .val (.int p1), .val (.long q2), .second, .val (.int p3), .val (.long q4), .second, .val (.int p5), .val (.long q6), .second, .val (.long y12), .second] [])) := by
        intro T11 locs11 y12 X11 e11 N11 gy12
        refine own_step (fun _ k => XS.lload X11.here hx rfl (hb hby d6_40) rfl k) ?_
        show own_Fin p.tables e below _ (T11.setTop (mkF m 42 #[.val (.int p0), .val (.int p1), .val (.long q2), .second, .val (.int p3), .val (.long q4), .second, .val (.int p5), .val (.long q6), .second, .val (.long y12), .second] [(.long y12)]))
        obtain ⟨fs13, hr13, hrun13, hended13, hW13, hsame13⟩ := X11.leave (v := some (.long y12)) (fun h => by rw [Bd.returns] at h; cases h)
        refine own_ret (own_retJ X11 hx Bd.returns (hb hby d6_42) hr13) hrun13 hended13 ?_
        refine ⟨_, _, rfl, ?_, ⟨_, rfl⟩, hW13, hsame13.mono (by decide) (by decide)⟩
        show Q6 Z p0 p1 q2 p3 q4 p5 q6 h0 n0 _ T11.heap _
        rw [e11]
        refine ⟨congrArg (fun z => some (Value.long z)) ?_, N11, rfl⟩
        rw [gy12, gy8, gy4]; rfl
      by_cases hc9 : p5 = p0
      · refine own_step (fun _ k => XS.icmpNo X7.here hx rfl (hb hby d6_30) rfl ((teq hc9).2) k) ?_
        show own_Fin p.tables e below _ (T7.setTop (mkF m 33 #[.val (.int p0), .val (.int p1), .val (.long q2), .second, .val (.int p3), .val (.long q4), .second, .val (.int p5), .val (.long q6), .second, .val (.long y8), .second] []))
        refine own_step (fun _ k => XS.lload X7.here hx rfl (hb hby d6_33) rfl k) ?_
        show own_Fin p.tables e below _ (T7.setTop (mkF m 35 #[.val (.int p0), .val (.int p1), .val (.long q2), .second, .val (.int p3), .val (.long q4), .second, .val (.int p5), .val (.long q6), .second, .val (.long y8), .second] [(.long y8)]))
        refine own_step (fun _ k => XS.lload X7.here hx rfl (hb hby d6_35) rfl k) ?_
        show own_Fin p.tables e below _ (T7.setTop (mkF m 37 #[.val (.int p0), .val (.int p1), .val (.long q2), .second, .val (.int p3), .val (.long q4), .second, .val (.int p5), .val (.long q6), .second, .val (.long y8), .second] [(.long q6), (.long y8)]))
        refine own_step (fun _ k => XS.ladd X7.here hx rfl (hb hby d6_37) rfl k) ?_
        show own_Fin p.tables e below _ (T7.setTop (mkF m 38 #[.val (.int p0), .val (.int p1), .val (.long q2), .second, .val (.int p3), .val (.long q4), .second, .val (.int p5), .val (.long q6), .second, .val (.long y8), .second] [(.long (y8 + q6))]))
        refine own_step (fun _ k => XS.lstore X7.here hx rfl (hb hby d6_38) rfl (l' := #[.val (.int p0), .val (.int p1), .val (.long q2), .second, .val (.int p3), .val (.long q4), .second, .val (.int p5), .val (.long q6), .second, .val (.long (y8 + q6)), .second]) rfl k) ?_
        show own_Fin p.tables e below _ (T7.setTop (mkF m 40 #[.val (.int p0), .val (.int p1), .val (.long q2), .second, .val (.int p3), .val (.long q4), .second, .val (.int p5), .val (.long q6), .second, .val (.long (y8 + q6)), .second] []))
        exact J10 T7 _ (y8 + q6) X7 e7 N7 (by rw [if_pos hc9])
      · refine own_step (fun _ k => XS.icmpYes X7.here hx rfl (pc0 := 30) (pc' := 40) rfl (hb hby d6_30) rfl ((feq hc9).2) (by decide) (by decide) k) ?_
        show own_Fin p.tables e below _ (T7.setTop (mkF m 40 #[.val (.int p0), .val (.int p1), .val (.long q2), .second, .val (.int p3), .val (.long q4), .second, .val (.int p5), .val (.long q6), .second, .val (.long y8), .second] []))
        exact J10 T7 _ y8 X7 e7 N7 (by rw [if_neg hc9])
    by_cases hc5 : p3 = p0
    · refine own_step (fun _ k => XS.icmpNo X3.here hx rfl (hb hby d6_17) rfl ((teq hc5).2) k) ?_
      show own_Fin p.tables e below _ (T3.setTop (mkF m 20 #[.val (.int p0), .val (.int p1), .val (.long q2), .second, .val (.int p3), .val (.long q4), .second, .val (.int p5), .val (.long q6), .second, .val (.long y4), .second] []))
      refine own_step (fun _ k => XS.lload X3.here hx rfl (hb hby d6_20) rfl k) ?_
      show own_Fin p.tables e below _ (T3.setTop (mkF m 22 #[.val (.int p0), .val (.int p1), .val (.long q2), .second, .val (.int p3), .val (.long q4), .second, .val (.int p5), .val (.long q6), .second, .val (.long y4), .second] [(.long y4)]))
      refine own_step (fun _ k => XS.lload X3.here hx rfl (hb hby d6_22) rfl k) ?_
      show own_Fin p.tables e below _ (T3.setTop (mkF m 24 #[.val (.int p0), .val (.int p1), .val (.long q2), .second, .val (.int p3), .val (.long q4), .second, .val (.int p5), .val (.long q6), .second, .val (.long y4), .second] [(.long q4), (.long y4)]))
      refine own_step (fun _ k => XS.ladd X3.here hx rfl (hb hby d6_24) rfl k) ?_
      show own_Fin p.tables e below _ (T3.setTop (mkF m 25 #[.val (.int p0), .val (.int p1), .val (.long q2), .second, .val (.int p3), .val (.long q4), .second, .val (.int p5), .val (.long q6), .second, .val (.long y4), .second] [(.long (y4 + q4))]))
      refine own_step (fun _ k => XS.lstore X3.here hx rfl (hb hby d6_25) rfl (l' := #[.val (.int p0), .val (.int p1), .val (.long q2), .second, .val (.int p3), .val (.long q4), .second, .val (.int p5), .val (.long q6), .second, .val (.long (y4 + q4)), .second]) rfl k) ?_
      show own_Fin p.tables e below _ (T3.setTop (mkF m 27 #[.val (.int p0), .val (.int p1), .val (.long q2), .second, .val (.int p3), .val (.long q4), .second, .val (.int p5), .val (.long q6), .second, .val (.long (y4 + q4)), .second] []))
      exact J6 T3 _ (y4 + q4) X3 e3 N3 (by rw [if_pos hc5])
    · refine own_step (fun _ k => XS.icmpYes X3.here hx rfl (pc0 := 17) (pc' := 27) rfl (hb hby d6_17) rfl ((feq hc5).2) (by decide) (by decide) k) ?_
      show own_Fin p.tables e below _ (T3.setTop (mkF m 27 #[.val (.int p0), .val (.int p1), .val (.long q2), .second, .val (.int p3), .val (.long q4), .second, .val (.int p5), .val (.long q6), .second, .val (.long y4), .second] []))
      exact J6 T3 _ y4 X3 e3 N3 (by rw [if_neg hc5])
  by_cases hc1 : p1 = p0
  · refine own_step (fun _ k => XS.icmpNo X0.here hx rfl (hb hby d6_5) rfl ((teq hc1).2) k) ?_
    show own_Fin p.tables e below _ (s₁.setTop (mkF m 8 #[.val (.int p0), .val (.int p1), .val (.long q2), .second, .val (.int p3), .val (.long q4), .second, .val (.int p5), .val (.long q6), .second, .val (.long (0 : Int64)), .second] []))
    refine own_step (fun _ k => XS.lload X0.here hx rfl (hb hby d6_8) rfl k) ?_
    show own_Fin p.tables e below _ (s₁.setTop (mkF m 10 #[.val (.int p0), .val (.int p1), .val (.long q2), .second, .val (.int p3), .val (.long q4), .second, .val (.int p5), .val (.long q6), .second, .val (.long (0 : Int64)), .second] [(.long (0 : Int64))]))
    refine own_step (fun _ k => XS.lloadN X0.here hx rfl (hb hby d6_10) rfl k) ?_
    show own_Fin p.tables e below _ (s₁.setTop (mkF m 11 #[.val (.int p0), .val (.int p1), .val (.long q2), .second, .val (.int p3), .val (.long q4), .second, .val (.int p5), .val (.long q6), .second, .val (.long (0 : Int64)), .second] [(.long q2), (.long (0 : Int64))]))
    refine own_step (fun _ k => XS.ladd X0.here hx rfl (hb hby d6_11) rfl k) ?_
    show own_Fin p.tables e below _ (s₁.setTop (mkF m 12 #[.val (.int p0), .val (.int p1), .val (.long q2), .second, .val (.int p3), .val (.long q4), .second, .val (.int p5), .val (.long q6), .second, .val (.long (0 : Int64)), .second] [(.long ((0 : Int64) + q2))]))
    refine own_step (fun _ k => XS.lstore X0.here hx rfl (hb hby d6_12) rfl (l' := #[.val (.int p0), .val (.int p1), .val (.long q2), .second, .val (.int p3), .val (.long q4), .second, .val (.int p5), .val (.long q6), .second, .val (.long ((0 : Int64) + q2)), .second]) rfl k) ?_
    show own_Fin p.tables e below _ (s₁.setTop (mkF m 14 #[.val (.int p0), .val (.int p1), .val (.long q2), .second, .val (.int p3), .val (.long q4), .second, .val (.int p5), .val (.long q6), .second, .val (.long ((0 : Int64) + q2)), .second] []))
    exact J2 s₁ _ ((0 : Int64) + q2) X0 e0 N0 (by rw [if_pos hc1])
  · refine own_step (fun _ k => XS.icmpYes X0.here hx rfl (pc0 := 5) (pc' := 14) rfl (hb hby d6_5) rfl ((feq hc1).2) (by decide) (by decide) k) ?_
    show own_Fin p.tables e below _ (s₁.setTop (mkF m 14 #[.val (.int p0), .val (.int p1), .val (.long q2), .second, .val (.int p3), .val (.long q4), .second, .val (.int p5), .val (.long q6), .second, .val (.long (0 : Int64)), .second] []))
    exact J2 s₁ _ (0 : Int64) X0 e0 N0 (by rw [if_neg hc1])
theorem ef_0 (m : MethodId) (x0 : Int32) (x1 : Int32) (x2 : Int32) (x3 : Int32) (x4 : Int32) (x5 : Int32) : entryFrame m #[(.int x0), (.int x1), (.int x2), (.int x3), (.int x4), (.int x5)] maxLocals = mkF m 0 #[.val (.int x0), .val (.int x1), .val (.int x2), .val (.int x3), .val (.int x4), .val (.int x5), .unset, .unset, .unset, .unset, .unset, .unset, .unset, .unset, .unset, .unset, .unset, .unset, .unset, .unset] [] := by first | (simp [entryFrame, mkF, argsToLocals, Value.category, maxLocals]; done) | rfl
def Q0 (Z : State) (w0 : Int32) (w1 : Int32) (w2 : Int32) (w3 : Int32) (w4 : Int32) (w5 : Int32) (h0 : Heap) (n0 : Nat) (v : Option Value) (h : Heap) (L : List Loc) : Prop := v = some (.int 1) ∧ Fr n0 L
abbrev P0 (Z : State) (w0 : Int32) (w1 : Int32) (w2 : Int32) (w3 : Int32) (w4 : Int32) (w5 : Int32) (h0 : Heap) (n0 : Nat) (s : State) : Outcome → State → Prop := fun o U' => ∃ v L, o = .returned v ∧ Q0 Z w0 w1 w2 w3 w4 w5 h0 n0 v U'.heap L ∧ FrameEnd s o U' L room_1.cells room_1.slots
theorem pd_1 : parseMethodDescriptor "(I)V" = some ⟨[.int], none⟩ := by decide +kernel
theorem pd_2 : parseMethodDescriptor "(ID)V" = some ⟨[.int, .double], none⟩ := by decide +kernel
theorem pd_3 : parseMethodDescriptor "([DI)V" = some ⟨[(.array .double), .int], none⟩ := by decide +kernel
theorem pd_4 : parseMethodDescriptor "(IIJIJIJ)J" = some ⟨[.int, .int, .long, .int, .long, .int, .long], some .long⟩ := by decide +kernel
set_option maxRecDepth 65536 in
set_option maxHeartbeats 40000000 in
theorem rm0 (l : Launch) (Z : State) (a0 : Array Value) (hw : ∀ d ∈ tables_1, d.before a0 Z = true) (ws : List Jvm.Cond) (w0 : Int32) (w1 : Int32) (w2 : Int32) (w3 : Int32) (w4 : Int32) (w5 : Int32) (h0 : Heap) (n0 : Nat) (Z0 : n0 ≤ h0.size) :
    MetFree l x (head1 (Jvm.Cond.code x code maxLocals ret :: ws) room_1) (fun a U => a = #[(.int w0), (.int w1), (.int w2), (.int w3), (.int w4), (.int w5)] ∧ Z.Warmed39 U.vm ∧ U.heap = h0) (fun _ _ _ _ _ => True) (fun _ U o U' => ∃ v L, o = .returned v ∧ Q0 Z w0 w1 w2 w3 w4 w5 h0 n0 v U'.heap L ∧ FrameEnd U o U' L room_1.cells room_1.slots) := by
  refine MetFree.of_bodySF (plainFor_of_name pn_1) hisR ?_
  intro p e s m args below meth c s₁ Bd hml0 hP hK
  obtain ⟨rfl, hZ, hh⟩ := hP
  have hx := Bd.exec
  have hby := Bd.bytes
  have hml : c.maxLocals = 20 := hml0
  have hown : s.vm.findClass "com/example/fusewright/fusewright/runtime/SumsAddPinLaw" = some m.cls := findClass_of_methodNamed Bd.named
  have hnm := (name_of_methodNamed Bd.named Bd.method).1
  have X0 : Stand p l e room_1 s m #[(.int w0), (.int w1), (.int w2), (.int w3), (.int w4), (.int w5)] below meth c s₁ [] 0 0 := Stand.of_body Bd
  have e0 : s₁.heap = h0 := by rw [← hh, Bd.state]; rfl
  have N0 := Fr.nil n0
  refine own_enter (P := (P0 Z w0 w1 w2 w3 w4 w5 h0 n0 s)) (ef_0 m w0 w1 w2 w3 w4 w5) ?_
  show own_Fin p.tables e below _ (s₁.setTop (mkF m 0 #[.val (.int w0), .val (.int w1), .val (.int w2), .val (.int w3), .val (.int w4), .val (.int w5), .unset, .unset, .unset, .unset, .unset, .unset, .unset, .unset, .unset, .unset, .unset, .unset, .unset, .unset] []))
  refine own_step (fun _ k => XS.iloadN X0.here hx rfl (hb hby at_0) rfl k) ?_
  show own_Fin p.tables e below _ (s₁.setTop (mkF m 1 #[.val (.int w0), .val (.int w1), .val (.int w2), .val (.int w3), .val (.int w4), .val (.int w5), .unset, .unset, .unset, .unset, .unset, .unset, .unset, .unset, .unset, .unset, .unset, .unset, .unset, .unset] [(.int w0)]))
  refine own_step (fun _ k => XS.iconst X0.here hx rfl (hb hby at_1) k) ?_
  show own_Fin p.tables e below _ (s₁.setTop (mkF m 2 #[.val (.int w0), .val (.int w1), .val (.int w2), .val (.int w3), .val (.int w4), .val (.int w5), .unset, .unset, .unset, .unset, .unset, .unset, .unset, .unset, .unset, .unset, .unset, .unset, .unset, .unset] [(.int (3 : Int32)), (.int w0)]))
  refine own_step (fun _ k => XS.iand X0.here hx rfl (hb hby at_2) rfl k) ?_
  show own_Fin p.tables e below _ (s₁.setTop (mkF m 3 #[.val (.int w0), .val (.int w1), .val (.int w2), .val (.int w3), .val (.int w4), .val (.int w5), .unset, .unset, .unset, .unset, .unset, .unset, .unset, .unset, .unset, .unset, .unset, .unset, .unset, .unset] [(.int (w0 &&& (3 : Int32)))]))
  refine own_step (fun _ k => XS.istore X0.here hx rfl (hb hby at_3) rfl (l' := #[.val (.int w0), .val (.int w1), .val (.int w2), .val (.int w3), .val (.int w4), .val (.int w5), .val (.int (w0 &&& (3 : Int32))), .unset, .unset, .unset, .unset, .unset, .unset, .unset, .unset, .unset, .unset, .unset, .unset, .unset]) rfl k) ?_
  show own_Fin p.tables e below _ (s₁.setTop (mkF m 5 #[.val (.int w0), .val (.int w1), .val (.int w2), .val (.int w3), .val (.int w4), .val (.int w5), .val (.int (w0 &&& (3 : Int32))), .unset, .unset, .unset, .unset, .unset, .unset, .unset, .unset, .unset, .unset, .unset, .unset, .unset] []))
  obtain ⟨ca, hca⟩ : ∃ z, z = (w0 &&& (3 : Int32)) := ⟨_, rfl⟩
  rw [← hca]
  show own_Fin p.tables e below _ (s₁.setTop (mkF m 5 #[.val (.int w0), .val (.int w1), .val (.int w2), .val (.int w3), .val (.int w4), .val (.int w5), .val (.int ca), .unset, .unset, .unset, .unset, .unset, .unset, .unset, .unset, .unset, .unset, .unset, .unset, .unset] []))
  obtain ⟨hca0, hca4⟩ := own_3 hca
  refine own_step (fun _ k => XS.iloadN X0.here hx rfl (hb hby at_5) rfl k) ?_
  show own_Fin p.tables e below _ (s₁.setTop (mkF m 6 #[.val (.int w0), .val (.int w1), .val (.int w2), .val (.int w3), .val (.int w4), .val (.int w5), .val (.int ca), .unset, .unset, .unset, .unset, .unset, .unset, .unset, .unset, .unset, .unset, .unset, .unset, .unset] [(.int w1)]))
  refine own_step (fun _ k => XS.iconst X0.here hx rfl (hb hby at_6) k) ?_
  show own_Fin p.tables e below _ (s₁.setTop (mkF m 7 #[.val (.int w0), .val (.int w1), .val (.int w2), .val (.int w3), .val (.int w4), .val (.int w5), .val (.int ca), .unset, .unset, .unset, .unset, .unset, .unset, .unset, .unset, .unset, .unset, .unset, .unset, .unset] [(.int (3 : Int32)), (.int w1)]))
  refine own_step (fun _ k => XS.iand X0.here hx rfl (hb hby at_7) rfl k) ?_
  show own_Fin p.tables e below _ (s₁.setTop (mkF m 8 #[.val (.int w0), .val (.int w1), .val (.int w2), .val (.int w3), .val (.int w4), .val (.int w5), .val (.int ca), .unset, .unset, .unset, .unset, .unset, .unset, .unset, .unset, .unset, .unset, .unset, .unset, .unset] [(.int (w1 &&& (3 : Int32)))]))
  refine own_step (fun _ k => XS.istore X0.here hx rfl (hb hby at_8) rfl (l' := #[.val (.int w0), .val (.int w1), .val (.int w2), .val (.int w3), .val (.int w4), .val (.int w5), .val (.int ca), .val (.int (w1 &&& (3 : Int32))), .unset, .unset, .unset, .unset, .unset, .unset, .unset, .unset, .unset, .unset, .unset, .unset]) rfl k) ?_
  show own_Fin p.tables e below _ (s₁.setTop (mkF m 10 #[.val (.int w0), .val (.int w1), .val (.int w2), .val (.int w3), .val (.int w4), .val (.int w5), .val (.int ca), .val (.int (w1 &&& (3 : Int32))), .unset, .unset, .unset, .unset, .unset, .unset, .unset, .unset, .unset, .unset, .unset, .unset] []))
  obtain ⟨cb, hcb⟩ : ∃ z, z = (w1 &&& (3 : Int32)) := ⟨_, rfl⟩
  rw [← hcb]
  show own_Fin p.tables e below _ (s₁.setTop (mkF m 10 #[.val (.int w0), .val (.int w1), .val (.int w2), .val (.int w3), .val (.int w4), .val (.int w5), .val (.int ca), .val (.int cb), .unset, .unset, .unset, .unset, .unset, .unset, .unset, .unset, .unset, .unset, .unset, .unset] []))
  obtain ⟨hcb0, hcb4⟩ := own_3 hcb
  refine own_step (fun _ k => XS.iloadN X0.here hx rfl (hb hby at_10) rfl k) ?_
  show own_Fin p.tables e below _ (s₁.setTop (mkF m 11 #[.val (.int w0), .val (.int w1), .val (.int w2), .val (.int w3), .val (.int w4), .val (.int w5), .val (.int ca), .val (.int cb), .unset, .unset, .unset, .unset, .unset, .unset, .unset, .unset, .unset, .unset, .unset, .unset] [(.int w2)]))
  refine own_step (fun _ k => XS.iconst X0.here hx rfl (hb hby at_11) k) ?_
  show own_Fin p.tables e below _ (s₁.setTop (mkF m 12 #[.val (.int w0), .val (.int w1), .val (.int w2), .val (.int w3), .val (.int w4), .val (.int w5), .val (.int ca), .val (.int cb), .unset, .unset, .unset, .unset, .unset, .unset, .unset, .unset, .unset, .unset, .unset, .unset] [(.int (3 : Int32)), (.int w2)]))
  refine own_step (fun _ k => XS.iand X0.here hx rfl (hb hby at_12) rfl k) ?_
  show own_Fin p.tables e below _ (s₁.setTop (mkF m 13 #[.val (.int w0), .val (.int w1), .val (.int w2), .val (.int w3), .val (.int w4), .val (.int w5), .val (.int ca), .val (.int cb), .unset, .unset, .unset, .unset, .unset, .unset, .unset, .unset, .unset, .unset, .unset, .unset] [(.int (w2 &&& (3 : Int32)))]))
  refine own_step (fun _ k => XS.istore X0.here hx rfl (hb hby at_13) rfl (l' := #[.val (.int w0), .val (.int w1), .val (.int w2), .val (.int w3), .val (.int w4), .val (.int w5), .val (.int ca), .val (.int cb), .val (.int (w2 &&& (3 : Int32))), .unset, .unset, .unset, .unset, .unset, .unset, .unset, .unset, .unset, .unset, .unset]) rfl k) ?_
  show own_Fin p.tables e below _ (s₁.setTop (mkF m 15 #[.val (.int w0), .val (.int w1), .val (.int w2), .val (.int w3), .val (.int w4), .val (.int w5), .val (.int ca), .val (.int cb), .val (.int (w2 &&& (3 : Int32))), .unset, .unset, .unset, .unset, .unset, .unset, .unset, .unset, .unset, .unset, .unset] []))
  obtain ⟨cc, hcc⟩ : ∃ z, z = (w2 &&& (3 : Int32)) := ⟨_, rfl⟩
  rw [← hcc]
  show own_Fin p.tables e below _ (s₁.setTop (mkF m 15 #[.val (.int w0), .val (.int w1), .val (.int w2), .val (.int w3), .val (.int w4), .val (.int w5), .val (.int ca), .val (.int cb), .val (.int cc), .unset, .unset, .unset, .unset, .unset, .unset, .unset, .unset, .unset, .unset, .unset] []))
  obtain ⟨hcc0, hcc4⟩ := own_3 hcc
  refine own_step (fun _ k => XS.iloadN X0.here hx rfl (hb hby at_15) rfl k) ?_
  show own_Fin p.tables e below _ (s₁.setTop (mkF m 16 #[.val (.int w0), .val (.int w1), .val (.int w2), .val (.int w3), .val (.int w4), .val (.int w5), .val (.int ca), .val (.int cb), .val (.int cc), .unset, .unset, .unset, .unset, .unset, .unset, .unset, .unset, .unset, .unset, .unset] [(.int w2)]))
  refine own_step (fun _ k => XS.iconst X0.here hx rfl (hb hby at_16) k) ?_
  show own_Fin p.tables e below _ (s₁.setTop (mkF m 17 #[.val (.int w0), .val (.int w1), .val (.int w2), .val (.int w3), .val (.int w4), .val (.int w5), .val (.int ca), .val (.int cb), .val (.int cc), .unset, .unset, .unset, .unset, .unset, .unset, .unset, .unset, .unset, .unset, .unset] [(.int (2 : Int32)), (.int w2)]))
  refine own_step (fun _ k => XS.iushr X0.here hx rfl (hb hby at_17) rfl k) ?_
  show own_Fin p.tables e below _ (s₁.setTop (mkF m 18 #[.val (.int w0), .val (.int w1), .val (.int w2), .val (.int w3), .val (.int w4), .val (.int w5), .val (.int ca), .val (.int cb), .val (.int cc), .unset, .unset, .unset, .unset, .unset, .unset, .unset, .unset, .unset, .unset, .unset] [(.int ((w2.toUInt32 >>> ((2 : Int32) &&& 31).toUInt32).toInt32))]))
  refine own_step (fun _ k => XS.iconst X0.here hx rfl (hb hby at_18) k) ?_
  show own_Fin p.tables e below _ (s₁.setTop (mkF m 19 #[.val (.int w0), .val (.int w1), .val (.int w2), .val (.int w3), .val (.int w4), .val (.int w5), .val (.int ca), .val (.int cb), .val (.int cc), .unset, .unset, .unset, .unset, .unset, .unset, .unset, .unset, .unset, .unset, .unset] [(.int (3 : Int32)), (.int ((w2.toUInt32 >>> ((2 : Int32) &&& 31).toUInt32).toInt32))]))
  refine own_step (fun _ k => XS.iand X0.here hx rfl (hb hby at_19) rfl k) ?_
  show own_Fin p.tables e below _ (s₁.setTop (mkF m 20 #[.val (.int w0), .val (.int w1), .val (.int w2), .val (.int w3), .val (.int w4), .val (.int w5), .val (.int ca), .val (.int cb), .val (.int cc), .unset, .unset, .unset, .unset, .unset, .unset, .unset, .unset, .unset, .unset, .unset] [(.int (((w2.toUInt32 >>> ((2 : Int32) &&& 31).toUInt32).toInt32) &&& (3 : Int32)))]))
  refine own_step (fun _ k => XS.istore X0.here hx rfl (hb hby at_20) rfl (l' := #[.val (.int w0), .val (.int w1), .val (.int w2), .val (.int w3), .val (.int w4), .val (.int w5), .val (.int ca), .val (.int cb), .val (.int cc), .val (.int (((w2.toUInt32 >>> ((2 : Int32) &&& 31).toUInt32).toInt32) &&& (3 : Int32))), .unset, .unset, .unset, .unset, .unset, .unset, .unset, .unset, .unset, .unset]) rfl k) ?_
  show own_Fin p.tables e below _ (s₁.setTop (mkF m 22 #[.val (.int w0), .val (.int w1), .val (.int w2), .val (.int w3), .val (.int w4), .val (.int w5), .val (.int ca), .val (.int cb), .val (.int cc), .val (.int (((w2.toUInt32 >>> ((2 : Int32) &&& 31).toUInt32).toInt32) &&& (3 : Int32))), .unset, .unset, .unset, .unset, .unset, .unset, .unset, .unset, .unset, .unset] []))
  obtain ⟨cd, hcd⟩ : ∃ z, z = (((w2.toUInt32 >>> ((2 : Int32) &&& 31).toUInt32).toInt32) &&& (3 : Int32)) := ⟨_, rfl⟩
  rw [← hcd]
  show own_Fin p.tables e below _ (s₁.setTop (mkF m 22 #[.val (.int w0), .val (.int w1), .val (.int w2), .val (.int w3), .val (.int w4), .val (.int w5), .val (.int ca), .val (.int cb), .val (.int cc), .val (.int cd), .unset, .unset, .unset, .unset, .unset, .unset, .unset, .unset, .unset, .unset] []))
  obtain ⟨hcd0, hcd4⟩ := own_3 hcd
  refine own_step (fun _ k => XS.iloadN X0.here hx rfl (hb hby at_22) rfl k) ?_
  show own_Fin p.tables e below _ (s₁.setTop (mkF m 23 #[.val (.int w0), .val (.int w1), .val (.int w2), .val (.int w3), .val (.int w4), .val (.int w5), .val (.int ca), .val (.int cb), .val (.int cc), .val (.int cd), .unset, .unset, .unset, .unset, .unset, .unset, .unset, .unset, .unset, .unset] [(.int w3)]))
  refine own_step (fun _ k => own_i2d X0.here hx rfl (hb hby at_23) rfl k) ?_
  show own_Fin p.tables e below _ (s₁.setTop (mkF m 24 #[.val (.int w0), .val (.int w1), .val (.int w2), .val (.int w3), .val (.int w4), .val (.int w5), .val (.int ca), .val (.int cb), .val (.int cc), .val (.int cd), .unset, .unset, .unset, .unset, .unset, .unset, .unset, .unset, .unset, .unset] [(.double (Jvm.FP.i2d w3))]))
  refine own_step (fun _ k => own_dstore X0.here hx rfl (hb hby at_24) rfl (l' := #[.val (.int w0), .val (.int w1), .val (.int w2), .val (.int w3), .val (.int w4), .val (.int w5), .val (.int ca), .val (.int cb), .val (.int cc), .val (.int cd), .val (.double (Jvm.FP.i2d w3)), .second, .unset, .unset, .unset, .unset, .unset, .unset, .unset, .unset]) rfl k) ?_
  show own_Fin p.tables e below _ (s₁.setTop (mkF m 26 #[.val (.int w0), .val (.int w1), .val (.int w2), .val (.int w3), .val (.int w4), .val (.int w5), .val (.int ca), .val (.int cb), .val (.int cc), .val (.int cd), .val (.double (Jvm.FP.i2d w3)), .second, .unset, .unset, .unset, .unset, .unset, .unset, .unset, .unset] []))
  refine own_step (fun _ k => XS.iload X0.here hx rfl (hb hby at_26) rfl k) ?_
  show own_Fin p.tables e below _ (s₁.setTop (mkF m 28 #[.val (.int w0), .val (.int w1), .val (.int w2), .val (.int w3), .val (.int w4), .val (.int w5), .val (.int ca), .val (.int cb), .val (.int cc), .val (.int cd), .val (.double (Jvm.FP.i2d w3)), .second, .unset, .unset, .unset, .unset, .unset, .unset, .unset, .unset] [(.int w4)]))
  refine own_step (fun _ k => own_i2d X0.here hx rfl (hb hby at_28) rfl k) ?_
  show own_Fin p.tables e below _ (s₁.setTop (mkF m 29 #[.val (.int w0), .val (.int w1), .val (.int w2), .val (.int w3), .val (.int w4), .val (.int w5), .val (.int ca), .val (.int cb), .val (.int cc), .val (.int cd), .val (.double (Jvm.FP.i2d w3)), .second, .unset, .unset, .unset, .unset, .unset, .unset, .unset, .unset] [(.double (Jvm.FP.i2d w4))]))
  refine own_step (fun _ k => own_dstore X0.here hx rfl (hb hby at_29) rfl (l' := #[.val (.int w0), .val (.int w1), .val (.int w2), .val (.int w3), .val (.int w4), .val (.int w5), .val (.int ca), .val (.int cb), .val (.int cc), .val (.int cd), .val (.double (Jvm.FP.i2d w3)), .second, .val (.double (Jvm.FP.i2d w4)), .second, .unset, .unset, .unset, .unset, .unset, .unset]) rfl k) ?_
  show own_Fin p.tables e below _ (s₁.setTop (mkF m 31 #[.val (.int w0), .val (.int w1), .val (.int w2), .val (.int w3), .val (.int w4), .val (.int w5), .val (.int ca), .val (.int cb), .val (.int cc), .val (.int cd), .val (.double (Jvm.FP.i2d w3)), .second, .val (.double (Jvm.FP.i2d w4)), .second, .unset, .unset, .unset, .unset, .unset, .unset] []))
  refine own_step (fun _ k => XS.iload X0.here hx rfl (hb hby at_31) rfl k) ?_
  show own_Fin p.tables e below _ (s₁.setTop (mkF m 33 #[.val (.int w0), .val (.int w1), .val (.int w2), .val (.int w3), .val (.int w4), .val (.int w5), .val (.int ca), .val (.int cb), .val (.int cc), .val (.int cd), .val (.double (Jvm.FP.i2d w3)), .second, .val (.double (Jvm.FP.i2d w4)), .second, .unset, .unset, .unset, .unset, .unset, .unset] [(.int w5)]))
  refine own_step (fun _ k => own_i2d X0.here hx rfl (hb hby at_33) rfl k) ?_
  show own_Fin p.tables e below _ (s₁.setTop (mkF m 34 #[.val (.int w0), .val (.int w1), .val (.int w2), .val (.int w3), .val (.int w4), .val (.int w5), .val (.int ca), .val (.int cb), .val (.int cc), .val (.int cd), .val (.double (Jvm.FP.i2d w3)), .second, .val (.double (Jvm.FP.i2d w4)), .second, .unset, .unset, .unset, .unset, .unset, .unset] [(.double (Jvm.FP.i2d w5))]))
  refine own_step (fun _ k => own_dstore X0.here hx rfl (hb hby at_34) rfl (l' := #[.val (.int w0), .val (.int w1), .val (.int w2), .val (.int w3), .val (.int w4), .val (.int w5), .val (.int ca), .val (.int cb), .val (.int cc), .val (.int cd), .val (.double (Jvm.FP.i2d w3)), .second, .val (.double (Jvm.FP.i2d w4)), .second, .val (.double (Jvm.FP.i2d w5)), .second, .unset, .unset, .unset, .unset]) rfl k) ?_
  show own_Fin p.tables e below _ (s₁.setTop (mkF m 36 #[.val (.int w0), .val (.int w1), .val (.int w2), .val (.int w3), .val (.int w4), .val (.int w5), .val (.int ca), .val (.int cb), .val (.int cc), .val (.int cd), .val (.double (Jvm.FP.i2d w3)), .second, .val (.double (Jvm.FP.i2d w4)), .second, .val (.double (Jvm.FP.i2d w5)), .second, .unset, .unset, .unset, .unset] []))
  obtain ⟨T1, h1, X1, e1, E1, A1, D1, -, st1⟩ := newO X0 hx hZ hown (hw _ (List.mem_of_getElem? (i := 0) rfl)) (hw _ (List.mem_of_getElem? (i := 1) rfl)) (hw _ (List.mem_of_getElem? (i := 2) rfl)) e0 (g := (mkF m 36 #[.val (.int w0), .val (.int w1), .val (.int w2), .val (.int w3), .val (.int w4), .val (.int w5), .val (.int ca), .val (.int cb), .val (.int cc), .val (.int cd), .val (.double (Jvm.FP.i2d w3)), .second, .val (.double (Jvm.FP.i2d w4)), .second, .val (.double (Jvm.FP.i2d w5)), .second, .unset, .unset, .unset, .unset] [])) rfl (hb hby at_36) (by decide) (by decide)
  obtain ⟨b1, g1⟩ : ∃ z, z = h0.size := ⟨_, rfl⟩
  rw [← g1] at A1 D1 st1
  refine own_step st1 ?_
  have g_b1 : n0 ≤ b1 := Nat.le_trans Z0 (Nat.le_of_eq g1.symm)
  have f2 := Nat.le_trans Z0 E1.1
  have f3 : Fld Z h1 b1 "com/example/fusewright/fusewright/runtime/MatrixProduct$Sums" "values" "[D" .null := D1 (Or.inr (hw _ (List.mem_of_getElem? (i := 11) rfl))) (ty := (.array .double)) (by decide)
  have f4 : Fld Z h1 b1 "com/example/fusewright/fusewright/runtime/MatrixProduct$Sums" "reached" "[Z" .null := D1 (Or.inr (hw _ (List.mem_of_getElem? (i := 14) rfl))) (ty := (.array .boolean)) (by decide)
  have f5 : Fld Z h1 b1 "com/example/fusewright/fusewright/runtime/MatrixProduct$Sums" "columns" "[I" .null := D1 (Or.inr (hw _ (List.mem_of_getElem? (i := 17) rfl))) (ty := (.array .int)) (by decide)
  have f6 : Fld Z h1 b1 "com/example/fusewright/fusewright/runtime/MatrixProduct$Sums" "count" "I" (.int (0 : Int32)) := D1 (Or.inl (hw _ (List.mem_of_getElem? (i := 24) rfl))) (ty := .int) (by decide)
  show own_Fin p.tables e below _ (T1.setTop (mkF m 39 #[.val (.int w0), .val (.int w1), .val (.int w2), .val (.int w3), .val (.int w4), .val (.int w5), .val (.int ca), .val (.int cb), .val (.int cc), .val (.int cd), .val (.double (Jvm.FP.i2d w3)), .second, .val (.double (Jvm.FP.i2d w4)), .second, .val (.double (Jvm.FP.i2d w5)), .second, .unset, .unset, .unset, .unset] [(.ref b1)]))
  refine own_step (fun _ k => XS.dup X1.here hx rfl (hb hby at_39) rfl rfl k) ?_
  show own_Fin p.tables e below _ (T1.setTop (mkF m 40 #[.val (.int w0), .val (.int w1), .val (.int w2), .val (.int w3), .val (.int w4), .val (.int w5), .val (.int ca), .val (.int cb), .val (.int cc), .val (.int cd), .val (.double (Jvm.FP.i2d w3)), .second, .val (.double (Jvm.FP.i2d w4)), .second, .val (.double (Jvm.FP.i2d w5)), .second, .unset, .unset, .unset, .unset] [(.ref b1), (.ref b1)]))
  refine own_step (fun _ k => XS.iconst X1.here hx rfl (hb hby at_40) k) ?_
  show own_Fin p.tables e below _ (T1.setTop (mkF m 41 #[.val (.int w0), .val (.int w1), .val (.int w2), .val (.int w3), .val (.int w4), .val (.int w5), .val (.int ca), .val (.int cb), .val (.int cc), .val (.int cd), .val (.double (Jvm.FP.i2d w3)), .second, .val (.double (Jvm.FP.i2d w4)), .second, .val (.double (Jvm.FP.i2d w5)), .second, .unset, .unset, .unset, .unset] [(.int (4 : Int32)), (.ref b1), (.ref b1)]))
  obtain ⟨_, _, ⟨T7, L7, k7, n7⟩, -, X7, ⟨Lc7, hQ7, l7, y7, z7⟩, st7⟩ := X1.specialBack hx (y := (⟨"com/example/fusewright/fusewright/runtime/MatrixProduct$Sums", "<init>", "(I)V"⟩ : MethodName)) rfl hown (mvT hZ (hw _ (List.mem_of_getElem? (i := 3) rfl))) (mvT hZ (hw _ (List.mem_of_getElem? (i := 4) rfl))) (mvT hZ (hw _ (List.mem_of_getElem? (i := 5) rfl))) (by decide) (backOf (W := 1) (rm1 l Z a0 hw [] b1 (4 : Int32) _ _ _ h1 n0 f2 f3 f4 f5 f6 A1 g_b1 rfl) hZ (hw _ (List.mem_of_getElem? (i := 5) rfl)) (hw _ (List.mem_of_getElem? (i := 2) rfl)) (by decide) (by decide)) (g := (mkF m 41 #[.val (.int w0), .val (.int w1), .val (.int w2), .val (.int w3), .val (.int w4), .val (.int w5), .val (.int ca), .val (.int cb), .val (.int cc), .val (.int cd), .val (.double (Jvm.FP.i2d w3)), .second, .val (.double (Jvm.FP.i2d w4)), .second, .val (.double (Jvm.FP.i2d w5)), .second, .unset, .unset, .unset, .unset] [(.int (4 : Int32)), (.ref b1), (.ref b1)])) rfl (by rw [hml]; rfl) (Steps.refl _) (a := b1) (argsL := [(.int (4 : Int32))]) (rest := [(.ref b1)]) (lenOf pd_1 rfl) rfl (by show 2 * 0 + _ ≤ _; exact Nat.le_of_eq rfl) (hb hby at_41) (fun _ _ => ⟨rfl, e1, (by decide : 1 + 3 ≤ _), (by decide : 4 + 12 ≤ _)⟩)
  dsimp only [Pt.U, Pt.locs, Pt.cells, Pt.slots] at X7 l7 y7 z7 st7 hQ7
  subst l7 y7 z7
  obtain ⟨rfl, N7q, K7, tv, tr, tc, ⟨g_tv, g_tr, g_tc⟩, ⟨z0, z1, z2⟩, ⟨nz0, nz1, nz2, nz3, nz4, nz5⟩, z7E, z7F0, z7F1, z7F2, z7N, Vz, Rz, Kz, z7A0, z7A1, z7A2, hIz⟩ := hQ7
  have N7 := Fr.app N0 N7q
  refine own_steps st7 ?_
  have f8 := Nat.le_trans f2 K7.1
  have f9 := A1.keep K7
  have hBz : ∀ c : Nat, -(0 : Int) ≤ (fun _ : Nat => (0 : Int)) c ∧ (fun _ : Nat => (0 : Int)) c ≤ 0 := fun c => ⟨by show -(0 : Int) ≤ 0; decide, Int.le_refl _⟩
  show own_Fin p.tables e below _ (T7.setTop (mkF m 44 #[.val (.int w0), .val (.int w1), .val (.int w2), .val (.int w3), .val (.int w4), .val (.int w5), .val (.int ca), .val (.int cb), .val (.int cc), .val (.int cd), .val (.double (Jvm.FP.i2d w3)), .second, .val (.double (Jvm.FP.i2d w4)), .second, .val (.double (Jvm.FP.i2d w5)), .second, .unset, .unset, .unset, .unset] [(.ref b1)]))
  refine own_step (fun _ k => XS.astore X7.here hx rfl (hb hby at_44) rfl rfl (l' := #[.val (.int w0), .val (.int w1), .val (.int w2), .val (.int w3), .val (.int w4), .val (.int w5), .val (.int ca), .val (.int cb), .val (.int cc), .val (.int cd), .val (.double (Jvm.FP.i2d w3)), .second, .val (.double (Jvm.FP.i2d w4)), .second, .val (.double (Jvm.FP.i2d w5)), .second, .val (.ref b1), .unset, .unset, .unset]) rfl k) ?_
  show own_Fin p.tables e below _ (T7.setTop (mkF m 46 #[.val (.int w0), .val (.int w1), .val (.int w2), .val (.int w3), .val (.int w4), .val (.int w5), .val (.int ca), .val (.int cb), .val (.int cc), .val (.int cd), .val (.double (Jvm.FP.i2d w3)), .second, .val (.double (Jvm.FP.i2d w4)), .second, .val (.double (Jvm.FP.i2d w5)), .second, .val (.ref b1), .unset, .unset, .unset] []))
  refine own_step (fun _ k => XS.bipush X7.here hx rfl (hb hby at_46) k) ?_
  show own_Fin p.tables e below _ (T7.setTop (mkF m 48 #[.val (.int w0), .val (.int w1), .val (.int w2), .val (.int w3), .val (.int w4), .val (.int w5), .val (.int ca), .val (.int cb), .val (.int cc), .val (.int cd), .val (.double (Jvm.FP.i2d w3)), .second, .val (.double (Jvm.FP.i2d w4)), .second, .val (.double (Jvm.FP.i2d w5)), .second, .val (.ref b1), .unset, .unset, .unset] [(.int (6 : Int32))]))
  obtain ⟨T14, h14, k14, X14, e14, E14, A14, st14⟩ := newP X7 hx hZ (hw _ (List.mem_of_getElem? (i := 9) rfl)) rfl (g := (mkF m 48 #[.val (.int w0), .val (.int w1), .val (.int w2), .val (.int w3), .val (.int w4), .val (.int w5), .val (.int ca), .val (.int cb), .val (.int cc), .val (.int cd), .val (.double (Jvm.FP.i2d w3)), .second, .val (.double (Jvm.FP.i2d w4)), .second, .val (.double (Jvm.FP.i2d w5)), .second, .val (.ref b1), .unset, .unset, .unset] [(.int (6 : Int32))])) rfl (hb hby at_48) rfl (by decide) (cap := 6) (by decide) (by decide) (by decide) (by decide)
  obtain ⟨b14, g14⟩ : ∃ z, z = T7.heap.size := ⟨_, rfl⟩
  rw [← g14] at A14 st14
  refine own_step st14 ?_
  have g_b14 : n0 ≤ b14 := Nat.le_trans f8 (Nat.le_of_eq g14.symm)
  have ne_b1_b14 : b1 ≠ b14 := Nat.ne_of_lt (Nat.lt_of_lt_of_le z7E.lt (Nat.le_of_eq g14.symm))
  have ne_tc_b14 : tc ≠ b14 := Nat.ne_of_lt (Nat.lt_of_lt_of_le z7A2.lt (Nat.le_of_eq g14.symm))
  have ne_tr_b14 : tr ≠ b14 := Nat.ne_of_lt (Nat.lt_of_lt_of_le z7A1.lt (Nat.le_of_eq g14.symm))
  have ne_tv_b14 : tv ≠ b14 := Nat.ne_of_lt (Nat.lt_of_lt_of_le z7A0.lt (Nat.le_of_eq g14.symm))
  have f15 := Nat.le_trans f8 E14.1
  have f16 := z7E.ext E14
  have f17 := z7F0.ext E14
  have f18 := z7F1.ext E14
  have f19 := z7F2.ext E14
  have f20 := z7N.ext E14
  have f21 := z7A0.ext E14
  have f22 := z7A1.ext E14
  have f23 := z7A2.ext E14
  have f24 : Arv Z h14 b14 k14 .double (6 : Int32) [] (.double 0) := Arv.new A14 (by decide)
  show own_Fin p.tables e below _ (T14.setTop (mkF m 50 #[.val (.int w0), .val (.int w1), .val (.int w2), .val (.int w3), .val (.int w4), .val (.int w5), .val (.int ca), .val (.int cb), .val (.int cc), .val (.int cd), .val (.double (Jvm.FP.i2d w3)), .second, .val (.double (Jvm.FP.i2d w4)), .second, .val (.double (Jvm.FP.i2d w5)), .second, .val (.ref b1), .unset, .unset, .unset] [(.ref b14)]))
  refine own_step (fun _ k => XS.astore X14.here hx rfl (hb hby at_50) rfl rfl (l' := #[.val (.int w0), .val (.int w1), .val (.int w2), .val (.int w3), .val (.int w4), .val (.int w5), .val (.int ca), .val (.int cb), .val (.int cc), .val (.int cd), .val (.double (Jvm.FP.i2d w3)), .second, .val (.double (Jvm.FP.i2d w4)), .second, .val (.double (Jvm.FP.i2d w5)), .second, .val (.ref b1), .val (.ref b14), .unset, .unset]) rfl k) ?_
  show own_Fin p.tables e below _ (T14.setTop (mkF m 52 #[.val (.int w0), .val (.int w1), .val (.int w2), .val (.int w3), .val (.int w4), .val (.int w5), .val (.int ca), .val (.int cb), .val (.int cc), .val (.int cd), .val (.double (Jvm.FP.i2d w3)), .second, .val (.double (Jvm.FP.i2d w4)), .second, .val (.double (Jvm.FP.i2d w5)), .second, .val (.ref b1), .val (.ref b14), .unset, .unset] []))
  obtain ⟨gO, hgO⟩ : ∃ z : Nat → UInt64, z = fun _ => 0 := ⟨_, rfl⟩
  have fO : own_Arf Z h14 b14 .double 6 (fun i => .double (gO i)) := by rw [hgO]; exact own_Arf.ofD f24 rfl
  refine own_step (fun _ k => XS.iconst X14.here hx rfl (hb hby at_52) k) ?_
  show own_Fin p.tables e below _ (T14.setTop (mkF m 53 #[.val (.int w0), .val (.int w1), .val (.int w2), .val (.int w3), .val (.int w4), .val (.int w5), .val (.int ca), .val (.int cb), .val (.int cc), .val (.int cd), .val (.double (Jvm.FP.i2d w3)), .second, .val (.double (Jvm.FP.i2d w4)), .second, .val (.double (Jvm.FP.i2d w5)), .second, .val (.ref b1), .val (.ref b14), .unset, .unset] [(.int (4 : Int32))]))
  obtain ⟨T25, h25, k25, X25, e25, E25, A25, st25⟩ := newP X14 hx hZ (hw _ (List.mem_of_getElem? (i := 9) rfl)) e14 (g := (mkF m 53 #[.val (.int w0), .val (.int w1), .val (.int w2), .val (.int w3), .val (.int w4), .val (.int w5), .val (.int ca), .val (.int cb), .val (.int cc), .val (.int cd), .val (.double (Jvm.FP.i2d w3)), .second, .val (.double (Jvm.FP.i2d w4)), .second, .val (.double (Jvm.FP.i2d w5)), .second, .val (.ref b1), .val (.ref b14), .unset, .unset] [(.int (4 : Int32))])) rfl (hb hby at_53) rfl (by decide) (cap := 4) (by decide) (by decide) (by decide) (by decide)
  obtain ⟨b25, g25⟩ : ∃ z, z = h14.size := ⟨_, rfl⟩
  rw [← g25] at A25 st25
  refine own_step st25 ?_
  have g_b25 : n0 ≤ b25 := Nat.le_trans f15 (Nat.le_of_eq g25.symm)
  have ne_b1_b25 : b1 ≠ b25 := Nat.ne_of_lt (Nat.lt_of_lt_of_le f16.lt (Nat.le_of_eq g25.symm))
  have ne_b14_b25 : b14 ≠ b25 := Nat.ne_of_lt (Nat.lt_of_lt_of_le fO.lt (Nat.le_of_eq g25.symm))
  have ne_tc_b25 : tc ≠ b25 := Nat.ne_of_lt (Nat.lt_of_lt_of_le f23.lt (Nat.le_of_eq g25.symm))
  have ne_tr_b25 : tr ≠ b25 := Nat.ne_of_lt (Nat.lt_of_lt_of_le f22.lt (Nat.le_of_eq g25.symm))
  have ne_tv_b25 : tv ≠ b25 := Nat.ne_of_lt (Nat.lt_of_lt_of_le f21.lt (Nat.le_of_eq g25.symm))
  have f26 := Nat.le_trans f15 E25.1
  have f27 := f16.ext E25
  have f28 := f17.ext E25
  have f29 := f18.ext E25
  have f30 := f19.ext E25
  have f31 := f20.ext E25
  have f32 := f21.ext E25
  have f33 := f22.ext E25
  have f34 := f23.ext E25
  have f35 := fO.ext E25
  have f36 : Arv Z h25 b25 k25 .double (4 : Int32) [] (.double 0) := Arv.new A25 (by decide)
  show own_Fin p.tables e below _ (T25.setTop (mkF m 55 #[.val (.int w0), .val (.int w1), .val (.int w2), .val (.int w3), .val (.int w4), .val (.int w5), .val (.int ca), .val (.int cb), .val (.int cc), .val (.int cd), .val (.double (Jvm.FP.i2d w3)), .second, .val (.double (Jvm.FP.i2d w4)), .second, .val (.double (Jvm.FP.i2d w5)), .second, .val (.ref b1), .val (.ref b14), .unset, .unset] [(.ref b25)]))
  refine own_step (fun _ k => XS.astore X25.here hx rfl (hb hby at_55) rfl rfl (l' := #[.val (.int w0), .val (.int w1), .val (.int w2), .val (.int w3), .val (.int w4), .val (.int w5), .val (.int ca), .val (.int cb), .val (.int cc), .val (.int cd), .val (.double (Jvm.FP.i2d w3)), .second, .val (.double (Jvm.FP.i2d w4)), .second, .val (.double (Jvm.FP.i2d w5)), .second, .val (.ref b1), .val (.ref b14), .val (.ref b25), .unset]) rfl k) ?_
  show own_Fin p.tables e below _ (T25.setTop (mkF m 57 #[.val (.int w0), .val (.int w1), .val (.int w2), .val (.int w3), .val (.int w4), .val (.int w5), .val (.int ca), .val (.int cb), .val (.int cc), .val (.int cd), .val (.double (Jvm.FP.i2d w3)), .second, .val (.double (Jvm.FP.i2d w4)), .second, .val (.double (Jvm.FP.i2d w5)), .second, .val (.ref b1), .val (.ref b14), .val (.ref b25), .unset] []))
  obtain ⟨gP, hgP⟩ : ∃ z : Nat → UInt64, z = fun _ => 0 := ⟨_, rfl⟩
  have fP : own_Arf Z h25 b25 .double 4 (fun i => .double (gP i)) := by rw [hgP]; exact own_Arf.ofD f36 rfl
  refine own_step (fun _ k => XS.aload X25.here hx rfl (hb hby at_57) rfl rfl k) ?_
  show own_Fin p.tables e below _ (T25.setTop (mkF m 59 #[.val (.int w0), .val (.int w1), .val (.int w2), .val (.int w3), .val (.int w4), .val (.int w5), .val (.int ca), .val (.int cb), .val (.int cc), .val (.int cd), .val (.double (Jvm.FP.i2d w3)), .second, .val (.double (Jvm.FP.i2d w4)), .second, .val (.double (Jvm.FP.i2d w5)), .second, .val (.ref b1), .val (.ref b14), .val (.ref b25), .unset] [(.ref b1)]))
  refine own_step (fun _ k => XS.iload X25.here hx rfl (hb hby at_59) rfl k) ?_
  show own_Fin p.tables e below _ (T25.setTop (mkF m 61 #[.val (.int w0), .val (.int w1), .val (.int w2), .val (.int w3), .val (.int w4), .val (.int w5), .val (.int ca), .val (.int cb), .val (.int cc), .val (.int cd), .val (.double (Jvm.FP.i2d w3)), .second, .val (.double (Jvm.FP.i2d w4)), .second, .val (.double (Jvm.FP.i2d w5)), .second, .val (.ref b1), .val (.ref b14), .val (.ref b25), .unset] [(.int ca), (.ref b1)]))
  refine own_step (fun _ k => own_dload X25.here hx rfl (hb hby at_61) rfl k) ?_
  show own_Fin p.tables e below _ (T25.setTop (mkF m 63 #[.val (.int w0), .val (.int w1), .val (.int w2), .val (.int w3), .val (.int w4), .val (.int w5), .val (.int ca), .val (.int cb), .val (.int cc), .val (.int cd), .val (.double (Jvm.FP.i2d w3)), .second, .val (.double (Jvm.FP.i2d w4)), .second, .val (.double (Jvm.FP.i2d w5)), .second, .val (.ref b1), .val (.ref b14), .val (.ref b25), .unset] [(.double (Jvm.FP.i2d w3)), (.int ca), (.ref b1)]))
  obtain ⟨cq37, kq37, q37a, q37b, q37c⟩ := isOf hZ e25 f27
  obtain ⟨_, _, ⟨T37, L37, k37, n37⟩, -, X37, ⟨Lc37, hQ37, l37, y37, z37⟩, st37⟩ := X25.virtualBack hx (y := (⟨"com/example/fusewright/fusewright/runtime/MatrixProduct$Sums", "add", "(ID)V"⟩ : MethodName)) (z := (⟨"com/example/fusewright/fusewright/runtime/MatrixProduct$Sums", "add", "(ID)V"⟩ : MethodName)) hown (mvT hZ (hw _ (List.mem_of_getElem? (i := 18) rfl))) (mvT hZ (hw _ (List.mem_of_getElem? (i := 19) rfl))) (notFace_of_selects (args := #[]) (mvT hZ (hw _ (List.mem_of_getElem? (i := 21) rfl)))) (mvT hZ (hw _ (List.mem_of_getElem? (i := 21) rfl))) (mvT hZ (hw _ (List.mem_of_getElem? (i := 20) rfl))) (by decide) (backOf (W := 0) (rm3 l Z a0 hw [] b1 ca (Jvm.FP.i2d w3) tv tr tc (0 : Int32) Vz Rz Kz (fun _ => (0 : Int)) w3.toInt h25 n0 f26 f27 f28 f29 f30 f31 f32 f33 f34 nz0 nz1 nz2 nz3 nz4 nz5 g_b1 g_tv g_tr g_tc hca0 hca4 (own_isd.i2d w3) hIz (by have := hBz (ca).toNatClampNeg; have := rng32 w3; omega)) hZ (hw _ (List.mem_of_getElem? (i := 22) rfl)) (hw _ (List.mem_of_getElem? (i := 2) rfl)) (by decide) (by decide)) q37a q37c (g := (mkF m 63 #[.val (.int w0), .val (.int w1), .val (.int w2), .val (.int w3), .val (.int w4), .val (.int w5), .val (.int ca), .val (.int cb), .val (.int cc), .val (.int cd), .val (.double (Jvm.FP.i2d w3)), .second, .val (.double (Jvm.FP.i2d w4)), .second, .val (.double (Jvm.FP.i2d w5)), .second, .val (.ref b1), .val (.ref b14), .val (.ref b25), .unset] [(.double (Jvm.FP.i2d w3)), (.int ca), (.ref b1)])) rfl (by rw [hml]; rfl) (Steps.refl _) (argsL := [(.int ca), (.double (Jvm.FP.i2d w3))]) (rest := []) (lenOf pd_2 rfl) rfl (by show 2 * 0 + _ ≤ _; exact Nat.le_of_eq rfl) (hb hby at_63) (fun _ _ => ⟨rfl, e25, (by decide : 6 + 0 ≤ _), (by decide : 26 + 0 ≤ _)⟩)
  dsimp only [Pt.U, Pt.locs, Pt.cells, Pt.slots] at X37 l37 y37 z37 st37 hQ37
  subst l37 y37 z37
  obtain ⟨rfl, N37q, K37, z37E, z37F0, z37F1, z37F2, n1, V1, R1, K1, z37N, z37A0, z37A1, z37A2, hI1⟩ := hQ37
  have N37 := Fr.app N7 N37q
  refine own_steps st37 ?_
  have f38 := Nat.le_trans f26 K37.1
  have f39 := f27.keep K37
  have f47 := f35.keep K37 (ninS (Ne.symm ne_b1_b14) (ninS (Ne.symm ne_tv_b14) (ninS (Ne.symm ne_tr_b14) (ninS (Ne.symm ne_tc_b14) nin0))))
  have f48 := fP.keep K37 (ninS (Ne.symm ne_b1_b25) (ninS (Ne.symm ne_tv_b25) (ninS (Ne.symm ne_tr_b25) (ninS (Ne.symm ne_tc_b25) nin0))))
  obtain ⟨S1, hS1⟩ : ∃ z : Nat → Int, z = own_upd (fun _ => (0 : Int)) (ca).toNatClampNeg ((fun _ => (0 : Int)) (ca).toNatClampNeg + w3.toInt) := ⟨_, rfl⟩
  rw [← hS1] at hI1
  have hB1 := own_Sb (k := (ca).toNatClampNeg) hBz (t := w3.toInt) (by have := rng32 w3; omega) (by decide)
  rw [← hS1] at hB1
  show own_Fin p.tables e below _ (T37.setTop (mkF m 66 #[.val (.int w0), .val (.int w1), .val (.int w2), .val (.int w3), .val (.int w4), .val (.int w5), .val (.int ca), .val (.int cb), .val (.int cc), .val (.int cd), .val (.double (Jvm.FP.i2d w3)), .second, .val (.double (Jvm.FP.i2d w4)), .second, .val (.double (Jvm.FP.i2d w5)), .second, .val (.ref b1), .val (.ref b14), .val (.ref b25), .unset] []))
  refine own_step (fun _ k => XS.aload X37.here hx rfl (hb hby at_66) rfl rfl k) ?_
  show own_Fin p.tables e below _ (T37.setTop (mkF m 68 #[.val (.int w0), .val (.int w1), .val (.int w2), .val (.int w3), .val (.int w4), .val (.int w5), .val (.int ca), .val (.int cb), .val (.int cc), .val (.int cd), .val (.double (Jvm.FP.i2d w3)), .second, .val (.double (Jvm.FP.i2d w4)), .second, .val (.double (Jvm.FP.i2d w5)), .second, .val (.ref b1), .val (.ref b14), .val (.ref b25), .unset] [(.ref b1)]))
  refine own_step (fun _ k => XS.iload X37.here hx rfl (hb hby at_68) rfl k) ?_
  show own_Fin p.tables e below _ (T37.setTop (mkF m 70 #[.val (.int w0), .val (.int w1), .val (.int w2), .val (.int w3), .val (.int w4), .val (.int w5), .val (.int ca), .val (.int cb), .val (.int cc), .val (.int cd), .val (.double (Jvm.FP.i2d w3)), .second, .val (.double (Jvm.FP.i2d w4)), .second, .val (.double (Jvm.FP.i2d w5)), .second, .val (.ref b1), .val (.ref b14), .val (.ref b25), .unset] [(.int cb), (.ref b1)]))
  refine own_step (fun _ k => own_dload X37.here hx rfl (hb hby at_70) rfl k) ?_
  show own_Fin p.tables e below _ (T37.setTop (mkF m 72 #[.val (.int w0), .val (.int w1), .val (.int w2), .val (.int w3), .val (.int w4), .val (.int w5), .val (.int ca), .val (.int cb), .val (.int cc), .val (.int cd), .val (.double (Jvm.FP.i2d w3)), .second, .val (.double (Jvm.FP.i2d w4)), .second, .val (.double (Jvm.FP.i2d w5)), .second, .val (.ref b1), .val (.ref b14), .val (.ref b25), .unset] [(.double (Jvm.FP.i2d w4)), (.int cb), (.ref b1)]))
  obtain ⟨cq49, kq49, q49a, q49b, q49c⟩ := isOf hZ rfl z37E
  obtain ⟨_, _, ⟨T49, L49, k49, n49⟩, -, X49, ⟨Lc49, hQ49, l49, y49, z49⟩, st49⟩ := X37.virtualBack hx (y := (⟨"com/example/fusewright/fusewright/runtime/MatrixProduct$Sums", "add", "(ID)V"⟩ : MethodName)) (z := (⟨"com/example/fusewright/fusewright/runtime/MatrixProduct$Sums", "add", "(ID)V"⟩ : MethodName)) hown (mvT hZ (hw _ (List.mem_of_getElem? (i := 18) rfl))) (mvT hZ (hw _ (List.mem_of_getElem? (i := 19) rfl))) (notFace_of_selects (args := #[]) (mvT hZ (hw _ (List.mem_of_getElem? (i := 21) rfl)))) (mvT hZ (hw _ (List.mem_of_getElem? (i := 21) rfl))) (mvT hZ (hw _ (List.mem_of_getElem? (i := 20) rfl))) (by decide) (backOf (W := 0) (rm3 l Z a0 hw [] b1 cb (Jvm.FP.i2d w4) tv tr tc n1 V1 R1 K1 S1 w4.toInt T37.heap n0 f38 z37E z37F0 z37F1 z37F2 z37N z37A0 z37A1 z37A2 nz0 nz1 nz2 nz3 nz4 nz5 g_b1 g_tv g_tr g_tc hcb0 hcb4 (own_isd.i2d w4) hI1 (by have := hB1 (cb).toNatClampNeg; have := rng32 w4; omega)) hZ (hw _ (List.mem_of_getElem? (i := 22) rfl)) (hw _ (List.mem_of_getElem? (i := 2) rfl)) (by decide) (by decide)) q49a q49c (g := (mkF m 72 #[.val (.int w0), .val (.int w1), .val (.int w2), .val (.int w3), .val (.int w4), .val (.int w5), .val (.int ca), .val (.int cb), .val (.int cc), .val (.int cd), .val (.double (Jvm.FP.i2d w3)), .second, .val (.double (Jvm.FP.i2d w4)), .second, .val (.double (Jvm.FP.i2d w5)), .second, .val (.ref b1), .val (.ref b14), .val (.ref b25), .unset] [(.double (Jvm.FP.i2d w4)), (.int cb), (.ref b1)])) rfl (by rw [hml]; rfl) (Steps.refl _) (argsL := [(.int cb), (.double (Jvm.FP.i2d w4))]) (rest := []) (lenOf pd_2 rfl) rfl (by show 2 * 0 + _ ≤ _; exact Nat.le_of_eq rfl) (hb hby at_72) (fun _ _ => ⟨rfl, rfl, (by decide : 6 + 0 ≤ _), (by decide : 26 + 0 ≤ _)⟩)
  dsimp only [Pt.U, Pt.locs, Pt.cells, Pt.slots] at X49 l49 y49 z49 st49 hQ49
  subst l49 y49 z49
  obtain ⟨rfl, N49q, K49, z49E, z49F0, z49F1, z49F2, n2, V2, R2, K2, z49N, z49A0, z49A1, z49A2, hI2⟩ := hQ49
  have N49 := Fr.app N37 N49q
  refine own_steps st49 ?_
  have f50 := Nat.le_trans f38 K49.1
  have f51 := z37E.keep K49
  have f52 := f47.keep K49 (ninS (Ne.symm ne_b1_b14) (ninS (Ne.symm ne_tv_b14) (ninS (Ne.symm ne_tr_b14) (ninS (Ne.symm ne_tc_b14) nin0))))
  have f53 := f48.keep K49 (ninS (Ne.symm ne_b1_b25) (ninS (Ne.symm ne_tv_b25) (ninS (Ne.symm ne_tr_b25) (ninS (Ne.symm ne_tc_b25) nin0))))
  obtain ⟨S2, hS2⟩ : ∃ z : Nat → Int, z = own_upd S1 (cb).toNatClampNeg (S1 (cb).toNatClampNeg + w4.toInt) := ⟨_, rfl⟩
  rw [← hS2] at hI2
  have hB2 := own_Sb (k := (cb).toNatClampNeg) hB1 (t := w4.toInt) (by have := rng32 w4; omega) (by decide)
  rw [← hS2] at hB2
  show own_Fin p.tables e below _ (T49.setTop (mkF m 75 #[.val (.int w0), .val (.int w1), .val (.int w2), .val (.int w3), .val (.int w4), .val (.int w5), .val (.int ca), .val (.int cb), .val (.int cc), .val (.int cd), .val (.double (Jvm.FP.i2d w3)), .second, .val (.double (Jvm.FP.i2d w4)), .second, .val (.double (Jvm.FP.i2d w5)), .second, .val (.ref b1), .val (.ref b14), .val (.ref b25), .unset] []))
  refine own_step (fun _ k => XS.aload X49.here hx rfl (hb hby at_75) rfl rfl k) ?_
  show own_Fin p.tables e below _ (T49.setTop (mkF m 77 #[.val (.int w0), .val (.int w1), .val (.int w2), .val (.int w3), .val (.int w4), .val (.int w5), .val (.int ca), .val (.int cb), .val (.int cc), .val (.int cd), .val (.double (Jvm.FP.i2d w3)), .second, .val (.double (Jvm.FP.i2d w4)), .second, .val (.double (Jvm.FP.i2d w5)), .second, .val (.ref b1), .val (.ref b14), .val (.ref b25), .unset] [(.ref b1)]))
  refine own_step (fun _ k => XS.iload X49.here hx rfl (hb hby at_77) rfl k) ?_
  show own_Fin p.tables e below _ (T49.setTop (mkF m 79 #[.val (.int w0), .val (.int w1), .val (.int w2), .val (.int w3), .val (.int w4), .val (.int w5), .val (.int ca), .val (.int cb), .val (.int cc), .val (.int cd), .val (.double (Jvm.FP.i2d w3)), .second, .val (.double (Jvm.FP.i2d w4)), .second, .val (.double (Jvm.FP.i2d w5)), .second, .val (.ref b1), .val (.ref b14), .val (.ref b25), .unset] [(.int cc), (.ref b1)]))
  refine own_step (fun _ k => own_dload X49.here hx rfl (hb hby at_79) rfl k) ?_
  show own_Fin p.tables e below _ (T49.setTop (mkF m 81 #[.val (.int w0), .val (.int w1), .val (.int w2), .val (.int w3), .val (.int w4), .val (.int w5), .val (.int ca), .val (.int cb), .val (.int cc), .val (.int cd), .val (.double (Jvm.FP.i2d w3)), .second, .val (.double (Jvm.FP.i2d w4)), .second, .val (.double (Jvm.FP.i2d w5)), .second, .val (.ref b1), .val (.ref b14), .val (.ref b25), .unset] [(.double (Jvm.FP.i2d w5)), (.int cc), (.ref b1)]))
  obtain ⟨cq61, kq61, q61a, q61b, q61c⟩ := isOf hZ rfl z49E
  obtain ⟨_, _, ⟨T61, L61, k61, n61⟩, -, X61, ⟨Lc61, hQ61, l61, y61, z61⟩, st61⟩ := X49.virtualBack hx (y := (⟨"com/example/fusewright/fusewright/runtime/MatrixProduct$Sums", "add", "(ID)V"⟩ : MethodName)) (z := (⟨"com/example/fusewright/fusewright/runtime/MatrixProduct$Sums", "add", "(ID)V"⟩ : MethodName)) hown (mvT hZ (hw _ (List.mem_of_getElem? (i := 18) rfl))) (mvT hZ (hw _ (List.mem_of_getElem? (i := 19) rfl))) (notFace_of_selects (args := #[]) (mvT hZ (hw _ (List.mem_of_getElem? (i := 21) rfl)))) (mvT hZ (hw _ (List.mem_of_getElem? (i := 21) rfl))) (mvT hZ (hw _ (List.mem_of_getElem? (i := 20) rfl))) (by decide) (backOf (W := 0) (rm3 l Z a0 hw [] b1 cc (Jvm.FP.i2d w5) tv tr tc n2 V2 R2 K2 S2 w5.toInt T49.heap n0 f50 z49E z49F0 z49F1 z49F2 z49N z49A0 z49A1 z49A2 nz0 nz1 nz2 nz3 nz4 nz5 g_b1 g_tv g_tr g_tc hcc0 hcc4 (own_isd.i2d w5) hI2 (by have := hB2 (cc).toNatClampNeg; have := rng32 w5; omega)) hZ (hw _ (List.mem_of_getElem? (i := 22) rfl)) (hw _ (List.mem_of_getElem? (i := 2) rfl)) (by decide) (by decide)) q61a q61c (g := (mkF m 81 #[.val (.int w0), .val (.int w1), .val (.int w2), .val (.int w3), .val (.int w4), .val (.int w5), .val (.int ca), .val (.int cb), .val (.int cc), .val (.int cd), .val (.double (Jvm.FP.i2d w3)), .second, .val (.double (Jvm.FP.i2d w4)), .second, .val (.double (Jvm.FP.i2d w5)), .second, .val (.ref b1), .val (.ref b14), .val (.ref b25), .unset] [(.double (Jvm.FP.i2d w5)), (.int cc), (.ref b1)])) rfl (by rw [hml]; rfl) (Steps.refl _) (argsL := [(.int cc), (.double (Jvm.FP.i2d w5))]) (rest := []) (lenOf pd_2 rfl) rfl (by show 2 * 0 + _ ≤ _; exact Nat.le_of_eq rfl) (hb hby at_81) (fun _ _ => ⟨rfl, rfl, (by decide : 6 + 0 ≤ _), (by decide : 26 + 0 ≤ _)⟩)
  dsimp only [Pt.U, Pt.locs, Pt.cells, Pt.slots] at X61 l61 y61 z61 st61 hQ61
  subst l61 y61 z61
  obtain ⟨rfl, N61q, K61, z61E, z61F0, z61F1, z61F2, n3, V3, R3, K3, z61N, z61A0, z61A1, z61A2, hI3⟩ := hQ61
  have N61 := Fr.app N49 N61q
  refine own_steps st61 ?_
  have f62 := Nat.le_trans f50 K61.1
  have f63 := z49E.keep K61
  have f64 := f52.keep K61 (ninS (Ne.symm ne_b1_b14) (ninS (Ne.symm ne_tv_b14) (ninS (Ne.symm ne_tr_b14) (ninS (Ne.symm ne_tc_b14) nin0))))
  have f65 := f53.keep K61 (ninS (Ne.symm ne_b1_b25) (ninS (Ne.symm ne_tv_b25) (ninS (Ne.symm ne_tr_b25) (ninS (Ne.symm ne_tc_b25) nin0))))
  obtain ⟨S3, hS3⟩ : ∃ z : Nat → Int, z = own_upd S2 (cc).toNatClampNeg (S2 (cc).toNatClampNeg + w5.toInt) := ⟨_, rfl⟩
  rw [← hS3] at hI3
  have hB3 := own_Sb (k := (cc).toNatClampNeg) hB2 (t := w5.toInt) (by have := rng32 w5; omega) (by decide)
  rw [← hS3] at hB3
  show own_Fin p.tables e below _ (T61.setTop (mkF m 84 #[.val (.int w0), .val (.int w1), .val (.int w2), .val (.int w3), .val (.int w4), .val (.int w5), .val (.int ca), .val (.int cb), .val (.int cc), .val (.int cd), .val (.double (Jvm.FP.i2d w3)), .second, .val (.double (Jvm.FP.i2d w4)), .second, .val (.double (Jvm.FP.i2d w5)), .second, .val (.ref b1), .val (.ref b14), .val (.ref b25), .unset] []))
  refine own_step (fun _ k => XS.aload X61.here hx rfl (hb hby at_84) rfl rfl k) ?_
  show own_Fin p.tables e below _ (T61.setTop (mkF m 86 #[.val (.int w0), .val (.int w1), .val (.int w2), .val (.int w3), .val (.int w4), .val (.int w5), .val (.int ca), .val (.int cb), .val (.int cc), .val (.int cd), .val (.double (Jvm.FP.i2d w3)), .second, .val (.double (Jvm.FP.i2d w4)), .second, .val (.double (Jvm.FP.i2d w5)), .second, .val (.ref b1), .val (.ref b14), .val (.ref b25), .unset] [(.ref b1)]))
  refine own_step (fun _ k => XS.aload X61.here hx rfl (hb hby at_86) rfl rfl k) ?_
  show own_Fin p.tables e below _ (T61.setTop (mkF m 88 #[.val (.int w0), .val (.int w1), .val (.int w2), .val (.int w3), .val (.int w4), .val (.int w5), .val (.int ca), .val (.int cb), .val (.int cc), .val (.int cd), .val (.double (Jvm.FP.i2d w3)), .second, .val (.double (Jvm.FP.i2d w4)), .second, .val (.double (Jvm.FP.i2d w5)), .second, .val (.ref b1), .val (.ref b14), .val (.ref b25), .unset] [(.ref b14), (.ref b1)]))
  refine own_step (fun _ k => XS.iconst X61.here hx rfl (hb hby at_88) k) ?_
  show own_Fin p.tables e below _ (T61.setTop (mkF m 89 #[.val (.int w0), .val (.int w1), .val (.int w2), .val (.int w3), .val (.int w4), .val (.int w5), .val (.int ca), .val (.int cb), .val (.int cc), .val (.int cd), .val (.double (Jvm.FP.i2d w3)), .second, .val (.double (Jvm.FP.i2d w4)), .second, .val (.double (Jvm.FP.i2d w5)), .second, .val (.ref b1), .val (.ref b14), .val (.ref b25), .unset] [(.int (1 : Int32)), (.ref b14), (.ref b1)]))
  obtain ⟨cq73, kq73, q73a, q73b, q73c⟩ := isOf hZ rfl z61E
  obtain ⟨_, _, ⟨T73, L73, k73, n73⟩, -, X73, ⟨Lc73, hQ73, l73, y73, z73⟩, st73⟩ := X61.virtualBack hx (y := (⟨"com/example/fusewright/fusewright/runtime/MatrixProduct$Sums", "addTo", "([DI)V"⟩ : MethodName)) (z := (⟨"com/example/fusewright/fusewright/runtime/MatrixProduct$Sums", "addTo", "([DI)V"⟩ : MethodName)) hown (mvT hZ (hw _ (List.mem_of_getElem? (i := 25) rfl))) (mvT hZ (hw _ (List.mem_of_getElem? (i := 26) rfl))) (notFace_of_selects (args := #[]) (mvT hZ (hw _ (List.mem_of_getElem? (i := 28) rfl)))) (mvT hZ (hw _ (List.mem_of_getElem? (i := 28) rfl))) (mvT hZ (hw _ (List.mem_of_getElem? (i := 27) rfl))) (by decide) (backOf (W := 0) (rm4 l Z a0 hw [] b1 b14 (1 : Int32) tv tr tc n3 V3 R3 K3 S3 6 gO T61.heap n0 f62 z61E z61F0 z61F1 z61F2 z61N z61A0 z61A1 z61A2 f64 nz0 nz1 nz2 nz3 nz4 nz5 (Ne.symm ne_b1_b14) (Ne.symm ne_tv_b14) (Ne.symm ne_tr_b14) (Ne.symm ne_tc_b14) g_b1 g_tv g_tr g_tc g_b14 hI3 (by decide) (by decide) (by decide) (fun c hc => by rw [hgO]; exact own_isd.zero)) hZ (hw _ (List.mem_of_getElem? (i := 29) rfl)) (hw _ (List.mem_of_getElem? (i := 2) rfl)) (by decide) (by decide)) q73a q73c (g := (mkF m 89 #[.val (.int w0), .val (.int w1), .val (.int w2), .val (.int w3), .val (.int w4), .val (.int w5), .val (.int ca), .val (.int cb), .val (.int cc), .val (.int cd), .val (.double (Jvm.FP.i2d w3)), .second, .val (.double (Jvm.FP.i2d w4)), .second, .val (.double (Jvm.FP.i2d w5)), .second, .val (.ref b1), .val (.ref b14), .val (.ref b25), .unset] [(.int (1 : Int32)), (.ref b14), (.ref b1)])) rfl (by rw [hml]; rfl) (Steps.refl _) (argsL := [(.ref b14), (.int (1 : Int32))]) (rest := []) (lenOf pd_3 rfl) rfl (by show 2 * 0 + _ ≤ _; exact Nat.le_of_eq rfl) (hb hby at_89) (fun _ _ => ⟨rfl, rfl, (by decide : 6 + 0 ≤ _), (by decide : 26 + 0 ≤ _)⟩)
  dsimp only [Pt.U, Pt.locs, Pt.cells, Pt.slots] at X73 l73 y73 z73 st73 hQ73
  subst l73 y73 z73
  obtain ⟨rfl, N73q, K73, z73E, z73F0, z73F1, z73F2, z73N, VO, RO, z73A0, z73A1, z73A2, hIO, O2, fO2, hO2, hO3⟩ := hQ73
  have N73 := Fr.app N61 N73q
  refine own_steps st73 ?_
  have f74 := Nat.le_trans f62 K73.1
  have f75 := z61E.keep K73
  have f77 := f65.keep K73 (ninS (Ne.symm ne_b14_b25) (ninS (Ne.symm ne_b1_b25) (ninS (Ne.symm ne_tv_b25) (ninS (Ne.symm ne_tr_b25) (ninS (Ne.symm ne_tc_b25) nin0)))))
  show own_Fin p.tables e below _ (T73.setTop (mkF m 92 #[.val (.int w0), .val (.int w1), .val (.int w2), .val (.int w3), .val (.int w4), .val (.int w5), .val (.int ca), .val (.int cb), .val (.int cc), .val (.int cd), .val (.double (Jvm.FP.i2d w3)), .second, .val (.double (Jvm.FP.i2d w4)), .second, .val (.double (Jvm.FP.i2d w5)), .second, .val (.ref b1), .val (.ref b14), .val (.ref b25), .unset] []))
  refine own_step (fun _ k => XS.aload X73.here hx rfl (hb hby at_92) rfl rfl k) ?_
  show own_Fin p.tables e below _ (T73.setTop (mkF m 94 #[.val (.int w0), .val (.int w1), .val (.int w2), .val (.int w3), .val (.int w4), .val (.int w5), .val (.int ca), .val (.int cb), .val (.int cc), .val (.int cd), .val (.double (Jvm.FP.i2d w3)), .second, .val (.double (Jvm.FP.i2d w4)), .second, .val (.double (Jvm.FP.i2d w5)), .second, .val (.ref b1), .val (.ref b14), .val (.ref b25), .unset] [(.ref b1)]))
  refine own_step (fun _ k => XS.iload X73.here hx rfl (hb hby at_94) rfl k) ?_
  show own_Fin p.tables e below _ (T73.setTop (mkF m 96 #[.val (.int w0), .val (.int w1), .val (.int w2), .val (.int w3), .val (.int w4), .val (.int w5), .val (.int ca), .val (.int cb), .val (.int cc), .val (.int cd), .val (.double (Jvm.FP.i2d w3)), .second, .val (.double (Jvm.FP.i2d w4)), .second, .val (.double (Jvm.FP.i2d w5)), .second, .val (.ref b1), .val (.ref b14), .val (.ref b25), .unset] [(.int cd), (.ref b1)]))
  refine own_step (fun _ k => own_dload X73.here hx rfl (hb hby at_96) rfl k) ?_
  show own_Fin p.tables e below _ (T73.setTop (mkF m 98 #[.val (.int w0), .val (.int w1), .val (.int w2), .val (.int w3), .val (.int w4), .val (.int w5), .val (.int ca), .val (.int cb), .val (.int cc), .val (.int cd), .val (.double (Jvm.FP.i2d w3)), .second, .val (.double (Jvm.FP.i2d w4)), .second, .val (.double (Jvm.FP.i2d w5)), .second, .val (.ref b1), .val (.ref b14), .val (.ref b25), .unset] [(.double (Jvm.FP.i2d w4)), (.int cd), (.ref b1)]))
  obtain ⟨cq85, kq85, q85a, q85b, q85c⟩ := isOf hZ rfl z73E
  obtain ⟨_, _, ⟨T85, L85, k85, n85⟩, -, X85, ⟨Lc85, hQ85, l85, y85, z85⟩, st85⟩ := X73.virtualBack hx (y := (⟨"com/example/fusewright/fusewright/runtime/MatrixProduct$Sums", "add", "(ID)V"⟩ : MethodName)) (z := (⟨"com/example/fusewright/fusewright/runtime/MatrixProduct$Sums", "add", "(ID)V"⟩ : MethodName)) hown (mvT hZ (hw _ (List.mem_of_getElem? (i := 18) rfl))) (mvT hZ (hw _ (List.mem_of_getElem? (i := 19) rfl))) (notFace_of_selects (args := #[]) (mvT hZ (hw _ (List.mem_of_getElem? (i := 21) rfl)))) (mvT hZ (hw _ (List.mem_of_getElem? (i := 21) rfl))) (mvT hZ (hw _ (List.mem_of_getElem? (i := 20) rfl))) (by decide) (backOf (W := 0) (rm3 l Z a0 hw [] b1 cd (Jvm.FP.i2d w4) tv tr tc (0 : Int32) VO RO K3 (fun _ => (0 : Int)) w4.toInt T73.heap n0 f74 z73E z73F0 z73F1 z73F2 z73N z73A0 z73A1 z73A2 nz0 nz1 nz2 nz3 nz4 nz5 g_b1 g_tv g_tr g_tc hcd0 hcd4 (own_isd.i2d w4) hIO (by have := hBz (cd).toNatClampNeg; have := rng32 w4; omega)) hZ (hw _ (List.mem_of_getElem? (i := 22) rfl)) (hw _ (List.mem_of_getElem? (i := 2) rfl)) (by decide) (by decide)) q85a q85c (g := (mkF m 98 #[.val (.int w0), .val (.int w1), .val (.int w2), .val (.int w3), .val (.int w4), .val (.int w5), .val (.int ca), .val (.int cb), .val (.int cc), .val (.int cd), .val (.double (Jvm.FP.i2d w3)), .second, .val (.double (Jvm.FP.i2d w4)), .second, .val (.double (Jvm.FP.i2d w5)), .second, .val (.ref b1), .val (.ref b14), .val (.ref b25), .unset] [(.double (Jvm.FP.i2d w4)), (.int cd), (.ref b1)])) rfl (by rw [hml]; rfl) (Steps.refl _) (argsL := [(.int cd), (.double (Jvm.FP.i2d w4))]) (rest := []) (lenOf pd_2 rfl) rfl (by show 2 * 0 + _ ≤ _; exact Nat.le_of_eq rfl) (hb hby at_98) (fun _ _ => ⟨rfl, rfl, (by decide : 6 + 0 ≤ _), (by decide : 26 + 0 ≤ _)⟩)
  dsimp only [Pt.U, Pt.locs, Pt.cells, Pt.slots] at X85 l85 y85 z85 st85 hQ85
  subst l85 y85 z85
  obtain ⟨rfl, N85q, K85, z85E, z85F0, z85F1, z85F2, n4, V4, R4, K4, z85N, z85A0, z85A1, z85A2, hI4⟩ := hQ85
  have N85 := Fr.app N73 N85q
  refine own_steps st85 ?_
  have f86 := Nat.le_trans f74 K85.1
  have f87 := z73E.keep K85
  have f88 := f77.keep K85 (ninS (Ne.symm ne_b1_b25) (ninS (Ne.symm ne_tv_b25) (ninS (Ne.symm ne_tr_b25) (ninS (Ne.symm ne_tc_b25) nin0))))
  have f96 := fO2.keep K85 (ninS (Ne.symm ne_b1_b14) (ninS (Ne.symm ne_tv_b14) (ninS (Ne.symm ne_tr_b14) (ninS (Ne.symm ne_tc_b14) nin0))))
  obtain ⟨S4, hS4⟩ : ∃ z : Nat → Int, z = own_upd (fun _ => (0 : Int)) (cd).toNatClampNeg ((fun _ => (0 : Int)) (cd).toNatClampNeg + w4.toInt) := ⟨_, rfl⟩
  rw [← hS4] at hI4
  have hB4 := own_Sb (k := (cd).toNatClampNeg) hBz (t := w4.toInt) (by have := rng32 w4; omega) (by decide)
  rw [← hS4] at hB4
  show own_Fin p.tables e below _ (T85.setTop (mkF m 101 #[.val (.int w0), .val (.int w1), .val (.int w2), .val (.int w3), .val (.int w4), .val (.int w5), .val (.int ca), .val (.int cb), .val (.int cc), .val (.int cd), .val (.double (Jvm.FP.i2d w3)), .second, .val (.double (Jvm.FP.i2d w4)), .second, .val (.double (Jvm.FP.i2d w5)), .second, .val (.ref b1), .val (.ref b14), .val (.ref b25), .unset] []))
  refine own_step (fun _ k => XS.aload X85.here hx rfl (hb hby at_101) rfl rfl k) ?_
  show own_Fin p.tables e below _ (T85.setTop (mkF m 103 #[.val (.int w0), .val (.int w1), .val (.int w2), .val (.int w3), .val (.int w4), .val (.int w5), .val (.int ca), .val (.int cb), .val (.int cc), .val (.int cd), .val (.double (Jvm.FP.i2d w3)), .second, .val (.double (Jvm.FP.i2d w4)), .second, .val (.double (Jvm.FP.i2d w5)), .second, .val (.ref b1), .val (.ref b14), .val (.ref b25), .unset] [(.ref b1)]))
  refine own_step (fun _ k => XS.aload X85.here hx rfl (hb hby at_103) rfl rfl k) ?_
  show own_Fin p.tables e below _ (T85.setTop (mkF m 105 #[.val (.int w0), .val (.int w1), .val (.int w2), .val (.int w3), .val (.int w4), .val (.int w5), .val (.int ca), .val (.int cb), .val (.int cc), .val (.int cd), .val (.double (Jvm.FP.i2d w3)), .second, .val (.double (Jvm.FP.i2d w4)), .second, .val (.double (Jvm.FP.i2d w5)), .second, .val (.ref b1), .val (.ref b14), .val (.ref b25), .unset] [(.ref b25), (.ref b1)]))
  refine own_step (fun _ k => XS.iconst X85.here hx rfl (hb hby at_105) k) ?_
  show own_Fin p.tables e below _ (T85.setTop (mkF m 106 #[.val (.int w0), .val (.int w1), .val (.int w2), .val (.int w3), .val (.int w4), .val (.int w5), .val (.int ca), .val (.int cb), .val (.int cc), .val (.int cd), .val (.double (Jvm.FP.i2d w3)), .second, .val (.double (Jvm.FP.i2d w4)), .second, .val (.double (Jvm.FP.i2d w5)), .second, .val (.ref b1), .val (.ref b14), .val (.ref b25), .unset] [(.int (0 : Int32)), (.ref b25), (.ref b1)]))
  obtain ⟨cq97, kq97, q97a, q97b, q97c⟩ := isOf hZ rfl z85E
  obtain ⟨_, _, ⟨T97, L97, k97, n97⟩, -, X97, ⟨Lc97, hQ97, l97, y97, z97⟩, st97⟩ := X85.virtualBack hx (y := (⟨"com/example/fusewright/fusewright/runtime/MatrixProduct$Sums", "addTo", "([DI)V"⟩ : MethodName)) (z := (⟨"com/example/fusewright/fusewright/runtime/MatrixProduct$Sums", "addTo", "([DI)V"⟩ : MethodName)) hown (mvT hZ (hw _ (List.mem_of_getElem? (i := 25) rfl))) (mvT hZ (hw _ (List.mem_of_getElem? (i := 26) rfl))) (notFace_of_selects (args := #[]) (mvT hZ (hw _ (List.mem_of_getElem? (i := 28) rfl)))) (mvT hZ (hw _ (List.mem_of_getElem? (i := 28) rfl))) (mvT hZ (hw _ (List.mem_of_getElem? (i := 27) rfl))) (by decide) (backOf (W := 0) (rm4 l Z a0 hw [] b1 b25 (0 : Int32) tv tr tc n4 V4 R4 K4 S4 4 gP T85.heap n0 f86 z85E z85F0 z85F1 z85F2 z85N z85A0 z85A1 z85A2 f88 nz0 nz1 nz2 nz3 nz4 nz5 (Ne.symm ne_b1_b25) (Ne.symm ne_tv_b25) (Ne.symm ne_tr_b25) (Ne.symm ne_tc_b25) g_b1 g_tv g_tr g_tc g_b25 hI4 (by decide) (by decide) (by decide) (fun c hc => by rw [hgP]; exact own_isd.zero)) hZ (hw _ (List.mem_of_getElem? (i := 29) rfl)) (hw _ (List.mem_of_getElem? (i := 2) rfl)) (by decide) (by decide)) q97a q97c (g := (mkF m 106 #[.val (.int w0), .val (.int w1), .val (.int w2), .val (.int w3), .val (.int w4), .val (.int w5), .val (.int ca), .val (.int cb), .val (.int cc), .val (.int cd), .val (.double (Jvm.FP.i2d w3)), .second, .val (.double (Jvm.FP.i2d w4)), .second, .val (.double (Jvm.FP.i2d w5)), .second, .val (.ref b1), .val (.ref b14), .val (.ref b25), .unset] [(.int (0 : Int32)), (.ref b25), (.ref b1)])) rfl (by rw [hml]; rfl) (Steps.refl _) (argsL := [(.ref b25), (.int (0 : Int32))]) (rest := []) (lenOf pd_3 rfl) rfl (by show 2 * 0 + _ ≤ _; exact Nat.le_of_eq rfl) (hb hby at_106) (fun _ _ => ⟨rfl, rfl, (by decide : 6 + 0 ≤ _), (by decide : 26 + 0 ≤ _)⟩)
  dsimp only [Pt.U, Pt.locs, Pt.cells, Pt.slots] at X97 l97 y97 z97 st97 hQ97
  subst l97 y97 z97
  obtain ⟨rfl, N97q, K97, z97E, z97F0, z97F1, z97F2, z97N, VP, RP, z97A0, z97A1, z97A2, hIP, P2, fP2, hP2, hP3⟩ := hQ97
  have N97 := Fr.app N85 N97q
  refine own_steps st97 ?_
  have f98 := Nat.le_trans f86 K97.1
  have f99 := z85E.keep K97
  have f101 := f96.keep K97 (ninS ne_b14_b25 (ninS (Ne.symm ne_b1_b14) (ninS (Ne.symm ne_tv_b14) (ninS (Ne.symm ne_tr_b14) (ninS (Ne.symm ne_tc_b14) nin0)))))
  show own_Fin p.tables e below _ (T97.setTop (mkF m 109 #[.val (.int w0), .val (.int w1), .val (.int w2), .val (.int w3), .val (.int w4), .val (.int w5), .val (.int ca), .val (.int cb), .val (.int cc), .val (.int cd), .val (.double (Jvm.FP.i2d w3)), .second, .val (.double (Jvm.FP.i2d w4)), .second, .val (.double (Jvm.FP.i2d w5)), .second, .val (.ref b1), .val (.ref b14), .val (.ref b25), .unset] []))
  refine own_step (fun _ k => XS.aload X97.here hx rfl (hb hby at_109) rfl rfl k) ?_
  show own_Fin p.tables e below _ (T97.setTop (mkF m 111 #[.val (.int w0), .val (.int w1), .val (.int w2), .val (.int w3), .val (.int w4), .val (.int w5), .val (.int ca), .val (.int cb), .val (.int cc), .val (.int cd), .val (.double (Jvm.FP.i2d w3)), .second, .val (.double (Jvm.FP.i2d w4)), .second, .val (.double (Jvm.FP.i2d w5)), .second, .val (.ref b1), .val (.ref b14), .val (.ref b25), .unset] [(.ref b14)]))
  refine own_step (fun _ k => XS.iconst X97.here hx rfl (hb hby at_111) k) ?_
  show own_Fin p.tables e below _ (T97.setTop (mkF m 112 #[.val (.int w0), .val (.int w1), .val (.int w2), .val (.int w3), .val (.int w4), .val (.int w5), .val (.int ca), .val (.int cb), .val (.int cc), .val (.int cd), .val (.double (Jvm.FP.i2d w3)), .second, .val (.double (Jvm.FP.i2d w4)), .second, .val (.double (Jvm.FP.i2d w5)), .second, .val (.ref b1), .val (.ref b14), .val (.ref b25), .unset] [(.int (0 : Int32)), (.ref b14)]))
  obtain ⟨cl109, Ar109, S109, H109⟩ := id f101
  have hin109 : ¬ ((0 : Int32) < 0 ∨ cl109.slots.size ≤ ((0 : Int32)).toNatClampNeg) := own_in S109 ⟨by decide, by decide⟩
  refine own_step (own_daload X97 hx (j := (0 : Int32)) (v := (.double (O2 ((0 : Int32)).toNatClampNeg))) (by first | exact Ar109.1 | (rw [rfl]; exact Ar109.1)) (State.isArrayOf_alike hZ.alike Ar109.2.1) Ar109.2.2 hin109 (H109 _ (own_in2 ⟨by decide, by decide⟩)) (g := (mkF m 112 #[.val (.int w0), .val (.int w1), .val (.int w2), .val (.int w3), .val (.int w4), .val (.int w5), .val (.int ca), .val (.int cb), .val (.int cc), .val (.int cd), .val (.double (Jvm.FP.i2d w3)), .second, .val (.double (Jvm.FP.i2d w4)), .second, .val (.double (Jvm.FP.i2d w5)), .second, .val (.ref b1), .val (.ref b14), .val (.ref b25), .unset] [(.int (0 : Int32)), (.ref b14)])) rfl rfl (hb hby at_112)) ?_
  show own_Fin p.tables e below _ (T97.setTop (mkF m 113 #[.val (.int w0), .val (.int w1), .val (.int w2), .val (.int w3), .val (.int w4), .val (.int w5), .val (.int ca), .val (.int cb), .val (.int cc), .val (.int cd), .val (.double (Jvm.FP.i2d w3)), .second, .val (.double (Jvm.FP.i2d w4)), .second, .val (.double (Jvm.FP.i2d w5)), .second, .val (.ref b1), .val (.ref b14), .val (.ref b25), .unset] [(.double (O2 ((0 : Int32)).toNatClampNeg))]))
  refine own_step (fun _ k => own_dconst X97.here hx rfl (hb hby at_113) k) ?_
  show own_Fin p.tables e below _ (T97.setTop (mkF m 114 #[.val (.int w0), .val (.int w1), .val (.int w2), .val (.int w3), .val (.int w4), .val (.int w5), .val (.int ca), .val (.int cb), .val (.int cc), .val (.int cd), .val (.double (Jvm.FP.i2d w3)), .second, .val (.double (Jvm.FP.i2d w4)), .second, .val (.double (Jvm.FP.i2d w5)), .second, .val (.ref b1), .val (.ref b14), .val (.ref b25), .unset] [(.double (0 : UInt64)), (.double (O2 ((0 : Int32)).toNatClampNeg))]))
  refine own_step (fun _ k => own_dcmpl X97.here hx rfl (hb hby at_114) rfl k) ?_
  show own_Fin p.tables e below _ (T97.setTop (mkF m 115 #[.val (.int w0), .val (.int w1), .val (.int w2), .val (.int w3), .val (.int w4), .val (.int w5), .val (.int ca), .val (.int cb), .val (.int cc), .val (.int cd), .val (.double (Jvm.FP.i2d w3)), .second, .val (.double (Jvm.FP.i2d w4)), .second, .val (.double (Jvm.FP.i2d w5)), .second, .val (.ref b1), .val (.ref b14), .val (.ref b25), .unset] [(.int (Op.cmpValue (Jvm.FP.dcmp (O2 ((0 : Int32)).toNatClampNeg) (0 : UInt64)) .l))]))
  have ha110 : (Op.cmpValue (Jvm.FP.dcmp (O2 ((0 : Int32)).toNatClampNeg) (0 : UInt64)) .l) = (0 : Int32) := by
    exact own_isd.eq (n := 0) (by rw [hO3 _ (Or.inl (by decide)), hgO]; exact own_isd.zero) own_isd.zero
  refine own_step (fun _ k => XS.ifNo X97.here hx rfl (hb hby at_115) rfl ((if0 _ _).trans (teq ha110).2) k) ?_
  show own_Fin p.tables e below _ (T97.setTop (mkF m 118 #[.val (.int w0), .val (.int w1), .val (.int w2), .val (.int w3), .val (.int w4), .val (.int w5), .val (.int ca), .val (.int cb), .val (.int cc), .val (.int cd), .val (.double (Jvm.FP.i2d w3)), .second, .val (.double (Jvm.FP.i2d w4)), .second, .val (.double (Jvm.FP.i2d w5)), .second, .val (.ref b1), .val (.ref b14), .val (.ref b25), .unset] []))
  refine own_step (fun _ k => XS.aload X97.here hx rfl (hb hby at_118) rfl rfl k) ?_
  show own_Fin p.tables e below _ (T97.setTop (mkF m 120 #[.val (.int w0), .val (.int w1), .val (.int w2), .val (.int w3), .val (.int w4), .val (.int w5), .val (.int ca), .val (.int cb), .val (.int cc), .val (.int cd), .val (.double (Jvm.FP.i2d w3)), .second, .val (.double (Jvm.FP.i2d w4)), .second, .val (.double (Jvm.FP.i2d w5)), .second, .val (.ref b1), .val (.ref b14), .val (.ref b25), .unset] [(.ref b14)]))
  refine own_step (fun _ k => XS.iconst X97.here hx rfl (hb hby at_120) k) ?_
  show own_Fin p.tables e below _ (T97.setTop (mkF m 121 #[.val (.int w0), .val (.int w1), .val (.int w2), .val (.int w3), .val (.int w4), .val (.int w5), .val (.int ca), .val (.int cb), .val (.int cc), .val (.int cd), .val (.double (Jvm.FP.i2d w3)), .second, .val (.double (Jvm.FP.i2d w4)), .second, .val (.double (Jvm.FP.i2d w5)), .second, .val (.ref b1), .val (.ref b14), .val (.ref b25), .unset] [(.int (5 : Int32)), (.ref b14)]))
  obtain ⟨cl111, Ar111, S111, H111⟩ := id f101
  have hin111 : ¬ ((5 : Int32) < 0 ∨ cl111.slots.size ≤ ((5 : Int32)).toNatClampNeg) := own_in S111 ⟨by decide, by decide⟩
  refine own_step (own_daload X97 hx (j := (5 : Int32)) (v := (.double (O2 ((5 : Int32)).toNatClampNeg))) (by first | exact Ar111.1 | (rw [rfl]; exact Ar111.1)) (State.isArrayOf_alike hZ.alike Ar111.2.1) Ar111.2.2 hin111 (H111 _ (own_in2 ⟨by decide, by decide⟩)) (g := (mkF m 121 #[.val (.int w0), .val (.int w1), .val (.int w2), .val (.int w3), .val (.int w4), .val (.int w5), .val (.int ca), .val (.int cb), .val (.int cc), .val (.int cd), .val (.double (Jvm.FP.i2d w3)), .second, .val (.double (Jvm.FP.i2d w4)), .second, .val (.double (Jvm.FP.i2d w5)), .second, .val (.ref b1), .val (.ref b14), .val (.ref b25), .unset] [(.int (5 : Int32)), (.ref b14)])) rfl rfl (hb hby at_121)) ?_
  show own_Fin p.tables e below _ (T97.setTop (mkF m 122 #[.val (.int w0), .val (.int w1), .val (.int w2), .val (.int w3), .val (.int w4), .val (.int w5), .val (.int ca), .val (.int cb), .val (.int cc), .val (.int cd), .val (.double (Jvm.FP.i2d w3)), .second, .val (.double (Jvm.FP.i2d w4)), .second, .val (.double (Jvm.FP.i2d w5)), .second, .val (.ref b1), .val (.ref b14), .val (.ref b25), .unset] [(.double (O2 ((5 : Int32)).toNatClampNeg))]))
  refine own_step (fun _ k => own_dconst X97.here hx rfl (hb hby at_122) k) ?_
  show own_Fin p.tables e below _ (T97.setTop (mkF m 123 #[.val (.int w0), .val (.int w1), .val (.int w2), .val (.int w3), .val (.int w4), .val (.int w5), .val (.int ca), .val (.int cb), .val (.int cc), .val (.int cd), .val (.double (Jvm.FP.i2d w3)), .second, .val (.double (Jvm.FP.i2d w4)), .second, .val (.double (Jvm.FP.i2d w5)), .second, .val (.ref b1), .val (.ref b14), .val (.ref b25), .unset] [(.double (0 : UInt64)), (.double (O2 ((5 : Int32)).toNatClampNeg))]))
  refine own_step (fun _ k => own_dcmpl X97.here hx rfl (hb hby at_123) rfl k) ?_
  show own_Fin p.tables e below _ (T97.setTop (mkF m 124 #[.val (.int w0), .val (.int w1), .val (.int w2), .val (.int w3), .val (.int w4), .val (.int w5), .val (.int ca), .val (.int cb), .val (.int cc), .val (.int cd), .val (.double (Jvm.FP.i2d w3)), .second, .val (.double (Jvm.FP.i2d w4)), .second, .val (.double (Jvm.FP.i2d w5)), .second, .val (.ref b1), .val (.ref b14), .val (.ref b25), .unset] [(.int (Op.cmpValue (Jvm.FP.dcmp (O2 ((5 : Int32)).toNatClampNeg) (0 : UInt64)) .l))]))
  have ha112 : (Op.cmpValue (Jvm.FP.dcmp (O2 ((5 : Int32)).toNatClampNeg) (0 : UInt64)) .l) = (0 : Int32) := by
    exact own_isd.eq (n := 0) (by rw [hO3 _ (Or.inr (by decide)), hgO]; exact own_isd.zero) own_isd.zero
  refine own_step (fun _ k => XS.ifNo X97.here hx rfl (hb hby at_124) rfl ((if0 _ _).trans (teq ha112).2) k) ?_
  show own_Fin p.tables e below _ (T97.setTop (mkF m 127 #[.val (.int w0), .val (.int w1), .val (.int w2), .val (.int w3), .val (.int w4), .val (.int w5), .val (.int ca), .val (.int cb), .val (.int cc), .val (.int cd), .val (.double (Jvm.FP.i2d w3)), .second, .val (.double (Jvm.FP.i2d w4)), .second, .val (.double (Jvm.FP.i2d w5)), .second, .val (.ref b1), .val (.ref b14), .val (.ref b25), .unset] []))
  refine own_step (fun _ k => XS.iconst X97.here hx rfl (hb hby at_127) k) ?_
  show own_Fin p.tables e below _ (T97.setTop (mkF m 128 #[.val (.int w0), .val (.int w1), .val (.int w2), .val (.int w3), .val (.int w4), .val (.int w5), .val (.int ca), .val (.int cb), .val (.int cc), .val (.int cd), .val (.double (Jvm.FP.i2d w3)), .second, .val (.double (Jvm.FP.i2d w4)), .second, .val (.double (Jvm.FP.i2d w5)), .second, .val (.ref b1), .val (.ref b14), .val (.ref b25), .unset] [(.int (1 : Int32))]))
  refine own_step (fun _ k => XS.goto X97.here hx rfl (pc0 := 128) (pc' := 132) rfl (hb hby at_128) (by decide) (by decide) k) ?_
  show own_Fin p.tables e below _ (T97.setTop (mkF m 132 #[.val (.int w0), .val (.int w1), .val (.int w2), .val (.int w3), .val (.int w4), .val (.int w5), .val (.int ca), .val (.int cb), .val (.int cc), .val (.int cd), .val (.double (Jvm.FP.i2d w3)), .second, .val (.double (Jvm.FP.i2d w4)), .second, .val (.double (Jvm.FP.i2d w5)), .second, .val (.ref b1), .val (.ref b14), .val (.ref b25), .unset] [(.int (1 : Int32))]))
  refine own_step (fun _ k => XS.istore X97.here hx rfl (hb hby at_132) rfl (l' := #[.val (.int w0), .val (.int w1), .val (.int w2), .val (.int w3), .val (.int w4), .val (.int w5), .val (.int ca), .val (.int cb), .val (.int cc), .val (.int cd), .val (.double (Jvm.FP.i2d w3)), .second, .val (.double (Jvm.FP.i2d w4)), .second, .val (.double (Jvm.FP.i2d w5)), .second, .val (.ref b1), .val (.ref b14), .val (.ref b25), .val (.int (1 : Int32))]) rfl k) ?_
  show own_Fin p.tables e below _ (T97.setTop (mkF m 134 #[.val (.int w0), .val (.int w1), .val (.int w2), .val (.int w3), .val (.int w4), .val (.int w5), .val (.int ca), .val (.int cb), .val (.int cc), .val (.int cd), .val (.double (Jvm.FP.i2d w3)), .second, .val (.double (Jvm.FP.i2d w4)), .second, .val (.double (Jvm.FP.i2d w5)), .second, .val (.ref b1), .val (.ref b14), .val (.ref b25), .val (.int (1 : Int32))] []))
  refine own_step (fun _ k => XS.iload X97.here hx rfl (hb hby at_134) rfl k) ?_
  show own_Fin p.tables e below _ (T97.setTop (mkF m 136 #[.val (.int w0), .val (.int w1), .val (.int w2), .val (.int w3), .val (.int w4), .val (.int w5), .val (.int ca), .val (.int cb), .val (.int cc), .val (.int cd), .val (.double (Jvm.FP.i2d w3)), .second, .val (.double (Jvm.FP.i2d w4)), .second, .val (.double (Jvm.FP.i2d w5)), .second, .val (.ref b1), .val (.ref b14), .val (.ref b25), .val (.int (1 : Int32))] [(.int (1 : Int32))]))
  refine own_step (fun _ k => XS.ifNo X97.here hx rfl (hb hby at_136) rfl ((if0 _ _).trans (feq (by decide : ¬ ((1 : Int32) = (0 : Int32)))).1) k) ?_
  show own_Fin p.tables e below _ (T97.setTop (mkF m 139 #[.val (.int w0), .val (.int w1), .val (.int w2), .val (.int w3), .val (.int w4), .val (.int w5), .val (.int ca), .val (.int cb), .val (.int cc), .val (.int cd), .val (.double (Jvm.FP.i2d w3)), .second, .val (.double (Jvm.FP.i2d w4)), .second, .val (.double (Jvm.FP.i2d w5)), .second, .val (.ref b1), .val (.ref b14), .val (.ref b25), .val (.int (1 : Int32))] []))
  refine own_step (fun _ k => XS.aload X97.here hx rfl (hb hby at_139) rfl rfl k) ?_
  show own_Fin p.tables e below _ (T97.setTop (mkF m 141 #[.val (.int w0), .val (.int w1), .val (.int w2), .val (.int w3), .val (.int w4), .val (.int w5), .val (.int ca), .val (.int cb), .val (.int cc), .val (.int cd), .val (.double (Jvm.FP.i2d w3)), .second, .val (.double (Jvm.FP.i2d w4)), .second, .val (.double (Jvm.FP.i2d w5)), .second, .val (.ref b1), .val (.ref b14), .val (.ref b25), .val (.int (1 : Int32))] [(.ref b14)]))
  refine own_step (fun _ k => XS.iconst X97.here hx rfl (hb hby at_141) k) ?_
  show own_Fin p.tables e below _ (T97.setTop (mkF m 142 #[.val (.int w0), .val (.int w1), .val (.int w2), .val (.int w3), .val (.int w4), .val (.int w5), .val (.int ca), .val (.int cb), .val (.int cc), .val (.int cd), .val (.double (Jvm.FP.i2d w3)), .second, .val (.double (Jvm.FP.i2d w4)), .second, .val (.double (Jvm.FP.i2d w5)), .second, .val (.ref b1), .val (.ref b14), .val (.ref b25), .val (.int (1 : Int32))] [(.int (1 : Int32)), (.ref b14)]))
  obtain ⟨cl113, Ar113, S113, H113⟩ := id f101
  have hin113 : ¬ ((1 : Int32) < 0 ∨ cl113.slots.size ≤ ((1 : Int32)).toNatClampNeg) := own_in S113 ⟨by decide, by decide⟩
  refine own_step (own_daload X97 hx (j := (1 : Int32)) (v := (.double (O2 ((1 : Int32)).toNatClampNeg))) (by first | exact Ar113.1 | (rw [rfl]; exact Ar113.1)) (State.isArrayOf_alike hZ.alike Ar113.2.1) Ar113.2.2 hin113 (H113 _ (own_in2 ⟨by decide, by decide⟩)) (g := (mkF m 142 #[.val (.int w0), .val (.int w1), .val (.int w2), .val (.int w3), .val (.int w4), .val (.int w5), .val (.int ca), .val (.int cb), .val (.int cc), .val (.int cd), .val (.double (Jvm.FP.i2d w3)), .second, .val (.double (Jvm.FP.i2d w4)), .second, .val (.double (Jvm.FP.i2d w5)), .second, .val (.ref b1), .val (.ref b14), .val (.ref b25), .val (.int (1 : Int32))] [(.int (1 : Int32)), (.ref b14)])) rfl rfl (hb hby at_142)) ?_
  show own_Fin p.tables e below _ (T97.setTop (mkF m 143 #[.val (.int w0), .val (.int w1), .val (.int w2), .val (.int w3), .val (.int w4), .val (.int w5), .val (.int ca), .val (.int cb), .val (.int cc), .val (.int cd), .val (.double (Jvm.FP.i2d w3)), .second, .val (.double (Jvm.FP.i2d w4)), .second, .val (.double (Jvm.FP.i2d w5)), .second, .val (.ref b1), .val (.ref b14), .val (.ref b25), .val (.int (1 : Int32))] [(.double (O2 ((1 : Int32)).toNatClampNeg))]))
  refine own_step (fun _ k => XS.iconst X97.here hx rfl (hb hby at_143) k) ?_
  show own_Fin p.tables e below _ (T97.setTop (mkF m 144 #[.val (.int w0), .val (.int w1), .val (.int w2), .val (.int w3), .val (.int w4), .val (.int w5), .val (.int ca), .val (.int cb), .val (.int cc), .val (.int cd), .val (.double (Jvm.FP.i2d w3)), .second, .val (.double (Jvm.FP.i2d w4)), .second, .val (.double (Jvm.FP.i2d w5)), .second, .val (.ref b1), .val (.ref b14), .val (.ref b25), .val (.int (1 : Int32))] [(.int (0 : Int32)), (.double (O2 ((1 : Int32)).toNatClampNeg))]))
  refine own_step (fun _ k => XS.iload X97.here hx rfl (hb hby at_144) rfl k) ?_
  show own_Fin p.tables e below _ (T97.setTop (mkF m 146 #[.val (.int w0), .val (.int w1), .val (.int w2), .val (.int w3), .val (.int w4), .val (.int w5), .val (.int ca), .val (.int cb), .val (.int cc), .val (.int cd), .val (.double (Jvm.FP.i2d w3)), .second, .val (.double (Jvm.FP.i2d w4)), .second, .val (.double (Jvm.FP.i2d w5)), .second, .val (.ref b1), .val (.ref b14), .val (.ref b25), .val (.int (1 : Int32))] [(.int ca), (.int (0 : Int32)), (.double (O2 ((1 : Int32)).toNatClampNeg))]))
  refine own_step (fun _ k => XS.iloadN X97.here hx rfl (hb hby at_146) rfl k) ?_
  show own_Fin p.tables e below _ (T97.setTop (mkF m 147 #[.val (.int w0), .val (.int w1), .val (.int w2), .val (.int w3), .val (.int w4), .val (.int w5), .val (.int ca), .val (.int cb), .val (.int cc), .val (.int cd), .val (.double (Jvm.FP.i2d w3)), .second, .val (.double (Jvm.FP.i2d w4)), .second, .val (.double (Jvm.FP.i2d w5)), .second, .val (.ref b1), .val (.ref b14), .val (.ref b25), .val (.int (1 : Int32))] [(.int w3), (.int ca), (.int (0 : Int32)), (.double (O2 ((1 : Int32)).toNatClampNeg))]))
  refine own_step (fun _ k => XS.i2l X97.here hx rfl (hb hby at_147) rfl k) ?_
  show own_Fin p.tables e below _ (T97.setTop (mkF m 148 #[.val (.int w0), .val (.int w1), .val (.int w2), .val (.int w3), .val (.int w4), .val (.int w5), .val (.int ca), .val (.int cb), .val (.int cc), .val (.int cd), .val (.double (Jvm.FP.i2d w3)), .second, .val (.double (Jvm.FP.i2d w4)), .second, .val (.double (Jvm.FP.i2d w5)), .second, .val (.ref b1), .val (.ref b14), .val (.ref b25), .val (.int (1 : Int32))] [(.long (w3.toInt64)), (.int ca), (.int (0 : Int32)), (.double (O2 ((1 : Int32)).toNatClampNeg))]))
  refine own_step (fun _ k => XS.iload X97.here hx rfl (hb hby at_148) rfl k) ?_
  show own_Fin p.tables e below _ (T97.setTop (mkF m 150 #[.val (.int w0), .val (.int w1), .val (.int w2), .val (.int w3), .val (.int w4), .val (.int w5), .val (.int ca), .val (.int cb), .val (.int cc), .val (.int cd), .val (.double (Jvm.FP.i2d w3)), .second, .val (.double (Jvm.FP.i2d w4)), .second, .val (.double (Jvm.FP.i2d w5)), .second, .val (.ref b1), .val (.ref b14), .val (.ref b25), .val (.int (1 : Int32))] [(.int cb), (.long (w3.toInt64)), (.int ca), (.int (0 : Int32)), (.double (O2 ((1 : Int32)).toNatClampNeg))]))
  refine own_step (fun _ k => XS.iload X97.here hx rfl (hb hby at_150) rfl k) ?_
  show own_Fin p.tables e below _ (T97.setTop (mkF m 152 #[.val (.int w0), .val (.int w1), .val (.int w2), .val (.int w3), .val (.int w4), .val (.int w5), .val (.int ca), .val (.int cb), .val (.int cc), .val (.int cd), .val (.double (Jvm.FP.i2d w3)), .second, .val (.double (Jvm.FP.i2d w4)), .second, .val (.double (Jvm.FP.i2d w5)), .second, .val (.ref b1), .val (.ref b14), .val (.ref b25), .val (.int (1 : Int32))] [(.int w4), (.int cb), (.long (w3.toInt64)), (.int ca), (.int (0 : Int32)), (.double (O2 ((1 : Int32)).toNatClampNeg))]))
  refine own_step (fun _ k => XS.i2l X97.here hx rfl (hb hby at_152) rfl k) ?_
  show own_Fin p.tables e below _ (T97.setTop (mkF m 153 #[.val (.int w0), .val (.int w1), .val (.int w2), .val (.int w3), .val (.int w4), .val (.int w5), .val (.int ca), .val (.int cb), .val (.int cc), .val (.int cd), .val (.double (Jvm.FP.i2d w3)), .second, .val (.double (Jvm.FP.i2d w4)), .second, .val (.double (Jvm.FP.i2d w5)), .second, .val (.ref b1), .val (.ref b14), .val (.ref b25), .val (.int (1 : Int32))] [(.long (w4.toInt64)), (.int cb), (.long (w3.toInt64)), (.int ca), (.int (0 : Int32)), (.double (O2 ((1 : Int32)).toNatClampNeg))]))
  refine own_step (fun _ k => XS.iload X97.here hx rfl (hb hby at_153) rfl k) ?_
  show own_Fin p.tables e below _ (T97.setTop (mkF m 155 #[.val (.int w0), .val (.int w1), .val (.int w2), .val (.int w3), .val (.int w4), .val (.int w5), .val (.int ca), .val (.int cb), .val (.int cc), .val (.int cd), .val (.double (Jvm.FP.i2d w3)), .second, .val (.double (Jvm.FP.i2d w4)), .second, .val (.double (Jvm.FP.i2d w5)), .second, .val (.ref b1), .val (.ref b14), .val (.ref b25), .val (.int (1 : Int32))] [(.int cc), (.long (w4.toInt64)), (.int cb), (.long (w3.toInt64)), (.int ca), (.int (0 : Int32)), (.double (O2 ((1 : Int32)).toNatClampNeg))]))
  refine own_step (fun _ k => XS.iload X97.here hx rfl (hb hby at_155) rfl k) ?_
  show own_Fin p.tables e below _ (T97.setTop (mkF m 157 #[.val (.int w0), .val (.int w1), .val (.int w2), .val (.int w3), .val (.int w4), .val (.int w5), .val (.int ca), .val (.int cb), .val (.int cc), .val (.int cd), .val (.double (Jvm.FP.i2d w3)), .second, .val (.double (Jvm.FP.i2d w4)), .second, .val (.double (Jvm.FP.i2d w5)), .second, .val (.ref b1), .val (.ref b14), .val (.ref b25), .val (.int (1 : Int32))] [(.int w5), (.int cc), (.long (w4.toInt64)), (.int cb), (.long (w3.toInt64)), (.int ca), (.int (0 : Int32)), (.double (O2 ((1 : Int32)).toNatClampNeg))]))
  refine own_step (fun _ k => XS.i2l X97.here hx rfl (hb hby at_157) rfl k) ?_
  show own_Fin p.tables e below _ (T97.setTop (mkF m 158 #[.val (.int w0), .val (.int w1), .val (.int w2), .val (.int w3), .val (.int w4), .val (.int w5), .val (.int ca), .val (.int cb), .val (.int cc), .val (.int cd), .val (.double (Jvm.FP.i2d w3)), .second, .val (.double (Jvm.FP.i2d w4)), .second, .val (.double (Jvm.FP.i2d w5)), .second, .val (.ref b1), .val (.ref b14), .val (.ref b25), .val (.int (1 : Int32))] [(.long (w5.toInt64)), (.int cc), (.long (w4.toInt64)), (.int cb), (.long (w3.toInt64)), (.int ca), (.int (0 : Int32)), (.double (O2 ((1 : Int32)).toNatClampNeg))]))
  obtain ⟨_, _, ⟨T114, L114, k114, n114⟩, -, X114, ⟨Lc114, hQ114, l114, y114, z114⟩, st114⟩ := Jvm.LawKit.callS X97 hx (y := (⟨"com/example/fusewright/fusewright/runtime/SumsAddPinLaw", "expect", "(IIJIJIJ)J"⟩ : MethodName)) hown (mvT hZ (hw _ (List.mem_of_getElem? (i := 34) rfl))) (mvT hZ (hw _ (List.mem_of_getElem? (i := 35) rfl))) (mvT hZ (hw _ (List.mem_of_getElem? (i := 36) rfl))) (mvT hZ (hw _ (List.mem_of_getElem? (i := 37) rfl))) (by decide) (backOf (W := 2) (rm6 l Z a0 hw [] (0 : Int32) ca (w3.toInt64) cb (w4.toInt64) cc (w5.toInt64)  T97.heap n0 f98 ) hZ (hw _ (List.mem_of_getElem? (i := 37) rfl)) (hw _ (List.mem_of_getElem? (i := 36) rfl)) (by decide) (by decide)) (g := (mkF m 158 #[.val (.int w0), .val (.int w1), .val (.int w2), .val (.int w3), .val (.int w4), .val (.int w5), .val (.int ca), .val (.int cb), .val (.int cc), .val (.int cd), .val (.double (Jvm.FP.i2d w3)), .second, .val (.double (Jvm.FP.i2d w4)), .second, .val (.double (Jvm.FP.i2d w5)), .second, .val (.ref b1), .val (.ref b14), .val (.ref b25), .val (.int (1 : Int32))] [(.long (w5.toInt64)), (.int cc), (.long (w4.toInt64)), (.int cb), (.long (w3.toInt64)), (.int ca), (.int (0 : Int32)), (.double (O2 ((1 : Int32)).toNatClampNeg))])) rfl (by rw [hml]; rfl) (argsL := [(.int (0 : Int32)), (.int ca), (.long (w3.toInt64)), (.int cb), (.long (w4.toInt64)), (.int cc), (.long (w5.toInt64))]) (rest := [(.double (O2 ((1 : Int32)).toNatClampNeg))]) (lenOf pd_4 rfl) rfl (by show 2 * 0 + _ ≤ _; exact Nat.le_of_eq rfl) (hb hby at_158) (fun _ _ => ⟨rfl, rfl, (by decide : 6 + 0 ≤ _), (by decide : 26 + 0 ≤ _)⟩)
  dsimp only [Pt.U, Pt.locs, Pt.cells, Pt.slots] at X114 l114 y114 z114 st114 hQ114
  subst l114 y114 z114
  obtain ⟨rfl, N114q, e114⟩ := hQ114
  have N114 := Fr.app N97 N114q
  refine own_step st114 ?_
  show own_Fin p.tables e below _ (T114.setTop (mkF m 161 #[.val (.int w0), .val (.int w1), .val (.int w2), .val (.int w3), .val (.int w4), .val (.int w5), .val (.int ca), .val (.int cb), .val (.int cc), .val (.int cd), .val (.double (Jvm.FP.i2d w3)), .second, .val (.double (Jvm.FP.i2d w4)), .second, .val (.double (Jvm.FP.i2d w5)), .second, .val (.ref b1), .val (.ref b14), .val (.ref b25), .val (.int (1 : Int32))] [(.long (own_exp (0 : Int32) ca (w3.toInt64) cb (w4.toInt64) cc (w5.toInt64))), (.double (O2 ((1 : Int32)).toNatClampNeg))]))
  refine own_step (fun _ k => own_l2d X114.here hx rfl (hb hby at_161) rfl k) ?_
  show own_Fin p.tables e below _ (T114.setTop (mkF m 162 #[.val (.int w0), .val (.int w1), .val (.int w2), .val (.int w3), .val (.int w4), .val (.int w5), .val (.int ca), .val (.int cb), .val (.int cc), .val (.int cd), .val (.double (Jvm.FP.i2d w3)), .second, .val (.double (Jvm.FP.i2d w4)), .second, .val (.double (Jvm.FP.i2d w5)), .second, .val (.ref b1), .val (.ref b14), .val (.ref b25), .val (.int (1 : Int32))] [(.double (Jvm.FP.l2d (own_exp (0 : Int32) ca (w3.toInt64) cb (w4.toInt64) cc (w5.toInt64)))), (.double (O2 ((1 : Int32)).toNatClampNeg))]))
  refine own_step (fun _ k => own_dcmpl X114.here hx rfl (hb hby at_162) rfl k) ?_
  show own_Fin p.tables e below _ (T114.setTop (mkF m 163 #[.val (.int w0), .val (.int w1), .val (.int w2), .val (.int w3), .val (.int w4), .val (.int w5), .val (.int ca), .val (.int cb), .val (.int cc), .val (.int cd), .val (.double (Jvm.FP.i2d w3)), .second, .val (.double (Jvm.FP.i2d w4)), .second, .val (.double (Jvm.FP.i2d w5)), .second, .val (.ref b1), .val (.ref b14), .val (.ref b25), .val (.int (1 : Int32))] [(.int (Op.cmpValue (Jvm.FP.dcmp (O2 ((1 : Int32)).toNatClampNeg) (Jvm.FP.l2d (own_exp (0 : Int32) ca (w3.toInt64) cb (w4.toInt64) cc (w5.toInt64)))) .l))]))
  have ha115 : (Op.cmpValue (Jvm.FP.dcmp (O2 ((1 : Int32)).toNatClampNeg) (Jvm.FP.l2d (own_exp (0 : Int32) ca (w3.toInt64) cb (w4.toInt64) cc (w5.toInt64)))) .l) = (0 : Int32) := by
    have e1 : ((1 : Int32)).toNatClampNeg = (1 : Int32).toInt.toNat + 0 := by decide
    rw [e1]
    exact own_isd.eq (hO2 0 (by decide)) (own_expS (kN := 0) (by decide) hca0 hcb0 hcc0 hS1 hS2 hS3)
  refine own_step (fun _ k => XS.ifNo X114.here hx rfl (hb hby at_163) rfl ((if0 _ _).trans (teq ha115).2) k) ?_
  show own_Fin p.tables e below _ (T114.setTop (mkF m 166 #[.val (.int w0), .val (.int w1), .val (.int w2), .val (.int w3), .val (.int w4), .val (.int w5), .val (.int ca), .val (.int cb), .val (.int cc), .val (.int cd), .val (.double (Jvm.FP.i2d w3)), .second, .val (.double (Jvm.FP.i2d w4)), .second, .val (.double (Jvm.FP.i2d w5)), .second, .val (.ref b1), .val (.ref b14), .val (.ref b25), .val (.int (1 : Int32))] []))
  refine own_step (fun _ k => XS.iconst X114.here hx rfl (hb hby at_166) k) ?_
  show own_Fin p.tables e below _ (T114.setTop (mkF m 167 #[.val (.int w0), .val (.int w1), .val (.int w2), .val (.int w3), .val (.int w4), .val (.int w5), .val (.int ca), .val (.int cb), .val (.int cc), .val (.int cd), .val (.double (Jvm.FP.i2d w3)), .second, .val (.double (Jvm.FP.i2d w4)), .second, .val (.double (Jvm.FP.i2d w5)), .second, .val (.ref b1), .val (.ref b14), .val (.ref b25), .val (.int (1 : Int32))] [(.int (1 : Int32))]))
  refine own_step (fun _ k => XS.goto X114.here hx rfl (pc0 := 167) (pc' := 171) rfl (hb hby at_167) (by decide) (by decide) k) ?_
  show own_Fin p.tables e below _ (T114.setTop (mkF m 171 #[.val (.int w0), .val (.int w1), .val (.int w2), .val (.int w3), .val (.int w4), .val (.int w5), .val (.int ca), .val (.int cb), .val (.int cc), .val (.int cd), .val (.double (Jvm.FP.i2d w3)), .second, .val (.double (Jvm.FP.i2d w4)), .second, .val (.double (Jvm.FP.i2d w5)), .second, .val (.ref b1), .val (.ref b14), .val (.ref b25), .val (.int (1 : Int32))] [(.int (1 : Int32))]))
  refine own_step (fun _ k => XS.istore X114.here hx rfl (hb hby at_171) rfl (l' := #[.val (.int w0), .val (.int w1), .val (.int w2), .val (.int w3), .val (.int w4), .val (.int w5), .val (.int ca), .val (.int cb), .val (.int cc), .val (.int cd), .val (.double (Jvm.FP.i2d w3)), .second, .val (.double (Jvm.FP.i2d w4)), .second, .val (.double (Jvm.FP.i2d w5)), .second, .val (.ref b1), .val (.ref b14), .val (.ref b25), .val (.int (1 : Int32))]) rfl k) ?_
  show own_Fin p.tables e below _ (T114.setTop (mkF m 173 #[.val (.int w0), .val (.int w1), .val (.int w2), .val (.int w3), .val (.int w4), .val (.int w5), .val (.int ca), .val (.int cb), .val (.int cc), .val (.int cd), .val (.double (Jvm.FP.i2d w3)), .second, .val (.double (Jvm.FP.i2d w4)), .second, .val (.double (Jvm.FP.i2d w5)), .second, .val (.ref b1), .val (.ref b14), .val (.ref b25), .val (.int (1 : Int32))] []))
  refine own_step (fun _ k => XS.iload X114.here hx rfl (hb hby at_173) rfl k) ?_
  show own_Fin p.tables e below _ (T114.setTop (mkF m 175 #[.val (.int w0), .val (.int w1), .val (.int w2), .val (.int w3), .val (.int w4), .val (.int w5), .val (.int ca), .val (.int cb), .val (.int cc), .val (.int cd), .val (.double (Jvm.FP.i2d w3)), .second, .val (.double (Jvm.FP.i2d w4)), .second, .val (.double (Jvm.FP.i2d w5)), .second, .val (.ref b1), .val (.ref b14), .val (.ref b25), .val (.int (1 : Int32))] [(.int (1 : Int32))]))
  refine own_step (fun _ k => XS.ifNo X114.here hx rfl (hb hby at_175) rfl ((if0 _ _).trans (feq (by decide : ¬ ((1 : Int32) = (0 : Int32)))).1) k) ?_
  show own_Fin p.tables e below _ (T114.setTop (mkF m 178 #[.val (.int w0), .val (.int w1), .val (.int w2), .val (.int w3), .val (.int w4), .val (.int w5), .val (.int ca), .val (.int cb), .val (.int cc), .val (.int cd), .val (.double (Jvm.FP.i2d w3)), .second, .val (.double (Jvm.FP.i2d w4)), .second, .val (.double (Jvm.FP.i2d w5)), .second, .val (.ref b1), .val (.ref b14), .val (.ref b25), .val (.int (1 : Int32))] []))
  refine own_step (fun _ k => XS.aload X114.here hx rfl (hb hby at_178) rfl rfl k) ?_
  show own_Fin p.tables e below _ (T114.setTop (mkF m 180 #[.val (.int w0), .val (.int w1), .val (.int w2), .val (.int w3), .val (.int w4), .val (.int w5), .val (.int ca), .val (.int cb), .val (.int cc), .val (.int cd), .val (.double (Jvm.FP.i2d w3)), .second, .val (.double (Jvm.FP.i2d w4)), .second, .val (.double (Jvm.FP.i2d w5)), .second, .val (.ref b1), .val (.ref b14), .val (.ref b25), .val (.int (1 : Int32))] [(.ref b14)]))
  refine own_step (fun _ k => XS.iconst X114.here hx rfl (hb hby at_180) k) ?_
  show own_Fin p.tables e below _ (T114.setTop (mkF m 181 #[.val (.int w0), .val (.int w1), .val (.int w2), .val (.int w3), .val (.int w4), .val (.int w5), .val (.int ca), .val (.int cb), .val (.int cc), .val (.int cd), .val (.double (Jvm.FP.i2d w3)), .second, .val (.double (Jvm.FP.i2d w4)), .second, .val (.double (Jvm.FP.i2d w5)), .second, .val (.ref b1), .val (.ref b14), .val (.ref b25), .val (.int (1 : Int32))] [(.int (2 : Int32)), (.ref b14)]))
  obtain ⟨cl116, Ar116, S116, H116⟩ := id f101
  have hin116 : ¬ ((2 : Int32) < 0 ∨ cl116.slots.size ≤ ((2 : Int32)).toNatClampNeg) := own_in S116 ⟨by decide, by decide⟩
  refine own_step (own_daload X114 hx (j := (2 : Int32)) (v := (.double (O2 ((2 : Int32)).toNatClampNeg))) (by first | exact Ar116.1 | (rw [e114]; exact Ar116.1)) (State.isArrayOf_alike hZ.alike Ar116.2.1) Ar116.2.2 hin116 (H116 _ (own_in2 ⟨by decide, by decide⟩)) (g := (mkF m 181 #[.val (.int w0), .val (.int w1), .val (.int w2), .val (.int w3), .val (.int w4), .val (.int w5), .val (.int ca), .val (.int cb), .val (.int cc), .val (.int cd), .val (.double (Jvm.FP.i2d w3)), .second, .val (.double (Jvm.FP.i2d w4)), .second, .val (.double (Jvm.FP.i2d w5)), .second, .val (.ref b1), .val (.ref b14), .val (.ref b25), .val (.int (1 : Int32))] [(.int (2 : Int32)), (.ref b14)])) rfl rfl (hb hby at_181)) ?_
  show own_Fin p.tables e below _ (T114.setTop (mkF m 182 #[.val (.int w0), .val (.int w1), .val (.int w2), .val (.int w3), .val (.int w4), .val (.int w5), .val (.int ca), .val (.int cb), .val (.int cc), .val (.int cd), .val (.double (Jvm.FP.i2d w3)), .second, .val (.double (Jvm.FP.i2d w4)), .second, .val (.double (Jvm.FP.i2d w5)), .second, .val (.ref b1), .val (.ref b14), .val (.ref b25), .val (.int (1 : Int32))] [(.double (O2 ((2 : Int32)).toNatClampNeg))]))
  refine own_step (fun _ k => XS.iconst X114.here hx rfl (hb hby at_182) k) ?_
  show own_Fin p.tables e below _ (T114.setTop (mkF m 183 #[.val (.int w0), .val (.int w1), .val (.int w2), .val (.int w3), .val (.int w4), .val (.int w5), .val (.int ca), .val (.int cb), .val (.int cc), .val (.int cd), .val (.double (Jvm.FP.i2d w3)), .second, .val (.double (Jvm.FP.i2d w4)), .second, .val (.double (Jvm.FP.i2d w5)), .second, .val (.ref b1), .val (.ref b14), .val (.ref b25), .val (.int (1 : Int32))] [(.int (1 : Int32)), (.double (O2 ((2 : Int32)).toNatClampNeg))]))
  refine own_step (fun _ k => XS.iload X114.here hx rfl (hb hby at_183) rfl k) ?_
  show own_Fin p.tables e below _ (T114.setTop (mkF m 185 #[.val (.int w0), .val (.int w1), .val (.int w2), .val (.int w3), .val (.int w4), .val (.int w5), .val (.int ca), .val (.int cb), .val (.int cc), .val (.int cd), .val (.double (Jvm.FP.i2d w3)), .second, .val (.double (Jvm.FP.i2d w4)), .second, .val (.double (Jvm.FP.i2d w5)), .second, .val (.ref b1), .val (.ref b14), .val (.ref b25), .val (.int (1 : Int32))] [(.int ca), (.int (1 : Int32)), (.double (O2 ((2 : Int32)).toNatClampNeg))]))
  refine own_step (fun _ k => XS.iloadN X114.here hx rfl (hb hby at_185) rfl k) ?_
  show own_Fin p.tables e below _ (T114.setTop (mkF m 186 #[.val (.int w0), .val (.int w1), .val (.int w2), .val (.int w3), .val (.int w4), .val (.int w5), .val (.int ca), .val (.int cb), .val (.int cc), .val (.int cd), .val (.double (Jvm.FP.i2d w3)), .second, .val (.double (Jvm.FP.i2d w4)), .second, .val (.double (Jvm.FP.i2d w5)), .second, .val (.ref b1), .val (.ref b14), .val (.ref b25), .val (.int (1 : Int32))] [(.int w3), (.int ca), (.int (1 : Int32)), (.double (O2 ((2 : Int32)).toNatClampNeg))]))
  refine own_step (fun _ k => XS.i2l X114.here hx rfl (hb hby at_186) rfl k) ?_
  show own_Fin p.tables e below _ (T114.setTop (mkF m 187 #[.val (.int w0), .val (.int w1), .val (.int w2), .val (.int w3), .val (.int w4), .val (.int w5), .val (.int ca), .val (.int cb), .val (.int cc), .val (.int cd), .val (.double (Jvm.FP.i2d w3)), .second, .val (.double (Jvm.FP.i2d w4)), .second, .val (.double (Jvm.FP.i2d w5)), .second, .val (.ref b1), .val (.ref b14), .val (.ref b25), .val (.int (1 : Int32))] [(.long (w3.toInt64)), (.int ca), (.int (1 : Int32)), (.double (O2 ((2 : Int32)).toNatClampNeg))]))
  refine own_step (fun _ k => XS.iload X114.here hx rfl (hb hby at_187) rfl k) ?_
  show own_Fin p.tables e below _ (T114.setTop (mkF m 189 #[.val (.int w0), .val (.int w1), .val (.int w2), .val (.int w3), .val (.int w4), .val (.int w5), .val (.int ca), .val (.int cb), .val (.int cc), .val (.int cd), .val (.double (Jvm.FP.i2d w3)), .second, .val (.double (Jvm.FP.i2d w4)), .second, .val (.double (Jvm.FP.i2d w5)), .second, .val (.ref b1), .val (.ref b14), .val (.ref b25), .val (.int (1 : Int32))] [(.int cb), (.long (w3.toInt64)), (.int ca), (.int (1 : Int32)), (.double (O2 ((2 : Int32)).toNatClampNeg))]))
  refine own_step (fun _ k => XS.iload X114.here hx rfl (hb hby at_189) rfl k) ?_
  show own_Fin p.tables e below _ (T114.setTop (mkF m 191 #[.val (.int w0), .val (.int w1), .val (.int w2), .val (.int w3), .val (.int w4), .val (.int w5), .val (.int ca), .val (.int cb), .val (.int cc), .val (.int cd), .val (.double (Jvm.FP.i2d w3)), .second, .val (.double (Jvm.FP.i2d w4)), .second, .val (.double (Jvm.FP.i2d w5)), .second, .val (.ref b1), .val (.ref b14), .val (.ref b25), .val (.int (1 : Int32))] [(.int w4), (.int cb), (.long (w3.toInt64)), (.int ca), (.int (1 : Int32)), (.double (O2 ((2 : Int32)).toNatClampNeg))]))
  refine own_step (fun _ k => XS.i2l X114.here hx rfl (hb hby at_191) rfl k) ?_
  show own_Fin p.tables e below _ (T114.setTop (mkF m 192 #[.val (.int w0), .val (.int w1), .val (.int w2), .val (.int w3), .val (.int w4), .val (.int w5), .val (.int ca), .val (.int cb), .val (.int cc), .val (.int cd), .val (.double (Jvm.FP.i2d w3)), .second, .val (.double (Jvm.FP.i2d w4)), .second, .val (.double (Jvm.FP.i2d w5)), .second, .val (.ref b1), .val (.ref b14), .val (.ref b25), .val (.int (1 : Int32))] [(.long (w4.toInt64)), (.int cb), (.long (w3.toInt64)), (.int ca), (.int (1 : Int32)), (.double (O2 ((2 : Int32)).toNatClampNeg))]))
  refine own_step (fun _ k => XS.iload X114.here hx rfl (hb hby at_192) rfl k) ?_
  show own_Fin p.tables e below _ (T114.setTop (mkF m 194 #[.val (.int w0), .val (.int w1), .val (.int w2), .val (.int w3), .val (.int w4), .val (.int w5), .val (.int ca), .val (.int cb), .val (.int cc), .val (.int cd), .val (.double (Jvm.FP.i2d w3)), .second, .val (.double (Jvm.FP.i2d w4)), .second, .val (.double (Jvm.FP.i2d w5)), .second, .val (.ref b1), .val (.ref b14), .val (.ref b25), .val (.int (1 : Int32))] [(.int cc), (.long (w4.toInt64)), (.int cb), (.long (w3.toInt64)), (.int ca), (.int (1 : Int32)), (.double (O2 ((2 : Int32)).toNatClampNeg))]))
  refine own_step (fun _ k => XS.iload X114.here hx rfl (hb hby at_194) rfl k) ?_
  show own_Fin p.tables e below _ (T114.setTop (mkF m 196 #[.val (.int w0), .val (.int w1), .val (.int w2), .val (.int w3), .val (.int w4), .val (.int w5), .val (.int ca), .val (.int cb), .val (.int cc), .val (.int cd), .val (.double (Jvm.FP.i2d w3)), .second, .val (.double (Jvm.FP.i2d w4)), .second, .val (.double (Jvm.FP.i2d w5)), .second, .val (.ref b1), .val (.ref b14), .val (.ref b25), .val (.int (1 : Int32))] [(.int w5), (.int cc), (.long (w4.toInt64)), (.int cb), (.long (w3.toInt64)), (.int ca), (.int (1 : Int32)), (.double (O2 ((2 : Int32)).toNatClampNeg))]))
  refine own_step (fun _ k => XS.i2l X114.here hx rfl (hb hby at_196) rfl k) ?_
  show own_Fin p.tables e below _ (T114.setTop (mkF m 197 #[.val (.int w0), .val (.int w1), .val (.int w2), .val (.int w3), .val (.int w4), .val (.int w5), .val (.int ca), .val (.int cb), .val (.int cc), .val (.int cd), .val (.double (Jvm.FP.i2d w3)), .second, .val (.double (Jvm.FP.i2d w4)), .second, .val (.double (Jvm.FP.i2d w5)), .second, .val (.ref b1), .val (.ref b14), .val (.ref b25), .val (.int (1 : Int32))] [(.long (w5.toInt64)), (.int cc), (.long (w4.toInt64)), (.int cb), (.long (w3.toInt64)), (.int ca), (.int (1 : Int32)), (.double (O2 ((2 : Int32)).toNatClampNeg))]))
  obtain ⟨_, _, ⟨T117, L117, k117, n117⟩, -, X117, ⟨Lc117, hQ117, l117, y117, z117⟩, st117⟩ := Jvm.LawKit.callS X114 hx (y := (⟨"com/example/fusewright/fusewright/runtime/SumsAddPinLaw", "expect", "(IIJIJIJ)J"⟩ : MethodName)) hown (mvT hZ (hw _ (List.mem_of_getElem? (i := 34) rfl))) (mvT hZ (hw _ (List.mem_of_getElem? (i := 35) rfl))) (mvT hZ (hw _ (List.mem_of_getElem? (i := 36) rfl))) (mvT hZ (hw _ (List.mem_of_getElem? (i := 37) rfl))) (by decide) (backOf (W := 2) (rm6 l Z a0 hw [] (1 : Int32) ca (w3.toInt64) cb (w4.toInt64) cc (w5.toInt64)  T97.heap n0 f98 ) hZ (hw _ (List.mem_of_getElem? (i := 37) rfl)) (hw _ (List.mem_of_getElem? (i := 36) rfl)) (by decide) (by decide)) (g := (mkF m 197 #[.val (.int w0), .val (.int w1), .val (.int w2), .val (.int w3), .val (.int w4), .val (.int w5), .val (.int ca), .val (.int cb), .val (.int cc), .val (.int cd), .val (.double (Jvm.FP.i2d w3)), .second, .val (.double (Jvm.FP.i2d w4)), .second, .val (.double (Jvm.FP.i2d w5)), .second, .val (.ref b1), .val (.ref b14), .val (.ref b25), .val (.int (1 : Int32))] [(.long (w5.toInt64)), (.int cc), (.long (w4.toInt64)), (.int cb), (.long (w3.toInt64)), (.int ca), (.int (1 : Int32)), (.double (O2 ((2 : Int32)).toNatClampNeg))])) rfl (by rw [hml]; rfl) (argsL := [(.int (1 : Int32)), (.int ca), (.long (w3.toInt64)), (.int cb), (.long (w4.toInt64)), (.int cc), (.long (w5.toInt64))]) (rest := [(.double (O2 ((2 : Int32)).toNatClampNeg))]) (lenOf pd_4 rfl) rfl (by show 2 * 0 + _ ≤ _; exact Nat.le_of_eq rfl) (hb hby at_197) (fun _ _ => ⟨rfl, e114, (by decide : 6 + 0 ≤ _), (by decide : 26 + 0 ≤ _)⟩)
  dsimp only [Pt.U, Pt.locs, Pt.cells, Pt.slots] at X117 l117 y117 z117 st117 hQ117
  subst l117 y117 z117
  obtain ⟨rfl, N117q, e117⟩ := hQ117
  have N117 := Fr.app N114 N117q
  refine own_step st117 ?_
  show own_Fin p.tables e below _ (T117.setTop (mkF m 200 #[.val (.int w0), .val (.int w1), .val (.int w2), .val (.int w3), .val (.int w4), .val (.int w5), .val (.int ca), .val (.int cb), .val (.int cc), .val (.int cd), .val (.double (Jvm.FP.i2d w3)), .second, .val (.double (Jvm.FP.i2d w4)), .second, .val (.double (Jvm.FP.i2d w5)), .second, .val (.ref b1), .val (.ref b14), .val (.ref b25), .val (.int (1 : Int32))] [(.long (own_exp (1 : Int32) ca (w3.toInt64) cb (w4.toInt64) cc (w5.toInt64))), (.double (O2 ((2 : Int32)).toNatClampNeg))]))
  refine own_step (fun _ k => own_l2d X117.here hx rfl (hb hby at_200) rfl k) ?_
  show own_Fin p.tables e below _ (T117.setTop (mkF m 201 #[.val (.int w0), .val (.int w1), .val (.int w2), .val (.int w3), .val (.int w4), .val (.int w5), .val (.int ca), .val (.int cb), .val (.int cc), .val (.int cd), .val (.double (Jvm.FP.i2d w3)), .second, .val (.double (Jvm.FP.i2d w4)), .second, .val (.double (Jvm.FP.i2d w5)), .second, .val (.ref b1), .val (.ref b14), .val (.ref b25), .val (.int (1 : Int32))] [(.double (Jvm.FP.l2d (own_exp (1 : Int32) ca (w3.toInt64) cb (w4.toInt64) cc (w5.toInt64)))), (.double (O2 ((2 : Int32)).toNatClampNeg))]))
  refine own_step (fun _ k => own_dcmpl X117.here hx rfl (hb hby at_201) rfl k) ?_
  show own_Fin p.tables e below _ (T117.setTop (mkF m 202 #[.val (.int w0), .val (.int w1), .val (.int w2), .val (.int w3), .val (.int w4), .val (.int w5), .val (.int ca), .val (.int cb), .val (.int cc), .val (.int cd), .val (.double (Jvm.FP.i2d w3)), .second, .val (.double (Jvm.FP.i2d w4)), .second, .val (.double (Jvm.FP.i2d w5)), .second, .val (.ref b1), .val (.ref b14), .val (.ref b25), .val (.int (1 : Int32))] [(.int (Op.cmpValue (Jvm.FP.dcmp (O2 ((2 : Int32)).toNatClampNeg) (Jvm.FP.l2d (own_exp (1 : Int32) ca (w3.toInt64) cb (w4.toInt64) cc (w5.toInt64)))) .l))]))
  have ha118 : (Op.cmpValue (Jvm.FP.dcmp (O2 ((2 : Int32)).toNatClampNeg) (Jvm.FP.l2d (own_exp (1 : Int32) ca (w3.toInt64) cb (w4.toInt64) cc (w5.toInt64)))) .l) = (0 : Int32) := by
    have e1 : ((2 : Int32)).toNatClampNeg = (1 : Int32).toInt.toNat + 1 := by decide
    rw [e1]
    exact own_isd.eq (hO2 1 (by decide)) (own_expS (kN := 1) (by decide) hca0 hcb0 hcc0 hS1 hS2 hS3)
  refine own_step (fun _ k => XS.ifNo X117.here hx rfl (hb hby at_202) rfl ((if0 _ _).trans (teq ha118).2) k) ?_
  show own_Fin p.tables e below _ (T117.setTop (mkF m 205 #[.val (.int w0), .val (.int w1), .val (.int w2), .val (.int w3), .val (.int w4), .val (.int w5), .val (.int ca), .val (.int cb), .val (.int cc), .val (.int cd), .val (.double (Jvm.FP.i2d w3)), .second, .val (.double (Jvm.FP.i2d w4)), .second, .val (.double (Jvm.FP.i2d w5)), .second, .val (.ref b1), .val (.ref b14), .val (.ref b25), .val (.int (1 : Int32))] []))
  refine own_step (fun _ k => XS.iconst X117.here hx rfl (hb hby at_205) k) ?_
  show own_Fin p.tables e below _ (T117.setTop (mkF m 206 #[.val (.int w0), .val (.int w1), .val (.int w2), .val (.int w3), .val (.int w4), .val (.int w5), .val (.int ca), .val (.int cb), .val (.int cc), .val (.int cd), .val (.double (Jvm.FP.i2d w3)), .second, .val (.double (Jvm.FP.i2d w4)), .second, .val (.double (Jvm.FP.i2d w5)), .second, .val (.ref b1), .val (.ref b14), .val (.ref b25), .val (.int (1 : Int32))] [(.int (1 : Int32))]))
  refine own_step (fun _ k => XS.goto X117.here hx rfl (pc0 := 206) (pc' := 210) rfl (hb hby at_206) (by decide) (by decide) k) ?_
  show own_Fin p.tables e below _ (T117.setTop (mkF m 210 #[.val (.int w0), .val (.int w1), .val (.int w2), .val (.int w3), .val (.int w4), .val (.int w5), .val (.int ca), .val (.int cb), .val (.int cc), .val (.int cd), .val (.double (Jvm.FP.i2d w3)), .second, .val (.double (Jvm.FP.i2d w4)), .second, .val (.double (Jvm.FP.i2d w5)), .second, .val (.ref b1), .val (.ref b14), .val (.ref b25), .val (.int (1 : Int32))] [(.int (1 : Int32))]))
  refine own_step (fun _ k => XS.istore X117.here hx rfl (hb hby at_210) rfl (l' := #[.val (.int w0), .val (.int w1), .val (.int w2), .val (.int w3), .val (.int w4), .val (.int w5), .val (.int ca), .val (.int cb), .val (.int cc), .val (.int cd), .val (.double (Jvm.FP.i2d w3)), .second, .val (.double (Jvm.FP.i2d w4)), .second, .val (.double (Jvm.FP.i2d w5)), .second, .val (.ref b1), .val (.ref b14), .val (.ref b25), .val (.int (1 : Int32))]) rfl k) ?_
  show own_Fin p.tables e below _ (T117.setTop (mkF m 212 #[.val (.int w0), .val (.int w1), .val (.int w2), .val (.int w3), .val (.int w4), .val (.int w5), .val (.int ca), .val (.int cb), .val (.int cc), .val (.int cd), .val (.double (Jvm.FP.i2d w3)), .second, .val (.double (Jvm.FP.i2d w4)), .second, .val (.double (Jvm.FP.i2d w5)), .second, .val (.ref b1), .val (.ref b14), .val (.ref b25), .val (.int (1 : Int32))] []))
  refine own_step (fun _ k => XS.iload X117.here hx rfl (hb hby at_212) rfl k) ?_
  show own_Fin p.tables e below _ (T117.setTop (mkF m 214 #[.val (.int w0), .val (.int w1), .val (.int w2), .val (.int w3), .val (.int w4), .val (.int w5), .val (.int ca), .val (.int cb), .val (.int cc), .val (.int cd), .val (.double (Jvm.FP.i2d w3)), .second, .val (.double (Jvm.FP.i2d w4)), .second, .val (.double (Jvm.FP.i2d w5)), .second, .val (.ref b1), .val (.ref b14), .val (.ref b25), .val (.int (1 : Int32))] [(.int (1 : Int32))]))
  refine own_step (fun _ k => XS.ifNo X117.here hx rfl (hb hby at_214) rfl ((if0 _ _).trans (feq (by decide : ¬ ((1 : Int32) = (0 : Int32)))).1) k) ?_
  show own_Fin p.tables e below _ (T117.setTop (mkF m 217 #[.val (.int w0), .val (.int w1), .val (.int w2), .val (.int w3), .val (.int w4), .val (.int w5), .val (.int ca), .val (.int cb), .val (.int cc), .val (.int cd), .val (.double (Jvm.FP.i2d w3)), .second, .val (.double (Jvm.FP.i2d w4)), .second, .val (.double (Jvm.FP.i2d w5)), .second, .val (.ref b1), .val (.ref b14), .val (.ref b25), .val (.int (1 : Int32))] []))
  refine own_step (fun _ k => XS.aload X117.here hx rfl (hb hby at_217) rfl rfl k) ?_
  show own_Fin p.tables e below _ (T117.setTop (mkF m 219 #[.val (.int w0), .val (.int w1), .val (.int w2), .val (.int w3), .val (.int w4), .val (.int w5), .val (.int ca), .val (.int cb), .val (.int cc), .val (.int cd), .val (.double (Jvm.FP.i2d w3)), .second, .val (.double (Jvm.FP.i2d w4)), .second, .val (.double (Jvm.FP.i2d w5)), .second, .val (.ref b1), .val (.ref b14), .val (.ref b25), .val (.int (1 : Int32))] [(.ref b14)]))
  refine own_step (fun _ k => XS.iconst X117.here hx rfl (hb hby at_219) k) ?_
  show own_Fin p.tables e below _ (T117.setTop (mkF m 220 #[.val (.int w0), .val (.int w1), .val (.int w2), .val (.int w3), .val (.int w4), .val (.int w5), .val (.int ca), .val (.int cb), .val (.int cc), .val (.int cd), .val (.double (Jvm.FP.i2d w3)), .second, .val (.double (Jvm.FP.i2d w4)), .second, .val (.double (Jvm.FP.i2d w5)), .second, .val (.ref b1), .val (.ref b14), .val (.ref b25), .val (.int (1 : Int32))] [(.int (3 : Int32)), (.ref b14)]))
  obtain ⟨cl119, Ar119, S119, H119⟩ := id f101
  have hin119 : ¬ ((3 : Int32) < 0 ∨ cl119.slots.size ≤ ((3 : Int32)).toNatClampNeg) := own_in S119 ⟨by decide, by decide⟩
  refine own_step (own_daload X117 hx (j := (3 : Int32)) (v := (.double (O2 ((3 : Int32)).toNatClampNeg))) (by first | exact Ar119.1 | (rw [e117]; exact Ar119.1)) (State.isArrayOf_alike hZ.alike Ar119.2.1) Ar119.2.2 hin119 (H119 _ (own_in2 ⟨by decide, by decide⟩)) (g := (mkF m 220 #[.val (.int w0), .val (.int w1), .val (.int w2), .val (.int w3), .val (.int w4), .val (.int w5), .val (.int ca), .val (.int cb), .val (.int cc), .val (.int cd), .val (.double (Jvm.FP.i2d w3)), .second, .val (.double (Jvm.FP.i2d w4)), .second, .val (.double (Jvm.FP.i2d w5)), .second, .val (.ref b1), .val (.ref b14), .val (.ref b25), .val (.int (1 : Int32))] [(.int (3 : Int32)), (.ref b14)])) rfl rfl (hb hby at_220)) ?_
  show own_Fin p.tables e below _ (T117.setTop (mkF m 221 #[.val (.int w0), .val (.int w1), .val (.int w2), .val (.int w3), .val (.int w4), .val (.int w5), .val (.int ca), .val (.int cb), .val (.int cc), .val (.int cd), .val (.double (Jvm.FP.i2d w3)), .second, .val (.double (Jvm.FP.i2d w4)), .second, .val (.double (Jvm.FP.i2d w5)), .second, .val (.ref b1), .val (.ref b14), .val (.ref b25), .val (.int (1 : Int32))] [(.double (O2 ((3 : Int32)).toNatClampNeg))]))
  refine own_step (fun _ k => XS.iconst X117.here hx rfl (hb hby at_221) k) ?_
  show own_Fin p.tables e below _ (T117.setTop (mkF m 222 #[.val (.int w0), .val (.int w1), .val (.int w2), .val (.int w3), .val (.int w4), .val (.int w5), .val (.int ca), .val (.int cb), .val (.int cc), .val (.int cd), .val (.double (Jvm.FP.i2d w3)), .second, .val (.double (Jvm.FP.i2d w4)), .second, .val (.double (Jvm.FP.i2d w5)), .second, .val (.ref b1), .val (.ref b14), .val (.ref b25), .val (.int (1 : Int32))] [(.int (2 : Int32)), (.double (O2 ((3 : Int32)).toNatClampNeg))]))
  refine own_step (fun _ k => XS.iload X117.here hx rfl (hb hby at_222) rfl k) ?_
  show own_Fin p.tables e below _ (T117.setTop (mkF m 224 #[.val (.int w0), .val (.int w1), .val (.int w2), .val (.int w3), .val (.int w4), .val (.int w5), .val (.int ca), .val (.int cb), .val (.int cc), .val (.int cd), .val (.double (Jvm.FP.i2d w3)), .second, .val (.double (Jvm.FP.i2d w4)), .second, .val (.double (Jvm.FP.i2d w5)), .second, .val (.ref b1), .val (.ref b14), .val (.ref b25), .val (.int (1 : Int32))] [(.int ca), (.int (2 : Int32)), (.double (O2 ((3 : Int32)).toNatClampNeg))]))
  refine own_step (fun _ k => XS.iloadN X117.here hx rfl (hb hby at_224) rfl k) ?_
  show own_Fin p.tables e below _ (T117.setTop (mkF m 225 #[.val (.int w0), .val (.int w1), .val (.int w2), .val (.int w3), .val (.int w4), .val (.int w5), .val (.int ca), .val (.int cb), .val (.int cc), .val (.int cd), .val (.double (Jvm.FP.i2d w3)), .second, .val (.double (Jvm.FP.i2d w4)), .second, .val (.double (Jvm.FP.i2d w5)), .second, .val (.ref b1), .val (.ref b14), .val (.ref b25), .val (.int (1 : Int32))] [(.int w3), (.int ca), (.int (2 : Int32)), (.double (O2 ((3 : Int32)).toNatClampNeg))]))
  refine own_step (fun _ k => XS.i2l X117.here hx rfl (hb hby at_225) rfl k) ?_
  show own_Fin p.tables e below _ (T117.setTop (mkF m 226 #[.val (.int w0), .val (.int w1), .val (.int w2), .val (.int w3), .val (.int w4), .val (.int w5), .val (.int ca), .val (.int cb), .val (.int cc), .val (.int cd), .val (.double (Jvm.FP.i2d w3)), .second, .val (.double (Jvm.FP.i2d w4)), .second, .val (.double (Jvm.FP.i2d w5)), .second, .val (.ref b1), .val (.ref b14), .val (.ref b25), .val (.int (1 : Int32))] [(.long (w3.toInt64)), (.int ca), (.int (2 : Int32)), (.double (O2 ((3 : Int32)).toNatClampNeg))]))
  refine own_step (fun _ k => XS.iload X117.here hx rfl (hb hby at_226) rfl k) ?_
  show own_Fin p.tables e below _ (T117.setTop (mkF m 228 #[.val (.int w0), .val (.int w1), .val (.int w2), .val (.int w3), .val (.int w4), .val (.int w5), .val (.int ca), .val (.int cb), .val (.int cc), .val (.int cd), .val (.double (Jvm.FP.i2d w3)), .second, .val (.double (Jvm.FP.i2d w4)), .second, .val (.double (Jvm.FP.i2d w5)), .second, .val (.ref b1), .val (.ref b14), .val (.ref b25), .val (.int (1 : Int32))] [(.int cb), (.long (w3.toInt64)), (.int ca), (.int (2 : Int32)), (.double (O2 ((3 : Int32)).toNatClampNeg))]))
  refine own_step (fun _ k => XS.iload X117.here hx rfl (hb hby at_228) rfl k) ?_
  show own_Fin p.tables e below _ (T117.setTop (mkF m 230 #[.val (.int w0), .val (.int w1), .val (.int w2), .val (.int w3), .val (.int w4), .val (.int w5), .val (.int ca), .val (.int cb), .val (.int cc), .val (.int cd), .val (.double (Jvm.FP.i2d w3)), .second, .val (.double (Jvm.FP.i2d w4)), .second, .val (.double (Jvm.FP.i2d w5)), .second, .val (.ref b1), .val (.ref b14), .val (.ref b25), .val (.int (1 : Int32))] [(.int w4), (.int cb), (.long (w3.toInt64)), (.int ca), (.int (2 : Int32)), (.double (O2 ((3 : Int32)).toNatClampNeg))]))
  refine own_step (fun _ k => XS.i2l X117.here hx rfl (hb hby at_230) rfl k) ?_
  show own_Fin p.tables e below _ (T117.setTop (mkF m 231 #[.val (.int w0), .val (.int w1), .val (.int w2), .val (.int w3), .val (.int w4), .val (.int w5), .val (.int ca), .val (.int cb), .val (.int cc), .val (.int cd), .val (.double (Jvm.FP.i2d w3)), .second, .val (.double (Jvm.FP.i2d w4)), .second, .val (.double (Jvm.FP.i2d w5)), .second, .val (.ref b1), .val (.ref b14), .val (.ref b25), .val (.int (1 : Int32))] [(.long (w4.toInt64)), (.int cb), (.long (w3.toInt64)), (.int ca), (.int (2 : Int32)), (.double (O2 ((3 : Int32)).toNatClampNeg))]))
  refine own_step (fun _ k => XS.iload X117.here hx rfl (hb hby at_231) rfl k) ?_
  show own_Fin p.tables e below _ (T117.setTop (mkF m 233 #[.val (.int w0), .val (.int w1), .val (.int w2), .val (.int w3), .val (.int w4), .val (.int w5), .val (.int ca), .val (.int cb), .val (.int cc), .val (.int cd), .val (.double (Jvm.FP.i2d w3)), .second, .val (.double (Jvm.FP.i2d w4)), .second, .val (.double (Jvm.FP.i2d w5)), .second, .val (.ref b1), .val (.ref b14), .val (.ref b25), .val (.int (1 : Int32))] [(.int cc), (.long (w4.toInt64)), (.int cb), (.long (w3.toInt64)), (.int ca), (.int (2 : Int32)), (.double (O2 ((3 : Int32)).toNatClampNeg))]))
  refine own_step (fun _ k => XS.iload X117.here hx rfl (hb hby at_233) rfl k) ?_
  show own_Fin p.tables e below _ (T117.setTop (mkF m 235 #[.val (.int w0), .val (.int w1), .val (.int w2), .val (.int w3), .val (.int w4), .val (.int w5), .val (.int ca), .val (.int cb), .val (.int cc), .val (.int cd), .val (.double (Jvm.FP.i2d w3)), .second, .val (.double (Jvm.FP.i2d w4)), .second, .val (.double (Jvm.FP.i2d w5)), .second, .val (.ref b1), .val (.ref b14), .val (.ref b25), .val (.int (1 : Int32))] [(.int w5), (.int cc), (.long (w4.toInt64)), (.int cb), (.long (w3.toInt64)), (.int ca), (.int (2 : Int32)), (.double (O2 ((3 : Int32)).toNatClampNeg))]))
  refine own_step (fun _ k => XS.i2l X117.here hx rfl (hb hby at_235) rfl k) ?_
  show own_Fin p.tables e below _ (T117.setTop (mkF m 236 #[.val (.int w0), .val (.int w1), .val (.int w2), .val (.int w3), .val (.int w4), .val (.int w5), .val (.int ca), .val (.int cb), .val (.int cc), .val (.int cd), .val (.double (Jvm.FP.i2d w3)), .second, .val (.double (Jvm.FP.i2d w4)), .second, .val (.double (Jvm.FP.i2d w5)), .second, .val (.ref b1), .val (.ref b14), .val (.ref b25), .val (.int (1 : Int32))] [(.long (w5.toInt64)), (.int cc), (.long (w4.toInt64)), (.int cb), (.long (w3.toInt64)), (.int ca), (.int (2 : Int32)), (.double (O2 ((3 : Int32)).toNatClampNeg))]))
  obtain ⟨_, _, ⟨T120, L120, k120, n120⟩, -, X120, ⟨Lc120, hQ120, l120, y120, z120⟩, st120⟩ := Jvm.LawKit.callS X117 hx (y := (⟨"com/example/fusewright/fusewright/runtime/SumsAddPinLaw", "expect", "(IIJIJIJ)J"⟩ : MethodName)) hown (mvT hZ (hw _ (List.mem_of_getElem? (i := 34) rfl))) (mvT hZ (hw _ (List.mem_of_getElem? (i := 35) rfl))) (mvT hZ (hw _ (List.mem_of_getElem? (i := 36) rfl))) (mvT hZ (hw _ (List.mem_of_getElem? (i := 37) rfl))) (by decide) (backOf (W := 2) (rm6 l Z a0 hw [] (2 : Int32) ca (w3.toInt64) cb (w4.toInt64) cc (w5.toInt64)  T97.heap n0 f98 ) hZ (hw _ (List.mem_of_getElem? (i := 37) rfl)) (hw _ (List.mem_of_getElem? (i := 36) rfl)) (by decide) (by decide)) (g := (mkF m 236 #[.val (.int w0), .val (.int w1), .val (.int w2), .val (.int w3), .val (.int w4), .val (.int w5), .val (.int ca), .val (.int cb), .val (.int cc), .val (.int cd), .val (.double (Jvm.FP.i2d w3)), .second, .val (.double (Jvm.FP.i2d w4)), .second, .val (.double (Jvm.FP.i2d w5)), .second, .val (.ref b1), .val (.ref b14), .val (.ref b25), .val (.int (1 : Int32))] [(.long (w5.toInt64)), (.int cc), (.long (w4.toInt64)), (.int cb), (.long (w3.toInt64)), (.int ca), (.int (2 : Int32)), (.double (O2 ((3 : Int32)).toNatClampNeg))])) rfl (by rw [hml]; rfl) (argsL := [(.int (2 : Int32)), (.int ca), (.long (w3.toInt64)), (.int cb), (.long (w4.toInt64)), (.int cc), (.long (w5.toInt64))]) (rest := [(.double (O2 ((3 : Int32)).toNatClampNeg))]) (lenOf pd_4 rfl) rfl (by show 2 * 0 + _ ≤ _; exact Nat.le_of_eq rfl) (hb hby at_236) (fun _ _ => ⟨rfl, e117, (by decide : 6 + 0 ≤ _), (by decide : 26 + 0 ≤ _)⟩)
  dsimp only [Pt.U, Pt.locs, Pt.cells, Pt.slots] at X120 l120 y120 z120 st120 hQ120
  subst l120 y120 z120
  obtain ⟨rfl, N120q, e120⟩ := hQ120
  have N120 := Fr.app N117 N120q
  refine own_step st120 ?_
  show own_Fin p.tables e below _ (T120.setTop (mkF m 239 #[.val (.int w0), .val (.int w1), .val (.int w2), .val (.int w3), .val (.int w4), .val (.int w5), .val (.int ca), .val (.int cb), .val (.int cc), .val (.int cd), .val (.double (Jvm.FP.i2d w3)), .second, .val (.double (Jvm.FP.i2d w4)), .second, .val (.double (Jvm.FP.i2d w5)), .second, .val (.ref b1), .val (.ref b14), .val (.ref b25), .val (.int (1 : Int32))] [(.long (own_exp (2 : Int32) ca (w3.toInt64) cb (w4.toInt64) cc (w5.toInt64))), (.double (O2 ((3 : Int32)).toNatClampNeg))]))
  refine own_step (fun _ k => own_l2d X120.here hx rfl (hb hby at_239) rfl k) ?_
  show own_Fin p.tables e below _ (T120.setTop (mkF m 240 #[.val (.int w0), .val (.int w1), .val (.int w2), .val (.int w3), .val (.int w4), .val (.int w5), .val (.int ca), .val (.int cb), .val (.int cc), .val (.int cd), .val (.double (Jvm.FP.i2d w3)), .second, .val (.double (Jvm.FP.i2d w4)), .second, .val (.double (Jvm.FP.i2d w5)), .second, .val (.ref b1), .val (.ref b14), .val (.ref b25), .val (.int (1 : Int32))] [(.double (Jvm.FP.l2d (own_exp (2 : Int32) ca (w3.toInt64) cb (w4.toInt64) cc (w5.toInt64)))), (.double (O2 ((3 : Int32)).toNatClampNeg))]))
  refine own_step (fun _ k => own_dcmpl X120.here hx rfl (hb hby at_240) rfl k) ?_
  show own_Fin p.tables e below _ (T120.setTop (mkF m 241 #[.val (.int w0), .val (.int w1), .val (.int w2), .val (.int w3), .val (.int w4), .val (.int w5), .val (.int ca), .val (.int cb), .val (.int cc), .val (.int cd), .val (.double (Jvm.FP.i2d w3)), .second, .val (.double (Jvm.FP.i2d w4)), .second, .val (.double (Jvm.FP.i2d w5)), .second, .val (.ref b1), .val (.ref b14), .val (.ref b25), .val (.int (1 : Int32))] [(.int (Op.cmpValue (Jvm.FP.dcmp (O2 ((3 : Int32)).toNatClampNeg) (Jvm.FP.l2d (own_exp (2 : Int32) ca (w3.toInt64) cb (w4.toInt64) cc (w5.toInt64)))) .l))]))
  have ha121 : (Op.cmpValue (Jvm.FP.dcmp (O2 ((3 : Int32)).toNatClampNeg) (Jvm.FP.l2d (own_exp (2 : Int32) ca (w3.toInt64) cb (w4.toInt64) cc (w5.toInt64)))) .l) = (0 : Int32) := by
    have e1 : ((3 : Int32)).toNatClampNeg = (1 : Int32).toInt.toNat + 2 := by decide
    rw [e1]
    exact own_isd.eq (hO2 2 (by decide)) (own_expS (kN := 2) (by decide) hca0 hcb0 hcc0 hS1 hS2 hS3)
  refine own_step (fun _ k => XS.ifNo X120.here hx rfl (hb hby at_241) rfl ((if0 _ _).trans (teq ha121).2) k) ?_
  show own_Fin p.tables e below _ (T120.setTop (mkF m 244 #[.val (.int w0), .val (.int w1), .val (.int w2), .val (.int w3), .val (.int w4), .val (.int w5), .val (.int ca), .val (.int cb), .val (.int cc), .val (.int cd), .val (.double (Jvm.FP.i2d w3)), .second, .val (.double (Jvm.FP.i2d w4)), .second, .val (.double (Jvm.FP.i2d w5)), .second, .val (.ref b1), .val (.ref b14), .val (.ref b25), .val (.int (1 : Int32))] []))
  refine own_step (fun _ k => XS.iconst X120.here hx rfl (hb hby at_244) k) ?_
  show own_Fin p.tables e below _ (T120.setTop (mkF m 245 #[.val (.int w0), .val (.int w1), .val (.int w2), .val (.int w3), .val (.int w4), .val (.int w5), .val (.int ca), .val (.int cb), .val (.int cc), .val (.int cd), .val (.double (Jvm.FP.i2d w3)), .second, .val (.double (Jvm.FP.i2d w4)), .second, .val (.double (Jvm.FP.i2d w5)), .second, .val (.ref b1), .val (.ref b14), .val (.ref b25), .val (.int (1 : Int32))] [(.int (1 : Int32))]))
  refine own_step (fun _ k => XS.goto X120.here hx rfl (pc0 := 245) (pc' := 249) rfl (hb hby at_245) (by decide) (by decide) k) ?_
  show own_Fin p.tables e below _ (T120.setTop (mkF m 249 #[.val (.int w0), .val (.int w1), .val (.int w2), .val (.int w3), .val (.int w4), .val (.int w5), .val (.int ca), .val (.int cb), .val (.int cc), .val (.int cd), .val (.double (Jvm.FP.i2d w3)), .second, .val (.double (Jvm.FP.i2d w4)), .second, .val (.double (Jvm.FP.i2d w5)), .second, .val (.ref b1), .val (.ref b14), .val (.ref b25), .val (.int (1 : Int32))] [(.int (1 : Int32))]))
  refine own_step (fun _ k => XS.istore X120.here hx rfl (hb hby at_249) rfl (l' := #[.val (.int w0), .val (.int w1), .val (.int w2), .val (.int w3), .val (.int w4), .val (.int w5), .val (.int ca), .val (.int cb), .val (.int cc), .val (.int cd), .val (.double (Jvm.FP.i2d w3)), .second, .val (.double (Jvm.FP.i2d w4)), .second, .val (.double (Jvm.FP.i2d w5)), .second, .val (.ref b1), .val (.ref b14), .val (.ref b25), .val (.int (1 : Int32))]) rfl k) ?_
  show own_Fin p.tables e below _ (T120.setTop (mkF m 251 #[.val (.int w0), .val (.int w1), .val (.int w2), .val (.int w3), .val (.int w4), .val (.int w5), .val (.int ca), .val (.int cb), .val (.int cc), .val (.int cd), .val (.double (Jvm.FP.i2d w3)), .second, .val (.double (Jvm.FP.i2d w4)), .second, .val (.double (Jvm.FP.i2d w5)), .second, .val (.ref b1), .val (.ref b14), .val (.ref b25), .val (.int (1 : Int32))] []))
  refine own_step (fun _ k => XS.iload X120.here hx rfl (hb hby at_251) rfl k) ?_
  show own_Fin p.tables e below _ (T120.setTop (mkF m 253 #[.val (.int w0), .val (.int w1), .val (.int w2), .val (.int w3), .val (.int w4), .val (.int w5), .val (.int ca), .val (.int cb), .val (.int cc), .val (.int cd), .val (.double (Jvm.FP.i2d w3)), .second, .val (.double (Jvm.FP.i2d w4)), .second, .val (.double (Jvm.FP.i2d w5)), .second, .val (.ref b1), .val (.ref b14), .val (.ref b25), .val (.int (1 : Int32))] [(.int (1 : Int32))]))
  refine own_step (fun _ k => XS.ifNo X120.here hx rfl (hb hby at_253) rfl ((if0 _ _).trans (feq (by decide : ¬ ((1 : Int32) = (0 : Int32)))).1) k) ?_
  show own_Fin p.tables e below _ (T120.setTop (mkF m 256 #[.val (.int w0), .val (.int w1), .val (.int w2), .val (.int w3), .val (.int w4), .val (.int w5), .val (.int ca), .val (.int cb), .val (.int cc), .val (.int cd), .val (.double (Jvm.FP.i2d w3)), .second, .val (.double (Jvm.FP.i2d w4)), .second, .val (.double (Jvm.FP.i2d w5)), .second, .val (.ref b1), .val (.ref b14), .val (.ref b25), .val (.int (1 : Int32))] []))
  refine own_step (fun _ k => XS.aload X120.here hx rfl (hb hby at_256) rfl rfl k) ?_
  show own_Fin p.tables e below _ (T120.setTop (mkF m 258 #[.val (.int w0), .val (.int w1), .val (.int w2), .val (.int w3), .val (.int w4), .val (.int w5), .val (.int ca), .val (.int cb), .val (.int cc), .val (.int cd), .val (.double (Jvm.FP.i2d w3)), .second, .val (.double (Jvm.FP.i2d w4)), .second, .val (.double (Jvm.FP.i2d w5)), .second, .val (.ref b1), .val (.ref b14), .val (.ref b25), .val (.int (1 : Int32))] [(.ref b14)]))
  refine own_step (fun _ k => XS.iconst X120.here hx rfl (hb hby at_258) k) ?_
  show own_Fin p.tables e below _ (T120.setTop (mkF m 259 #[.val (.int w0), .val (.int w1), .val (.int w2), .val (.int w3), .val (.int w4), .val (.int w5), .val (.int ca), .val (.int cb), .val (.int cc), .val (.int cd), .val (.double (Jvm.FP.i2d w3)), .second, .val (.double (Jvm.FP.i2d w4)), .second, .val (.double (Jvm.FP.i2d w5)), .second, .val (.ref b1), .val (.ref b14), .val (.ref b25), .val (.int (1 : Int32))] [(.int (4 : Int32)), (.ref b14)]))
  obtain ⟨cl122, Ar122, S122, H122⟩ := id f101
  have hin122 : ¬ ((4 : Int32) < 0 ∨ cl122.slots.size ≤ ((4 : Int32)).toNatClampNeg) := own_in S122 ⟨by decide, by decide⟩
  refine own_step (own_daload X120 hx (j := (4 : Int32)) (v := (.double (O2 ((4 : Int32)).toNatClampNeg))) (by first | exact Ar122.1 | (rw [e120]; exact Ar122.1)) (State.isArrayOf_alike hZ.alike Ar122.2.1) Ar122.2.2 hin122 (H122 _ (own_in2 ⟨by decide, by decide⟩)) (g := (mkF m 259 #[.val (.int w0), .val (.int w1), .val (.int w2), .val (.int w3), .val (.int w4), .val (.int w5), .val (.int ca), .val (.int cb), .val (.int cc), .val (.int cd), .val (.double (Jvm.FP.i2d w3)), .second, .val (.double (Jvm.FP.i2d w4)), .second, .val (.double (Jvm.FP.i2d w5)), .second, .val (.ref b1), .val (.ref b14), .val (.ref b25), .val (.int (1 : Int32))] [(.int (4 : Int32)), (.ref b14)])) rfl rfl (hb hby at_259)) ?_
  show own_Fin p.tables e below _ (T120.setTop (mkF m 260 #[.val (.int w0), .val (.int w1), .val (.int w2), .val (.int w3), .val (.int w4), .val (.int w5), .val (.int ca), .val (.int cb), .val (.int cc), .val (.int cd), .val (.double (Jvm.FP.i2d w3)), .second, .val (.double (Jvm.FP.i2d w4)), .second, .val (.double (Jvm.FP.i2d w5)), .second, .val (.ref b1), .val (.ref b14), .val (.ref b25), .val (.int (1 : Int32))] [(.double (O2 ((4 : Int32)).toNatClampNeg))]))
  refine own_step (fun _ k => XS.iconst X120.here hx rfl (hb hby at_260) k) ?_
  show own_Fin p.tables e below _ (T120.setTop (mkF m 261 #[.val (.int w0), .val (.int w1), .val (.int w2), .val (.int w3), .val (.int w4), .val (.int w5), .val (.int ca), .val (.int cb), .val (.int cc), .val (.int cd), .val (.double (Jvm.FP.i2d w3)), .second, .val (.double (Jvm.FP.i2d w4)), .second, .val (.double (Jvm.FP.i2d w5)), .second, .val (.ref b1), .val (.ref b14), .val (.ref b25), .val (.int (1 : Int32))] [(.int (3 : Int32)), (.double (O2 ((4 : Int32)).toNatClampNeg))]))
  refine own_step (fun _ k => XS.iload X120.here hx rfl (hb hby at_261) rfl k) ?_
  show own_Fin p.tables e below _ (T120.setTop (mkF m 263 #[.val (.int w0), .val (.int w1), .val (.int w2), .val (.int w3), .val (.int w4), .val (.int w5), .val (.int ca), .val (.int cb), .val (.int cc), .val (.int cd), .val (.double (Jvm.FP.i2d w3)), .second, .val (.double (Jvm.FP.i2d w4)), .second, .val (.double (Jvm.FP.i2d w5)), .second, .val (.ref b1), .val (.ref b14), .val (.ref b25), .val (.int (1 : Int32))] [(.int ca), (.int (3 : Int32)), (.double (O2 ((4 : Int32)).toNatClampNeg))]))
  refine own_step (fun _ k => XS.iloadN X120.here hx rfl (hb hby at_263) rfl k) ?_
  show own_Fin p.tables e below _ (T120.setTop (mkF m 264 #[.val (.int w0), .val (.int w1), .val (.int w2), .val (.int w3), .val (.int w4), .val (.int w5), .val (.int ca), .val (.int cb), .val (.int cc), .val (.int cd), .val (.double (Jvm.FP.i2d w3)), .second, .val (.double (Jvm.FP.i2d w4)), .second, .val (.double (Jvm.FP.i2d w5)), .second, .val (.ref b1), .val (.ref b14), .val (.ref b25), .val (.int (1 : Int32))] [(.int w3), (.int ca), (.int (3 : Int32)), (.double (O2 ((4 : Int32)).toNatClampNeg))]))
  refine own_step (fun _ k => XS.i2l X120.here hx rfl (hb hby at_264) rfl k) ?_
  show own_Fin p.tables e below _ (T120.setTop (mkF m 265 #[.val (.int w0), .val (.int w1), .val (.int w2), .val (.int w3), .val (.int w4), .val (.int w5), .val (.int ca), .val (.int cb), .val (.int cc), .val (.int cd), .val (.double (Jvm.FP.i2d w3)), .second, .val (.double (Jvm.FP.i2d w4)), .second, .val (.double (Jvm.FP.i2d w5)), .second, .val (.ref b1), .val (.ref b14), .val (.ref b25), .val (.int (1 : Int32))] [(.long (w3.toInt64)), (.int ca), (.int (3 : Int32)), (.double (O2 ((4 : Int32)).toNatClampNeg))]))
  refine own_step (fun _ k => XS.iload X120.here hx rfl (hb hby at_265) rfl k) ?_
  show own_Fin p.tables e below _ (T120.setTop (mkF m 267 #[.val (.int w0), .val (.int w1), .val (.int w2), .val (.int w3), .val (.int w4), .val (.int w5), .val (.int ca), .val (.int cb), .val (.int cc), .val (.int cd), .val (.double (Jvm.FP.i2d w3)), .second, .val (.double (Jvm.FP.i2d w4)), .second, .val (.double (Jvm.FP.i2d w5)), .second, .val (.ref b1), .val (.ref b14), .val (.ref b25), .val (.int (1 : Int32))] [(.int cb), (.long (w3.toInt64)), (.int ca), (.int (3 : Int32)), (.double (O2 ((4 : Int32)).toNatClampNeg))]))
  refine own_step (fun _ k => XS.iload X120.here hx rfl (hb hby at_267) rfl k) ?_
  show own_Fin p.tables e below _ (T120.setTop (mkF m 269 #[.val (.int w0), .val (.int w1), .val (.int w2), .val (.int w3), .val (.int w4), .val (.int w5), .val (.int ca), .val (.int cb), .val (.int cc), .val (.int cd), .val (.double (Jvm.FP.i2d w3)), .second, .val (.double (Jvm.FP.i2d w4)), .second, .val (.double (Jvm.FP.i2d w5)), .second, .val (.ref b1), .val (.ref b14), .val (.ref b25), .val (.int (1 : Int32))] [(.int w4), (.int cb), (.long (w3.toInt64)), (.int ca), (.int (3 : Int32)), (.double (O2 ((4 : Int32)).toNatClampNeg))]))
  refine own_step (fun _ k => XS.i2l X120.here hx rfl (hb hby at_269) rfl k) ?_
  show own_Fin p.tables e below _ (T120.setTop (mkF m 270 #[.val (.int w0), .val (.int w1), .val (.int w2), .val (.int w3), .val (.int w4), .val (.int w5), .val (.int ca), .val (.int cb), .val (.int cc), .val (.int cd), .val (.double (Jvm.FP.i2d w3)), .second, .val (.double (Jvm.FP.i2d w4)), .second, .val (.double (Jvm.FP.i2d w5)), .second, .val (.ref b1), .val (.ref b14), .val (.ref b25), .val (.int (1 : Int32))] [(.long (w4.toInt64)), (.int cb), (.long (w3.toInt64)), (.int ca), (.int (3 : Int32)), (.double (O2 ((4 : Int32)).toNatClampNeg))]))
  refine own_step (fun _ k => XS.iload X120.here hx rfl (hb hby at_270) rfl k) ?_
  show own_Fin p.tables e below _ (T120.setTop (mkF m 272 #[.val (.int w0), .val (.int w1), .val (.int w2), .val (.int w3), .val (.int w4), .val (.int w5), .val (.int ca), .val (.int cb), .val (.int cc), .val (.int cd), .val (.double (Jvm.FP.i2d w3)), .second, .val (.double (Jvm.FP.i2d w4)), .second, .val (.double (Jvm.FP.i2d w5)), .second, .val (.ref b1), .val (.ref b14), .val (.ref b25), .val (.int (1 : Int32))] [(.int cc), (.long (w4.toInt64)), (.int cb), (.long (w3.toInt64)), (.int ca), (.int (3 : Int32)), (.double (O2 ((4 : Int32)).toNatClampNeg))]))
  refine own_step (fun _ k => XS.iload X120.here hx rfl (hb hby at_272) rfl k) ?_
  show own_Fin p.tables e below _ (T120.setTop (mkF m 274 #[.val (.int w0), .val (.int w1), .val (.int w2), .val (.int w3), .val (.int w4), .val (.int w5), .val (.int ca), .val (.int cb), .val (.int cc), .val (.int cd), .val (.double (Jvm.FP.i2d w3)), .second, .val (.double (Jvm.FP.i2d w4)), .second, .val (.double (Jvm.FP.i2d w5)), .second, .val (.ref b1), .val (.ref b14), .val (.ref b25), .val (.int (1 : Int32))] [(.int w5), (.int cc), (.long (w4.toInt64)), (.int cb), (.long (w3.toInt64)), (.int ca), (.int (3 : Int32)), (.double (O2 ((4 : Int32)).toNatClampNeg))]))
  refine own_step (fun _ k => XS.i2l X120.here hx rfl (hb hby at_274) rfl k) ?_
  show own_Fin p.tables e below _ (T120.setTop (mkF m 275 #[.val (.int w0), .val (.int w1), .val (.int w2), .val (.int w3), .val (.int w4), .val (.int w5), .val (.int ca), .val (.int cb), .val (.int cc), .val (.int cd), .val (.double (Jvm.FP.i2d w3)), .second, .val (.double (Jvm.FP.i2d w4)), .second, .val (.double (Jvm.FP.i2d w5)), .second, .val (.ref b1), .val (.ref b14), .val (.ref b25), .val (.int (1 : Int32))] [(.long (w5.toInt64)), (.int cc), (.long (w4.toInt64)), (.int cb), (.long (w3.toInt64)), (.int ca), (.int (3 : Int32)), (.double (O2 ((4 : Int32)).toNatClampNeg))]))
  obtain ⟨_, _, ⟨T123, L123, k123, n123⟩, -, X123, ⟨Lc123, hQ123, l123, y123, z123⟩, st123⟩ := Jvm.LawKit.callS X120 hx (y := (⟨"com/example/fusewright/fusewright/runtime/SumsAddPinLaw", "expect", "(IIJIJIJ)J"⟩ : MethodName)) hown (mvT hZ (hw _ (List.mem_of_getElem? (i := 34) rfl))) (mvT hZ (hw _ (List.mem_of_getElem? (i := 35) rfl))) (mvT hZ (hw _ (List.mem_of_getElem? (i := 36) rfl))) (mvT hZ (hw _ (List.mem_of_getElem? (i := 37) rfl))) (by decide) (backOf (W := 2) (rm6 l Z a0 hw [] (3 : Int32) ca (w3.toInt64) cb (w4.toInt64) cc (w5.toInt64)  T97.heap n0 f98 ) hZ (hw _ (List.mem_of_getElem? (i := 37) rfl)) (hw _ (List.mem_of_getElem? (i := 36) rfl)) (by decide) (by decide)) (g := (mkF m 275 #[.val (.int w0), .val (.int w1), .val (.int w2), .val (.int w3), .val (.int w4), .val (.int w5), .val (.int ca), .val (.int cb), .val (.int cc), .val (.int cd), .val (.double (Jvm.FP.i2d w3)), .second, .val (.double (Jvm.FP.i2d w4)), .second, .val (.double (Jvm.FP.i2d w5)), .second, .val (.ref b1), .val (.ref b14), .val (.ref b25), .val (.int (1 : Int32))] [(.long (w5.toInt64)), (.int cc), (.long (w4.toInt64)), (.int cb), (.long (w3.toInt64)), (.int ca), (.int (3 : Int32)), (.double (O2 ((4 : Int32)).toNatClampNeg))])) rfl (by rw [hml]; rfl) (argsL := [(.int (3 : Int32)), (.int ca), (.long (w3.toInt64)), (.int cb), (.long (w4.toInt64)), (.int cc), (.long (w5.toInt64))]) (rest := [(.double (O2 ((4 : Int32)).toNatClampNeg))]) (lenOf pd_4 rfl) rfl (by show 2 * 0 + _ ≤ _; exact Nat.le_of_eq rfl) (hb hby at_275) (fun _ _ => ⟨rfl, e120, (by decide : 6 + 0 ≤ _), (by decide : 26 + 0 ≤ _)⟩)
  dsimp only [Pt.U, Pt.locs, Pt.cells, Pt.slots] at X123 l123 y123 z123 st123 hQ123
  subst l123 y123 z123
  obtain ⟨rfl, N123q, e123⟩ := hQ123
  have N123 := Fr.app N120 N123q
  refine own_step st123 ?_
  show own_Fin p.tables e below _ (T123.setTop (mkF m 278 #[.val (.int w0), .val (.int w1), .val (.int w2), .val (.int w3), .val (.int w4), .val (.int w5), .val (.int ca), .val (.int cb), .val (.int cc), .val (.int cd), .val (.double (Jvm.FP.i2d w3)), .second, .val (.double (Jvm.FP.i2d w4)), .second, .val (.double (Jvm.FP.i2d w5)), .second, .val (.ref b1), .val (.ref b14), .val (.ref b25), .val (.int (1 : Int32))] [(.long (own_exp (3 : Int32) ca (w3.toInt64) cb (w4.toInt64) cc (w5.toInt64))), (.double (O2 ((4 : Int32)).toNatClampNeg))]))
  refine own_step (fun _ k => own_l2d X123.here hx rfl (hb hby at_278) rfl k) ?_
  show own_Fin p.tables e below _ (T123.setTop (mkF m 279 #[.val (.int w0), .val (.int w1), .val (.int w2), .val (.int w3), .val (.int w4), .val (.int w5), .val (.int ca), .val (.int cb), .val (.int cc), .val (.int cd), .val (.double (Jvm.FP.i2d w3)), .second, .val (.double (Jvm.FP.i2d w4)), .second, .val (.double (Jvm.FP.i2d w5)), .second, .val (.ref b1), .val (.ref b14), .val (.ref b25), .val (.int (1 : Int32))] [(.double (Jvm.FP.l2d (own_exp (3 : Int32) ca (w3.toInt64) cb (w4.toInt64) cc (w5.toInt64)))), (.double (O2 ((4 : Int32)).toNatClampNeg))]))
  refine own_step (fun _ k => own_dcmpl X123.here hx rfl (hb hby at_279) rfl k) ?_
  show own_Fin p.tables e below _ (T123.setTop (mkF m 280 #[.val (.int w0), .val (.int w1), .val (.int w2), .val (.int w3), .val (.int w4), .val (.int w5), .val (.int ca), .val (.int cb), .val (.int cc), .val (.int cd), .val (.double (Jvm.FP.i2d w3)), .second, .val (.double (Jvm.FP.i2d w4)), .second, .val (.double (Jvm.FP.i2d w5)), .second, .val (.ref b1), .val (.ref b14), .val (.ref b25), .val (.int (1 : Int32))] [(.int (Op.cmpValue (Jvm.FP.dcmp (O2 ((4 : Int32)).toNatClampNeg) (Jvm.FP.l2d (own_exp (3 : Int32) ca (w3.toInt64) cb (w4.toInt64) cc (w5.toInt64)))) .l))]))
  have ha124 : (Op.cmpValue (Jvm.FP.dcmp (O2 ((4 : Int32)).toNatClampNeg) (Jvm.FP.l2d (own_exp (3 : Int32) ca (w3.toInt64) cb (w4.toInt64) cc (w5.toInt64)))) .l) = (0 : Int32) := by
    have e1 : ((4 : Int32)).toNatClampNeg = (1 : Int32).toInt.toNat + 3 := by decide
    rw [e1]
    exact own_isd.eq (hO2 3 (by decide)) (own_expS (kN := 3) (by decide) hca0 hcb0 hcc0 hS1 hS2 hS3)
  refine own_step (fun _ k => XS.ifNo X123.here hx rfl (hb hby at_280) rfl ((if0 _ _).trans (teq ha124).2) k) ?_
  show own_Fin p.tables e below _ (T123.setTop (mkF m 283 #[.val (.int w0), .val (.int w1), .val (.int w2), .val (.int w3), .val (.int w4), .val (.int w5), .val (.int ca), .val (.int cb), .val (.int cc), .val (.int cd), .val (.double (Jvm.FP.i2d w3)), .second, .val (.double (Jvm.FP.i2d w4)), .second, .val (.double (Jvm.FP.i2d w5)), .second, .val (.ref b1), .val (.ref b14), .val (.ref b25), .val (.int (1 : Int32))] []))
  refine own_step (fun _ k => XS.iconst X123.here hx rfl (hb hby at_283) k) ?_
  show own_Fin p.tables e below _ (T123.setTop (mkF m 284 #[.val (.int w0), .val (.int w1), .val (.int w2), .val (.int w3), .val (.int w4), .val (.int w5), .val (.int ca), .val (.int cb), .val (.int cc), .val (.int cd), .val (.double (Jvm.FP.i2d w3)), .second, .val (.double (Jvm.FP.i2d w4)), .second, .val (.double (Jvm.FP.i2d w5)), .second, .val (.ref b1), .val (.ref b14), .val (.ref b25), .val (.int (1 : Int32))] [(.int (1 : Int32))]))
  refine own_step (fun _ k => XS.goto X123.here hx rfl (pc0 := 284) (pc' := 288) rfl (hb hby at_284) (by decide) (by decide) k) ?_
  show own_Fin p.tables e below _ (T123.setTop (mkF m 288 #[.val (.int w0), .val (.int w1), .val (.int w2), .val (.int w3), .val (.int w4), .val (.int w5), .val (.int ca), .val (.int cb), .val (.int cc), .val (.int cd), .val (.double (Jvm.FP.i2d w3)), .second, .val (.double (Jvm.FP.i2d w4)), .second, .val (.double (Jvm.FP.i2d w5)), .second, .val (.ref b1), .val (.ref b14), .val (.ref b25), .val (.int (1 : Int32))] [(.int (1 : Int32))]))
  refine own_step (fun _ k => XS.istore X123.here hx rfl (hb hby at_288) rfl (l' := #[.val (.int w0), .val (.int w1), .val (.int w2), .val (.int w3), .val (.int w4), .val (.int w5), .val (.int ca), .val (.int cb), .val (.int cc), .val (.int cd), .val (.double (Jvm.FP.i2d w3)), .second, .val (.double (Jvm.FP.i2d w4)), .second, .val (.double (Jvm.FP.i2d w5)), .second, .val (.ref b1), .val (.ref b14), .val (.ref b25), .val (.int (1 : Int32))]) rfl k) ?_
  show own_Fin p.tables e below _ (T123.setTop (mkF m 290 #[.val (.int w0), .val (.int w1), .val (.int w2), .val (.int w3), .val (.int w4), .val (.int w5), .val (.int ca), .val (.int cb), .val (.int cc), .val (.int cd), .val (.double (Jvm.FP.i2d w3)), .second, .val (.double (Jvm.FP.i2d w4)), .second, .val (.double (Jvm.FP.i2d w5)), .second, .val (.ref b1), .val (.ref b14), .val (.ref b25), .val (.int (1 : Int32))] []))
  refine own_step (fun _ k => XS.iload X123.here hx rfl (hb hby at_290) rfl k) ?_
  show own_Fin p.tables e below _ (T123.setTop (mkF m 292 #[.val (.int w0), .val (.int w1), .val (.int w2), .val (.int w3), .val (.int w4), .val (.int w5), .val (.int ca), .val (.int cb), .val (.int cc), .val (.int cd), .val (.double (Jvm.FP.i2d w3)), .second, .val (.double (Jvm.FP.i2d w4)), .second, .val (.double (Jvm.FP.i2d w5)), .second, .val (.ref b1), .val (.ref b14), .val (.ref b25), .val (.int (1 : Int32))] [(.int (1 : Int32))]))
  refine own_step (fun _ k => XS.ifNo X123.here hx rfl (hb hby at_292) rfl ((if0 _ _).trans (feq (by decide : ¬ ((1 : Int32) = (0 : Int32)))).1) k) ?_
  show own_Fin p.tables e below _ (T123.setTop (mkF m 295 #[.val (.int w0), .val (.int w1), .val (.int w2), .val (.int w3), .val (.int w4), .val (.int w5), .val (.int ca), .val (.int cb), .val (.int cc), .val (.int cd), .val (.double (Jvm.FP.i2d w3)), .second, .val (.double (Jvm.FP.i2d w4)), .second, .val (.double (Jvm.FP.i2d w5)), .second, .val (.ref b1), .val (.ref b14), .val (.ref b25), .val (.int (1 : Int32))] []))
  refine own_step (fun _ k => XS.aload X123.here hx rfl (hb hby at_295) rfl rfl k) ?_
  show own_Fin p.tables e below _ (T123.setTop (mkF m 297 #[.val (.int w0), .val (.int w1), .val (.int w2), .val (.int w3), .val (.int w4), .val (.int w5), .val (.int ca), .val (.int cb), .val (.int cc), .val (.int cd), .val (.double (Jvm.FP.i2d w3)), .second, .val (.double (Jvm.FP.i2d w4)), .second, .val (.double (Jvm.FP.i2d w5)), .second, .val (.ref b1), .val (.ref b14), .val (.ref b25), .val (.int (1 : Int32))] [(.ref b25)]))
  refine own_step (fun _ k => XS.iconst X123.here hx rfl (hb hby at_297) k) ?_
  show own_Fin p.tables e below _ (T123.setTop (mkF m 298 #[.val (.int w0), .val (.int w1), .val (.int w2), .val (.int w3), .val (.int w4), .val (.int w5), .val (.int ca), .val (.int cb), .val (.int cc), .val (.int cd), .val (.double (Jvm.FP.i2d w3)), .second, .val (.double (Jvm.FP.i2d w4)), .second, .val (.double (Jvm.FP.i2d w5)), .second, .val (.ref b1), .val (.ref b14), .val (.ref b25), .val (.int (1 : Int32))] [(.int (0 : Int32)), (.ref b25)]))
  obtain ⟨cl125, Ar125, S125, H125⟩ := id fP2
  have hin125 : ¬ ((0 : Int32) < 0 ∨ cl125.slots.size ≤ ((0 : Int32)).toNatClampNeg) := own_in S125 ⟨by decide, by decide⟩
  refine own_step (own_daload X123 hx (j := (0 : Int32)) (v := (.double (P2 ((0 : Int32)).toNatClampNeg))) (by first | exact Ar125.1 | (rw [e123]; exact Ar125.1)) (State.isArrayOf_alike hZ.alike Ar125.2.1) Ar125.2.2 hin125 (H125 _ (own_in2 ⟨by decide, by decide⟩)) (g := (mkF m 298 #[.val (.int w0), .val (.int w1), .val (.int w2), .val (.int w3), .val (.int w4), .val (.int w5), .val (.int ca), .val (.int cb), .val (.int cc), .val (.int cd), .val (.double (Jvm.FP.i2d w3)), .second, .val (.double (Jvm.FP.i2d w4)), .second, .val (.double (Jvm.FP.i2d w5)), .second, .val (.ref b1), .val (.ref b14), .val (.ref b25), .val (.int (1 : Int32))] [(.int (0 : Int32)), (.ref b25)])) rfl rfl (hb hby at_298)) ?_
  show own_Fin p.tables e below _ (T123.setTop (mkF m 299 #[.val (.int w0), .val (.int w1), .val (.int w2), .val (.int w3), .val (.int w4), .val (.int w5), .val (.int ca), .val (.int cb), .val (.int cc), .val (.int cd), .val (.double (Jvm.FP.i2d w3)), .second, .val (.double (Jvm.FP.i2d w4)), .second, .val (.double (Jvm.FP.i2d w5)), .second, .val (.ref b1), .val (.ref b14), .val (.ref b25), .val (.int (1 : Int32))] [(.double (P2 ((0 : Int32)).toNatClampNeg))]))
  refine own_step (fun _ k => XS.iload X123.here hx rfl (hb hby at_299) rfl k) ?_
  show own_Fin p.tables e below _ (T123.setTop (mkF m 301 #[.val (.int w0), .val (.int w1), .val (.int w2), .val (.int w3), .val (.int w4), .val (.int w5), .val (.int ca), .val (.int cb), .val (.int cc), .val (.int cd), .val (.double (Jvm.FP.i2d w3)), .second, .val (.double (Jvm.FP.i2d w4)), .second, .val (.double (Jvm.FP.i2d w5)), .second, .val (.ref b1), .val (.ref b14), .val (.ref b25), .val (.int (1 : Int32))] [(.int cd), (.double (P2 ((0 : Int32)).toNatClampNeg))]))
  have J127 : ∀ (T128 : State) (locs128 : List Loc) (y129 : UInt64) (X128 : Stand p l e room_1 s m #[(.int w0), (.int w1), (.int w2), (.int w3), (.int w4), (.int w5)] below meth c T128 locs128 6 26) (e128 : T128.heap = T97.heap) (N128 : Fr n0 locs128) (gy129 : y129 = (if cd = (0 : Int32) then (Jvm.FP.i2d w4) else (0 : UInt64))), own_Fin p.tables e below (P0 Z w0 w1 w2 w3 w4 w5 h0 n0 s) (T128.setTop (mkF m 310 #[.val (.int w0), .val (.int w1), .val (.int w2), .val (.int w3), .val (.int w4), .val (.int w5), .val (.int ca), .val (.int cb), .val (.int cc), .val (.int cd), .val (.double (Jvm.FP.i2d w3)), .second, .val (.double (Jvm.FP.i2d w4)), .second, .val (.double (Jvm.FP.i2d w5)), .second, .val (.ref b1), .val (.ref b14), .val (.ref b25), .val (.int (1 : Int32))] [(.double y129), (.double (P2 ((0 : Int32)).toNatClampNeg))])) := by
    intro T128 locs128 y129 X128 e128 N128 gy129
    refine own_step (fun _ k => own_dcmpl X128.here hx rfl (hb hby at_310) rfl k) ?_
    show own_Fin p.tables e below _ (T128.setTop (mkF m 311 #[.val (.int w0), .val (.int w1), .val (.int w2), .val (.int w3), .val (.int w4), .val (.int w5), .val (.int ca), .val (.int cb), .val (.int cc), .val (.int cd), .val (.double (Jvm.FP.i2d w3)), .second, .val (.double (Jvm.FP.i2d w4)), .second, .val (.double (Jvm.FP.i2d w5)), .second, .val (.ref b1), .val (.ref b14), .val (.ref b25), .val (.int (1 : Int32))] [(.int (Op.cmpValue (Jvm.FP.dcmp (P2 ((0 : Int32)).toNatClampNeg) y129) .l))]))
    have ha130 : (Op.cmpValue (Jvm.FP.dcmp (P2 ((0 : Int32)).toNatClampNeg) y129) .l) = (0 : Int32) := by
      have e1 : ((0 : Int32)).toNatClampNeg = (0 : Int32).toInt.toNat + 0 := by decide
      rw [e1]
      refine own_isd.eq (hP2 0 (by decide)) ?_
      rw [hS4]
      exact own_cmp2 (kN := 0) (by decide) hcd0 gy129
    refine own_step (fun _ k => XS.ifNo X128.here hx rfl (hb hby at_311) rfl ((if0 _ _).trans (teq ha130).2) k) ?_
    show own_Fin p.tables e below _ (T128.setTop (mkF m 314 #[.val (.int w0), .val (.int w1), .val (.int w2), .val (.int w3), .val (.int w4), .val (.int w5), .val (.int ca), .val (.int cb), .val (.int cc), .val (.int cd), .val (.double (Jvm.FP.i2d w3)), .second, .val (.double (Jvm.FP.i2d w4)), .second, .val (.double (Jvm.FP.i2d w5)), .second, .val (.ref b1), .val (.ref b14), .val (.ref b25), .val (.int (1 : Int32))] []))
    refine own_step (fun _ k => XS.iconst X128.here hx rfl (hb hby at_314) k) ?_
    show own_Fin p.tables e below _ (T128.setTop (mkF m 315 #[.val (.int w0), .val (.int w1), .val (.int w2), .val (.int w3), .val (.int w4), .val (.int w5), .val (.int ca), .val (.int cb), .val (.int cc), .val (.int cd), .val (.double (Jvm.FP.i2d w3)), .second, .val (.double (Jvm.FP.i2d w4)), .second, .val (.double (Jvm.FP.i2d w5)), .second, .val (.ref b1), .val (.ref b14), .val (.ref b25), .val (.int (1 : Int32))] [(.int (1 : Int32))]))
    refine own_step (fun _ k => XS.goto X128.here hx rfl (pc0 := 315) (pc' := 319) rfl (hb hby at_315) (by decide) (by decide) k) ?_
    show own_Fin p.tables e below _ (T128.setTop (mkF m 319 #[.val (.int w0), .val (.int w1), .val (.int w2), .val (.int w3), .val (.int w4), .val (.int w5), .val (.int ca), .val (.int cb), .val (.int cc), .val (.int cd), .val (.double (Jvm.FP.i2d w3)), .second, .val (.double (Jvm.FP.i2d w4)), .second, .val (.double (Jvm.FP.i2d w5)), .second, .val (.ref b1), .val (.ref b14), .val (.ref b25), .val (.int (1 : Int32))] [(.int (1 : Int32))]))
    refine own_step (fun _ k => XS.istore X128.here hx rfl (hb hby at_319) rfl (l' := #[.val (.int w0), .val (.int w1), .val (.int w2), .val (.int w3), .val (.int w4), .val (.int w5), .val (.int ca), .val (.int cb), .val (.int cc), .val (.int cd), .val (.double (Jvm.FP.i2d w3)), .second, .val (.double (Jvm.FP.i2d w4)), .second, .val (.double (Jvm.FP.i2d w5)), .second, .val (.ref b1), .val (.ref b14), .val (.ref b25), .val (.int (1 : Int32))]) rfl k) ?_
    show own_Fin p.tables e below _ (T128.setTop (mkF m 321 #[.val (.int w0), .val (.int w1), .val (.int w2), .val (.int w3), .val (.int w4), .val (.int w5), .val (.int ca), .val (.int cb), .val (.int cc), .val (.int cd), .val (.double (Jvm.FP.i2d w3)), .second, .val (.double (Jvm.FP.i2d w4)), .second, .val (.double (Jvm.FP.i2d w5)), .second, .val (.ref b1), .val (.ref b14), .val (.ref b25), .val (.int (1 : Int32))] []))
    refine own_step (fun _ k => XS.iload X128.here hx rfl (hb hby at_321) rfl k) ?_
    show own_Fin p.tables e below _ (T128.setTop (mkF m 323 #[.val (.int w0), .val (.int w1), .val (.int w2), .val (.int w3), .val (.int w4), .val (.int w5), .val (.int ca), .val (.int cb), .val (.int cc), .val (.int cd), .val (.double (Jvm.FP.i2d w3)), .second, .val (.double (Jvm.FP.i2d w4)), .second, .val (.double (Jvm.FP.i2d w5)), .second, .val (.ref b1), .val (.ref b14), .val (.ref b25), .val (.int (1 : Int32))] [(.int (1 : Int32))]))
    refine own_step (fun _ k => XS.ifNo X128.here hx rfl (hb hby at_323) rfl ((if0 _ _).trans (feq (by decide : ¬ ((1 : Int32) = (0 : Int32)))).1) k) ?_
    show own_Fin p.tables e below _ (T128.setTop (mkF m 326 #[.val (.int w0), .val (.int w1), .val (.int w2), .val (.int w3), .val (.int w4), .val (.int w5), .val (.int ca), .val (.int cb), .val (.int cc), .val (.int cd), .val (.double (Jvm.FP.i2d w3)), .second, .val (.double (Jvm.FP.i2d w4)), .second, .val (.double (Jvm.FP.i2d w5)), .second, .val (.ref b1), .val (.ref b14), .val (.ref b25), .val (.int (1 : Int32))] []))
    refine own_step (fun _ k => XS.aload X128.here hx rfl (hb hby at_326) rfl rfl k) ?_
    show own_Fin p.tables e below _ (T128.setTop (mkF m 328 #[.val (.int w0), .val (.int w1), .val (.int w2), .val (.int w3), .val (.int w4), .val (.int w5), .val (.int ca), .val (.int cb), .val (.int cc), .val (.int cd), .val (.double (Jvm.FP.i2d w3)), .second, .val (.double (Jvm.FP.i2d w4)), .second, .val (.double (Jvm.FP.i2d w5)), .second, .val (.ref b1), .val (.ref b14), .val (.ref b25), .val (.int (1 : Int32))] [(.ref b25)]))
    refine own_step (fun _ k => XS.iconst X128.here hx rfl (hb hby at_328) k) ?_
    show own_Fin p.tables e below _ (T128.setTop (mkF m 329 #[.val (.int w0), .val (.int w1), .val (.int w2), .val (.int w3), .val (.int w4), .val (.int w5), .val (.int ca), .val (.int cb), .val (.int cc), .val (.int cd), .val (.double (Jvm.FP.i2d w3)), .second, .val (.double (Jvm.FP.i2d w4)), .second, .val (.double (Jvm.FP.i2d w5)), .second, .val (.ref b1), .val (.ref b14), .val (.ref b25), .val (.int (1 : Int32))] [(.int (1 : Int32)), (.ref b25)]))
    obtain ⟨cl131, Ar131, S131, H131⟩ := id fP2
    have hin131 : ¬ ((1 : Int32) < 0 ∨ cl131.slots.size ≤ ((1 : Int32)).toNatClampNeg) := own_in S131 ⟨by decide, by decide⟩
    refine own_step (own_daload X128 hx (j := (1 : Int32)) (v := (.double (P2 ((1 : Int32)).toNatClampNeg))) (by first | exact Ar131.1 | (rw [e128]; exact Ar131.1)) (State.isArrayOf_alike hZ.alike Ar131.2.1) Ar131.2.2 hin131 (H131 _ (own_in2 ⟨by decide, by decide⟩)) (g := (mkF m 329 #[.val (.int w0), .val (.int w1), .val (.int w2), .val (.int w3), .val (.int w4), .val (.int w5), .val (.int ca), .val (.int cb), .val (.int cc), .val (.int cd), .val (.double (Jvm.FP.i2d w3)), .second, .val (.double (Jvm.FP.i2d w4)), .second, .val (.double (Jvm.FP.i2d w5)), .second, .val (.ref b1), .val (.ref b14), .val (.ref b25), .val (.int (1 : Int32))] [(.int (1 : Int32)), (.ref b25)])) rfl rfl (hb hby at_329)) ?_
    show own_Fin p.tables e below _ (T128.setTop (mkF m 330 #[.val (.int w0), .val (.int w1), .val (.int w2), .val (.int w3), .val (.int w4), .val (.int w5), .val (.int ca), .val (.int cb), .val (.int cc), .val (.int cd), .val (.double (Jvm.FP.i2d w3)), .second, .val (.double (Jvm.FP.i2d w4)), .second, .val (.double (Jvm.FP.i2d w5)), .second, .val (.ref b1), .val (.ref b14), .val (.ref b25), .val (.int (1 : Int32))] [(.double (P2 ((1 : Int32)).toNatClampNeg))]))
    refine own_step (fun _ k => XS.iload X128.here hx rfl (hb hby at_330) rfl k) ?_
    show own_Fin p.tables e below _ (T128.setTop (mkF m 332 #[.val (.int w0), .val (.int w1), .val (.int w2), .val (.int w3), .val (.int w4), .val (.int w5), .val (.int ca), .val (.int cb), .val (.int cc), .val (.int cd), .val (.double (Jvm.FP.i2d w3)), .second, .val (.double (Jvm.FP.i2d w4)), .second, .val (.double (Jvm.FP.i2d w5)), .second, .val (.ref b1), .val (.ref b14), .val (.ref b25), .val (.int (1 : Int32))] [(.int cd), (.double (P2 ((1 : Int32)).toNatClampNeg))]))
    refine own_step (fun _ k => XS.iconst X128.here hx rfl (hb hby at_332) k) ?_
    show own_Fin p.tables e below _ (T128.setTop (mkF m 333 #[.val (.int w0), .val (.int w1), .val (.int w2), .val (.int w3), .val (.int w4), .val (.int w5), .val (.int ca), .val (.int cb), .val (.int cc), .val (.int cd), .val (.double (Jvm.FP.i2d w3)), .second, .val (.double (Jvm.FP.i2d w4)), .second, .val (.double (Jvm.FP.i2d w5)), .second, .val (.ref b1), .val (.ref b14), .val (.ref b25), .val (.int (1 : Int32))] [(.int (1 : Int32)), (.int cd), (.double (P2 ((1 : Int32)).toNatClampNeg))]))
    have J133 : ∀ (T134 : State) (locs134 : List Loc) (y135 : UInt64) (X134 : Stand p l e room_1 s m #[(.int w0), (.int w1), (.int w2), (.int w3), (.int w4), (.int w5)] below meth c T134 locs134 6 26) (e134 : T134.heap = T97.heap) (N134 : Fr n0 locs134) (gy135 : y135 = (if cd = (1 : Int32) then (Jvm.FP.i2d w4) else (0 : UInt64))), own_Fin p.tables e below (P0 Z w0 w1 w2 w3 w4 w5 h0 n0 s) (T134.setTop (mkF m 342 #[.val (.int w0), .val (.int w1), .val (.int w2), .val (.int w3), .val (.int w4), .val (.int w5), .val (.int ca), .val (.int cb), .val (.int cc), .val (.int cd), .val (.double (Jvm.FP.i2d w3)), .second, .val (.double (Jvm.FP.i2d w4)), .second, .val (.double (Jvm.FP.i2d w5)), .second, .val (.ref b1), .val (.ref b14), .val (.ref b25), .val (.int (1 : Int32))] [(.double y135), (.double (P2 ((1 : Int32)).toNatClampNeg))])) := by
      intro T134 locs134 y135 X134 e134 N134 gy135
      refine own_step (fun _ k => own_dcmpl X134.here hx rfl (hb hby at_342) rfl k) ?_
      show own_Fin p.tables e below _ (T134.setTop (mkF m 343 #[.val (.int w0), .val (.int w1), .val (.int w2), .val (.int w3), .val (.int w4), .val (.int w5), .val (.int ca), .val (.int cb), .val (.int cc), .val (.int cd), .val (.double (Jvm.FP.i2d w3)), .second, .val (.double (Jvm.FP.i2d w4)), .second, .val (.double (Jvm.FP.i2d w5)), .second, .val (.ref b1), .val (.ref b14), .val (.ref b25), .val (.int (1 : Int32))] [(.int (Op.cmpValue (Jvm.FP.dcmp (P2 ((1 : Int32)).toNatClampNeg) y135) .l))]))
      have ha136 : (Op.cmpValue (Jvm.FP.dcmp (P2 ((1 : Int32)).toNatClampNeg) y135) .l) = (0 : Int32) := by
        have e1 : ((1 : Int32)).toNatClampNeg = (0 : Int32).toInt.toNat + 1 := by decide
        rw [e1]
        refine own_isd.eq (hP2 1 (by decide)) ?_
        rw [hS4]
        exact own_cmp2 (kN := 1) (by decide) hcd0 gy135
      refine own_step (fun _ k => XS.ifNo X134.here hx rfl (hb hby at_343) rfl ((if0 _ _).trans (teq ha136).2) k) ?_
      show own_Fin p.tables e below _ (T134.setTop (mkF m 346 #[.val (.int w0), .val (.int w1), .val (.int w2), .val (.int w3), .val (.int w4), .val (.int w5), .val (.int ca), .val (.int cb), .val (.int cc), .val (.int cd), .val (.double (Jvm.FP.i2d w3)), .second, .val (.double (Jvm.FP.i2d w4)), .second, .val (.double (Jvm.FP.i2d w5)), .second, .val (.ref b1), .val (.ref b14), .val (.ref b25), .val (.int (1 : Int32))] []))
      refine own_step (fun _ k => XS.iconst X134.here hx rfl (hb hby at_346) k) ?_
      show own_Fin p.tables e below _ (T134.setTop (mkF m 347 #[.val (.int w0), .val (.int w1), .val (.int w2), .val (.int w3), .val (.int w4), .val (.int w5), .val (.int ca), .val (.int cb), .val (.int cc), .val (.int cd), .val (.double (Jvm.FP.i2d w3)), .second, .val (.double (Jvm.FP.i2d w4)), .second, .val (.double (Jvm.FP.i2d w5)), .second, .val (.ref b1), .val (.ref b14), .val (.ref b25), .val (.int (1 : Int32))] [(.int (1 : Int32))]))
      refine own_step (fun _ k => XS.goto X134.here hx rfl (pc0 := 347) (pc' := 351) rfl (hb hby at_347) (by decide) (by decide) k) ?_
      show own_Fin p.tables e below _ (T134.setTop (mkF m 351 #[.val (.int w0), .val (.int w1), .val (.int w2), .val (.int w3), .val (.int w4), .val (.int w5), .val (.int ca), .val (.int cb), .val (.int cc), .val (.int cd), .val (.double (Jvm.FP.i2d w3)), .second, .val (.double (Jvm.FP.i2d w4)), .second, .val (.double (Jvm.FP.i2d w5)), .second, .val (.ref b1), .val (.ref b14), .val (.ref b25), .val (.int (1 : Int32))] [(.int (1 : Int32))]))
      refine own_step (fun _ k => XS.istore X134.here hx rfl (hb hby at_351) rfl (l' := #[.val (.int w0), .val (.int w1), .val (.int w2), .val (.int w3), .val (.int w4), .val (.int w5), .val (.int ca), .val (.int cb), .val (.int cc), .val (.int cd), .val (.double (Jvm.FP.i2d w3)), .second, .val (.double (Jvm.FP.i2d w4)), .second, .val (.double (Jvm.FP.i2d w5)), .second, .val (.ref b1), .val (.ref b14), .val (.ref b25), .val (.int (1 : Int32))]) rfl k) ?_
      show own_Fin p.tables e below _ (T134.setTop (mkF m 353 #[.val (.int w0), .val (.int w1), .val (.int w2), .val (.int w3), .val (.int w4), .val (.int w5), .val (.int ca), .val (.int cb), .val (.int cc), .val (.int cd), .val (.double (Jvm.FP.i2d w3)), .second, .val (.double (Jvm.FP.i2d w4)), .second, .val (.double (Jvm.FP.i2d w5)), .second, .val (.ref b1), .val (.ref b14), .val (.ref b25), .val (.int (1 : Int32))] []))
      refine own_step (fun _ k => XS.iload X134.here hx rfl (hb hby at_353) rfl k) ?_
      show own_Fin p.tables e below _ (T134.setTop (mkF m 355 #[.val (.int w0), .val (.int w1), .val (.int w2), .val (.int w3), .val (.int w4), .val (.int w5), .val (.int ca), .val (.int cb), .val (.int cc), .val (.int cd), .val (.double (Jvm.FP.i2d w3)), .second, .val (.double (Jvm.FP.i2d w4)), .second, .val (.double (Jvm.FP.i2d w5)), .second, .val (.ref b1), .val (.ref b14), .val (.ref b25), .val (.int (1 : Int32))] [(.int (1 : Int32))]))
      refine own_step (fun _ k => XS.ifNo X134.here hx rfl (hb hby at_355) rfl ((if0 _ _).trans (feq (by decide : ¬ ((1 : Int32) = (0 : Int32)))).1) k) ?_
      show own_Fin p.tables e below _ (T134.setTop (mkF m 358 #[.val (.int w0), .val (.int w1), .val (.int w2), .val (.int w3), .val (.int w4), .val (.int w5), .val (.int ca), .val (.int cb), .val (.int cc), .val (.int cd), .val (.double (Jvm.FP.i2d w3)), .second, .val (.double (Jvm.FP.i2d w4)), .second, .val (.double (Jvm.FP.i2d w5)), .second, .val (.ref b1), .val (.ref b14), .val (.ref b25), .val (.int (1 : Int32))] []))
      refine own_step (fun _ k => XS.aload X134.here hx rfl (hb hby at_358) rfl rfl k) ?_
      show own_Fin p.tables e below _ (T134.setTop (mkF m 360 #[.val (.int w0), .val (.int w1), .val (.int w2), .val (.int w3), .val (.int w4), .val (.int w5), .val (.int ca), .val (.int cb), .val (.int cc), .val (.int cd), .val (.double (Jvm.FP.i2d w3)), .second, .val (.double (Jvm.FP.i2d w4)), .second, .val (.double (Jvm.FP.i2d w5)), .second, .val (.ref b1), .val (.ref b14), .val (.ref b25), .val (.int (1 : Int32))] [(.ref b25)]))
      refine own_step (fun _ k => XS.iconst X134.here hx rfl (hb hby at_360) k) ?_
      show own_Fin p.tables e below _ (T134.setTop (mkF m 361 #[.val (.int w0), .val (.int w1), .val (.int w2), .val (.int w3), .val (.int w4), .val (.int w5), .val (.int ca), .val (.int cb), .val (.int cc), .val (.int cd), .val (.double (Jvm.FP.i2d w3)), .second, .val (.double (Jvm.FP.i2d w4)), .second, .val (.double (Jvm.FP.i2d w5)), .second, .val (.ref b1), .val (.ref b14), .val (.ref b25), .val (.int (1 : Int32))] [(.int (2 : Int32)), (.ref b25)]))
      obtain ⟨cl137, Ar137, S137, H137⟩ := id fP2
      have hin137 : ¬ ((2 : Int32) < 0 ∨ cl137.slots.size ≤ ((2 : Int32)).toNatClampNeg) := own_in S137 ⟨by decide, by decide⟩
      refine own_step (own_daload X134 hx (j := (2 : Int32)) (v := (.double (P2 ((2 : Int32)).toNatClampNeg))) (by first | exact Ar137.1 | (rw [e134]; exact Ar137.1)) (State.isArrayOf_alike hZ.alike Ar137.2.1) Ar137.2.2 hin137 (H137 _ (own_in2 ⟨by decide, by decide⟩)) (g := (mkF m 361 #[.val (.int w0), .val (.int w1), .val (.int w2), .val (.int w3), .val (.int w4), .val (.int w5), .val (.int ca), .val (.int cb), .val (.int cc), .val (.int cd), .val (.double (Jvm.FP.i2d w3)), .second, .val (.double (Jvm.FP.i2d w4)), .second, .val (.double (Jvm.FP.i2d w5)), .second, .val (.ref b1), .val (.ref b14), .val (.ref b25), .val (.int (1 : Int32))] [(.int (2 : Int32)), (.ref b25)])) rfl rfl (hb hby at_361)) ?_
      show own_Fin p.tables e below _ (T134.setTop (mkF m 362 #[.val (.int w0), .val (.int w1), .val (.int w2), .val (.int w3), .val (.int w4), .val (.int w5), .val (.int ca), .val (.int cb), .val (.int cc), .val (.int cd), .val (.double (Jvm.FP.i2d w3)), .second, .val (.double (Jvm.FP.i2d w4)), .second, .val (.double (Jvm.FP.i2d w5)), .second, .val (.ref b1), .val (.ref b14), .val (.ref b25), .val (.int (1 : Int32))] [(.double (P2 ((2 : Int32)).toNatClampNeg))]))
      refine own_step (fun _ k => XS.iload X134.here hx rfl (hb hby at_362) rfl k) ?_
      show own_Fin p.tables e below _ (T134.setTop (mkF m 364 #[.val (.int w0), .val (.int w1), .val (.int w2), .val (.int w3), .val (.int w4), .val (.int w5), .val (.int ca), .val (.int cb), .val (.int cc), .val (.int cd), .val (.double (Jvm.FP.i2d w3)), .second, .val (.double (Jvm.FP.i2d w4)), .second, .val (.double (Jvm.FP.i2d w5)), .second, .val (.ref b1), .val (.ref b14), .val (.ref b25), .val (.int (1 : Int32))] [(.int cd), (.double (P2 ((2 : Int32)).toNatClampNeg))]))
      refine own_step (fun _ k => XS.iconst X134.here hx rfl (hb hby at_364) k) ?_
      show own_Fin p.tables e below _ (T134.setTop (mkF m 365 #[.val (.int w0), .val (.int w1), .val (.int w2), .val (.int w3), .val (.int w4), .val (.int w5), .val (.int ca), .val (.int cb), .val (.int cc), .val (.int cd), .val (.double (Jvm.FP.i2d w3)), .second, .val (.double (Jvm.FP.i2d w4)), .second, .val (.double (Jvm.FP.i2d w5)), .second, .val (.ref b1), .val (.ref b14), .val (.ref b25), .val (.int (1 : Int32))] [(.int (2 : Int32)), (.int cd), (.double (P2 ((2 : Int32)).toNatClampNeg))]))
      have J139 : ∀ (T140 : State) (locs140 : List Loc) (y141 : UInt64) (X140 : Stand p l e room_1 s m #[(.int w0), (.int w1), (.int w2), (.int w3), (.int w4), (.int w5)] below meth c T140 locs140 6 26) (e140 : T140.heap = T97.heap) (N140 : Fr n0 locs140) (gy141 : y141 = (if cd = (2 : Int32) then (Jvm.FP.i2d w4) else (0 : UInt64))), own_Fin p.tables e below (P0 Z w0 w1 w2 w3 w4 w5 h0 n0 s) (T140.setTop (mkF m 374 #[.val (.int w0), .val (.int w1), .val (.int w2), .val (.int w3), .val (.int w4), .val (.int w5), .val (.int ca), .val (.int cb), .val (.int cc), .val (.int cd), .val (.double (Jvm.FP.i2d w3)), .second, .val (.double (Jvm.FP.i2d w4)), .second, .val (.double (Jvm.FP.i2d w5)), .second, .val (.ref b1), .val (.ref b14), .val (.ref b25), .val (.int (1 : Int32))] [(.double y141), (.double (P2 ((2 : Int32)).toNatClampNeg))])) := by
        intro T140 locs140 y141 X140 e140 N140 gy141
        refine own_step (fun _ k => own_dcmpl X140.here hx rfl (hb hby at_374) rfl k) ?_
        show own_Fin p.tables e below _ (T140.setTop (mkF m 375 #[.val (.int w0), .val (.int w1), .val (.int w2), .val (.int w3), .val (.int w4), .val (.int w5), .val (.int ca), .val (.int cb), .val (.int cc), .val (.int cd), .val (.double (Jvm.FP.i2d w3)), .second, .val (.double (Jvm.FP.i2d w4)), .second, .val (.double (Jvm.FP.i2d w5)), .second, .val (.ref b1), .val (.ref b14), .val (.ref b25), .val (.int (1 : Int32))] [(.int (Op.cmpValue (Jvm.FP.dcmp (P2 ((2 : Int32)).toNatClampNeg) y141) .l))]))
        have ha142 : (Op.cmpValue (Jvm.FP.dcmp (P2 ((2 : Int32)).toNatClampNeg) y141) .l) = (0 : Int32) := by
          have e1 : ((2 : Int32)).toNatClampNeg = (0 : Int32).toInt.toNat + 2 := by decide
          rw [e1]
          refine own_isd.eq (hP2 2 (by decide)) ?_
          rw [hS4]
          exact own_cmp2 (kN := 2) (by decide) hcd0 gy141
        refine own_step (fun _ k => XS.ifNo X140.here hx rfl (hb hby at_375) rfl ((if0 _ _).trans (teq ha142).2) k) ?_
        show own_Fin p.tables e below _ (T140.setTop (mkF m 378 #[.val (.int w0), .val (.int w1), .val (.int w2), .val (.int w3), .val (.int w4), .val (.int w5), .val (.int ca), .val (.int cb), .val (.int cc), .val (.int cd), .val (.double (Jvm.FP.i2d w3)), .second, .val (.double (Jvm.FP.i2d w4)), .second, .val (.double (Jvm.FP.i2d w5)), .second, .val (.ref b1), .val (.ref b14), .val (.ref b25), .val (.int (1 : Int32))] []))
        refine own_step (fun _ k => XS.iconst X140.here hx rfl (hb hby at_378) k) ?_
        show own_Fin p.tables e below _ (T140.setTop (mkF m 379 #[.val (.int w0), .val (.int w1), .val (.int w2), .val (.int w3), .val (.int w4), .val (.int w5), .val (.int ca), .val (.int cb), .val (.int cc), .val (.int cd), .val (.double (Jvm.FP.i2d w3)), .second, .val (.double (Jvm.FP.i2d w4)), .second, .val (.double (Jvm.FP.i2d w5)), .second, .val (.ref b1), .val (.ref b14), .val (.ref b25), .val (.int (1 : Int32))] [(.int (1 : Int32))]))
        refine own_step (fun _ k => XS.goto X140.here hx rfl (pc0 := 379) (pc' := 383) rfl (hb hby at_379) (by decide) (by decide) k) ?_
        show own_Fin p.tables e below _ (T140.setTop (mkF m 383 #[.val (.int w0), .val (.int w1), .val (.int w2), .val (.int w3), .val (.int w4), .val (.int w5), .val (.int ca), .val (.int cb), .val (.int cc), .val (.int cd), .val (.double (Jvm.FP.i2d w3)), .second, .val (.double (Jvm.FP.i2d w4)), .second, .val (.double (Jvm.FP.i2d w5)), .second, .val (.ref b1), .val (.ref b14), .val (.ref b25), .val (.int (1 : Int32))] [(.int (1 : Int32))]))
        refine own_step (fun _ k => XS.istore X140.here hx rfl (hb hby at_383) rfl (l' := #[.val (.int w0), .val (.int w1), .val (.int w2), .val (.int w3), .val (.int w4), .val (.int w5), .val (.int ca), .val (.int cb), .val (.int cc), .val (.int cd), .val (.double (Jvm.FP.i2d w3)), .second, .val (.double (Jvm.FP.i2d w4)), .second, .val (.double (Jvm.FP.i2d w5)), .second, .val (.ref b1), .val (.ref b14), .val (.ref b25), .val (.int (1 : Int32))]) rfl k) ?_
        show own_Fin p.tables e below _ (T140.setTop (mkF m 385 #[.val (.int w0), .val (.int w1), .val (.int w2), .val (.int w3), .val (.int w4), .val (.int w5), .val (.int ca), .val (.int cb), .val (.int cc), .val (.int cd), .val (.double (Jvm.FP.i2d w3)), .second, .val (.double (Jvm.FP.i2d w4)), .second, .val (.double (Jvm.FP.i2d w5)), .second, .val (.ref b1), .val (.ref b14), .val (.ref b25), .val (.int (1 : Int32))] []))
        refine own_step (fun _ k => XS.iload X140.here hx rfl (hb hby at_385) rfl k) ?_
        show own_Fin p.tables e below _ (T140.setTop (mkF m 387 #[.val (.int w0), .val (.int w1), .val (.int w2), .val (.int w3), .val (.int w4), .val (.int w5), .val (.int ca), .val (.int cb), .val (.int cc), .val (.int cd), .val (.double (Jvm.FP.i2d w3)), .second, .val (.double (Jvm.FP.i2d w4)), .second, .val (.double (Jvm.FP.i2d w5)), .second, .val (.ref b1), .val (.ref b14), .val (.ref b25), .val (.int (1 : Int32))] [(.int (1 : Int32))]))
        refine own_step (fun _ k => XS.ifNo X140.here hx rfl (hb hby at_387) rfl ((if0 _ _).trans (feq (by decide : ¬ ((1 : Int32) = (0 : Int32)))).1) k) ?_
        show own_Fin p.tables e below _ (T140.setTop (mkF m 390 #[.val (.int w0), .val (.int w1), .val (.int w2), .val (.int w3), .val (.int w4), .val (.int w5), .val (.int ca), .val (.int cb), .val (.int cc), .val (.int cd), .val (.double (Jvm.FP.i2d w3)), .second, .val (.double (Jvm.FP.i2d w4)), .second, .val (.double (Jvm.FP.i2d w5)), .second, .val (.ref b1), .val (.ref b14), .val (.ref b25), .val (.int (1 : Int32))] []))
        refine own_step (fun _ k => XS.aload X140.here hx rfl (hb hby at_390) rfl rfl k) ?_
        show own_Fin p.tables e below _ (T140.setTop (mkF m 392 #[.val (.int w0), .val (.int w1), .val (.int w2), .val (.int w3), .val (.int w4), .val (.int w5), .val (.int ca), .val (.int cb), .val (.int cc), .val (.int cd), .val (.double (Jvm.FP.i2d w3)), .second, .val (.double (Jvm.FP.i2d w4)), .second, .val (.double (Jvm.FP.i2d w5)), .second, .val (.ref b1), .val (.ref b14), .val (.ref b25), .val (.int (1 : Int32))] [(.ref b25)]))
        refine own_step (fun _ k => XS.iconst X140.here hx rfl (hb hby at_392) k) ?_
        show own_Fin p.tables e below _ (T140.setTop (mkF m 393 #[.val (.int w0), .val (.int w1), .val (.int w2), .val (.int w3), .val (.int w4), .val (.int w5), .val (.int ca), .val (.int cb), .val (.int cc), .val (.int cd), .val (.double (Jvm.FP.i2d w3)), .second, .val (.double (Jvm.FP.i2d w4)), .second, .val (.double (Jvm.FP.i2d w5)), .second, .val (.ref b1), .val (.ref b14), .val (.ref b25), .val (.int (1 : Int32))] [(.int (3 : Int32)), (.ref b25)]))
        obtain ⟨cl143, Ar143, S143, H143⟩ := id fP2
        have hin143 : ¬ ((3 : Int32) < 0 ∨ cl143.slots.size ≤ ((3 : Int32)).toNatClampNeg) := own_in S143 ⟨by decide, by decide⟩
        refine own_step (own_daload X140 hx (j := (3 : Int32)) (v := (.double (P2 ((3 : Int32)).toNatClampNeg))) (by first | exact Ar143.1 | (rw [e140]; exact Ar143.1)) (State.isArrayOf_alike hZ.alike Ar143.2.1) Ar143.2.2 hin143 (H143 _ (own_in2 ⟨by decide, by decide⟩)) (g := (mkF m 393 #[.val (.int w0), .val (.int w1), .val (.int w2), .val (.int w3), .val (.int w4), .val (.int w5), .val (.int ca), .val (.int cb), .val (.int cc), .val (.int cd), .val (.double (Jvm.FP.i2d w3)), .second, .val (.double (Jvm.FP.i2d w4)), .second, .val (.double (Jvm.FP.i2d w5)), .second, .val (.ref b1), .val (.ref b14), .val (.ref b25), .val (.int (1 : Int32))] [(.int (3 : Int32)), (.ref b25)])) rfl rfl (hb hby at_393)) ?_
        show own_Fin p.tables e below _ (T140.setTop (mkF m 394 #[.val (.int w0), .val (.int w1), .val (.int w2), .val (.int w3), .val (.int w4), .val (.int w5), .val (.int ca), .val (.int cb), .val (.int cc), .val (.int cd), .val (.double (Jvm.FP.i2d w3)), .second, .val (.double (Jvm.FP.i2d w4)), .second, .val (.double (Jvm.FP.i2d w5)), .second, .val (.ref b1), .val (.ref b14), .val (.ref b25), .val (.int (1 : Int32))] [(.double (P2 ((3 : Int32)).toNatClampNeg))]))
        refine own_step (fun _ k => XS.iload X140.here hx rfl (hb hby at_394) rfl k) ?_
        show own_Fin p.tables e below _ (T140.setTop (mkF m 396 #[.val (.int w0), .val (.int w1), .val (.int w2), .val (.int w3), .val (.int w4), .val (.int w5), .val (.int ca), .val (.int cb), .val (.int cc), .val (.int cd), .val (.double (Jvm.FP.i2d w3)), .second, .val (.double (Jvm.FP.i2d w4)), .second, .val (.double (Jvm.FP.i2d w5)), .second, .val (.ref b1), .val (.ref b14), .val (.ref b25), .val (.int (1 : Int32))] [(.int cd), (.double (P2 ((3 : Int32)).toNatClampNeg))]))
        refine own_step (fun _ k => XS.iconst X140.here hx rfl (hb hby at_396) k) ?_
        show own_Fin p.tables e below _ (T140.setTop (mkF m 397 #[.val (.int w0), .val (.int w1), .val (.int w2), .val (.int w3), .val (.int w4), .val (.int w5), .val (.int ca), .val (.int cb), .val (.int cc), .val (.int cd), .val (.double (Jvm.FP.i2d w3)), .second, .val (.double (Jvm.FP.i2d w4)), .second, .val (.double (Jvm.FP.i2d w5)), .second, .val (.ref b1), .val (.ref b14), .val (.ref b25), .val (.int (1 : Int32))] [(.int (3 : Int32)), (.int cd), (.double (P2 ((3 : Int32)).toNatClampNeg))]))
        have J145 : ∀ (T146 : State) (locs146 : List Loc) (y147 : UInt64) (X146 : Stand p l e room_1 s m #[(.int w0), (.int w1), (.int w2), (.int w3), (.int w4), (.int w5)] below meth c T146 locs146 6 26) (e146 : T146.heap = T97.heap) (N146 : Fr n0 locs146) (gy147 : y147 = (if cd = (3 : Int32) then (Jvm.FP.i2d w4) else (0 : UInt64))), own_Fin p.tables e below (P0 Z w0 w1 w2 w3 w4 w5 h0 n0 s) (T146.setTop (mkF m 406 #[.val (.int w0), .val (.int w1), .val (.int w2), .val (.int w3), .val (.int w4), .val (.int w5), .val (.int ca), .val (.int cb), .val (.int cc), .val (.int cd), .val (.double (Jvm.FP.i2d w3)), .second, .val (.double (Jvm.FP.i2d w4)), .second, .val (.double (Jvm.FP.i2d w5)), .second, .val (.ref b1), .val (.ref b14), .val (.ref b25), .val (.int (1 : Int32))] [(.double y147), (.double (P2 ((3 : Int32)).toNatClampNeg))])) := by
          intro T146 locs146 y147 X146 e146 N146 gy147
          refine own_step (fun _ k => own_dcmpl X146.here hx rfl (hb hby at_406) rfl k) ?_
          show own_Fin p.tables e below _ (T146.setTop (mkF m 407 #[.val (.int w0), .val (.int w1), .val (.int w2), .val (.int w3), .val (.int w4), .val (.int w5), .val (.int ca), .val (.int cb), .val (.int cc), .val (.int cd), .val (.double (Jvm.FP.i2d w3)), .second, .val (.double (Jvm.FP.i2d w4)), .second, .val (.double (Jvm.FP.i2d w5)), .second, .val (.ref b1), .val (.ref b14), .val (.ref b25), .val (.int (1 : Int32))] [(.int (Op.cmpValue (Jvm.FP.dcmp (P2 ((3 : Int32)).toNatClampNeg) y147) .l))]))
          have ha148 : (Op.cmpValue (Jvm.FP.dcmp (P2 ((3 : Int32)).toNatClampNeg) y147) .l) = (0 : Int32) := by
            have e1 : ((3 : Int32)).toNatClampNeg = (0 : Int32).toInt.toNat + 3 := by decide
            rw [e1]
            refine own_isd.eq (hP2 3 (by decide)) ?_
            rw [hS4]
            exact own_cmp2 (kN := 3) (by decide) hcd0 gy147
          refine own_step (fun _ k => XS.ifNo X146.here hx rfl (hb hby at_407) rfl ((if0 _ _).trans (teq ha148).2) k) ?_
          show own_Fin p.tables e below _ (T146.setTop (mkF m 410 #[.val (.int w0), .val (.int w1), .val (.int w2), .val (.int w3), .val (.int w4), .val (.int w5), .val (.int ca), .val (.int cb), .val (.int cc), .val (.int cd), .val (.double (Jvm.FP.i2d w3)), .second, .val (.double (Jvm.FP.i2d w4)), .second, .val (.double (Jvm.FP.i2d w5)), .second, .val (.ref b1), .val (.ref b14), .val (.ref b25), .val (.int (1 : Int32))] []))
          refine own_step (fun _ k => XS.iconst X146.here hx rfl (hb hby at_410) k) ?_
          show own_Fin p.tables e below _ (T146.setTop (mkF m 411 #[.val (.int w0), .val (.int w1), .val (.int w2), .val (.int w3), .val (.int w4), .val (.int w5), .val (.int ca), .val (.int cb), .val (.int cc), .val (.int cd), .val (.double (Jvm.FP.i2d w3)), .second, .val (.double (Jvm.FP.i2d w4)), .second, .val (.double (Jvm.FP.i2d w5)), .second, .val (.ref b1), .val (.ref b14), .val (.ref b25), .val (.int (1 : Int32))] [(.int (1 : Int32))]))
          refine own_step (fun _ k => XS.goto X146.here hx rfl (pc0 := 411) (pc' := 415) rfl (hb hby at_411) (by decide) (by decide) k) ?_
          show own_Fin p.tables e below _ (T146.setTop (mkF m 415 #[.val (.int w0), .val (.int w1), .val (.int w2), .val (.int w3), .val (.int w4), .val (.int w5), .val (.int ca), .val (.int cb), .val (.int cc), .val (.int cd), .val (.double (Jvm.FP.i2d w3)), .second, .val (.double (Jvm.FP.i2d w4)), .second, .val (.double (Jvm.FP.i2d w5)), .second, .val (.ref b1), .val (.ref b14), .val (.ref b25), .val (.int (1 : Int32))] [(.int (1 : Int32))]))
          refine own_step (fun _ k => XS.istore X146.here hx rfl (hb hby at_415) rfl (l' := #[.val (.int w0), .val (.int w1), .val (.int w2), .val (.int w3), .val (.int w4), .val (.int w5), .val (.int ca), .val (.int cb), .val (.int cc), .val (.int cd), .val (.double (Jvm.FP.i2d w3)), .second, .val (.double (Jvm.FP.i2d w4)), .second, .val (.double (Jvm.FP.i2d w5)), .second, .val (.ref b1), .val (.ref b14), .val (.ref b25), .val (.int (1 : Int32))]) rfl k) ?_
          show own_Fin p.tables e below _ (T146.setTop (mkF m 417 #[.val (.int w0), .val (.int w1), .val (.int w2), .val (.int w3), .val (.int w4), .val (.int w5), .val (.int ca), .val (.int cb), .val (.int cc), .val (.int cd), .val (.double (Jvm.FP.i2d w3)), .second, .val (.double (Jvm.FP.i2d w4)), .second, .val (.double (Jvm.FP.i2d w5)), .second, .val (.ref b1), .val (.ref b14), .val (.ref b25), .val (.int (1 : Int32))] []))
          refine own_step (fun _ k => XS.iload X146.here hx rfl (hb hby at_417) rfl k) ?_
          show own_Fin p.tables e below _ (T146.setTop (mkF m 419 #[.val (.int w0), .val (.int w1), .val (.int w2), .val (.int w3), .val (.int w4), .val (.int w5), .val (.int ca), .val (.int cb), .val (.int cc), .val (.int cd), .val (.double (Jvm.FP.i2d w3)), .second, .val (.double (Jvm.FP.i2d w4)), .second, .val (.double (Jvm.FP.i2d w5)), .second, .val (.ref b1), .val (.ref b14), .val (.ref b25), .val (.int (1 : Int32))] [(.int (1 : Int32))]))
          obtain ⟨fs149, hr149, hrun149, hended149, hW149, hsame149⟩ := X146.leave (v := some (.int (nar .boolean (1 : Int32)))) (fun h => by rw [Bd.returns] at h; cases h)
          refine own_ret (retN X146 hx (t := .boolean) Bd.returns (by simp) (hb hby at_419) hr149) hrun149 hended149 ?_
          refine ⟨_, _, rfl, ?_, ⟨_, rfl⟩, hW149, hsame149.mono (by decide) (by decide)⟩
          show Q0 Z w0 w1 w2 w3 w4 w5 h0 n0 _ T146.heap _
          rw [e146]
          exact ⟨rfl, N146⟩
        by_cases hc144 : cd = (3 : Int32)
        · refine own_step (fun _ k => XS.icmpNo X140.here hx rfl (hb hby at_397) rfl ((teq hc144).2) k) ?_
          show own_Fin p.tables e below _ (T140.setTop (mkF m 400 #[.val (.int w0), .val (.int w1), .val (.int w2), .val (.int w3), .val (.int w4), .val (.int w5), .val (.int ca), .val (.int cb), .val (.int cc), .val (.int cd), .val (.double (Jvm.FP.i2d w3)), .second, .val (.double (Jvm.FP.i2d w4)), .second, .val (.double (Jvm.FP.i2d w5)), .second, .val (.ref b1), .val (.ref b14), .val (.ref b25), .val (.int (1 : Int32))] [(.double (P2 ((3 : Int32)).toNatClampNeg))]))
          refine own_step (fun _ k => own_dload X140.here hx rfl (hb hby at_400) rfl k) ?_
          show own_Fin p.tables e below _ (T140.setTop (mkF m 402 #[.val (.int w0), .val (.int w1), .val (.int w2), .val (.int w3), .val (.int w4), .val (.int w5), .val (.int ca), .val (.int cb), .val (.int cc), .val (.int cd), .val (.double (Jvm.FP.i2d w3)), .second, .val (.double (Jvm.FP.i2d w4)), .second, .val (.double (Jvm.FP.i2d w5)), .second, .val (.ref b1), .val (.ref b14), .val (.ref b25), .val (.int (1 : Int32))] [(.double (Jvm.FP.i2d w4)), (.double (P2 ((3 : Int32)).toNatClampNeg))]))
          refine own_step (fun _ k => XS.goto X140.here hx rfl (pc0 := 402) (pc' := 406) rfl (hb hby at_402) (by decide) (by decide) k) ?_
          show own_Fin p.tables e below _ (T140.setTop (mkF m 406 #[.val (.int w0), .val (.int w1), .val (.int w2), .val (.int w3), .val (.int w4), .val (.int w5), .val (.int ca), .val (.int cb), .val (.int cc), .val (.int cd), .val (.double (Jvm.FP.i2d w3)), .second, .val (.double (Jvm.FP.i2d w4)), .second, .val (.double (Jvm.FP.i2d w5)), .second, .val (.ref b1), .val (.ref b14), .val (.ref b25), .val (.int (1 : Int32))] [(.double (Jvm.FP.i2d w4)), (.double (P2 ((3 : Int32)).toNatClampNeg))]))
          exact J145 T140 _ (Jvm.FP.i2d w4) X140 e140 N140 (by rw [if_pos hc144])
        · refine own_step (fun _ k => XS.icmpYes X140.here hx rfl (pc0 := 397) (pc' := 405) rfl (hb hby at_397) rfl ((feq hc144).2) (by decide) (by decide) k) ?_
          show own_Fin p.tables e below _ (T140.setTop (mkF m 405 #[.val (.int w0), .val (.int w1), .val (.int w2), .val (.int w3), .val (.int w4), .val (.int w5), .val (.int ca), .val (.int cb), .val (.int cc), .val (.int cd), .val (.double (Jvm.FP.i2d w3)), .second, .val (.double (Jvm.FP.i2d w4)), .second, .val (.double (Jvm.FP.i2d w5)), .second, .val (.ref b1), .val (.ref b14), .val (.ref b25), .val (.int (1 : Int32))] [(.double (P2 ((3 : Int32)).toNatClampNeg))]))
          refine own_step (fun _ k => own_dconst X140.here hx rfl (hb hby at_405) k) ?_
          show own_Fin p.tables e below _ (T140.setTop (mkF m 406 #[.val (.int w0), .val (.int w1), .val (.int w2), .val (.int w3), .val (.int w4), .val (.int w5), .val (.int ca), .val (.int cb), .val (.int cc), .val (.int cd), .val (.double (Jvm.FP.i2d w3)), .second, .val (.double (Jvm.FP.i2d w4)), .second, .val (.double (Jvm.FP.i2d w5)), .second, .val (.ref b1), .val (.ref b14), .val (.ref b25), .val (.int (1 : Int32))] [(.double (0 : UInt64)), (.double (P2 ((3 : Int32)).toNatClampNeg))]))
          exact J145 T140 _ (0 : UInt64) X140 e140 N140 (by rw [if_neg hc144])
      by_cases hc138 : cd = (2 : Int32)
      · refine own_step (fun _ k => XS.icmpNo X134.here hx rfl (hb hby at_365) rfl ((teq hc138).2) k) ?_
        show own_Fin p.tables e below _ (T134.setTop (mkF m 368 #[.val (.int w0), .val (.int w1), .val (.int w2), .val (.int w3), .val (.int w4), .val (.int w5), .val (.int ca), .val (.int cb), .val (.int cc), .val (.int cd), .val (.double (Jvm.FP.i2d w3)), .second, .val (.double (Jvm.FP.i2d w4)), .second, .val (.double (Jvm.FP.i2d w5)), .second, .val (.ref b1), .val (.ref b14), .val (.ref b25), .val (.int (1 : Int32))] [(.double (P2 ((2 : Int32)).toNatClampNeg))]))
        refine own_step (fun _ k => own_dload X134.here hx rfl (hb hby at_368) rfl k) ?_
        show own_Fin p.tables e below _ (T134.setTop (mkF m 370 #[.val (.int w0), .val (.int w1), .val (.int w2), .val (.int w3), .val (.int w4), .val (.int w5), .val (.int ca), .val (.int cb), .val (.int cc), .val (.int cd), .val (.double (Jvm.FP.i2d w3)), .second, .val (.double (Jvm.FP.i2d w4)), .second, .val (.double (Jvm.FP.i2d w5)), .second, .val (.ref b1), .val (.ref b14), .val (.ref b25), .val (.int (1 : Int32))] [(.double (Jvm.FP.i2d w4)), (.double (P2 ((2 : Int32)).toNatClampNeg))]))
        refine own_step (fun _ k => XS.goto X134.here hx rfl (pc0 := 370) (pc' := 374) rfl (hb hby at_370) (by decide) (by decide) k) ?_
        show own_Fin p.tables e below _ (T134.setTop (mkF m 374 #[.val (.int w0), .val (.int w1), .val (.int w2), .val (.int w3), .val (.int w4), .val (.int w5), .val (.int ca), .val (.int cb), .val (.int cc), .val (.int cd), .val (.double (Jvm.FP.i2d w3)), .second, .val (.double (Jvm.FP.i2d w4)), .second, .val (.double (Jvm.FP.i2d w5)), .second, .val (.ref b1), .val (.ref b14), .val (.ref b25), .val (.int (1 : Int32))] [(.double (Jvm.FP.i2d w4)), (.double (P2 ((2 : Int32)).toNatClampNeg))]))
        exact J139 T134 _ (Jvm.FP.i2d w4) X134 e134 N134 (by rw [if_pos hc138])
      · refine own_step (fun _ k => XS.icmpYes X134.here hx rfl (pc0 := 365) (pc' := 373) rfl (hb hby at_365) rfl ((feq hc138).2) (by decide) (by decide) k) ?_
        show own_Fin p.tables e below _ (T134.setTop (mkF m 373 #[.val (.int w0), .val (.int w1), .val (.int w2), .val (.int w3), .val (.int w4), .val (.int w5), .val (.int ca), .val (.int cb), .val (.int cc), .val (.int cd), .val (.double (Jvm.FP.i2d w3)), .second, .val (.double (Jvm.FP.i2d w4)), .second, .val (.double (Jvm.FP.i2d w5)), .second, .val (.ref b1), .val (.ref b14), .val (.ref b25), .val (.int (1 : Int32))] [(.double (P2 ((2 : Int32)).toNatClampNeg))]))
        refine own_step (fun _ k => own_dconst X134.here hx rfl (hb hby at_373) k) ?_
        show own_Fin p.tables e below _ (T134.setTop (mkF m 374 #[.val (.int w0), .val (.int w1), .val (.int w2), .val (.int w3), .val (.int w4), .val (.int w5), .val (.int ca), .val (.int cb), .val (.int cc), .val (.int cd), .val (.double (Jvm.FP.i2d w3)), .second, .val (.double (Jvm.FP.i2d w4)), .second, .val (.double (Jvm.FP.i2d w5)), .second, .val (.ref b1), .val (.ref b14), .val (.ref b25), .val (.int (1 : Int32))] [(.double (0 : UInt64)), (.double (P2 ((2 : Int32)).toNatClampNeg))]))
        exact J139 T134 _ (0 : UInt64) X134 e134 N134 (by rw [if_neg hc138])
    by_cases hc132 : cd = (1 : Int32)
    · refine own_step (fun _ k => XS.icmpNo X128.here hx rfl (hb hby at_333) rfl ((teq hc132).2) k) ?_
      show own_Fin p.tables e below _ (T128.setTop (mkF m 336 #[.val (.int w0), .val (.int w1), .val (.int w2), .val (.int w3), .val (.int w4), .val (.int w5), .val (.int ca), .val (.int cb), .val (.int cc), .val (.int cd), .val (.double (Jvm.FP.i2d w3)), .second, .val (.double (Jvm.FP.i2d w4)), .second, .val (.double (Jvm.FP.i2d w5)), .second, .val (.ref b1), .val (.ref b14), .val (.ref b25), .val (.int (1 : Int32))] [(.double (P2 ((1 : Int32)).toNatClampNeg))]))
      refine own_step (fun _ k => own_dload X128.here hx rfl (hb hby at_336) rfl k) ?_
      show own_Fin p.tables e below _ (T128.setTop (mkF m 338 #[.val (.int w0), .val (.int w1), .val (.int w2), .val (.int w3), .val (.int w4), .val (.int w5), .val (.int ca), .val (.int cb), .val (.int cc), .val (.int cd), .val (.double (Jvm.FP.i2d w3)), .second, .val (.double (Jvm.FP.i2d w4)), .second, .val (.double (Jvm.FP.i2d w5)), .second, .val (.ref b1), .val (.ref b14), .val (.ref b25), .val (.int (1 : Int32))] [(.double (Jvm.FP.i2d w4)), (.double (P2 ((1 : Int32)).toNatClampNeg))]))
      refine own_step (fun _ k => XS.goto X128.here hx rfl (pc0 := 338) (pc' := 342) rfl (hb hby at_338) (by decide) (by decide) k) ?_
      show own_Fin p.tables e below _ (T128.setTop (mkF m 342 #[.val (.int w0), .val (.int w1), .val (.int w2), .val (.int w3), .val (.int w4), .val (.int w5), .val (.int ca), .val (.int cb), .val (.int cc), .val (.int cd), .val (.double (Jvm.FP.i2d w3)), .second, .val (.double (Jvm.FP.i2d w4)), .second, .val (.double (Jvm.FP.i2d w5)), .second, .val (.ref b1), .val (.ref b14), .val (.ref b25), .val (.int (1 : Int32))] [(.double (Jvm.FP.i2d w4)), (.double (P2 ((1 : Int32)).toNatClampNeg))]))
      exact J133 T128 _ (Jvm.FP.i2d w4) X128 e128 N128 (by rw [if_pos hc132])
    · refine own_step (fun _ k => XS.icmpYes X128.here hx rfl (pc0 := 333) (pc' := 341) rfl (hb hby at_333) rfl ((feq hc132).2) (by decide) (by decide) k) ?_
      show own_Fin p.tables e below _ (T128.setTop (mkF m 341 #[.val (.int w0), .val (.int w1), .val (.int w2), .val (.int w3), .val (.int w4), .val (.int w5), .val (.int ca), .val (.int cb), .val (.int cc), .val (.int cd), .val (.double (Jvm.FP.i2d w3)), .second, .val (.double (Jvm.FP.i2d w4)), .second, .val (.double (Jvm.FP.i2d w5)), .second, .val (.ref b1), .val (.ref b14), .val (.ref b25), .val (.int (1 : Int32))] [(.double (P2 ((1 : Int32)).toNatClampNeg))]))
      refine own_step (fun _ k => own_dconst X128.here hx rfl (hb hby at_341) k) ?_
      show own_Fin p.tables e below _ (T128.setTop (mkF m 342 #[.val (.int w0), .val (.int w1), .val (.int w2), .val (.int w3), .val (.int w4), .val (.int w5), .val (.int ca), .val (.int cb), .val (.int cc), .val (.int cd), .val (.double (Jvm.FP.i2d w3)), .second, .val (.double (Jvm.FP.i2d w4)), .second, .val (.double (Jvm.FP.i2d w5)), .second, .val (.ref b1), .val (.ref b14), .val (.ref b25), .val (.int (1 : Int32))] [(.double (0 : UInt64)), (.double (P2 ((1 : Int32)).toNatClampNeg))]))
      exact J133 T128 _ (0 : UInt64) X128 e128 N128 (by rw [if_neg hc132])
  by_cases hc126 : cd = (0 : Int32)
  · refine own_step (fun _ k => XS.ifNo X123.here hx rfl (hb hby at_301) rfl ((if0 _ _).trans (teq hc126).2) k) ?_
    show own_Fin p.tables e below _ (T123.setTop (mkF m 304 #[.val (.int w0), .val (.int w1), .val (.int w2), .val (.int w3), .val (.int w4), .val (.int w5), .val (.int ca), .val (.int cb), .val (.int cc), .val (.int cd), .val (.double (Jvm.FP.i2d w3)), .second, .val (.double (Jvm.FP.i2d w4)), .second, .val (.double (Jvm.FP.i2d w5)), .second, .val (.ref b1), .val (.ref b14), .val (.ref b25), .val (.int (1 : Int32))] [(.double (P2 ((0 : Int32)).toNatClampNeg))]))
    refine own_step (fun _ k => own_dload X123.here hx rfl (hb hby at_304) rfl k) ?_
    show own_Fin p.tables e below _ (T123.setTop (mkF m 306 #[.val (.int w0), .val (.int w1), .val (.int w2), .val (.int w3), .val (.int w4), .val (.int w5), .val (.int ca), .val (.int cb), .val (.int cc), .val (.int cd), .val (.double (Jvm.FP.i2d w3)), .second, .val (.double (Jvm.FP.i2d w4)), .second, .val (.double (Jvm.FP.i2d w5)), .second, .val (.ref b1), .val (.ref b14), .val (.ref b25), .val (.int (1 : Int32))] [(.double (Jvm.FP.i2d w4)), (.double (P2 ((0 : Int32)).toNatClampNeg))]))
    refine own_step (fun _ k => XS.goto X123.here hx rfl (pc0 := 306) (pc' := 310) rfl (hb hby at_306) (by decide) (by decide) k) ?_
    show own_Fin p.tables e below _ (T123.setTop (mkF m 310 #[.val (.int w0), .val (.int w1), .val (.int w2), .val (.int w3), .val (.int w4), .val (.int w5), .val (.int ca), .val (.int cb), .val (.int cc), .val (.int cd), .val (.double (Jvm.FP.i2d w3)), .second, .val (.double (Jvm.FP.i2d w4)), .second, .val (.double (Jvm.FP.i2d w5)), .second, .val (.ref b1), .val (.ref b14), .val (.ref b25), .val (.int (1 : Int32))] [(.double (Jvm.FP.i2d w4)), (.double (P2 ((0 : Int32)).toNatClampNeg))]))
    exact J127 T123 _ (Jvm.FP.i2d w4) X123 e123 N123 (by rw [if_pos hc126])
  · refine own_step (fun _ k => XS.ifYes X123.here hx rfl (pc0 := 301) (pc' := 309) rfl (hb hby at_301) rfl ((if0 _ _).trans (feq hc126).2) (by decide) (by decide) k) ?_
    show own_Fin p.tables e below _ (T123.setTop (mkF m 309 #[.val (.int w0), .val (.int w1), .val (.int w2), .val (.int w3), .val (.int w4), .val (.int w5), .val (.int ca), .val (.int cb), .val (.int cc), .val (.int cd), .val (.double (Jvm.FP.i2d w3)), .second, .val (.double (Jvm.FP.i2d w4)), .second, .val (.double (Jvm.FP.i2d w5)), .second, .val (.ref b1), .val (.ref b14), .val (.ref b25), .val (.int (1 : Int32))] [(.double (P2 ((0 : Int32)).toNatClampNeg))]))
    refine own_step (fun _ k => own_dconst X123.here hx rfl (hb hby at_309) k) ?_
    show own_Fin p.tables e below _ (T123.setTop (mkF m 310 #[.val (.int w0), .val (.int w1), .val (.int w2), .val (.int w3), .val (.int w4), .val (.int w5), .val (.int ca), .val (.int cb), .val (.int cc), .val (.int cd), .val (.double (Jvm.FP.i2d w3)), .second, .val (.double (Jvm.FP.i2d w4)), .second, .val (.double (Jvm.FP.i2d w5)), .second, .val (.ref b1), .val (.ref b14), .val (.ref b25), .val (.int (1 : Int32))] [(.double (0 : UInt64)), (.double (P2 ((0 : Int32)).toNatClampNeg))]))
    exact J127 T123 _ (0 : UInt64) X123 e123 N123 (by rw [if_neg hc126])
set_option maxRecDepth 65536 in
set_option maxHeartbeats 40000000 in
theorem comes_1 {Post : Tables → Env → Array Value → State → Outcome → State → Prop} (hpost : ∀ tb e args s v u, (limb_1_1.after args s (.returned v) u = true ∧ limb_1_2.after args s (.returned v) u = true ∧ True) → FrameEnd s (.returned v) u (Jvm.fieldLocs frame_1_writes args s ++ Jvm.arrayLocs frame_1_arrays args s ++ Jvm.staticLocs frame_1_statics s) 24 128 → Post tb e args s (.returned v) u) :
    ArmFor flags0 classFile x code maxLocals ret World_1 tables_1 room_1 Calls_1 rest_1 Pre_1 Post := by
  intro l hfl _ _ p e ha hc hk s m args below hf hA hF happ hP
  obtain ⟨hcalls, hrest, hpre⟩ := hP
  obtain ⟨-, -, -, hnamed, -, -, -, hat⟩ := (Spec.applies_iff hf).mp happ
  obtain ⟨hg, hn⟩ := and_e (Cond.before_iff.mp (show (Jvm.Cond.and given_1 narrow_1).before args s = true from hpre))
  obtain ⟨g1, g2⟩ := and_e hg
  obtain ⟨g3, g4⟩ := and_e g2
  obtain ⟨g5, g6⟩ := and_e g4
  obtain ⟨g7, g8⟩ := and_e g6
  obtain ⟨g9, g10⟩ := and_e g8
  obtain ⟨g11, g12⟩ := and_e g10
  obtain ⟨w0, w1, w2, w3, w4, w5, rfl⟩ : ∃ w0 w1 w2 w3 w4 w5 : Value, args = #[w0, w1, w2, w3, w4, w5] := by
    have hs : args.size = 6 := by simpa [Cond.value, given_1] using g1
    obtain ⟨L⟩ := args
    match L, hs with
    | [w0, w1, w2, w3, w4, w5], _ => exact ⟨w0, w1, w2, w3, w4, w5, rfl⟩
  have hw := fun d (hd : d ∈ tables_1) => atoms_spec (ws := Jvm.Cond.code x code maxLocals ret :: tables_1) hat d (List.mem_cons_of_mem _ hd)
  have hfit : Fit s := fun {y c} hc i hi => by
    obtain ⟨ha, rfl⟩ := Array.getElem?_eq_some_iff.mp hc
    have q := List.all_eq_true.mp ((Array.all_eq_true_iff_forall_mem.mp hF) _ (Array.getElem_mem ha)) i (List.mem_range.mpr hi)
    simpa [Array.getElem?_eq_getElem hi] using q
  obtain ⟨i0, ei0⟩ := is_v g3
  obtain rfl : w0 = (.int i0) := Option.some.inj ei0
  obtain ⟨i1, ei1⟩ := is_v g5
  obtain rfl : w1 = (.int i1) := Option.some.inj ei1
  obtain ⟨i2, ei2⟩ := is_v g7
  obtain rfl : w2 = (.int i2) := Option.some.inj ei2
  obtain ⟨i3, ei3⟩ := is_v g9
  obtain rfl : w3 = (.int i3) := Option.some.inj ei3
  obtain ⟨i4, ei4⟩ := is_v g11
  obtain rfl : w4 = (.int i4) := Option.some.inj ei4
  obtain ⟨i5, ei5⟩ := is_v g12
  obtain rfl : w5 = (.int i5) := Option.some.inj ei5
  obtain ⟨n, o, h1, h2, h3, _, L, rfl, ⟨rfl, N⟩, hq⟩ := rm0 l s _ hw tables_1 i0 i1 i2 i3 i4 i5 s.heap s.heap.size (Nat.le_refl _)  p e ha hc hk s m _ below hf ((Spec.applies_iff_loose hf).mp happ).1 ⟨rfl, State.Warmed39.refl s, rfl⟩ trivial
  refine ⟨n, _, h1, h2, h3, hpost _ _ _ _ _ _ ⟨Cond.after_iff.mpr rfl, Cond.after_iff.mpr (eq_i res_at (Term.int_eval (1)) rfl), trivial⟩ ⟨hq.1, hq.2.1, (hq.2.2.sift fun y hy => Or.inr (N y hy)).mono (by decide) (by decide)⟩⟩
theorem main_1_1 : Claimed_1_1 := comes_1 fun _ _ _ _ _ _ h hF => ⟨h.1, hF⟩
theorem main_1_2 : Claimed_1_2 := comes_1 fun _ _ _ _ _ _ h hF => ⟨h.2.1, hF⟩
end Jvm.Pilot.@@N@@
namespace Jvm.Pilot.@@N@@
open Jvm Jvm.ClassFile Sem Op Lib Jvm.Free Jvm.Stand Jvm.Pilot.@@N@@.Jvm.D
/-! MADE BY PROGRAM (witnessworld.py) out of the Statement's table words and the real class files: 11 classes; the members and pool entries that the words name. The judged class is class 1, her method 2. -/
namespace start1
open Jvm.ClassFile
def u (s : String) : CpInfo := .utf8 (stringToUtf16 s)
/-- a pool by its gaps: so many unusable entries, then the entry; so many at the end -/
def gap : Nat → List CpInfo → List CpInfo
  | 0, r => r
  | n + 1, r => .unusable :: gap n r
def poolList (es : List (Nat × CpInfo)) (last : Nat) : List CpInfo := es.foldr (fun e r => gap e.1 (e.2 :: r)) (gap last [])
def pool (es : List (Nat × CpInfo)) (last : Nat) : Array CpInfo := ⟨poolList es last⟩
def fileOf (pool : Array CpInfo) (this : Nat) (attrs : Array Attribute := #[]) (ms : Array MethodInfo := #[]) (fl : Nat := 33) (sup : Nat := 0) (ifs : Array Nat := #[]) (fds : Array FieldInfo := #[]) : ClassFile where
  minorVersion := 0
  majorVersion := 65
  constantPool := pool
  accessFlags := fl
  thisClass := this
  superClass := sup
  interfaces := ifs
  fields := fds
  methods := ms
  attributes := attrs
def plain (name : String) (sup : Option ClassId) : Class where
  name := name
  kind := .ordinary
  loader := none
  accessFlags := 33
  super := sup
  interfaces := #[]
  cf := none
  fields := #[]
  methods := #[]
  instanceTypes := #[]
  staticTypes := #[]
  resolved := #[]
  callSites := []
  init := .initialized
  statics := none
  mirror := none

def pool0 : Array CpInfo := pool [(5, u "<init>"), (0, u "()V"), (1, .class_ 10), (1, u "java/lang/Object")] 113

def k0c0 : Code := { maxStack := 0, maxLocals := 1, code := object_method_1_code, exceptionTable := #[], attributes := #[] }
def k0m0 : Method := { name := "<init>", desc := "()V", sig := { parameters := [], returnType := none }, accessFlags := 1, code := some k0c0 }
/-- java/lang/Object -/
def k0 : Class := { plain "java/lang/Object" none with
  accessFlags := 33
  interfaces := #[]
  cf := some (fileOf pool0 8 #[] #[{ accessFlags := 1, nameIndex := 5, descriptorIndex := 6, attributes := #[] }] 33 0 #[] #[])
  fields := #[]
  methods := #[k0m0]
  instanceTypes := #[]
  staticTypes := #[]
  resolved := Array.replicate 124 none
  statics := none }

def pool1 : Array CpInfo := pool [(2, .class_ 4), (1, u "java/lang/Object"), (0, u "<init>"), (0, u "()V"), (0, .class_ 8), (0, u "com/example/fusewright/fusewright/runtime/MatrixProduct$Sums"), (0, .methodref 7 10), (0, .nameAndType 5 11), (0, u "(I)V"), (0, .methodref 7 13), (0, .nameAndType 14 15), (0, u "add"), (0, u "(ID)V"), (0, .methodref 7 17), (0, .nameAndType 18 19), (0, u "addTo"), (0, u "([DI)V"), (0, .methodref 21 22), (0, .class_ 23), (0, .nameAndType 24 25), (0, u "com/example/fusewright/fusewright/runtime/SumsAddPinLaw"), (0, u "expect"), (0, u "(IIJIJIJ)J"), (3, u "law"), (0, u "(IIIIII)Z")] 8

def k1m0 : Method := { name := "<init>", desc := "()V", sig := { parameters := [], returnType := none }, accessFlags := 2, code := none }
def k1c1 : Code := { maxStack := 4, maxLocals := 12, code := method_2_code, exceptionTable := #[], attributes := #[] }
def k1m1 : Method := { name := "expect", desc := "(IIJIJIJ)J", sig := { parameters := [.int, .int, .long, .int, .long, .int, .long], returnType := some .long }, accessFlags := 10, code := some k1c1 }
def k1c2 : Code := { maxStack := 12, maxLocals := 20, code := code, exceptionTable := #[], attributes := #[] }
def k1m2 : Method := { name := "law", desc := "(IIIIII)Z", sig := { parameters := [.int, .int, .int, .int, .int, .int], returnType := some .boolean }, accessFlags := 9, code := some k1c2 }
/-- com/example/fusewright/fusewright/runtime/SumsAddPinLaw -/
def k1 : Class := { plain "com/example/fusewright/fusewright/runtime/SumsAddPinLaw" (some 0) with
  accessFlags := 49
  interfaces := #[]
  cf := some (fileOf pool1 21 #[] #[{ accessFlags := 2, nameIndex := 5, descriptorIndex := 6, attributes := #[] }, { accessFlags := 10, nameIndex := 24, descriptorIndex := 25, attributes := #[] }, { accessFlags := 9, nameIndex := 29, descriptorIndex := 30, attributes := #[] }] 49 2 #[] #[])
  fields := #[]
  methods := #[k1m0, k1m1, k1m2]
  instanceTypes := #[]
  staticTypes := #[]
  resolved := Array.replicate 39 none
  statics := none }

def pool2 : Array CpInfo := pool [(1, .methodref 2 3), (0, .class_ 4), (0, .nameAndType 5 6), (0, u "java/lang/Object"), (0, u "<init>"), (0, u "()V"), (0, .fieldref 8 9), (0, .class_ 10), (0, .nameAndType 11 12), (0, u "com/example/fusewright/fusewright/runtime/MatrixProduct$Sums"), (0, u "values"), (0, u "[D"), (0, .fieldref 8 14), (0, .nameAndType 15 16), (0, u "reached"), (0, u "[Z"), (0, .fieldref 8 18), (0, .nameAndType 19 20), (0, u "columns"), (0, u "[I"), (0, .fieldref 8 22), (0, .nameAndType 23 24), (0, u "count"), (0, u "I"), (2, u "add"), (0, u "(ID)V"), (0, .methodref 8 30), (0, .nameAndType 31 6), (0, u "clear"), (9, u "(I)V"), (3, u "addTo"), (1, u "([DI)V"), (4, .class_ 53), (0, u "com/example/fusewright/fusewright/runtime/MatrixProduct")] 5

def k2c0 : Code := { maxStack := 2, maxLocals := 2, code := prog_84_method_1_code, exceptionTable := #[], attributes := #[] }
def k2m0 : Method := { name := "<init>", desc := "(I)V", sig := { parameters := [.int], returnType := none }, accessFlags := 0, code := some k2c0 }
def k2c1 : Code := { maxStack := 6, maxLocals := 4, code := prog_84_method_2_code, exceptionTable := #[], attributes := #[] }
def k2m1 : Method := { name := "add", desc := "(ID)V", sig := { parameters := [.int, .double], returnType := none }, accessFlags := 0, code := some k2c1 }
def k2c2 : Code := { maxStack := 6, maxLocals := 5, code := prog_84_method_4_code, exceptionTable := #[], attributes := #[] }
def k2m2 : Method := { name := "addTo", desc := "([DI)V", sig := { parameters := [(.array .double), .int], returnType := none }, accessFlags := 0, code := some k2c2 }
def k2c3 : Code := { maxStack := 4, maxLocals := 2, code := prog_84_method_6_code, exceptionTable := #[], attributes := #[] }
def k2m3 : Method := { name := "clear", desc := "()V", sig := { parameters := [], returnType := none }, accessFlags := 2, code := some k2c3 }
/-- com/example/fusewright/fusewright/runtime/MatrixProduct$Sums -/
def k2 : Class := { plain "com/example/fusewright/fusewright/runtime/MatrixProduct$Sums" (some 0) with
  accessFlags := 48
  interfaces := #[]
  cf := some (fileOf pool2 8 #[.nestHost 52] #[{ accessFlags := 0, nameIndex := 5, descriptorIndex := 41, attributes := #[] }, { accessFlags := 0, nameIndex := 27, descriptorIndex := 28, attributes := #[] }, { accessFlags := 0, nameIndex := 45, descriptorIndex := 47, attributes := #[] }, { accessFlags := 2, nameIndex := 31, descriptorIndex := 6, attributes := #[] }] 48 2 #[] #[{ accessFlags := 18, nameIndex := 11, descriptorIndex := 12, attributes := #[] }, { accessFlags := 18, nameIndex := 15, descriptorIndex := 16, attributes := #[] }, { accessFlags := 18, nameIndex := 19, descriptorIndex := 20, attributes := #[] }, { accessFlags := 2, nameIndex := 23, descriptorIndex := 24, attributes := #[] }])
  fields := #[{ name := "values", type := (.array .double), accessFlags := 18, slot := 0, constantValue := 0 }, { name := "reached", type := (.array .boolean), accessFlags := 18, slot := 1, constantValue := 0 }, { name := "columns", type := (.array .int), accessFlags := 18, slot := 2, constantValue := 0 }, { name := "count", type := .int, accessFlags := 2, slot := 3, constantValue := 0 }]
  methods := #[k2m0, k2m1, k2m2, k2m3]
  instanceTypes := #[(.array .double), (.array .boolean), (.array .int), .int]
  staticTypes := #[]
  resolved := Array.replicate 59 none
  statics := none }

def pool3 : Array CpInfo := pool [(1, u "java/lang/Cloneable"), (0, .class_ 1), (0, u "java/lang/Object"), (0, .class_ 3)] 3

/-- java/lang/Cloneable -/
def k3 : Class := { plain "java/lang/Cloneable" (some 0) with
  accessFlags := 1537
  interfaces := #[]
  cf := some (fileOf pool3 2 #[] #[] 1537 4 #[] #[])
  fields := #[]
  methods := #[]
  instanceTypes := #[]
  staticTypes := #[]
  resolved := Array.replicate 8 none
  statics := none }

def pool4 : Array CpInfo := pool [(1, u "java/io/Serializable"), (0, .class_ 1), (0, u "java/lang/Object"), (0, .class_ 3)] 3

/-- java/io/Serializable -/
def k4 : Class := { plain "java/io/Serializable" (some 0) with
  accessFlags := 1537
  interfaces := #[]
  cf := some (fileOf pool4 2 #[] #[] 1537 4 #[] #[])
  fields := #[]
  methods := #[]
  instanceTypes := #[]
  staticTypes := #[]
  resolved := Array.replicate 8 none
  statics := none }

/-- the primitive boolean -/
def k5 : Class := { plain "boolean" none with kind := .primitive 'Z', accessFlags := 0x411 }
/-- [Z -/
def k6 : Class := { plain "[Z" (some 0) with kind := .array 5 .boolean, interfaces := #[3, 4], accessFlags := 1041 }

/-- the primitive byte -/
def k7 : Class := { plain "byte" none with kind := .primitive 'B', accessFlags := 0x411 }
/-- [B -/
def k8 : Class := { plain "[B" (some 0) with kind := .array 7 .byte, interfaces := #[3, 4], accessFlags := 1041 }

/-- the primitive int -/
def k9 : Class := { plain "int" none with kind := .primitive 'I', accessFlags := 0x411 }
/-- [I -/
def k10 : Class := { plain "[I" (some 0) with kind := .array 9 .int, interfaces := #[3, 4], accessFlags := 1041 }

def k11 : Class := { plain "double" none with kind := .primitive 'D', accessFlags := 0x411 }
def k12 : Class := { plain "[D" (some 0) with kind := .array 11 .double, interfaces := #[3, 4], accessFlags := 1041 }
def heap : Heap := #[]
def classes : Array Class := #[k0, k1, k2, k3, k4, k5, k6, k7, k8, k9, k10, k11, k12]
def interned : List (Array UInt16 × Addr) := []
def slotsUsed : Nat := 0
def theMethod : MethodId := ⟨1, 2⟩
def args0 : Array Value := #[.int 1, .int 2, .int 3, .int 4, .int 5, .int 6]
def aboutOver (below : List Frame) : State where
  vm := { classes := classes, interned := interned.toArray }
  heap := heap
  slotsUsed := slotsUsed
  threads := #[{ frames := .invoking theMethod args0 :: below }]
def below0 : List Frame := [.native { method := ⟨0, 0⟩, args := #[] }]
def about1 : State := aboutOver below0
def p0 : Program := .bare "" "" ""
def e0 : Env := launch0.env 0 0 0
theorem w_frames : about1.frames = Frame.invoking theMethod args0 :: below0 := rfl
set_option maxRecDepth 65536 in
theorem w_args : argsFit about1.vm theMethod args0 = true := by decide +kernel
set_option maxRecDepth 65536 in
theorem w_heap : heapFits about1 = true := by decide +kernel
set_option maxRecDepth 65536 in
theorem w_runnable : about1.curStatus? = some .runnable := by decide +kernel
set_option maxRecDepth 65536 in
theorem w_alone : about1.alone = true := by decide +kernel
set_option maxRecDepth 65536 in
theorem w_named : about1.methodNamed? x = some theMethod := by decide +kernel
set_option maxRecDepth 65536 in
theorem w_hears : about1.hears theMethod below0 = true := by decide +kernel
set_option maxRecDepth 65536 in
theorem w_ripe : about1.ripe theMethod args0 below0 = true := by decide +kernel
theorem w_running : about1.status = .running := rfl
set_option maxRecDepth 65536 in
theorem w_room : about1.hasRoom e0.platform room_1 = true :=
  launch0.hasRoom_least _ room_1 (by decide +kernel) (by decide +kernel) (by decide +kernel) (by decide +kernel) (by decide +kernel) (by decide +kernel)
theorem allAtoms_all (ts : List Jvm.Cond) (a : Array Jvm.Value) (st : Jvm.State) : (allAtoms ts).before a st = ts.all (fun c => c.before a st) := by
  induction ts with
  | nil => rfl
  | cons c t ih =>
    show (Jvm.Cond.and c (allAtoms t)).before a st = _
    rw [Jvm.Cond.before_and, ih, List.all_cons]
def words1 : List Jvm.Cond := Jvm.Cond.code x code maxLocals ret :: tables_1
/-- a 'code' word, met by the world's own term for the bytes: nothing is compared byte by byte -/
theorem code_word {y : MethodName} {bytes : ByteArray} {mx : Nat} {rt : Option FieldType} {a : Array Value} {s : State} {m : MethodId} {meth : Method} {c : Code} (h1 : s.methodNamed? y = some m) (h2 : s.vm.method? m = some meth) (h3 : meth.code = some c) (h4 : c.code = bytes)
    (h5 : (c.maxLocals == mx && c.exceptionTable.isEmpty && decide (c.maxStack ≤ mostOperands) && decide (meth.sig.returnType = rt) && !meth.locks && decide (parseMethodDescriptor y.desc = some meth.sig)) = true) : (Jvm.Cond.code y bytes mx rt).before a s = true := by
  simp only [Bool.and_eq_true, beq_iff_eq, Bool.not_eq_true', decide_eq_true_eq] at h5
  obtain ⟨⟨⟨⟨⟨g1, g2⟩, g3⟩, g4⟩, g5⟩, g6⟩ := h5
  simp [Cond.before, Cond.holds, Cond.value, h1, h2, h3, h4, g1, g2, g3, g4, g5, g6]
def isCode : Jvm.Cond → Bool
  | .code _ _ _ _ => true
  | _ => false
theorem all_split {L : List Jvm.Cond} {P : Jvm.Cond → Bool} (h1 : L.all (fun c => isCode c || P c) = true) (h2 : ∀ c ∈ L.filter isCode, P c = true) : L.all P = true := by
  refine List.all_eq_true.mpr fun c hc => ?_
  have h := List.all_eq_true.mp h1 c hc
  rcases Bool.eq_false_or_eq_true (isCode c) with hi | hi
  · exact h2 c (List.mem_filter.mpr ⟨hc, hi⟩)
  · simpa [hi] using h
set_option maxRecDepth 65536 in
theorem w_c0 : (Jvm.Cond.code x code maxLocals ret).before args0 about1 = true := code_word (m := ⟨1, 2⟩) (meth := k1m2) (c := k1c2) (by decide +kernel) rfl rfl rfl (by decide +kernel)
set_option maxRecDepth 65536 in
theorem w_c1 : (Jvm.Cond.code ({ cls := "com/example/fusewright/fusewright/runtime/MatrixProduct$Sums", name := "<init>", desc := "(I)V" } : Jvm.MethodName) prog_84_method_1_code (2 : Nat) (Option.none : Option Jvm.ClassFile.FieldType)).before args0 about1 = true := code_word (m := ⟨2, 0⟩) (meth := k2m0) (c := k2c0) (by decide +kernel) rfl rfl rfl (by decide +kernel)
set_option maxRecDepth 65536 in
theorem w_c2 : (Jvm.Cond.code ({ cls := "java/lang/Object", name := "<init>", desc := "()V" } : Jvm.MethodName) object_method_1_code (1 : Nat) (Option.none : Option Jvm.ClassFile.FieldType)).before args0 about1 = true := code_word (m := ⟨0, 0⟩) (meth := k0m0) (c := k0c0) (by decide +kernel) rfl rfl rfl (by decide +kernel)
set_option maxRecDepth 65536 in
theorem w_c3 : (Jvm.Cond.code ({ cls := "com/example/fusewright/fusewright/runtime/MatrixProduct$Sums", name := "add", desc := "(ID)V" } : Jvm.MethodName) prog_84_method_2_code (4 : Nat) (Option.none : Option Jvm.ClassFile.FieldType)).before args0 about1 = true := code_word (m := ⟨2, 1⟩) (meth := k2m1) (c := k2c1) (by decide +kernel) rfl rfl rfl (by decide +kernel)
set_option maxRecDepth 65536 in
theorem w_c4 : (Jvm.Cond.code ({ cls := "com/example/fusewright/fusewright/runtime/MatrixProduct$Sums", name := "addTo", desc := "([DI)V" } : Jvm.MethodName) prog_84_method_4_code (5 : Nat) (Option.none : Option Jvm.ClassFile.FieldType)).before args0 about1 = true := code_word (m := ⟨2, 2⟩) (meth := k2m2) (c := k2c2) (by decide +kernel) rfl rfl rfl (by decide +kernel)
set_option maxRecDepth 65536 in
theorem w_c5 : (Jvm.Cond.code ({ cls := "com/example/fusewright/fusewright/runtime/MatrixProduct$Sums", name := "clear", desc := "()V" } : Jvm.MethodName) prog_84_method_6_code (2 : Nat) (Option.none : Option Jvm.ClassFile.FieldType)).before args0 about1 = true := code_word (m := ⟨2, 3⟩) (meth := k2m3) (c := k2c3) (by decide +kernel) rfl rfl rfl (by decide +kernel)
set_option maxRecDepth 65536 in
theorem w_c6 : (Jvm.Cond.code ({ cls := "com/example/fusewright/fusewright/runtime/SumsAddPinLaw", name := "expect", desc := "(IIJIJIJ)J" } : Jvm.MethodName) method_2_code (12 : Nat) (Option.some Jvm.ClassFile.FieldType.long)).before args0 about1 = true := code_word (m := ⟨1, 1⟩) (meth := k1m1) (c := k1c1) (by decide +kernel) rfl rfl rfl (by decide +kernel)
def codes1 : List Jvm.Cond := [Jvm.Cond.code x code maxLocals ret, Jvm.Cond.code ({ cls := "com/example/fusewright/fusewright/runtime/MatrixProduct$Sums", name := "<init>", desc := "(I)V" } : Jvm.MethodName) prog_84_method_1_code (2 : Nat) (Option.none : Option Jvm.ClassFile.FieldType), Jvm.Cond.code ({ cls := "java/lang/Object", name := "<init>", desc := "()V" } : Jvm.MethodName) object_method_1_code (1 : Nat) (Option.none : Option Jvm.ClassFile.FieldType), Jvm.Cond.code ({ cls := "com/example/fusewright/fusewright/runtime/MatrixProduct$Sums", name := "add", desc := "(ID)V" } : Jvm.MethodName) prog_84_method_2_code (4 : Nat) (Option.none : Option Jvm.ClassFile.FieldType), Jvm.Cond.code ({ cls := "com/example/fusewright/fusewright/runtime/MatrixProduct$Sums", name := "addTo", desc := "([DI)V" } : Jvm.MethodName) prog_84_method_4_code (5 : Nat) (Option.none : Option Jvm.ClassFile.FieldType), Jvm.Cond.code ({ cls := "com/example/fusewright/fusewright/runtime/MatrixProduct$Sums", name := "clear", desc := "()V" } : Jvm.MethodName) prog_84_method_6_code (2 : Nat) (Option.none : Option Jvm.ClassFile.FieldType), Jvm.Cond.code ({ cls := "com/example/fusewright/fusewright/runtime/SumsAddPinLaw", name := "expect", desc := "(IIJIJIJ)J" } : Jvm.MethodName) method_2_code (12 : Nat) (Option.some Jvm.ClassFile.FieldType.long)]
set_option maxRecDepth 65536 in
theorem codes_eq : words1.filter isCode = codes1 := rfl
theorem w_codes : ∀ c ∈ words1.filter isCode, c.before args0 about1 = true := by
  rw [codes_eq]
  intro c hc
  simp only [codes1, List.mem_cons, List.not_mem_nil, or_false] at hc
  rcases hc with rfl | rfl | rfl | rfl | rfl | rfl | rfl
  · exact w_c0
  · exact w_c1
  · exact w_c2
  · exact w_c3
  · exact w_c4
  · exact w_c5
  · exact w_c6
set_option maxRecDepth 65536 in
theorem w_t1 : (words1.take 24).all (fun c => isCode c || c.before args0 about1) = true := by decide +kernel
set_option maxRecDepth 65536 in
theorem w_t2 : (words1.drop 24).all (fun c => isCode c || c.before args0 about1) = true := by decide +kernel
theorem w_tables : (allAtoms (Jvm.Cond.code x code maxLocals ret :: tables_1)).before args0 about1 = true := by
  rw [allAtoms_all]
  show words1.all (fun c => c.before args0 about1) = true
  refine all_split ?_ w_codes
  rw [← List.take_append_drop 24 words1, List.all_append, w_t1, w_t2]
  rfl
set_option maxRecDepth 65536 in
theorem w_case : (Jvm.Cond.and given_1 narrow_1).before args0 about1 = true := by decide +kernel
theorem w_applies : (headSpec (Jvm.Cond.code x code maxLocals ret :: tables_1) room_1).applies x e0.platform about1 = true :=
  (Spec.applies_iff w_frames).mpr ⟨w_running, w_runnable, w_alone, w_named, w_hears, w_ripe, w_room, w_tables⟩
theorem atStart : AtStart classFile x code maxLocals ret World_1 tables_1 room_1 Calls_1 rest_1 Pre_1 launch0 p0 e0 about1 theMethod args0 below0 :=
  ⟨lists_1, trivial, launch0.admits_env _ _ _, launch0.least_env, fairChoices_fair.cas, fairChoices_fair.clock, w_frames, w_args, w_heap, w_applies, trivial, trivial, w_case⟩
end start1
theorem witness_1 : WitnessClaimed_1 := ⟨start1.p0, start1.e0, start1.about1, start1.theMethod, start1.args0, start1.below0, start1.atStart⟩
end Jvm.Pilot.@@N@@
