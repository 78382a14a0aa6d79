import JvmDerived
import JvmDerived.Pilot.@@N@@Statement
import JvmDerived.Pilot.@@N@@Code
set_option linter.unusedVariables false
set_option linter.unusedSimpArgs false
namespace Jvm.RoadKit
open Sem ClassFile Op Lib Jvm.Stand Jvm.Free Jvm.LawKit
section New
variable {p : Program} {l : Launch} {e : Env} {R : Room} {s : State} {m : MethodId} {args : Array Value} {below : List Frame} {meth : Method} {c : Code} {T : State} {locs : List Loc} {cells slots : Nat}
theorem retI (X : Stand p l e R s m args below meth c T locs cells slots) (hx : p.tables.exec = Jvm.exec) {pc : Nat} {Ls : Array Slot} {z : Int32} {rest : List Value} (hret : meth.sig.returnType = some .int) (hd : decode c.code pc = .ok (.ireturn, 1)) {fs : List Frame}
    (hl : ∀ (f : JFrame) (acts : List Action), f.method = m → f.locked = none → f.entered = [] → (doReturn e (T.setTop f) acts (some (.int z))).1 = T.setFrames fs) : Steps p.tables e below (T.setTop (mkF m pc Ls (.int z :: rest))) (T.setFrames fs) := by
  have hm' : T.vm.method? m = some meth := X.method'
  have hn : narrow .int (.int z) = .int z := rfl
  show Steps p.tables e below (T.setTop { method := m, pc := pc, locals := Ls, stack := _ :: rest, locked := none }) _
  jvm_step X.here [X.here.top, hx, hd, hm', hret, hn]
  first | (intro acts; rw [hl _ acts rfl rfl rfl]) | rw [hl _ _ rfl rfl rfl]
  exact Steps.refl _
theorem own_retJ (X : Stand p l e R s m args below meth c T locs cells slots) (hx : p.tables.exec = Jvm.exec) {pc : Nat} {Ls : Array Slot} {z : Int64} {rest : List Value} (hret : meth.sig.returnType = some .long) (hd : decode c.code pc = .ok (.lreturn, 1)) {fs : List Frame}
    (hl : ∀ (f : JFrame) (acts : List Action), f.method = m → f.locked = none → f.entered = [] → (doReturn e (T.setTop f) acts (some (.long z))).1 = T.setFrames fs) : Steps p.tables e below (T.setTop (mkF m pc Ls (.long z :: rest))) (T.setFrames fs) := by
  have hm' : T.vm.method? m = some meth := X.method'
  have hn : narrow .long (.long z) = .long z := rfl
  show Steps p.tables e below (T.setTop { method := m, pc := pc, locals := Ls, stack := _ :: rest, locked := none }) _
  jvm_step X.here [X.here.top, hx, hd, hm', hret, hn]
  first | (intro acts; rw [hl _ acts rfl rfl rfl]) | rw [hl _ _ rfl rfl rfl]
  exact Steps.refl _
end New
end Jvm.RoadKit
namespace Jvm.Pilot.@@N@@
open Jvm Jvm.ClassFile Sem Op Lib Jvm.Free Jvm.Stand Jvm.LawKit Jvm.RoadKit Bundle Jvm.Pilot.@@N@@.Jvm.D
def own_Fin (tb : Tables) (e : Env) (below : List Frame) (P : Outcome → State → Prop) (S : State) : Prop := ∃ s₂ o, Steps tb e below S s₂ ∧ s₂.status = .running ∧ Ended s₂ below o ∧ P o s₂
theorem own_step {tb : Tables} {e : Env} {below : List Frame} {P : Outcome → State → Prop} {A B : State} (h : ∀ t, Steps tb e below B t → Steps tb e below A t) (k : own_Fin tb e below P B) : own_Fin tb e below P A := by
  obtain ⟨s₂, o, h1, h2⟩ := k; exact ⟨s₂, o, h _ h1, h2⟩
theorem own_steps {tb : Tables} {e : Env} {below : List Frame} {P : Outcome → State → Prop} {A B : State} (h : Steps tb e below A B) (k : own_Fin tb e below P B) : own_Fin tb e below P A := by
  obtain ⟨s₂, o, h1, h2⟩ := k; exact ⟨s₂, o, h.trans h1, h2⟩
theorem own_ret {tb : Tables} {e : Env} {below : List Frame} {P : Outcome → State → Prop} {S s₂ : State} {o : Outcome} (h : Steps tb e below S s₂) (h1 : s₂.status = .running) (h2 : Ended s₂ below o) (h3 : P o s₂) : own_Fin tb e below P S := ⟨s₂, o, h, h1, h2, h3⟩
theorem own_enter {tb : Tables} {e : Env} {below : List Frame} {P : Outcome → State → Prop} {T : State} {g g' : JFrame} (q : g = g') (k : own_Fin tb e below P (T.setTop g')) : ∃ s₂ o, Steps tb e below (T.setTop g) s₂ ∧ s₂.status = .running ∧ Ended s₂ below o ∧ P o s₂ := q ▸ k
def own_Two (a b : Slot) : Prop := (a = .unset ∧ b = .unset) ∨ ∃ v : Int64, a = .val (.long v) ∧ b = .second
theorem own_Two.u : own_Two .unset .unset := Or.inl ⟨rfl, rfl⟩
theorem own_Two.l {v : Int64} : own_Two (.val (.long v)) .second := Or.inr ⟨v, rfl, rfl⟩
def own_Arf (Z : State) (h : Heap) (a : Addr) (ty : FieldType) (n : Nat) (f : Nat → Value) : Prop := ∃ cl : Cell, Arr Z h a cl ty ∧ cl.slots.size = n ∧ ∀ i, i < n → cl.slots[i]? = some (f i)
def own_upd {α : Type} (g : Nat → α) (j : Nat) (v : α) : Nat → α := fun i => if i = j then v else g i
section OwnArr
variable {Z : State} {h h' : Heap} {a b : Addr} {ty : FieldType} {n : Nat} {f : Nat → Value} {v : Value} {sl : Nat} {ws : List Addr}
theorem own_Arf.lt (F : own_Arf Z h a ty n f) : a < h.size := by obtain ⟨c, A, -⟩ := F; exact A.lt
theorem own_Arf.ext (F : own_Arf Z h a ty n f) (E : Ext h h') : own_Arf Z h' a ty n f := by obtain ⟨c, A, r⟩ := F; exact ⟨c, A.ext E, r⟩
theorem own_Arf.other (F : own_Arf Z h b ty n f) (W : Wr h h' a sl v) (q : b ≠ a) : own_Arf Z h' b ty n f := by obtain ⟨c, A, r⟩ := F; exact ⟨c, A.other W q, r⟩
theorem own_Arf.keep (F : own_Arf Z h a ty n f) (K : Keep h h' ws) (q : a ∉ ws) : own_Arf Z h' a ty n f := by obtain ⟨c, A, r⟩ := F; exact ⟨c, ⟨K.2.1 a c A.1 q, A.2⟩, r⟩
theorem own_Arf.set (F : own_Arf Z h a ty n f) (W : Wr h h' a sl v) : own_Arf Z h' a ty n (fun i => if i = sl then v else f i) := by
  obtain ⟨c, A, S, H⟩ := F
  obtain ⟨c', e1, -, -, e4, -, e6, e7⟩ := wr_at W A.1
  have e8 := (e7 rfl).2.1
  refine ⟨c', ⟨e1, ?_, ?_⟩, by rw [e4, S], fun i hi => ?_⟩
  · rw [(e7 rfl).1]; exact (A.same W).2.1
  · rw [(e7 rfl).1]; exact (A.same W).2.2
  · show c'.slots[i]? = some (if i = sl then v else f i)
    by_cases q : i = sl
    · rw [if_pos q, q]; exact e8
    · rw [if_neg q, e6 _ q]; exact H i hi
theorem own_Arf.setI {g : Nat → Int32} {x : Int32} (F : own_Arf Z h a ty n (fun i => .int (g i))) (W : Wr h h' a sl (.int x)) : own_Arf Z h' a ty n (fun i => .int (own_upd g sl x i)) := by
  have q := F.set W
  have e : (fun i => Value.int (own_upd g sl x i)) = (fun i => if i = sl then Value.int x else Value.int (g i)) := by funext i; unfold own_upd; split <;> rfl
  rw [e]; exact q
theorem own_Arf.setJ {g : Nat → Int64} {x : Int64} (F : own_Arf Z h a ty n (fun i => .long (g i))) (W : Wr h h' a sl (.long x)) : own_Arf Z h' a ty n (fun i => .long (own_upd g sl x i)) := by
  have q := F.set W
  have e : (fun i => Value.long (own_upd g sl x i)) = (fun i => if i = sl then Value.long x else Value.long (g i)) := by funext i; unfold own_upd; split <;> rfl
  rw [e]; exact q
theorem own_Arf.ofI {k : ClassId} {z : Int32} {vs : List Value} (V : Arv Z h a k ty z vs (.int 0)) (l : List Int32) (hl : vs = l.map Value.int) (hz : z.toNatClampNeg = n) : own_Arf Z h a ty n (fun i => .int (l.getD i 0)) := by
  obtain ⟨c, A, -, S, -, H, -⟩ := V
  refine ⟨c, A, S.trans hz, fun i hi => ?_⟩
  rw [H i (by rw [S, hz]; exact hi), hl]
  simp only [List.getD, List.getElem?_map]
  cases l[i]? <;> rfl
theorem own_Arf.ofJ {k : ClassId} {z : Int32} {vs : List Value} (V : Arv Z h a k ty z vs (.long 0)) (l : List Int64) (hl : vs = l.map Value.long) (hz : z.toNatClampNeg = n) : own_Arf Z h a ty n (fun i => .long (l.getD i 0)) := by
  obtain ⟨c, A, -, S, -, H, -⟩ := V
  refine ⟨c, A, S.trans hz, fun i hi => ?_⟩
  rw [H i (by rw [S, hz]; exact hi), hl]
  simp only [List.getD, List.getElem?_map]
  cases l[i]? <;> rfl
theorem own_in {c : Cell} {j : Int32} (S : c.slots.size = n) (q : 0 ≤ j.toInt ∧ j.toInt < n) : ¬ (j < 0 ∨ c.slots.size ≤ j.toNatClampNeg) := by
  rw [S]; simp only [Int32.lt_iff_toInt_lt, Int32.toNatClampNeg, Int32.reduceToInt]; omega
theorem own_in2 {j : Int32} (q : 0 ≤ j.toInt ∧ j.toInt < n) : j.toNatClampNeg < n := by simp only [Int32.toNatClampNeg]; omega
end OwnArr
theorem own_dload {tb : Tables} [Ours tb] {e : Env} {below : List Frame} {T target : State} {m : MethodId} {c : Code} {g : JFrame} (h : At T m c below) (hx : tb.exec = Jvm.exec) (hg : g.method = m) {k : Nat} {v : UInt64} (hd : decode c.code g.pc = .ok (.dload k, 2)) (hl : g.locals[k]? = some (.val (.double v)))
    (hr : Steps tb e below (T.setTop { g with pc := g.pc + 2, stack := .double v :: g.stack }) target) : Steps tb e below (T.setTop g) target := by
  subst hg
  jvm_step h [h.top, hx, hd, hl]
  exact hr
theorem own_dconst {tb : Tables} [Ours tb] {e : Env} {below : List Frame} {T target : State} {m : MethodId} {c : Code} {g : JFrame} (h : At T m c below) (hx : tb.exec = Jvm.exec) (hg : g.method = m) (hd : decode c.code g.pc = .ok (.dconst 0, 1))
    (hr : Steps tb e below (T.setTop { g with pc := g.pc + 1, stack := .double 0 :: g.stack }) target) : Steps tb e below (T.setTop g) target := by
  subst hg
  jvm_step h [h.top, hx, hd]
  exact hr
theorem own_sub1 {n : Int32} (h : 0 < n.toInt) : (n - 1).toInt = n.toInt - 1 := by
  have := c_isub n 1; have := rng32 n; have := rng32 (n - 1); have : (1 : Int32).toInt = 1 := by decide
  omega
theorem own_add1 {n : Int32} (h : n.toInt < 1000) : (n + 1).toInt = n.toInt + 1 := by
  have := c_iadd n 1; have := rng32 n; have := rng32 (n + 1); have : (1 : Int32).toInt = 1 := by decide
  omega
theorem own_addsub (q : Int32) : (q + (1 : Int32)) - (1 : Int32) = q := by
  apply Int32.toInt_inj.mp
  have h1 := c_iadd q 1; have h2 := c_isub (q + 1) 1; have h3 := rng32 q; have h4 := rng32 (q + 1 - 1); have : (1 : Int32).toInt = 1 := by decide
  omega
theorem own_rem {x y : Int32} (hx : 0 ≤ x.toInt) (hy : 0 < y.toInt) : 0 ≤ (x - (x / y) * y).toInt ∧ (x - (x / y) * y).toInt < y.toInt := by
  have hr : x - (x / y) * y = x % y := by
    apply Int32.toInt_inj.mp
    have h1 := c_isub x (x / y * y); have h2 := c_imul (x / y) y; have h3 := rng32 (x - x / y * y)
    have h4 : y ≠ -1 := fun q => by rw [q] at hy; revert hy; decide
    have h5 := (c_idiv x y y.toInt rfl h4).1 hx; have h6 := (c_irem x y y.toInt rfl).1 hx
    have h7 := Int.emod_add_mul_ediv x.toInt y.toInt; have h8 := Int.emod_nonneg x.toInt (show y.toInt ≠ 0 by omega); have h9 := Int.emod_lt_of_pos x.toInt hy; have h10 := rng32 y
    rw [h5] at h2
    have h11 : y.toInt * (x.toInt / y.toInt) = x.toInt / y.toInt * y.toInt := Int.mul_comm _ _
    rw [h6]; omega
  rw [hr]
  have := (c_iremV x y).1 hx hy
  exact ⟨this.1, this.2.1⟩
theorem own_q64 {q : Int32} (h0 : 0 ≤ q.toInt) (h1 : q.toInt < 64) : q.toBitVec.toNat % 64 = q.toInt.toNat := by
  have h : q.toInt = q.toBitVec.toInt := rfl
  have h2 := q.toBitVec.isLt
  rw [BitVec.toInt_eq_toNat_cond] at h
  split at h <;> omega
theorem own_shl (x : Int64) {q : Int32} (h0 : 0 ≤ q.toInt) (h1 : q.toInt < 64) : (x <<< (q &&& 0x3f).toInt64).toBitVec = x.toBitVec <<< q.toInt.toNat := by
  have k := own_q64 h0 h1
  show x.toBitVec <<< ((q &&& 0x3f).toInt64.toBitVec.smod 64) = _
  rw [BitVec.shiftLeft_eq', (sm64 q _ k).1, smod64 _ (sm64 q _ k).2]
theorem own_shr (x : Int64) {q : Int32} (h0 : 0 ≤ q.toInt) (h1 : q.toInt < 64) : ((x.toUInt64 >>> (q &&& 0x3f).toInt64.toUInt64).toInt64).toBitVec = x.toBitVec >>> q.toInt.toNat := by
  have k := own_q64 h0 h1
  show x.toBitVec >>> ((q &&& 0x3f).toInt64.toBitVec % 64) = _
  rw [BitVec.ushiftRight_eq', BitVec.toNat_umod, (sm64 q _ k).1, BitVec.toNat_ofNat]
  congr 1
  show q.toInt.toNat % 2 ^ 64 % 64 = _
  omega
theorem own_pos {x : Int64} (h : x.toBitVec.toNat < 2 ^ 63) : x.toInt = x.toBitVec.toNat := by
  show x.toBitVec.toInt = _
  rw [BitVec.toInt_eq_toNat_cond, if_pos (by omega)]
def own_a (x : Int64) (w : Int32) : Int64 := ((((x.toUInt64 >>> ((1 : Int32) &&& 0x3f).toInt64.toUInt64).toInt64).toUInt64 >>> ((w - (1 : Int32)) &&& 0x3f).toInt64.toUInt64).toInt64)
def own_c (y : Int64) (w : Int32) : Int64 := (y <<< (((64 : Int32) - w) &&& 0x3f).toInt64)
def own_1 (x : Int64) (i : Int32) : Int32 := ((((x.toUInt64 >>> ((i &&& (63 : Int32)) &&& 0x3f).toInt64.toUInt64).toInt64) &&& (1 : Int64)).toInt32)
def own_bo (x y z : Int64) (i : Int32) : Int32 := own_1 (if i < (64 : Int32) then x else (if i < (128 : Int32) then y else z)) i
def own_bt (g : Nat → Int64) (p : Nat) : Bool := (g (p / 64)).toBitVec.getLsbD (p % 64)
def own_b (b : Bool) : Int32 := if b then 1 else 0
theorem own_clamp {n : Int32} (h : 0 ≤ n.toInt) : (n.toNatClampNeg : Int) = n.toInt := by simp only [Int32.toNatClampNeg]; omega
theorem own_a_bit (x : Int64) {w : Int32} {N k : Nat} (hw : w.toInt = N) (h1 : 1 ≤ N) (h2 : N ≤ 64) : (own_a x w).toBitVec.getLsbD k = x.toBitVec.getLsbD (k + N) := by
  have e1 : (w - 1).toInt = N - 1 := by have := own_sub1 (n := w) (by omega); omega
  unfold own_a
  rw [own_shr _ (by omega) (by omega), own_shr _ (by decide) (by decide), BitVec.getLsbD_ushiftRight, BitVec.getLsbD_ushiftRight]
  congr 1
  have e2 : (1 : Int32).toInt.toNat = 1 := by decide
  omega
theorem own_c_bit (y : Int64) {w : Int32} {N k : Nat} (hw : w.toInt = N) (h1 : 1 ≤ N) (h2 : N ≤ 64) (hk : k < 64) : (own_c y w).toBitVec.getLsbD k = (decide (64 ≤ k + N) && y.toBitVec.getLsbD (k + N - 64)) := by
  have e0 : (64 : Int32).toInt = 64 := by decide
  have e1 : ((64 : Int32) - w).toInt = 64 - N := by have := c_isub 64 w; have := rng32 (64 - w); omega
  unfold own_c
  obtain ⟨D, hD⟩ : ∃ D, D = ((64 : Int32) - w).toInt.toNat := ⟨_, rfl⟩
  rw [own_shl _ (by omega) (by omega), BitVec.getLsbD_shiftLeft, ← hD]
  by_cases q : 64 ≤ k + N
  · have a1 : ¬ k < D := by omega
    have a2 : k - D = k + N - 64 := by omega
    rw [a2]; simp only [hk, a1, q, decide_true, decide_false, Bool.not_false, Bool.true_and]
  · have a1 : k < D := by omega
    simp only [a1, q, decide_true, decide_false, Bool.not_true, Bool.and_false, Bool.false_and]
theorem own_mask_bit {r : Int32} {R k : Nat} (hr : r.toInt = R) (h : R < 64) (hk : k < 64) : (((1 : Int64) <<< (r &&& 0x3f).toInt64) - (1 : Int64)).toBitVec.getLsbD k = decide (k < R) := by
  have e : (((1 : Int64) <<< (r &&& 0x3f).toInt64) - (1 : Int64)).toBitVec = (1#64 <<< R) - 1#64 := by
    rw [Int64.toBitVec_sub, own_shl _ (by omega) (by omega), hr]; rfl
  have e2 : ((1#64 <<< R) - 1#64).toNat = 2 ^ R - 1 := by
    rw [BitVec.toNat_sub, BitVec.toNat_shiftLeft, Nat.shiftLeft_eq]
    have a1 : 2 ^ R < 2 ^ 64 := Nat.pow_lt_pow_right (by decide) h
    have a2 : 0 < 2 ^ R := Nat.two_pow_pos R
    show (2 ^ 64 - 1 + 1 * 2 ^ R % 2 ^ 64) % 2 ^ 64 = _
    rw [Nat.one_mul]
    generalize 2 ^ R = P at *; omega
  rw [e, BitVec.getLsbD, e2, Nat.testBit_two_pow_sub_one]
theorem own_1_bit (x : Int64) {i : Int32} {P : Nat} (hi : i.toInt = P) : own_1 x i = own_b (x.toBitVec.getLsbD (P % 64)) := by
  have m1 := c_mask i 63 6 (by decide) (by decide)
  have m2 : (i &&& 63).toInt = (P % 64 : Nat) := by rw [m1, hi]; rfl
  have hk : P % 64 < 64 := Nat.mod_lt _ (by decide)
  unfold own_1
  generalize P % 64 = K at *
  have e1 : ((x.toUInt64 >>> ((i &&& (63 : Int32)) &&& 0x3f).toInt64.toUInt64).toInt64).toBitVec = x.toBitVec >>> K := by rw [own_shr _ (by omega) (by omega), m2]; rfl
  have e2 : (((x.toUInt64 >>> ((i &&& (63 : Int32)) &&& 0x3f).toInt64.toUInt64).toInt64) &&& (1 : Int64)).toBitVec = (x.toBitVec >>> K) &&& 1#64 := by rw [Int64.toBitVec_and, e1]; rfl
  have e3 : ∀ b : Bool, (x.toBitVec >>> K).getLsbD 0 = b → (x.toBitVec >>> K) &&& 1#64 = (if b then 1#64 else 0#64) := fun b hb => by
    apply BitVec.eq_of_getLsbD_eq
    intro j hj
    rw [BitVec.getLsbD_and]
    cases j with
    | zero => rw [hb]; cases b <;> rfl
    | succ j => have : (1#64).getLsbD (j + 1) = false := by simp [BitVec.getLsbD_one]
                rw [this, Bool.and_false]; cases b <;> simp [BitVec.getLsbD_one]
  have e4 : (x.toBitVec >>> K).getLsbD 0 = x.toBitVec.getLsbD K := by rw [BitVec.getLsbD_ushiftRight, Nat.add_zero]
  have e5 := e3 _ e4
  rw [← e2] at e5
  have e6 : ∀ (z : Int64) (b : Bool), z.toBitVec = (if b then 1#64 else 0#64) → z.toInt32 = own_b b := fun z b hz => by
    cases b
    · have : z = 0 := Int64.toBitVec_inj.mp hz
      rw [this]; decide
    · have : z = 1 := Int64.toBitVec_inj.mp hz
      rw [this]; decide
  exact e6 _ _ e5
theorem own_inv {g gw : Nat → Int64} {wd lw wi : Int32} (h0 : 0 ≤ lw.toInt) (h1 : lw.toInt ≤ wi.toInt) (hs : wi.toInt < 1000) (i3 : ∀ i, gw i = if lw.toNatClampNeg ≤ i ∧ i < wi.toNatClampNeg then (own_a (g i) wd ||| own_c (g (i + 1)) wd) else g i) :
    ∀ i, own_upd gw (wi).toNatClampNeg (own_a (gw (wi).toNatClampNeg) wd ||| own_c (gw ((wi + (1 : Int32))).toNatClampNeg) wd) i = if lw.toNatClampNeg ≤ i ∧ i < (wi + (1 : Int32)).toNatClampNeg then (own_a (g i) wd ||| own_c (g (i + 1)) wd) else g i := by
  intro i
  have a1 := own_add1 (n := wi) hs
  have c1 := own_clamp (n := wi) (by omega)
  have c2 := own_clamp (n := wi + 1) (by omega)
  have c3 := own_clamp (n := lw) h0
  unfold own_upd
  by_cases q : i = wi.toNatClampNeg
  · rw [if_pos q, if_pos (by omega), i3, if_neg (by omega), i3, if_neg (by omega)]
    have : (wi + (1 : Int32)).toNatClampNeg = i + 1 := by omega
    rw [this, q]
  · rw [if_neg q, i3]
    by_cases q2 : lw.toNatClampNeg ≤ i ∧ i < wi.toNatClampNeg
    · rw [if_pos q2, if_pos (by omega)]
    · rw [if_neg q2, if_neg (by omega)]
theorem own_rmv0 {g gw : Nat → Int64} {wd rr : Int32} {bl kp : Int64} {B E N l H : Nat} (hwd : wd.toInt = N) (hN1 : 1 ≤ N) (hN2 : N ≤ 64) (hBE : B + N ≤ E) (hE : E ≤ 192) (hl : l = B / 64) (hH : H = (E - 1) / 64) (hrr : rr.toInt = (B % 64 : Nat)) (hbl : bl = (((1 : Int64) <<< (rr &&& 0x3f).toInt64) - (1 : Int64))) (hkp : kp = (g l &&& bl))
    (i3 : ∀ i, gw i = if l ≤ i ∧ i < H then (own_a (g i) wd ||| own_c (g (i + 1)) wd) else g i) :
    ∀ p, p < 192 → own_bt (own_upd (own_upd gw H (own_a (gw H) wd)) l (kp ||| ((own_upd gw H (own_a (gw H) wd) l) &&& (bl ^^^ (-1 : Int64))))) p
      = (if p < B ∨ 64 * (H + 1) ≤ p then own_bt g p else (decide (p + N < 64 * (H + 1)) && own_bt g (p + N))) := by
  intro p hp
  have hk : p % 64 < 64 := Nat.mod_lt _ (by decide)
  have hlH : l ≤ H := by omega
  -- the shifted word i, l ≤ i ≤ H
  have sh : ∀ i, l ≤ i → i ≤ H → own_upd gw H (own_a (gw H) wd) i = if i < H then (own_a (g i) wd ||| own_c (g (i + 1)) wd) else own_a (g i) wd := fun i q1 q2 => by
    unfold own_upd
    by_cases q3 : i = H
    · rw [if_pos q3, if_neg (by omega), i3, if_neg (by omega), q3]
    · rw [if_neg q3, if_pos (by omega), i3, if_pos (by omega)]
  have shb : ∀ i, l ≤ i → i ≤ H → p / 64 = i → (own_upd gw H (own_a (gw H) wd) i).toBitVec.getLsbD (p % 64) = (decide (p + N < 64 * (H + 1)) && own_bt g (p + N)) := fun i q1 q2 q3 => by
    rw [sh i q1 q2]
    unfold own_bt
    by_cases q4 : i < H
    · have d : p + N < 64 * (H + 1) := by omega
      rw [if_pos q4, Int64.toBitVec_or, BitVec.getLsbD_or, own_a_bit _ hwd hN1 hN2, own_c_bit _ hwd hN1 hN2 hk]
      by_cases q5 : 64 ≤ p % 64 + N
      · have d1 : (p + N) / 64 = i + 1 := by omega
        have d2 : (p + N) % 64 = p % 64 + N - 64 := by omega
        rw [BitVec.getLsbD_of_ge _ _ q5, d1, d2]; simp [d, q5]
      · have d1 : (p + N) / 64 = i := by omega
        have d2 : (p + N) % 64 = p % 64 + N := by omega
        rw [d1, d2]; simp [d, q5]
    · rw [if_neg q4, own_a_bit _ hwd hN1 hN2]
      by_cases q5 : 64 ≤ p % 64 + N
      · have d : ¬ p + N < 64 * (H + 1) := by omega
        rw [BitVec.getLsbD_of_ge _ _ q5]; simp [d]
      · have d : p + N < 64 * (H + 1) := by omega
        have d1 : (p + N) / 64 = i := by omega
        have d2 : (p + N) % 64 = p % 64 + N := by omega
        rw [d1, d2]; simp [d]
  show ((own_upd (own_upd gw H (own_a (gw H) wd)) l (kp ||| ((own_upd gw H (own_a (gw H) wd) l) &&& (bl ^^^ (-1 : Int64))))) (p / 64)).toBitVec.getLsbD (p % 64) = _
  rw [own_upd]
  by_cases c1 : p / 64 = l
  · rw [if_pos c1, hkp, Int64.toBitVec_or, Int64.toBitVec_and, Int64.toBitVec_and, Int64.toBitVec_xor, BitVec.getLsbD_or, BitVec.getLsbD_and, BitVec.getLsbD_and, BitVec.getLsbD_xor, shb l (Nat.le_refl _) hlH c1]
    have m1 : bl.toBitVec.getLsbD (p % 64) = decide (p % 64 < B % 64) := by rw [hbl]; exact own_mask_bit hrr (Nat.mod_lt _ (by decide)) hk
    have m2 : (-1 : Int64).toBitVec.getLsbD (p % 64) = true := by
      have : (-1 : Int64).toBitVec = BitVec.allOnes 64 := by decide
      rw [this, BitVec.getLsbD_allOnes]; simp [hk]
    rw [m1, m2]
    by_cases c2 : p % 64 < B % 64
    · have : p < B := by omega
      simp only [c2, this, true_or, if_true, decide_true, Bool.and_true, Bool.xor_true, Bool.not_true, Bool.and_false, Bool.or_false]
      unfold own_bt; rw [c1]
    · have c3 : ¬ (p < B ∨ 64 * (H + 1) ≤ p) := by omega
      simp only [c2, c3, if_false, decide_false, Bool.and_false, Bool.xor_true, Bool.not_false, Bool.and_true, Bool.false_or]
  · rw [if_neg c1]
    by_cases c2 : l ≤ p / 64 ∧ p / 64 ≤ H
    · rw [shb _ c2.1 c2.2 rfl, if_neg (by omega)]
    · have c3 : p < B ∨ 64 * (H + 1) ≤ p := by omega
      rw [if_pos c3]
      unfold own_upd own_bt
      rw [if_neg (by omega), i3, if_neg (by omega)]
theorem own_rmv {g gw : Nat → Int64} {wd lw hg rr : Int32} {bl kp : Int64} {B E N : Nat} (hwd : wd.toInt = N) (hN1 : 1 ≤ N) (hN2 : N ≤ 64) (hBE : B + N ≤ E) (hE : E ≤ 192) (hlw : lw.toInt = (B / 64 : Nat)) (hhg : hg.toInt = ((E - 1) / 64 : Nat)) (hrr : rr.toInt = (B % 64 : Nat)) (hbl : bl = (((1 : Int64) <<< (rr &&& 0x3f).toInt64) - (1 : Int64))) (hkp : kp = (g (lw).toNatClampNeg &&& bl))
    (i3 : ∀ i, gw i = if lw.toNatClampNeg ≤ i ∧ i < hg.toNatClampNeg then (own_a (g i) wd ||| own_c (g (i + 1)) wd) else g i) :
    ∀ p, p < 192 → own_bt (own_upd (own_upd gw (hg).toNatClampNeg (own_a (gw (hg).toNatClampNeg) wd)) (lw).toNatClampNeg (kp ||| ((own_upd gw (hg).toNatClampNeg (own_a (gw (hg).toNatClampNeg) wd) (lw).toNatClampNeg) &&& (bl ^^^ (-1 : Int64))))) p
      = (if p < B ∨ 64 * ((E - 1) / 64 + 1) ≤ p then own_bt g p else (decide (p + N < 64 * ((E - 1) / 64 + 1)) && own_bt g (p + N))) := by
  have cl := own_clamp (n := lw) (by omega)
  have ch := own_clamp (n := hg) (by omega)
  have el : lw.toNatClampNeg = B / 64 := by omega
  have eh : hg.toNatClampNeg = (E - 1) / 64 := by omega
  rw [el] at i3 hkp ⊢
  rw [eh] at i3 ⊢
  exact own_rmv0 hwd hN1 hN2 hBE hE rfl rfl hrr hbl hkp i3
theorem own_low {q : Int64} {b : Nat} (h : q.toInt = b) (hb : b < 1000) : (((q.toUInt64 >>> ((6 : Int32) &&& 0x3f).toInt64.toUInt64).toInt64).toInt32).toInt = (b / 64 : Nat) := by
  have h1 := c_lushr q 6 6 (by decide) (by decide)
  rw [h] at h1
  have h2 := c_l2i ((q.toUInt64 >>> ((6 : Int32) &&& 0x3f).toInt64.toUInt64).toInt64)
  have h3 := rng32 (((q.toUInt64 >>> ((6 : Int32) &&& 0x3f).toInt64.toUInt64).toInt64).toInt32)
  rw [h1] at h2
  have : ((2 ^ 6 : Nat) : Int) = 64 := rfl
  rw [this] at h2
  omega
theorem own_lm1 {q : Int64} {b : Nat} (h : q.toInt = b) (hb : b < 1000) (h1 : 1 ≤ b) : (q - (1 : Int64)).toInt = (b - 1 : Nat) := by
  have := c_lsub q 1; have := rng64 (q - 1); have : (1 : Int64).toInt = 1 := by decide
  omega
theorem own_lm {q : Int64} {b : Nat} (h : q.toInt = b) (hb : b < 1000) : ((q &&& (63 : Int64)).toInt32).toInt = (b % 64 : Nat) := by
  have h1 := c_maskL q 63 6 (by decide) (by decide)
  rw [h] at h1
  have h2 := c_l2i (q &&& 63); have h3 := rng32 ((q &&& 63).toInt32)
  have : ((2 ^ 6 : Nat) : Int) = 64 := rfl
  rw [this] at h1
  omega
theorem own_wd {v wd : Int32} (h : wd = ((v &&& (63 : Int32)) + (1 : Int32))) : 1 ≤ wd.toInt ∧ wd.toInt ≤ 64 := by
  have h1 := c_and v 63 (by decide); have e : (63 : Int32).toInt = 63 := by decide
  have h2 := own_add1 (n := v &&& 63) (by omega)
  rw [h]; omega
theorem own_subr {a b : Int32} {A B : Int} (ha : a.toInt = A) (hb : b.toInt = B) (h1 : 0 ≤ A) (h2 : A ≤ 1000) (h3 : 0 ≤ B) (h4 : B ≤ 1000) : (a - b).toInt = A - B := by
  have := c_isub a b; have := rng32 (a - b); omega
theorem own_addr {a b : Int32} {A B : Int} (ha : a.toInt = A) (hb : b.toInt = B) (h1 : 0 ≤ A) (h2 : A ≤ 1000) (h3 : 0 ≤ B) (h4 : B ≤ 1000) : (a + b).toInt = A + B := by
  have := c_iadd a b; have := rng32 (a + b); omega
theorem own_ush {v : Int32} {q : Int32} {k : Nat} (hk : q.toBitVec.toNat % 32 = k) (h0 : 0 < k) : 0 ≤ ((v.toUInt32 >>> (q &&& 31).toUInt32).toInt32).toInt := by
  rw [c_iushr v q k hk h0]
  exact Int.ediv_nonneg (Int.emod_nonneg _ (by decide)) (Int.natCast_nonneg _)
theorem own_u6 {v : Int32} (h : 0 ≤ v.toInt) : ((v.toUInt32 >>> ((6 : Int32) &&& 31).toUInt32).toInt32).toInt = v.toInt / 64 := by
  rw [c_iushr v 6 6 (by decide) (by decide)]
  have := rng32 v
  have e : ((2 ^ 6 : Nat) : Int) = 64 := rfl
  rw [e]; omega
theorem own_m63 {v : Int32} : (v &&& (63 : Int32)).toInt = v.toInt % 64 := by
  rw [c_mask v 63 6 (by decide) (by decide)]; rfl
theorem own_pos31 (v : Int32) : 0 ≤ (v &&& (2147483647 : Int32)).toInt := (c_and v 2147483647 (by decide)).1
theorem own_i2l {v : Int32} (h : 0 ≤ v.toInt) : (v.toInt64).toInt = (v.toInt.toNat : Nat) := by rw [c_i2l]; omega
theorem own_ne0 {v : Int32} (h : 0 < v.toInt) : v ≠ 0 := fun q => by rw [q] at h; revert h; decide
theorem own_bo_bit {x y z : Int64} {i : Int32} {P : Nat} (hi : i.toInt = P) (hP : P < 192) : own_bo x y z i = own_b (own_bt (fun i => [x, y, z].getD i 0) P) := by
  have e1 : (64 : Int32).toInt = 64 := by decide
  have e2 : (128 : Int32).toInt = 128 := by decide
  unfold own_bo own_bt
  rw [own_1_bit _ hi]
  congr 2
  by_cases q1 : i < (64 : Int32)
  · have := Int32.lt_iff_toInt_lt.mp q1
    have q : P / 64 = 0 := by omega
    rw [if_pos q1, q]; rfl
  · rw [if_neg q1]
    have a1 := mt Int32.lt_iff_toInt_lt.mpr q1
    by_cases q2 : i < (128 : Int32)
    · have := Int32.lt_iff_toInt_lt.mp q2
      have q : P / 64 = 1 := by omega
      rw [if_pos q2, q]; rfl
    · have a2 := mt Int32.lt_iff_toInt_lt.mpr q2
      have q : P / 64 = 2 := by omega
      rw [if_neg q2, q]; rfl
theorem own_zero {x y z q0 q1 q2 : Int64} {en hw rr : Int32} {E H q : Nat} (hen : en.toInt = E) (hE1 : 1 ≤ E) (hE : E ≤ 192) (hhw : hw.toInt = H) (hH : H = (E - 1) / 64) (hrr : rr.toInt = (E % 64 : Nat))
    (gx : x = (if rr = (0 : Int32) then q0 else (if hw = (0 : Int32) then (q0 &&& (((1 : Int64) <<< (rr &&& 0x3f).toInt64) - (1 : Int64))) else (if hw = (1 : Int32) then q0 else q0))))
    (gy : y = (if rr = (0 : Int32) then q1 else (if hw = (0 : Int32) then q1 else (if hw = (1 : Int32) then (q1 &&& (((1 : Int64) <<< (rr &&& 0x3f).toInt64) - (1 : Int64))) else q1))))
    (gz : z = (if rr = (0 : Int32) then q2 else (if hw = (0 : Int32) then q2 else (if hw = (1 : Int32) then q2 else (q2 &&& (((1 : Int64) <<< (rr &&& 0x3f).toInt64) - (1 : Int64)))))))
    (h1 : E ≤ q) (h2 : q < 64 * (H + 1)) : own_bt (fun i => [x, y, z].getD i 0) q = false := by
  have hr0 : ¬ rr = (0 : Int32) := fun h => by
    have : rr.toInt = 0 := by rw [h]; decide
    omega
  have hq : q / 64 = H := by omega
  have hk : q % 64 < 64 := Nat.mod_lt _ (by decide)
  have m := own_mask_bit (r := rr) hrr (Nat.mod_lt _ (by decide)) hk
  have mz : (((1 : Int64) <<< (rr &&& 0x3f).toInt64) - (1 : Int64)).toBitVec.getLsbD (q % 64) = false := by rw [m]; exact decide_eq_false (by omega)
  have w0 : hw = (0 : Int32) ↔ H = 0 := ⟨fun h => by have : hw.toInt = 0 := by rw [h]; decide
                                                     omega, fun h => Int32.toInt_inj.mp (by rw [hhw, h]; decide)⟩
  have w1 : hw = (1 : Int32) ↔ H = 1 := ⟨fun h => by have : hw.toInt = 1 := by rw [h]; decide
                                                     omega, fun h => Int32.toInt_inj.mp (by rw [hhw, h]; decide)⟩
  unfold own_bt
  rw [hq]
  have hc : H = 0 ∨ H = 1 ∨ H = 2 := by omega
  rcases hc with c | c | c
  · rw [c]; show x.toBitVec.getLsbD (q % 64) = false
    rw [gx, if_neg hr0, if_pos (w0.mpr c), Int64.toBitVec_and, BitVec.getLsbD_and, mz, Bool.and_false]
  · rw [c]; show y.toBitVec.getLsbD (q % 64) = false
    rw [gy, if_neg hr0, if_neg (fun h => by have := w0.mp h; omega), if_pos (w1.mpr c), Int64.toBitVec_and, BitVec.getLsbD_and, mz, Bool.and_false]
  · rw [c]; show z.toBitVec.getLsbD (q % 64) = false
    rw [gz, if_neg hr0, if_neg (fun h => by have := w0.mp h; omega), if_neg (fun h => by have := w1.mp h; omega), Int64.toBitVec_and, BitVec.getLsbD_and, mz, Bool.and_false]
theorem own_final {x y z : Int64} {gF : Nat → Int64} {wd bt en pp lim : Int32} {B E N H P : Nat} (hwd : wd.toInt = N) (hbt : bt.toInt = B) (hen : en.toInt = E) (hBE : B + N ≤ E) (hE : E ≤ 192) (hN : 1 ≤ N) (hH : H = (E - 1) / 64) (hpp : pp.toInt = P) (hP : P < 192) (hlim : lim.toInt = 64 * (H + 1))
    (hz : ∀ q, E ≤ q → q < 64 * (H + 1) → own_bt (fun i => [x, y, z].getD i 0) q = false)
    (hbits : ∀ p, p < 192 → own_bt gF p = (if p < B ∨ 64 * ((E - 1) / 64 + 1) ≤ p then own_bt (fun i => [x, y, z].getD i 0) p else (decide (p + N < 64 * ((E - 1) / 64 + 1)) && own_bt (fun i => [x, y, z].getD i 0) (p + N)))) :
    own_1 (gF (((pp.toUInt32 >>> ((6 : Int32) &&& 31).toUInt32).toInt32)).toNatClampNeg) pp = (if pp < bt then own_bo x y z pp else (if pp < (en - wd) then own_bo x y z (pp + wd) else (if pp < lim then (0 : Int32) else own_bo x y z pp))) := by
  have u6 := own_u6 (v := pp) (by omega)
  have ci := own_clamp (n := ((pp.toUInt32 >>> ((6 : Int32) &&& 31).toUInt32).toInt32)) (by omega)
  have ei : (((pp.toUInt32 >>> ((6 : Int32) &&& 31).toUInt32).toInt32)).toNatClampNeg = P / 64 := by omega
  have hb := hbits P hP
  rw [← hH] at hb
  rw [own_1_bit _ hpp, ei]
  show own_b (own_bt gF P) = _
  rw [hb]
  have es := own_subr hen hwd (by omega) (by omega) (by omega) (by omega)
  by_cases c1 : pp < bt
  · have := Int32.lt_iff_toInt_lt.mp c1
    rw [if_pos c1, if_pos (by omega), own_bo_bit hpp hP]
  · have n1 := mt Int32.lt_iff_toInt_lt.mpr c1
    rw [if_neg c1]
    by_cases c2 : pp < (en - wd)
    · have := Int32.lt_iff_toInt_lt.mp c2
      have ea := own_addr hpp hwd (by omega) (by omega) (by omega) (by omega)
      have d : P + N < 64 * (H + 1) := by omega
      rw [if_pos c2, if_neg (by omega), own_bo_bit (P := P + N) (by omega) (by omega)]
      simp only [d, decide_true, Bool.true_and]
    · have n2 := mt Int32.lt_iff_toInt_lt.mpr c2
      rw [if_neg c2]
      by_cases c3 : pp < lim
      · have := Int32.lt_iff_toInt_lt.mp c3
        rw [if_pos c3, if_neg (by omega)]
        by_cases d : P + N < 64 * (H + 1)
        · rw [hz _ (by omega) d, Bool.and_false]; rfl
        · simp only [d, decide_false, Bool.false_and]; rfl
      · have n3 := mt Int32.lt_iff_toInt_lt.mpr c3
        rw [if_neg c3, if_pos (by omega), own_bo_bit hpp hP]
theorem pn_0 : plainName "com/example/streamgist/streamgist/packed/PackedBitsRemovePinLaw" = true := by first | (simp [plainName, overriddenIn]; done) | decide +kernel
theorem ef_2 (m : MethodId) (x0 : Int64) (x1 : Int64) (x2 : Int64) (x3 : Int32) : entryFrame m #[(.long x0), (.long x1), (.long x2), (.int x3)] 9 = mkF m 0 #[.val (.long x0), .second, .val (.long x1), .second, .val (.long x2), .second, .val (.int x3), .unset, .unset] [] := by first | (simp [entryFrame, mkF, argsToLocals, Value.category]; done) | rfl
def Q2 (Z : State) (x0 : Int64) (x1 : Int64) (x2 : Int64) (pi : Int32) (h0 : Heap) (n0 : Nat) (v : Option Value) (h : Heap) (L : List Loc) : Prop := v = some (.int (own_bo x0 x1 x2 pi)) ∧ Fr n0 L ∧ h = h0
abbrev P2 (Z : State) (x0 : Int64) (x1 : Int64) (x2 : Int64) (pi : Int32) (h0 : Heap) (n0 : Nat) (s : State) : Outcome → State → Prop := fun o U' => ∃ v L, o = .returned v ∧ Q2 Z x0 x1 x2 pi h0 n0 v U'.heap L ∧ FrameEnd s o U' L ({ frames := 0, cells := 0, slots := 0, locals := 0 } : Room).cells ({ frames := 0, cells := 0, slots := 0, locals := 0 } : Room).slots
theorem d2_0 : decode method_3_code 0 = .ok (.iload 6, 2) := by decide +kernel
theorem d2_2 : decode method_3_code 2 = .ok (.bipush 64, 2) := by decide +kernel
theorem d2_4 : decode method_3_code 4 = .ok (.if_icmp .ge 9, 3) := by decide +kernel
theorem d2_7 : decode method_3_code 7 = .ok (.lload_n 0, 1) := by decide +kernel
theorem d2_8 : decode method_3_code 8 = .ok (.lstore 7, 2) := by decide +kernel
theorem d2_10 : decode method_3_code 10 = .ok (.goto 21, 3) := by decide +kernel
theorem d2_13 : decode method_3_code 13 = .ok (.iload 6, 2) := by decide +kernel
theorem d2_15 : decode method_3_code 15 = .ok (.sipush 128, 3) := by decide +kernel
theorem d2_18 : decode method_3_code 18 = .ok (.if_icmp .ge 9, 3) := by decide +kernel
theorem d2_21 : decode method_3_code 21 = .ok (.lload_n 2, 1) := by decide +kernel
theorem d2_22 : decode method_3_code 22 = .ok (.lstore 7, 2) := by decide +kernel
theorem d2_24 : decode method_3_code 24 = .ok (.goto 7, 3) := by decide +kernel
theorem d2_27 : decode method_3_code 27 = .ok (.lload 4, 2) := by decide +kernel
theorem d2_29 : decode method_3_code 29 = .ok (.lstore 7, 2) := by decide +kernel
theorem d2_31 : decode method_3_code 31 = .ok (.lload 7, 2) := by decide +kernel
theorem d2_33 : decode method_3_code 33 = .ok (.iload 6, 2) := by decide +kernel
theorem d2_35 : decode method_3_code 35 = .ok (.bipush 63, 2) := by decide +kernel
theorem d2_37 : decode method_3_code 37 = .ok (.iand, 1) := by decide +kernel
theorem d2_38 : decode method_3_code 38 = .ok (.lushr, 1) := by decide +kernel
theorem d2_39 : decode method_3_code 39 = .ok (.lconst 1, 1) := by decide +kernel
theorem d2_40 : decode method_3_code 40 = .ok (.land, 1) := by decide +kernel
theorem d2_41 : decode method_3_code 41 = .ok (.l2i, 1) := by decide +kernel
theorem d2_42 : decode method_3_code 42 = .ok (.ireturn, 1) := by decide +kernel
set_option maxRecDepth 65536 in
set_option maxHeartbeats 40000000 in
theorem rm2 (l : Launch) (Z : State) (a0 : Array Value) (hw : ∀ d ∈ tables_1, d.before a0 Z = true) (ws : List Jvm.Cond) (x0 : Int64) (x1 : Int64) (x2 : Int64) (pi : Int32) (h0 : Heap) (n0 : Nat) (Z0 : n0 ≤ h0.size) :
    MetFree l (⟨"com/example/streamgist/streamgist/packed/PackedBitsRemovePinLaw", "bitOf", "(JJJI)I"⟩ : MethodName) (head1 (Jvm.Cond.code (⟨"com/example/streamgist/streamgist/packed/PackedBitsRemovePinLaw", "bitOf", "(JJJI)I"⟩ : MethodName) method_3_code 9 (some .int) :: ws) ({ frames := 0, cells := 0, slots := 0, locals := 0 } : Room)) (fun a U => a = #[(.long x0), (.long x1), (.long x2), (.int pi)] ∧ Z.Warmed39 U.vm ∧ U.heap = h0) (fun _ _ _ _ _ => True) (fun _ U o U' => ∃ v L, o = .returned v ∧ Q2 Z x0 x1 x2 pi h0 n0 v U'.heap L ∧ FrameEnd U o U' L ({ frames := 0, cells := 0, slots := 0, locals := 0 } : Room).cells ({ frames := 0, cells := 0, slots := 0, locals := 0 } : Room).slots) := by
  refine MetFree.of_bodySF (plainFor_of_name pn_0) hisR ?_
  intro p e s m args below meth c s₁ Bd hml0 hP hK
  obtain ⟨rfl, hZ, hh⟩ := hP
  have hx := Bd.exec
  have hby := Bd.bytes
  have hml : c.maxLocals = 9 := hml0
  have hown : s.vm.findClass "com/example/streamgist/streamgist/packed/PackedBitsRemovePinLaw" = some m.cls := findClass_of_methodNamed Bd.named
  have hnm := (name_of_methodNamed Bd.named Bd.method).1
  have X0 : Stand p l e ({ frames := 0, cells := 0, slots := 0, locals := 0 } : Room) s m #[(.long x0), (.long x1), (.long x2), (.int pi)] below meth c s₁ [] 0 0 := Stand.of_body Bd
  have e0 : s₁.heap = h0 := by rw [← hh, Bd.state]; rfl
  have N0 := Fr.nil n0
  refine own_enter (P := (P2 Z x0 x1 x2 pi h0 n0 s)) (ef_2 m x0 x1 x2 pi) ?_
  show own_Fin p.tables e below _ (s₁.setTop (mkF m 0 #[.val (.long x0), .second, .val (.long x1), .second, .val (.long x2), .second, .val (.int pi), .unset, .unset] []))
  refine own_step (fun _ k => XS.iload X0.here hx rfl (hb hby d2_0) rfl k) ?_
  show own_Fin p.tables e below _ (s₁.setTop (mkF m 2 #[.val (.long x0), .second, .val (.long x1), .second, .val (.long x2), .second, .val (.int pi), .unset, .unset] [(.int pi)]))
  refine own_step (fun _ k => XS.bipush X0.here hx rfl (hb hby d2_2) k) ?_
  show own_Fin p.tables e below _ (s₁.setTop (mkF m 4 #[.val (.long x0), .second, .val (.long x1), .second, .val (.long x2), .second, .val (.int pi), .unset, .unset] [(.int (64 : Int32)), (.int pi)]))
  have J2 : ∀ (T3 : State) (locs3 : List Loc) (y4 : Int64) (X3 : Stand p l e ({ frames := 0, cells := 0, slots := 0, locals := 0 } : Room) s m #[(.long x0), (.long x1), (.long x2), (.int pi)] below meth c T3 locs3 0 0) (e3 : T3.heap = h0) (N3 : Fr n0 locs3) (gy4 : y4 = (if pi < (64 : Int32) then x0 else (if pi < (128 : Int32) then x1 else x2))), own_Fin p.tables e below (P2 Z x0 x1 x2 pi h0 n0 s) (T3.setTop (mkF m 31 #[.val (.long x0), .second, .val (.long x1), .second, .val (.long x2), .second, .val (.int pi), .val (.long y4), .second] [])) := by
    intro T3 locs3 y4 X3 e3 N3 gy4
    refine own_step (fun _ k => XS.lload X3.here hx rfl (hb hby d2_31) rfl k) ?_
    show own_Fin p.tables e below _ (T3.setTop (mkF m 33 #[.val (.long x0), .second, .val (.long x1), .second, .val (.long x2), .second, .val (.int pi), .val (.long y4), .second] [(.long y4)]))
    refine own_step (fun _ k => XS.iload X3.here hx rfl (hb hby d2_33) rfl k) ?_
    show own_Fin p.tables e below _ (T3.setTop (mkF m 35 #[.val (.long x0), .second, .val (.long x1), .second, .val (.long x2), .second, .val (.int pi), .val (.long y4), .second] [(.int pi), (.long y4)]))
    refine own_step (fun _ k => XS.bipush X3.here hx rfl (hb hby d2_35) k) ?_
    show own_Fin p.tables e below _ (T3.setTop (mkF m 37 #[.val (.long x0), .second, .val (.long x1), .second, .val (.long x2), .second, .val (.int pi), .val (.long y4), .second] [(.int (63 : Int32)), (.int pi), (.long y4)]))
    refine own_step (fun _ k => XS.iand X3.here hx rfl (hb hby d2_37) rfl k) ?_
    show own_Fin p.tables e below _ (T3.setTop (mkF m 38 #[.val (.long x0), .second, .val (.long x1), .second, .val (.long x2), .second, .val (.int pi), .val (.long y4), .second] [(.int (pi &&& (63 : Int32))), (.long y4)]))
    refine own_step (fun _ k => XS.lushr X3.here hx rfl (hb hby d2_38) rfl k) ?_
    show own_Fin p.tables e below _ (T3.setTop (mkF m 39 #[.val (.long x0), .second, .val (.long x1), .second, .val (.long x2), .second, .val (.int pi), .val (.long y4), .second] [(.long ((y4.toUInt64 >>> ((pi &&& (63 : Int32)) &&& 0x3f).toInt64.toUInt64).toInt64))]))
    refine own_step (fun _ k => XS.lconst X3.here hx rfl (hb hby d2_39) k) ?_
    show own_Fin p.tables e below _ (T3.setTop (mkF m 40 #[.val (.long x0), .second, .val (.long x1), .second, .val (.long x2), .second, .val (.int pi), .val (.long y4), .second] [(.long (1 : Int64)), (.long ((y4.toUInt64 >>> ((pi &&& (63 : Int32)) &&& 0x3f).toInt64.toUInt64).toInt64))]))
    refine own_step (fun _ k => XS.land X3.here hx rfl (hb hby d2_40) rfl k) ?_
    show own_Fin p.tables e below _ (T3.setTop (mkF m 41 #[.val (.long x0), .second, .val (.long x1), .second, .val (.long x2), .second, .val (.int pi), .val (.long y4), .second] [(.long (((y4.toUInt64 >>> ((pi &&& (63 : Int32)) &&& 0x3f).toInt64.toUInt64).toInt64) &&& (1 : Int64)))]))
    refine own_step (fun _ k => XS.l2i X3.here hx rfl (hb hby d2_41) rfl k) ?_
    show own_Fin p.tables e below _ (T3.setTop (mkF m 42 #[.val (.long x0), .second, .val (.long x1), .second, .val (.long x2), .second, .val (.int pi), .val (.long y4), .second] [(.int ((((y4.toUInt64 >>> ((pi &&& (63 : Int32)) &&& 0x3f).toInt64.toUInt64).toInt64) &&& (1 : Int64)).toInt32))]))
    obtain ⟨fs5, hr5, hrun5, hended5, hW5, hsame5⟩ := X3.leave (v := some (.int ((((y4.toUInt64 >>> ((pi &&& (63 : Int32)) &&& 0x3f).toInt64.toUInt64).toInt64) &&& (1 : Int64)).toInt32))) (fun h => by rw [Bd.returns] at h; cases h)
    refine own_ret (retI X3 hx Bd.returns (hb hby d2_42) hr5) hrun5 hended5 ?_
    refine ⟨_, _, rfl, ?_, ⟨_, rfl⟩, hW5, hsame5.mono (by decide) (by decide)⟩
    show Q2 Z x0 x1 x2 pi h0 n0 _ T3.heap _
    rw [e3]
    refine ⟨congrArg (fun z => some (Value.int z)) ?_, N3, rfl⟩
    rw [gy4]; rfl
  by_cases hc1 : pi < (64 : Int32)
  · refine own_step (fun _ k => XS.icmpNo X0.here hx rfl (hb hby d2_4) rfl ((tlt hc1).2.1) k) ?_
    show own_Fin p.tables e below _ (s₁.setTop (mkF m 7 #[.val (.long x0), .second, .val (.long x1), .second, .val (.long x2), .second, .val (.int pi), .unset, .unset] []))
    refine own_step (fun _ k => XS.lloadN X0.here hx rfl (hb hby d2_7) rfl k) ?_
    show own_Fin p.tables e below _ (s₁.setTop (mkF m 8 #[.val (.long x0), .second, .val (.long x1), .second, .val (.long x2), .second, .val (.int pi), .unset, .unset] [(.long x0)]))
    refine own_step (fun _ k => XS.lstore X0.here hx rfl (hb hby d2_8) rfl (l' := #[.val (.long x0), .second, .val (.long x1), .second, .val (.long x2), .second, .val (.int pi), .val (.long x0), .second]) rfl k) ?_
    show own_Fin p.tables e below _ (s₁.setTop (mkF m 10 #[.val (.long x0), .second, .val (.long x1), .second, .val (.long x2), .second, .val (.int pi), .val (.long x0), .second] []))
    refine own_step (fun _ k => XS.goto X0.here hx rfl (pc0 := 10) (pc' := 31) rfl (hb hby d2_10) (by decide) (by decide) k) ?_
    show own_Fin p.tables e below _ (s₁.setTop (mkF m 31 #[.val (.long x0), .second, .val (.long x1), .second, .val (.long x2), .second, .val (.int pi), .val (.long x0), .second] []))
    exact J2 s₁ _ x0 X0 e0 N0 (by rw [if_pos hc1])
  · refine own_step (fun _ k => XS.icmpYes X0.here hx rfl (pc0 := 4) (pc' := 13) rfl (hb hby d2_4) rfl ((flt hc1).2.1) (by decide) (by decide) k) ?_
    show own_Fin p.tables e below _ (s₁.setTop (mkF m 13 #[.val (.long x0), .second, .val (.long x1), .second, .val (.long x2), .second, .val (.int pi), .unset, .unset] []))
    refine own_step (fun _ k => XS.iload X0.here hx rfl (hb hby d2_13) rfl k) ?_
    show own_Fin p.tables e below _ (s₁.setTop (mkF m 15 #[.val (.long x0), .second, .val (.long x1), .second, .val (.long x2), .second, .val (.int pi), .unset, .unset] [(.int pi)]))
    refine own_step (fun _ k => XS.sipush X0.here hx rfl (hb hby d2_15) k) ?_
    show own_Fin p.tables e below _ (s₁.setTop (mkF m 18 #[.val (.long x0), .second, .val (.long x1), .second, .val (.long x2), .second, .val (.int pi), .unset, .unset] [(.int (128 : Int32)), (.int pi)]))
    by_cases hc6 : pi < (128 : Int32)
    · refine own_step (fun _ k => XS.icmpNo X0.here hx rfl (hb hby d2_18) rfl ((tlt hc6).2.1) k) ?_
      show own_Fin p.tables e below _ (s₁.setTop (mkF m 21 #[.val (.long x0), .second, .val (.long x1), .second, .val (.long x2), .second, .val (.int pi), .unset, .unset] []))
      refine own_step (fun _ k => XS.lloadN X0.here hx rfl (hb hby d2_21) rfl k) ?_
      show own_Fin p.tables e below _ (s₁.setTop (mkF m 22 #[.val (.long x0), .second, .val (.long x1), .second, .val (.long x2), .second, .val (.int pi), .unset, .unset] [(.long x1)]))
      refine own_step (fun _ k => XS.lstore X0.here hx rfl (hb hby d2_22) rfl (l' := #[.val (.long x0), .second, .val (.long x1), .second, .val (.long x2), .second, .val (.int pi), .val (.long x1), .second]) rfl k) ?_
      show own_Fin p.tables e below _ (s₁.setTop (mkF m 24 #[.val (.long x0), .second, .val (.long x1), .second, .val (.long x2), .second, .val (.int pi), .val (.long x1), .second] []))
      refine own_step (fun _ k => XS.goto X0.here hx rfl (pc0 := 24) (pc' := 31) rfl (hb hby d2_24) (by decide) (by decide) k) ?_
      show own_Fin p.tables e below _ (s₁.setTop (mkF m 31 #[.val (.long x0), .second, .val (.long x1), .second, .val (.long x2), .second, .val (.int pi), .val (.long x1), .second] []))
      exact J2 s₁ _ x1 X0 e0 N0 (by rw [if_neg hc1, if_pos hc6])
    · refine own_step (fun _ k => XS.icmpYes X0.here hx rfl (pc0 := 18) (pc' := 27) rfl (hb hby d2_18) rfl ((flt hc6).2.1) (by decide) (by decide) k) ?_
      show own_Fin p.tables e below _ (s₁.setTop (mkF m 27 #[.val (.long x0), .second, .val (.long x1), .second, .val (.long x2), .second, .val (.int pi), .unset, .unset] []))
      refine own_step (fun _ k => XS.lload X0.here hx rfl (hb hby d2_27) rfl k) ?_
      show own_Fin p.tables e below _ (s₁.setTop (mkF m 29 #[.val (.long x0), .second, .val (.long x1), .second, .val (.long x2), .second, .val (.int pi), .unset, .unset] [(.long x2)]))
      refine own_step (fun _ k => XS.lstore X0.here hx rfl (hb hby d2_29) rfl (l' := #[.val (.long x0), .second, .val (.long x1), .second, .val (.long x2), .second, .val (.int pi), .val (.long x2), .second]) rfl k) ?_
      show own_Fin p.tables e below _ (s₁.setTop (mkF m 31 #[.val (.long x0), .second, .val (.long x1), .second, .val (.long x2), .second, .val (.int pi), .val (.long x2), .second] []))
      exact J2 s₁ _ x2 X0 e0 N0 (by rw [if_neg hc1, if_neg hc6])
theorem pn_1 : plainName "com/example/streamgist/streamgist/packed/PackedBits" = true := by first | (simp [plainName, overriddenIn]; done) | decide +kernel
theorem ef_1 (m : MethodId) (x0 : Addr) (x1 : Int64) (x2 : Int64) (x3 : Int32) : entryFrame m #[(.ref x0), (.long x1), (.long x2), (.int x3)] 13 = mkF m 0 #[.val (.ref x0), .val (.long x1), .second, .val (.long x2), .second, .val (.int x3), .unset, .unset, .unset, .unset, .unset, .unset, .unset] [] := by first | (simp [entryFrame, mkF, argsToLocals, Value.category]; done) | rfl
def Q1 (Z : State) (ts : Addr) (qb : Int64) (qe : Int64) (wd : Int32) (g : Nat → Int64) (bN eN wN : Nat) (h0 : Heap) (n0 : Nat) (v : Option Value) (h : Heap) (L : List Loc) : Prop := v = none ∧ Fr n0 L ∧ Keep h0 h [ts] ∧ ∃ g' : Nat → Int64, own_Arf Z h ts .long 3 (fun i => .long (g' i)) ∧ ∀ p, p < 192 → own_bt g' p = (if p < bN ∨ 64 * ((eN - 1) / 64 + 1) ≤ p then own_bt g p else (decide (p + wN < 64 * ((eN - 1) / 64 + 1)) && own_bt g (p + wN)))
abbrev P1 (Z : State) (ts : Addr) (qb : Int64) (qe : Int64) (wd : Int32) (g : Nat → Int64) (bN eN wN : Nat) (h0 : Heap) (n0 : Nat) (s : State) : Outcome → State → Prop := fun o U' => ∃ v L, o = .returned v ∧ Q1 Z ts qb qe wd g bN eN wN h0 n0 v U'.heap L ∧ FrameEnd s o U' L ({ frames := 0, cells := 0, slots := 0, locals := 0 } : Room).cells ({ frames := 0, cells := 0, slots := 0, locals := 0 } : Room).slots
theorem d1_0 : decode prog_41_method_5_code 0 = .ok (.lload_n 1, 1) := by decide +kernel
theorem d1_1 : decode prog_41_method_5_code 1 = .ok (.bipush 6, 2) := by decide +kernel
theorem d1_3 : decode prog_41_method_5_code 3 = .ok (.lushr, 1) := by decide +kernel
theorem d1_4 : decode prog_41_method_5_code 4 = .ok (.l2i, 1) := by decide +kernel
theorem d1_5 : decode prog_41_method_5_code 5 = .ok (.istore 6, 2) := by decide +kernel
theorem d1_7 : decode prog_41_method_5_code 7 = .ok (.lload_n 3, 1) := by decide +kernel
theorem d1_8 : decode prog_41_method_5_code 8 = .ok (.lconst 1, 1) := by decide +kernel
theorem d1_9 : decode prog_41_method_5_code 9 = .ok (.lsub, 1) := by decide +kernel
theorem d1_10 : decode prog_41_method_5_code 10 = .ok (.bipush 6, 2) := by decide +kernel
theorem d1_12 : decode prog_41_method_5_code 12 = .ok (.lushr, 1) := by decide +kernel
theorem d1_13 : decode prog_41_method_5_code 13 = .ok (.l2i, 1) := by decide +kernel
theorem d1_14 : decode prog_41_method_5_code 14 = .ok (.istore 7, 2) := by decide +kernel
theorem d1_16 : decode prog_41_method_5_code 16 = .ok (.lconst 1, 1) := by decide +kernel
theorem d1_17 : decode prog_41_method_5_code 17 = .ok (.lload_n 1, 1) := by decide +kernel
theorem d1_18 : decode prog_41_method_5_code 18 = .ok (.ldc2_w 7, 3) := by decide +kernel
theorem d1_21 : decode prog_41_method_5_code 21 = .ok (.land, 1) := by decide +kernel
theorem d1_22 : decode prog_41_method_5_code 22 = .ok (.l2i, 1) := by decide +kernel
theorem d1_23 : decode prog_41_method_5_code 23 = .ok (.lshl, 1) := by decide +kernel
theorem d1_24 : decode prog_41_method_5_code 24 = .ok (.lconst 1, 1) := by decide +kernel
theorem d1_25 : decode prog_41_method_5_code 25 = .ok (.lsub, 1) := by decide +kernel
theorem d1_26 : decode prog_41_method_5_code 26 = .ok (.lstore 8, 2) := by decide +kernel
theorem d1_28 : decode prog_41_method_5_code 28 = .ok (.aload_n 0, 1) := by decide +kernel
theorem d1_29 : decode prog_41_method_5_code 29 = .ok (.iload 6, 2) := by decide +kernel
theorem d1_31 : decode prog_41_method_5_code 31 = .ok (.laload, 1) := by decide +kernel
theorem d1_32 : decode prog_41_method_5_code 32 = .ok (.lload 8, 2) := by decide +kernel
theorem d1_34 : decode prog_41_method_5_code 34 = .ok (.land, 1) := by decide +kernel
theorem d1_35 : decode prog_41_method_5_code 35 = .ok (.lstore 10, 2) := by decide +kernel
theorem d1_37 : decode prog_41_method_5_code 37 = .ok (.iload 6, 2) := by decide +kernel
theorem d1_39 : decode prog_41_method_5_code 39 = .ok (.istore 12, 2) := by decide +kernel
theorem d1_41 : decode prog_41_method_5_code 41 = .ok (.iload 12, 2) := by decide +kernel
theorem d1_43 : decode prog_41_method_5_code 43 = .ok (.iload 7, 2) := by decide +kernel
theorem d1_45 : decode prog_41_method_5_code 45 = .ok (.if_icmp .ge 37, 3) := by decide +kernel
theorem d1_48 : decode prog_41_method_5_code 48 = .ok (.aload_n 0, 1) := by decide +kernel
theorem d1_49 : decode prog_41_method_5_code 49 = .ok (.iload 12, 2) := by decide +kernel
theorem d1_51 : decode prog_41_method_5_code 51 = .ok (.aload_n 0, 1) := by decide +kernel
theorem d1_52 : decode prog_41_method_5_code 52 = .ok (.iload 12, 2) := by decide +kernel
theorem d1_54 : decode prog_41_method_5_code 54 = .ok (.laload, 1) := by decide +kernel
theorem d1_55 : decode prog_41_method_5_code 55 = .ok (.iconst 1, 1) := by decide +kernel
theorem d1_56 : decode prog_41_method_5_code 56 = .ok (.lushr, 1) := by decide +kernel
theorem d1_57 : decode prog_41_method_5_code 57 = .ok (.iload 5, 2) := by decide +kernel
theorem d1_59 : decode prog_41_method_5_code 59 = .ok (.iconst 1, 1) := by decide +kernel
theorem d1_60 : decode prog_41_method_5_code 60 = .ok (.isub, 1) := by decide +kernel
theorem d1_61 : decode prog_41_method_5_code 61 = .ok (.lushr, 1) := by decide +kernel
theorem d1_62 : decode prog_41_method_5_code 62 = .ok (.aload_n 0, 1) := by decide +kernel
theorem d1_63 : decode prog_41_method_5_code 63 = .ok (.iload 12, 2) := by decide +kernel
theorem d1_65 : decode prog_41_method_5_code 65 = .ok (.iconst 1, 1) := by decide +kernel
theorem d1_66 : decode prog_41_method_5_code 66 = .ok (.iadd, 1) := by decide +kernel
theorem d1_67 : decode prog_41_method_5_code 67 = .ok (.laload, 1) := by decide +kernel
theorem d1_68 : decode prog_41_method_5_code 68 = .ok (.bipush 64, 2) := by decide +kernel
theorem d1_70 : decode prog_41_method_5_code 70 = .ok (.iload 5, 2) := by decide +kernel
theorem d1_72 : decode prog_41_method_5_code 72 = .ok (.isub, 1) := by decide +kernel
theorem d1_73 : decode prog_41_method_5_code 73 = .ok (.lshl, 1) := by decide +kernel
theorem d1_74 : decode prog_41_method_5_code 74 = .ok (.lor, 1) := by decide +kernel
theorem d1_75 : decode prog_41_method_5_code 75 = .ok (.lastore, 1) := by decide +kernel
theorem d1_76 : decode prog_41_method_5_code 76 = .ok (.iinc 12 1, 3) := by decide +kernel
theorem d1_79 : decode prog_41_method_5_code 79 = .ok (.goto (-38), 3) := by decide +kernel
theorem d1_82 : decode prog_41_method_5_code 82 = .ok (.aload_n 0, 1) := by decide +kernel
theorem d1_83 : decode prog_41_method_5_code 83 = .ok (.iload 7, 2) := by decide +kernel
theorem d1_85 : decode prog_41_method_5_code 85 = .ok (.aload_n 0, 1) := by decide +kernel
theorem d1_86 : decode prog_41_method_5_code 86 = .ok (.iload 7, 2) := by decide +kernel
theorem d1_88 : decode prog_41_method_5_code 88 = .ok (.laload, 1) := by decide +kernel
theorem d1_89 : decode prog_41_method_5_code 89 = .ok (.iconst 1, 1) := by decide +kernel
theorem d1_90 : decode prog_41_method_5_code 90 = .ok (.lushr, 1) := by decide +kernel
theorem d1_91 : decode prog_41_method_5_code 91 = .ok (.iload 5, 2) := by decide +kernel
theorem d1_93 : decode prog_41_method_5_code 93 = .ok (.iconst 1, 1) := by decide +kernel
theorem d1_94 : decode prog_41_method_5_code 94 = .ok (.isub, 1) := by decide +kernel
theorem d1_95 : decode prog_41_method_5_code 95 = .ok (.lushr, 1) := by decide +kernel
theorem d1_96 : decode prog_41_method_5_code 96 = .ok (.lastore, 1) := by decide +kernel
theorem d1_97 : decode prog_41_method_5_code 97 = .ok (.aload_n 0, 1) := by decide +kernel
theorem d1_98 : decode prog_41_method_5_code 98 = .ok (.iload 6, 2) := by decide +kernel
theorem d1_100 : decode prog_41_method_5_code 100 = .ok (.lload 10, 2) := by decide +kernel
theorem d1_102 : decode prog_41_method_5_code 102 = .ok (.aload_n 0, 1) := by decide +kernel
theorem d1_103 : decode prog_41_method_5_code 103 = .ok (.iload 6, 2) := by decide +kernel
theorem d1_105 : decode prog_41_method_5_code 105 = .ok (.laload, 1) := by decide +kernel
theorem d1_106 : decode prog_41_method_5_code 106 = .ok (.lload 8, 2) := by decide +kernel
theorem d1_108 : decode prog_41_method_5_code 108 = .ok (.ldc2_w 15, 3) := by decide +kernel
theorem d1_111 : decode prog_41_method_5_code 111 = .ok (.lxor, 1) := by decide +kernel
theorem d1_112 : decode prog_41_method_5_code 112 = .ok (.land, 1) := by decide +kernel
theorem d1_113 : decode prog_41_method_5_code 113 = .ok (.lor, 1) := by decide +kernel
theorem d1_114 : decode prog_41_method_5_code 114 = .ok (.lastore, 1) := by decide +kernel
theorem d1_115 : decode prog_41_method_5_code 115 = .ok (.return_, 1) := by decide +kernel
set_option maxRecDepth 65536 in
set_option maxHeartbeats 40000000 in
theorem rm1 (l : Launch) (Z : State) (a0 : Array Value) (hw : ∀ d ∈ tables_1, d.before a0 Z = true) (ws : List Jvm.Cond) (ts : Addr) (qb : Int64) (qe : Int64) (wd : Int32) (g : Nat → Int64) (bN eN wN : Nat) (h0 : Heap) (n0 : Nat) (Z0 : n0 ≤ h0.size) (Ga0 : own_Arf Z h0 ts .long 3 (fun i => .long (g i))) (g_ts : n0 ≤ ts) (hqb : qb.toInt = bN) (hqe : qe.toInt = eN) (hwd : wd.toInt = wN) (hN1 : 1 ≤ wN) (hN2 : wN ≤ 64) (hBE : bN + wN ≤ eN) (hE : eN ≤ 192) :
    MetFree l (⟨"com/example/streamgist/streamgist/packed/PackedBits", "remove", "([JJJI)V"⟩ : MethodName) (head1 (Jvm.Cond.code (⟨"com/example/streamgist/streamgist/packed/PackedBits", "remove", "([JJJI)V"⟩ : MethodName) prog_41_method_5_code 13 none :: ws) ({ frames := 0, cells := 0, slots := 0, locals := 0 } : Room)) (fun a U => a = #[(.ref ts), (.long qb), (.long qe), (.int wd)] ∧ Z.Warmed39 U.vm ∧ U.heap = h0) (fun _ _ _ _ _ => True) (fun _ U o U' => ∃ v L, o = .returned v ∧ Q1 Z ts qb qe wd g bN eN wN h0 n0 v U'.heap L ∧ FrameEnd U o U' L ({ frames := 0, cells := 0, slots := 0, locals := 0 } : Room).cells ({ frames := 0, cells := 0, slots := 0, locals := 0 } : Room).slots) := by
  refine MetFree.of_bodySF (plainFor_of_name pn_1) hisR ?_
  intro p e s m args below meth c s₁ Bd hml0 hP hK
  obtain ⟨rfl, hZ, hh⟩ := hP
  have hx := Bd.exec
  have hby := Bd.bytes
  have hml : c.maxLocals = 13 := hml0
  have hown : s.vm.findClass "com/example/streamgist/streamgist/packed/PackedBits" = some m.cls := findClass_of_methodNamed Bd.named
  have hnm := (name_of_methodNamed Bd.named Bd.method).1
  have X0 : Stand p l e ({ frames := 0, cells := 0, slots := 0, locals := 0 } : Room) s m #[(.ref ts), (.long qb), (.long qe), (.int wd)] below meth c s₁ [] 0 0 := Stand.of_body Bd
  have e0 : s₁.heap = h0 := by rw [← hh, Bd.state]; rfl
  have N0 := Fr.nil n0
  refine own_enter (P := (P1 Z ts qb qe wd g bN eN wN h0 n0 s)) (ef_1 m ts qb qe wd) ?_
  have K0 : Keep h0 h0 [ts] := Keep.refl h0 _
  show own_Fin p.tables e below _ (s₁.setTop (mkF m 0 #[.val (.ref ts), .val (.long qb), .second, .val (.long qe), .second, .val (.int wd), .unset, .unset, .unset, .unset, .unset, .unset, .unset] []))
  refine own_step (fun _ k => XS.lloadN X0.here hx rfl (hb hby d1_0) rfl k) ?_
  show own_Fin p.tables e below _ (s₁.setTop (mkF m 1 #[.val (.ref ts), .val (.long qb), .second, .val (.long qe), .second, .val (.int wd), .unset, .unset, .unset, .unset, .unset, .unset, .unset] [(.long qb)]))
  refine own_step (fun _ k => XS.bipush X0.here hx rfl (hb hby d1_1) k) ?_
  show own_Fin p.tables e below _ (s₁.setTop (mkF m 3 #[.val (.ref ts), .val (.long qb), .second, .val (.long qe), .second, .val (.int wd), .unset, .unset, .unset, .unset, .unset, .unset, .unset] [(.int (6 : Int32)), (.long qb)]))
  refine own_step (fun _ k => XS.lushr X0.here hx rfl (hb hby d1_3) rfl k) ?_
  show own_Fin p.tables e below _ (s₁.setTop (mkF m 4 #[.val (.ref ts), .val (.long qb), .second, .val (.long qe), .second, .val (.int wd), .unset, .unset, .unset, .unset, .unset, .unset, .unset] [(.long ((qb.toUInt64 >>> ((6 : Int32) &&& 0x3f).toInt64.toUInt64).toInt64))]))
  refine own_step (fun _ k => XS.l2i X0.here hx rfl (hb hby d1_4) rfl k) ?_
  show own_Fin p.tables e below _ (s₁.setTop (mkF m 5 #[.val (.ref ts), .val (.long qb), .second, .val (.long qe), .second, .val (.int wd), .unset, .unset, .unset, .unset, .unset, .unset, .unset] [(.int (((qb.toUInt64 >>> ((6 : Int32) &&& 0x3f).toInt64.toUInt64).toInt64).toInt32))]))
  refine own_step (fun _ k => XS.istore X0.here hx rfl (hb hby d1_5) rfl (l' := #[.val (.ref ts), .val (.long qb), .second, .val (.long qe), .second, .val (.int wd), .val (.int (((qb.toUInt64 >>> ((6 : Int32) &&& 0x3f).toInt64.toUInt64).toInt64).toInt32)), .unset, .unset, .unset, .unset, .unset, .unset]) rfl k) ?_
  show own_Fin p.tables e below _ (s₁.setTop (mkF m 7 #[.val (.ref ts), .val (.long qb), .second, .val (.long qe), .second, .val (.int wd), .val (.int (((qb.toUInt64 >>> ((6 : Int32) &&& 0x3f).toInt64.toUInt64).toInt64).toInt32)), .unset, .unset, .unset, .unset, .unset, .unset] []))
  obtain ⟨lw, hlw⟩ : ∃ z, z = (((qb.toUInt64 >>> ((6 : Int32) &&& 0x3f).toInt64.toUInt64).toInt64).toInt32) := ⟨_, rfl⟩
  rw [← hlw]
  show own_Fin p.tables e below _ (s₁.setTop (mkF m 7 #[.val (.ref ts), .val (.long qb), .second, .val (.long qe), .second, .val (.int wd), .val (.int lw), .unset, .unset, .unset, .unset, .unset, .unset] []))
  have hlw2 : lw.toInt = (bN / 64 : Nat) := by rw [hlw]; exact own_low hqb (by omega)
  refine own_step (fun _ k => XS.lloadN X0.here hx rfl (hb hby d1_7) rfl k) ?_
  show own_Fin p.tables e below _ (s₁.setTop (mkF m 8 #[.val (.ref ts), .val (.long qb), .second, .val (.long qe), .second, .val (.int wd), .val (.int lw), .unset, .unset, .unset, .unset, .unset, .unset] [(.long qe)]))
  refine own_step (fun _ k => XS.lconst X0.here hx rfl (hb hby d1_8) k) ?_
  show own_Fin p.tables e below _ (s₁.setTop (mkF m 9 #[.val (.ref ts), .val (.long qb), .second, .val (.long qe), .second, .val (.int wd), .val (.int lw), .unset, .unset, .unset, .unset, .unset, .unset] [(.long (1 : Int64)), (.long qe)]))
  refine own_step (fun _ k => XS.lsub X0.here hx rfl (hb hby d1_9) rfl k) ?_
  show own_Fin p.tables e below _ (s₁.setTop (mkF m 10 #[.val (.ref ts), .val (.long qb), .second, .val (.long qe), .second, .val (.int wd), .val (.int lw), .unset, .unset, .unset, .unset, .unset, .unset] [(.long (qe - (1 : Int64)))]))
  refine own_step (fun _ k => XS.bipush X0.here hx rfl (hb hby d1_10) k) ?_
  show own_Fin p.tables e below _ (s₁.setTop (mkF m 12 #[.val (.ref ts), .val (.long qb), .second, .val (.long qe), .second, .val (.int wd), .val (.int lw), .unset, .unset, .unset, .unset, .unset, .unset] [(.int (6 : Int32)), (.long (qe - (1 : Int64)))]))
  refine own_step (fun _ k => XS.lushr X0.here hx rfl (hb hby d1_12) rfl k) ?_
  show own_Fin p.tables e below _ (s₁.setTop (mkF m 13 #[.val (.ref ts), .val (.long qb), .second, .val (.long qe), .second, .val (.int wd), .val (.int lw), .unset, .unset, .unset, .unset, .unset, .unset] [(.long (((qe - (1 : Int64)).toUInt64 >>> ((6 : Int32) &&& 0x3f).toInt64.toUInt64).toInt64))]))
  refine own_step (fun _ k => XS.l2i X0.here hx rfl (hb hby d1_13) rfl k) ?_
  show own_Fin p.tables e below _ (s₁.setTop (mkF m 14 #[.val (.ref ts), .val (.long qb), .second, .val (.long qe), .second, .val (.int wd), .val (.int lw), .unset, .unset, .unset, .unset, .unset, .unset] [(.int ((((qe - (1 : Int64)).toUInt64 >>> ((6 : Int32) &&& 0x3f).toInt64.toUInt64).toInt64).toInt32))]))
  refine own_step (fun _ k => XS.istore X0.here hx rfl (hb hby d1_14) rfl (l' := #[.val (.ref ts), .val (.long qb), .second, .val (.long qe), .second, .val (.int wd), .val (.int lw), .val (.int ((((qe - (1 : Int64)).toUInt64 >>> ((6 : Int32) &&& 0x3f).toInt64.toUInt64).toInt64).toInt32)), .unset, .unset, .unset, .unset, .unset]) rfl k) ?_
  show own_Fin p.tables e below _ (s₁.setTop (mkF m 16 #[.val (.ref ts), .val (.long qb), .second, .val (.long qe), .second, .val (.int wd), .val (.int lw), .val (.int ((((qe - (1 : Int64)).toUInt64 >>> ((6 : Int32) &&& 0x3f).toInt64.toUInt64).toInt64).toInt32)), .unset, .unset, .unset, .unset, .unset] []))
  obtain ⟨hg, hhg⟩ : ∃ z, z = ((((qe - (1 : Int64)).toUInt64 >>> ((6 : Int32) &&& 0x3f).toInt64.toUInt64).toInt64).toInt32) := ⟨_, rfl⟩
  rw [← hhg]
  show own_Fin p.tables e below _ (s₁.setTop (mkF m 16 #[.val (.ref ts), .val (.long qb), .second, .val (.long qe), .second, .val (.int wd), .val (.int lw), .val (.int hg), .unset, .unset, .unset, .unset, .unset] []))
  have hhg2 : hg.toInt = ((eN - 1) / 64 : Nat) := by rw [hhg]; exact own_low (own_lm1 hqe (by omega) (by omega)) (by omega)
  refine own_step (fun _ k => XS.lconst X0.here hx rfl (hb hby d1_16) k) ?_
  show own_Fin p.tables e below _ (s₁.setTop (mkF m 17 #[.val (.ref ts), .val (.long qb), .second, .val (.long qe), .second, .val (.int wd), .val (.int lw), .val (.int hg), .unset, .unset, .unset, .unset, .unset] [(.long (1 : Int64))]))
  refine own_step (fun _ k => XS.lloadN X0.here hx rfl (hb hby d1_17) rfl k) ?_
  show own_Fin p.tables e below _ (s₁.setTop (mkF m 18 #[.val (.ref ts), .val (.long qb), .second, .val (.long qe), .second, .val (.int wd), .val (.int lw), .val (.int hg), .unset, .unset, .unset, .unset, .unset] [(.long qb), (.long (1 : Int64))]))
  refine own_step (X0.ldc2Long hx hown (mvT hZ (hw _ (List.mem_of_getElem? (i := 6) rfl))) (g := (mkF m 18 #[.val (.ref ts), .val (.long qb), .second, .val (.long qe), .second, .val (.int wd), .val (.int lw), .val (.int hg), .unset, .unset, .unset, .unset, .unset] [(.long qb), (.long (1 : Int64))])) rfl (hb hby d1_18)) ?_
  show own_Fin p.tables e below _ (s₁.setTop (mkF m 21 #[.val (.ref ts), .val (.long qb), .second, .val (.long qe), .second, .val (.int wd), .val (.int lw), .val (.int hg), .unset, .unset, .unset, .unset, .unset] [(.long (63 : Int64)), (.long qb), (.long (1 : Int64))]))
  refine own_step (fun _ k => XS.land X0.here hx rfl (hb hby d1_21) rfl k) ?_
  show own_Fin p.tables e below _ (s₁.setTop (mkF m 22 #[.val (.ref ts), .val (.long qb), .second, .val (.long qe), .second, .val (.int wd), .val (.int lw), .val (.int hg), .unset, .unset, .unset, .unset, .unset] [(.long (qb &&& (63 : Int64))), (.long (1 : Int64))]))
  refine own_step (fun _ k => XS.l2i X0.here hx rfl (hb hby d1_22) rfl k) ?_
  show own_Fin p.tables e below _ (s₁.setTop (mkF m 23 #[.val (.ref ts), .val (.long qb), .second, .val (.long qe), .second, .val (.int wd), .val (.int lw), .val (.int hg), .unset, .unset, .unset, .unset, .unset] [(.int ((qb &&& (63 : Int64)).toInt32)), (.long (1 : Int64))]))
  refine own_step (fun _ k => XS.lshl X0.here hx rfl (hb hby d1_23) rfl k) ?_
  show own_Fin p.tables e below _ (s₁.setTop (mkF m 24 #[.val (.ref ts), .val (.long qb), .second, .val (.long qe), .second, .val (.int wd), .val (.int lw), .val (.int hg), .unset, .unset, .unset, .unset, .unset] [(.long ((1 : Int64) <<< (((qb &&& (63 : Int64)).toInt32) &&& 0x3f).toInt64))]))
  refine own_step (fun _ k => XS.lconst X0.here hx rfl (hb hby d1_24) k) ?_
  show own_Fin p.tables e below _ (s₁.setTop (mkF m 25 #[.val (.ref ts), .val (.long qb), .second, .val (.long qe), .second, .val (.int wd), .val (.int lw), .val (.int hg), .unset, .unset, .unset, .unset, .unset] [(.long (1 : Int64)), (.long ((1 : Int64) <<< (((qb &&& (63 : Int64)).toInt32) &&& 0x3f).toInt64))]))
  refine own_step (fun _ k => XS.lsub X0.here hx rfl (hb hby d1_25) rfl k) ?_
  show own_Fin p.tables e below _ (s₁.setTop (mkF m 26 #[.val (.ref ts), .val (.long qb), .second, .val (.long qe), .second, .val (.int wd), .val (.int lw), .val (.int hg), .unset, .unset, .unset, .unset, .unset] [(.long (((1 : Int64) <<< (((qb &&& (63 : Int64)).toInt32) &&& 0x3f).toInt64) - (1 : Int64)))]))
  refine own_step (fun _ k => XS.lstore X0.here hx rfl (hb hby d1_26) rfl (l' := #[.val (.ref ts), .val (.long qb), .second, .val (.long qe), .second, .val (.int wd), .val (.int lw), .val (.int hg), .val (.long (((1 : Int64) <<< (((qb &&& (63 : Int64)).toInt32) &&& 0x3f).toInt64) - (1 : Int64))), .second, .unset, .unset, .unset]) rfl k) ?_
  show own_Fin p.tables e below _ (s₁.setTop (mkF m 28 #[.val (.ref ts), .val (.long qb), .second, .val (.long qe), .second, .val (.int wd), .val (.int lw), .val (.int hg), .val (.long (((1 : Int64) <<< (((qb &&& (63 : Int64)).toInt32) &&& 0x3f).toInt64) - (1 : Int64))), .second, .unset, .unset, .unset] []))
  obtain ⟨bl, hbl⟩ : ∃ z, z = (((1 : Int64) <<< (((qb &&& (63 : Int64)).toInt32) &&& 0x3f).toInt64) - (1 : Int64)) := ⟨_, rfl⟩
  rw [← hbl]
  show own_Fin p.tables e below _ (s₁.setTop (mkF m 28 #[.val (.ref ts), .val (.long qb), .second, .val (.long qe), .second, .val (.int wd), .val (.int lw), .val (.int hg), .val (.long bl), .second, .unset, .unset, .unset] []))
  have hrr2 := own_lm hqb (by omega)
  refine own_step (fun _ k => XS.aloadN X0.here hx rfl (hb hby d1_28) rfl rfl k) ?_
  show own_Fin p.tables e below _ (s₁.setTop (mkF m 29 #[.val (.ref ts), .val (.long qb), .second, .val (.long qe), .second, .val (.int wd), .val (.int lw), .val (.int hg), .val (.long bl), .second, .unset, .unset, .unset] [(.ref ts)]))
  refine own_step (fun _ k => XS.iload X0.here hx rfl (hb hby d1_29) rfl k) ?_
  show own_Fin p.tables e below _ (s₁.setTop (mkF m 31 #[.val (.ref ts), .val (.long qb), .second, .val (.long qe), .second, .val (.int wd), .val (.int lw), .val (.int hg), .val (.long bl), .second, .unset, .unset, .unset] [(.int lw), (.ref ts)]))
  obtain ⟨cl1, Ar1, S1, H1⟩ := id Ga0
  have hin1 : ¬ (lw < 0 ∨ cl1.slots.size ≤ (lw).toNatClampNeg) := own_in S1 ⟨by omega, by omega⟩
  refine own_step (X0.laload hx (j := lw) (v := (.long (g (lw).toNatClampNeg))) (by first | exact Ar1.1 | (rw [e0]; exact Ar1.1)) (State.isArrayOf_alike hZ.alike Ar1.2.1) Ar1.2.2 hin1 (H1 _ (own_in2 ⟨by omega, by omega⟩)) (g := (mkF m 31 #[.val (.ref ts), .val (.long qb), .second, .val (.long qe), .second, .val (.int wd), .val (.int lw), .val (.int hg), .val (.long bl), .second, .unset, .unset, .unset] [(.int lw), (.ref ts)])) rfl rfl (hb hby d1_31)) ?_
  show own_Fin p.tables e below _ (s₁.setTop (mkF m 32 #[.val (.ref ts), .val (.long qb), .second, .val (.long qe), .second, .val (.int wd), .val (.int lw), .val (.int hg), .val (.long bl), .second, .unset, .unset, .unset] [(.long (g (lw).toNatClampNeg))]))
  refine own_step (fun _ k => XS.lload X0.here hx rfl (hb hby d1_32) rfl k) ?_
  show own_Fin p.tables e below _ (s₁.setTop (mkF m 34 #[.val (.ref ts), .val (.long qb), .second, .val (.long qe), .second, .val (.int wd), .val (.int lw), .val (.int hg), .val (.long bl), .second, .unset, .unset, .unset] [(.long bl), (.long (g (lw).toNatClampNeg))]))
  refine own_step (fun _ k => XS.land X0.here hx rfl (hb hby d1_34) rfl k) ?_
  show own_Fin p.tables e below _ (s₁.setTop (mkF m 35 #[.val (.ref ts), .val (.long qb), .second, .val (.long qe), .second, .val (.int wd), .val (.int lw), .val (.int hg), .val (.long bl), .second, .unset, .unset, .unset] [(.long ((g (lw).toNatClampNeg) &&& bl))]))
  refine own_step (fun _ k => XS.lstore X0.here hx rfl (hb hby d1_35) rfl (l' := #[.val (.ref ts), .val (.long qb), .second, .val (.long qe), .second, .val (.int wd), .val (.int lw), .val (.int hg), .val (.long bl), .second, .val (.long ((g (lw).toNatClampNeg) &&& bl)), .second, .unset]) rfl k) ?_
  show own_Fin p.tables e below _ (s₁.setTop (mkF m 37 #[.val (.ref ts), .val (.long qb), .second, .val (.long qe), .second, .val (.int wd), .val (.int lw), .val (.int hg), .val (.long bl), .second, .val (.long ((g (lw).toNatClampNeg) &&& bl)), .second, .unset] []))
  obtain ⟨kp, hkp⟩ : ∃ z, z = ((g (lw).toNatClampNeg) &&& bl) := ⟨_, rfl⟩
  rw [← hkp]
  show own_Fin p.tables e below _ (s₁.setTop (mkF m 37 #[.val (.ref ts), .val (.long qb), .second, .val (.long qe), .second, .val (.int wd), .val (.int lw), .val (.int hg), .val (.long bl), .second, .val (.long kp), .second, .unset] []))
  refine own_step (fun _ k => XS.iload X0.here hx rfl (hb hby d1_37) rfl k) ?_
  show own_Fin p.tables e below _ (s₁.setTop (mkF m 39 #[.val (.ref ts), .val (.long qb), .second, .val (.long qe), .second, .val (.int wd), .val (.int lw), .val (.int hg), .val (.long bl), .second, .val (.long kp), .second, .unset] [(.int lw)]))
  refine own_step (fun _ k => XS.istore X0.here hx rfl (hb hby d1_39) rfl (l' := #[.val (.ref ts), .val (.long qb), .second, .val (.long qe), .second, .val (.int wd), .val (.int lw), .val (.int hg), .val (.long bl), .second, .val (.long kp), .second, .val (.int lw)]) rfl k) ?_
  show own_Fin p.tables e below _ (s₁.setTop (mkF m 41 #[.val (.ref ts), .val (.long qb), .second, .val (.long qe), .second, .val (.int wd), .val (.int lw), .val (.int hg), .val (.long bl), .second, .val (.long kp), .second, .val (.int lw)] []))
  have loop2 : ∀ (k : Nat) (T2 : State) (locs2 : List Loc) (h2 : Heap) (wi : Int32) (gw : Nat → Int64) (X2 : Stand p l e ({ frames := 0, cells := 0, slots := 0, locals := 0 } : Room) s m #[(.ref ts), (.long qb), (.long qe), (.int wd)] below meth c T2 locs2 0 0) (e2 : T2.heap = h2) (N2 : Fr n0 locs2) (lz : n0 ≤ h2.size) (lk : Keep h0 h2 [ts]) (lg : own_Arf Z h2 ts .long 3 (fun i => .long (gw i))) (i1 : lw.toInt ≤ wi.toInt) (i2 : wi.toInt ≤ hg.toInt) (i3 : ∀ i, gw i = if lw.toNatClampNeg ≤ i ∧ i < wi.toNatClampNeg then (own_a (g i) wd ||| own_c (g (i + 1)) wd) else g i), (hg.toInt - wi.toInt).toNat = k → own_Fin p.tables e below (P1 Z ts qb qe wd g bN eN wN h0 n0 s) (T2.setTop (mkF m 41 #[.val (.ref ts), .val (.long qb), .second, .val (.long qe), .second, .val (.int wd), .val (.int lw), .val (.int hg), .val (.long bl), .second, .val (.long kp), .second, .val (.int wi)] [])) := by
    intro k
    induction k using Nat.strongRecOn with
    | _ k ih =>
      intro T2 locs2 h2 wi gw X2 e2 N2 lz lk lg i1 i2 i3 hmeas
      show own_Fin p.tables e below _ (T2.setTop (mkF m 41 #[.val (.ref ts), .val (.long qb), .second, .val (.long qe), .second, .val (.int wd), .val (.int lw), .val (.int hg), .val (.long bl), .second, .val (.long kp), .second, .val (.int wi)] []))
      refine own_step (fun _ k => XS.iload X2.here hx rfl (hb hby d1_41) rfl k) ?_
      show own_Fin p.tables e below _ (T2.setTop (mkF m 43 #[.val (.ref ts), .val (.long qb), .second, .val (.long qe), .second, .val (.int wd), .val (.int lw), .val (.int hg), .val (.long bl), .second, .val (.long kp), .second, .val (.int wi)] [(.int wi)]))
      refine own_step (fun _ k => XS.iload X2.here hx rfl (hb hby d1_43) rfl k) ?_
      show own_Fin p.tables e below _ (T2.setTop (mkF m 45 #[.val (.ref ts), .val (.long qb), .second, .val (.long qe), .second, .val (.int wd), .val (.int lw), .val (.int hg), .val (.long bl), .second, .val (.long kp), .second, .val (.int wi)] [(.int hg), (.int wi)]))
      by_cases hc3 : wi < hg
      · refine own_step (fun _ k => XS.icmpNo X2.here hx rfl (hb hby d1_45) rfl ((tlt hc3).2.1) k) ?_
        show own_Fin p.tables e below _ (T2.setTop (mkF m 48 #[.val (.ref ts), .val (.long qb), .second, .val (.long qe), .second, .val (.int wd), .val (.int lw), .val (.int hg), .val (.long bl), .second, .val (.long kp), .second, .val (.int wi)] []))
        have hlt := Int32.lt_iff_toInt_lt.mp hc3
        have hwi1 : (wi + (1 : Int32)).toInt = wi.toInt + 1 := own_add1 (by omega)
        refine own_step (fun _ k => XS.aloadN X2.here hx rfl (hb hby d1_48) rfl rfl k) ?_
        show own_Fin p.tables e below _ (T2.setTop (mkF m 49 #[.val (.ref ts), .val (.long qb), .second, .val (.long qe), .second, .val (.int wd), .val (.int lw), .val (.int hg), .val (.long bl), .second, .val (.long kp), .second, .val (.int wi)] [(.ref ts)]))
        refine own_step (fun _ k => XS.iload X2.here hx rfl (hb hby d1_49) rfl k) ?_
        show own_Fin p.tables e below _ (T2.setTop (mkF m 51 #[.val (.ref ts), .val (.long qb), .second, .val (.long qe), .second, .val (.int wd), .val (.int lw), .val (.int hg), .val (.long bl), .second, .val (.long kp), .second, .val (.int wi)] [(.int wi), (.ref ts)]))
        refine own_step (fun _ k => XS.aloadN X2.here hx rfl (hb hby d1_51) rfl rfl k) ?_
        show own_Fin p.tables e below _ (T2.setTop (mkF m 52 #[.val (.ref ts), .val (.long qb), .second, .val (.long qe), .second, .val (.int wd), .val (.int lw), .val (.int hg), .val (.long bl), .second, .val (.long kp), .second, .val (.int wi)] [(.ref ts), (.int wi), (.ref ts)]))
        refine own_step (fun _ k => XS.iload X2.here hx rfl (hb hby d1_52) rfl k) ?_
        show own_Fin p.tables e below _ (T2.setTop (mkF m 54 #[.val (.ref ts), .val (.long qb), .second, .val (.long qe), .second, .val (.int wd), .val (.int lw), .val (.int hg), .val (.long bl), .second, .val (.long kp), .second, .val (.int wi)] [(.int wi), (.ref ts), (.int wi), (.ref ts)]))
        obtain ⟨cl4, Ar4, S4, H4⟩ := id lg
        have hin4 : ¬ (wi < 0 ∨ cl4.slots.size ≤ (wi).toNatClampNeg) := own_in S4 ⟨by omega, by omega⟩
        refine own_step (X2.laload hx (j := wi) (v := (.long (gw (wi).toNatClampNeg))) (by first | exact Ar4.1 | (rw [e2]; exact Ar4.1)) (State.isArrayOf_alike hZ.alike Ar4.2.1) Ar4.2.2 hin4 (H4 _ (own_in2 ⟨by omega, by omega⟩)) (g := (mkF m 54 #[.val (.ref ts), .val (.long qb), .second, .val (.long qe), .second, .val (.int wd), .val (.int lw), .val (.int hg), .val (.long bl), .second, .val (.long kp), .second, .val (.int wi)] [(.int wi), (.ref ts), (.int wi), (.ref ts)])) rfl rfl (hb hby d1_54)) ?_
        show own_Fin p.tables e below _ (T2.setTop (mkF m 55 #[.val (.ref ts), .val (.long qb), .second, .val (.long qe), .second, .val (.int wd), .val (.int lw), .val (.int hg), .val (.long bl), .second, .val (.long kp), .second, .val (.int wi)] [(.long (gw (wi).toNatClampNeg)), (.int wi), (.ref ts)]))
        refine own_step (fun _ k => XS.iconst X2.here hx rfl (hb hby d1_55) k) ?_
        show own_Fin p.tables e below _ (T2.setTop (mkF m 56 #[.val (.ref ts), .val (.long qb), .second, .val (.long qe), .second, .val (.int wd), .val (.int lw), .val (.int hg), .val (.long bl), .second, .val (.long kp), .second, .val (.int wi)] [(.int (1 : Int32)), (.long (gw (wi).toNatClampNeg)), (.int wi), (.ref ts)]))
        refine own_step (fun _ k => XS.lushr X2.here hx rfl (hb hby d1_56) rfl k) ?_
        show own_Fin p.tables e below _ (T2.setTop (mkF m 57 #[.val (.ref ts), .val (.long qb), .second, .val (.long qe), .second, .val (.int wd), .val (.int lw), .val (.int hg), .val (.long bl), .second, .val (.long kp), .second, .val (.int wi)] [(.long (((gw (wi).toNatClampNeg).toUInt64 >>> ((1 : Int32) &&& 0x3f).toInt64.toUInt64).toInt64)), (.int wi), (.ref ts)]))
        refine own_step (fun _ k => XS.iload X2.here hx rfl (hb hby d1_57) rfl k) ?_
        show own_Fin p.tables e below _ (T2.setTop (mkF m 59 #[.val (.ref ts), .val (.long qb), .second, .val (.long qe), .second, .val (.int wd), .val (.int lw), .val (.int hg), .val (.long bl), .second, .val (.long kp), .second, .val (.int wi)] [(.int wd), (.long (((gw (wi).toNatClampNeg).toUInt64 >>> ((1 : Int32) &&& 0x3f).toInt64.toUInt64).toInt64)), (.int wi), (.ref ts)]))
        refine own_step (fun _ k => XS.iconst X2.here hx rfl (hb hby d1_59) k) ?_
        show own_Fin p.tables e below _ (T2.setTop (mkF m 60 #[.val (.ref ts), .val (.long qb), .second, .val (.long qe), .second, .val (.int wd), .val (.int lw), .val (.int hg), .val (.long bl), .second, .val (.long kp), .second, .val (.int wi)] [(.int (1 : Int32)), (.int wd), (.long (((gw (wi).toNatClampNeg).toUInt64 >>> ((1 : Int32) &&& 0x3f).toInt64.toUInt64).toInt64)), (.int wi), (.ref ts)]))
        refine own_step (fun _ k => XS.isub X2.here hx rfl (hb hby d1_60) rfl k) ?_
        show own_Fin p.tables e below _ (T2.setTop (mkF m 61 #[.val (.ref ts), .val (.long qb), .second, .val (.long qe), .second, .val (.int wd), .val (.int lw), .val (.int hg), .val (.long bl), .second, .val (.long kp), .second, .val (.int wi)] [(.int (wd - (1 : Int32))), (.long (((gw (wi).toNatClampNeg).toUInt64 >>> ((1 : Int32) &&& 0x3f).toInt64.toUInt64).toInt64)), (.int wi), (.ref ts)]))
        refine own_step (fun _ k => XS.lushr X2.here hx rfl (hb hby d1_61) rfl k) ?_
        show own_Fin p.tables e below _ (T2.setTop (mkF m 62 #[.val (.ref ts), .val (.long qb), .second, .val (.long qe), .second, .val (.int wd), .val (.int lw), .val (.int hg), .val (.long bl), .second, .val (.long kp), .second, .val (.int wi)] [(.long (((((gw (wi).toNatClampNeg).toUInt64 >>> ((1 : Int32) &&& 0x3f).toInt64.toUInt64).toInt64).toUInt64 >>> ((wd - (1 : Int32)) &&& 0x3f).toInt64.toUInt64).toInt64)), (.int wi), (.ref ts)]))
        refine own_step (fun _ k => XS.aloadN X2.here hx rfl (hb hby d1_62) rfl rfl k) ?_
        show own_Fin p.tables e below _ (T2.setTop (mkF m 63 #[.val (.ref ts), .val (.long qb), .second, .val (.long qe), .second, .val (.int wd), .val (.int lw), .val (.int hg), .val (.long bl), .second, .val (.long kp), .second, .val (.int wi)] [(.ref ts), (.long (((((gw (wi).toNatClampNeg).toUInt64 >>> ((1 : Int32) &&& 0x3f).toInt64.toUInt64).toInt64).toUInt64 >>> ((wd - (1 : Int32)) &&& 0x3f).toInt64.toUInt64).toInt64)), (.int wi), (.ref ts)]))
        refine own_step (fun _ k => XS.iload X2.here hx rfl (hb hby d1_63) rfl k) ?_
        show own_Fin p.tables e below _ (T2.setTop (mkF m 65 #[.val (.ref ts), .val (.long qb), .second, .val (.long qe), .second, .val (.int wd), .val (.int lw), .val (.int hg), .val (.long bl), .second, .val (.long kp), .second, .val (.int wi)] [(.int wi), (.ref ts), (.long (((((gw (wi).toNatClampNeg).toUInt64 >>> ((1 : Int32) &&& 0x3f).toInt64.toUInt64).toInt64).toUInt64 >>> ((wd - (1 : Int32)) &&& 0x3f).toInt64.toUInt64).toInt64)), (.int wi), (.ref ts)]))
        refine own_step (fun _ k => XS.iconst X2.here hx rfl (hb hby d1_65) k) ?_
        show own_Fin p.tables e below _ (T2.setTop (mkF m 66 #[.val (.ref ts), .val (.long qb), .second, .val (.long qe), .second, .val (.int wd), .val (.int lw), .val (.int hg), .val (.long bl), .second, .val (.long kp), .second, .val (.int wi)] [(.int (1 : Int32)), (.int wi), (.ref ts), (.long (((((gw (wi).toNatClampNeg).toUInt64 >>> ((1 : Int32) &&& 0x3f).toInt64.toUInt64).toInt64).toUInt64 >>> ((wd - (1 : Int32)) &&& 0x3f).toInt64.toUInt64).toInt64)), (.int wi), (.ref ts)]))
        refine own_step (fun _ k => XS.iadd X2.here hx rfl (hb hby d1_66) rfl k) ?_
        show own_Fin p.tables e below _ (T2.setTop (mkF m 67 #[.val (.ref ts), .val (.long qb), .second, .val (.long qe), .second, .val (.int wd), .val (.int lw), .val (.int hg), .val (.long bl), .second, .val (.long kp), .second, .val (.int wi)] [(.int (wi + (1 : Int32))), (.ref ts), (.long (((((gw (wi).toNatClampNeg).toUInt64 >>> ((1 : Int32) &&& 0x3f).toInt64.toUInt64).toInt64).toUInt64 >>> ((wd - (1 : Int32)) &&& 0x3f).toInt64.toUInt64).toInt64)), (.int wi), (.ref ts)]))
        obtain ⟨cl5, Ar5, S5, H5⟩ := id lg
        have hin5 : ¬ ((wi + (1 : Int32)) < 0 ∨ cl5.slots.size ≤ ((wi + (1 : Int32))).toNatClampNeg) := own_in S5 ⟨by rw [hwi1]; omega, by rw [hwi1]; omega⟩
        refine own_step (X2.laload hx (j := (wi + (1 : Int32))) (v := (.long (gw ((wi + (1 : Int32))).toNatClampNeg))) (by first | exact Ar5.1 | (rw [e2]; exact Ar5.1)) (State.isArrayOf_alike hZ.alike Ar5.2.1) Ar5.2.2 hin5 (H5 _ (own_in2 ⟨by rw [hwi1]; omega, by rw [hwi1]; omega⟩)) (g := (mkF m 67 #[.val (.ref ts), .val (.long qb), .second, .val (.long qe), .second, .val (.int wd), .val (.int lw), .val (.int hg), .val (.long bl), .second, .val (.long kp), .second, .val (.int wi)] [(.int (wi + (1 : Int32))), (.ref ts), (.long (((((gw (wi).toNatClampNeg).toUInt64 >>> ((1 : Int32) &&& 0x3f).toInt64.toUInt64).toInt64).toUInt64 >>> ((wd - (1 : Int32)) &&& 0x3f).toInt64.toUInt64).toInt64)), (.int wi), (.ref ts)])) rfl rfl (hb hby d1_67)) ?_
        show own_Fin p.tables e below _ (T2.setTop (mkF m 68 #[.val (.ref ts), .val (.long qb), .second, .val (.long qe), .second, .val (.int wd), .val (.int lw), .val (.int hg), .val (.long bl), .second, .val (.long kp), .second, .val (.int wi)] [(.long (gw ((wi + (1 : Int32))).toNatClampNeg)), (.long (((((gw (wi).toNatClampNeg).toUInt64 >>> ((1 : Int32) &&& 0x3f).toInt64.toUInt64).toInt64).toUInt64 >>> ((wd - (1 : Int32)) &&& 0x3f).toInt64.toUInt64).toInt64)), (.int wi), (.ref ts)]))
        refine own_step (fun _ k => XS.bipush X2.here hx rfl (hb hby d1_68) k) ?_
        show own_Fin p.tables e below _ (T2.setTop (mkF m 70 #[.val (.ref ts), .val (.long qb), .second, .val (.long qe), .second, .val (.int wd), .val (.int lw), .val (.int hg), .val (.long bl), .second, .val (.long kp), .second, .val (.int wi)] [(.int (64 : Int32)), (.long (gw ((wi + (1 : Int32))).toNatClampNeg)), (.long (((((gw (wi).toNatClampNeg).toUInt64 >>> ((1 : Int32) &&& 0x3f).toInt64.toUInt64).toInt64).toUInt64 >>> ((wd - (1 : Int32)) &&& 0x3f).toInt64.toUInt64).toInt64)), (.int wi), (.ref ts)]))
        refine own_step (fun _ k => XS.iload X2.here hx rfl (hb hby d1_70) rfl k) ?_
        show own_Fin p.tables e below _ (T2.setTop (mkF m 72 #[.val (.ref ts), .val (.long qb), .second, .val (.long qe), .second, .val (.int wd), .val (.int lw), .val (.int hg), .val (.long bl), .second, .val (.long kp), .second, .val (.int wi)] [(.int wd), (.int (64 : Int32)), (.long (gw ((wi + (1 : Int32))).toNatClampNeg)), (.long (((((gw (wi).toNatClampNeg).toUInt64 >>> ((1 : Int32) &&& 0x3f).toInt64.toUInt64).toInt64).toUInt64 >>> ((wd - (1 : Int32)) &&& 0x3f).toInt64.toUInt64).toInt64)), (.int wi), (.ref ts)]))
        refine own_step (fun _ k => XS.isub X2.here hx rfl (hb hby d1_72) rfl k) ?_
        show own_Fin p.tables e below _ (T2.setTop (mkF m 73 #[.val (.ref ts), .val (.long qb), .second, .val (.long qe), .second, .val (.int wd), .val (.int lw), .val (.int hg), .val (.long bl), .second, .val (.long kp), .second, .val (.int wi)] [(.int ((64 : Int32) - wd)), (.long (gw ((wi + (1 : Int32))).toNatClampNeg)), (.long (((((gw (wi).toNatClampNeg).toUInt64 >>> ((1 : Int32) &&& 0x3f).toInt64.toUInt64).toInt64).toUInt64 >>> ((wd - (1 : Int32)) &&& 0x3f).toInt64.toUInt64).toInt64)), (.int wi), (.ref ts)]))
        refine own_step (fun _ k => XS.lshl X2.here hx rfl (hb hby d1_73) rfl k) ?_
        show own_Fin p.tables e below _ (T2.setTop (mkF m 74 #[.val (.ref ts), .val (.long qb), .second, .val (.long qe), .second, .val (.int wd), .val (.int lw), .val (.int hg), .val (.long bl), .second, .val (.long kp), .second, .val (.int wi)] [(.long ((gw ((wi + (1 : Int32))).toNatClampNeg) <<< (((64 : Int32) - wd) &&& 0x3f).toInt64)), (.long (((((gw (wi).toNatClampNeg).toUInt64 >>> ((1 : Int32) &&& 0x3f).toInt64.toUInt64).toInt64).toUInt64 >>> ((wd - (1 : Int32)) &&& 0x3f).toInt64.toUInt64).toInt64)), (.int wi), (.ref ts)]))
        refine own_step (fun _ k => XS.lor X2.here hx rfl (hb hby d1_74) rfl k) ?_
        show own_Fin p.tables e below _ (T2.setTop (mkF m 75 #[.val (.ref ts), .val (.long qb), .second, .val (.long qe), .second, .val (.int wd), .val (.int lw), .val (.int hg), .val (.long bl), .second, .val (.long kp), .second, .val (.int wi)] [(.long ((((((gw (wi).toNatClampNeg).toUInt64 >>> ((1 : Int32) &&& 0x3f).toInt64.toUInt64).toInt64).toUInt64 >>> ((wd - (1 : Int32)) &&& 0x3f).toInt64.toUInt64).toInt64) ||| ((gw ((wi + (1 : Int32))).toNatClampNeg) <<< (((64 : Int32) - wd) &&& 0x3f).toInt64))), (.int wi), (.ref ts)]))
        obtain ⟨cl6, Ar6, S6, H6⟩ := id lg
        have hin6 : ¬ (wi < 0 ∨ cl6.slots.size ≤ (wi).toNatClampNeg) := own_in S6 ⟨by omega, by omega⟩
        obtain ⟨T6, h6, X6, e6, W6, st6⟩ := stJ X2 hx hZ e2 Ar6 (j := wi) hin6 (g := (mkF m 75 #[.val (.ref ts), .val (.long qb), .second, .val (.long qe), .second, .val (.int wd), .val (.int lw), .val (.int hg), .val (.long bl), .second, .val (.long kp), .second, .val (.int wi)] [(.long ((((((gw (wi).toNatClampNeg).toUInt64 >>> ((1 : Int32) &&& 0x3f).toInt64.toUInt64).toInt64).toUInt64 >>> ((wd - (1 : Int32)) &&& 0x3f).toInt64.toUInt64).toInt64) ||| ((gw ((wi + (1 : Int32))).toNatClampNeg) <<< (((64 : Int32) - wd) &&& 0x3f).toInt64))), (.int wi), (.ref ts)])) rfl rfl (hb hby d1_75)
        refine own_step st6 ?_
        have f7 := Nat.le_trans lz (Keep.of_wr W6).1
        have f8 := lk.wr W6 (Or.inl (List.mem_of_getElem? (i := 0) rfl))
        have f9 : own_Arf Z h6 ts .long 3 (fun i => .long ((own_upd gw (wi).toNatClampNeg ((((((gw (wi).toNatClampNeg).toUInt64 >>> ((1 : Int32) &&& 0x3f).toInt64.toUInt64).toInt64).toUInt64 >>> ((wd - (1 : Int32)) &&& 0x3f).toInt64.toUInt64).toInt64) ||| ((gw ((wi + (1 : Int32))).toNatClampNeg) <<< (((64 : Int32) - wd) &&& 0x3f).toInt64))) i)) := own_Arf.setJ lg W6
        have N10 := Fr.snoc X6 N2 g_ts
        show own_Fin p.tables e below _ (T6.setTop (mkF m 76 #[.val (.ref ts), .val (.long qb), .second, .val (.long qe), .second, .val (.int wd), .val (.int lw), .val (.int hg), .val (.long bl), .second, .val (.long kp), .second, .val (.int wi)] []))
        refine own_step (fun _ k => XS.iinc X6.here hx rfl (hb hby d1_76) rfl (l' := #[.val (.ref ts), .val (.long qb), .second, .val (.long qe), .second, .val (.int wd), .val (.int lw), .val (.int hg), .val (.long bl), .second, .val (.long kp), .second, .val (.int (wi + (1 : Int32)))]) rfl k) ?_
        show own_Fin p.tables e below _ (T6.setTop (mkF m 79 #[.val (.ref ts), .val (.long qb), .second, .val (.long qe), .second, .val (.int wd), .val (.int lw), .val (.int hg), .val (.long bl), .second, .val (.long kp), .second, .val (.int (wi + (1 : Int32)))] []))
        refine own_step (fun _ k => XS.goto X6.here hx rfl (pc0 := 79) (pc' := 41) rfl (hb hby d1_79) (by decide) (by decide) k) ?_
        show own_Fin p.tables e below _ (T6.setTop (mkF m 41 #[.val (.ref ts), .val (.long qb), .second, .val (.long qe), .second, .val (.int wd), .val (.int lw), .val (.int hg), .val (.long bl), .second, .val (.long kp), .second, .val (.int (wi + (1 : Int32)))] []))
        exact ih _ (by omega) T6 _ h6 (wi + (1 : Int32)) (own_upd gw (wi).toNatClampNeg ((((((gw (wi).toNatClampNeg).toUInt64 >>> ((1 : Int32) &&& 0x3f).toInt64.toUInt64).toInt64).toUInt64 >>> ((wd - (1 : Int32)) &&& 0x3f).toInt64.toUInt64).toInt64) ||| ((gw ((wi + (1 : Int32))).toNatClampNeg) <<< (((64 : Int32) - wd) &&& 0x3f).toInt64))) X6 e6 N10 f7 f8 f9 (by rw [hwi1]; omega) (by rw [hwi1]; omega) (own_inv (by omega) i1 (by omega) i3) rfl
      · refine own_step (fun _ k => XS.icmpYes X2.here hx rfl (pc0 := 45) (pc' := 82) rfl (hb hby d1_45) rfl ((flt hc3).2.1) (by decide) (by decide) k) ?_
        show own_Fin p.tables e below _ (T2.setTop (mkF m 82 #[.val (.ref ts), .val (.long qb), .second, .val (.long qe), .second, .val (.int wd), .val (.int lw), .val (.int hg), .val (.long bl), .second, .val (.long kp), .second, .val (.int wi)] []))
        refine own_step (fun _ k => XS.aloadN X2.here hx rfl (hb hby d1_82) rfl rfl k) ?_
        show own_Fin p.tables e below _ (T2.setTop (mkF m 83 #[.val (.ref ts), .val (.long qb), .second, .val (.long qe), .second, .val (.int wd), .val (.int lw), .val (.int hg), .val (.long bl), .second, .val (.long kp), .second, .val (.int wi)] [(.ref ts)]))
        refine own_step (fun _ k => XS.iload X2.here hx rfl (hb hby d1_83) rfl k) ?_
        show own_Fin p.tables e below _ (T2.setTop (mkF m 85 #[.val (.ref ts), .val (.long qb), .second, .val (.long qe), .second, .val (.int wd), .val (.int lw), .val (.int hg), .val (.long bl), .second, .val (.long kp), .second, .val (.int wi)] [(.int hg), (.ref ts)]))
        refine own_step (fun _ k => XS.aloadN X2.here hx rfl (hb hby d1_85) rfl rfl k) ?_
        show own_Fin p.tables e below _ (T2.setTop (mkF m 86 #[.val (.ref ts), .val (.long qb), .second, .val (.long qe), .second, .val (.int wd), .val (.int lw), .val (.int hg), .val (.long bl), .second, .val (.long kp), .second, .val (.int wi)] [(.ref ts), (.int hg), (.ref ts)]))
        refine own_step (fun _ k => XS.iload X2.here hx rfl (hb hby d1_86) rfl k) ?_
        show own_Fin p.tables e below _ (T2.setTop (mkF m 88 #[.val (.ref ts), .val (.long qb), .second, .val (.long qe), .second, .val (.int wd), .val (.int lw), .val (.int hg), .val (.long bl), .second, .val (.long kp), .second, .val (.int wi)] [(.int hg), (.ref ts), (.int hg), (.ref ts)]))
        obtain ⟨cl11, Ar11, S11, H11⟩ := id lg
        have hin11 : ¬ (hg < 0 ∨ cl11.slots.size ≤ (hg).toNatClampNeg) := own_in S11 ⟨by omega, by omega⟩
        refine own_step (X2.laload hx (j := hg) (v := (.long (gw (hg).toNatClampNeg))) (by first | exact Ar11.1 | (rw [e2]; exact Ar11.1)) (State.isArrayOf_alike hZ.alike Ar11.2.1) Ar11.2.2 hin11 (H11 _ (own_in2 ⟨by omega, by omega⟩)) (g := (mkF m 88 #[.val (.ref ts), .val (.long qb), .second, .val (.long qe), .second, .val (.int wd), .val (.int lw), .val (.int hg), .val (.long bl), .second, .val (.long kp), .second, .val (.int wi)] [(.int hg), (.ref ts), (.int hg), (.ref ts)])) rfl rfl (hb hby d1_88)) ?_
        show own_Fin p.tables e below _ (T2.setTop (mkF m 89 #[.val (.ref ts), .val (.long qb), .second, .val (.long qe), .second, .val (.int wd), .val (.int lw), .val (.int hg), .val (.long bl), .second, .val (.long kp), .second, .val (.int wi)] [(.long (gw (hg).toNatClampNeg)), (.int hg), (.ref ts)]))
        refine own_step (fun _ k => XS.iconst X2.here hx rfl (hb hby d1_89) k) ?_
        show own_Fin p.tables e below _ (T2.setTop (mkF m 90 #[.val (.ref ts), .val (.long qb), .second, .val (.long qe), .second, .val (.int wd), .val (.int lw), .val (.int hg), .val (.long bl), .second, .val (.long kp), .second, .val (.int wi)] [(.int (1 : Int32)), (.long (gw (hg).toNatClampNeg)), (.int hg), (.ref ts)]))
        refine own_step (fun _ k => XS.lushr X2.here hx rfl (hb hby d1_90) rfl k) ?_
        show own_Fin p.tables e below _ (T2.setTop (mkF m 91 #[.val (.ref ts), .val (.long qb), .second, .val (.long qe), .second, .val (.int wd), .val (.int lw), .val (.int hg), .val (.long bl), .second, .val (.long kp), .second, .val (.int wi)] [(.long (((gw (hg).toNatClampNeg).toUInt64 >>> ((1 : Int32) &&& 0x3f).toInt64.toUInt64).toInt64)), (.int hg), (.ref ts)]))
        refine own_step (fun _ k => XS.iload X2.here hx rfl (hb hby d1_91) rfl k) ?_
        show own_Fin p.tables e below _ (T2.setTop (mkF m 93 #[.val (.ref ts), .val (.long qb), .second, .val (.long qe), .second, .val (.int wd), .val (.int lw), .val (.int hg), .val (.long bl), .second, .val (.long kp), .second, .val (.int wi)] [(.int wd), (.long (((gw (hg).toNatClampNeg).toUInt64 >>> ((1 : Int32) &&& 0x3f).toInt64.toUInt64).toInt64)), (.int hg), (.ref ts)]))
        refine own_step (fun _ k => XS.iconst X2.here hx rfl (hb hby d1_93) k) ?_
        show own_Fin p.tables e below _ (T2.setTop (mkF m 94 #[.val (.ref ts), .val (.long qb), .second, .val (.long qe), .second, .val (.int wd), .val (.int lw), .val (.int hg), .val (.long bl), .second, .val (.long kp), .second, .val (.int wi)] [(.int (1 : Int32)), (.int wd), (.long (((gw (hg).toNatClampNeg).toUInt64 >>> ((1 : Int32) &&& 0x3f).toInt64.toUInt64).toInt64)), (.int hg), (.ref ts)]))
        refine own_step (fun _ k => XS.isub X2.here hx rfl (hb hby d1_94) rfl k) ?_
        show own_Fin p.tables e below _ (T2.setTop (mkF m 95 #[.val (.ref ts), .val (.long qb), .second, .val (.long qe), .second, .val (.int wd), .val (.int lw), .val (.int hg), .val (.long bl), .second, .val (.long kp), .second, .val (.int wi)] [(.int (wd - (1 : Int32))), (.long (((gw (hg).toNatClampNeg).toUInt64 >>> ((1 : Int32) &&& 0x3f).toInt64.toUInt64).toInt64)), (.int hg), (.ref ts)]))
        refine own_step (fun _ k => XS.lushr X2.here hx rfl (hb hby d1_95) rfl k) ?_
        show own_Fin p.tables e below _ (T2.setTop (mkF m 96 #[.val (.ref ts), .val (.long qb), .second, .val (.long qe), .second, .val (.int wd), .val (.int lw), .val (.int hg), .val (.long bl), .second, .val (.long kp), .second, .val (.int wi)] [(.long (((((gw (hg).toNatClampNeg).toUInt64 >>> ((1 : Int32) &&& 0x3f).toInt64.toUInt64).toInt64).toUInt64 >>> ((wd - (1 : Int32)) &&& 0x3f).toInt64.toUInt64).toInt64)), (.int hg), (.ref ts)]))
        obtain ⟨cl12, Ar12, S12, H12⟩ := id lg
        have hin12 : ¬ (hg < 0 ∨ cl12.slots.size ≤ (hg).toNatClampNeg) := own_in S12 ⟨by omega, by omega⟩
        obtain ⟨T12, h12, X12, e12, W12, st12⟩ := stJ X2 hx hZ e2 Ar12 (j := hg) hin12 (g := (mkF m 96 #[.val (.ref ts), .val (.long qb), .second, .val (.long qe), .second, .val (.int wd), .val (.int lw), .val (.int hg), .val (.long bl), .second, .val (.long kp), .second, .val (.int wi)] [(.long (((((gw (hg).toNatClampNeg).toUInt64 >>> ((1 : Int32) &&& 0x3f).toInt64.toUInt64).toInt64).toUInt64 >>> ((wd - (1 : Int32)) &&& 0x3f).toInt64.toUInt64).toInt64)), (.int hg), (.ref ts)])) rfl rfl (hb hby d1_96)
        refine own_step st12 ?_
        have f13 := Nat.le_trans lz (Keep.of_wr W12).1
        have f14 := lk.wr W12 (Or.inl (List.mem_of_getElem? (i := 0) rfl))
        have f15 : own_Arf Z h12 ts .long 3 (fun i => .long ((own_upd gw (hg).toNatClampNeg (((((gw (hg).toNatClampNeg).toUInt64 >>> ((1 : Int32) &&& 0x3f).toInt64.toUInt64).toInt64).toUInt64 >>> ((wd - (1 : Int32)) &&& 0x3f).toInt64.toUInt64).toInt64)) i)) := own_Arf.setJ lg W12
        have N16 := Fr.snoc X12 N2 g_ts
        show own_Fin p.tables e below _ (T12.setTop (mkF m 97 #[.val (.ref ts), .val (.long qb), .second, .val (.long qe), .second, .val (.int wd), .val (.int lw), .val (.int hg), .val (.long bl), .second, .val (.long kp), .second, .val (.int wi)] []))
        refine own_step (fun _ k => XS.aloadN X12.here hx rfl (hb hby d1_97) rfl rfl k) ?_
        show own_Fin p.tables e below _ (T12.setTop (mkF m 98 #[.val (.ref ts), .val (.long qb), .second, .val (.long qe), .second, .val (.int wd), .val (.int lw), .val (.int hg), .val (.long bl), .second, .val (.long kp), .second, .val (.int wi)] [(.ref ts)]))
        refine own_step (fun _ k => XS.iload X12.here hx rfl (hb hby d1_98) rfl k) ?_
        show own_Fin p.tables e below _ (T12.setTop (mkF m 100 #[.val (.ref ts), .val (.long qb), .second, .val (.long qe), .second, .val (.int wd), .val (.int lw), .val (.int hg), .val (.long bl), .second, .val (.long kp), .second, .val (.int wi)] [(.int lw), (.ref ts)]))
        refine own_step (fun _ k => XS.lload X12.here hx rfl (hb hby d1_100) rfl k) ?_
        show own_Fin p.tables e below _ (T12.setTop (mkF m 102 #[.val (.ref ts), .val (.long qb), .second, .val (.long qe), .second, .val (.int wd), .val (.int lw), .val (.int hg), .val (.long bl), .second, .val (.long kp), .second, .val (.int wi)] [(.long kp), (.int lw), (.ref ts)]))
        refine own_step (fun _ k => XS.aloadN X12.here hx rfl (hb hby d1_102) rfl rfl k) ?_
        show own_Fin p.tables e below _ (T12.setTop (mkF m 103 #[.val (.ref ts), .val (.long qb), .second, .val (.long qe), .second, .val (.int wd), .val (.int lw), .val (.int hg), .val (.long bl), .second, .val (.long kp), .second, .val (.int wi)] [(.ref ts), (.long kp), (.int lw), (.ref ts)]))
        refine own_step (fun _ k => XS.iload X12.here hx rfl (hb hby d1_103) rfl k) ?_
        show own_Fin p.tables e below _ (T12.setTop (mkF m 105 #[.val (.ref ts), .val (.long qb), .second, .val (.long qe), .second, .val (.int wd), .val (.int lw), .val (.int hg), .val (.long bl), .second, .val (.long kp), .second, .val (.int wi)] [(.int lw), (.ref ts), (.long kp), (.int lw), (.ref ts)]))
        obtain ⟨cl17, Ar17, S17, H17⟩ := id f15
        have hin17 : ¬ (lw < 0 ∨ cl17.slots.size ≤ (lw).toNatClampNeg) := own_in S17 ⟨by omega, by omega⟩
        refine own_step (X12.laload hx (j := lw) (v := (.long ((own_upd gw (hg).toNatClampNeg (((((gw (hg).toNatClampNeg).toUInt64 >>> ((1 : Int32) &&& 0x3f).toInt64.toUInt64).toInt64).toUInt64 >>> ((wd - (1 : Int32)) &&& 0x3f).toInt64.toUInt64).toInt64)) (lw).toNatClampNeg))) (by first | exact Ar17.1 | (rw [e12]; exact Ar17.1)) (State.isArrayOf_alike hZ.alike Ar17.2.1) Ar17.2.2 hin17 (H17 _ (own_in2 ⟨by omega, by omega⟩)) (g := (mkF m 105 #[.val (.ref ts), .val (.long qb), .second, .val (.long qe), .second, .val (.int wd), .val (.int lw), .val (.int hg), .val (.long bl), .second, .val (.long kp), .second, .val (.int wi)] [(.int lw), (.ref ts), (.long kp), (.int lw), (.ref ts)])) rfl rfl (hb hby d1_105)) ?_
        show own_Fin p.tables e below _ (T12.setTop (mkF m 106 #[.val (.ref ts), .val (.long qb), .second, .val (.long qe), .second, .val (.int wd), .val (.int lw), .val (.int hg), .val (.long bl), .second, .val (.long kp), .second, .val (.int wi)] [(.long ((own_upd gw (hg).toNatClampNeg (((((gw (hg).toNatClampNeg).toUInt64 >>> ((1 : Int32) &&& 0x3f).toInt64.toUInt64).toInt64).toUInt64 >>> ((wd - (1 : Int32)) &&& 0x3f).toInt64.toUInt64).toInt64)) (lw).toNatClampNeg)), (.long kp), (.int lw), (.ref ts)]))
        refine own_step (fun _ k => XS.lload X12.here hx rfl (hb hby d1_106) rfl k) ?_
        show own_Fin p.tables e below _ (T12.setTop (mkF m 108 #[.val (.ref ts), .val (.long qb), .second, .val (.long qe), .second, .val (.int wd), .val (.int lw), .val (.int hg), .val (.long bl), .second, .val (.long kp), .second, .val (.int wi)] [(.long bl), (.long ((own_upd gw (hg).toNatClampNeg (((((gw (hg).toNatClampNeg).toUInt64 >>> ((1 : Int32) &&& 0x3f).toInt64.toUInt64).toInt64).toUInt64 >>> ((wd - (1 : Int32)) &&& 0x3f).toInt64.toUInt64).toInt64)) (lw).toNatClampNeg)), (.long kp), (.int lw), (.ref ts)]))
        refine own_step (X12.ldc2Long hx hown (mvT hZ (hw _ (List.mem_of_getElem? (i := 7) rfl))) (g := (mkF m 108 #[.val (.ref ts), .val (.long qb), .second, .val (.long qe), .second, .val (.int wd), .val (.int lw), .val (.int hg), .val (.long bl), .second, .val (.long kp), .second, .val (.int wi)] [(.long bl), (.long ((own_upd gw (hg).toNatClampNeg (((((gw (hg).toNatClampNeg).toUInt64 >>> ((1 : Int32) &&& 0x3f).toInt64.toUInt64).toInt64).toUInt64 >>> ((wd - (1 : Int32)) &&& 0x3f).toInt64.toUInt64).toInt64)) (lw).toNatClampNeg)), (.long kp), (.int lw), (.ref ts)])) rfl (hb hby d1_108)) ?_
        show own_Fin p.tables e below _ (T12.setTop (mkF m 111 #[.val (.ref ts), .val (.long qb), .second, .val (.long qe), .second, .val (.int wd), .val (.int lw), .val (.int hg), .val (.long bl), .second, .val (.long kp), .second, .val (.int wi)] [(.long (-1 : Int64)), (.long bl), (.long ((own_upd gw (hg).toNatClampNeg (((((gw (hg).toNatClampNeg).toUInt64 >>> ((1 : Int32) &&& 0x3f).toInt64.toUInt64).toInt64).toUInt64 >>> ((wd - (1 : Int32)) &&& 0x3f).toInt64.toUInt64).toInt64)) (lw).toNatClampNeg)), (.long kp), (.int lw), (.ref ts)]))
        refine own_step (fun _ k => XS.lxor X12.here hx rfl (hb hby d1_111) rfl k) ?_
        show own_Fin p.tables e below _ (T12.setTop (mkF m 112 #[.val (.ref ts), .val (.long qb), .second, .val (.long qe), .second, .val (.int wd), .val (.int lw), .val (.int hg), .val (.long bl), .second, .val (.long kp), .second, .val (.int wi)] [(.long (bl ^^^ (-1 : Int64))), (.long ((own_upd gw (hg).toNatClampNeg (((((gw (hg).toNatClampNeg).toUInt64 >>> ((1 : Int32) &&& 0x3f).toInt64.toUInt64).toInt64).toUInt64 >>> ((wd - (1 : Int32)) &&& 0x3f).toInt64.toUInt64).toInt64)) (lw).toNatClampNeg)), (.long kp), (.int lw), (.ref ts)]))
        refine own_step (fun _ k => XS.land X12.here hx rfl (hb hby d1_112) rfl k) ?_
        show own_Fin p.tables e below _ (T12.setTop (mkF m 113 #[.val (.ref ts), .val (.long qb), .second, .val (.long qe), .second, .val (.int wd), .val (.int lw), .val (.int hg), .val (.long bl), .second, .val (.long kp), .second, .val (.int wi)] [(.long (((own_upd gw (hg).toNatClampNeg (((((gw (hg).toNatClampNeg).toUInt64 >>> ((1 : Int32) &&& 0x3f).toInt64.toUInt64).toInt64).toUInt64 >>> ((wd - (1 : Int32)) &&& 0x3f).toInt64.toUInt64).toInt64)) (lw).toNatClampNeg) &&& (bl ^^^ (-1 : Int64)))), (.long kp), (.int lw), (.ref ts)]))
        refine own_step (fun _ k => XS.lor X12.here hx rfl (hb hby d1_113) rfl k) ?_
        show own_Fin p.tables e below _ (T12.setTop (mkF m 114 #[.val (.ref ts), .val (.long qb), .second, .val (.long qe), .second, .val (.int wd), .val (.int lw), .val (.int hg), .val (.long bl), .second, .val (.long kp), .second, .val (.int wi)] [(.long (kp ||| (((own_upd gw (hg).toNatClampNeg (((((gw (hg).toNatClampNeg).toUInt64 >>> ((1 : Int32) &&& 0x3f).toInt64.toUInt64).toInt64).toUInt64 >>> ((wd - (1 : Int32)) &&& 0x3f).toInt64.toUInt64).toInt64)) (lw).toNatClampNeg) &&& (bl ^^^ (-1 : Int64))))), (.int lw), (.ref ts)]))
        obtain ⟨cl18, Ar18, S18, H18⟩ := id f15
        have hin18 : ¬ (lw < 0 ∨ cl18.slots.size ≤ (lw).toNatClampNeg) := own_in S18 ⟨by omega, by omega⟩
        obtain ⟨T18, h18, X18, e18, W18, st18⟩ := stJ X12 hx hZ e12 Ar18 (j := lw) hin18 (g := (mkF m 114 #[.val (.ref ts), .val (.long qb), .second, .val (.long qe), .second, .val (.int wd), .val (.int lw), .val (.int hg), .val (.long bl), .second, .val (.long kp), .second, .val (.int wi)] [(.long (kp ||| (((own_upd gw (hg).toNatClampNeg (((((gw (hg).toNatClampNeg).toUInt64 >>> ((1 : Int32) &&& 0x3f).toInt64.toUInt64).toInt64).toUInt64 >>> ((wd - (1 : Int32)) &&& 0x3f).toInt64.toUInt64).toInt64)) (lw).toNatClampNeg) &&& (bl ^^^ (-1 : Int64))))), (.int lw), (.ref ts)])) rfl rfl (hb hby d1_114)
        refine own_step st18 ?_
        have f19 := Nat.le_trans f13 (Keep.of_wr W18).1
        have f20 := f14.wr W18 (Or.inl (List.mem_of_getElem? (i := 0) rfl))
        have f21 : own_Arf Z h18 ts .long 3 (fun i => .long ((own_upd (own_upd gw (hg).toNatClampNeg (((((gw (hg).toNatClampNeg).toUInt64 >>> ((1 : Int32) &&& 0x3f).toInt64.toUInt64).toInt64).toUInt64 >>> ((wd - (1 : Int32)) &&& 0x3f).toInt64.toUInt64).toInt64)) (lw).toNatClampNeg (kp ||| (((own_upd gw (hg).toNatClampNeg (((((gw (hg).toNatClampNeg).toUInt64 >>> ((1 : Int32) &&& 0x3f).toInt64.toUInt64).toInt64).toUInt64 >>> ((wd - (1 : Int32)) &&& 0x3f).toInt64.toUInt64).toInt64)) (lw).toNatClampNeg) &&& (bl ^^^ (-1 : Int64))))) i)) := own_Arf.setJ f15 W18
        have N22 := Fr.snoc X18 N16 g_ts
        show own_Fin p.tables e below _ (T18.setTop (mkF m 115 #[.val (.ref ts), .val (.long qb), .second, .val (.long qe), .second, .val (.int wd), .val (.int lw), .val (.int hg), .val (.long bl), .second, .val (.long kp), .second, .val (.int wi)] []))
        obtain ⟨fs23, hr23, hrun23, hended23, hW23, hsame23⟩ := X18.leave (v := none) (fun _ => rfl)
        refine own_ret (X18.returnOut hx Bd.returns (hb hby d1_115) hr23) hrun23 hended23 ?_
        refine ⟨_, _, rfl, ?_, ⟨_, rfl⟩, hW23, hsame23.mono (by decide) (by decide)⟩
        show Q1 Z ts qb qe wd g bN eN wN h0 n0 _ T18.heap _
        rw [e18]
        have hee : wi = hg := Int32.toInt_inj.mp (by have := mt Int32.lt_iff_toInt_lt.mpr hc3; omega)
        subst hee
        exact ⟨rfl, N22, f20, _, f21, own_rmv hwd hN1 hN2 hBE hE hlw2 hhg2 hrr2 hbl hkp i3⟩
  exact loop2 _ s₁ _ h0 lw g X0 e0 N0 Z0 K0 Ga0 (Int.le_refl _) (by omega) (by intro i; rw [if_neg (by omega)]) rfl
theorem ef_0 (m : MethodId) (x0 : Int64) (x1 : Int64) (x2 : Int64) (x3 : Int32) (x4 : Int32) (x5 : Int32) : entryFrame m #[(.long x0), (.long x1), (.long x2), (.int x3), (.int x4), (.int x5)] maxLocals = mkF m 0 #[.val (.long x0), .second, .val (.long x1), .second, .val (.long x2), .second, .val (.int x3), .val (.int x4), .val (.int x5), .unset, .unset, .unset, .unset, .unset, .unset, .unset, .unset, .unset, .unset] [] := by first | (simp [entryFrame, mkF, argsToLocals, Value.category, maxLocals]; done) | rfl
def Q0 (Z : State) (q0 : Int64) (q1 : Int64) (q2 : Int64) (v3 : Int32) (v4 : Int32) (v5 : Int32) (h0 : Heap) (n0 : Nat) (v : Option Value) (h : Heap) (L : List Loc) : Prop := v = some (.int 1) ∧ Fr n0 L
abbrev P0 (Z : State) (q0 : Int64) (q1 : Int64) (q2 : Int64) (v3 : Int32) (v4 : Int32) (v5 : Int32) (h0 : Heap) (n0 : Nat) (s : State) : Outcome → State → Prop := fun o U' => ∃ v L, o = .returned v ∧ Q0 Z q0 q1 q2 v3 v4 v5 h0 n0 v U'.heap L ∧ FrameEnd s o U' L room_1.cells room_1.slots
theorem pd_0 : parseMethodDescriptor "([JJJI)V" = some ⟨[(.array .long), .long, .long, .int], none⟩ := by decide +kernel
theorem pd_1 : parseMethodDescriptor "(JJJI)I" = some ⟨[.long, .long, .long, .int], some .int⟩ := by decide +kernel
set_option maxRecDepth 65536 in
set_option maxHeartbeats 40000000 in
theorem rm0 (l : Launch) (Z : State) (a0 : Array Value) (hw : ∀ d ∈ tables_1, d.before a0 Z = true) (ws : List Jvm.Cond) (q0 : Int64) (q1 : Int64) (q2 : Int64) (v3 : Int32) (v4 : Int32) (v5 : Int32) (h0 : Heap) (n0 : Nat) (Z0 : n0 ≤ h0.size) :
    MetFree l x (head1 (Jvm.Cond.code x code maxLocals ret :: ws) room_1) (fun a U => a = #[(.long q0), (.long q1), (.long q2), (.int v3), (.int v4), (.int v5)] ∧ Z.Warmed39 U.vm ∧ U.heap = h0) (fun _ _ _ _ _ => True) (fun _ U o U' => ∃ v L, o = .returned v ∧ Q0 Z q0 q1 q2 v3 v4 v5 h0 n0 v U'.heap L ∧ FrameEnd U o U' L room_1.cells room_1.slots) := by
  refine MetFree.of_bodySF (plainFor_of_name pn_0) hisR ?_
  intro p e s m args below meth c s₁ Bd hml0 hP hK
  obtain ⟨rfl, hZ, hh⟩ := hP
  have hx := Bd.exec
  have hby := Bd.bytes
  have hml : c.maxLocals = 19 := hml0
  have hown : s.vm.findClass "com/example/streamgist/streamgist/packed/PackedBitsRemovePinLaw" = some m.cls := findClass_of_methodNamed Bd.named
  have hnm := (name_of_methodNamed Bd.named Bd.method).1
  have X0 : Stand p l e room_1 s m #[(.long q0), (.long q1), (.long q2), (.int v3), (.int v4), (.int v5)] below meth c s₁ [] 0 0 := Stand.of_body Bd
  have e0 : s₁.heap = h0 := by rw [← hh, Bd.state]; rfl
  have N0 := Fr.nil n0
  refine own_enter (P := (P0 Z q0 q1 q2 v3 v4 v5 h0 n0 s)) (ef_0 m q0 q1 q2 v3 v4 v5) ?_
  show own_Fin p.tables e below _ (s₁.setTop (mkF m 0 #[.val (.long q0), .second, .val (.long q1), .second, .val (.long q2), .second, .val (.int v3), .val (.int v4), .val (.int v5), .unset, .unset, .unset, .unset, .unset, .unset, .unset, .unset, .unset, .unset] []))
  refine own_step (fun _ k => XS.iload X0.here hx rfl (hb hby at_0) rfl k) ?_
  show own_Fin p.tables e below _ (s₁.setTop (mkF m 2 #[.val (.long q0), .second, .val (.long q1), .second, .val (.long q2), .second, .val (.int v3), .val (.int v4), .val (.int v5), .unset, .unset, .unset, .unset, .unset, .unset, .unset, .unset, .unset, .unset] [(.int v3)]))
  refine own_step (fun _ k => XS.bipush X0.here hx rfl (hb hby at_2) k) ?_
  show own_Fin p.tables e below _ (s₁.setTop (mkF m 4 #[.val (.long q0), .second, .val (.long q1), .second, .val (.long q2), .second, .val (.int v3), .val (.int v4), .val (.int v5), .unset, .unset, .unset, .unset, .unset, .unset, .unset, .unset, .unset, .unset] [(.int (63 : Int32)), (.int v3)]))
  refine own_step (fun _ k => XS.iand X0.here hx rfl (hb hby at_4) rfl k) ?_
  show own_Fin p.tables e below _ (s₁.setTop (mkF m 5 #[.val (.long q0), .second, .val (.long q1), .second, .val (.long q2), .second, .val (.int v3), .val (.int v4), .val (.int v5), .unset, .unset, .unset, .unset, .unset, .unset, .unset, .unset, .unset, .unset] [(.int (v3 &&& (63 : Int32)))]))
  refine own_step (fun _ k => XS.iconst X0.here hx rfl (hb hby at_5) k) ?_
  show own_Fin p.tables e below _ (s₁.setTop (mkF m 6 #[.val (.long q0), .second, .val (.long q1), .second, .val (.long q2), .second, .val (.int v3), .val (.int v4), .val (.int v5), .unset, .unset, .unset, .unset, .unset, .unset, .unset, .unset, .unset, .unset] [(.int (1 : Int32)), (.int (v3 &&& (63 : Int32)))]))
  refine own_step (fun _ k => XS.iadd X0.here hx rfl (hb hby at_6) rfl k) ?_
  show own_Fin p.tables e below _ (s₁.setTop (mkF m 7 #[.val (.long q0), .second, .val (.long q1), .second, .val (.long q2), .second, .val (.int v3), .val (.int v4), .val (.int v5), .unset, .unset, .unset, .unset, .unset, .unset, .unset, .unset, .unset, .unset] [(.int ((v3 &&& (63 : Int32)) + (1 : Int32)))]))
  refine own_step (fun _ k => XS.istore X0.here hx rfl (hb hby at_7) rfl (l' := #[.val (.long q0), .second, .val (.long q1), .second, .val (.long q2), .second, .val (.int v3), .val (.int v4), .val (.int v5), .val (.int ((v3 &&& (63 : Int32)) + (1 : Int32))), .unset, .unset, .unset, .unset, .unset, .unset, .unset, .unset, .unset]) rfl k) ?_
  show own_Fin p.tables e below _ (s₁.setTop (mkF m 9 #[.val (.long q0), .second, .val (.long q1), .second, .val (.long q2), .second, .val (.int v3), .val (.int v4), .val (.int v5), .val (.int ((v3 &&& (63 : Int32)) + (1 : Int32))), .unset, .unset, .unset, .unset, .unset, .unset, .unset, .unset, .unset] []))
  obtain ⟨wd, hwd⟩ : ∃ z, z = ((v3 &&& (63 : Int32)) + (1 : Int32)) := ⟨_, rfl⟩
  rw [← hwd]
  show own_Fin p.tables e below _ (s₁.setTop (mkF m 9 #[.val (.long q0), .second, .val (.long q1), .second, .val (.long q2), .second, .val (.int v3), .val (.int v4), .val (.int v5), .val (.int wd), .unset, .unset, .unset, .unset, .unset, .unset, .unset, .unset, .unset] []))
  obtain ⟨hw1, hw2⟩ := own_wd hwd
  refine own_step (fun _ k => XS.iload X0.here hx rfl (hb hby at_9) rfl k) ?_
  show own_Fin p.tables e below _ (s₁.setTop (mkF m 11 #[.val (.long q0), .second, .val (.long q1), .second, .val (.long q2), .second, .val (.int v3), .val (.int v4), .val (.int v5), .val (.int wd), .unset, .unset, .unset, .unset, .unset, .unset, .unset, .unset, .unset] [(.int v3)]))
  refine own_step (fun _ k => XS.bipush X0.here hx rfl (hb hby at_11) k) ?_
  show own_Fin p.tables e below _ (s₁.setTop (mkF m 13 #[.val (.long q0), .second, .val (.long q1), .second, .val (.long q2), .second, .val (.int v3), .val (.int v4), .val (.int v5), .val (.int wd), .unset, .unset, .unset, .unset, .unset, .unset, .unset, .unset, .unset] [(.int (6 : Int32)), (.int v3)]))
  refine own_step (fun _ k => XS.iushr X0.here hx rfl (hb hby at_13) rfl k) ?_
  show own_Fin p.tables e below _ (s₁.setTop (mkF m 14 #[.val (.long q0), .second, .val (.long q1), .second, .val (.long q2), .second, .val (.int v3), .val (.int v4), .val (.int v5), .val (.int wd), .unset, .unset, .unset, .unset, .unset, .unset, .unset, .unset, .unset] [(.int ((v3.toUInt32 >>> ((6 : Int32) &&& 31).toUInt32).toInt32))]))
  refine own_step (fun _ k => XS.sipush X0.here hx rfl (hb hby at_14) k) ?_
  show own_Fin p.tables e below _ (s₁.setTop (mkF m 17 #[.val (.long q0), .second, .val (.long q1), .second, .val (.long q2), .second, .val (.int v3), .val (.int v4), .val (.int v5), .val (.int wd), .unset, .unset, .unset, .unset, .unset, .unset, .unset, .unset, .unset] [(.int (193 : Int32)), (.int ((v3.toUInt32 >>> ((6 : Int32) &&& 31).toUInt32).toInt32))]))
  refine own_step (fun _ k => XS.iload X0.here hx rfl (hb hby at_17) rfl k) ?_
  show own_Fin p.tables e below _ (s₁.setTop (mkF m 19 #[.val (.long q0), .second, .val (.long q1), .second, .val (.long q2), .second, .val (.int v3), .val (.int v4), .val (.int v5), .val (.int wd), .unset, .unset, .unset, .unset, .unset, .unset, .unset, .unset, .unset] [(.int wd), (.int (193 : Int32)), (.int ((v3.toUInt32 >>> ((6 : Int32) &&& 31).toUInt32).toInt32))]))
  refine own_step (fun _ k => XS.isub X0.here hx rfl (hb hby at_19) rfl k) ?_
  show own_Fin p.tables e below _ (s₁.setTop (mkF m 20 #[.val (.long q0), .second, .val (.long q1), .second, .val (.long q2), .second, .val (.int v3), .val (.int v4), .val (.int v5), .val (.int wd), .unset, .unset, .unset, .unset, .unset, .unset, .unset, .unset, .unset] [(.int ((193 : Int32) - wd)), (.int ((v3.toUInt32 >>> ((6 : Int32) &&& 31).toUInt32).toInt32))]))
  have hd20 : ((193 : Int32) - wd).toInt = 193 - wd.toInt := own_subr (by decide) rfl (by omega) (by omega) (by omega) (by omega)
  refine own_step (fun _ k => XS.irem X0.here hx rfl (hb hby at_20) rfl (own_ne0 (by rw [hd20]; omega)) k) ?_
  show own_Fin p.tables e below _ (s₁.setTop (mkF m 21 #[.val (.long q0), .second, .val (.long q1), .second, .val (.long q2), .second, .val (.int v3), .val (.int v4), .val (.int v5), .val (.int wd), .unset, .unset, .unset, .unset, .unset, .unset, .unset, .unset, .unset] [(.int (((v3.toUInt32 >>> ((6 : Int32) &&& 31).toUInt32).toInt32) - (((v3.toUInt32 >>> ((6 : Int32) &&& 31).toUInt32).toInt32) / ((193 : Int32) - wd)) * ((193 : Int32) - wd)))]))
  refine own_step (fun _ k => XS.istore X0.here hx rfl (hb hby at_21) rfl (l' := #[.val (.long q0), .second, .val (.long q1), .second, .val (.long q2), .second, .val (.int v3), .val (.int v4), .val (.int v5), .val (.int wd), .val (.int (((v3.toUInt32 >>> ((6 : Int32) &&& 31).toUInt32).toInt32) - (((v3.toUInt32 >>> ((6 : Int32) &&& 31).toUInt32).toInt32) / ((193 : Int32) - wd)) * ((193 : Int32) - wd))), .unset, .unset, .unset, .unset, .unset, .unset, .unset, .unset]) rfl k) ?_
  show own_Fin p.tables e below _ (s₁.setTop (mkF m 23 #[.val (.long q0), .second, .val (.long q1), .second, .val (.long q2), .second, .val (.int v3), .val (.int v4), .val (.int v5), .val (.int wd), .val (.int (((v3.toUInt32 >>> ((6 : Int32) &&& 31).toUInt32).toInt32) - (((v3.toUInt32 >>> ((6 : Int32) &&& 31).toUInt32).toInt32) / ((193 : Int32) - wd)) * ((193 : Int32) - wd))), .unset, .unset, .unset, .unset, .unset, .unset, .unset, .unset] []))
  obtain ⟨bt, hbt⟩ : ∃ z, z = (((v3.toUInt32 >>> ((6 : Int32) &&& 31).toUInt32).toInt32) - (((v3.toUInt32 >>> ((6 : Int32) &&& 31).toUInt32).toInt32) / ((193 : Int32) - wd)) * ((193 : Int32) - wd)) := ⟨_, rfl⟩
  rw [← hbt]
  show own_Fin p.tables e below _ (s₁.setTop (mkF m 23 #[.val (.long q0), .second, .val (.long q1), .second, .val (.long q2), .second, .val (.int v3), .val (.int v4), .val (.int v5), .val (.int wd), .val (.int bt), .unset, .unset, .unset, .unset, .unset, .unset, .unset, .unset] []))
  obtain ⟨hb1, hb2⟩ : 0 ≤ bt.toInt ∧ bt.toInt < 193 - wd.toInt := by have := own_rem (x := ((v3.toUInt32 >>> ((6 : Int32) &&& 31).toUInt32).toInt32)) (y := (193 : Int32) - wd) (own_ush (k := 6) (by decide) (by decide)) (by rw [hd20]; omega); rw [hbt, ← hd20]; exact this
  refine own_step (fun _ k => XS.iload X0.here hx rfl (hb hby at_23) rfl k) ?_
  show own_Fin p.tables e below _ (s₁.setTop (mkF m 25 #[.val (.long q0), .second, .val (.long q1), .second, .val (.long q2), .second, .val (.int v3), .val (.int v4), .val (.int v5), .val (.int wd), .val (.int bt), .unset, .unset, .unset, .unset, .unset, .unset, .unset, .unset] [(.int bt)]))
  refine own_step (fun _ k => XS.iload X0.here hx rfl (hb hby at_25) rfl k) ?_
  show own_Fin p.tables e below _ (s₁.setTop (mkF m 27 #[.val (.long q0), .second, .val (.long q1), .second, .val (.long q2), .second, .val (.int v3), .val (.int v4), .val (.int v5), .val (.int wd), .val (.int bt), .unset, .unset, .unset, .unset, .unset, .unset, .unset, .unset] [(.int wd), (.int bt)]))
  refine own_step (fun _ k => XS.iadd X0.here hx rfl (hb hby at_27) rfl k) ?_
  show own_Fin p.tables e below _ (s₁.setTop (mkF m 28 #[.val (.long q0), .second, .val (.long q1), .second, .val (.long q2), .second, .val (.int v3), .val (.int v4), .val (.int v5), .val (.int wd), .val (.int bt), .unset, .unset, .unset, .unset, .unset, .unset, .unset, .unset] [(.int (bt + wd))]))
  refine own_step (fun _ k => XS.iload X0.here hx rfl (hb hby at_28) rfl k) ?_
  show own_Fin p.tables e below _ (s₁.setTop (mkF m 30 #[.val (.long q0), .second, .val (.long q1), .second, .val (.long q2), .second, .val (.int v3), .val (.int v4), .val (.int v5), .val (.int wd), .val (.int bt), .unset, .unset, .unset, .unset, .unset, .unset, .unset, .unset] [(.int v4), (.int (bt + wd))]))
  refine own_step (X0.ldcInt hx hown (mvT hZ (hw _ (List.mem_of_getElem? (i := 0) rfl))) (g := (mkF m 30 #[.val (.long q0), .second, .val (.long q1), .second, .val (.long q2), .second, .val (.int v3), .val (.int v4), .val (.int v5), .val (.int wd), .val (.int bt), .unset, .unset, .unset, .unset, .unset, .unset, .unset, .unset] [(.int v4), (.int (bt + wd))])) rfl (hb hby at_30)) ?_
  show own_Fin p.tables e below _ (s₁.setTop (mkF m 32 #[.val (.long q0), .second, .val (.long q1), .second, .val (.long q2), .second, .val (.int v3), .val (.int v4), .val (.int v5), .val (.int wd), .val (.int bt), .unset, .unset, .unset, .unset, .unset, .unset, .unset, .unset] [(.int (2147483647 : Int32)), (.int v4), (.int (bt + wd))]))
  refine own_step (fun _ k => XS.iand X0.here hx rfl (hb hby at_32) rfl k) ?_
  show own_Fin p.tables e below _ (s₁.setTop (mkF m 33 #[.val (.long q0), .second, .val (.long q1), .second, .val (.long q2), .second, .val (.int v3), .val (.int v4), .val (.int v5), .val (.int wd), .val (.int bt), .unset, .unset, .unset, .unset, .unset, .unset, .unset, .unset] [(.int (v4 &&& (2147483647 : Int32))), (.int (bt + wd))]))
  refine own_step (fun _ k => XS.sipush X0.here hx rfl (hb hby at_33) k) ?_
  show own_Fin p.tables e below _ (s₁.setTop (mkF m 36 #[.val (.long q0), .second, .val (.long q1), .second, .val (.long q2), .second, .val (.int v3), .val (.int v4), .val (.int v5), .val (.int wd), .val (.int bt), .unset, .unset, .unset, .unset, .unset, .unset, .unset, .unset] [(.int (193 : Int32)), (.int (v4 &&& (2147483647 : Int32))), (.int (bt + wd))]))
  refine own_step (fun _ k => XS.iload X0.here hx rfl (hb hby at_36) rfl k) ?_
  show own_Fin p.tables e below _ (s₁.setTop (mkF m 38 #[.val (.long q0), .second, .val (.long q1), .second, .val (.long q2), .second, .val (.int v3), .val (.int v4), .val (.int v5), .val (.int wd), .val (.int bt), .unset, .unset, .unset, .unset, .unset, .unset, .unset, .unset] [(.int bt), (.int (193 : Int32)), (.int (v4 &&& (2147483647 : Int32))), (.int (bt + wd))]))
  refine own_step (fun _ k => XS.isub X0.here hx rfl (hb hby at_38) rfl k) ?_
  show own_Fin p.tables e below _ (s₁.setTop (mkF m 39 #[.val (.long q0), .second, .val (.long q1), .second, .val (.long q2), .second, .val (.int v3), .val (.int v4), .val (.int v5), .val (.int wd), .val (.int bt), .unset, .unset, .unset, .unset, .unset, .unset, .unset, .unset] [(.int ((193 : Int32) - bt)), (.int (v4 &&& (2147483647 : Int32))), (.int (bt + wd))]))
  refine own_step (fun _ k => XS.iload X0.here hx rfl (hb hby at_39) rfl k) ?_
  show own_Fin p.tables e below _ (s₁.setTop (mkF m 41 #[.val (.long q0), .second, .val (.long q1), .second, .val (.long q2), .second, .val (.int v3), .val (.int v4), .val (.int v5), .val (.int wd), .val (.int bt), .unset, .unset, .unset, .unset, .unset, .unset, .unset, .unset] [(.int wd), (.int ((193 : Int32) - bt)), (.int (v4 &&& (2147483647 : Int32))), (.int (bt + wd))]))
  refine own_step (fun _ k => XS.isub X0.here hx rfl (hb hby at_41) rfl k) ?_
  show own_Fin p.tables e below _ (s₁.setTop (mkF m 42 #[.val (.long q0), .second, .val (.long q1), .second, .val (.long q2), .second, .val (.int v3), .val (.int v4), .val (.int v5), .val (.int wd), .val (.int bt), .unset, .unset, .unset, .unset, .unset, .unset, .unset, .unset] [(.int (((193 : Int32) - bt) - wd)), (.int (v4 &&& (2147483647 : Int32))), (.int (bt + wd))]))
  have hd42 : (((193 : Int32) - bt) - wd).toInt = 193 - bt.toInt - wd.toInt := own_subr (own_subr (by decide) rfl (by omega) (by omega) (by omega) (by omega)) rfl (by omega) (by omega) (by omega) (by omega)
  refine own_step (fun _ k => XS.irem X0.here hx rfl (hb hby at_42) rfl (own_ne0 (by rw [hd42]; omega)) k) ?_
  show own_Fin p.tables e below _ (s₁.setTop (mkF m 43 #[.val (.long q0), .second, .val (.long q1), .second, .val (.long q2), .second, .val (.int v3), .val (.int v4), .val (.int v5), .val (.int wd), .val (.int bt), .unset, .unset, .unset, .unset, .unset, .unset, .unset, .unset] [(.int ((v4 &&& (2147483647 : Int32)) - ((v4 &&& (2147483647 : Int32)) / (((193 : Int32) - bt) - wd)) * (((193 : Int32) - bt) - wd))), (.int (bt + wd))]))
  refine own_step (fun _ k => XS.iadd X0.here hx rfl (hb hby at_43) rfl k) ?_
  show own_Fin p.tables e below _ (s₁.setTop (mkF m 44 #[.val (.long q0), .second, .val (.long q1), .second, .val (.long q2), .second, .val (.int v3), .val (.int v4), .val (.int v5), .val (.int wd), .val (.int bt), .unset, .unset, .unset, .unset, .unset, .unset, .unset, .unset] [(.int ((bt + wd) + ((v4 &&& (2147483647 : Int32)) - ((v4 &&& (2147483647 : Int32)) / (((193 : Int32) - bt) - wd)) * (((193 : Int32) - bt) - wd))))]))
  refine own_step (fun _ k => XS.istore X0.here hx rfl (hb hby at_44) rfl (l' := #[.val (.long q0), .second, .val (.long q1), .second, .val (.long q2), .second, .val (.int v3), .val (.int v4), .val (.int v5), .val (.int wd), .val (.int bt), .val (.int ((bt + wd) + ((v4 &&& (2147483647 : Int32)) - ((v4 &&& (2147483647 : Int32)) / (((193 : Int32) - bt) - wd)) * (((193 : Int32) - bt) - wd)))), .unset, .unset, .unset, .unset, .unset, .unset, .unset]) rfl k) ?_
  show own_Fin p.tables e below _ (s₁.setTop (mkF m 46 #[.val (.long q0), .second, .val (.long q1), .second, .val (.long q2), .second, .val (.int v3), .val (.int v4), .val (.int v5), .val (.int wd), .val (.int bt), .val (.int ((bt + wd) + ((v4 &&& (2147483647 : Int32)) - ((v4 &&& (2147483647 : Int32)) / (((193 : Int32) - bt) - wd)) * (((193 : Int32) - bt) - wd)))), .unset, .unset, .unset, .unset, .unset, .unset, .unset] []))
  obtain ⟨en, hen⟩ : ∃ z, z = ((bt + wd) + ((v4 &&& (2147483647 : Int32)) - ((v4 &&& (2147483647 : Int32)) / (((193 : Int32) - bt) - wd)) * (((193 : Int32) - bt) - wd))) := ⟨_, rfl⟩
  rw [← hen]
  show own_Fin p.tables e below _ (s₁.setTop (mkF m 46 #[.val (.long q0), .second, .val (.long q1), .second, .val (.long q2), .second, .val (.int v3), .val (.int v4), .val (.int v5), .val (.int wd), .val (.int bt), .val (.int en), .unset, .unset, .unset, .unset, .unset, .unset, .unset] []))
  obtain ⟨hr1, hr2⟩ := own_rem (x := v4 &&& (2147483647 : Int32)) (y := ((193 : Int32) - bt) - wd) (own_pos31 v4) (by rw [hd42]; omega)
  have he0 : en.toInt = bt.toInt + wd.toInt + ((v4 &&& (2147483647 : Int32)) - ((v4 &&& (2147483647 : Int32)) / (((193 : Int32) - bt) - wd)) * (((193 : Int32) - bt) - wd)).toInt := by rw [hen]; exact own_addr (own_addr rfl rfl (by omega) (by omega) (by omega) (by omega)) rfl (by omega) (by omega) hr1 (by omega)
  have he1 : bt.toInt + wd.toInt ≤ en.toInt := by omega
  have he2 : en.toInt ≤ 192 := by omega
  clear he0 hr1 hr2
  refine own_step (fun _ k => XS.iload X0.here hx rfl (hb hby at_46) rfl k) ?_
  show own_Fin p.tables e below _ (s₁.setTop (mkF m 48 #[.val (.long q0), .second, .val (.long q1), .second, .val (.long q2), .second, .val (.int v3), .val (.int v4), .val (.int v5), .val (.int wd), .val (.int bt), .val (.int en), .unset, .unset, .unset, .unset, .unset, .unset, .unset] [(.int en)]))
  refine own_step (fun _ k => XS.iconst X0.here hx rfl (hb hby at_48) k) ?_
  show own_Fin p.tables e below _ (s₁.setTop (mkF m 49 #[.val (.long q0), .second, .val (.long q1), .second, .val (.long q2), .second, .val (.int v3), .val (.int v4), .val (.int v5), .val (.int wd), .val (.int bt), .val (.int en), .unset, .unset, .unset, .unset, .unset, .unset, .unset] [(.int (1 : Int32)), (.int en)]))
  refine own_step (fun _ k => XS.isub X0.here hx rfl (hb hby at_49) rfl k) ?_
  show own_Fin p.tables e below _ (s₁.setTop (mkF m 50 #[.val (.long q0), .second, .val (.long q1), .second, .val (.long q2), .second, .val (.int v3), .val (.int v4), .val (.int v5), .val (.int wd), .val (.int bt), .val (.int en), .unset, .unset, .unset, .unset, .unset, .unset, .unset] [(.int (en - (1 : Int32)))]))
  refine own_step (fun _ k => XS.bipush X0.here hx rfl (hb hby at_50) k) ?_
  show own_Fin p.tables e below _ (s₁.setTop (mkF m 52 #[.val (.long q0), .second, .val (.long q1), .second, .val (.long q2), .second, .val (.int v3), .val (.int v4), .val (.int v5), .val (.int wd), .val (.int bt), .val (.int en), .unset, .unset, .unset, .unset, .unset, .unset, .unset] [(.int (6 : Int32)), (.int (en - (1 : Int32)))]))
  refine own_step (fun _ k => XS.iushr X0.here hx rfl (hb hby at_52) rfl k) ?_
  show own_Fin p.tables e below _ (s₁.setTop (mkF m 53 #[.val (.long q0), .second, .val (.long q1), .second, .val (.long q2), .second, .val (.int v3), .val (.int v4), .val (.int v5), .val (.int wd), .val (.int bt), .val (.int en), .unset, .unset, .unset, .unset, .unset, .unset, .unset] [(.int (((en - (1 : Int32)).toUInt32 >>> ((6 : Int32) &&& 31).toUInt32).toInt32))]))
  refine own_step (fun _ k => XS.istore X0.here hx rfl (hb hby at_53) rfl (l' := #[.val (.long q0), .second, .val (.long q1), .second, .val (.long q2), .second, .val (.int v3), .val (.int v4), .val (.int v5), .val (.int wd), .val (.int bt), .val (.int en), .val (.int (((en - (1 : Int32)).toUInt32 >>> ((6 : Int32) &&& 31).toUInt32).toInt32)), .unset, .unset, .unset, .unset, .unset, .unset]) rfl k) ?_
  show own_Fin p.tables e below _ (s₁.setTop (mkF m 55 #[.val (.long q0), .second, .val (.long q1), .second, .val (.long q2), .second, .val (.int v3), .val (.int v4), .val (.int v5), .val (.int wd), .val (.int bt), .val (.int en), .val (.int (((en - (1 : Int32)).toUInt32 >>> ((6 : Int32) &&& 31).toUInt32).toInt32)), .unset, .unset, .unset, .unset, .unset, .unset] []))
  obtain ⟨hw0, hhw0⟩ : ∃ z, z = (((en - (1 : Int32)).toUInt32 >>> ((6 : Int32) &&& 31).toUInt32).toInt32) := ⟨_, rfl⟩
  rw [← hhw0]
  show own_Fin p.tables e below _ (s₁.setTop (mkF m 55 #[.val (.long q0), .second, .val (.long q1), .second, .val (.long q2), .second, .val (.int v3), .val (.int v4), .val (.int v5), .val (.int wd), .val (.int bt), .val (.int en), .val (.int hw0), .unset, .unset, .unset, .unset, .unset, .unset] []))
  have hh2 : hw0.toInt = (en.toInt - 1) / 64 := by rw [hhw0, own_u6 (by rw [own_sub1 (by omega)]; omega), own_sub1 (by omega)]
  refine own_step (fun _ k => XS.iload X0.here hx rfl (hb hby at_55) rfl k) ?_
  show own_Fin p.tables e below _ (s₁.setTop (mkF m 57 #[.val (.long q0), .second, .val (.long q1), .second, .val (.long q2), .second, .val (.int v3), .val (.int v4), .val (.int v5), .val (.int wd), .val (.int bt), .val (.int en), .val (.int hw0), .unset, .unset, .unset, .unset, .unset, .unset] [(.int en)]))
  refine own_step (fun _ k => XS.bipush X0.here hx rfl (hb hby at_57) k) ?_
  show own_Fin p.tables e below _ (s₁.setTop (mkF m 59 #[.val (.long q0), .second, .val (.long q1), .second, .val (.long q2), .second, .val (.int v3), .val (.int v4), .val (.int v5), .val (.int wd), .val (.int bt), .val (.int en), .val (.int hw0), .unset, .unset, .unset, .unset, .unset, .unset] [(.int (63 : Int32)), (.int en)]))
  refine own_step (fun _ k => XS.iand X0.here hx rfl (hb hby at_59) rfl k) ?_
  show own_Fin p.tables e below _ (s₁.setTop (mkF m 60 #[.val (.long q0), .second, .val (.long q1), .second, .val (.long q2), .second, .val (.int v3), .val (.int v4), .val (.int v5), .val (.int wd), .val (.int bt), .val (.int en), .val (.int hw0), .unset, .unset, .unset, .unset, .unset, .unset] [(.int (en &&& (63 : Int32)))]))
  refine own_step (fun _ k => XS.istore X0.here hx rfl (hb hby at_60) rfl (l' := #[.val (.long q0), .second, .val (.long q1), .second, .val (.long q2), .second, .val (.int v3), .val (.int v4), .val (.int v5), .val (.int wd), .val (.int bt), .val (.int en), .val (.int hw0), .val (.int (en &&& (63 : Int32))), .unset, .unset, .unset, .unset, .unset]) rfl k) ?_
  show own_Fin p.tables e below _ (s₁.setTop (mkF m 62 #[.val (.long q0), .second, .val (.long q1), .second, .val (.long q2), .second, .val (.int v3), .val (.int v4), .val (.int v5), .val (.int wd), .val (.int bt), .val (.int en), .val (.int hw0), .val (.int (en &&& (63 : Int32))), .unset, .unset, .unset, .unset, .unset] []))
  obtain ⟨rr, hrr⟩ : ∃ z, z = (en &&& (63 : Int32)) := ⟨_, rfl⟩
  rw [← hrr]
  show own_Fin p.tables e below _ (s₁.setTop (mkF m 62 #[.val (.long q0), .second, .val (.long q1), .second, .val (.long q2), .second, .val (.int v3), .val (.int v4), .val (.int v5), .val (.int wd), .val (.int bt), .val (.int en), .val (.int hw0), .val (.int rr), .unset, .unset, .unset, .unset, .unset] []))
  have hrr2 : rr.toInt = en.toInt % 64 := by rw [hrr]; exact own_m63
  refine own_step (fun _ k => XS.iload X0.here hx rfl (hb hby at_62) rfl k) ?_
  show own_Fin p.tables e below _ (s₁.setTop (mkF m 64 #[.val (.long q0), .second, .val (.long q1), .second, .val (.long q2), .second, .val (.int v3), .val (.int v4), .val (.int v5), .val (.int wd), .val (.int bt), .val (.int en), .val (.int hw0), .val (.int rr), .unset, .unset, .unset, .unset, .unset] [(.int rr)]))
  have J2 : ∀ (T3 : State) (locs3 : List Loc) (y4 : Int64) (y5 : Int64) (y6 : Int64) (sl7 sl8 : Slot) (X3 : Stand p l e room_1 s m #[(.long q0), (.long q1), (.long q2), (.int v3), (.int v4), (.int v5)] below meth c T3 locs3 0 0) (e3 : T3.heap = h0) (N3 : Fr n0 locs3) (gy4 : y4 = (if rr = (0 : Int32) then q0 else (if hw0 = (0 : Int32) then (q0 &&& (((1 : Int64) <<< (rr &&& 0x3f).toInt64) - (1 : Int64))) else (if hw0 = (1 : Int32) then q0 else q0)))) (gy5 : y5 = (if rr = (0 : Int32) then q1 else (if hw0 = (0 : Int32) then q1 else (if hw0 = (1 : Int32) then (q1 &&& (((1 : Int64) <<< (rr &&& 0x3f).toInt64) - (1 : Int64))) else q1)))) (gy6 : y6 = (if rr = (0 : Int32) then q2 else (if hw0 = (0 : Int32) then q2 else (if hw0 = (1 : Int32) then q2 else (q2 &&& (((1 : Int64) <<< (rr &&& 0x3f).toInt64) - (1 : Int64))))))) (gsl7 : own_Two sl7 sl8), own_Fin p.tables e below (P0 Z q0 q1 q2 v3 v4 v5 h0 n0 s) (T3.setTop (mkF m 109 #[.val (.long y4), .second, .val (.long y5), .second, .val (.long y6), .second, .val (.int v3), .val (.int v4), .val (.int v5), .val (.int wd), .val (.int bt), .val (.int en), .val (.int hw0), .val (.int rr), sl7, sl8, .unset, .unset, .unset] [])) := by
    intro T3 locs3 y4 y5 y6 sl7 sl8 X3 e3 N3 gy4 gy5 gy6 gsl7
    refine own_step (fun _ k => XS.iconst X3.here hx rfl (hb hby at_109) k) ?_
    show own_Fin p.tables e below _ (T3.setTop (mkF m 110 #[.val (.long y4), .second, .val (.long y5), .second, .val (.long y6), .second, .val (.int v3), .val (.int v4), .val (.int v5), .val (.int wd), .val (.int bt), .val (.int en), .val (.int hw0), .val (.int rr), sl7, sl8, .unset, .unset, .unset] [(.int (3 : Int32))]))
    obtain ⟨T9, h9, k9, X9, e9, E9, A9, st9⟩ := newP X3 hx hZ (hw _ (List.mem_of_getElem? (i := 1) rfl)) e3 (g := (mkF m 110 #[.val (.long y4), .second, .val (.long y5), .second, .val (.long y6), .second, .val (.int v3), .val (.int v4), .val (.int v5), .val (.int wd), .val (.int bt), .val (.int en), .val (.int hw0), .val (.int rr), sl7, sl8, .unset, .unset, .unset] [(.int (3 : Int32))])) rfl (hb hby at_110) rfl (by decide) (cap := 3) (by decide) (by decide) (by decide) (by decide)
    obtain ⟨b9, g9⟩ : ∃ z, z = h0.size := ⟨_, rfl⟩
    rw [← g9] at A9 st9
    refine own_step st9 ?_
    have g_b9 : n0 ≤ b9 := Nat.le_trans Z0 (Nat.le_of_eq g9.symm)
    have f10 := Nat.le_trans Z0 E9.1
    have f11 : Arv Z h9 b9 k9 .long (3 : Int32) [(.long (0 : Int64)), (.long (0 : Int64)), (.long (0 : Int64))] (.long (0 : Int64)) := (Arv.new A9 (by decide)).pad (pad_rep [] (.long (0 : Int64)) 3)
    show own_Fin p.tables e below _ (T9.setTop (mkF m 112 #[.val (.long y4), .second, .val (.long y5), .second, .val (.long y6), .second, .val (.int v3), .val (.int v4), .val (.int v5), .val (.int wd), .val (.int bt), .val (.int en), .val (.int hw0), .val (.int rr), sl7, sl8, .unset, .unset, .unset] [(.ref b9)]))
    refine own_step (fun _ k => XS.astore X9.here hx rfl (hb hby at_112) rfl rfl (l' := #[.val (.long y4), .second, .val (.long y5), .second, .val (.long y6), .second, .val (.int v3), .val (.int v4), .val (.int v5), .val (.int wd), .val (.int bt), .val (.int en), .val (.int hw0), .val (.int rr), .val (.ref b9), .unset, .unset, .unset, .unset]) (by rcases gsl7 with ⟨rfl, rfl⟩ | ⟨v, rfl, rfl⟩ <;> rfl) k) ?_
    show own_Fin p.tables e below _ (T9.setTop (mkF m 114 #[.val (.long y4), .second, .val (.long y5), .second, .val (.long y6), .second, .val (.int v3), .val (.int v4), .val (.int v5), .val (.int wd), .val (.int bt), .val (.int en), .val (.int hw0), .val (.int rr), .val (.ref b9), .unset, .unset, .unset, .unset] []))
    refine own_step (fun _ k => XS.aload X9.here hx rfl (hb hby at_114) rfl rfl k) ?_
    show own_Fin p.tables e below _ (T9.setTop (mkF m 116 #[.val (.long y4), .second, .val (.long y5), .second, .val (.long y6), .second, .val (.int v3), .val (.int v4), .val (.int v5), .val (.int wd), .val (.int bt), .val (.int en), .val (.int hw0), .val (.int rr), .val (.ref b9), .unset, .unset, .unset, .unset] [(.ref b9)]))
    refine own_step (fun _ k => XS.iconst X9.here hx rfl (hb hby at_116) k) ?_
    show own_Fin p.tables e below _ (T9.setTop (mkF m 117 #[.val (.long y4), .second, .val (.long y5), .second, .val (.long y6), .second, .val (.int v3), .val (.int v4), .val (.int v5), .val (.int wd), .val (.int bt), .val (.int en), .val (.int hw0), .val (.int rr), .val (.ref b9), .unset, .unset, .unset, .unset] [(.int (0 : Int32)), (.ref b9)]))
    refine own_step (fun _ k => XS.lloadN X9.here hx rfl (hb hby at_117) rfl k) ?_
    show own_Fin p.tables e below _ (T9.setTop (mkF m 118 #[.val (.long y4), .second, .val (.long y5), .second, .val (.long y6), .second, .val (.int v3), .val (.int v4), .val (.int v5), .val (.int wd), .val (.int bt), .val (.int en), .val (.int hw0), .val (.int rr), .val (.ref b9), .unset, .unset, .unset, .unset] [(.long y4), (.int (0 : Int32)), (.ref b9)]))
    obtain ⟨cl12, Ar12, q12, S12, M12, H12, G12⟩ := id f11
    have hin12 : ¬ ((0 : Int32) < 0 ∨ cl12.slots.size ≤ ((0 : Int32)).toNatClampNeg) := inb_of S12 ⟨by decide, by decide⟩
    obtain ⟨T12, h12, X12, e12, W12, st12⟩ := stJ X9 hx hZ e9 Ar12 (j := (0 : Int32)) hin12 (g := (mkF m 118 #[.val (.long y4), .second, .val (.long y5), .second, .val (.long y6), .second, .val (.int v3), .val (.int v4), .val (.int v5), .val (.int wd), .val (.int bt), .val (.int en), .val (.int hw0), .val (.int rr), .val (.ref b9), .unset, .unset, .unset, .unset] [(.long y4), (.int (0 : Int32)), (.ref b9)])) rfl rfl (hb hby at_118)
    refine own_step st12 ?_
    have f13 := Nat.le_trans f10 (Keep.of_wr W12).1
    have f14 : Arv Z h12 b9 k9 .long (3 : Int32) [(.long y4), (.long (0 : Int64)), (.long (0 : Int64))] (.long (0 : Int64)) := Arv.set Ar12 q12 S12 M12 H12 G12 rfl W12 0 rfl (Nat.le_of_ble_eq_true rfl)
    have N15 := Fr.snoc X12 N3 g_b9
    show own_Fin p.tables e below _ (T12.setTop (mkF m 119 #[.val (.long y4), .second, .val (.long y5), .second, .val (.long y6), .second, .val (.int v3), .val (.int v4), .val (.int v5), .val (.int wd), .val (.int bt), .val (.int en), .val (.int hw0), .val (.int rr), .val (.ref b9), .unset, .unset, .unset, .unset] []))
    refine own_step (fun _ k => XS.aload X12.here hx rfl (hb hby at_119) rfl rfl k) ?_
    show own_Fin p.tables e below _ (T12.setTop (mkF m 121 #[.val (.long y4), .second, .val (.long y5), .second, .val (.long y6), .second, .val (.int v3), .val (.int v4), .val (.int v5), .val (.int wd), .val (.int bt), .val (.int en), .val (.int hw0), .val (.int rr), .val (.ref b9), .unset, .unset, .unset, .unset] [(.ref b9)]))
    refine own_step (fun _ k => XS.iconst X12.here hx rfl (hb hby at_121) k) ?_
    show own_Fin p.tables e below _ (T12.setTop (mkF m 122 #[.val (.long y4), .second, .val (.long y5), .second, .val (.long y6), .second, .val (.int v3), .val (.int v4), .val (.int v5), .val (.int wd), .val (.int bt), .val (.int en), .val (.int hw0), .val (.int rr), .val (.ref b9), .unset, .unset, .unset, .unset] [(.int (1 : Int32)), (.ref b9)]))
    refine own_step (fun _ k => XS.lloadN X12.here hx rfl (hb hby at_122) rfl k) ?_
    show own_Fin p.tables e below _ (T12.setTop (mkF m 123 #[.val (.long y4), .second, .val (.long y5), .second, .val (.long y6), .second, .val (.int v3), .val (.int v4), .val (.int v5), .val (.int wd), .val (.int bt), .val (.int en), .val (.int hw0), .val (.int rr), .val (.ref b9), .unset, .unset, .unset, .unset] [(.long y5), (.int (1 : Int32)), (.ref b9)]))
    obtain ⟨cl16, Ar16, q16, S16, M16, H16, G16⟩ := id f14
    have hin16 : ¬ ((1 : Int32) < 0 ∨ cl16.slots.size ≤ ((1 : Int32)).toNatClampNeg) := inb_of S16 ⟨by decide, by decide⟩
    obtain ⟨T16, h16, X16, e16, W16, st16⟩ := stJ X12 hx hZ e12 Ar16 (j := (1 : Int32)) hin16 (g := (mkF m 123 #[.val (.long y4), .second, .val (.long y5), .second, .val (.long y6), .second, .val (.int v3), .val (.int v4), .val (.int v5), .val (.int wd), .val (.int bt), .val (.int en), .val (.int hw0), .val (.int rr), .val (.ref b9), .unset, .unset, .unset, .unset] [(.long y5), (.int (1 : Int32)), (.ref b9)])) rfl rfl (hb hby at_123)
    refine own_step st16 ?_
    have f17 := Nat.le_trans f13 (Keep.of_wr W16).1
    have f18 : Arv Z h16 b9 k9 .long (3 : Int32) [(.long y4), (.long y5), (.long (0 : Int64))] (.long (0 : Int64)) := Arv.set Ar16 q16 S16 M16 H16 G16 rfl W16 1 rfl (Nat.le_of_ble_eq_true rfl)
    have N19 := Fr.snoc X16 N15 g_b9
    show own_Fin p.tables e below _ (T16.setTop (mkF m 124 #[.val (.long y4), .second, .val (.long y5), .second, .val (.long y6), .second, .val (.int v3), .val (.int v4), .val (.int v5), .val (.int wd), .val (.int bt), .val (.int en), .val (.int hw0), .val (.int rr), .val (.ref b9), .unset, .unset, .unset, .unset] []))
    refine own_step (fun _ k => XS.aload X16.here hx rfl (hb hby at_124) rfl rfl k) ?_
    show own_Fin p.tables e below _ (T16.setTop (mkF m 126 #[.val (.long y4), .second, .val (.long y5), .second, .val (.long y6), .second, .val (.int v3), .val (.int v4), .val (.int v5), .val (.int wd), .val (.int bt), .val (.int en), .val (.int hw0), .val (.int rr), .val (.ref b9), .unset, .unset, .unset, .unset] [(.ref b9)]))
    refine own_step (fun _ k => XS.iconst X16.here hx rfl (hb hby at_126) k) ?_
    show own_Fin p.tables e below _ (T16.setTop (mkF m 127 #[.val (.long y4), .second, .val (.long y5), .second, .val (.long y6), .second, .val (.int v3), .val (.int v4), .val (.int v5), .val (.int wd), .val (.int bt), .val (.int en), .val (.int hw0), .val (.int rr), .val (.ref b9), .unset, .unset, .unset, .unset] [(.int (2 : Int32)), (.ref b9)]))
    refine own_step (fun _ k => XS.lload X16.here hx rfl (hb hby at_127) rfl k) ?_
    show own_Fin p.tables e below _ (T16.setTop (mkF m 129 #[.val (.long y4), .second, .val (.long y5), .second, .val (.long y6), .second, .val (.int v3), .val (.int v4), .val (.int v5), .val (.int wd), .val (.int bt), .val (.int en), .val (.int hw0), .val (.int rr), .val (.ref b9), .unset, .unset, .unset, .unset] [(.long y6), (.int (2 : Int32)), (.ref b9)]))
    obtain ⟨cl20, Ar20, q20, S20, M20, H20, G20⟩ := id f18
    have hin20 : ¬ ((2 : Int32) < 0 ∨ cl20.slots.size ≤ ((2 : Int32)).toNatClampNeg) := inb_of S20 ⟨by decide, by decide⟩
    obtain ⟨T20, h20, X20, e20, W20, st20⟩ := stJ X16 hx hZ e16 Ar20 (j := (2 : Int32)) hin20 (g := (mkF m 129 #[.val (.long y4), .second, .val (.long y5), .second, .val (.long y6), .second, .val (.int v3), .val (.int v4), .val (.int v5), .val (.int wd), .val (.int bt), .val (.int en), .val (.int hw0), .val (.int rr), .val (.ref b9), .unset, .unset, .unset, .unset] [(.long y6), (.int (2 : Int32)), (.ref b9)])) rfl rfl (hb hby at_129)
    refine own_step st20 ?_
    have f21 := Nat.le_trans f17 (Keep.of_wr W20).1
    have f22 : Arv Z h20 b9 k9 .long (3 : Int32) [(.long y4), (.long y5), (.long y6)] (.long (0 : Int64)) := Arv.set Ar20 q20 S20 M20 H20 G20 rfl W20 2 rfl (Nat.le_of_ble_eq_true rfl)
    have N23 := Fr.snoc X20 N19 g_b9
    show own_Fin p.tables e below _ (T20.setTop (mkF m 130 #[.val (.long y4), .second, .val (.long y5), .second, .val (.long y6), .second, .val (.int v3), .val (.int v4), .val (.int v5), .val (.int wd), .val (.int bt), .val (.int en), .val (.int hw0), .val (.int rr), .val (.ref b9), .unset, .unset, .unset, .unset] []))
    refine own_step (fun _ k => XS.aload X20.here hx rfl (hb hby at_130) rfl rfl k) ?_
    show own_Fin p.tables e below _ (T20.setTop (mkF m 132 #[.val (.long y4), .second, .val (.long y5), .second, .val (.long y6), .second, .val (.int v3), .val (.int v4), .val (.int v5), .val (.int wd), .val (.int bt), .val (.int en), .val (.int hw0), .val (.int rr), .val (.ref b9), .unset, .unset, .unset, .unset] [(.ref b9)]))
    refine own_step (fun _ k => XS.iload X20.here hx rfl (hb hby at_132) rfl k) ?_
    show own_Fin p.tables e below _ (T20.setTop (mkF m 134 #[.val (.long y4), .second, .val (.long y5), .second, .val (.long y6), .second, .val (.int v3), .val (.int v4), .val (.int v5), .val (.int wd), .val (.int bt), .val (.int en), .val (.int hw0), .val (.int rr), .val (.ref b9), .unset, .unset, .unset, .unset] [(.int bt), (.ref b9)]))
    refine own_step (fun _ k => XS.i2l X20.here hx rfl (hb hby at_134) rfl k) ?_
    show own_Fin p.tables e below _ (T20.setTop (mkF m 135 #[.val (.long y4), .second, .val (.long y5), .second, .val (.long y6), .second, .val (.int v3), .val (.int v4), .val (.int v5), .val (.int wd), .val (.int bt), .val (.int en), .val (.int hw0), .val (.int rr), .val (.ref b9), .unset, .unset, .unset, .unset] [(.long (bt.toInt64)), (.ref b9)]))
    refine own_step (fun _ k => XS.iload X20.here hx rfl (hb hby at_135) rfl k) ?_
    show own_Fin p.tables e below _ (T20.setTop (mkF m 137 #[.val (.long y4), .second, .val (.long y5), .second, .val (.long y6), .second, .val (.int v3), .val (.int v4), .val (.int v5), .val (.int wd), .val (.int bt), .val (.int en), .val (.int hw0), .val (.int rr), .val (.ref b9), .unset, .unset, .unset, .unset] [(.int en), (.long (bt.toInt64)), (.ref b9)]))
    refine own_step (fun _ k => XS.i2l X20.here hx rfl (hb hby at_137) rfl k) ?_
    show own_Fin p.tables e below _ (T20.setTop (mkF m 138 #[.val (.long y4), .second, .val (.long y5), .second, .val (.long y6), .second, .val (.int v3), .val (.int v4), .val (.int v5), .val (.int wd), .val (.int bt), .val (.int en), .val (.int hw0), .val (.int rr), .val (.ref b9), .unset, .unset, .unset, .unset] [(.long (en.toInt64)), (.long (bt.toInt64)), (.ref b9)]))
    refine own_step (fun _ k => XS.iload X20.here hx rfl (hb hby at_138) rfl k) ?_
    show own_Fin p.tables e below _ (T20.setTop (mkF m 140 #[.val (.long y4), .second, .val (.long y5), .second, .val (.long y6), .second, .val (.int v3), .val (.int v4), .val (.int v5), .val (.int wd), .val (.int bt), .val (.int en), .val (.int hw0), .val (.int rr), .val (.ref b9), .unset, .unset, .unset, .unset] [(.int wd), (.long (en.toInt64)), (.long (bt.toInt64)), (.ref b9)]))
    obtain ⟨gS, hgS⟩ : ∃ z : Nat → Int64, z = fun i => [y4, y5, y6].getD i 0 := ⟨_, rfl⟩
    have AS : own_Arf Z h20 b9 .long 3 (fun i => .long (gS i)) := by rw [hgS]; exact own_Arf.ofJ f22 [y4, y5, y6] rfl rfl
    obtain ⟨_, _, ⟨T24, L24, k24, n24⟩, -, X24, ⟨Lc24, hQ24, l24, y24, z24⟩, st24⟩ := Jvm.LawKit.callS X20 hx (y := (⟨"com/example/streamgist/streamgist/packed/PackedBits", "remove", "([JJJI)V"⟩ : MethodName)) hown (mvT hZ (hw _ (List.mem_of_getElem? (i := 2) rfl))) (mvT hZ (hw _ (List.mem_of_getElem? (i := 3) rfl))) (mvT hZ (hw _ (List.mem_of_getElem? (i := 4) rfl))) (mvT hZ (hw _ (List.mem_of_getElem? (i := 5) rfl))) (by decide) (backOf (W := 0) (rm1 l Z a0 hw [] b9 (bt.toInt64) (en.toInt64) wd gS bt.toInt.toNat en.toInt.toNat wd.toInt.toNat h20 n0 f21 AS g_b9 (own_i2l hb1) (own_i2l (by omega)) (by omega) (by omega) (by omega) (by omega) (by omega)) hZ (hw _ (List.mem_of_getElem? (i := 5) rfl)) (hw _ (List.mem_of_getElem? (i := 4) rfl)) (by decide) (by decide)) (g := (mkF m 140 #[.val (.long y4), .second, .val (.long y5), .second, .val (.long y6), .second, .val (.int v3), .val (.int v4), .val (.int v5), .val (.int wd), .val (.int bt), .val (.int en), .val (.int hw0), .val (.int rr), .val (.ref b9), .unset, .unset, .unset, .unset] [(.int wd), (.long (en.toInt64)), (.long (bt.toInt64)), (.ref b9)])) rfl (by rw [hml]; rfl) (argsL := [(.ref b9), (.long (bt.toInt64)), (.long (en.toInt64)), (.int wd)]) (rest := []) (lenOf pd_0 rfl) rfl (by show 2 * 0 + _ ≤ _; exact Nat.le_of_eq rfl) (hb hby at_140) (fun _ _ => ⟨rfl, e20, (by decide : 1 + 0 ≤ _), (by decide : 3 + 0 ≤ _)⟩)
    dsimp only [Pt.U, Pt.locs, Pt.cells, Pt.slots] at X24 l24 y24 z24 st24 hQ24
    subst l24 y24 z24
    obtain ⟨rfl, N24q, K24, gF, fa24, hbits⟩ := hQ24
    have N24 := Fr.app N23 N24q
    refine own_step st24 ?_
    have f25 := Nat.le_trans f21 K24.1
    show own_Fin p.tables e below _ (T24.setTop (mkF m 143 #[.val (.long y4), .second, .val (.long y5), .second, .val (.long y6), .second, .val (.int v3), .val (.int v4), .val (.int v5), .val (.int wd), .val (.int bt), .val (.int en), .val (.int hw0), .val (.int rr), .val (.ref b9), .unset, .unset, .unset, .unset] []))
    refine own_step (fun _ k => XS.iload X24.here hx rfl (hb hby at_143) rfl k) ?_
    show own_Fin p.tables e below _ (T24.setTop (mkF m 145 #[.val (.long y4), .second, .val (.long y5), .second, .val (.long y6), .second, .val (.int v3), .val (.int v4), .val (.int v5), .val (.int wd), .val (.int bt), .val (.int en), .val (.int hw0), .val (.int rr), .val (.ref b9), .unset, .unset, .unset, .unset] [(.int v5)]))
    refine own_step (X24.ldcInt hx hown (mvT hZ (hw _ (List.mem_of_getElem? (i := 0) rfl))) (g := (mkF m 145 #[.val (.long y4), .second, .val (.long y5), .second, .val (.long y6), .second, .val (.int v3), .val (.int v4), .val (.int v5), .val (.int wd), .val (.int bt), .val (.int en), .val (.int hw0), .val (.int rr), .val (.ref b9), .unset, .unset, .unset, .unset] [(.int v5)])) rfl (hb hby at_145)) ?_
    show own_Fin p.tables e below _ (T24.setTop (mkF m 147 #[.val (.long y4), .second, .val (.long y5), .second, .val (.long y6), .second, .val (.int v3), .val (.int v4), .val (.int v5), .val (.int wd), .val (.int bt), .val (.int en), .val (.int hw0), .val (.int rr), .val (.ref b9), .unset, .unset, .unset, .unset] [(.int (2147483647 : Int32)), (.int v5)]))
    refine own_step (fun _ k => XS.iand X24.here hx rfl (hb hby at_147) rfl k) ?_
    show own_Fin p.tables e below _ (T24.setTop (mkF m 148 #[.val (.long y4), .second, .val (.long y5), .second, .val (.long y6), .second, .val (.int v3), .val (.int v4), .val (.int v5), .val (.int wd), .val (.int bt), .val (.int en), .val (.int hw0), .val (.int rr), .val (.ref b9), .unset, .unset, .unset, .unset] [(.int (v5 &&& (2147483647 : Int32)))]))
    refine own_step (fun _ k => XS.sipush X24.here hx rfl (hb hby at_148) k) ?_
    show own_Fin p.tables e below _ (T24.setTop (mkF m 151 #[.val (.long y4), .second, .val (.long y5), .second, .val (.long y6), .second, .val (.int v3), .val (.int v4), .val (.int v5), .val (.int wd), .val (.int bt), .val (.int en), .val (.int hw0), .val (.int rr), .val (.ref b9), .unset, .unset, .unset, .unset] [(.int (192 : Int32)), (.int (v5 &&& (2147483647 : Int32)))]))
    refine own_step (fun _ k => XS.irem X24.here hx rfl (hb hby at_151) rfl (by decide) k) ?_
    show own_Fin p.tables e below _ (T24.setTop (mkF m 152 #[.val (.long y4), .second, .val (.long y5), .second, .val (.long y6), .second, .val (.int v3), .val (.int v4), .val (.int v5), .val (.int wd), .val (.int bt), .val (.int en), .val (.int hw0), .val (.int rr), .val (.ref b9), .unset, .unset, .unset, .unset] [(.int ((v5 &&& (2147483647 : Int32)) - ((v5 &&& (2147483647 : Int32)) / (192 : Int32)) * (192 : Int32)))]))
    refine own_step (fun _ k => XS.istore X24.here hx rfl (hb hby at_152) rfl (l' := #[.val (.long y4), .second, .val (.long y5), .second, .val (.long y6), .second, .val (.int v3), .val (.int v4), .val (.int v5), .val (.int wd), .val (.int bt), .val (.int en), .val (.int hw0), .val (.int rr), .val (.ref b9), .val (.int ((v5 &&& (2147483647 : Int32)) - ((v5 &&& (2147483647 : Int32)) / (192 : Int32)) * (192 : Int32))), .unset, .unset, .unset]) rfl k) ?_
    show own_Fin p.tables e below _ (T24.setTop (mkF m 154 #[.val (.long y4), .second, .val (.long y5), .second, .val (.long y6), .second, .val (.int v3), .val (.int v4), .val (.int v5), .val (.int wd), .val (.int bt), .val (.int en), .val (.int hw0), .val (.int rr), .val (.ref b9), .val (.int ((v5 &&& (2147483647 : Int32)) - ((v5 &&& (2147483647 : Int32)) / (192 : Int32)) * (192 : Int32))), .unset, .unset, .unset] []))
    obtain ⟨pp, hpp⟩ : ∃ z, z = ((v5 &&& (2147483647 : Int32)) - ((v5 &&& (2147483647 : Int32)) / (192 : Int32)) * (192 : Int32)) := ⟨_, rfl⟩
    rw [← hpp]
    show own_Fin p.tables e below _ (T24.setTop (mkF m 154 #[.val (.long y4), .second, .val (.long y5), .second, .val (.long y6), .second, .val (.int v3), .val (.int v4), .val (.int v5), .val (.int wd), .val (.int bt), .val (.int en), .val (.int hw0), .val (.int rr), .val (.ref b9), .val (.int pp), .unset, .unset, .unset] []))
    obtain ⟨hp1, hp2⟩ : 0 ≤ pp.toInt ∧ pp.toInt < 192 := by rw [hpp]; exact own_rem (y := 192) (own_pos31 v5) (by decide)
    refine own_step (fun _ k => XS.iload X24.here hx rfl (hb hby at_154) rfl k) ?_
    show own_Fin p.tables e below _ (T24.setTop (mkF m 156 #[.val (.long y4), .second, .val (.long y5), .second, .val (.long y6), .second, .val (.int v3), .val (.int v4), .val (.int v5), .val (.int wd), .val (.int bt), .val (.int en), .val (.int hw0), .val (.int rr), .val (.ref b9), .val (.int pp), .unset, .unset, .unset] [(.int hw0)]))
    refine own_step (fun _ k => XS.iconst X24.here hx rfl (hb hby at_156) k) ?_
    show own_Fin p.tables e below _ (T24.setTop (mkF m 157 #[.val (.long y4), .second, .val (.long y5), .second, .val (.long y6), .second, .val (.int v3), .val (.int v4), .val (.int v5), .val (.int wd), .val (.int bt), .val (.int en), .val (.int hw0), .val (.int rr), .val (.ref b9), .val (.int pp), .unset, .unset, .unset] [(.int (1 : Int32)), (.int hw0)]))
    refine own_step (fun _ k => XS.iadd X24.here hx rfl (hb hby at_157) rfl k) ?_
    show own_Fin p.tables e below _ (T24.setTop (mkF m 158 #[.val (.long y4), .second, .val (.long y5), .second, .val (.long y6), .second, .val (.int v3), .val (.int v4), .val (.int v5), .val (.int wd), .val (.int bt), .val (.int en), .val (.int hw0), .val (.int rr), .val (.ref b9), .val (.int pp), .unset, .unset, .unset] [(.int (hw0 + (1 : Int32)))]))
    refine own_step (fun _ k => XS.bipush X24.here hx rfl (hb hby at_158) k) ?_
    show own_Fin p.tables e below _ (T24.setTop (mkF m 160 #[.val (.long y4), .second, .val (.long y5), .second, .val (.long y6), .second, .val (.int v3), .val (.int v4), .val (.int v5), .val (.int wd), .val (.int bt), .val (.int en), .val (.int hw0), .val (.int rr), .val (.ref b9), .val (.int pp), .unset, .unset, .unset] [(.int (64 : Int32)), (.int (hw0 + (1 : Int32)))]))
    refine own_step (fun _ k => XS.imul X24.here hx rfl (hb hby at_160) rfl k) ?_
    show own_Fin p.tables e below _ (T24.setTop (mkF m 161 #[.val (.long y4), .second, .val (.long y5), .second, .val (.long y6), .second, .val (.int v3), .val (.int v4), .val (.int v5), .val (.int wd), .val (.int bt), .val (.int en), .val (.int hw0), .val (.int rr), .val (.ref b9), .val (.int pp), .unset, .unset, .unset] [(.int ((hw0 + (1 : Int32)) * (64 : Int32)))]))
    refine own_step (fun _ k => XS.istore X24.here hx rfl (hb hby at_161) rfl (l' := #[.val (.long y4), .second, .val (.long y5), .second, .val (.long y6), .second, .val (.int v3), .val (.int v4), .val (.int v5), .val (.int wd), .val (.int bt), .val (.int en), .val (.int hw0), .val (.int rr), .val (.ref b9), .val (.int pp), .val (.int ((hw0 + (1 : Int32)) * (64 : Int32))), .unset, .unset]) rfl k) ?_
    show own_Fin p.tables e below _ (T24.setTop (mkF m 163 #[.val (.long y4), .second, .val (.long y5), .second, .val (.long y6), .second, .val (.int v3), .val (.int v4), .val (.int v5), .val (.int wd), .val (.int bt), .val (.int en), .val (.int hw0), .val (.int rr), .val (.ref b9), .val (.int pp), .val (.int ((hw0 + (1 : Int32)) * (64 : Int32))), .unset, .unset] []))
    obtain ⟨lim, hlim⟩ : ∃ z, z = ((hw0 + (1 : Int32)) * (64 : Int32)) := ⟨_, rfl⟩
    rw [← hlim]
    show own_Fin p.tables e below _ (T24.setTop (mkF m 163 #[.val (.long y4), .second, .val (.long y5), .second, .val (.long y6), .second, .val (.int v3), .val (.int v4), .val (.int v5), .val (.int wd), .val (.int bt), .val (.int en), .val (.int hw0), .val (.int rr), .val (.ref b9), .val (.int pp), .val (.int lim), .unset, .unset] []))
    have hl2 : lim.toInt = (hw0.toInt + 1) * 64 := by have e1 := own_add1 (n := hw0) (by omega); have e2 := c_imul (hw0 + 1) 64; have e3 := rng32 ((hw0 + 1) * 64); have e4 : (64 : Int32).toInt = 64 := (by decide); rw [hlim]; rw [e1, e4] at e2; omega
    refine own_step (fun _ k => XS.iload X24.here hx rfl (hb hby at_163) rfl k) ?_
    show own_Fin p.tables e below _ (T24.setTop (mkF m 165 #[.val (.long y4), .second, .val (.long y5), .second, .val (.long y6), .second, .val (.int v3), .val (.int v4), .val (.int v5), .val (.int wd), .val (.int bt), .val (.int en), .val (.int hw0), .val (.int rr), .val (.ref b9), .val (.int pp), .val (.int lim), .unset, .unset] [(.int pp)]))
    refine own_step (fun _ k => XS.iload X24.here hx rfl (hb hby at_165) rfl k) ?_
    show own_Fin p.tables e below _ (T24.setTop (mkF m 167 #[.val (.long y4), .second, .val (.long y5), .second, .val (.long y6), .second, .val (.int v3), .val (.int v4), .val (.int v5), .val (.int wd), .val (.int bt), .val (.int en), .val (.int hw0), .val (.int rr), .val (.ref b9), .val (.int pp), .val (.int lim), .unset, .unset] [(.int bt), (.int pp)]))
    have J28 : ∀ (T29 : State) (locs29 : List Loc) (y30 : Int32) (X29 : Stand p l e room_1 s m #[(.long q0), (.long q1), (.long q2), (.int v3), (.int v4), (.int v5)] below meth c T29 locs29 1 3) (e29 : T29.heap = T24.heap) (N29 : Fr n0 locs29) (gy30 : y30 = (if pp < bt then (own_bo y4 y5 y6 pp) else (if pp < (en - wd) then (own_bo y4 y5 y6 (pp + wd)) else (if pp < lim then (0 : Int32) else (own_bo y4 y5 y6 pp))))), own_Fin p.tables e below (P0 Z q0 q1 q2 v3 v4 v5 h0 n0 s) (T29.setTop (mkF m 235 #[.val (.long y4), .second, .val (.long y5), .second, .val (.long y6), .second, .val (.int v3), .val (.int v4), .val (.int v5), .val (.int wd), .val (.int bt), .val (.int en), .val (.int hw0), .val (.int rr), .val (.ref b9), .val (.int pp), .val (.int lim), .val (.int y30), .unset] [])) := by
      intro T29 locs29 y30 X29 e29 N29 gy30
      refine own_step (fun _ k => XS.aload X29.here hx rfl (hb hby at_235) rfl rfl k) ?_
      show own_Fin p.tables e below _ (T29.setTop (mkF m 237 #[.val (.long y4), .second, .val (.long y5), .second, .val (.long y6), .second, .val (.int v3), .val (.int v4), .val (.int v5), .val (.int wd), .val (.int bt), .val (.int en), .val (.int hw0), .val (.int rr), .val (.ref b9), .val (.int pp), .val (.int lim), .val (.int y30), .unset] [(.ref b9)]))
      refine own_step (fun _ k => XS.iload X29.here hx rfl (hb hby at_237) rfl k) ?_
      show own_Fin p.tables e below _ (T29.setTop (mkF m 239 #[.val (.long y4), .second, .val (.long y5), .second, .val (.long y6), .second, .val (.int v3), .val (.int v4), .val (.int v5), .val (.int wd), .val (.int bt), .val (.int en), .val (.int hw0), .val (.int rr), .val (.ref b9), .val (.int pp), .val (.int lim), .val (.int y30), .unset] [(.int pp), (.ref b9)]))
      refine own_step (fun _ k => XS.bipush X29.here hx rfl (hb hby at_239) k) ?_
      show own_Fin p.tables e below _ (T29.setTop (mkF m 241 #[.val (.long y4), .second, .val (.long y5), .second, .val (.long y6), .second, .val (.int v3), .val (.int v4), .val (.int v5), .val (.int wd), .val (.int bt), .val (.int en), .val (.int hw0), .val (.int rr), .val (.ref b9), .val (.int pp), .val (.int lim), .val (.int y30), .unset] [(.int (6 : Int32)), (.int pp), (.ref b9)]))
      refine own_step (fun _ k => XS.iushr X29.here hx rfl (hb hby at_241) rfl k) ?_
      show own_Fin p.tables e below _ (T29.setTop (mkF m 242 #[.val (.long y4), .second, .val (.long y5), .second, .val (.long y6), .second, .val (.int v3), .val (.int v4), .val (.int v5), .val (.int wd), .val (.int bt), .val (.int en), .val (.int hw0), .val (.int rr), .val (.ref b9), .val (.int pp), .val (.int lim), .val (.int y30), .unset] [(.int ((pp.toUInt32 >>> ((6 : Int32) &&& 31).toUInt32).toInt32)), (.ref b9)]))
      have hpi := own_u6 (v := pp) (by omega)
      obtain ⟨cl31, Ar31, S31, H31⟩ := id fa24
      have hin31 : ¬ (((pp.toUInt32 >>> ((6 : Int32) &&& 31).toUInt32).toInt32) < 0 ∨ cl31.slots.size ≤ (((pp.toUInt32 >>> ((6 : Int32) &&& 31).toUInt32).toInt32)).toNatClampNeg) := own_in S31 ⟨by rw [hpi]; omega, by rw [hpi]; omega⟩
      refine own_step (X29.laload hx (j := ((pp.toUInt32 >>> ((6 : Int32) &&& 31).toUInt32).toInt32)) (v := (.long (gF (((pp.toUInt32 >>> ((6 : Int32) &&& 31).toUInt32).toInt32)).toNatClampNeg))) (by first | exact Ar31.1 | (rw [e29]; exact Ar31.1)) (State.isArrayOf_alike hZ.alike Ar31.2.1) Ar31.2.2 hin31 (H31 _ (own_in2 ⟨by rw [hpi]; omega, by rw [hpi]; omega⟩)) (g := (mkF m 242 #[.val (.long y4), .second, .val (.long y5), .second, .val (.long y6), .second, .val (.int v3), .val (.int v4), .val (.int v5), .val (.int wd), .val (.int bt), .val (.int en), .val (.int hw0), .val (.int rr), .val (.ref b9), .val (.int pp), .val (.int lim), .val (.int y30), .unset] [(.int ((pp.toUInt32 >>> ((6 : Int32) &&& 31).toUInt32).toInt32)), (.ref b9)])) rfl rfl (hb hby at_242)) ?_
      show own_Fin p.tables e below _ (T29.setTop (mkF m 243 #[.val (.long y4), .second, .val (.long y5), .second, .val (.long y6), .second, .val (.int v3), .val (.int v4), .val (.int v5), .val (.int wd), .val (.int bt), .val (.int en), .val (.int hw0), .val (.int rr), .val (.ref b9), .val (.int pp), .val (.int lim), .val (.int y30), .unset] [(.long (gF (((pp.toUInt32 >>> ((6 : Int32) &&& 31).toUInt32).toInt32)).toNatClampNeg))]))
      refine own_step (fun _ k => XS.iload X29.here hx rfl (hb hby at_243) rfl k) ?_
      show own_Fin p.tables e below _ (T29.setTop (mkF m 245 #[.val (.long y4), .second, .val (.long y5), .second, .val (.long y6), .second, .val (.int v3), .val (.int v4), .val (.int v5), .val (.int wd), .val (.int bt), .val (.int en), .val (.int hw0), .val (.int rr), .val (.ref b9), .val (.int pp), .val (.int lim), .val (.int y30), .unset] [(.int pp), (.long (gF (((pp.toUInt32 >>> ((6 : Int32) &&& 31).toUInt32).toInt32)).toNatClampNeg))]))
      refine own_step (fun _ k => XS.bipush X29.here hx rfl (hb hby at_245) k) ?_
      show own_Fin p.tables e below _ (T29.setTop (mkF m 247 #[.val (.long y4), .second, .val (.long y5), .second, .val (.long y6), .second, .val (.int v3), .val (.int v4), .val (.int v5), .val (.int wd), .val (.int bt), .val (.int en), .val (.int hw0), .val (.int rr), .val (.ref b9), .val (.int pp), .val (.int lim), .val (.int y30), .unset] [(.int (63 : Int32)), (.int pp), (.long (gF (((pp.toUInt32 >>> ((6 : Int32) &&& 31).toUInt32).toInt32)).toNatClampNeg))]))
      refine own_step (fun _ k => XS.iand X29.here hx rfl (hb hby at_247) rfl k) ?_
      show own_Fin p.tables e below _ (T29.setTop (mkF m 248 #[.val (.long y4), .second, .val (.long y5), .second, .val (.long y6), .second, .val (.int v3), .val (.int v4), .val (.int v5), .val (.int wd), .val (.int bt), .val (.int en), .val (.int hw0), .val (.int rr), .val (.ref b9), .val (.int pp), .val (.int lim), .val (.int y30), .unset] [(.int (pp &&& (63 : Int32))), (.long (gF (((pp.toUInt32 >>> ((6 : Int32) &&& 31).toUInt32).toInt32)).toNatClampNeg))]))
      refine own_step (fun _ k => XS.lushr X29.here hx rfl (hb hby at_248) rfl k) ?_
      show own_Fin p.tables e below _ (T29.setTop (mkF m 249 #[.val (.long y4), .second, .val (.long y5), .second, .val (.long y6), .second, .val (.int v3), .val (.int v4), .val (.int v5), .val (.int wd), .val (.int bt), .val (.int en), .val (.int hw0), .val (.int rr), .val (.ref b9), .val (.int pp), .val (.int lim), .val (.int y30), .unset] [(.long (((gF (((pp.toUInt32 >>> ((6 : Int32) &&& 31).toUInt32).toInt32)).toNatClampNeg).toUInt64 >>> ((pp &&& (63 : Int32)) &&& 0x3f).toInt64.toUInt64).toInt64))]))
      refine own_step (fun _ k => XS.lconst X29.here hx rfl (hb hby at_249) k) ?_
      show own_Fin p.tables e below _ (T29.setTop (mkF m 250 #[.val (.long y4), .second, .val (.long y5), .second, .val (.long y6), .second, .val (.int v3), .val (.int v4), .val (.int v5), .val (.int wd), .val (.int bt), .val (.int en), .val (.int hw0), .val (.int rr), .val (.ref b9), .val (.int pp), .val (.int lim), .val (.int y30), .unset] [(.long (1 : Int64)), (.long (((gF (((pp.toUInt32 >>> ((6 : Int32) &&& 31).toUInt32).toInt32)).toNatClampNeg).toUInt64 >>> ((pp &&& (63 : Int32)) &&& 0x3f).toInt64.toUInt64).toInt64))]))
      refine own_step (fun _ k => XS.land X29.here hx rfl (hb hby at_250) rfl k) ?_
      show own_Fin p.tables e below _ (T29.setTop (mkF m 251 #[.val (.long y4), .second, .val (.long y5), .second, .val (.long y6), .second, .val (.int v3), .val (.int v4), .val (.int v5), .val (.int wd), .val (.int bt), .val (.int en), .val (.int hw0), .val (.int rr), .val (.ref b9), .val (.int pp), .val (.int lim), .val (.int y30), .unset] [(.long ((((gF (((pp.toUInt32 >>> ((6 : Int32) &&& 31).toUInt32).toInt32)).toNatClampNeg).toUInt64 >>> ((pp &&& (63 : Int32)) &&& 0x3f).toInt64.toUInt64).toInt64) &&& (1 : Int64)))]))
      refine own_step (fun _ k => XS.l2i X29.here hx rfl (hb hby at_251) rfl k) ?_
      show own_Fin p.tables e below _ (T29.setTop (mkF m 252 #[.val (.long y4), .second, .val (.long y5), .second, .val (.long y6), .second, .val (.int v3), .val (.int v4), .val (.int v5), .val (.int wd), .val (.int bt), .val (.int en), .val (.int hw0), .val (.int rr), .val (.ref b9), .val (.int pp), .val (.int lim), .val (.int y30), .unset] [(.int (((((gF (((pp.toUInt32 >>> ((6 : Int32) &&& 31).toUInt32).toInt32)).toNatClampNeg).toUInt64 >>> ((pp &&& (63 : Int32)) &&& 0x3f).toInt64.toUInt64).toInt64) &&& (1 : Int64)).toInt32))]))
      refine own_step (fun _ k => XS.istore X29.here hx rfl (hb hby at_252) rfl (l' := #[.val (.long y4), .second, .val (.long y5), .second, .val (.long y6), .second, .val (.int v3), .val (.int v4), .val (.int v5), .val (.int wd), .val (.int bt), .val (.int en), .val (.int hw0), .val (.int rr), .val (.ref b9), .val (.int pp), .val (.int lim), .val (.int y30), .val (.int (((((gF (((pp.toUInt32 >>> ((6 : Int32) &&& 31).toUInt32).toInt32)).toNatClampNeg).toUInt64 >>> ((pp &&& (63 : Int32)) &&& 0x3f).toInt64.toUInt64).toInt64) &&& (1 : Int64)).toInt32))]) rfl k) ?_
      show own_Fin p.tables e below _ (T29.setTop (mkF m 254 #[.val (.long y4), .second, .val (.long y5), .second, .val (.long y6), .second, .val (.int v3), .val (.int v4), .val (.int v5), .val (.int wd), .val (.int bt), .val (.int en), .val (.int hw0), .val (.int rr), .val (.ref b9), .val (.int pp), .val (.int lim), .val (.int y30), .val (.int (((((gF (((pp.toUInt32 >>> ((6 : Int32) &&& 31).toUInt32).toInt32)).toNatClampNeg).toUInt64 >>> ((pp &&& (63 : Int32)) &&& 0x3f).toInt64.toUInt64).toInt64) &&& (1 : Int64)).toInt32))] []))
      refine own_step (fun _ k => XS.iload X29.here hx rfl (hb hby at_254) rfl k) ?_
      show own_Fin p.tables e below _ (T29.setTop (mkF m 256 #[.val (.long y4), .second, .val (.long y5), .second, .val (.long y6), .second, .val (.int v3), .val (.int v4), .val (.int v5), .val (.int wd), .val (.int bt), .val (.int en), .val (.int hw0), .val (.int rr), .val (.ref b9), .val (.int pp), .val (.int lim), .val (.int y30), .val (.int (((((gF (((pp.toUInt32 >>> ((6 : Int32) &&& 31).toUInt32).toInt32)).toNatClampNeg).toUInt64 >>> ((pp &&& (63 : Int32)) &&& 0x3f).toInt64.toUInt64).toInt64) &&& (1 : Int64)).toInt32))] [(.int (((((gF (((pp.toUInt32 >>> ((6 : Int32) &&& 31).toUInt32).toInt32)).toNatClampNeg).toUInt64 >>> ((pp &&& (63 : Int32)) &&& 0x3f).toInt64.toUInt64).toInt64) &&& (1 : Int64)).toInt32))]))
      refine own_step (fun _ k => XS.iload X29.here hx rfl (hb hby at_256) rfl k) ?_
      show own_Fin p.tables e below _ (T29.setTop (mkF m 258 #[.val (.long y4), .second, .val (.long y5), .second, .val (.long y6), .second, .val (.int v3), .val (.int v4), .val (.int v5), .val (.int wd), .val (.int bt), .val (.int en), .val (.int hw0), .val (.int rr), .val (.ref b9), .val (.int pp), .val (.int lim), .val (.int y30), .val (.int (((((gF (((pp.toUInt32 >>> ((6 : Int32) &&& 31).toUInt32).toInt32)).toNatClampNeg).toUInt64 >>> ((pp &&& (63 : Int32)) &&& 0x3f).toInt64.toUInt64).toInt64) &&& (1 : Int64)).toInt32))] [(.int y30), (.int (((((gF (((pp.toUInt32 >>> ((6 : Int32) &&& 31).toUInt32).toInt32)).toNatClampNeg).toUInt64 >>> ((pp &&& (63 : Int32)) &&& 0x3f).toInt64.toUInt64).toInt64) &&& (1 : Int64)).toInt32))]))
      have ha32 : (((((gF (((pp.toUInt32 >>> ((6 : Int32) &&& 31).toUInt32).toInt32)).toNatClampNeg).toUInt64 >>> ((pp &&& (63 : Int32)) &&& 0x3f).toInt64.toUInt64).toInt64) &&& (1 : Int64)).toInt32) = y30 := by
        rw [gy30]
        rw [hgS] at hbits
        exact own_final (N := wd.toInt.toNat) (B := bt.toInt.toNat) (E := en.toInt.toNat) (P := pp.toInt.toNat) (by omega) (by omega) (by omega) (by omega) (by omega) (by omega) rfl (by omega) (by omega) (by omega) (fun q h1 h2 => own_zero (E := en.toInt.toNat) (en := en) (hw := hw0) (rr := rr) (by omega) (by omega) (by omega) (by omega) rfl (by omega) gy4 gy5 gy6 h1 h2) hbits
      refine own_step (fun _ k => XS.icmpNo X29.here hx rfl (hb hby at_258) rfl ((teq ha32).2) k) ?_
      show own_Fin p.tables e below _ (T29.setTop (mkF m 261 #[.val (.long y4), .second, .val (.long y5), .second, .val (.long y6), .second, .val (.int v3), .val (.int v4), .val (.int v5), .val (.int wd), .val (.int bt), .val (.int en), .val (.int hw0), .val (.int rr), .val (.ref b9), .val (.int pp), .val (.int lim), .val (.int y30), .val (.int (((((gF (((pp.toUInt32 >>> ((6 : Int32) &&& 31).toUInt32).toInt32)).toNatClampNeg).toUInt64 >>> ((pp &&& (63 : Int32)) &&& 0x3f).toInt64.toUInt64).toInt64) &&& (1 : Int64)).toInt32))] []))
      refine own_step (fun _ k => XS.iconst X29.here hx rfl (hb hby at_261) k) ?_
      show own_Fin p.tables e below _ (T29.setTop (mkF m 262 #[.val (.long y4), .second, .val (.long y5), .second, .val (.long y6), .second, .val (.int v3), .val (.int v4), .val (.int v5), .val (.int wd), .val (.int bt), .val (.int en), .val (.int hw0), .val (.int rr), .val (.ref b9), .val (.int pp), .val (.int lim), .val (.int y30), .val (.int (((((gF (((pp.toUInt32 >>> ((6 : Int32) &&& 31).toUInt32).toInt32)).toNatClampNeg).toUInt64 >>> ((pp &&& (63 : Int32)) &&& 0x3f).toInt64.toUInt64).toInt64) &&& (1 : Int64)).toInt32))] [(.int (1 : Int32))]))
      refine own_step (fun _ k => XS.goto X29.here hx rfl (pc0 := 262) (pc' := 266) rfl (hb hby at_262) (by decide) (by decide) k) ?_
      show own_Fin p.tables e below _ (T29.setTop (mkF m 266 #[.val (.long y4), .second, .val (.long y5), .second, .val (.long y6), .second, .val (.int v3), .val (.int v4), .val (.int v5), .val (.int wd), .val (.int bt), .val (.int en), .val (.int hw0), .val (.int rr), .val (.ref b9), .val (.int pp), .val (.int lim), .val (.int y30), .val (.int (((((gF (((pp.toUInt32 >>> ((6 : Int32) &&& 31).toUInt32).toInt32)).toNatClampNeg).toUInt64 >>> ((pp &&& (63 : Int32)) &&& 0x3f).toInt64.toUInt64).toInt64) &&& (1 : Int64)).toInt32))] [(.int (1 : Int32))]))
      obtain ⟨fs33, hr33, hrun33, hended33, hW33, hsame33⟩ := X29.leave (v := some (.int (nar .boolean (1 : Int32)))) (fun h => by rw [Bd.returns] at h; cases h)
      refine own_ret (retN X29 hx (t := .boolean) Bd.returns (by simp) (hb hby at_266) hr33) hrun33 hended33 ?_
      refine ⟨_, _, rfl, ?_, ⟨_, rfl⟩, hW33, hsame33.mono (by decide) (by decide)⟩
      show Q0 Z q0 q1 q2 v3 v4 v5 h0 n0 _ T29.heap _
      rw [e29]
      exact ⟨rfl, N29⟩
    by_cases hc27 : pp < bt
    · refine own_step (fun _ k => XS.icmpNo X24.here hx rfl (hb hby at_167) rfl ((tlt hc27).2.1) k) ?_
      show own_Fin p.tables e below _ (T24.setTop (mkF m 170 #[.val (.long y4), .second, .val (.long y5), .second, .val (.long y6), .second, .val (.int v3), .val (.int v4), .val (.int v5), .val (.int wd), .val (.int bt), .val (.int en), .val (.int hw0), .val (.int rr), .val (.ref b9), .val (.int pp), .val (.int lim), .unset, .unset] []))
      refine own_step (fun _ k => XS.lloadN X24.here hx rfl (hb hby at_170) rfl k) ?_
      show own_Fin p.tables e below _ (T24.setTop (mkF m 171 #[.val (.long y4), .second, .val (.long y5), .second, .val (.long y6), .second, .val (.int v3), .val (.int v4), .val (.int v5), .val (.int wd), .val (.int bt), .val (.int en), .val (.int hw0), .val (.int rr), .val (.ref b9), .val (.int pp), .val (.int lim), .unset, .unset] [(.long y4)]))
      refine own_step (fun _ k => XS.lloadN X24.here hx rfl (hb hby at_171) rfl k) ?_
      show own_Fin p.tables e below _ (T24.setTop (mkF m 172 #[.val (.long y4), .second, .val (.long y5), .second, .val (.long y6), .second, .val (.int v3), .val (.int v4), .val (.int v5), .val (.int wd), .val (.int bt), .val (.int en), .val (.int hw0), .val (.int rr), .val (.ref b9), .val (.int pp), .val (.int lim), .unset, .unset] [(.long y5), (.long y4)]))
      refine own_step (fun _ k => XS.lload X24.here hx rfl (hb hby at_172) rfl k) ?_
      show own_Fin p.tables e below _ (T24.setTop (mkF m 174 #[.val (.long y4), .second, .val (.long y5), .second, .val (.long y6), .second, .val (.int v3), .val (.int v4), .val (.int v5), .val (.int wd), .val (.int bt), .val (.int en), .val (.int hw0), .val (.int rr), .val (.ref b9), .val (.int pp), .val (.int lim), .unset, .unset] [(.long y6), (.long y5), (.long y4)]))
      refine own_step (fun _ k => XS.iload X24.here hx rfl (hb hby at_174) rfl k) ?_
      show own_Fin p.tables e below _ (T24.setTop (mkF m 176 #[.val (.long y4), .second, .val (.long y5), .second, .val (.long y6), .second, .val (.int v3), .val (.int v4), .val (.int v5), .val (.int wd), .val (.int bt), .val (.int en), .val (.int hw0), .val (.int rr), .val (.ref b9), .val (.int pp), .val (.int lim), .unset, .unset] [(.int pp), (.long y6), (.long y5), (.long y4)]))
      obtain ⟨_, _, ⟨T34, L34, k34, n34⟩, -, X34, ⟨Lc34, hQ34, l34, y34, z34⟩, st34⟩ := Jvm.LawKit.callS X24 hx (y := (⟨"com/example/streamgist/streamgist/packed/PackedBitsRemovePinLaw", "bitOf", "(JJJI)I"⟩ : MethodName)) hown (mvT hZ (hw _ (List.mem_of_getElem? (i := 8) rfl))) (mvT hZ (hw _ (List.mem_of_getElem? (i := 9) rfl))) (mvT hZ (hw _ (List.mem_of_getElem? (i := 10) rfl))) (mvT hZ (hw _ (List.mem_of_getElem? (i := 11) rfl))) (by decide) (backOf (W := 0) (rm2 l Z a0 hw [] y4 y5 y6 pp  T24.heap n0 f25 ) hZ (hw _ (List.mem_of_getElem? (i := 11) rfl)) (hw _ (List.mem_of_getElem? (i := 10) rfl)) (by decide) (by decide)) (g := (mkF m 176 #[.val (.long y4), .second, .val (.long y5), .second, .val (.long y6), .second, .val (.int v3), .val (.int v4), .val (.int v5), .val (.int wd), .val (.int bt), .val (.int en), .val (.int hw0), .val (.int rr), .val (.ref b9), .val (.int pp), .val (.int lim), .unset, .unset] [(.int pp), (.long y6), (.long y5), (.long y4)])) rfl (by rw [hml]; rfl) (argsL := [(.long y4), (.long y5), (.long y6), (.int pp)]) (rest := []) (lenOf pd_1 rfl) rfl (by show 2 * 0 + _ ≤ _; exact Nat.le_of_eq rfl) (hb hby at_176) (fun _ _ => ⟨rfl, rfl, (by decide : 1 + 0 ≤ _), (by decide : 3 + 0 ≤ _)⟩)
      dsimp only [Pt.U, Pt.locs, Pt.cells, Pt.slots] at X34 l34 y34 z34 st34 hQ34
      subst l34 y34 z34
      obtain ⟨rfl, N34q, e34⟩ := hQ34
      have N34 := Fr.app N24 N34q
      refine own_step st34 ?_
      show own_Fin p.tables e below _ (T34.setTop (mkF m 179 #[.val (.long y4), .second, .val (.long y5), .second, .val (.long y6), .second, .val (.int v3), .val (.int v4), .val (.int v5), .val (.int wd), .val (.int bt), .val (.int en), .val (.int hw0), .val (.int rr), .val (.ref b9), .val (.int pp), .val (.int lim), .unset, .unset] [(.int (own_bo y4 y5 y6 pp))]))
      refine own_step (fun _ k => XS.istore X34.here hx rfl (hb hby at_179) rfl (l' := #[.val (.long y4), .second, .val (.long y5), .second, .val (.long y6), .second, .val (.int v3), .val (.int v4), .val (.int v5), .val (.int wd), .val (.int bt), .val (.int en), .val (.int hw0), .val (.int rr), .val (.ref b9), .val (.int pp), .val (.int lim), .val (.int (own_bo y4 y5 y6 pp)), .unset]) rfl k) ?_
      show own_Fin p.tables e below _ (T34.setTop (mkF m 181 #[.val (.long y4), .second, .val (.long y5), .second, .val (.long y6), .second, .val (.int v3), .val (.int v4), .val (.int v5), .val (.int wd), .val (.int bt), .val (.int en), .val (.int hw0), .val (.int rr), .val (.ref b9), .val (.int pp), .val (.int lim), .val (.int (own_bo y4 y5 y6 pp)), .unset] []))
      refine own_step (fun _ k => XS.goto X34.here hx rfl (pc0 := 181) (pc' := 235) rfl (hb hby at_181) (by decide) (by decide) k) ?_
      show own_Fin p.tables e below _ (T34.setTop (mkF m 235 #[.val (.long y4), .second, .val (.long y5), .second, .val (.long y6), .second, .val (.int v3), .val (.int v4), .val (.int v5), .val (.int wd), .val (.int bt), .val (.int en), .val (.int hw0), .val (.int rr), .val (.ref b9), .val (.int pp), .val (.int lim), .val (.int (own_bo y4 y5 y6 pp)), .unset] []))
      exact J28 T34 _ (own_bo y4 y5 y6 pp) X34 e34 N34 (by rw [if_pos hc27])
    · refine own_step (fun _ k => XS.icmpYes X24.here hx rfl (pc0 := 167) (pc' := 184) rfl (hb hby at_167) rfl ((flt hc27).2.1) (by decide) (by decide) k) ?_
      show own_Fin p.tables e below _ (T24.setTop (mkF m 184 #[.val (.long y4), .second, .val (.long y5), .second, .val (.long y6), .second, .val (.int v3), .val (.int v4), .val (.int v5), .val (.int wd), .val (.int bt), .val (.int en), .val (.int hw0), .val (.int rr), .val (.ref b9), .val (.int pp), .val (.int lim), .unset, .unset] []))
      refine own_step (fun _ k => XS.iload X24.here hx rfl (hb hby at_184) rfl k) ?_
      show own_Fin p.tables e below _ (T24.setTop (mkF m 186 #[.val (.long y4), .second, .val (.long y5), .second, .val (.long y6), .second, .val (.int v3), .val (.int v4), .val (.int v5), .val (.int wd), .val (.int bt), .val (.int en), .val (.int hw0), .val (.int rr), .val (.ref b9), .val (.int pp), .val (.int lim), .unset, .unset] [(.int pp)]))
      refine own_step (fun _ k => XS.iload X24.here hx rfl (hb hby at_186) rfl k) ?_
      show own_Fin p.tables e below _ (T24.setTop (mkF m 188 #[.val (.long y4), .second, .val (.long y5), .second, .val (.long y6), .second, .val (.int v3), .val (.int v4), .val (.int v5), .val (.int wd), .val (.int bt), .val (.int en), .val (.int hw0), .val (.int rr), .val (.ref b9), .val (.int pp), .val (.int lim), .unset, .unset] [(.int en), (.int pp)]))
      refine own_step (fun _ k => XS.iload X24.here hx rfl (hb hby at_188) rfl k) ?_
      show own_Fin p.tables e below _ (T24.setTop (mkF m 190 #[.val (.long y4), .second, .val (.long y5), .second, .val (.long y6), .second, .val (.int v3), .val (.int v4), .val (.int v5), .val (.int wd), .val (.int bt), .val (.int en), .val (.int hw0), .val (.int rr), .val (.ref b9), .val (.int pp), .val (.int lim), .unset, .unset] [(.int wd), (.int en), (.int pp)]))
      refine own_step (fun _ k => XS.isub X24.here hx rfl (hb hby at_190) rfl k) ?_
      show own_Fin p.tables e below _ (T24.setTop (mkF m 191 #[.val (.long y4), .second, .val (.long y5), .second, .val (.long y6), .second, .val (.int v3), .val (.int v4), .val (.int v5), .val (.int wd), .val (.int bt), .val (.int en), .val (.int hw0), .val (.int rr), .val (.ref b9), .val (.int pp), .val (.int lim), .unset, .unset] [(.int (en - wd)), (.int pp)]))
      by_cases hc35 : pp < (en - wd)
      · refine own_step (fun _ k => XS.icmpNo X24.here hx rfl (hb hby at_191) rfl ((tlt hc35).2.1) k) ?_
        show own_Fin p.tables e below _ (T24.setTop (mkF m 194 #[.val (.long y4), .second, .val (.long y5), .second, .val (.long y6), .second, .val (.int v3), .val (.int v4), .val (.int v5), .val (.int wd), .val (.int bt), .val (.int en), .val (.int hw0), .val (.int rr), .val (.ref b9), .val (.int pp), .val (.int lim), .unset, .unset] []))
        refine own_step (fun _ k => XS.lloadN X24.here hx rfl (hb hby at_194) rfl k) ?_
        show own_Fin p.tables e below _ (T24.setTop (mkF m 195 #[.val (.long y4), .second, .val (.long y5), .second, .val (.long y6), .second, .val (.int v3), .val (.int v4), .val (.int v5), .val (.int wd), .val (.int bt), .val (.int en), .val (.int hw0), .val (.int rr), .val (.ref b9), .val (.int pp), .val (.int lim), .unset, .unset] [(.long y4)]))
        refine own_step (fun _ k => XS.lloadN X24.here hx rfl (hb hby at_195) rfl k) ?_
        show own_Fin p.tables e below _ (T24.setTop (mkF m 196 #[.val (.long y4), .second, .val (.long y5), .second, .val (.long y6), .second, .val (.int v3), .val (.int v4), .val (.int v5), .val (.int wd), .val (.int bt), .val (.int en), .val (.int hw0), .val (.int rr), .val (.ref b9), .val (.int pp), .val (.int lim), .unset, .unset] [(.long y5), (.long y4)]))
        refine own_step (fun _ k => XS.lload X24.here hx rfl (hb hby at_196) rfl k) ?_
        show own_Fin p.tables e below _ (T24.setTop (mkF m 198 #[.val (.long y4), .second, .val (.long y5), .second, .val (.long y6), .second, .val (.int v3), .val (.int v4), .val (.int v5), .val (.int wd), .val (.int bt), .val (.int en), .val (.int hw0), .val (.int rr), .val (.ref b9), .val (.int pp), .val (.int lim), .unset, .unset] [(.long y6), (.long y5), (.long y4)]))
        refine own_step (fun _ k => XS.iload X24.here hx rfl (hb hby at_198) rfl k) ?_
        show own_Fin p.tables e below _ (T24.setTop (mkF m 200 #[.val (.long y4), .second, .val (.long y5), .second, .val (.long y6), .second, .val (.int v3), .val (.int v4), .val (.int v5), .val (.int wd), .val (.int bt), .val (.int en), .val (.int hw0), .val (.int rr), .val (.ref b9), .val (.int pp), .val (.int lim), .unset, .unset] [(.int pp), (.long y6), (.long y5), (.long y4)]))
        refine own_step (fun _ k => XS.iload X24.here hx rfl (hb hby at_200) rfl k) ?_
        show own_Fin p.tables e below _ (T24.setTop (mkF m 202 #[.val (.long y4), .second, .val (.long y5), .second, .val (.long y6), .second, .val (.int v3), .val (.int v4), .val (.int v5), .val (.int wd), .val (.int bt), .val (.int en), .val (.int hw0), .val (.int rr), .val (.ref b9), .val (.int pp), .val (.int lim), .unset, .unset] [(.int wd), (.int pp), (.long y6), (.long y5), (.long y4)]))
        refine own_step (fun _ k => XS.iadd X24.here hx rfl (hb hby at_202) rfl k) ?_
        show own_Fin p.tables e below _ (T24.setTop (mkF m 203 #[.val (.long y4), .second, .val (.long y5), .second, .val (.long y6), .second, .val (.int v3), .val (.int v4), .val (.int v5), .val (.int wd), .val (.int bt), .val (.int en), .val (.int hw0), .val (.int rr), .val (.ref b9), .val (.int pp), .val (.int lim), .unset, .unset] [(.int (pp + wd)), (.long y6), (.long y5), (.long y4)]))
        obtain ⟨_, _, ⟨T36, L36, k36, n36⟩, -, X36, ⟨Lc36, hQ36, l36, y36, z36⟩, st36⟩ := Jvm.LawKit.callS X24 hx (y := (⟨"com/example/streamgist/streamgist/packed/PackedBitsRemovePinLaw", "bitOf", "(JJJI)I"⟩ : MethodName)) hown (mvT hZ (hw _ (List.mem_of_getElem? (i := 8) rfl))) (mvT hZ (hw _ (List.mem_of_getElem? (i := 9) rfl))) (mvT hZ (hw _ (List.mem_of_getElem? (i := 10) rfl))) (mvT hZ (hw _ (List.mem_of_getElem? (i := 11) rfl))) (by decide) (backOf (W := 0) (rm2 l Z a0 hw [] y4 y5 y6 (pp + wd)  T24.heap n0 f25 ) hZ (hw _ (List.mem_of_getElem? (i := 11) rfl)) (hw _ (List.mem_of_getElem? (i := 10) rfl)) (by decide) (by decide)) (g := (mkF m 203 #[.val (.long y4), .second, .val (.long y5), .second, .val (.long y6), .second, .val (.int v3), .val (.int v4), .val (.int v5), .val (.int wd), .val (.int bt), .val (.int en), .val (.int hw0), .val (.int rr), .val (.ref b9), .val (.int pp), .val (.int lim), .unset, .unset] [(.int (pp + wd)), (.long y6), (.long y5), (.long y4)])) rfl (by rw [hml]; rfl) (argsL := [(.long y4), (.long y5), (.long y6), (.int (pp + wd))]) (rest := []) (lenOf pd_1 rfl) rfl (by show 2 * 0 + _ ≤ _; exact Nat.le_of_eq rfl) (hb hby at_203) (fun _ _ => ⟨rfl, rfl, (by decide : 1 + 0 ≤ _), (by decide : 3 + 0 ≤ _)⟩)
        dsimp only [Pt.U, Pt.locs, Pt.cells, Pt.slots] at X36 l36 y36 z36 st36 hQ36
        subst l36 y36 z36
        obtain ⟨rfl, N36q, e36⟩ := hQ36
        have N36 := Fr.app N24 N36q
        refine own_step st36 ?_
        show own_Fin p.tables e below _ (T36.setTop (mkF m 206 #[.val (.long y4), .second, .val (.long y5), .second, .val (.long y6), .second, .val (.int v3), .val (.int v4), .val (.int v5), .val (.int wd), .val (.int bt), .val (.int en), .val (.int hw0), .val (.int rr), .val (.ref b9), .val (.int pp), .val (.int lim), .unset, .unset] [(.int (own_bo y4 y5 y6 (pp + wd)))]))
        refine own_step (fun _ k => XS.istore X36.here hx rfl (hb hby at_206) rfl (l' := #[.val (.long y4), .second, .val (.long y5), .second, .val (.long y6), .second, .val (.int v3), .val (.int v4), .val (.int v5), .val (.int wd), .val (.int bt), .val (.int en), .val (.int hw0), .val (.int rr), .val (.ref b9), .val (.int pp), .val (.int lim), .val (.int (own_bo y4 y5 y6 (pp + wd))), .unset]) rfl k) ?_
        show own_Fin p.tables e below _ (T36.setTop (mkF m 208 #[.val (.long y4), .second, .val (.long y5), .second, .val (.long y6), .second, .val (.int v3), .val (.int v4), .val (.int v5), .val (.int wd), .val (.int bt), .val (.int en), .val (.int hw0), .val (.int rr), .val (.ref b9), .val (.int pp), .val (.int lim), .val (.int (own_bo y4 y5 y6 (pp + wd))), .unset] []))
        refine own_step (fun _ k => XS.goto X36.here hx rfl (pc0 := 208) (pc' := 235) rfl (hb hby at_208) (by decide) (by decide) k) ?_
        show own_Fin p.tables e below _ (T36.setTop (mkF m 235 #[.val (.long y4), .second, .val (.long y5), .second, .val (.long y6), .second, .val (.int v3), .val (.int v4), .val (.int v5), .val (.int wd), .val (.int bt), .val (.int en), .val (.int hw0), .val (.int rr), .val (.ref b9), .val (.int pp), .val (.int lim), .val (.int (own_bo y4 y5 y6 (pp + wd))), .unset] []))
        exact J28 T36 _ (own_bo y4 y5 y6 (pp + wd)) X36 e36 N36 (by rw [if_neg hc27, if_pos hc35])
      · refine own_step (fun _ k => XS.icmpYes X24.here hx rfl (pc0 := 191) (pc' := 211) rfl (hb hby at_191) rfl ((flt hc35).2.1) (by decide) (by decide) k) ?_
        show own_Fin p.tables e below _ (T24.setTop (mkF m 211 #[.val (.long y4), .second, .val (.long y5), .second, .val (.long y6), .second, .val (.int v3), .val (.int v4), .val (.int v5), .val (.int wd), .val (.int bt), .val (.int en), .val (.int hw0), .val (.int rr), .val (.ref b9), .val (.int pp), .val (.int lim), .unset, .unset] []))
        refine own_step (fun _ k => XS.iload X24.here hx rfl (hb hby at_211) rfl k) ?_
        show own_Fin p.tables e below _ (T24.setTop (mkF m 213 #[.val (.long y4), .second, .val (.long y5), .second, .val (.long y6), .second, .val (.int v3), .val (.int v4), .val (.int v5), .val (.int wd), .val (.int bt), .val (.int en), .val (.int hw0), .val (.int rr), .val (.ref b9), .val (.int pp), .val (.int lim), .unset, .unset] [(.int pp)]))
        refine own_step (fun _ k => XS.iload X24.here hx rfl (hb hby at_213) rfl k) ?_
        show own_Fin p.tables e below _ (T24.setTop (mkF m 215 #[.val (.long y4), .second, .val (.long y5), .second, .val (.long y6), .second, .val (.int v3), .val (.int v4), .val (.int v5), .val (.int wd), .val (.int bt), .val (.int en), .val (.int hw0), .val (.int rr), .val (.ref b9), .val (.int pp), .val (.int lim), .unset, .unset] [(.int lim), (.int pp)]))
        by_cases hc37 : pp < lim
        · refine own_step (fun _ k => XS.icmpNo X24.here hx rfl (hb hby at_215) rfl ((tlt hc37).2.1) k) ?_
          show own_Fin p.tables e below _ (T24.setTop (mkF m 218 #[.val (.long y4), .second, .val (.long y5), .second, .val (.long y6), .second, .val (.int v3), .val (.int v4), .val (.int v5), .val (.int wd), .val (.int bt), .val (.int en), .val (.int hw0), .val (.int rr), .val (.ref b9), .val (.int pp), .val (.int lim), .unset, .unset] []))
          refine own_step (fun _ k => XS.iconst X24.here hx rfl (hb hby at_218) k) ?_
          show own_Fin p.tables e below _ (T24.setTop (mkF m 219 #[.val (.long y4), .second, .val (.long y5), .second, .val (.long y6), .second, .val (.int v3), .val (.int v4), .val (.int v5), .val (.int wd), .val (.int bt), .val (.int en), .val (.int hw0), .val (.int rr), .val (.ref b9), .val (.int pp), .val (.int lim), .unset, .unset] [(.int (0 : Int32))]))
          refine own_step (fun _ k => XS.istore X24.here hx rfl (hb hby at_219) rfl (l' := #[.val (.long y4), .second, .val (.long y5), .second, .val (.long y6), .second, .val (.int v3), .val (.int v4), .val (.int v5), .val (.int wd), .val (.int bt), .val (.int en), .val (.int hw0), .val (.int rr), .val (.ref b9), .val (.int pp), .val (.int lim), .val (.int (0 : Int32)), .unset]) rfl k) ?_
          show own_Fin p.tables e below _ (T24.setTop (mkF m 221 #[.val (.long y4), .second, .val (.long y5), .second, .val (.long y6), .second, .val (.int v3), .val (.int v4), .val (.int v5), .val (.int wd), .val (.int bt), .val (.int en), .val (.int hw0), .val (.int rr), .val (.ref b9), .val (.int pp), .val (.int lim), .val (.int (0 : Int32)), .unset] []))
          refine own_step (fun _ k => XS.goto X24.here hx rfl (pc0 := 221) (pc' := 235) rfl (hb hby at_221) (by decide) (by decide) k) ?_
          show own_Fin p.tables e below _ (T24.setTop (mkF m 235 #[.val (.long y4), .second, .val (.long y5), .second, .val (.long y6), .second, .val (.int v3), .val (.int v4), .val (.int v5), .val (.int wd), .val (.int bt), .val (.int en), .val (.int hw0), .val (.int rr), .val (.ref b9), .val (.int pp), .val (.int lim), .val (.int (0 : Int32)), .unset] []))
          exact J28 T24 _ (0 : Int32) X24 rfl N24 (by rw [if_neg hc27, if_neg hc35, if_pos hc37])
        · refine own_step (fun _ k => XS.icmpYes X24.here hx rfl (pc0 := 215) (pc' := 224) rfl (hb hby at_215) rfl ((flt hc37).2.1) (by decide) (by decide) k) ?_
          show own_Fin p.tables e below _ (T24.setTop (mkF m 224 #[.val (.long y4), .second, .val (.long y5), .second, .val (.long y6), .second, .val (.int v3), .val (.int v4), .val (.int v5), .val (.int wd), .val (.int bt), .val (.int en), .val (.int hw0), .val (.int rr), .val (.ref b9), .val (.int pp), .val (.int lim), .unset, .unset] []))
          refine own_step (fun _ k => XS.lloadN X24.here hx rfl (hb hby at_224) rfl k) ?_
          show own_Fin p.tables e below _ (T24.setTop (mkF m 225 #[.val (.long y4), .second, .val (.long y5), .second, .val (.long y6), .second, .val (.int v3), .val (.int v4), .val (.int v5), .val (.int wd), .val (.int bt), .val (.int en), .val (.int hw0), .val (.int rr), .val (.ref b9), .val (.int pp), .val (.int lim), .unset, .unset] [(.long y4)]))
          refine own_step (fun _ k => XS.lloadN X24.here hx rfl (hb hby at_225) rfl k) ?_
          show own_Fin p.tables e below _ (T24.setTop (mkF m 226 #[.val (.long y4), .second, .val (.long y5), .second, .val (.long y6), .second, .val (.int v3), .val (.int v4), .val (.int v5), .val (.int wd), .val (.int bt), .val (.int en), .val (.int hw0), .val (.int rr), .val (.ref b9), .val (.int pp), .val (.int lim), .unset, .unset] [(.long y5), (.long y4)]))
          refine own_step (fun _ k => XS.lload X24.here hx rfl (hb hby at_226) rfl k) ?_
          show own_Fin p.tables e below _ (T24.setTop (mkF m 228 #[.val (.long y4), .second, .val (.long y5), .second, .val (.long y6), .second, .val (.int v3), .val (.int v4), .val (.int v5), .val (.int wd), .val (.int bt), .val (.int en), .val (.int hw0), .val (.int rr), .val (.ref b9), .val (.int pp), .val (.int lim), .unset, .unset] [(.long y6), (.long y5), (.long y4)]))
          refine own_step (fun _ k => XS.iload X24.here hx rfl (hb hby at_228) rfl k) ?_
          show own_Fin p.tables e below _ (T24.setTop (mkF m 230 #[.val (.long y4), .second, .val (.long y5), .second, .val (.long y6), .second, .val (.int v3), .val (.int v4), .val (.int v5), .val (.int wd), .val (.int bt), .val (.int en), .val (.int hw0), .val (.int rr), .val (.ref b9), .val (.int pp), .val (.int lim), .unset, .unset] [(.int pp), (.long y6), (.long y5), (.long y4)]))
          obtain ⟨_, _, ⟨T38, L38, k38, n38⟩, -, X38, ⟨Lc38, hQ38, l38, y38, z38⟩, st38⟩ := Jvm.LawKit.callS X24 hx (y := (⟨"com/example/streamgist/streamgist/packed/PackedBitsRemovePinLaw", "bitOf", "(JJJI)I"⟩ : MethodName)) hown (mvT hZ (hw _ (List.mem_of_getElem? (i := 8) rfl))) (mvT hZ (hw _ (List.mem_of_getElem? (i := 9) rfl))) (mvT hZ (hw _ (List.mem_of_getElem? (i := 10) rfl))) (mvT hZ (hw _ (List.mem_of_getElem? (i := 11) rfl))) (by decide) (backOf (W := 0) (rm2 l Z a0 hw [] y4 y5 y6 pp  T24.heap n0 f25 ) hZ (hw _ (List.mem_of_getElem? (i := 11) rfl)) (hw _ (List.mem_of_getElem? (i := 10) rfl)) (by decide) (by decide)) (g := (mkF m 230 #[.val (.long y4), .second, .val (.long y5), .second, .val (.long y6), .second, .val (.int v3), .val (.int v4), .val (.int v5), .val (.int wd), .val (.int bt), .val (.int en), .val (.int hw0), .val (.int rr), .val (.ref b9), .val (.int pp), .val (.int lim), .unset, .unset] [(.int pp), (.long y6), (.long y5), (.long y4)])) rfl (by rw [hml]; rfl) (argsL := [(.long y4), (.long y5), (.long y6), (.int pp)]) (rest := []) (lenOf pd_1 rfl) rfl (by show 2 * 0 + _ ≤ _; exact Nat.le_of_eq rfl) (hb hby at_230) (fun _ _ => ⟨rfl, rfl, (by decide : 1 + 0 ≤ _), (by decide : 3 + 0 ≤ _)⟩)
          dsimp only [Pt.U, Pt.locs, Pt.cells, Pt.slots] at X38 l38 y38 z38 st38 hQ38
          subst l38 y38 z38
          obtain ⟨rfl, N38q, e38⟩ := hQ38
          have N38 := Fr.app N24 N38q
          refine own_step st38 ?_
          show own_Fin p.tables e below _ (T38.setTop (mkF m 233 #[.val (.long y4), .second, .val (.long y5), .second, .val (.long y6), .second, .val (.int v3), .val (.int v4), .val (.int v5), .val (.int wd), .val (.int bt), .val (.int en), .val (.int hw0), .val (.int rr), .val (.ref b9), .val (.int pp), .val (.int lim), .unset, .unset] [(.int (own_bo y4 y5 y6 pp))]))
          refine own_step (fun _ k => XS.istore X38.here hx rfl (hb hby at_233) rfl (l' := #[.val (.long y4), .second, .val (.long y5), .second, .val (.long y6), .second, .val (.int v3), .val (.int v4), .val (.int v5), .val (.int wd), .val (.int bt), .val (.int en), .val (.int hw0), .val (.int rr), .val (.ref b9), .val (.int pp), .val (.int lim), .val (.int (own_bo y4 y5 y6 pp)), .unset]) rfl k) ?_
          show own_Fin p.tables e below _ (T38.setTop (mkF m 235 #[.val (.long y4), .second, .val (.long y5), .second, .val (.long y6), .second, .val (.int v3), .val (.int v4), .val (.int v5), .val (.int wd), .val (.int bt), .val (.int en), .val (.int hw0), .val (.int rr), .val (.ref b9), .val (.int pp), .val (.int lim), .val (.int (own_bo y4 y5 y6 pp)), .unset] []))
          exact J28 T38 _ (own_bo y4 y5 y6 pp) X38 e38 N38 (by rw [if_neg hc27, if_neg hc35, if_neg hc37])
  by_cases hc1 : rr = (0 : Int32)
  · refine own_step (fun _ k => XS.ifYes X0.here hx rfl (pc0 := 64) (pc' := 109) rfl (hb hby at_64) rfl ((if0 _ _).trans (teq hc1).1) (by decide) (by decide) k) ?_
    show own_Fin p.tables e below _ (s₁.setTop (mkF m 109 #[.val (.long q0), .second, .val (.long q1), .second, .val (.long q2), .second, .val (.int v3), .val (.int v4), .val (.int v5), .val (.int wd), .val (.int bt), .val (.int en), .val (.int hw0), .val (.int rr), .unset, .unset, .unset, .unset, .unset] []))
    exact J2 s₁ _ q0 q1 q2 (.unset) (.unset) X0 e0 N0 (by rw [if_pos hc1]) (by rw [if_pos hc1]) (by rw [if_pos hc1]) (by first | exact own_Two.u | exact own_Two.l | assumption)
  · refine own_step (fun _ k => XS.ifNo X0.here hx rfl (hb hby at_64) rfl ((if0 _ _).trans (feq hc1).1) k) ?_
    show own_Fin p.tables e below _ (s₁.setTop (mkF m 67 #[.val (.long q0), .second, .val (.long q1), .second, .val (.long q2), .second, .val (.int v3), .val (.int v4), .val (.int v5), .val (.int wd), .val (.int bt), .val (.int en), .val (.int hw0), .val (.int rr), .unset, .unset, .unset, .unset, .unset] []))
    refine own_step (fun _ k => XS.lconst X0.here hx rfl (hb hby at_67) k) ?_
    show own_Fin p.tables e below _ (s₁.setTop (mkF m 68 #[.val (.long q0), .second, .val (.long q1), .second, .val (.long q2), .second, .val (.int v3), .val (.int v4), .val (.int v5), .val (.int wd), .val (.int bt), .val (.int en), .val (.int hw0), .val (.int rr), .unset, .unset, .unset, .unset, .unset] [(.long (1 : Int64))]))
    refine own_step (fun _ k => XS.iload X0.here hx rfl (hb hby at_68) rfl k) ?_
    show own_Fin p.tables e below _ (s₁.setTop (mkF m 70 #[.val (.long q0), .second, .val (.long q1), .second, .val (.long q2), .second, .val (.int v3), .val (.int v4), .val (.int v5), .val (.int wd), .val (.int bt), .val (.int en), .val (.int hw0), .val (.int rr), .unset, .unset, .unset, .unset, .unset] [(.int rr), (.long (1 : Int64))]))
    refine own_step (fun _ k => XS.lshl X0.here hx rfl (hb hby at_70) rfl k) ?_
    show own_Fin p.tables e below _ (s₁.setTop (mkF m 71 #[.val (.long q0), .second, .val (.long q1), .second, .val (.long q2), .second, .val (.int v3), .val (.int v4), .val (.int v5), .val (.int wd), .val (.int bt), .val (.int en), .val (.int hw0), .val (.int rr), .unset, .unset, .unset, .unset, .unset] [(.long ((1 : Int64) <<< (rr &&& 0x3f).toInt64))]))
    refine own_step (fun _ k => XS.lconst X0.here hx rfl (hb hby at_71) k) ?_
    show own_Fin p.tables e below _ (s₁.setTop (mkF m 72 #[.val (.long q0), .second, .val (.long q1), .second, .val (.long q2), .second, .val (.int v3), .val (.int v4), .val (.int v5), .val (.int wd), .val (.int bt), .val (.int en), .val (.int hw0), .val (.int rr), .unset, .unset, .unset, .unset, .unset] [(.long (1 : Int64)), (.long ((1 : Int64) <<< (rr &&& 0x3f).toInt64))]))
    refine own_step (fun _ k => XS.lsub X0.here hx rfl (hb hby at_72) rfl k) ?_
    show own_Fin p.tables e below _ (s₁.setTop (mkF m 73 #[.val (.long q0), .second, .val (.long q1), .second, .val (.long q2), .second, .val (.int v3), .val (.int v4), .val (.int v5), .val (.int wd), .val (.int bt), .val (.int en), .val (.int hw0), .val (.int rr), .unset, .unset, .unset, .unset, .unset] [(.long (((1 : Int64) <<< (rr &&& 0x3f).toInt64) - (1 : Int64)))]))
    refine own_step (fun _ k => XS.lstore X0.here hx rfl (hb hby at_73) rfl (l' := #[.val (.long q0), .second, .val (.long q1), .second, .val (.long q2), .second, .val (.int v3), .val (.int v4), .val (.int v5), .val (.int wd), .val (.int bt), .val (.int en), .val (.int hw0), .val (.int rr), .val (.long (((1 : Int64) <<< (rr &&& 0x3f).toInt64) - (1 : Int64))), .second, .unset, .unset, .unset]) rfl k) ?_
    show own_Fin p.tables e below _ (s₁.setTop (mkF m 75 #[.val (.long q0), .second, .val (.long q1), .second, .val (.long q2), .second, .val (.int v3), .val (.int v4), .val (.int v5), .val (.int wd), .val (.int bt), .val (.int en), .val (.int hw0), .val (.int rr), .val (.long (((1 : Int64) <<< (rr &&& 0x3f).toInt64) - (1 : Int64))), .second, .unset, .unset, .unset] []))
    refine own_step (fun _ k => XS.iload X0.here hx rfl (hb hby at_75) rfl k) ?_
    show own_Fin p.tables e below _ (s₁.setTop (mkF m 77 #[.val (.long q0), .second, .val (.long q1), .second, .val (.long q2), .second, .val (.int v3), .val (.int v4), .val (.int v5), .val (.int wd), .val (.int bt), .val (.int en), .val (.int hw0), .val (.int rr), .val (.long (((1 : Int64) <<< (rr &&& 0x3f).toInt64) - (1 : Int64))), .second, .unset, .unset, .unset] [(.int hw0)]))
    by_cases hc39 : hw0 = (0 : Int32)
    · refine own_step (fun _ k => XS.ifNo X0.here hx rfl (hb hby at_77) rfl ((if0 _ _).trans (teq hc39).2) k) ?_
      show own_Fin p.tables e below _ (s₁.setTop (mkF m 80 #[.val (.long q0), .second, .val (.long q1), .second, .val (.long q2), .second, .val (.int v3), .val (.int v4), .val (.int v5), .val (.int wd), .val (.int bt), .val (.int en), .val (.int hw0), .val (.int rr), .val (.long (((1 : Int64) <<< (rr &&& 0x3f).toInt64) - (1 : Int64))), .second, .unset, .unset, .unset] []))
      refine own_step (fun _ k => XS.lloadN X0.here hx rfl (hb hby at_80) rfl k) ?_
      show own_Fin p.tables e below _ (s₁.setTop (mkF m 81 #[.val (.long q0), .second, .val (.long q1), .second, .val (.long q2), .second, .val (.int v3), .val (.int v4), .val (.int v5), .val (.int wd), .val (.int bt), .val (.int en), .val (.int hw0), .val (.int rr), .val (.long (((1 : Int64) <<< (rr &&& 0x3f).toInt64) - (1 : Int64))), .second, .unset, .unset, .unset] [(.long q0)]))
      refine own_step (fun _ k => XS.lload X0.here hx rfl (hb hby at_81) rfl k) ?_
      show own_Fin p.tables e below _ (s₁.setTop (mkF m 83 #[.val (.long q0), .second, .val (.long q1), .second, .val (.long q2), .second, .val (.int v3), .val (.int v4), .val (.int v5), .val (.int wd), .val (.int bt), .val (.int en), .val (.int hw0), .val (.int rr), .val (.long (((1 : Int64) <<< (rr &&& 0x3f).toInt64) - (1 : Int64))), .second, .unset, .unset, .unset] [(.long (((1 : Int64) <<< (rr &&& 0x3f).toInt64) - (1 : Int64))), (.long q0)]))
      refine own_step (fun _ k => XS.land X0.here hx rfl (hb hby at_83) rfl k) ?_
      show own_Fin p.tables e below _ (s₁.setTop (mkF m 84 #[.val (.long q0), .second, .val (.long q1), .second, .val (.long q2), .second, .val (.int v3), .val (.int v4), .val (.int v5), .val (.int wd), .val (.int bt), .val (.int en), .val (.int hw0), .val (.int rr), .val (.long (((1 : Int64) <<< (rr &&& 0x3f).toInt64) - (1 : Int64))), .second, .unset, .unset, .unset] [(.long (q0 &&& (((1 : Int64) <<< (rr &&& 0x3f).toInt64) - (1 : Int64))))]))
      refine own_step (fun _ k => XS.lstoreN X0.here hx rfl (hb hby at_84) rfl (l' := #[.val (.long (q0 &&& (((1 : Int64) <<< (rr &&& 0x3f).toInt64) - (1 : Int64)))), .second, .val (.long q1), .second, .val (.long q2), .second, .val (.int v3), .val (.int v4), .val (.int v5), .val (.int wd), .val (.int bt), .val (.int en), .val (.int hw0), .val (.int rr), .val (.long (((1 : Int64) <<< (rr &&& 0x3f).toInt64) - (1 : Int64))), .second, .unset, .unset, .unset]) rfl k) ?_
      show own_Fin p.tables e below _ (s₁.setTop (mkF m 85 #[.val (.long (q0 &&& (((1 : Int64) <<< (rr &&& 0x3f).toInt64) - (1 : Int64)))), .second, .val (.long q1), .second, .val (.long q2), .second, .val (.int v3), .val (.int v4), .val (.int v5), .val (.int wd), .val (.int bt), .val (.int en), .val (.int hw0), .val (.int rr), .val (.long (((1 : Int64) <<< (rr &&& 0x3f).toInt64) - (1 : Int64))), .second, .unset, .unset, .unset] []))
      refine own_step (fun _ k => XS.goto X0.here hx rfl (pc0 := 85) (pc' := 109) rfl (hb hby at_85) (by decide) (by decide) k) ?_
      show own_Fin p.tables e below _ (s₁.setTop (mkF m 109 #[.val (.long (q0 &&& (((1 : Int64) <<< (rr &&& 0x3f).toInt64) - (1 : Int64)))), .second, .val (.long q1), .second, .val (.long q2), .second, .val (.int v3), .val (.int v4), .val (.int v5), .val (.int wd), .val (.int bt), .val (.int en), .val (.int hw0), .val (.int rr), .val (.long (((1 : Int64) <<< (rr &&& 0x3f).toInt64) - (1 : Int64))), .second, .unset, .unset, .unset] []))
      exact J2 s₁ _ (q0 &&& (((1 : Int64) <<< (rr &&& 0x3f).toInt64) - (1 : Int64))) q1 q2 (.val (.long (((1 : Int64) <<< (rr &&& 0x3f).toInt64) - (1 : Int64)))) (.second) X0 e0 N0 (by rw [if_neg hc1, if_pos hc39]) (by rw [if_neg hc1, if_pos hc39]) (by rw [if_neg hc1, if_pos hc39]) (by first | exact own_Two.u | exact own_Two.l | assumption)
    · refine own_step (fun _ k => XS.ifYes X0.here hx rfl (pc0 := 77) (pc' := 88) rfl (hb hby at_77) rfl ((if0 _ _).trans (feq hc39).2) (by decide) (by decide) k) ?_
      show own_Fin p.tables e below _ (s₁.setTop (mkF m 88 #[.val (.long q0), .second, .val (.long q1), .second, .val (.long q2), .second, .val (.int v3), .val (.int v4), .val (.int v5), .val (.int wd), .val (.int bt), .val (.int en), .val (.int hw0), .val (.int rr), .val (.long (((1 : Int64) <<< (rr &&& 0x3f).toInt64) - (1 : Int64))), .second, .unset, .unset, .unset] []))
      refine own_step (fun _ k => XS.iload X0.here hx rfl (hb hby at_88) rfl k) ?_
      show own_Fin p.tables e below _ (s₁.setTop (mkF m 90 #[.val (.long q0), .second, .val (.long q1), .second, .val (.long q2), .second, .val (.int v3), .val (.int v4), .val (.int v5), .val (.int wd), .val (.int bt), .val (.int en), .val (.int hw0), .val (.int rr), .val (.long (((1 : Int64) <<< (rr &&& 0x3f).toInt64) - (1 : Int64))), .second, .unset, .unset, .unset] [(.int hw0)]))
      refine own_step (fun _ k => XS.iconst X0.here hx rfl (hb hby at_90) k) ?_
      show own_Fin p.tables e below _ (s₁.setTop (mkF m 91 #[.val (.long q0), .second, .val (.long q1), .second, .val (.long q2), .second, .val (.int v3), .val (.int v4), .val (.int v5), .val (.int wd), .val (.int bt), .val (.int en), .val (.int hw0), .val (.int rr), .val (.long (((1 : Int64) <<< (rr &&& 0x3f).toInt64) - (1 : Int64))), .second, .unset, .unset, .unset] [(.int (1 : Int32)), (.int hw0)]))
      by_cases hc40 : hw0 = (1 : Int32)
      · refine own_step (fun _ k => XS.icmpNo X0.here hx rfl (hb hby at_91) rfl ((teq hc40).2) k) ?_
        show own_Fin p.tables e below _ (s₁.setTop (mkF m 94 #[.val (.long q0), .second, .val (.long q1), .second, .val (.long q2), .second, .val (.int v3), .val (.int v4), .val (.int v5), .val (.int wd), .val (.int bt), .val (.int en), .val (.int hw0), .val (.int rr), .val (.long (((1 : Int64) <<< (rr &&& 0x3f).toInt64) - (1 : Int64))), .second, .unset, .unset, .unset] []))
        refine own_step (fun _ k => XS.lloadN X0.here hx rfl (hb hby at_94) rfl k) ?_
        show own_Fin p.tables e below _ (s₁.setTop (mkF m 95 #[.val (.long q0), .second, .val (.long q1), .second, .val (.long q2), .second, .val (.int v3), .val (.int v4), .val (.int v5), .val (.int wd), .val (.int bt), .val (.int en), .val (.int hw0), .val (.int rr), .val (.long (((1 : Int64) <<< (rr &&& 0x3f).toInt64) - (1 : Int64))), .second, .unset, .unset, .unset] [(.long q1)]))
        refine own_step (fun _ k => XS.lload X0.here hx rfl (hb hby at_95) rfl k) ?_
        show own_Fin p.tables e below _ (s₁.setTop (mkF m 97 #[.val (.long q0), .second, .val (.long q1), .second, .val (.long q2), .second, .val (.int v3), .val (.int v4), .val (.int v5), .val (.int wd), .val (.int bt), .val (.int en), .val (.int hw0), .val (.int rr), .val (.long (((1 : Int64) <<< (rr &&& 0x3f).toInt64) - (1 : Int64))), .second, .unset, .unset, .unset] [(.long (((1 : Int64) <<< (rr &&& 0x3f).toInt64) - (1 : Int64))), (.long q1)]))
        refine own_step (fun _ k => XS.land X0.here hx rfl (hb hby at_97) rfl k) ?_
        show own_Fin p.tables e below _ (s₁.setTop (mkF m 98 #[.val (.long q0), .second, .val (.long q1), .second, .val (.long q2), .second, .val (.int v3), .val (.int v4), .val (.int v5), .val (.int wd), .val (.int bt), .val (.int en), .val (.int hw0), .val (.int rr), .val (.long (((1 : Int64) <<< (rr &&& 0x3f).toInt64) - (1 : Int64))), .second, .unset, .unset, .unset] [(.long (q1 &&& (((1 : Int64) <<< (rr &&& 0x3f).toInt64) - (1 : Int64))))]))
        refine own_step (fun _ k => XS.lstoreN X0.here hx rfl (hb hby at_98) rfl (l' := #[.val (.long q0), .second, .val (.long (q1 &&& (((1 : Int64) <<< (rr &&& 0x3f).toInt64) - (1 : Int64)))), .second, .val (.long q2), .second, .val (.int v3), .val (.int v4), .val (.int v5), .val (.int wd), .val (.int bt), .val (.int en), .val (.int hw0), .val (.int rr), .val (.long (((1 : Int64) <<< (rr &&& 0x3f).toInt64) - (1 : Int64))), .second, .unset, .unset, .unset]) rfl k) ?_
        show own_Fin p.tables e below _ (s₁.setTop (mkF m 99 #[.val (.long q0), .second, .val (.long (q1 &&& (((1 : Int64) <<< (rr &&& 0x3f).toInt64) - (1 : Int64)))), .second, .val (.long q2), .second, .val (.int v3), .val (.int v4), .val (.int v5), .val (.int wd), .val (.int bt), .val (.int en), .val (.int hw0), .val (.int rr), .val (.long (((1 : Int64) <<< (rr &&& 0x3f).toInt64) - (1 : Int64))), .second, .unset, .unset, .unset] []))
        refine own_step (fun _ k => XS.goto X0.here hx rfl (pc0 := 99) (pc' := 109) rfl (hb hby at_99) (by decide) (by decide) k) ?_
        show own_Fin p.tables e below _ (s₁.setTop (mkF m 109 #[.val (.long q0), .second, .val (.long (q1 &&& (((1 : Int64) <<< (rr &&& 0x3f).toInt64) - (1 : Int64)))), .second, .val (.long q2), .second, .val (.int v3), .val (.int v4), .val (.int v5), .val (.int wd), .val (.int bt), .val (.int en), .val (.int hw0), .val (.int rr), .val (.long (((1 : Int64) <<< (rr &&& 0x3f).toInt64) - (1 : Int64))), .second, .unset, .unset, .unset] []))
        exact J2 s₁ _ q0 (q1 &&& (((1 : Int64) <<< (rr &&& 0x3f).toInt64) - (1 : Int64))) q2 (.val (.long (((1 : Int64) <<< (rr &&& 0x3f).toInt64) - (1 : Int64)))) (.second) X0 e0 N0 (by rw [if_neg hc1, if_neg hc39, if_pos hc40]) (by rw [if_neg hc1, if_neg hc39, if_pos hc40]) (by rw [if_neg hc1, if_neg hc39, if_pos hc40]) (by first | exact own_Two.u | exact own_Two.l | assumption)
      · refine own_step (fun _ k => XS.icmpYes X0.here hx rfl (pc0 := 91) (pc' := 102) rfl (hb hby at_91) rfl ((feq hc40).2) (by decide) (by decide) k) ?_
        show own_Fin p.tables e below _ (s₁.setTop (mkF m 102 #[.val (.long q0), .second, .val (.long q1), .second, .val (.long q2), .second, .val (.int v3), .val (.int v4), .val (.int v5), .val (.int wd), .val (.int bt), .val (.int en), .val (.int hw0), .val (.int rr), .val (.long (((1 : Int64) <<< (rr &&& 0x3f).toInt64) - (1 : Int64))), .second, .unset, .unset, .unset] []))
        refine own_step (fun _ k => XS.lload X0.here hx rfl (hb hby at_102) rfl k) ?_
        show own_Fin p.tables e below _ (s₁.setTop (mkF m 104 #[.val (.long q0), .second, .val (.long q1), .second, .val (.long q2), .second, .val (.int v3), .val (.int v4), .val (.int v5), .val (.int wd), .val (.int bt), .val (.int en), .val (.int hw0), .val (.int rr), .val (.long (((1 : Int64) <<< (rr &&& 0x3f).toInt64) - (1 : Int64))), .second, .unset, .unset, .unset] [(.long q2)]))
        refine own_step (fun _ k => XS.lload X0.here hx rfl (hb hby at_104) rfl k) ?_
        show own_Fin p.tables e below _ (s₁.setTop (mkF m 106 #[.val (.long q0), .second, .val (.long q1), .second, .val (.long q2), .second, .val (.int v3), .val (.int v4), .val (.int v5), .val (.int wd), .val (.int bt), .val (.int en), .val (.int hw0), .val (.int rr), .val (.long (((1 : Int64) <<< (rr &&& 0x3f).toInt64) - (1 : Int64))), .second, .unset, .unset, .unset] [(.long (((1 : Int64) <<< (rr &&& 0x3f).toInt64) - (1 : Int64))), (.long q2)]))
        refine own_step (fun _ k => XS.land X0.here hx rfl (hb hby at_106) rfl k) ?_
        show own_Fin p.tables e below _ (s₁.setTop (mkF m 107 #[.val (.long q0), .second, .val (.long q1), .second, .val (.long q2), .second, .val (.int v3), .val (.int v4), .val (.int v5), .val (.int wd), .val (.int bt), .val (.int en), .val (.int hw0), .val (.int rr), .val (.long (((1 : Int64) <<< (rr &&& 0x3f).toInt64) - (1 : Int64))), .second, .unset, .unset, .unset] [(.long (q2 &&& (((1 : Int64) <<< (rr &&& 0x3f).toInt64) - (1 : Int64))))]))
        refine own_step (fun _ k => XS.lstore X0.here hx rfl (hb hby at_107) rfl (l' := #[.val (.long q0), .second, .val (.long q1), .second, .val (.long (q2 &&& (((1 : Int64) <<< (rr &&& 0x3f).toInt64) - (1 : Int64)))), .second, .val (.int v3), .val (.int v4), .val (.int v5), .val (.int wd), .val (.int bt), .val (.int en), .val (.int hw0), .val (.int rr), .val (.long (((1 : Int64) <<< (rr &&& 0x3f).toInt64) - (1 : Int64))), .second, .unset, .unset, .unset]) rfl k) ?_
        show own_Fin p.tables e below _ (s₁.setTop (mkF m 109 #[.val (.long q0), .second, .val (.long q1), .second, .val (.long (q2 &&& (((1 : Int64) <<< (rr &&& 0x3f).toInt64) - (1 : Int64)))), .second, .val (.int v3), .val (.int v4), .val (.int v5), .val (.int wd), .val (.int bt), .val (.int en), .val (.int hw0), .val (.int rr), .val (.long (((1 : Int64) <<< (rr &&& 0x3f).toInt64) - (1 : Int64))), .second, .unset, .unset, .unset] []))
        exact J2 s₁ _ q0 q1 (q2 &&& (((1 : Int64) <<< (rr &&& 0x3f).toInt64) - (1 : Int64))) (.val (.long (((1 : Int64) <<< (rr &&& 0x3f).toInt64) - (1 : Int64)))) (.second) X0 e0 N0 (by rw [if_neg hc1, if_neg hc39, if_neg hc40]) (by rw [if_neg hc1, if_neg hc39, if_neg hc40]) (by rw [if_neg hc1, if_neg hc39, if_neg hc40]) (by first | exact own_Two.u | exact own_Two.l | assumption)
set_option maxRecDepth 65536 in
set_option maxHeartbeats 40000000 in
theorem comes_1 {Post : Tables → Env → Array Value → State → Outcome → State → Prop} (hpost : ∀ tb e args s v u, (limb_1_1.after args s (.returned v) u = true ∧ limb_1_2.after args s (.returned v) u = true ∧ True) → FrameEnd s (.returned v) u (Jvm.fieldLocs frame_1_writes args s ++ Jvm.arrayLocs frame_1_arrays args s ++ Jvm.staticLocs frame_1_statics s) 16 128 → Post tb e args s (.returned v) u) :
    ArmFor flags0 classFile x code maxLocals ret World_1 tables_1 room_1 Calls_1 rest_1 Pre_1 Post := by
  intro l hfl _ _ p e ha hc hk s m args below hf hA hF happ hP
  obtain ⟨hcalls, hrest, hpre⟩ := hP
  obtain ⟨-, -, -, hnamed, -, -, -, hat⟩ := (Spec.applies_iff hf).mp happ
  obtain ⟨hg, hn⟩ := and_e (Cond.before_iff.mp (show (Jvm.Cond.and given_1 narrow_1).before args s = true from hpre))
  obtain ⟨g1, g2⟩ := and_e hg
  obtain ⟨g3, g4⟩ := and_e g2
  obtain ⟨g5, g6⟩ := and_e g4
  obtain ⟨g7, g8⟩ := and_e g6
  obtain ⟨g9, g10⟩ := and_e g8
  obtain ⟨g11, g12⟩ := and_e g10
  obtain ⟨w0, w1, w2, w3, w4, w5, rfl⟩ : ∃ w0 w1 w2 w3 w4 w5 : Value, args = #[w0, w1, w2, w3, w4, w5] := by
    have hs : args.size = 6 := by simpa [Cond.value, given_1] using g1
    obtain ⟨L⟩ := args
    match L, hs with
    | [w0, w1, w2, w3, w4, w5], _ => exact ⟨w0, w1, w2, w3, w4, w5, rfl⟩
  have hw := fun d (hd : d ∈ tables_1) => atoms_spec (ws := Jvm.Cond.code x code maxLocals ret :: tables_1) hat d (List.mem_cons_of_mem _ hd)
  have hfit : Fit s := fun {y c} hc i hi => by
    obtain ⟨ha, rfl⟩ := Array.getElem?_eq_some_iff.mp hc
    have q := List.all_eq_true.mp ((Array.all_eq_true_iff_forall_mem.mp hF) _ (Array.getElem_mem ha)) i (List.mem_range.mpr hi)
    simpa [Array.getElem?_eq_getElem hi] using q
  obtain ⟨i0, ei0⟩ := isL_v g3
  obtain rfl : w0 = (.long i0) := Option.some.inj ei0
  obtain ⟨i1, ei1⟩ := isL_v g5
  obtain rfl : w1 = (.long i1) := Option.some.inj ei1
  obtain ⟨i2, ei2⟩ := isL_v g7
  obtain rfl : w2 = (.long i2) := Option.some.inj ei2
  obtain ⟨i3, ei3⟩ := is_v g9
  obtain rfl : w3 = (.int i3) := Option.some.inj ei3
  obtain ⟨i4, ei4⟩ := is_v g11
  obtain rfl : w4 = (.int i4) := Option.some.inj ei4
  obtain ⟨i5, ei5⟩ := is_v g12
  obtain rfl : w5 = (.int i5) := Option.some.inj ei5
  obtain ⟨n, o, h1, h2, h3, _, L, rfl, ⟨rfl, N⟩, hq⟩ := rm0 l s _ hw tables_1 i0 i1 i2 i3 i4 i5 s.heap s.heap.size (Nat.le_refl _)  p e ha hc hk s m _ below hf ((Spec.applies_iff_loose hf).mp happ).1 ⟨rfl, State.Warmed39.refl s, rfl⟩ trivial
  refine ⟨n, _, h1, h2, h3, hpost _ _ _ _ _ _ ⟨Cond.after_iff.mpr rfl, Cond.after_iff.mpr (eq_i res_at (Term.int_eval (1)) rfl), trivial⟩ ⟨hq.1, hq.2.1, (hq.2.2.sift fun y hy => Or.inr (N y hy)).mono (by decide) (by decide)⟩⟩
theorem main_1_1 : Claimed_1_1 := comes_1 fun _ _ _ _ _ _ h hF => ⟨h.1, hF⟩
theorem main_1_2 : Claimed_1_2 := comes_1 fun _ _ _ _ _ _ h hF => ⟨h.2.1, hF⟩
end Jvm.Pilot.@@N@@
namespace Jvm.Pilot.@@N@@
open Jvm Jvm.ClassFile Sem Op Lib Jvm.Free Jvm.Stand Jvm.Pilot.@@N@@.Jvm.D
/-! MADE BY PROGRAM (witnessworld.py) out of the Statement's table words and the real class files: 11 classes; the members and pool entries that the words name. The judged class is class 1, her method 1. -/
namespace start1
open Jvm.ClassFile
def u (s : String) : CpInfo := .utf8 (stringToUtf16 s)
/-- a pool by its gaps: so many unusable entries, then the entry; so many at the end -/
def gap : Nat → List CpInfo → List CpInfo
  | 0, r => r
  | n + 1, r => .unusable :: gap n r
def poolList (es : List (Nat × CpInfo)) (last : Nat) : List CpInfo := es.foldr (fun e r => gap e.1 (e.2 :: r)) (gap last [])
def pool (es : List (Nat × CpInfo)) (last : Nat) : Array CpInfo := ⟨poolList es last⟩
def fileOf (pool : Array CpInfo) (this : Nat) (attrs : Array Attribute := #[]) (ms : Array MethodInfo := #[]) (fl : Nat := 33) (sup : Nat := 0) (ifs : Array Nat := #[]) (fds : Array FieldInfo := #[]) : ClassFile where
  minorVersion := 0
  majorVersion := 65
  constantPool := pool
  accessFlags := fl
  thisClass := this
  superClass := sup
  interfaces := ifs
  fields := fds
  methods := ms
  attributes := attrs
def plain (name : String) (sup : Option ClassId) : Class where
  name := name
  kind := .ordinary
  loader := none
  accessFlags := 33
  super := sup
  interfaces := #[]
  cf := none
  fields := #[]
  methods := #[]
  instanceTypes := #[]
  staticTypes := #[]
  resolved := #[]
  callSites := []
  init := .initialized
  statics := none
  mirror := none

def pool0 : Array CpInfo := pool [(5, u "<init>"), (0, u "()V"), (1, .class_ 10), (1, u "java/lang/Object")] 113

def k0m0 : Method := { name := "<init>", desc := "()V", sig := { parameters := [], returnType := none }, accessFlags := 1, code := none }
/-- java/lang/Object -/
def k0 : Class := { plain "java/lang/Object" none with
  accessFlags := 33
  interfaces := #[]
  cf := some (fileOf pool0 8 #[] #[{ accessFlags := 1, nameIndex := 5, descriptorIndex := 6, attributes := #[] }] 33 0 #[] #[])
  fields := #[]
  methods := #[k0m0]
  instanceTypes := #[]
  staticTypes := #[]
  resolved := Array.replicate 124 none
  statics := none }

def pool1 : Array CpInfo := pool [(2, .class_ 4), (1, u "java/lang/Object"), (0, u "<init>"), (0, u "()V"), (0, .integer 2147483647), (0, .methodref 9 10), (0, .class_ 11), (0, .nameAndType 12 13), (0, u "com/example/streamgist/streamgist/packed/PackedBits"), (0, u "remove"), (0, u "([JJJI)V"), (0, .methodref 15 16), (0, .class_ 17), (0, .nameAndType 18 19), (0, u "com/example/streamgist/streamgist/packed/PackedBitsRemovePinLaw"), (0, u "bitOf"), (0, u "(JJJI)I"), (2, u "law"), (0, u "(JJJIII)Z")] 5

def k1m0 : Method := { name := "<init>", desc := "()V", sig := { parameters := [], returnType := none }, accessFlags := 1, code := none }
def k1c1 : Code := { maxStack := 8, maxLocals := 19, code := code, exceptionTable := #[], attributes := #[] }
def k1m1 : Method := { name := "law", desc := "(JJJIII)Z", sig := { parameters := [.long, .long, .long, .int, .int, .int], returnType := some .boolean }, accessFlags := 9, code := some k1c1 }
def k1c2 : Code := { maxStack := 4, maxLocals := 9, code := method_3_code, exceptionTable := #[], attributes := #[] }
def k1m2 : Method := { name := "bitOf", desc := "(JJJI)I", sig := { parameters := [.long, .long, .long, .int], returnType := some .int }, accessFlags := 10, code := some k1c2 }
/-- com/example/streamgist/streamgist/packed/PackedBitsRemovePinLaw -/
def k1 : Class := { plain "com/example/streamgist/streamgist/packed/PackedBitsRemovePinLaw" (some 0) with
  accessFlags := 49
  interfaces := #[]
  cf := some (fileOf pool1 15 #[] #[{ accessFlags := 1, nameIndex := 5, descriptorIndex := 6, attributes := #[] }, { accessFlags := 9, nameIndex := 22, descriptorIndex := 23, attributes := #[] }, { accessFlags := 10, nameIndex := 18, descriptorIndex := 19, attributes := #[] }] 49 2 #[] #[])
  fields := #[]
  methods := #[k1m0, k1m1, k1m2]
  instanceTypes := #[]
  staticTypes := #[]
  resolved := Array.replicate 29 none
  statics := none }

def pool2 : Array CpInfo := pool [(2, .class_ 4), (1, u "java/lang/Object"), (0, u "<init>"), (0, u "()V"), (0, .long 63), (2, .class_ 12), (1, u "com/example/streamgist/streamgist/packed/PackedBits"), (2, .long 18446744073709551615), (7, u "FIELD_ONES"), (0, u "[J"), (2, u "WHOLE_FIELD_BITS"), (0, u "[I"), (15, u "remove"), (0, u "([JJJI)V")] 6

def k2m0 : Method := { name := "<init>", desc := "()V", sig := { parameters := [], returnType := none }, accessFlags := 2, code := none }
def k2c1 : Code := { maxStack := 10, maxLocals := 13, code := prog_41_method_5_code, exceptionTable := #[], attributes := #[] }
def k2m1 : Method := { name := "remove", desc := "([JJJI)V", sig := { parameters := [(.array .long), .long, .long, .int], returnType := none }, accessFlags := 9, code := some k2c1 }
/-- com/example/streamgist/streamgist/packed/PackedBits -/
def k2 : Class := { plain "com/example/streamgist/streamgist/packed/PackedBits" (some 0) with
  accessFlags := 49
  interfaces := #[]
  cf := some (fileOf pool2 10 #[] #[{ accessFlags := 2, nameIndex := 5, descriptorIndex := 6, attributes := #[] }, { accessFlags := 9, nameIndex := 44, descriptorIndex := 45, attributes := #[] }] 49 2 #[] #[{ accessFlags := 26, nameIndex := 23, descriptorIndex := 24, attributes := #[] }, { accessFlags := 26, nameIndex := 27, descriptorIndex := 28, attributes := #[] }])
  fields := #[{ name := "FIELD_ONES", type := (.array .long), accessFlags := 26, slot := 0, constantValue := 0 }, { name := "WHOLE_FIELD_BITS", type := (.array .int), accessFlags := 26, slot := 1, constantValue := 0 }]
  methods := #[k2m0, k2m1]
  instanceTypes := #[]
  staticTypes := #[(.array .long), (.array .int)]
  resolved := Array.replicate 52 none
  statics := none }

def pool3 : Array CpInfo := pool [(1, u "java/lang/Cloneable"), (0, .class_ 1), (0, u "java/lang/Object"), (0, .class_ 3)] 3

/-- java/lang/Cloneable -/
def k3 : Class := { plain "java/lang/Cloneable" (some 0) with
  accessFlags := 1537
  interfaces := #[]
  cf := some (fileOf pool3 2 #[] #[] 1537 4 #[] #[])
  fields := #[]
  methods := #[]
  instanceTypes := #[]
  staticTypes := #[]
  resolved := Array.replicate 8 none
  statics := none }

def pool4 : Array CpInfo := pool [(1, u "java/io/Serializable"), (0, .class_ 1), (0, u "java/lang/Object"), (0, .class_ 3)] 3

/-- java/io/Serializable -/
def k4 : Class := { plain "java/io/Serializable" (some 0) with
  accessFlags := 1537
  interfaces := #[]
  cf := some (fileOf pool4 2 #[] #[] 1537 4 #[] #[])
  fields := #[]
  methods := #[]
  instanceTypes := #[]
  staticTypes := #[]
  resolved := Array.replicate 8 none
  statics := none }

/-- the primitive byte -/
def k5 : Class := { plain "byte" none with kind := .primitive 'B', accessFlags := 0x411 }
/-- [B -/
def k6 : Class := { plain "[B" (some 0) with kind := .array 5 .byte, interfaces := #[3, 4], accessFlags := 1041 }

/-- the primitive int -/
def k7 : Class := { plain "int" none with kind := .primitive 'I', accessFlags := 0x411 }
/-- [I -/
def k8 : Class := { plain "[I" (some 0) with kind := .array 7 .int, interfaces := #[3, 4], accessFlags := 1041 }

/-- the primitive long -/
def k9 : Class := { plain "long" none with kind := .primitive 'J', accessFlags := 0x411 }
/-- [J -/
def k10 : Class := { plain "[J" (some 0) with kind := .array 9 .long, interfaces := #[3, 4], accessFlags := 1041 }

def heap : Heap := #[]
def classes : Array Class := #[k0, k1, k2, k3, k4, k5, k6, k7, k8, k9, k10]
def interned : List (Array UInt16 × Addr) := []
def slotsUsed : Nat := 0
def theMethod : MethodId := ⟨1, 1⟩
def args0 : Array Value := #[.long 1, .long 2, .long 3, .int 4, .int 5, .int 6]
def aboutOver (below : List Frame) : State where
  vm := { classes := classes, interned := interned.toArray }
  heap := heap
  slotsUsed := slotsUsed
  threads := #[{ frames := .invoking theMethod args0 :: below }]
def below0 : List Frame := [.native { method := ⟨0, 0⟩, args := #[] }]
def about1 : State := aboutOver below0
def p0 : Program := .bare "" "" ""
def e0 : Env := launch0.env 0 0 0
theorem w_frames : about1.frames = Frame.invoking theMethod args0 :: below0 := rfl
set_option maxRecDepth 65536 in
theorem w_args : argsFit about1.vm theMethod args0 = true := by decide +kernel
set_option maxRecDepth 65536 in
theorem w_heap : heapFits about1 = true := by decide +kernel
set_option maxRecDepth 65536 in
theorem w_runnable : about1.curStatus? = some .runnable := by decide +kernel
set_option maxRecDepth 65536 in
theorem w_alone : about1.alone = true := by decide +kernel
set_option maxRecDepth 65536 in
theorem w_named : about1.methodNamed? x = some theMethod := by decide +kernel
set_option maxRecDepth 65536 in
theorem w_hears : about1.hears theMethod below0 = true := by decide +kernel
set_option maxRecDepth 65536 in
theorem w_ripe : about1.ripe theMethod args0 below0 = true := by decide +kernel
theorem w_running : about1.status = .running := rfl
set_option maxRecDepth 65536 in
theorem w_room : about1.hasRoom e0.platform room_1 = true :=
  launch0.hasRoom_least _ room_1 (by decide +kernel) (by decide +kernel) (by decide +kernel) (by decide +kernel) (by decide +kernel) (by decide +kernel)
theorem allAtoms_all (ts : List Jvm.Cond) (a : Array Jvm.Value) (st : Jvm.State) : (allAtoms ts).before a st = ts.all (fun c => c.before a st) := by
  induction ts with
  | nil => rfl
  | cons c t ih =>
    show (Jvm.Cond.and c (allAtoms t)).before a st = _
    rw [Jvm.Cond.before_and, ih, List.all_cons]
def words1 : List Jvm.Cond := Jvm.Cond.code x code maxLocals ret :: tables_1
/-- a 'code' word, met by the world's own term for the bytes: nothing is compared byte by byte -/
theorem code_word {y : MethodName} {bytes : ByteArray} {mx : Nat} {rt : Option FieldType} {a : Array Value} {s : State} {m : MethodId} {meth : Method} {c : Code} (h1 : s.methodNamed? y = some m) (h2 : s.vm.method? m = some meth) (h3 : meth.code = some c) (h4 : c.code = bytes)
    (h5 : (c.maxLocals == mx && c.exceptionTable.isEmpty && decide (c.maxStack ≤ mostOperands) && decide (meth.sig.returnType = rt) && !meth.locks && decide (parseMethodDescriptor y.desc = some meth.sig)) = true) : (Jvm.Cond.code y bytes mx rt).before a s = true := by
  simp only [Bool.and_eq_true, beq_iff_eq, Bool.not_eq_true', decide_eq_true_eq] at h5
  obtain ⟨⟨⟨⟨⟨g1, g2⟩, g3⟩, g4⟩, g5⟩, g6⟩ := h5
  simp [Cond.before, Cond.holds, Cond.value, h1, h2, h3, h4, g1, g2, g3, g4, g5, g6]
def isCode : Jvm.Cond → Bool
  | .code _ _ _ _ => true
  | _ => false
theorem all_split {L : List Jvm.Cond} {P : Jvm.Cond → Bool} (h1 : L.all (fun c => isCode c || P c) = true) (h2 : ∀ c ∈ L.filter isCode, P c = true) : L.all P = true := by
  refine List.all_eq_true.mpr fun c hc => ?_
  have h := List.all_eq_true.mp h1 c hc
  rcases Bool.eq_false_or_eq_true (isCode c) with hi | hi
  · exact h2 c (List.mem_filter.mpr ⟨hc, hi⟩)
  · simpa [hi] using h
set_option maxRecDepth 65536 in
theorem w_c0 : (Jvm.Cond.code x code maxLocals ret).before args0 about1 = true := code_word (m := ⟨1, 1⟩) (meth := k1m1) (c := k1c1) (by decide +kernel) rfl rfl rfl (by decide +kernel)
set_option maxRecDepth 65536 in
theorem w_c1 : (Jvm.Cond.code ({ cls := "com/example/streamgist/streamgist/packed/PackedBits", name := "remove", desc := "([JJJI)V" } : Jvm.MethodName) prog_41_method_5_code (13 : Nat) (Option.none : Option Jvm.ClassFile.FieldType)).before args0 about1 = true := code_word (m := ⟨2, 1⟩) (meth := k2m1) (c := k2c1) (by decide +kernel) rfl rfl rfl (by decide +kernel)
set_option maxRecDepth 65536 in
theorem w_c2 : (Jvm.Cond.code ({ cls := "com/example/streamgist/streamgist/packed/PackedBitsRemovePinLaw", name := "bitOf", desc := "(JJJI)I" } : Jvm.MethodName) method_3_code (9 : Nat) (Option.some Jvm.ClassFile.FieldType.int)).before args0 about1 = true := code_word (m := ⟨1, 2⟩) (meth := k1m2) (c := k1c2) (by decide +kernel) rfl rfl rfl (by decide +kernel)
def codes1 : List Jvm.Cond := [Jvm.Cond.code x code maxLocals ret, Jvm.Cond.code ({ cls := "com/example/streamgist/streamgist/packed/PackedBits", name := "remove", desc := "([JJJI)V" } : Jvm.MethodName) prog_41_method_5_code (13 : Nat) (Option.none : Option Jvm.ClassFile.FieldType), Jvm.Cond.code ({ cls := "com/example/streamgist/streamgist/packed/PackedBitsRemovePinLaw", name := "bitOf", desc := "(JJJI)I" } : Jvm.MethodName) method_3_code (9 : Nat) (Option.some Jvm.ClassFile.FieldType.int)]
set_option maxRecDepth 65536 in
theorem codes_eq : words1.filter isCode = codes1 := rfl
theorem w_codes : ∀ c ∈ words1.filter isCode, c.before args0 about1 = true := by
  rw [codes_eq]
  intro c hc
  simp only [codes1, List.mem_cons, List.not_mem_nil, or_false] at hc
  rcases hc with rfl | rfl | rfl
  · exact w_c0
  · exact w_c1
  · exact w_c2
set_option maxRecDepth 65536 in
theorem w_t1 : words1.all (fun c => isCode c || c.before args0 about1) = true := by decide +kernel
theorem w_tables : (allAtoms (Jvm.Cond.code x code maxLocals ret :: tables_1)).before args0 about1 = true := by
  rw [allAtoms_all]
  show words1.all (fun c => c.before args0 about1) = true
  refine all_split ?_ w_codes
  rw [w_t1]
set_option maxRecDepth 65536 in
theorem w_case : (Jvm.Cond.and given_1 narrow_1).before args0 about1 = true := by decide +kernel
theorem w_applies : (headSpec (Jvm.Cond.code x code maxLocals ret :: tables_1) room_1).applies x e0.platform about1 = true :=
  (Spec.applies_iff w_frames).mpr ⟨w_running, w_runnable, w_alone, w_named, w_hears, w_ripe, w_room, w_tables⟩
theorem atStart : AtStart classFile x code maxLocals ret World_1 tables_1 room_1 Calls_1 rest_1 Pre_1 launch0 p0 e0 about1 theMethod args0 below0 :=
  ⟨lists_1, trivial, launch0.admits_env _ _ _, launch0.least_env, fairChoices_fair.cas, fairChoices_fair.clock, w_frames, w_args, w_heap, w_applies, trivial, trivial, w_case⟩
end start1
theorem witness_1 : WitnessClaimed_1 := ⟨start1.p0, start1.e0, start1.about1, start1.theMethod, start1.args0, start1.below0, start1.atStart⟩
end Jvm.Pilot.@@N@@
