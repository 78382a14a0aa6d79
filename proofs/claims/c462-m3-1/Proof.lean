import JvmDerived
import JvmDerived.Pilot.@@N@@Statement
import JvmDerived.Pilot.@@N@@Code
set_option linter.unusedVariables false
set_option linter.unusedSimpArgs false
namespace Jvm.RoadKit
open Sem ClassFile Op Lib Jvm.Stand Jvm.Free Jvm.LawKit
section New
variable {p : Program} {l : Launch} {e : Env} {R : Room} {s : State} {m : MethodId} {args : Array Value} {below : List Frame} {meth : Method} {c : Code} {T : State} {locs : List Loc} {cells slots : Nat}
theorem retI (X : Stand p l e R s m args below meth c T locs cells slots) (hx : p.tables.exec = Jvm.exec) {pc : Nat} {Ls : Array Slot} {z : Int32} {rest : List Value} (hret : meth.sig.returnType = some .int) (hd : decode c.code pc = .ok (.ireturn, 1)) {fs : List Frame}
    (hl : ∀ (f : JFrame) (acts : List Action), f.method = m → f.locked = none → f.entered = [] → (doReturn e (T.setTop f) acts (some (.int z))).1 = T.setFrames fs) : Steps p.tables e below (T.setTop (mkF m pc Ls (.int z :: rest))) (T.setFrames fs) := by
  have hm' : T.vm.method? m = some meth := X.method'
  have hn : narrow .int (.int z) = .int z := rfl
  show Steps p.tables e below (T.setTop { method := m, pc := pc, locals := Ls, stack := _ :: rest, locked := none }) _
  jvm_step X.here [X.here.top, hx, hd, hm', hret, hn]
  first | (intro acts; rw [hl _ acts rfl rfl rfl]) | rw [hl _ _ rfl rfl rfl]
  exact Steps.refl _
theorem own_retJ (X : Stand p l e R s m args below meth c T locs cells slots) (hx : p.tables.exec = Jvm.exec) {pc : Nat} {Ls : Array Slot} {z : Int64} {rest : List Value} (hret : meth.sig.returnType = some .long) (hd : decode c.code pc = .ok (.lreturn, 1)) {fs : List Frame}
    (hl : ∀ (f : JFrame) (acts : List Action), f.method = m → f.locked = none → f.entered = [] → (doReturn e (T.setTop f) acts (some (.long z))).1 = T.setFrames fs) : Steps p.tables e below (T.setTop (mkF m pc Ls (.long z :: rest))) (T.setFrames fs) := by
  have hm' : T.vm.method? m = some meth := X.method'
  have hn : narrow .long (.long z) = .long z := rfl
  show Steps p.tables e below (T.setTop { method := m, pc := pc, locals := Ls, stack := _ :: rest, locked := none }) _
  jvm_step X.here [X.here.top, hx, hd, hm', hret, hn]
  first | (intro acts; rw [hl _ acts rfl rfl rfl]) | rw [hl _ _ rfl rfl rfl]
  exact Steps.refl _
end New
end Jvm.RoadKit
namespace Jvm.Pilot.@@N@@
open Jvm Jvm.ClassFile Sem Op Lib Jvm.Free Jvm.Stand Jvm.LawKit Jvm.RoadKit Bundle Jvm.Pilot.@@N@@.Jvm.D
def own_Fin (tb : Tables) (e : Env) (below : List Frame) (P : Outcome → State → Prop) (S : State) : Prop := ∃ s₂ o, Steps tb e below S s₂ ∧ s₂.status = .running ∧ Ended s₂ below o ∧ P o s₂
theorem own_step {tb : Tables} {e : Env} {below : List Frame} {P : Outcome → State → Prop} {A B : State} (h : ∀ t, Steps tb e below B t → Steps tb e below A t) (k : own_Fin tb e below P B) : own_Fin tb e below P A := by
  obtain ⟨s₂, o, h1, h2⟩ := k; exact ⟨s₂, o, h _ h1, h2⟩
theorem own_steps {tb : Tables} {e : Env} {below : List Frame} {P : Outcome → State → Prop} {A B : State} (h : Steps tb e below A B) (k : own_Fin tb e below P B) : own_Fin tb e below P A := by
  obtain ⟨s₂, o, h1, h2⟩ := k; exact ⟨s₂, o, h.trans h1, h2⟩
theorem own_ret {tb : Tables} {e : Env} {below : List Frame} {P : Outcome → State → Prop} {S s₂ : State} {o : Outcome} (h : Steps tb e below S s₂) (h1 : s₂.status = .running) (h2 : Ended s₂ below o) (h3 : P o s₂) : own_Fin tb e below P S := ⟨s₂, o, h, h1, h2, h3⟩
theorem own_enter {tb : Tables} {e : Env} {below : List Frame} {P : Outcome → State → Prop} {T : State} {g g' : JFrame} (q : g = g') (k : own_Fin tb e below P (T.setTop g')) : ∃ s₂ o, Steps tb e below (T.setTop g) s₂ ∧ s₂.status = .running ∧ Ended s₂ below o ∧ P o s₂ := q ▸ k
def own_Two (a b : Slot) : Prop := (a = .unset ∧ b = .unset) ∨ ∃ v : Int64, a = .val (.long v) ∧ b = .second
theorem own_Two.u : own_Two .unset .unset := Or.inl ⟨rfl, rfl⟩
theorem own_Two.l {v : Int64} : own_Two (.val (.long v)) .second := Or.inr ⟨v, rfl, rfl⟩
def own_Arf (Z : State) (h : Heap) (a : Addr) (ty : FieldType) (n : Nat) (f : Nat → Value) : Prop := ∃ cl : Cell, Arr Z h a cl ty ∧ cl.slots.size = n ∧ ∀ i, i < n → cl.slots[i]? = some (f i)
def own_upd {α : Type} (g : Nat → α) (j : Nat) (v : α) : Nat → α := fun i => if i = j then v else g i
section OwnArr
variable {Z : State} {h h' : Heap} {a b : Addr} {ty : FieldType} {n : Nat} {f : Nat → Value} {v : Value} {sl : Nat} {ws : List Addr}
theorem own_Arf.lt (F : own_Arf Z h a ty n f) : a < h.size := by obtain ⟨c, A, -⟩ := F; exact A.lt
theorem own_Arf.ext (F : own_Arf Z h a ty n f) (E : Ext h h') : own_Arf Z h' a ty n f := by obtain ⟨c, A, r⟩ := F; exact ⟨c, A.ext E, r⟩
theorem own_Arf.other (F : own_Arf Z h b ty n f) (W : Wr h h' a sl v) (q : b ≠ a) : own_Arf Z h' b ty n f := by obtain ⟨c, A, r⟩ := F; exact ⟨c, A.other W q, r⟩
theorem own_Arf.keep (F : own_Arf Z h a ty n f) (K : Keep h h' ws) (q : a ∉ ws) : own_Arf Z h' a ty n f := by obtain ⟨c, A, r⟩ := F; exact ⟨c, ⟨K.2.1 a c A.1 q, A.2⟩, r⟩
theorem own_Arf.set (F : own_Arf Z h a ty n f) (W : Wr h h' a sl v) : own_Arf Z h' a ty n (fun i => if i = sl then v else f i) := by
  obtain ⟨c, A, S, H⟩ := F
  obtain ⟨c', e1, -, -, e4, -, e6, e7⟩ := wr_at W A.1
  have e8 := (e7 rfl).2.1
  refine ⟨c', ⟨e1, ?_, ?_⟩, by rw [e4, S], fun i hi => ?_⟩
  · rw [(e7 rfl).1]; exact (A.same W).2.1
  · rw [(e7 rfl).1]; exact (A.same W).2.2
  · show c'.slots[i]? = some (if i = sl then v else f i)
    by_cases q : i = sl
    · rw [if_pos q, q]; exact e8
    · rw [if_neg q, e6 _ q]; exact H i hi
theorem own_Arf.setI {g : Nat → Int32} {x : Int32} (F : own_Arf Z h a ty n (fun i => .int (g i))) (W : Wr h h' a sl (.int x)) : own_Arf Z h' a ty n (fun i => .int (own_upd g sl x i)) := by
  have q := F.set W
  have e : (fun i => Value.int (own_upd g sl x i)) = (fun i => if i = sl then Value.int x else Value.int (g i)) := by funext i; unfold own_upd; split <;> rfl
  rw [e]; exact q
theorem own_Arf.setJ {g : Nat → Int64} {x : Int64} (F : own_Arf Z h a ty n (fun i => .long (g i))) (W : Wr h h' a sl (.long x)) : own_Arf Z h' a ty n (fun i => .long (own_upd g sl x i)) := by
  have q := F.set W
  have e : (fun i => Value.long (own_upd g sl x i)) = (fun i => if i = sl then Value.long x else Value.long (g i)) := by funext i; unfold own_upd; split <;> rfl
  rw [e]; exact q
theorem own_Arf.ofI {k : ClassId} {z : Int32} {vs : List Value} (V : Arv Z h a k ty z vs (.int 0)) (l : List Int32) (hl : vs = l.map Value.int) (hz : z.toNatClampNeg = n) : own_Arf Z h a ty n (fun i => .int (l.getD i 0)) := by
  obtain ⟨c, A, -, S, -, H, -⟩ := V
  refine ⟨c, A, S.trans hz, fun i hi => ?_⟩
  rw [H i (by rw [S, hz]; exact hi), hl]
  simp only [List.getD, List.getElem?_map]
  cases l[i]? <;> rfl
theorem own_Arf.ofJ {k : ClassId} {z : Int32} {vs : List Value} (V : Arv Z h a k ty z vs (.long 0)) (l : List Int64) (hl : vs = l.map Value.long) (hz : z.toNatClampNeg = n) : own_Arf Z h a ty n (fun i => .long (l.getD i 0)) := by
  obtain ⟨c, A, -, S, -, H, -⟩ := V
  refine ⟨c, A, S.trans hz, fun i hi => ?_⟩
  rw [H i (by rw [S, hz]; exact hi), hl]
  simp only [List.getD, List.getElem?_map]
  cases l[i]? <;> rfl
theorem own_in {c : Cell} {j : Int32} (S : c.slots.size = n) (q : 0 ≤ j.toInt ∧ j.toInt < n) : ¬ (j < 0 ∨ c.slots.size ≤ j.toNatClampNeg) := by
  rw [S]; simp only [Int32.lt_iff_toInt_lt, Int32.toNatClampNeg, Int32.reduceToInt]; omega
theorem own_in2 {j : Int32} (q : 0 ≤ j.toInt ∧ j.toInt < n) : j.toNatClampNeg < n := by simp only [Int32.toNatClampNeg]; omega
end OwnArr
theorem own_dload {tb : Tables} [Ours tb] {e : Env} {below : List Frame} {T target : State} {m : MethodId} {c : Code} {g : JFrame} (h : At T m c below) (hx : tb.exec = Jvm.exec) (hg : g.method = m) {k : Nat} {v : UInt64} (hd : decode c.code g.pc = .ok (.dload k, 2)) (hl : g.locals[k]? = some (.val (.double v)))
    (hr : Steps tb e below (T.setTop { g with pc := g.pc + 2, stack := .double v :: g.stack }) target) : Steps tb e below (T.setTop g) target := by
  subst hg
  jvm_step h [h.top, hx, hd, hl]
  exact hr
theorem own_dconst {tb : Tables} [Ours tb] {e : Env} {below : List Frame} {T target : State} {m : MethodId} {c : Code} {g : JFrame} (h : At T m c below) (hx : tb.exec = Jvm.exec) (hg : g.method = m) (hd : decode c.code g.pc = .ok (.dconst 0, 1))
    (hr : Steps tb e below (T.setTop { g with pc := g.pc + 1, stack := .double 0 :: g.stack }) target) : Steps tb e below (T.setTop g) target := by
  subst hg
  jvm_step h [h.top, hx, hd]
  exact hr
theorem own_sub1 {n : Int32} (h : 0 < n.toInt) : (n - 1).toInt = n.toInt - 1 := by
  have := c_isub n 1; have := rng32 n; have := rng32 (n - 1); have : (1 : Int32).toInt = 1 := by decide
  omega
theorem own_add1 {n : Int32} (h : n.toInt < 1000) : (n + 1).toInt = n.toInt + 1 := by
  have := c_iadd n 1; have := rng32 n; have := rng32 (n + 1); have : (1 : Int32).toInt = 1 := by decide
  omega
theorem own_addsub (q : Int32) : (q + (1 : Int32)) - (1 : Int32) = q := by
  apply Int32.toInt_inj.mp
  have h1 := c_iadd q 1; have h2 := c_isub (q + 1) 1; have h3 := rng32 q; have h4 := rng32 (q + 1 - 1); have : (1 : Int32).toInt = 1 := by decide
  omega
theorem own_rem {x y : Int32} (hx : 0 ≤ x.toInt) (hy : 0 < y.toInt) : 0 ≤ (x - (x / y) * y).toInt ∧ (x - (x / y) * y).toInt < y.toInt := by
  have hr : x - (x / y) * y = x % y := by
    apply Int32.toInt_inj.mp
    have h1 := c_isub x (x / y * y); have h2 := c_imul (x / y) y; have h3 := rng32 (x - x / y * y)
    have h4 : y ≠ -1 := fun q => by rw [q] at hy; revert hy; decide
    have h5 := (c_idiv x y y.toInt rfl h4).1 hx; have h6 := (c_irem x y y.toInt rfl).1 hx
    have h7 := Int.emod_add_mul_ediv x.toInt y.toInt; have h8 := Int.emod_nonneg x.toInt (show y.toInt ≠ 0 by omega); have h9 := Int.emod_lt_of_pos x.toInt hy; have h10 := rng32 y
    rw [h5] at h2
    have h11 : y.toInt * (x.toInt / y.toInt) = x.toInt / y.toInt * y.toInt := Int.mul_comm _ _
    rw [h6]; omega
  rw [hr]
  have := (c_iremV x y).1 hx hy
  exact ⟨this.1, this.2.1⟩
theorem own_q64 {q : Int32} (h0 : 0 ≤ q.toInt) (h1 : q.toInt < 64) : q.toBitVec.toNat % 64 = q.toInt.toNat := by
  have h : q.toInt = q.toBitVec.toInt := rfl
  have h2 := q.toBitVec.isLt
  rw [BitVec.toInt_eq_toNat_cond] at h
  split at h <;> omega
theorem own_shl (x : Int64) {q : Int32} (h0 : 0 ≤ q.toInt) (h1 : q.toInt < 64) : (x <<< (q &&& 0x3f).toInt64).toBitVec = x.toBitVec <<< q.toInt.toNat := by
  have k := own_q64 h0 h1
  show x.toBitVec <<< ((q &&& 0x3f).toInt64.toBitVec.smod 64) = _
  rw [BitVec.shiftLeft_eq', (sm64 q _ k).1, smod64 _ (sm64 q _ k).2]
theorem own_shr (x : Int64) {q : Int32} (h0 : 0 ≤ q.toInt) (h1 : q.toInt < 64) : ((x.toUInt64 >>> (q &&& 0x3f).toInt64.toUInt64).toInt64).toBitVec = x.toBitVec >>> q.toInt.toNat := by
  have k := own_q64 h0 h1
  show x.toBitVec >>> ((q &&& 0x3f).toInt64.toBitVec % 64) = _
  rw [BitVec.ushiftRight_eq', BitVec.toNat_umod, (sm64 q _ k).1, BitVec.toNat_ofNat]
  congr 1
  show q.toInt.toNat % 2 ^ 64 % 64 = _
  omega
theorem own_pos {x : Int64} (h : x.toBitVec.toNat < 2 ^ 63) : x.toInt = x.toBitVec.toNat := by
  show x.toBitVec.toInt = _
  rw [BitVec.toInt_eq_toNat_cond, if_pos (by omega)]
def own_q (kb q : Int32) (key : Int64) : Int64 := if q = (0 : Int32) then (0 : Int64) else ((key.toUInt64 >>> ((kb - q) &&& 0x3f).toInt64.toUInt64).toInt64)
theorem own_kb {kb k0 : Int32} (h : kb = ((2 : Int32) + ((k0 &&& (63 : Int32)) - ((k0 &&& (63 : Int32)) / (63 : Int32)) * (63 : Int32)))) : 2 ≤ kb.toInt ∧ kb.toInt ≤ 64 := by
  have h1 := own_rem (x := k0 &&& 63) (y := 63) (c_and k0 63 (by decide)).1 (by decide)
  have h2 := c_iadd 2 ((k0 &&& 63) - ((k0 &&& 63) / 63) * 63)
  have h3 := rng32 (2 + ((k0 &&& 63) - ((k0 &&& 63) / 63) * 63))
  have e1 : (63 : Int32).toInt = 63 := by decide
  have e2 : (2 : Int32).toInt = 2 := by decide
  rw [h]; omega
theorem own_one {N : Nat} (h : N < 64) : ((1#64) <<< N).toNat = 2 ^ N := by
  rw [BitVec.toNat_shiftLeft, Nat.shiftLeft_eq]
  show 1 * 2 ^ N % 2 ^ 64 = _
  rw [Nat.one_mul, Nat.mod_eq_of_lt (Nat.pow_lt_pow_right (by decide) h)]
theorem own_key {kb : Int32} {key k : Int64} (hk1 : 2 ≤ kb.toInt) (hk2 : kb.toInt ≤ 64) (hy : key = (if kb = (64 : Int32) then k else (k &&& (((1 : Int64) <<< (kb &&& 0x3f).toInt64) - (1 : Int64))))) : key.toBitVec.toNat < 2 ^ kb.toInt.toNat := by
  rw [hy]
  by_cases h : kb = 64
  · rw [if_pos h, h]; exact k.toBitVec.isLt
  · rw [if_neg h]
    have hlt : kb.toInt < 64 := by
      have : kb.toInt ≠ 64 := fun q => h (Int32.toInt_inj.mp (q.trans (by decide)))
      omega
    have e : (k &&& (((1 : Int64) <<< (kb &&& 0x3f).toInt64) - (1 : Int64))).toBitVec = k.toBitVec &&& ((1#64 <<< kb.toInt.toNat) - 1#64) := by
      rw [Int64.toBitVec_and, Int64.toBitVec_sub, own_shl _ (by omega) hlt]; rfl
    rw [e, BitVec.toNat_and]
    have hN : kb.toInt.toNat < 64 := by omega
    generalize kb.toInt.toNat = N at hN ⊢
    have h1 := own_one hN
    have h2 : 0 < 2 ^ N := Nat.two_pow_pos N
    have h3 : ((1#64 <<< N) - 1#64).toNat = 2 ^ N - 1 := by
      rw [BitVec.toNat_sub, h1]
      have : 2 ^ N < 2 ^ 64 := Nat.pow_lt_pow_right (by decide) hN
      show (2 ^ 64 - 1 + 2 ^ N) % 2 ^ 64 = _
      generalize 2 ^ N = P at *; omega
    have h4 := Nat.and_le_right (n := k.toBitVec.toNat) (m := ((1#64 <<< N) - 1#64).toNat)
    rw [h3] at h4 ⊢
    omega
theorem own_quo {kb q : Int32} {key : Int64} (hk1 : 2 ≤ kb.toInt) (hk2 : kb.toInt ≤ 64) (i1 : 0 ≤ q.toInt) (i2 : q.toInt ≤ kb.toInt - 1) (hq : ¬ q = (0 : Int32)) (hkey : key.toBitVec.toNat < 2 ^ kb.toInt.toNat) :
    ¬ (own_q kb q key) < (0 : Int64) ∧ (q < (63 : Int32) → (own_q kb q key) < ((1 : Int64) <<< (q &&& 0x3f).toInt64)) ∧ ¬ (key - ((own_q kb q key) * ((1 : Int64) <<< ((kb - q) &&& 0x3f).toInt64))) < (0 : Int64) ∧ (¬ (kb - q) = (63 : Int32) → (key - ((own_q kb q key) * ((1 : Int64) <<< ((kb - q) &&& 0x3f).toInt64))) < ((1 : Int64) <<< ((kb - q) &&& 0x3f).toInt64)) := by
  have hq0 : q.toInt ≠ 0 := fun h => hq (Int32.toInt_inj.mp (h.trans (by decide)))
  have hs : (kb - q).toInt = kb.toInt - q.toInt := by have := c_isub kb q; have := rng32 (kb - q); omega
  have er : (own_q kb q key).toBitVec = key.toBitVec >>> (kb - q).toInt.toNat := by rw [own_q, if_neg hq, own_shr _ (by omega) (by omega)]
  obtain ⟨S, hS⟩ : ∃ S, S = (kb - q).toInt.toNat := ⟨_, rfl⟩
  obtain ⟨N, hN⟩ : ∃ N, N = q.toInt.toNat := ⟨_, rfl⟩
  have hK : kb.toInt.toNat = N + S := by omega
  have hS1 : 1 ≤ S := by omega
  have hS2 : S < 64 := by omega
  have hN1 : 1 ≤ N := by omega
  have hN2 : N < 64 := by omega
  rw [hK, Nat.pow_add] at hkey
  have rn : (own_q kb q key).toBitVec.toNat = key.toBitVec.toNat / 2 ^ S := by rw [er, BitVec.toNat_ushiftRight, Nat.shiftRight_eq_div_pow, hS]
  have rlt : key.toBitVec.toNat / 2 ^ S < 2 ^ N := Nat.div_lt_of_lt_mul (by rw [Nat.mul_comm]; exact hkey)
  have hN63 : 2 ^ N ≤ 2 ^ 63 := Nat.pow_le_pow_right (by decide) (by omega)
  have hS63 : 2 ^ S ≤ 2 ^ 63 := Nat.pow_le_pow_right (by decide) (by omega)
  have rp := own_pos (x := own_q kb q key) (by rw [rn]; omega)
  have oS : ((1 : Int64) <<< ((kb - q) &&& 0x3f).toInt64).toBitVec.toNat = 2 ^ S := by rw [own_shl _ (by omega) (by omega), ← hS]; exact own_one hS2
  have oN : ((1 : Int64) <<< (q &&& 0x3f).toInt64).toBitVec.toNat = 2 ^ N := by rw [own_shl _ (by omega) (by omega), ← hN]; exact own_one hN2
  have ln : (key - ((own_q kb q key) * ((1 : Int64) <<< ((kb - q) &&& 0x3f).toInt64))).toBitVec.toNat = key.toBitVec.toNat % 2 ^ S := by
    rw [Int64.toBitVec_sub, Int64.toBitVec_mul, BitVec.toNat_sub, BitVec.toNat_mul, oS, rn]
    have h1 := Nat.div_add_mod key.toBitVec.toNat (2 ^ S)
    have h2 := key.toBitVec.isLt
    have h3 : 2 ^ S * (key.toBitVec.toNat / 2 ^ S) = key.toBitVec.toNat / 2 ^ S * 2 ^ S := Nat.mul_comm _ _
    generalize key.toBitVec.toNat / 2 ^ S * 2 ^ S = M at *
    generalize key.toBitVec.toNat % 2 ^ S = R at *
    omega
  have lm : key.toBitVec.toNat % 2 ^ S < 2 ^ S := Nat.mod_lt _ (Nat.two_pow_pos S)
  have lp := own_pos (x := key - ((own_q kb q key) * ((1 : Int64) <<< ((kb - q) &&& 0x3f).toInt64))) (by rw [ln]; omega)
  have z : (0 : Int64).toInt = 0 := by decide
  have z63 : (63 : Int32).toInt = 63 := by decide
  refine ⟨?_, ?_, ?_, ?_⟩
  · rw [Int64.lt_iff_toInt_lt, rp, z]; omega
  · intro h
    have h1 := Int32.lt_iff_toInt_lt.mp h
    have h2 : 2 ^ N < 2 ^ 63 := Nat.pow_lt_pow_right (by decide) (by omega)
    rw [Int64.lt_iff_toInt_lt, rp, own_pos (by rw [oN]; exact h2), oN, rn]; omega
  · rw [Int64.lt_iff_toInt_lt, lp, z]; omega
  · intro h
    have h1 : (kb - q).toInt ≠ 63 := fun h' => h (Int32.toInt_inj.mp (h'.trans (by decide)))
    have h2 : 2 ^ S < 2 ^ 63 := Nat.pow_lt_pow_right (by decide) (by omega)
    rw [Int64.lt_iff_toInt_lt, lp, own_pos (by rw [oS]; exact h2), oS, ln]; omega
theorem pn_0 : plainName "com/example/streamgist/streamgist/dedup/FingerprintQueues" = true := by first | (simp [plainName, overriddenIn]; done) | decide +kernel
theorem ef_4 (m : MethodId) (x0 : Int64) (x1 : Int32) : entryFrame m #[(.long x0), (.int x1)] 3 = mkF m 0 #[.val (.long x0), .second, .val (.int x1)] [] := by first | (simp [entryFrame, mkF, argsToLocals, Value.category]; done) | rfl
def Q4 (Z : State) (q0 : Int64) (p2 : Int32) (h0 : Heap) (n0 : Nat) (v : Option Value) (h : Heap) (L : List Loc) : Prop := v = some (.int (((((((32 : Int32) + p2).toInt64) + q0) + (63 : Int64)).toUInt64 >>> ((6 : Int32) &&& 0x3f).toInt64.toUInt64).toInt64.toInt32)) ∧ Fr n0 L ∧ h = h0
abbrev P4 (Z : State) (q0 : Int64) (p2 : Int32) (h0 : Heap) (n0 : Nat) (s : State) : Outcome → State → Prop := fun o U' => ∃ v L, o = .returned v ∧ Q4 Z q0 p2 h0 n0 v U'.heap L ∧ FrameEnd s o U' L ({ frames := 0, cells := 0, slots := 0, locals := 0 } : Room).cells ({ frames := 0, cells := 0, slots := 0, locals := 0 } : Room).slots
theorem d4_0 : decode prog_22_method_21_code 0 = .ok (.bipush 32, 2) := by decide +kernel
theorem d4_2 : decode prog_22_method_21_code 2 = .ok (.iload_n 2, 1) := by decide +kernel
theorem d4_3 : decode prog_22_method_21_code 3 = .ok (.iadd, 1) := by decide +kernel
theorem d4_4 : decode prog_22_method_21_code 4 = .ok (.i2l, 1) := by decide +kernel
theorem d4_5 : decode prog_22_method_21_code 5 = .ok (.lload_n 0, 1) := by decide +kernel
theorem d4_6 : decode prog_22_method_21_code 6 = .ok (.ladd, 1) := by decide +kernel
theorem d4_7 : decode prog_22_method_21_code 7 = .ok (.ldc2_w 167, 3) := by decide +kernel
theorem d4_10 : decode prog_22_method_21_code 10 = .ok (.ladd, 1) := by decide +kernel
theorem d4_11 : decode prog_22_method_21_code 11 = .ok (.bipush 6, 2) := by decide +kernel
theorem d4_13 : decode prog_22_method_21_code 13 = .ok (.lushr, 1) := by decide +kernel
theorem d4_14 : decode prog_22_method_21_code 14 = .ok (.l2i, 1) := by decide +kernel
theorem d4_15 : decode prog_22_method_21_code 15 = .ok (.ireturn, 1) := by decide +kernel
set_option maxRecDepth 65536 in
set_option maxHeartbeats 40000000 in
theorem rm4 (l : Launch) (Z : State) (a0 : Array Value) (hw : ∀ d ∈ tables_1, d.before a0 Z = true) (ws : List Jvm.Cond) (q0 : Int64) (p2 : Int32) (h0 : Heap) (n0 : Nat) (Z0 : n0 ≤ h0.size) :
    MetFree l (⟨"com/example/streamgist/streamgist/dedup/FingerprintQueues", "keyWord", "(JI)I"⟩ : MethodName) (head1 (Jvm.Cond.code (⟨"com/example/streamgist/streamgist/dedup/FingerprintQueues", "keyWord", "(JI)I"⟩ : MethodName) prog_22_method_21_code 3 (some .int) :: ws) ({ frames := 0, cells := 0, slots := 0, locals := 0 } : Room)) (fun a U => a = #[(.long q0), (.int p2)] ∧ Z.Warmed39 U.vm ∧ U.heap = h0) (fun _ _ _ _ _ => True) (fun _ U o U' => ∃ v L, o = .returned v ∧ Q4 Z q0 p2 h0 n0 v U'.heap L ∧ FrameEnd U o U' L ({ frames := 0, cells := 0, slots := 0, locals := 0 } : Room).cells ({ frames := 0, cells := 0, slots := 0, locals := 0 } : Room).slots) := by
  refine MetFree.of_bodySF (plainFor_of_name pn_0) hisR ?_
  intro p e s m args below meth c s₁ Bd hml0 hP hK
  obtain ⟨rfl, hZ, hh⟩ := hP
  have hx := Bd.exec
  have hby := Bd.bytes
  have hml : c.maxLocals = 3 := hml0
  have hown : s.vm.findClass "com/example/streamgist/streamgist/dedup/FingerprintQueues" = some m.cls := findClass_of_methodNamed Bd.named
  have hnm := (name_of_methodNamed Bd.named Bd.method).1
  have X0 : Stand p l e ({ frames := 0, cells := 0, slots := 0, locals := 0 } : Room) s m #[(.long q0), (.int p2)] below meth c s₁ [] 0 0 := Stand.of_body Bd
  have e0 : s₁.heap = h0 := by rw [← hh, Bd.state]; rfl
  have N0 := Fr.nil n0
  refine own_enter (P := (P4 Z q0 p2 h0 n0 s)) (ef_4 m q0 p2) ?_
  show own_Fin p.tables e below _ (s₁.setTop (mkF m 0 #[.val (.long q0), .second, .val (.int p2)] []))
  refine own_step (fun _ k => XS.bipush X0.here hx rfl (hb hby d4_0) k) ?_
  show own_Fin p.tables e below _ (s₁.setTop (mkF m 2 #[.val (.long q0), .second, .val (.int p2)] [(.int (32 : Int32))]))
  refine own_step (fun _ k => XS.iloadN X0.here hx rfl (hb hby d4_2) rfl k) ?_
  show own_Fin p.tables e below _ (s₁.setTop (mkF m 3 #[.val (.long q0), .second, .val (.int p2)] [(.int p2), (.int (32 : Int32))]))
  refine own_step (fun _ k => XS.iadd X0.here hx rfl (hb hby d4_3) rfl k) ?_
  show own_Fin p.tables e below _ (s₁.setTop (mkF m 4 #[.val (.long q0), .second, .val (.int p2)] [(.int ((32 : Int32) + p2))]))
  refine own_step (fun _ k => XS.i2l X0.here hx rfl (hb hby d4_4) rfl k) ?_
  show own_Fin p.tables e below _ (s₁.setTop (mkF m 5 #[.val (.long q0), .second, .val (.int p2)] [(.long (((32 : Int32) + p2).toInt64))]))
  refine own_step (fun _ k => XS.lloadN X0.here hx rfl (hb hby d4_5) rfl k) ?_
  show own_Fin p.tables e below _ (s₁.setTop (mkF m 6 #[.val (.long q0), .second, .val (.int p2)] [(.long q0), (.long (((32 : Int32) + p2).toInt64))]))
  refine own_step (fun _ k => XS.ladd X0.here hx rfl (hb hby d4_6) rfl k) ?_
  show own_Fin p.tables e below _ (s₁.setTop (mkF m 7 #[.val (.long q0), .second, .val (.int p2)] [(.long ((((32 : Int32) + p2).toInt64) + q0))]))
  refine own_step (X0.ldc2Long hx hown (mvT hZ (hw _ (List.mem_of_getElem? (i := 22) rfl))) (g := (mkF m 7 #[.val (.long q0), .second, .val (.int p2)] [(.long ((((32 : Int32) + p2).toInt64) + q0))])) rfl (hb hby d4_7)) ?_
  show own_Fin p.tables e below _ (s₁.setTop (mkF m 10 #[.val (.long q0), .second, .val (.int p2)] [(.long (63 : Int64)), (.long ((((32 : Int32) + p2).toInt64) + q0))]))
  refine own_step (fun _ k => XS.ladd X0.here hx rfl (hb hby d4_10) rfl k) ?_
  show own_Fin p.tables e below _ (s₁.setTop (mkF m 11 #[.val (.long q0), .second, .val (.int p2)] [(.long (((((32 : Int32) + p2).toInt64) + q0) + (63 : Int64)))]))
  refine own_step (fun _ k => XS.bipush X0.here hx rfl (hb hby d4_11) k) ?_
  show own_Fin p.tables e below _ (s₁.setTop (mkF m 13 #[.val (.long q0), .second, .val (.int p2)] [(.int (6 : Int32)), (.long (((((32 : Int32) + p2).toInt64) + q0) + (63 : Int64)))]))
  refine own_step (fun _ k => XS.lushr X0.here hx rfl (hb hby d4_13) rfl k) ?_
  show own_Fin p.tables e below _ (s₁.setTop (mkF m 14 #[.val (.long q0), .second, .val (.int p2)] [(.long (((((((32 : Int32) + p2).toInt64) + q0) + (63 : Int64)).toUInt64 >>> ((6 : Int32) &&& 0x3f).toInt64.toUInt64).toInt64))]))
  refine own_step (fun _ k => XS.l2i X0.here hx rfl (hb hby d4_14) rfl k) ?_
  show own_Fin p.tables e below _ (s₁.setTop (mkF m 15 #[.val (.long q0), .second, .val (.int p2)] [(.int ((((((((32 : Int32) + p2).toInt64) + q0) + (63 : Int64)).toUInt64 >>> ((6 : Int32) &&& 0x3f).toInt64.toUInt64).toInt64).toInt32))]))
  obtain ⟨fs1, hr1, hrun1, hended1, hW1, hsame1⟩ := X0.leave (v := some (.int ((((((((32 : Int32) + p2).toInt64) + q0) + (63 : Int64)).toUInt64 >>> ((6 : Int32) &&& 0x3f).toInt64.toUInt64).toInt64).toInt32))) (fun h => by rw [Bd.returns] at h; cases h)
  refine own_ret (retI X0 hx Bd.returns (hb hby d4_15) hr1) hrun1 hended1 ?_
  refine ⟨_, _, rfl, ?_, ⟨_, rfl⟩, hW1, hsame1.mono (by decide) (by decide)⟩
  show Q4 Z q0 p2 h0 n0 _ s₁.heap _
  rw [e0]
  exact ⟨rfl, N0, rfl⟩
theorem ef_3 (m : MethodId) (x0 : Int32) : entryFrame m #[(.int x0)] 1 = mkF m 0 #[.val (.int x0)] [] := by first | (simp [entryFrame, mkF, argsToLocals, Value.category]; done) | rfl
def Q3 (Z : State) (p0 : Int32) (h0 : Heap) (n0 : Nat) (v : Option Value) (h : Heap) (L : List Loc) : Prop := ∃ y, v = some (.ref y) ∧ Fr n0 L ∧ Keep h0 h [] ∧ h0.size ≤ y ∧ n0 ≤ y ∧ Exa Z h y "[J" ∧ own_Arf Z h y .long 2 (fun i => .long (([] : List Int64).getD i 0))
abbrev P3 (Z : State) (p0 : Int32) (h0 : Heap) (n0 : Nat) (s : State) : Outcome → State → Prop := fun o U' => ∃ v L, o = .returned v ∧ Q3 Z p0 h0 n0 v U'.heap L ∧ FrameEnd s o U' L ({ frames := 1, cells := 1, slots := 2, locals := 14 } : Room).cells ({ frames := 1, cells := 1, slots := 2, locals := 14 } : Room).slots
theorem d3_0 : decode prog_22_method_19_code 0 = .ok (.lconst 0, 1) := by decide +kernel
theorem d3_1 : decode prog_22_method_19_code 1 = .ok (.iload_n 0, 1) := by decide +kernel
theorem d3_2 : decode prog_22_method_19_code 2 = .ok (.invokestatic 90, 3) := by decide +kernel
theorem pd_0 : parseMethodDescriptor "(JI)I" = some ⟨[.long, .int], some .int⟩ := by decide +kernel
theorem d3_5 : decode prog_22_method_19_code 5 = .ok (.iconst 1, 1) := by decide +kernel
theorem d3_6 : decode prog_22_method_19_code 6 = .ok (.iadd, 1) := by decide +kernel
theorem d3_7 : decode prog_22_method_19_code 7 = .ok (.newarray .long, 2) := by decide +kernel
theorem d3_9 : decode prog_22_method_19_code 9 = .ok (.areturn, 1) := by decide +kernel
set_option maxRecDepth 65536 in
set_option maxHeartbeats 40000000 in
theorem rm3 (l : Launch) (Z : State) (a0 : Array Value) (hw : ∀ d ∈ tables_1, d.before a0 Z = true) (ws : List Jvm.Cond) (p0 : Int32) (h0 : Heap) (n0 : Nat) (Z0 : n0 ≤ h0.size) (hp : p0 = 1) :
    MetFree l (⟨"com/example/streamgist/streamgist/dedup/FingerprintQueues", "emptyGroup", "(I)[J"⟩ : MethodName) (head1 (Jvm.Cond.code (⟨"com/example/streamgist/streamgist/dedup/FingerprintQueues", "emptyGroup", "(I)[J"⟩ : MethodName) prog_22_method_19_code 1 (some (.array .long)) :: ws) ({ frames := 1, cells := 1, slots := 2, locals := 14 } : Room)) (fun a U => a = #[(.int p0)] ∧ Z.Warmed39 U.vm ∧ U.heap = h0) (fun _ _ _ _ _ => True) (fun _ U o U' => ∃ v L, o = .returned v ∧ Q3 Z p0 h0 n0 v U'.heap L ∧ FrameEnd U o U' L ({ frames := 1, cells := 1, slots := 2, locals := 14 } : Room).cells ({ frames := 1, cells := 1, slots := 2, locals := 14 } : Room).slots) := by
  refine MetFree.of_bodySF (plainFor_of_name pn_0) hisR ?_
  intro p e s m args below meth c s₁ Bd hml0 hP hK
  obtain ⟨rfl, hZ, hh⟩ := hP
  have hx := Bd.exec
  have hby := Bd.bytes
  have hml : c.maxLocals = 1 := hml0
  have hown : s.vm.findClass "com/example/streamgist/streamgist/dedup/FingerprintQueues" = some m.cls := findClass_of_methodNamed Bd.named
  have hnm := (name_of_methodNamed Bd.named Bd.method).1
  have X0 : Stand p l e ({ frames := 1, cells := 1, slots := 2, locals := 14 } : Room) s m #[(.int p0)] below meth c s₁ [] 0 0 := Stand.of_body Bd
  have e0 : s₁.heap = h0 := by rw [← hh, Bd.state]; rfl
  have N0 := Fr.nil n0
  refine own_enter (P := (P3 Z p0 h0 n0 s)) (ef_3 m p0) ?_
  have K0 : Keep h0 h0 [] := Keep.refl h0 _
  show own_Fin p.tables e below _ (s₁.setTop (mkF m 0 #[.val (.int p0)] []))
  refine own_step (fun _ k => XS.lconst X0.here hx rfl (hb hby d3_0) k) ?_
  show own_Fin p.tables e below _ (s₁.setTop (mkF m 1 #[.val (.int p0)] [(.long (0 : Int64))]))
  refine own_step (fun _ k => XS.iloadN X0.here hx rfl (hb hby d3_1) rfl k) ?_
  show own_Fin p.tables e below _ (s₁.setTop (mkF m 2 #[.val (.int p0)] [(.int p0), (.long (0 : Int64))]))
  obtain ⟨_, _, ⟨T1, L1, k1, n1⟩, -, X1, ⟨Lc1, hQ1, l1, y1, z1⟩, st1⟩ := Jvm.LawKit.callS X0 hx (y := (⟨"com/example/streamgist/streamgist/dedup/FingerprintQueues", "keyWord", "(JI)I"⟩ : MethodName)) hown (mvT hZ (hw _ (List.mem_of_getElem? (i := 19) rfl))) (mvT hZ (hw _ (List.mem_of_getElem? (i := 20) rfl))) (mvT hZ (hw _ (List.mem_of_getElem? (i := 2) rfl))) (mvT hZ (hw _ (List.mem_of_getElem? (i := 21) rfl))) (by decide) (backOf (W := 0) (rm4 l Z a0 hw [] (0 : Int64) p0  h0 n0 Z0 ) hZ (hw _ (List.mem_of_getElem? (i := 21) rfl)) (hw _ (List.mem_of_getElem? (i := 2) rfl)) (by decide) (by decide)) (g := (mkF m 2 #[.val (.int p0)] [(.int p0), (.long (0 : Int64))])) rfl (by rw [hml]; rfl) (argsL := [(.long (0 : Int64)), (.int p0)]) (rest := []) (lenOf pd_0 rfl) rfl (by show 2 * 0 + _ ≤ _; exact Nat.le_of_eq rfl) (hb hby d3_2) (fun _ _ => ⟨rfl, e0, (by decide : 0 + 0 ≤ _), (by decide : 0 + 0 ≤ _)⟩)
  dsimp only [Pt.U, Pt.locs, Pt.cells, Pt.slots] at X1 l1 y1 z1 st1 hQ1
  subst l1 y1 z1
  obtain ⟨rfl, N1q, e1⟩ := hQ1
  have N1 := Fr.app N0 N1q
  refine own_step st1 ?_
  show own_Fin p.tables e below _ (T1.setTop (mkF m 5 #[.val (.int p0)] [(.int (((((((32 : Int32) + p0).toInt64) + (0 : Int64)) + (63 : Int64)).toUInt64 >>> ((6 : Int32) &&& 0x3f).toInt64.toUInt64).toInt64.toInt32))]))
  refine own_step (fun _ k => XS.iconst X1.here hx rfl (hb hby d3_5) k) ?_
  show own_Fin p.tables e below _ (T1.setTop (mkF m 6 #[.val (.int p0)] [(.int (1 : Int32)), (.int (((((((32 : Int32) + p0).toInt64) + (0 : Int64)) + (63 : Int64)).toUInt64 >>> ((6 : Int32) &&& 0x3f).toInt64.toUInt64).toInt64.toInt32))]))
  refine own_step (fun _ k => XS.iadd X1.here hx rfl (hb hby d3_6) rfl k) ?_
  show own_Fin p.tables e below _ (T1.setTop (mkF m 7 #[.val (.int p0)] [(.int ((((((((32 : Int32) + p0).toInt64) + (0 : Int64)) + (63 : Int64)).toUInt64 >>> ((6 : Int32) &&& 0x3f).toInt64.toUInt64).toInt64.toInt32) + (1 : Int32)))]))
  have hnn : ((((((((32 : Int32) + p0).toInt64) + (0 : Int64)) + (63 : Int64)).toUInt64 >>> ((6 : Int32) &&& 0x3f).toInt64.toUInt64).toInt64.toInt32) + (1 : Int32)) = (2 : Int32) := by rw [hp]; decide
  rw [hnn]
  show own_Fin p.tables e below _ (T1.setTop (mkF m 7 #[.val (.int p0)] [(.int (2 : Int32))]))
  obtain ⟨T2, h2, k2, X2, e2, E2, A2, Q2, st2⟩ := newPE X1 hx hZ (hw _ (List.mem_of_getElem? (i := 23) rfl)) e1 (g := (mkF m 7 #[.val (.int p0)] [(.int (2 : Int32))])) rfl (hb hby d3_7) rfl (by decide) (cap := 2) (by decide) (by decide) (by decide) (by decide) (ad := "[J") rfl
  obtain ⟨b2, g2⟩ : ∃ z, z = h0.size := ⟨_, rfl⟩
  rw [← g2] at A2 Q2 st2
  refine own_step st2 ?_
  have g_b2 : n0 ≤ b2 := Nat.le_trans Z0 (Nat.le_of_eq g2.symm)
  have sz_b2 : h0.size ≤ b2 := Nat.le_trans K0.1 (Nat.le_of_eq g2.symm)
  have f3 := Nat.le_trans Z0 E2.1
  have f4 := K0.ext E2
  have f5 : own_Arf Z h2 b2 .long 2 (fun i => .long (([] : List Int64).getD i 0)) := own_Arf.ofJ (Arv.new A2 (by decide)) [] rfl rfl
  show own_Fin p.tables e below _ (T2.setTop (mkF m 9 #[.val (.int p0)] [(.ref b2)]))
  obtain ⟨fs6, hr6, hrun6, hended6, hW6, hsame6⟩ := X2.leave (v := some (.ref b2)) (fun h => by rw [Bd.returns] at h; cases h)
  refine own_ret (X2.areturnOut hx rfl Bd.returns rfl (hb hby d3_9) hr6) hrun6 hended6 ?_
  refine ⟨_, _, rfl, ?_, ⟨_, rfl⟩, hW6, hsame6.mono (by decide) (by decide)⟩
  show Q3 Z p0 h0 n0 _ T2.heap _
  rw [e2]
  exact ⟨_, rfl, N1, f4, sz_b2, g_b2, Q2, f5⟩
theorem ef_1 (m : MethodId) (x0 : Addr) (x1 : Int32) (x2 : Int64) : entryFrame m #[(.ref x0), (.int x1), (.long x2)] 5 = mkF m 0 #[.val (.ref x0), .val (.int x1), .val (.long x2), .second, .unset] [] := by first | (simp [entryFrame, mkF, argsToLocals, Value.category]; done) | rfl
def Q1 (Z : State) (ob : Addr) (kb : Int32) (mk : Int64) (u1 u2 u3 u4 : Value) (h0 : Heap) (n0 : Nat) (v : Option Value) (h : Heap) (L : List Loc) : Prop := v = none ∧ Fr n0 L ∧ Keep h0 h [ob] ∧ Exa Z h ob "com/example/streamgist/streamgist/dedup/FingerprintQueues" ∧ Fld Z h ob "com/example/streamgist/streamgist/dedup/FingerprintQueues" "keyBits" "I" (.int kb) ∧ ∃ q : Int32, Fld Z h ob "com/example/streamgist/streamgist/dedup/FingerprintQueues" "quotientBits" "I" (.int q) ∧ 0 ≤ q.toInt ∧ q.toInt ≤ kb.toInt - 1 ∧ (¬ ((2 : Int64) <<< (q &&& 0x3f).toInt64) < mk ∨ ¬ q < kb - (1 : Int32)) ∧ (q = 0 ∨ ((2 : Int64) <<< ((q - (1 : Int32)) &&& 0x3f).toInt64) < mk)
abbrev P1 (Z : State) (ob : Addr) (kb : Int32) (mk : Int64) (u1 u2 u3 u4 : Value) (h0 : Heap) (n0 : Nat) (s : State) : Outcome → State → Prop := fun o U' => ∃ v L, o = .returned v ∧ Q1 Z ob kb mk u1 u2 u3 u4 h0 n0 v U'.heap L ∧ FrameEnd s o U' L ({ frames := 2, cells := 2, slots := 3, locals := 30 } : Room).cells ({ frames := 2, cells := 2, slots := 3, locals := 30 } : Room).slots
theorem d1_0 : decode prog_22_method_1_code 0 = .ok (.aload_n 0, 1) := by decide +kernel
theorem d1_1 : decode prog_22_method_1_code 1 = .ok (.invokespecial 1, 3) := by decide +kernel
theorem d1_4 : decode prog_22_method_1_code 4 = .ok (.iconst 0, 1) := by decide +kernel
theorem d1_5 : decode prog_22_method_1_code 5 = .ok (.istore 4, 2) := by decide +kernel
theorem d1_7 : decode prog_22_method_1_code 7 = .ok (.ldc2_w 9, 3) := by decide +kernel
theorem d1_10 : decode prog_22_method_1_code 10 = .ok (.iload 4, 2) := by decide +kernel
theorem d1_12 : decode prog_22_method_1_code 12 = .ok (.lshl, 1) := by decide +kernel
theorem d1_13 : decode prog_22_method_1_code 13 = .ok (.lload_n 2, 1) := by decide +kernel
theorem d1_14 : decode prog_22_method_1_code 14 = .ok (.lcmp, 1) := by decide +kernel
theorem d1_15 : decode prog_22_method_1_code 15 = .ok (.ifCond .ge 17, 3) := by decide +kernel
theorem d1_18 : decode prog_22_method_1_code 18 = .ok (.iload 4, 2) := by decide +kernel
theorem d1_20 : decode prog_22_method_1_code 20 = .ok (.iload_n 1, 1) := by decide +kernel
theorem d1_21 : decode prog_22_method_1_code 21 = .ok (.iconst 1, 1) := by decide +kernel
theorem d1_22 : decode prog_22_method_1_code 22 = .ok (.isub, 1) := by decide +kernel
theorem d1_23 : decode prog_22_method_1_code 23 = .ok (.if_icmp .ge 9, 3) := by decide +kernel
theorem d1_26 : decode prog_22_method_1_code 26 = .ok (.iinc 4 1, 3) := by decide +kernel
theorem d1_29 : decode prog_22_method_1_code 29 = .ok (.goto (-22), 3) := by decide +kernel
theorem d1_32 : decode prog_22_method_1_code 32 = .ok (.aload_n 0, 1) := by decide +kernel
theorem d1_33 : decode prog_22_method_1_code 33 = .ok (.iload_n 1, 1) := by decide +kernel
theorem d1_34 : decode prog_22_method_1_code 34 = .ok (.putfield 11, 3) := by decide +kernel
theorem d1_37 : decode prog_22_method_1_code 37 = .ok (.aload_n 0, 1) := by decide +kernel
theorem d1_38 : decode prog_22_method_1_code 38 = .ok (.iload 4, 2) := by decide +kernel
theorem d1_40 : decode prog_22_method_1_code 40 = .ok (.putfield 15, 3) := by decide +kernel
theorem d1_43 : decode prog_22_method_1_code 43 = .ok (.aload_n 0, 1) := by decide +kernel
theorem d1_44 : decode prog_22_method_1_code 44 = .ok (.iconst 1, 1) := by decide +kernel
theorem d1_45 : decode prog_22_method_1_code 45 = .ok (.anewarray 18, 3) := by decide +kernel
theorem d1_48 : decode prog_22_method_1_code 48 = .ok (.dup, 1) := by decide +kernel
theorem d1_49 : decode prog_22_method_1_code 49 = .ok (.iconst 0, 1) := by decide +kernel
theorem d1_50 : decode prog_22_method_1_code 50 = .ok (.iconst 1, 1) := by decide +kernel
theorem d1_51 : decode prog_22_method_1_code 51 = .ok (.invokestatic 20, 3) := by decide +kernel
theorem pd_1 : parseMethodDescriptor "(I)[J" = some ⟨[.int], some (.array .long)⟩ := by decide +kernel
theorem d1_54 : decode prog_22_method_1_code 54 = .ok (.aastore, 1) := by decide +kernel
theorem d1_55 : decode prog_22_method_1_code 55 = .ok (.putfield 24, 3) := by decide +kernel
theorem d1_58 : decode prog_22_method_1_code 58 = .ok (.aload_n 0, 1) := by decide +kernel
theorem d1_59 : decode prog_22_method_1_code 59 = .ok (.aload_n 0, 1) := by decide +kernel
theorem d1_60 : decode prog_22_method_1_code 60 = .ok (.getfield 24, 3) := by decide +kernel
theorem d1_63 : decode prog_22_method_1_code 63 = .ok (.iconst 0, 1) := by decide +kernel
theorem d1_64 : decode prog_22_method_1_code 64 = .ok (.aaload, 1) := by decide +kernel
theorem d1_65 : decode prog_22_method_1_code 65 = .ok (.arraylength, 1) := by decide +kernel
theorem d1_66 : decode prog_22_method_1_code 66 = .ok (.i2l, 1) := by decide +kernel
theorem d1_67 : decode prog_22_method_1_code 67 = .ok (.putfield 28, 3) := by decide +kernel
theorem d1_70 : decode prog_22_method_1_code 70 = .ok (.return_, 1) := by decide +kernel
set_option maxRecDepth 65536 in
set_option maxHeartbeats 40000000 in
theorem rm1 (l : Launch) (Z : State) (a0 : Array Value) (hw : ∀ d ∈ tables_1, d.before a0 Z = true) (ws : List Jvm.Cond) (ob : Addr) (kb : Int32) (mk : Int64) (u1 u2 u3 u4 : Value) (h0 : Heap) (n0 : Nat) (Z0 : n0 ≤ h0.size) (F0_0 : Fld Z h0 ob "com/example/streamgist/streamgist/dedup/FingerprintQueues" "keyBits" "I" u1) (F1_0 : Fld Z h0 ob "com/example/streamgist/streamgist/dedup/FingerprintQueues" "quotientBits" "I" u2) (F2_0 : Fld Z h0 ob "com/example/streamgist/streamgist/dedup/FingerprintQueues" "groups" "[[J" u3) (F3_0 : Fld Z h0 ob "com/example/streamgist/streamgist/dedup/FingerprintQueues" "words" "J" u4) (Ex0 : Exa Z h0 ob "com/example/streamgist/streamgist/dedup/FingerprintQueues") (g_ob : n0 ≤ ob) (hk1 : 2 ≤ kb.toInt) (hk2 : kb.toInt ≤ 64) :
    MetFree l (⟨"com/example/streamgist/streamgist/dedup/FingerprintQueues", "<init>", "(IJ)V"⟩ : MethodName) (head1 (Jvm.Cond.code (⟨"com/example/streamgist/streamgist/dedup/FingerprintQueues", "<init>", "(IJ)V"⟩ : MethodName) prog_22_method_1_code 5 none :: ws) ({ frames := 2, cells := 2, slots := 3, locals := 30 } : Room)) (fun a U => a = #[(.ref ob), (.int kb), (.long mk)] ∧ Z.Warmed39 U.vm ∧ U.heap = h0) (fun _ _ _ _ _ => True) (fun _ U o U' => ∃ v L, o = .returned v ∧ Q1 Z ob kb mk u1 u2 u3 u4 h0 n0 v U'.heap L ∧ FrameEnd U o U' L ({ frames := 2, cells := 2, slots := 3, locals := 30 } : Room).cells ({ frames := 2, cells := 2, slots := 3, locals := 30 } : Room).slots) := by
  refine MetFree.of_bodySF (plainFor_of_name pn_0) hisR ?_
  intro p e s m args below meth c s₁ Bd hml0 hP hK
  obtain ⟨rfl, hZ, hh⟩ := hP
  have hx := Bd.exec
  have hby := Bd.bytes
  have hml : c.maxLocals = 5 := hml0
  have hown : s.vm.findClass "com/example/streamgist/streamgist/dedup/FingerprintQueues" = some m.cls := findClass_of_methodNamed Bd.named
  have hnm := (name_of_methodNamed Bd.named Bd.method).1
  have X0 : Stand p l e ({ frames := 2, cells := 2, slots := 3, locals := 30 } : Room) s m #[(.ref ob), (.int kb), (.long mk)] below meth c s₁ [] 0 0 := Stand.of_body Bd
  have e0 : s₁.heap = h0 := by rw [← hh, Bd.state]; rfl
  have N0 := Fr.nil n0
  refine own_enter (P := (P1 Z ob kb mk u1 u2 u3 u4 h0 n0 s)) (ef_1 m ob kb mk) ?_
  have K0 : Keep h0 h0 [ob] := Keep.refl h0 _
  show own_Fin p.tables e below _ (s₁.setTop (mkF m 0 #[.val (.ref ob), .val (.int kb), .val (.long mk), .second, .unset] []))
  refine own_step (fun _ k => XS.aloadN X0.here hx rfl (hb hby d1_0) rfl rfl k) ?_
  show own_Fin p.tables e below _ (s₁.setTop (mkF m 1 #[.val (.ref ob), .val (.int kb), .val (.long mk), .second, .unset] [(.ref ob)]))
  obtain ⟨T1, X1, e1, st1⟩ := initO X0 hx hZ hown (hw _ (List.mem_of_getElem? (i := 6) rfl)) (hw _ (List.mem_of_getElem? (i := 7) rfl)) (hw _ (List.mem_of_getElem? (i := 8) rfl)) e0 (g := (mkF m 1 #[.val (.ref ob), .val (.int kb), .val (.long mk), .second, .unset] [(.ref ob)])) rfl (by rw [hml]; rfl) rfl (hb hby d1_1) (by decide) (W := 0) (by show 2 * 0 + _ ≤ _; exact Nat.le_of_eq rfl) (by decide)
  refine own_step st1 ?_
  show own_Fin p.tables e below _ (T1.setTop (mkF m 4 #[.val (.ref ob), .val (.int kb), .val (.long mk), .second, .unset] []))
  refine own_step (fun _ k => XS.iconst X1.here hx rfl (hb hby d1_4) k) ?_
  show own_Fin p.tables e below _ (T1.setTop (mkF m 5 #[.val (.ref ob), .val (.int kb), .val (.long mk), .second, .unset] [(.int (0 : Int32))]))
  refine own_step (fun _ k => XS.istore X1.here hx rfl (hb hby d1_5) rfl (l' := #[.val (.ref ob), .val (.int kb), .val (.long mk), .second, .val (.int (0 : Int32))]) rfl k) ?_
  show own_Fin p.tables e below _ (T1.setTop (mkF m 7 #[.val (.ref ob), .val (.int kb), .val (.long mk), .second, .val (.int (0 : Int32))] []))
  have loop2 : ∀ (k : Nat) (T2 : State) (locs2 : List Loc) (q : Int32) (X2 : Stand p l e ({ frames := 2, cells := 2, slots := 3, locals := 30 } : Room) s m #[(.ref ob), (.int kb), (.long mk)] below meth c T2 locs2 0 0) (e2 : T2.heap = h0) (N2 : Fr n0 locs2) (i1 : 0 ≤ q.toInt) (i2 : q.toInt ≤ kb.toInt - 1) (i3 : q = 0 ∨ ((2 : Int64) <<< ((q - (1 : Int32)) &&& 0x3f).toInt64) < mk), (kb.toInt - q.toInt).toNat = k → own_Fin p.tables e below (P1 Z ob kb mk u1 u2 u3 u4 h0 n0 s) (T2.setTop (mkF m 7 #[.val (.ref ob), .val (.int kb), .val (.long mk), .second, .val (.int q)] [])) := by
    intro k
    induction k using Nat.strongRecOn with
    | _ k ih =>
      intro T2 locs2 q X2 e2 N2 i1 i2 i3 hmeas
      show own_Fin p.tables e below _ (T2.setTop (mkF m 7 #[.val (.ref ob), .val (.int kb), .val (.long mk), .second, .val (.int q)] []))
      refine own_step (X2.ldc2Long hx hown (mvT hZ (hw _ (List.mem_of_getElem? (i := 9) rfl))) (g := (mkF m 7 #[.val (.ref ob), .val (.int kb), .val (.long mk), .second, .val (.int q)] [])) rfl (hb hby d1_7)) ?_
      show own_Fin p.tables e below _ (T2.setTop (mkF m 10 #[.val (.ref ob), .val (.int kb), .val (.long mk), .second, .val (.int q)] [(.long (2 : Int64))]))
      refine own_step (fun _ k => XS.iload X2.here hx rfl (hb hby d1_10) rfl k) ?_
      show own_Fin p.tables e below _ (T2.setTop (mkF m 12 #[.val (.ref ob), .val (.int kb), .val (.long mk), .second, .val (.int q)] [(.int q), (.long (2 : Int64))]))
      refine own_step (fun _ k => XS.lshl X2.here hx rfl (hb hby d1_12) rfl k) ?_
      show own_Fin p.tables e below _ (T2.setTop (mkF m 13 #[.val (.ref ob), .val (.int kb), .val (.long mk), .second, .val (.int q)] [(.long ((2 : Int64) <<< (q &&& 0x3f).toInt64))]))
      refine own_step (fun _ k => XS.lloadN X2.here hx rfl (hb hby d1_13) rfl k) ?_
      show own_Fin p.tables e below _ (T2.setTop (mkF m 14 #[.val (.ref ob), .val (.int kb), .val (.long mk), .second, .val (.int q)] [(.long mk), (.long ((2 : Int64) <<< (q &&& 0x3f).toInt64))]))
      refine own_step (fun _ k => XS.lcmp X2.here hx rfl (hb hby d1_14) rfl k) ?_
      show own_Fin p.tables e below _ (T2.setTop (mkF m 15 #[.val (.ref ob), .val (.int kb), .val (.long mk), .second, .val (.int q)] [(.int (lcmpW ((2 : Int64) <<< (q &&& 0x3f).toInt64) mk))]))
      by_cases hc3 : ((2 : Int64) <<< (q &&& 0x3f).toInt64) < mk
      · refine own_step (fun _ k => XS.ifNo X2.here hx rfl (hb hby d1_15) rfl ((if0 _ _).trans (tlt ((lw_lt _ _).mpr hc3)).2.1) k) ?_
        show own_Fin p.tables e below _ (T2.setTop (mkF m 18 #[.val (.ref ob), .val (.int kb), .val (.long mk), .second, .val (.int q)] []))
        refine own_step (fun _ k => XS.iload X2.here hx rfl (hb hby d1_18) rfl k) ?_
        show own_Fin p.tables e below _ (T2.setTop (mkF m 20 #[.val (.ref ob), .val (.int kb), .val (.long mk), .second, .val (.int q)] [(.int q)]))
        refine own_step (fun _ k => XS.iloadN X2.here hx rfl (hb hby d1_20) rfl k) ?_
        show own_Fin p.tables e below _ (T2.setTop (mkF m 21 #[.val (.ref ob), .val (.int kb), .val (.long mk), .second, .val (.int q)] [(.int kb), (.int q)]))
        refine own_step (fun _ k => XS.iconst X2.here hx rfl (hb hby d1_21) k) ?_
        show own_Fin p.tables e below _ (T2.setTop (mkF m 22 #[.val (.ref ob), .val (.int kb), .val (.long mk), .second, .val (.int q)] [(.int (1 : Int32)), (.int kb), (.int q)]))
        refine own_step (fun _ k => XS.isub X2.here hx rfl (hb hby d1_22) rfl k) ?_
        show own_Fin p.tables e below _ (T2.setTop (mkF m 23 #[.val (.ref ob), .val (.int kb), .val (.long mk), .second, .val (.int q)] [(.int (kb - (1 : Int32))), (.int q)]))
        by_cases hc4 : q < (kb - (1 : Int32))
        · refine own_step (fun _ k => XS.icmpNo X2.here hx rfl (hb hby d1_23) rfl ((tlt hc4).2.1) k) ?_
          show own_Fin p.tables e below _ (T2.setTop (mkF m 26 #[.val (.ref ob), .val (.int kb), .val (.long mk), .second, .val (.int q)] []))
          refine own_step (fun _ k => XS.iinc X2.here hx rfl (hb hby d1_26) rfl (l' := #[.val (.ref ob), .val (.int kb), .val (.long mk), .second, .val (.int (q + (1 : Int32)))]) rfl k) ?_
          show own_Fin p.tables e below _ (T2.setTop (mkF m 29 #[.val (.ref ob), .val (.int kb), .val (.long mk), .second, .val (.int (q + (1 : Int32)))] []))
          refine own_step (fun _ k => XS.goto X2.here hx rfl (pc0 := 29) (pc' := 7) rfl (hb hby d1_29) (by decide) (by decide) k) ?_
          show own_Fin p.tables e below _ (T2.setTop (mkF m 7 #[.val (.ref ob), .val (.int kb), .val (.long mk), .second, .val (.int (q + (1 : Int32)))] []))
          have hqk := Int32.lt_iff_toInt_lt.mp hc4
          have hk3 := own_sub1 (n := kb) (by omega)
          have hq1 : (q + (1 : Int32)).toInt = q.toInt + 1 := own_add1 (by omega)
          have hq2 : (q + (1 : Int32)) - (1 : Int32) = q := own_addsub q
          exact ih _ (by omega) T2 _ (q + (1 : Int32)) X2 e2 N2 (by omega) (by omega) (Or.inr (by rw [hq2]; exact hc3)) rfl
        · refine own_step (fun _ k => XS.icmpYes X2.here hx rfl (pc0 := 23) (pc' := 32) rfl (hb hby d1_23) rfl ((flt hc4).2.1) (by decide) (by decide) k) ?_
          show own_Fin p.tables e below _ (T2.setTop (mkF m 32 #[.val (.ref ob), .val (.int kb), .val (.long mk), .second, .val (.int q)] []))
          have hex : ¬ ((2 : Int64) <<< (q &&& 0x3f).toInt64) < mk ∨ ¬ q < kb - (1 : Int32) := Or.inr hc4
          refine own_step (fun _ k => XS.aloadN X2.here hx rfl (hb hby d1_32) rfl rfl k) ?_
          show own_Fin p.tables e below _ (T2.setTop (mkF m 33 #[.val (.ref ob), .val (.int kb), .val (.long mk), .second, .val (.int q)] [(.ref ob)]))
          refine own_step (fun _ k => XS.iloadN X2.here hx rfl (hb hby d1_33) rfl k) ?_
          show own_Fin p.tables e below _ (T2.setTop (mkF m 34 #[.val (.ref ob), .val (.int kb), .val (.long mk), .second, .val (.int q)] [(.int kb), (.ref ob)]))
          obtain ⟨T5, h5, X5, e5, W5, st5⟩ := putF X2 hx hZ hown (host := "") (Or.inl (hw _ (List.mem_of_getElem? (i := 10) rfl))) Via.refl e2 F0_0 Ex0 (Or.inr ⟨(hw _ (List.mem_of_getElem? (i := 11) rfl)), rfl, hnm⟩) (hw _ (List.mem_of_getElem? (i := 1) rfl)) (ty := .int) (by decide) rfl rfl (g := (mkF m 34 #[.val (.ref ob), .val (.int kb), .val (.long mk), .second, .val (.int q)] [(.int kb), (.ref ob)])) rfl rfl (hb hby d1_34)
          refine own_step st5 ?_
          have f6 := Nat.le_trans Z0 (Keep.of_wr W5).1
          have f7 := F1_0.other W5 (Or.inr (slot_ne (Or.inr (hw _ (List.mem_of_getElem? (i := 13) rfl))) (Or.inr (hw _ (List.mem_of_getElem? (i := 11) rfl))) (by decide) (t := .int) (t' := .int) (by decide) (by decide)))
          have f8 := F2_0.other W5 (Or.inr (slot_ne (Or.inl (hw _ (List.mem_of_getElem? (i := 26) rfl))) (Or.inr (hw _ (List.mem_of_getElem? (i := 11) rfl))) (by decide) (t := (.array (.array .long))) (t' := .int) (by decide) (by decide)))
          have f9 := F3_0.other W5 (Or.inr (slot_ne (Or.inl (hw _ (List.mem_of_getElem? (i := 28) rfl))) (Or.inr (hw _ (List.mem_of_getElem? (i := 11) rfl))) (by decide) (t := .long) (t' := .int) (by decide) (by decide)))
          have f10 := Ex0.wr W5
          have f11 := K0.wr W5 (Or.inl (List.mem_of_getElem? (i := 0) rfl))
          have f12 := F0_0.same W5
          have N13 := Fr.snoc X5 N2 g_ob
          show own_Fin p.tables e below _ (T5.setTop (mkF m 37 #[.val (.ref ob), .val (.int kb), .val (.long mk), .second, .val (.int q)] []))
          refine own_step (fun _ k => XS.aloadN X5.here hx rfl (hb hby d1_37) rfl rfl k) ?_
          show own_Fin p.tables e below _ (T5.setTop (mkF m 38 #[.val (.ref ob), .val (.int kb), .val (.long mk), .second, .val (.int q)] [(.ref ob)]))
          refine own_step (fun _ k => XS.iload X5.here hx rfl (hb hby d1_38) rfl k) ?_
          show own_Fin p.tables e below _ (T5.setTop (mkF m 40 #[.val (.ref ob), .val (.int kb), .val (.long mk), .second, .val (.int q)] [(.int q), (.ref ob)]))
          obtain ⟨T14, h14, X14, e14, W14, st14⟩ := putF X5 hx hZ hown (host := "") (Or.inl (hw _ (List.mem_of_getElem? (i := 12) rfl))) Via.refl e5 f7 f10 (Or.inr ⟨(hw _ (List.mem_of_getElem? (i := 13) rfl)), rfl, hnm⟩) (hw _ (List.mem_of_getElem? (i := 1) rfl)) (ty := .int) (by decide) rfl rfl (g := (mkF m 40 #[.val (.ref ob), .val (.int kb), .val (.long mk), .second, .val (.int q)] [(.int q), (.ref ob)])) rfl rfl (hb hby d1_40)
          refine own_step st14 ?_
          have f15 := Nat.le_trans f6 (Keep.of_wr W14).1
          have f16 := f12.other W14 (Or.inr (slot_ne (Or.inr (hw _ (List.mem_of_getElem? (i := 11) rfl))) (Or.inr (hw _ (List.mem_of_getElem? (i := 13) rfl))) (by decide) (t := .int) (t' := .int) (by decide) (by decide)))
          have f17 := f8.other W14 (Or.inr (slot_ne (Or.inl (hw _ (List.mem_of_getElem? (i := 26) rfl))) (Or.inr (hw _ (List.mem_of_getElem? (i := 13) rfl))) (by decide) (t := (.array (.array .long))) (t' := .int) (by decide) (by decide)))
          have f18 := f9.other W14 (Or.inr (slot_ne (Or.inl (hw _ (List.mem_of_getElem? (i := 28) rfl))) (Or.inr (hw _ (List.mem_of_getElem? (i := 13) rfl))) (by decide) (t := .long) (t' := .int) (by decide) (by decide)))
          have f19 := f10.wr W14
          have f20 := f11.wr W14 (Or.inl (List.mem_of_getElem? (i := 0) rfl))
          have f21 := f7.same W14
          have N22 := Fr.snoc X14 N13 g_ob
          show own_Fin p.tables e below _ (T14.setTop (mkF m 43 #[.val (.ref ob), .val (.int kb), .val (.long mk), .second, .val (.int q)] []))
          refine own_step (fun _ k => XS.aloadN X14.here hx rfl (hb hby d1_43) rfl rfl k) ?_
          show own_Fin p.tables e below _ (T14.setTop (mkF m 44 #[.val (.ref ob), .val (.int kb), .val (.long mk), .second, .val (.int q)] [(.ref ob)]))
          refine own_step (fun _ k => XS.iconst X14.here hx rfl (hb hby d1_44) k) ?_
          show own_Fin p.tables e below _ (T14.setTop (mkF m 45 #[.val (.ref ob), .val (.int kb), .val (.long mk), .second, .val (.int q)] [(.int (1 : Int32)), (.ref ob)]))
          obtain ⟨T23, h23, k23, X23, e23, E23, A23, Q23, O23, st23⟩ := newRA X14 hx hZ hown (C := "[J") (ty := .long) rfl (hw _ (List.mem_of_getElem? (i := 14) rfl)) (hw _ (List.mem_of_getElem? (i := 15) rfl)) e14 (g := (mkF m 45 #[.val (.ref ob), .val (.int kb), .val (.long mk), .second, .val (.int q)] [(.int (1 : Int32)), (.ref ob)])) rfl (hb hby d1_45) rfl (by decide) (cap := 1) (by decide) (by decide) (by decide) (by decide) (ad := "[[J") rfl
          obtain ⟨b23, g23⟩ : ∃ z, z = h14.size := ⟨_, rfl⟩
          rw [← g23] at A23 Q23 st23
          refine own_step st23 ?_
          have g_b23 : n0 ≤ b23 := Nat.le_trans f15 (Nat.le_of_eq g23.symm)
          have sz_b23 : h0.size ≤ b23 := Nat.le_trans f20.1 (Nat.le_of_eq g23.symm)
          have ne_ob_b23 : ob ≠ b23 := Nat.ne_of_lt (Nat.lt_of_lt_of_le f16.lt (Nat.le_of_eq g23.symm))
          have f24 := Nat.le_trans f15 E23.1
          have f25 := f16.ext E23
          have f26 := f21.ext E23
          have f27 := f17.ext E23
          have f28 := f18.ext E23
          have f29 := f19.ext E23
          have f30 := f20.ext E23
          have f31 : Arv Z h23 b23 k23 (.array .long) (1 : Int32) [.null] .null := (Arv.new A23 (by decide)).pad (pad_rep [] .null 1)
          show own_Fin p.tables e below _ (T23.setTop (mkF m 48 #[.val (.ref ob), .val (.int kb), .val (.long mk), .second, .val (.int q)] [(.ref b23), (.ref ob)]))
          refine own_step (fun _ k => XS.dup X23.here hx rfl (hb hby d1_48) rfl rfl k) ?_
          show own_Fin p.tables e below _ (T23.setTop (mkF m 49 #[.val (.ref ob), .val (.int kb), .val (.long mk), .second, .val (.int q)] [(.ref b23), (.ref b23), (.ref ob)]))
          refine own_step (fun _ k => XS.iconst X23.here hx rfl (hb hby d1_49) k) ?_
          show own_Fin p.tables e below _ (T23.setTop (mkF m 50 #[.val (.ref ob), .val (.int kb), .val (.long mk), .second, .val (.int q)] [(.int (0 : Int32)), (.ref b23), (.ref b23), (.ref ob)]))
          refine own_step (fun _ k => XS.iconst X23.here hx rfl (hb hby d1_50) k) ?_
          show own_Fin p.tables e below _ (T23.setTop (mkF m 51 #[.val (.ref ob), .val (.int kb), .val (.long mk), .second, .val (.int q)] [(.int (1 : Int32)), (.int (0 : Int32)), (.ref b23), (.ref b23), (.ref ob)]))
          obtain ⟨_, _, ⟨T32, L32, k32, n32⟩, -, X32, ⟨Lc32, hQ32, l32, y32, z32⟩, st32⟩ := Jvm.LawKit.callS X23 hx (y := (⟨"com/example/streamgist/streamgist/dedup/FingerprintQueues", "emptyGroup", "(I)[J"⟩ : MethodName)) hown (mvT hZ (hw _ (List.mem_of_getElem? (i := 16) rfl))) (mvT hZ (hw _ (List.mem_of_getElem? (i := 17) rfl))) (mvT hZ (hw _ (List.mem_of_getElem? (i := 2) rfl))) (mvT hZ (hw _ (List.mem_of_getElem? (i := 18) rfl))) (by decide) (backOf (W := 4) (rm3 l Z a0 hw [] (1 : Int32)  h23 n0 f24 rfl) hZ (hw _ (List.mem_of_getElem? (i := 18) rfl)) (hw _ (List.mem_of_getElem? (i := 2) rfl)) (by decide) (by decide)) (g := (mkF m 51 #[.val (.ref ob), .val (.int kb), .val (.long mk), .second, .val (.int q)] [(.int (1 : Int32)), (.int (0 : Int32)), (.ref b23), (.ref b23), (.ref ob)])) rfl (by rw [hml]; rfl) (argsL := [(.int (1 : Int32))]) (rest := [(.int (0 : Int32)), (.ref b23), (.ref b23), (.ref ob)]) (lenOf pd_1 rfl) rfl (by show 2 * 0 + _ ≤ _; exact Nat.le_of_eq rfl) (hb hby d1_51) (fun _ _ => ⟨rfl, e23, (by decide : 1 + 1 ≤ _), (by decide : 1 + 2 ≤ _)⟩)
          dsimp only [Pt.U, Pt.locs, Pt.cells, Pt.slots] at X32 l32 y32 z32 st32 hQ32
          subst l32 y32 z32
          obtain ⟨y32, rfl, N32q, K32, hy32, g_y32, fe32, fa32⟩ := hQ32
          have N32 := Fr.app N22 N32q
          refine own_step st32 ?_
          have f33 := Nat.le_trans f24 K32.1
          have f34 := f25.keep K32 nin0
          have f35 := f26.keep K32 nin0
          have f36 := f27.keep K32 nin0
          have f37 := f28.keep K32 nin0
          have f38 := f29.keep K32
          have f39 := f30.trans K32 all0
          have f40 := f31.keep K32 nin0
          have ne_ob_y32 : ob ≠ y32 := Nat.ne_of_lt (Nat.lt_of_lt_of_le f29.lt hy32)
          have ne_b23_y32 : b23 ≠ y32 := Nat.ne_of_lt (Nat.lt_of_lt_of_le f31.lt hy32)
          show own_Fin p.tables e below _ (T32.setTop (mkF m 54 #[.val (.ref ob), .val (.int kb), .val (.long mk), .second, .val (.int q)] [(.ref y32), (.int (0 : Int32)), (.ref b23), (.ref b23), (.ref ob)]))
          obtain ⟨cl41, Ar41, q41, S41, M41, H41, G41⟩ := id f40
          have hin41 : ¬ ((0 : Int32) < 0 ∨ cl41.slots.size ≤ (0 : Int32).toNatClampNeg) := inb_of S41 ⟨by decide, by decide⟩
          obtain ⟨T41, h41, X41, e41, W41, st41⟩ := stR X32 hx hZ rfl Ar41 (j := 0) hin41 rfl (Sto.ofVA Ar41 q41 O23 (Ins.self fe32)) (g := (mkF m 54 #[.val (.ref ob), .val (.int kb), .val (.long mk), .second, .val (.int q)] [(.ref y32), (.int (0 : Int32)), (.ref b23), (.ref b23), (.ref ob)])) rfl rfl (hb hby d1_54)
          refine own_step st41 ?_
          have f42 := Nat.le_trans f33 (Keep.of_wr W41).1
          have f43 := f34.other W41 (Or.inl ne_ob_b23)
          have f44 := f35.other W41 (Or.inl ne_ob_b23)
          have f45 := f36.other W41 (Or.inl ne_ob_b23)
          have f46 := f37.other W41 (Or.inl ne_ob_b23)
          have f47 := f38.wr W41
          have f48 := f39.wr W41 (Or.inr sz_b23)
          have f49 := fe32.wr W41
          have f50 := fa32.other W41 (Ne.symm ne_b23_y32)
          have f51 : Arv Z h41 b23 k23 (.array .long) (1 : Int32) [(.ref y32)] .null := Arv.set Ar41 q41 S41 M41 H41 G41 rfl W41 0 rfl (Nat.le_of_ble_eq_true rfl)
          have N52 := Fr.snoc X41 N32 g_b23
          show own_Fin p.tables e below _ (T41.setTop (mkF m 55 #[.val (.ref ob), .val (.int kb), .val (.long mk), .second, .val (.int q)] [(.ref b23), (.ref ob)]))
          obtain ⟨T53, h53, X53, e53, W53, st53⟩ := putF X41 hx hZ hown (host := "") (Or.inl (hw _ (List.mem_of_getElem? (i := 25) rfl))) Via.refl e41 f45 f47 (Or.inl (hw _ (List.mem_of_getElem? (i := 26) rfl))) (hw _ (List.mem_of_getElem? (i := 1) rfl)) (ty := (.array (.array .long))) (by decide) rfl rfl (g := (mkF m 55 #[.val (.ref ob), .val (.int kb), .val (.long mk), .second, .val (.int q)] [(.ref b23), (.ref ob)])) rfl rfl (hb hby d1_55)
          refine own_step st53 ?_
          have f54 := Nat.le_trans f42 (Keep.of_wr W53).1
          have f55 := f43.other W53 (Or.inr (slot_ne (Or.inr (hw _ (List.mem_of_getElem? (i := 11) rfl))) (Or.inl (hw _ (List.mem_of_getElem? (i := 26) rfl))) (by decide) (t := .int) (t' := (.array (.array .long))) (by decide) (by decide)))
          have f56 := f44.other W53 (Or.inr (slot_ne (Or.inr (hw _ (List.mem_of_getElem? (i := 13) rfl))) (Or.inl (hw _ (List.mem_of_getElem? (i := 26) rfl))) (by decide) (t := .int) (t' := (.array (.array .long))) (by decide) (by decide)))
          have f57 := f46.other W53 (Or.inr (slot_ne (Or.inl (hw _ (List.mem_of_getElem? (i := 28) rfl))) (Or.inl (hw _ (List.mem_of_getElem? (i := 26) rfl))) (by decide) (t := .long) (t' := (.array (.array .long))) (by decide) (by decide)))
          have f58 := f47.wr W53
          have f59 := f48.wr W53 (Or.inl (List.mem_of_getElem? (i := 0) rfl))
          have f60 := f51.other W53 (Ne.symm ne_ob_b23)
          have f61 := f49.wr W53
          have f62 := f50.other W53 (Ne.symm ne_ob_y32)
          have f63 := f45.same W53
          have N64 := Fr.snoc X53 N52 g_ob
          show own_Fin p.tables e below _ (T53.setTop (mkF m 58 #[.val (.ref ob), .val (.int kb), .val (.long mk), .second, .val (.int q)] []))
          refine own_step (fun _ k => XS.aloadN X53.here hx rfl (hb hby d1_58) rfl rfl k) ?_
          show own_Fin p.tables e below _ (T53.setTop (mkF m 59 #[.val (.ref ob), .val (.int kb), .val (.long mk), .second, .val (.int q)] [(.ref ob)]))
          refine own_step (fun _ k => XS.aloadN X53.here hx rfl (hb hby d1_59) rfl rfl k) ?_
          show own_Fin p.tables e below _ (T53.setTop (mkF m 60 #[.val (.ref ob), .val (.int kb), .val (.long mk), .second, .val (.int q)] [(.ref ob), (.ref ob)]))
          obtain ⟨T65, X65, e65, st65⟩ := getF X53 hx hZ hown (host := "") (Or.inl (hw _ (List.mem_of_getElem? (i := 25) rfl))) Via.refl e53 f63 (g := (mkF m 60 #[.val (.ref ob), .val (.int kb), .val (.long mk), .second, .val (.int q)] [(.ref ob), (.ref ob)])) rfl rfl (hb hby d1_60)
          refine own_step st65 ?_
          show own_Fin p.tables e below _ (T65.setTop (mkF m 63 #[.val (.ref ob), .val (.int kb), .val (.long mk), .second, .val (.int q)] [(.ref b23), (.ref ob)]))
          refine own_step (fun _ k => XS.iconst X65.here hx rfl (hb hby d1_63) k) ?_
          show own_Fin p.tables e below _ (T65.setTop (mkF m 64 #[.val (.ref ob), .val (.int kb), .val (.long mk), .second, .val (.int q)] [(.int (0 : Int32)), (.ref b23), (.ref ob)]))
          obtain ⟨cl66, Ar66, -, S66, M66, H66, -⟩ := id f60
          have hin66 : ¬ ((0 : Int32) < 0 ∨ cl66.slots.size ≤ (0 : Int32).toNatClampNeg) := inb_of S66 ⟨by decide, by decide⟩
          refine own_step (X65.aaload hx (j := 0) (v := (.ref y32)) (by rw [e65]; exact Ar66.1) (State.isArrayOf_alike hZ.alike Ar66.2.1) rfl Ar66.2.2 hin66 (H66.at hin66 rfl) (g := (mkF m 64 #[.val (.ref ob), .val (.int kb), .val (.long mk), .second, .val (.int q)] [(.int (0 : Int32)), (.ref b23), (.ref ob)])) rfl rfl (hb hby d1_64)) ?_
          show own_Fin p.tables e below _ (T65.setTop (mkF m 65 #[.val (.ref ob), .val (.int kb), .val (.long mk), .second, .val (.int q)] [(.ref y32), (.ref ob)]))
          obtain ⟨cm66, Am66, Sm66, -⟩ := id f62
          refine own_step (X65.arraylength hx (by rw [e65]; exact Am66.1) (State.isArrayOf_alike hZ.alike Am66.2.1) (g := (mkF m 65 #[.val (.ref ob), .val (.int kb), .val (.long mk), .second, .val (.int q)] [(.ref y32), (.ref ob)])) rfl rfl (hb hby d1_65)) ?_
          rw [Sm66]
          show own_Fin p.tables e below _ (T65.setTop (mkF m 66 #[.val (.ref ob), .val (.int kb), .val (.long mk), .second, .val (.int q)] [(.int (Nat.toInt32 2)), (.ref ob)]))
          refine own_step (fun _ k => XS.i2l X65.here hx rfl (hb hby d1_66) rfl k) ?_
          show own_Fin p.tables e below _ (T65.setTop (mkF m 67 #[.val (.ref ob), .val (.int kb), .val (.long mk), .second, .val (.int q)] [(.long ((Nat.toInt32 2).toInt64)), (.ref ob)]))
          obtain ⟨T67, h67, X67, e67, W67, st67⟩ := putF X65 hx hZ hown (host := "") (Or.inl (hw _ (List.mem_of_getElem? (i := 27) rfl))) Via.refl e65 f57 f58 (Or.inl (hw _ (List.mem_of_getElem? (i := 28) rfl))) (hw _ (List.mem_of_getElem? (i := 1) rfl)) (ty := .long) (by decide) rfl rfl (g := (mkF m 67 #[.val (.ref ob), .val (.int kb), .val (.long mk), .second, .val (.int q)] [(.long ((Nat.toInt32 2).toInt64)), (.ref ob)])) rfl rfl (hb hby d1_67)
          refine own_step st67 ?_
          have f68 := Nat.le_trans f54 (Keep.of_wr W67).1
          have f69 := f55.other W67 (Or.inr (slot_ne (Or.inr (hw _ (List.mem_of_getElem? (i := 11) rfl))) (Or.inl (hw _ (List.mem_of_getElem? (i := 28) rfl))) (by decide) (t := .int) (t' := .long) (by decide) (by decide)))
          have f70 := f56.other W67 (Or.inr (slot_ne (Or.inr (hw _ (List.mem_of_getElem? (i := 13) rfl))) (Or.inl (hw _ (List.mem_of_getElem? (i := 28) rfl))) (by decide) (t := .int) (t' := .long) (by decide) (by decide)))
          have f71 := f63.other W67 (Or.inr (slot_ne (Or.inl (hw _ (List.mem_of_getElem? (i := 26) rfl))) (Or.inl (hw _ (List.mem_of_getElem? (i := 28) rfl))) (by decide) (t := (.array (.array .long))) (t' := .long) (by decide) (by decide)))
          have f72 := f58.wr W67
          have f73 := f59.wr W67 (Or.inl (List.mem_of_getElem? (i := 0) rfl))
          have f74 := f60.other W67 (Ne.symm ne_ob_b23)
          have f75 := f61.wr W67
          have f76 := f62.other W67 (Ne.symm ne_ob_y32)
          have f77 := f57.same W67
          have N78 := Fr.snoc X67 N64 g_ob
          show own_Fin p.tables e below _ (T67.setTop (mkF m 70 #[.val (.ref ob), .val (.int kb), .val (.long mk), .second, .val (.int q)] []))
          obtain ⟨fs79, hr79, hrun79, hended79, hW79, hsame79⟩ := X67.leave (v := none) (fun _ => rfl)
          refine own_ret (X67.returnOut hx Bd.returns (hb hby d1_70) hr79) hrun79 hended79 ?_
          refine ⟨_, _, rfl, ?_, ⟨_, rfl⟩, hW79, hsame79.mono (by decide) (by decide)⟩
          show Q1 Z ob kb mk u1 u2 u3 u4 h0 n0 _ T67.heap _
          rw [e67]
          exact ⟨rfl, N78, f73, f72, f69, _, f70, i1, i2, hex, i3⟩
      · refine own_step (fun _ k => XS.ifYes X2.here hx rfl (pc0 := 15) (pc' := 32) rfl (hb hby d1_15) rfl ((if0 _ _).trans (flt (fun q => hc3 ((lw_lt _ _).mp q))).2.1) (by decide) (by decide) k) ?_
        show own_Fin p.tables e below _ (T2.setTop (mkF m 32 #[.val (.ref ob), .val (.int kb), .val (.long mk), .second, .val (.int q)] []))
        have hex : ¬ ((2 : Int64) <<< (q &&& 0x3f).toInt64) < mk ∨ ¬ q < kb - (1 : Int32) := Or.inl hc3
        refine own_step (fun _ k => XS.aloadN X2.here hx rfl (hb hby d1_32) rfl rfl k) ?_
        show own_Fin p.tables e below _ (T2.setTop (mkF m 33 #[.val (.ref ob), .val (.int kb), .val (.long mk), .second, .val (.int q)] [(.ref ob)]))
        refine own_step (fun _ k => XS.iloadN X2.here hx rfl (hb hby d1_33) rfl k) ?_
        show own_Fin p.tables e below _ (T2.setTop (mkF m 34 #[.val (.ref ob), .val (.int kb), .val (.long mk), .second, .val (.int q)] [(.int kb), (.ref ob)]))
        obtain ⟨T80, h80, X80, e80, W80, st80⟩ := putF X2 hx hZ hown (host := "") (Or.inl (hw _ (List.mem_of_getElem? (i := 10) rfl))) Via.refl e2 F0_0 Ex0 (Or.inr ⟨(hw _ (List.mem_of_getElem? (i := 11) rfl)), rfl, hnm⟩) (hw _ (List.mem_of_getElem? (i := 1) rfl)) (ty := .int) (by decide) rfl rfl (g := (mkF m 34 #[.val (.ref ob), .val (.int kb), .val (.long mk), .second, .val (.int q)] [(.int kb), (.ref ob)])) rfl rfl (hb hby d1_34)
        refine own_step st80 ?_
        have f81 := Nat.le_trans Z0 (Keep.of_wr W80).1
        have f82 := F1_0.other W80 (Or.inr (slot_ne (Or.inr (hw _ (List.mem_of_getElem? (i := 13) rfl))) (Or.inr (hw _ (List.mem_of_getElem? (i := 11) rfl))) (by decide) (t := .int) (t' := .int) (by decide) (by decide)))
        have f83 := F2_0.other W80 (Or.inr (slot_ne (Or.inl (hw _ (List.mem_of_getElem? (i := 26) rfl))) (Or.inr (hw _ (List.mem_of_getElem? (i := 11) rfl))) (by decide) (t := (.array (.array .long))) (t' := .int) (by decide) (by decide)))
        have f84 := F3_0.other W80 (Or.inr (slot_ne (Or.inl (hw _ (List.mem_of_getElem? (i := 28) rfl))) (Or.inr (hw _ (List.mem_of_getElem? (i := 11) rfl))) (by decide) (t := .long) (t' := .int) (by decide) (by decide)))
        have f85 := Ex0.wr W80
        have f86 := K0.wr W80 (Or.inl (List.mem_of_getElem? (i := 0) rfl))
        have f87 := F0_0.same W80
        have N88 := Fr.snoc X80 N2 g_ob
        show own_Fin p.tables e below _ (T80.setTop (mkF m 37 #[.val (.ref ob), .val (.int kb), .val (.long mk), .second, .val (.int q)] []))
        refine own_step (fun _ k => XS.aloadN X80.here hx rfl (hb hby d1_37) rfl rfl k) ?_
        show own_Fin p.tables e below _ (T80.setTop (mkF m 38 #[.val (.ref ob), .val (.int kb), .val (.long mk), .second, .val (.int q)] [(.ref ob)]))
        refine own_step (fun _ k => XS.iload X80.here hx rfl (hb hby d1_38) rfl k) ?_
        show own_Fin p.tables e below _ (T80.setTop (mkF m 40 #[.val (.ref ob), .val (.int kb), .val (.long mk), .second, .val (.int q)] [(.int q), (.ref ob)]))
        obtain ⟨T89, h89, X89, e89, W89, st89⟩ := putF X80 hx hZ hown (host := "") (Or.inl (hw _ (List.mem_of_getElem? (i := 12) rfl))) Via.refl e80 f82 f85 (Or.inr ⟨(hw _ (List.mem_of_getElem? (i := 13) rfl)), rfl, hnm⟩) (hw _ (List.mem_of_getElem? (i := 1) rfl)) (ty := .int) (by decide) rfl rfl (g := (mkF m 40 #[.val (.ref ob), .val (.int kb), .val (.long mk), .second, .val (.int q)] [(.int q), (.ref ob)])) rfl rfl (hb hby d1_40)
        refine own_step st89 ?_
        have f90 := Nat.le_trans f81 (Keep.of_wr W89).1
        have f91 := f87.other W89 (Or.inr (slot_ne (Or.inr (hw _ (List.mem_of_getElem? (i := 11) rfl))) (Or.inr (hw _ (List.mem_of_getElem? (i := 13) rfl))) (by decide) (t := .int) (t' := .int) (by decide) (by decide)))
        have f92 := f83.other W89 (Or.inr (slot_ne (Or.inl (hw _ (List.mem_of_getElem? (i := 26) rfl))) (Or.inr (hw _ (List.mem_of_getElem? (i := 13) rfl))) (by decide) (t := (.array (.array .long))) (t' := .int) (by decide) (by decide)))
        have f93 := f84.other W89 (Or.inr (slot_ne (Or.inl (hw _ (List.mem_of_getElem? (i := 28) rfl))) (Or.inr (hw _ (List.mem_of_getElem? (i := 13) rfl))) (by decide) (t := .long) (t' := .int) (by decide) (by decide)))
        have f94 := f85.wr W89
        have f95 := f86.wr W89 (Or.inl (List.mem_of_getElem? (i := 0) rfl))
        have f96 := f82.same W89
        have N97 := Fr.snoc X89 N88 g_ob
        show own_Fin p.tables e below _ (T89.setTop (mkF m 43 #[.val (.ref ob), .val (.int kb), .val (.long mk), .second, .val (.int q)] []))
        refine own_step (fun _ k => XS.aloadN X89.here hx rfl (hb hby d1_43) rfl rfl k) ?_
        show own_Fin p.tables e below _ (T89.setTop (mkF m 44 #[.val (.ref ob), .val (.int kb), .val (.long mk), .second, .val (.int q)] [(.ref ob)]))
        refine own_step (fun _ k => XS.iconst X89.here hx rfl (hb hby d1_44) k) ?_
        show own_Fin p.tables e below _ (T89.setTop (mkF m 45 #[.val (.ref ob), .val (.int kb), .val (.long mk), .second, .val (.int q)] [(.int (1 : Int32)), (.ref ob)]))
        obtain ⟨T98, h98, k98, X98, e98, E98, A98, Q98, O98, st98⟩ := newRA X89 hx hZ hown (C := "[J") (ty := .long) rfl (hw _ (List.mem_of_getElem? (i := 14) rfl)) (hw _ (List.mem_of_getElem? (i := 15) rfl)) e89 (g := (mkF m 45 #[.val (.ref ob), .val (.int kb), .val (.long mk), .second, .val (.int q)] [(.int (1 : Int32)), (.ref ob)])) rfl (hb hby d1_45) rfl (by decide) (cap := 1) (by decide) (by decide) (by decide) (by decide) (ad := "[[J") rfl
        obtain ⟨b98, g98⟩ : ∃ z, z = h89.size := ⟨_, rfl⟩
        rw [← g98] at A98 Q98 st98
        refine own_step st98 ?_
        have g_b98 : n0 ≤ b98 := Nat.le_trans f90 (Nat.le_of_eq g98.symm)
        have sz_b98 : h0.size ≤ b98 := Nat.le_trans f95.1 (Nat.le_of_eq g98.symm)
        have ne_ob_b98 : ob ≠ b98 := Nat.ne_of_lt (Nat.lt_of_lt_of_le f91.lt (Nat.le_of_eq g98.symm))
        have f99 := Nat.le_trans f90 E98.1
        have f100 := f91.ext E98
        have f101 := f96.ext E98
        have f102 := f92.ext E98
        have f103 := f93.ext E98
        have f104 := f94.ext E98
        have f105 := f95.ext E98
        have f106 : Arv Z h98 b98 k98 (.array .long) (1 : Int32) [.null] .null := (Arv.new A98 (by decide)).pad (pad_rep [] .null 1)
        show own_Fin p.tables e below _ (T98.setTop (mkF m 48 #[.val (.ref ob), .val (.int kb), .val (.long mk), .second, .val (.int q)] [(.ref b98), (.ref ob)]))
        refine own_step (fun _ k => XS.dup X98.here hx rfl (hb hby d1_48) rfl rfl k) ?_
        show own_Fin p.tables e below _ (T98.setTop (mkF m 49 #[.val (.ref ob), .val (.int kb), .val (.long mk), .second, .val (.int q)] [(.ref b98), (.ref b98), (.ref ob)]))
        refine own_step (fun _ k => XS.iconst X98.here hx rfl (hb hby d1_49) k) ?_
        show own_Fin p.tables e below _ (T98.setTop (mkF m 50 #[.val (.ref ob), .val (.int kb), .val (.long mk), .second, .val (.int q)] [(.int (0 : Int32)), (.ref b98), (.ref b98), (.ref ob)]))
        refine own_step (fun _ k => XS.iconst X98.here hx rfl (hb hby d1_50) k) ?_
        show own_Fin p.tables e below _ (T98.setTop (mkF m 51 #[.val (.ref ob), .val (.int kb), .val (.long mk), .second, .val (.int q)] [(.int (1 : Int32)), (.int (0 : Int32)), (.ref b98), (.ref b98), (.ref ob)]))
        obtain ⟨_, _, ⟨T107, L107, k107, n107⟩, -, X107, ⟨Lc107, hQ107, l107, y107, z107⟩, st107⟩ := Jvm.LawKit.callS X98 hx (y := (⟨"com/example/streamgist/streamgist/dedup/FingerprintQueues", "emptyGroup", "(I)[J"⟩ : MethodName)) hown (mvT hZ (hw _ (List.mem_of_getElem? (i := 16) rfl))) (mvT hZ (hw _ (List.mem_of_getElem? (i := 17) rfl))) (mvT hZ (hw _ (List.mem_of_getElem? (i := 2) rfl))) (mvT hZ (hw _ (List.mem_of_getElem? (i := 18) rfl))) (by decide) (backOf (W := 4) (rm3 l Z a0 hw [] (1 : Int32)  h98 n0 f99 rfl) hZ (hw _ (List.mem_of_getElem? (i := 18) rfl)) (hw _ (List.mem_of_getElem? (i := 2) rfl)) (by decide) (by decide)) (g := (mkF m 51 #[.val (.ref ob), .val (.int kb), .val (.long mk), .second, .val (.int q)] [(.int (1 : Int32)), (.int (0 : Int32)), (.ref b98), (.ref b98), (.ref ob)])) rfl (by rw [hml]; rfl) (argsL := [(.int (1 : Int32))]) (rest := [(.int (0 : Int32)), (.ref b98), (.ref b98), (.ref ob)]) (lenOf pd_1 rfl) rfl (by show 2 * 0 + _ ≤ _; exact Nat.le_of_eq rfl) (hb hby d1_51) (fun _ _ => ⟨rfl, e98, (by decide : 1 + 1 ≤ _), (by decide : 1 + 2 ≤ _)⟩)
        dsimp only [Pt.U, Pt.locs, Pt.cells, Pt.slots] at X107 l107 y107 z107 st107 hQ107
        subst l107 y107 z107
        obtain ⟨y107, rfl, N107q, K107, hy107, g_y107, fe107, fa107⟩ := hQ107
        have N107 := Fr.app N97 N107q
        refine own_step st107 ?_
        have f108 := Nat.le_trans f99 K107.1
        have f109 := f100.keep K107 nin0
        have f110 := f101.keep K107 nin0
        have f111 := f102.keep K107 nin0
        have f112 := f103.keep K107 nin0
        have f113 := f104.keep K107
        have f114 := f105.trans K107 all0
        have f115 := f106.keep K107 nin0
        have ne_ob_y107 : ob ≠ y107 := Nat.ne_of_lt (Nat.lt_of_lt_of_le f104.lt hy107)
        have ne_b98_y107 : b98 ≠ y107 := Nat.ne_of_lt (Nat.lt_of_lt_of_le f106.lt hy107)
        show own_Fin p.tables e below _ (T107.setTop (mkF m 54 #[.val (.ref ob), .val (.int kb), .val (.long mk), .second, .val (.int q)] [(.ref y107), (.int (0 : Int32)), (.ref b98), (.ref b98), (.ref ob)]))
        obtain ⟨cl116, Ar116, q116, S116, M116, H116, G116⟩ := id f115
        have hin116 : ¬ ((0 : Int32) < 0 ∨ cl116.slots.size ≤ (0 : Int32).toNatClampNeg) := inb_of S116 ⟨by decide, by decide⟩
        obtain ⟨T116, h116, X116, e116, W116, st116⟩ := stR X107 hx hZ rfl Ar116 (j := 0) hin116 rfl (Sto.ofVA Ar116 q116 O98 (Ins.self fe107)) (g := (mkF m 54 #[.val (.ref ob), .val (.int kb), .val (.long mk), .second, .val (.int q)] [(.ref y107), (.int (0 : Int32)), (.ref b98), (.ref b98), (.ref ob)])) rfl rfl (hb hby d1_54)
        refine own_step st116 ?_
        have f117 := Nat.le_trans f108 (Keep.of_wr W116).1
        have f118 := f109.other W116 (Or.inl ne_ob_b98)
        have f119 := f110.other W116 (Or.inl ne_ob_b98)
        have f120 := f111.other W116 (Or.inl ne_ob_b98)
        have f121 := f112.other W116 (Or.inl ne_ob_b98)
        have f122 := f113.wr W116
        have f123 := f114.wr W116 (Or.inr sz_b98)
        have f124 := fe107.wr W116
        have f125 := fa107.other W116 (Ne.symm ne_b98_y107)
        have f126 : Arv Z h116 b98 k98 (.array .long) (1 : Int32) [(.ref y107)] .null := Arv.set Ar116 q116 S116 M116 H116 G116 rfl W116 0 rfl (Nat.le_of_ble_eq_true rfl)
        have N127 := Fr.snoc X116 N107 g_b98
        show own_Fin p.tables e below _ (T116.setTop (mkF m 55 #[.val (.ref ob), .val (.int kb), .val (.long mk), .second, .val (.int q)] [(.ref b98), (.ref ob)]))
        obtain ⟨T128, h128, X128, e128, W128, st128⟩ := putF X116 hx hZ hown (host := "") (Or.inl (hw _ (List.mem_of_getElem? (i := 25) rfl))) Via.refl e116 f120 f122 (Or.inl (hw _ (List.mem_of_getElem? (i := 26) rfl))) (hw _ (List.mem_of_getElem? (i := 1) rfl)) (ty := (.array (.array .long))) (by decide) rfl rfl (g := (mkF m 55 #[.val (.ref ob), .val (.int kb), .val (.long mk), .second, .val (.int q)] [(.ref b98), (.ref ob)])) rfl rfl (hb hby d1_55)
        refine own_step st128 ?_
        have f129 := Nat.le_trans f117 (Keep.of_wr W128).1
        have f130 := f118.other W128 (Or.inr (slot_ne (Or.inr (hw _ (List.mem_of_getElem? (i := 11) rfl))) (Or.inl (hw _ (List.mem_of_getElem? (i := 26) rfl))) (by decide) (t := .int) (t' := (.array (.array .long))) (by decide) (by decide)))
        have f131 := f119.other W128 (Or.inr (slot_ne (Or.inr (hw _ (List.mem_of_getElem? (i := 13) rfl))) (Or.inl (hw _ (List.mem_of_getElem? (i := 26) rfl))) (by decide) (t := .int) (t' := (.array (.array .long))) (by decide) (by decide)))
        have f132 := f121.other W128 (Or.inr (slot_ne (Or.inl (hw _ (List.mem_of_getElem? (i := 28) rfl))) (Or.inl (hw _ (List.mem_of_getElem? (i := 26) rfl))) (by decide) (t := .long) (t' := (.array (.array .long))) (by decide) (by decide)))
        have f133 := f122.wr W128
        have f134 := f123.wr W128 (Or.inl (List.mem_of_getElem? (i := 0) rfl))
        have f135 := f126.other W128 (Ne.symm ne_ob_b98)
        have f136 := f124.wr W128
        have f137 := f125.other W128 (Ne.symm ne_ob_y107)
        have f138 := f120.same W128
        have N139 := Fr.snoc X128 N127 g_ob
        show own_Fin p.tables e below _ (T128.setTop (mkF m 58 #[.val (.ref ob), .val (.int kb), .val (.long mk), .second, .val (.int q)] []))
        refine own_step (fun _ k => XS.aloadN X128.here hx rfl (hb hby d1_58) rfl rfl k) ?_
        show own_Fin p.tables e below _ (T128.setTop (mkF m 59 #[.val (.ref ob), .val (.int kb), .val (.long mk), .second, .val (.int q)] [(.ref ob)]))
        refine own_step (fun _ k => XS.aloadN X128.here hx rfl (hb hby d1_59) rfl rfl k) ?_
        show own_Fin p.tables e below _ (T128.setTop (mkF m 60 #[.val (.ref ob), .val (.int kb), .val (.long mk), .second, .val (.int q)] [(.ref ob), (.ref ob)]))
        obtain ⟨T140, X140, e140, st140⟩ := getF X128 hx hZ hown (host := "") (Or.inl (hw _ (List.mem_of_getElem? (i := 25) rfl))) Via.refl e128 f138 (g := (mkF m 60 #[.val (.ref ob), .val (.int kb), .val (.long mk), .second, .val (.int q)] [(.ref ob), (.ref ob)])) rfl rfl (hb hby d1_60)
        refine own_step st140 ?_
        show own_Fin p.tables e below _ (T140.setTop (mkF m 63 #[.val (.ref ob), .val (.int kb), .val (.long mk), .second, .val (.int q)] [(.ref b98), (.ref ob)]))
        refine own_step (fun _ k => XS.iconst X140.here hx rfl (hb hby d1_63) k) ?_
        show own_Fin p.tables e below _ (T140.setTop (mkF m 64 #[.val (.ref ob), .val (.int kb), .val (.long mk), .second, .val (.int q)] [(.int (0 : Int32)), (.ref b98), (.ref ob)]))
        obtain ⟨cl141, Ar141, -, S141, M141, H141, -⟩ := id f135
        have hin141 : ¬ ((0 : Int32) < 0 ∨ cl141.slots.size ≤ (0 : Int32).toNatClampNeg) := inb_of S141 ⟨by decide, by decide⟩
        refine own_step (X140.aaload hx (j := 0) (v := (.ref y107)) (by rw [e140]; exact Ar141.1) (State.isArrayOf_alike hZ.alike Ar141.2.1) rfl Ar141.2.2 hin141 (H141.at hin141 rfl) (g := (mkF m 64 #[.val (.ref ob), .val (.int kb), .val (.long mk), .second, .val (.int q)] [(.int (0 : Int32)), (.ref b98), (.ref ob)])) rfl rfl (hb hby d1_64)) ?_
        show own_Fin p.tables e below _ (T140.setTop (mkF m 65 #[.val (.ref ob), .val (.int kb), .val (.long mk), .second, .val (.int q)] [(.ref y107), (.ref ob)]))
        obtain ⟨cm141, Am141, Sm141, -⟩ := id f137
        refine own_step (X140.arraylength hx (by rw [e140]; exact Am141.1) (State.isArrayOf_alike hZ.alike Am141.2.1) (g := (mkF m 65 #[.val (.ref ob), .val (.int kb), .val (.long mk), .second, .val (.int q)] [(.ref y107), (.ref ob)])) rfl rfl (hb hby d1_65)) ?_
        rw [Sm141]
        show own_Fin p.tables e below _ (T140.setTop (mkF m 66 #[.val (.ref ob), .val (.int kb), .val (.long mk), .second, .val (.int q)] [(.int (Nat.toInt32 2)), (.ref ob)]))
        refine own_step (fun _ k => XS.i2l X140.here hx rfl (hb hby d1_66) rfl k) ?_
        show own_Fin p.tables e below _ (T140.setTop (mkF m 67 #[.val (.ref ob), .val (.int kb), .val (.long mk), .second, .val (.int q)] [(.long ((Nat.toInt32 2).toInt64)), (.ref ob)]))
        obtain ⟨T142, h142, X142, e142, W142, st142⟩ := putF X140 hx hZ hown (host := "") (Or.inl (hw _ (List.mem_of_getElem? (i := 27) rfl))) Via.refl e140 f132 f133 (Or.inl (hw _ (List.mem_of_getElem? (i := 28) rfl))) (hw _ (List.mem_of_getElem? (i := 1) rfl)) (ty := .long) (by decide) rfl rfl (g := (mkF m 67 #[.val (.ref ob), .val (.int kb), .val (.long mk), .second, .val (.int q)] [(.long ((Nat.toInt32 2).toInt64)), (.ref ob)])) rfl rfl (hb hby d1_67)
        refine own_step st142 ?_
        have f143 := Nat.le_trans f129 (Keep.of_wr W142).1
        have f144 := f130.other W142 (Or.inr (slot_ne (Or.inr (hw _ (List.mem_of_getElem? (i := 11) rfl))) (Or.inl (hw _ (List.mem_of_getElem? (i := 28) rfl))) (by decide) (t := .int) (t' := .long) (by decide) (by decide)))
        have f145 := f131.other W142 (Or.inr (slot_ne (Or.inr (hw _ (List.mem_of_getElem? (i := 13) rfl))) (Or.inl (hw _ (List.mem_of_getElem? (i := 28) rfl))) (by decide) (t := .int) (t' := .long) (by decide) (by decide)))
        have f146 := f138.other W142 (Or.inr (slot_ne (Or.inl (hw _ (List.mem_of_getElem? (i := 26) rfl))) (Or.inl (hw _ (List.mem_of_getElem? (i := 28) rfl))) (by decide) (t := (.array (.array .long))) (t' := .long) (by decide) (by decide)))
        have f147 := f133.wr W142
        have f148 := f134.wr W142 (Or.inl (List.mem_of_getElem? (i := 0) rfl))
        have f149 := f135.other W142 (Ne.symm ne_ob_b98)
        have f150 := f136.wr W142
        have f151 := f137.other W142 (Ne.symm ne_ob_y107)
        have f152 := f132.same W142
        have N153 := Fr.snoc X142 N139 g_ob
        show own_Fin p.tables e below _ (T142.setTop (mkF m 70 #[.val (.ref ob), .val (.int kb), .val (.long mk), .second, .val (.int q)] []))
        obtain ⟨fs154, hr154, hrun154, hended154, hW154, hsame154⟩ := X142.leave (v := none) (fun _ => rfl)
        refine own_ret (X142.returnOut hx Bd.returns (hb hby d1_70) hr154) hrun154 hended154 ?_
        refine ⟨_, _, rfl, ?_, ⟨_, rfl⟩, hW154, hsame154.mono (by decide) (by decide)⟩
        show Q1 Z ob kb mk u1 u2 u3 u4 h0 n0 _ T142.heap _
        rw [e142]
        exact ⟨rfl, N153, f148, f147, f144, _, f145, i1, i2, hex, i3⟩
  exact loop2 _ T1 _ (0 : Int32) X1 e1 N0 (by decide) (by show (0 : Int) ≤ _; omega) (Or.inl rfl) rfl
theorem ef_5 (m : MethodId) (x0 : Addr) : entryFrame m #[(.ref x0)] 1 = mkF m 0 #[.val (.ref x0)] [] := by first | (simp [entryFrame, mkF, argsToLocals, Value.category]; done) | rfl
def Q5 (Z : State) (ob : Addr) (q : Int32) (h0 : Heap) (n0 : Nat) (v : Option Value) (h : Heap) (L : List Loc) : Prop := v = some (.int q) ∧ Fr n0 L ∧ h = h0
abbrev P5 (Z : State) (ob : Addr) (q : Int32) (h0 : Heap) (n0 : Nat) (s : State) : Outcome → State → Prop := fun o U' => ∃ v L, o = .returned v ∧ Q5 Z ob q h0 n0 v U'.heap L ∧ FrameEnd s o U' L ({ frames := 0, cells := 0, slots := 0, locals := 0 } : Room).cells ({ frames := 0, cells := 0, slots := 0, locals := 0 } : Room).slots
theorem d5_0 : decode prog_22_method_2_code 0 = .ok (.aload_n 0, 1) := by decide +kernel
theorem d5_1 : decode prog_22_method_2_code 1 = .ok (.getfield 15, 3) := by decide +kernel
theorem d5_4 : decode prog_22_method_2_code 4 = .ok (.ireturn, 1) := by decide +kernel
set_option maxRecDepth 65536 in
set_option maxHeartbeats 40000000 in
theorem rm5 (l : Launch) (Z : State) (a0 : Array Value) (hw : ∀ d ∈ tables_1, d.before a0 Z = true) (ws : List Jvm.Cond) (ob : Addr) (q : Int32) (h0 : Heap) (n0 : Nat) (Z0 : n0 ≤ h0.size) (Fq0 : Fld Z h0 ob "com/example/streamgist/streamgist/dedup/FingerprintQueues" "quotientBits" "I" (.int q)) :
    MetFree l (⟨"com/example/streamgist/streamgist/dedup/FingerprintQueues", "quotientBits", "()I"⟩ : MethodName) (head1 (Jvm.Cond.code (⟨"com/example/streamgist/streamgist/dedup/FingerprintQueues", "quotientBits", "()I"⟩ : MethodName) prog_22_method_2_code 1 (some .int) :: ws) ({ frames := 0, cells := 0, slots := 0, locals := 0 } : Room)) (fun a U => a = #[(.ref ob)] ∧ Z.Warmed39 U.vm ∧ U.heap = h0) (fun _ _ _ _ _ => True) (fun _ U o U' => ∃ v L, o = .returned v ∧ Q5 Z ob q h0 n0 v U'.heap L ∧ FrameEnd U o U' L ({ frames := 0, cells := 0, slots := 0, locals := 0 } : Room).cells ({ frames := 0, cells := 0, slots := 0, locals := 0 } : Room).slots) := by
  refine MetFree.of_bodySF (plainFor_of_name pn_0) hisR ?_
  intro p e s m args below meth c s₁ Bd hml0 hP hK
  obtain ⟨rfl, hZ, hh⟩ := hP
  have hx := Bd.exec
  have hby := Bd.bytes
  have hml : c.maxLocals = 1 := hml0
  have hown : s.vm.findClass "com/example/streamgist/streamgist/dedup/FingerprintQueues" = some m.cls := findClass_of_methodNamed Bd.named
  have hnm := (name_of_methodNamed Bd.named Bd.method).1
  have X0 : Stand p l e ({ frames := 0, cells := 0, slots := 0, locals := 0 } : Room) s m #[(.ref ob)] below meth c s₁ [] 0 0 := Stand.of_body Bd
  have e0 : s₁.heap = h0 := by rw [← hh, Bd.state]; rfl
  have N0 := Fr.nil n0
  refine own_enter (P := (P5 Z ob q h0 n0 s)) (ef_5 m ob) ?_
  show own_Fin p.tables e below _ (s₁.setTop (mkF m 0 #[.val (.ref ob)] []))
  refine own_step (fun _ k => XS.aloadN X0.here hx rfl (hb hby d5_0) rfl rfl k) ?_
  show own_Fin p.tables e below _ (s₁.setTop (mkF m 1 #[.val (.ref ob)] [(.ref ob)]))
  obtain ⟨T1, X1, e1, st1⟩ := getF X0 hx hZ hown (host := "") (Or.inl (hw _ (List.mem_of_getElem? (i := 12) rfl))) Via.refl e0 Fq0 (g := (mkF m 1 #[.val (.ref ob)] [(.ref ob)])) rfl rfl (hb hby d5_1)
  refine own_step st1 ?_
  show own_Fin p.tables e below _ (T1.setTop (mkF m 4 #[.val (.ref ob)] [(.int q)]))
  obtain ⟨fs2, hr2, hrun2, hended2, hW2, hsame2⟩ := X1.leave (v := some (.int q)) (fun h => by rw [Bd.returns] at h; cases h)
  refine own_ret (retI X1 hx Bd.returns (hb hby d5_4) hr2) hrun2 hended2 ?_
  refine ⟨_, _, rfl, ?_, ⟨_, rfl⟩, hW2, hsame2.mono (by decide) (by decide)⟩
  show Q5 Z ob q h0 n0 _ T1.heap _
  rw [e1]
  exact ⟨rfl, N0, rfl⟩
theorem ef_6 (m : MethodId) (x0 : Addr) (x1 : Int64) : entryFrame m #[(.ref x0), (.long x1)] 3 = mkF m 0 #[.val (.ref x0), .val (.long x1), .second] [] := by first | (simp [entryFrame, mkF, argsToLocals, Value.category]; done) | rfl
def Q6 (Z : State) (ob : Addr) (key : Int64) (kb q : Int32) (h0 : Heap) (n0 : Nat) (v : Option Value) (h : Heap) (L : List Loc) : Prop := v = some (.long (own_q kb q key)) ∧ Fr n0 L ∧ h = h0
abbrev P6 (Z : State) (ob : Addr) (key : Int64) (kb q : Int32) (h0 : Heap) (n0 : Nat) (s : State) : Outcome → State → Prop := fun o U' => ∃ v L, o = .returned v ∧ Q6 Z ob key kb q h0 n0 v U'.heap L ∧ FrameEnd s o U' L ({ frames := 0, cells := 0, slots := 0, locals := 0 } : Room).cells ({ frames := 0, cells := 0, slots := 0, locals := 0 } : Room).slots
theorem d6_0 : decode prog_22_method_3_code 0 = .ok (.aload_n 0, 1) := by decide +kernel
theorem d6_1 : decode prog_22_method_3_code 1 = .ok (.getfield 15, 3) := by decide +kernel
theorem d6_4 : decode prog_22_method_3_code 4 = .ok (.ifCond .ne 7, 3) := by decide +kernel
theorem d6_7 : decode prog_22_method_3_code 7 = .ok (.lconst 0, 1) := by decide +kernel
theorem d6_8 : decode prog_22_method_3_code 8 = .ok (.goto 14, 3) := by decide +kernel
theorem d6_11 : decode prog_22_method_3_code 11 = .ok (.lload_n 1, 1) := by decide +kernel
theorem d6_12 : decode prog_22_method_3_code 12 = .ok (.aload_n 0, 1) := by decide +kernel
theorem d6_13 : decode prog_22_method_3_code 13 = .ok (.getfield 11, 3) := by decide +kernel
theorem d6_16 : decode prog_22_method_3_code 16 = .ok (.aload_n 0, 1) := by decide +kernel
theorem d6_17 : decode prog_22_method_3_code 17 = .ok (.getfield 15, 3) := by decide +kernel
theorem d6_20 : decode prog_22_method_3_code 20 = .ok (.isub, 1) := by decide +kernel
theorem d6_21 : decode prog_22_method_3_code 21 = .ok (.lushr, 1) := by decide +kernel
theorem d6_22 : decode prog_22_method_3_code 22 = .ok (.lreturn, 1) := by decide +kernel
set_option maxRecDepth 65536 in
set_option maxHeartbeats 40000000 in
theorem rm6 (l : Launch) (Z : State) (a0 : Array Value) (hw : ∀ d ∈ tables_1, d.before a0 Z = true) (ws : List Jvm.Cond) (ob : Addr) (key : Int64) (kb q : Int32) (h0 : Heap) (n0 : Nat) (Z0 : n0 ≤ h0.size) (Fk0 : Fld Z h0 ob "com/example/streamgist/streamgist/dedup/FingerprintQueues" "keyBits" "I" (.int kb)) (Fq0 : Fld Z h0 ob "com/example/streamgist/streamgist/dedup/FingerprintQueues" "quotientBits" "I" (.int q)) :
    MetFree l (⟨"com/example/streamgist/streamgist/dedup/FingerprintQueues", "quotient", "(J)J"⟩ : MethodName) (head1 (Jvm.Cond.code (⟨"com/example/streamgist/streamgist/dedup/FingerprintQueues", "quotient", "(J)J"⟩ : MethodName) prog_22_method_3_code 3 (some .long) :: ws) ({ frames := 0, cells := 0, slots := 0, locals := 0 } : Room)) (fun a U => a = #[(.ref ob), (.long key)] ∧ Z.Warmed39 U.vm ∧ U.heap = h0) (fun _ _ _ _ _ => True) (fun _ U o U' => ∃ v L, o = .returned v ∧ Q6 Z ob key kb q h0 n0 v U'.heap L ∧ FrameEnd U o U' L ({ frames := 0, cells := 0, slots := 0, locals := 0 } : Room).cells ({ frames := 0, cells := 0, slots := 0, locals := 0 } : Room).slots) := by
  refine MetFree.of_bodySF (plainFor_of_name pn_0) hisR ?_
  intro p e s m args below meth c s₁ Bd hml0 hP hK
  obtain ⟨rfl, hZ, hh⟩ := hP
  have hx := Bd.exec
  have hby := Bd.bytes
  have hml : c.maxLocals = 3 := hml0
  have hown : s.vm.findClass "com/example/streamgist/streamgist/dedup/FingerprintQueues" = some m.cls := findClass_of_methodNamed Bd.named
  have hnm := (name_of_methodNamed Bd.named Bd.method).1
  have X0 : Stand p l e ({ frames := 0, cells := 0, slots := 0, locals := 0 } : Room) s m #[(.ref ob), (.long key)] below meth c s₁ [] 0 0 := Stand.of_body Bd
  have e0 : s₁.heap = h0 := by rw [← hh, Bd.state]; rfl
  have N0 := Fr.nil n0
  refine own_enter (P := (P6 Z ob key kb q h0 n0 s)) (ef_6 m ob key) ?_
  show own_Fin p.tables e below _ (s₁.setTop (mkF m 0 #[.val (.ref ob), .val (.long key), .second] []))
  refine own_step (fun _ k => XS.aloadN X0.here hx rfl (hb hby d6_0) rfl rfl k) ?_
  show own_Fin p.tables e below _ (s₁.setTop (mkF m 1 #[.val (.ref ob), .val (.long key), .second] [(.ref ob)]))
  obtain ⟨T1, X1, e1, st1⟩ := getF X0 hx hZ hown (host := "") (Or.inl (hw _ (List.mem_of_getElem? (i := 12) rfl))) Via.refl e0 Fq0 (g := (mkF m 1 #[.val (.ref ob), .val (.long key), .second] [(.ref ob)])) rfl rfl (hb hby d6_1)
  refine own_step st1 ?_
  show own_Fin p.tables e below _ (T1.setTop (mkF m 4 #[.val (.ref ob), .val (.long key), .second] [(.int q)]))
  have J3 : ∀ (T4 : State) (locs4 : List Loc) (y5 : Int64) (X4 : Stand p l e ({ frames := 0, cells := 0, slots := 0, locals := 0 } : Room) s m #[(.ref ob), (.long key)] below meth c T4 locs4 0 0) (e4 : T4.heap = h0) (N4 : Fr n0 locs4) (gy5 : y5 = (if q = (0 : Int32) then (0 : Int64) else ((key.toUInt64 >>> ((kb - q) &&& 0x3f).toInt64.toUInt64).toInt64))), own_Fin p.tables e below (P6 Z ob key kb q h0 n0 s) (T4.setTop (mkF m 22 #[.val (.ref ob), .val (.long key), .second] [(.long y5)])) := by
    intro T4 locs4 y5 X4 e4 N4 gy5
    obtain ⟨fs6, hr6, hrun6, hended6, hW6, hsame6⟩ := X4.leave (v := some (.long y5)) (fun h => by rw [Bd.returns] at h; cases h)
    refine own_ret (own_retJ X4 hx Bd.returns (hb hby d6_22) hr6) hrun6 hended6 ?_
    refine ⟨_, _, rfl, ?_, ⟨_, rfl⟩, hW6, hsame6.mono (by decide) (by decide)⟩
    show Q6 Z ob key kb q h0 n0 _ T4.heap _
    rw [e4]
    refine ⟨congrArg (fun z => some (Value.long z)) ?_, N4, rfl⟩
    rw [gy5]; rfl
  by_cases hc2 : q = (0 : Int32)
  · refine own_step (fun _ k => XS.ifNo X1.here hx rfl (hb hby d6_4) rfl ((if0 _ _).trans (teq hc2).2) k) ?_
    show own_Fin p.tables e below _ (T1.setTop (mkF m 7 #[.val (.ref ob), .val (.long key), .second] []))
    refine own_step (fun _ k => XS.lconst X1.here hx rfl (hb hby d6_7) k) ?_
    show own_Fin p.tables e below _ (T1.setTop (mkF m 8 #[.val (.ref ob), .val (.long key), .second] [(.long (0 : Int64))]))
    refine own_step (fun _ k => XS.goto X1.here hx rfl (pc0 := 8) (pc' := 22) rfl (hb hby d6_8) (by decide) (by decide) k) ?_
    show own_Fin p.tables e below _ (T1.setTop (mkF m 22 #[.val (.ref ob), .val (.long key), .second] [(.long (0 : Int64))]))
    exact J3 T1 _ (0 : Int64) X1 e1 N0 (by rw [if_pos hc2])
  · refine own_step (fun _ k => XS.ifYes X1.here hx rfl (pc0 := 4) (pc' := 11) rfl (hb hby d6_4) rfl ((if0 _ _).trans (feq hc2).2) (by decide) (by decide) k) ?_
    show own_Fin p.tables e below _ (T1.setTop (mkF m 11 #[.val (.ref ob), .val (.long key), .second] []))
    refine own_step (fun _ k => XS.lloadN X1.here hx rfl (hb hby d6_11) rfl k) ?_
    show own_Fin p.tables e below _ (T1.setTop (mkF m 12 #[.val (.ref ob), .val (.long key), .second] [(.long key)]))
    refine own_step (fun _ k => XS.aloadN X1.here hx rfl (hb hby d6_12) rfl rfl k) ?_
    show own_Fin p.tables e below _ (T1.setTop (mkF m 13 #[.val (.ref ob), .val (.long key), .second] [(.ref ob), (.long key)]))
    obtain ⟨T7, X7, e7, st7⟩ := getF X1 hx hZ hown (host := "") (Or.inl (hw _ (List.mem_of_getElem? (i := 10) rfl))) Via.refl e1 Fk0 (g := (mkF m 13 #[.val (.ref ob), .val (.long key), .second] [(.ref ob), (.long key)])) rfl rfl (hb hby d6_13)
    refine own_step st7 ?_
    show own_Fin p.tables e below _ (T7.setTop (mkF m 16 #[.val (.ref ob), .val (.long key), .second] [(.int kb), (.long key)]))
    refine own_step (fun _ k => XS.aloadN X7.here hx rfl (hb hby d6_16) rfl rfl k) ?_
    show own_Fin p.tables e below _ (T7.setTop (mkF m 17 #[.val (.ref ob), .val (.long key), .second] [(.ref ob), (.int kb), (.long key)]))
    obtain ⟨T8, X8, e8, st8⟩ := getF X7 hx hZ hown (host := "") (Or.inl (hw _ (List.mem_of_getElem? (i := 12) rfl))) Via.refl e7 Fq0 (g := (mkF m 17 #[.val (.ref ob), .val (.long key), .second] [(.ref ob), (.int kb), (.long key)])) rfl rfl (hb hby d6_17)
    refine own_step st8 ?_
    show own_Fin p.tables e below _ (T8.setTop (mkF m 20 #[.val (.ref ob), .val (.long key), .second] [(.int q), (.int kb), (.long key)]))
    refine own_step (fun _ k => XS.isub X8.here hx rfl (hb hby d6_20) rfl k) ?_
    show own_Fin p.tables e below _ (T8.setTop (mkF m 21 #[.val (.ref ob), .val (.long key), .second] [(.int (kb - q)), (.long key)]))
    refine own_step (fun _ k => XS.lushr X8.here hx rfl (hb hby d6_21) rfl k) ?_
    show own_Fin p.tables e below _ (T8.setTop (mkF m 22 #[.val (.ref ob), .val (.long key), .second] [(.long ((key.toUInt64 >>> ((kb - q) &&& 0x3f).toInt64.toUInt64).toInt64))]))
    exact J3 T8 _ ((key.toUInt64 >>> ((kb - q) &&& 0x3f).toInt64.toUInt64).toInt64) X8 e8 N0 (by rw [if_neg hc2])
theorem pn_1 : plainName "com/example/streamgist/streamgist/dedup/FingerprintQueuesQuotientPinLaw" = true := by first | (simp [plainName, overriddenIn]; done) | decide +kernel
theorem ef_0 (m : MethodId) (x0 : Int32) (x1 : Int64) (x2 : Int32) (x3 : Int64) : entryFrame m #[(.int x0), (.long x1), (.int x2), (.long x3)] maxLocals = mkF m 0 #[.val (.int x0), .val (.long x1), .second, .val (.int x2), .val (.long x3), .second, .unset, .unset, .unset, .unset, .unset, .unset, .unset, .unset, .unset, .unset, .unset, .unset] [] := by first | (simp [entryFrame, mkF, argsToLocals, Value.category, maxLocals]; done) | rfl
def Q0 (Z : State) (k0 : Int32) (q1 : Int64) (k2 : Int32) (q3 : Int64) (h0 : Heap) (n0 : Nat) (v : Option Value) (h : Heap) (L : List Loc) : Prop := v = some (.int 1) ∧ Fr n0 L
abbrev P0 (Z : State) (k0 : Int32) (q1 : Int64) (k2 : Int32) (q3 : Int64) (h0 : Heap) (n0 : Nat) (s : State) : Outcome → State → Prop := fun o U' => ∃ v L, o = .returned v ∧ Q0 Z k0 q1 k2 q3 h0 n0 v U'.heap L ∧ FrameEnd s o U' L room_1.cells room_1.slots
theorem pd_2 : parseMethodDescriptor "(IJ)V" = some ⟨[.int, .long], none⟩ := by decide +kernel
theorem pd_3 : parseMethodDescriptor "()I" = some ⟨[], some .int⟩ := by decide +kernel
theorem pd_4 : parseMethodDescriptor "(J)J" = some ⟨[.long], some .long⟩ := by decide +kernel
set_option maxRecDepth 65536 in
set_option maxHeartbeats 40000000 in
theorem rm0 (l : Launch) (Z : State) (a0 : Array Value) (hw : ∀ d ∈ tables_1, d.before a0 Z = true) (ws : List Jvm.Cond) (k0 : Int32) (q1 : Int64) (k2 : Int32) (q3 : Int64) (h0 : Heap) (n0 : Nat) (Z0 : n0 ≤ h0.size) :
    MetFree l x (head1 (Jvm.Cond.code x code maxLocals ret :: ws) room_1) (fun a U => a = #[(.int k0), (.long q1), (.int k2), (.long q3)] ∧ Z.Warmed39 U.vm ∧ U.heap = h0) (fun _ _ _ _ _ => True) (fun _ U o U' => ∃ v L, o = .returned v ∧ Q0 Z k0 q1 k2 q3 h0 n0 v U'.heap L ∧ FrameEnd U o U' L room_1.cells room_1.slots) := by
  refine MetFree.of_bodySF (plainFor_of_name pn_1) hisR ?_
  intro p e s m args below meth c s₁ Bd hml0 hP hK
  obtain ⟨rfl, hZ, hh⟩ := hP
  have hx := Bd.exec
  have hby := Bd.bytes
  have hml : c.maxLocals = 18 := hml0
  have hown : s.vm.findClass "com/example/streamgist/streamgist/dedup/FingerprintQueuesQuotientPinLaw" = some m.cls := findClass_of_methodNamed Bd.named
  have hnm := (name_of_methodNamed Bd.named Bd.method).1
  have X0 : Stand p l e room_1 s m #[(.int k0), (.long q1), (.int k2), (.long q3)] below meth c s₁ [] 0 0 := Stand.of_body Bd
  have e0 : s₁.heap = h0 := by rw [← hh, Bd.state]; rfl
  have N0 := Fr.nil n0
  refine own_enter (P := (P0 Z k0 q1 k2 q3 h0 n0 s)) (ef_0 m k0 q1 k2 q3) ?_
  show own_Fin p.tables e below _ (s₁.setTop (mkF m 0 #[.val (.int k0), .val (.long q1), .second, .val (.int k2), .val (.long q3), .second, .unset, .unset, .unset, .unset, .unset, .unset, .unset, .unset, .unset, .unset, .unset, .unset] []))
  refine own_step (fun _ k => XS.iconst X0.here hx rfl (hb hby at_0) k) ?_
  show own_Fin p.tables e below _ (s₁.setTop (mkF m 1 #[.val (.int k0), .val (.long q1), .second, .val (.int k2), .val (.long q3), .second, .unset, .unset, .unset, .unset, .unset, .unset, .unset, .unset, .unset, .unset, .unset, .unset] [(.int (2 : Int32))]))
  refine own_step (fun _ k => XS.iloadN X0.here hx rfl (hb hby at_1) rfl k) ?_
  show own_Fin p.tables e below _ (s₁.setTop (mkF m 2 #[.val (.int k0), .val (.long q1), .second, .val (.int k2), .val (.long q3), .second, .unset, .unset, .unset, .unset, .unset, .unset, .unset, .unset, .unset, .unset, .unset, .unset] [(.int k0), (.int (2 : Int32))]))
  refine own_step (fun _ k => XS.bipush X0.here hx rfl (hb hby at_2) k) ?_
  show own_Fin p.tables e below _ (s₁.setTop (mkF m 4 #[.val (.int k0), .val (.long q1), .second, .val (.int k2), .val (.long q3), .second, .unset, .unset, .unset, .unset, .unset, .unset, .unset, .unset, .unset, .unset, .unset, .unset] [(.int (63 : Int32)), (.int k0), (.int (2 : Int32))]))
  refine own_step (fun _ k => XS.iand X0.here hx rfl (hb hby at_4) rfl k) ?_
  show own_Fin p.tables e below _ (s₁.setTop (mkF m 5 #[.val (.int k0), .val (.long q1), .second, .val (.int k2), .val (.long q3), .second, .unset, .unset, .unset, .unset, .unset, .unset, .unset, .unset, .unset, .unset, .unset, .unset] [(.int (k0 &&& (63 : Int32))), (.int (2 : Int32))]))
  refine own_step (fun _ k => XS.bipush X0.here hx rfl (hb hby at_5) k) ?_
  show own_Fin p.tables e below _ (s₁.setTop (mkF m 7 #[.val (.int k0), .val (.long q1), .second, .val (.int k2), .val (.long q3), .second, .unset, .unset, .unset, .unset, .unset, .unset, .unset, .unset, .unset, .unset, .unset, .unset] [(.int (63 : Int32)), (.int (k0 &&& (63 : Int32))), (.int (2 : Int32))]))
  refine own_step (fun _ k => XS.irem X0.here hx rfl (hb hby at_7) rfl (by decide) k) ?_
  show own_Fin p.tables e below _ (s₁.setTop (mkF m 8 #[.val (.int k0), .val (.long q1), .second, .val (.int k2), .val (.long q3), .second, .unset, .unset, .unset, .unset, .unset, .unset, .unset, .unset, .unset, .unset, .unset, .unset] [(.int ((k0 &&& (63 : Int32)) - ((k0 &&& (63 : Int32)) / (63 : Int32)) * (63 : Int32))), (.int (2 : Int32))]))
  refine own_step (fun _ k => XS.iadd X0.here hx rfl (hb hby at_8) rfl k) ?_
  show own_Fin p.tables e below _ (s₁.setTop (mkF m 9 #[.val (.int k0), .val (.long q1), .second, .val (.int k2), .val (.long q3), .second, .unset, .unset, .unset, .unset, .unset, .unset, .unset, .unset, .unset, .unset, .unset, .unset] [(.int ((2 : Int32) + ((k0 &&& (63 : Int32)) - ((k0 &&& (63 : Int32)) / (63 : Int32)) * (63 : Int32))))]))
  refine own_step (fun _ k => XS.istore X0.here hx rfl (hb hby at_9) rfl (l' := #[.val (.int k0), .val (.long q1), .second, .val (.int k2), .val (.long q3), .second, .val (.int ((2 : Int32) + ((k0 &&& (63 : Int32)) - ((k0 &&& (63 : Int32)) / (63 : Int32)) * (63 : Int32)))), .unset, .unset, .unset, .unset, .unset, .unset, .unset, .unset, .unset, .unset, .unset]) rfl k) ?_
  show own_Fin p.tables e below _ (s₁.setTop (mkF m 11 #[.val (.int k0), .val (.long q1), .second, .val (.int k2), .val (.long q3), .second, .val (.int ((2 : Int32) + ((k0 &&& (63 : Int32)) - ((k0 &&& (63 : Int32)) / (63 : Int32)) * (63 : Int32)))), .unset, .unset, .unset, .unset, .unset, .unset, .unset, .unset, .unset, .unset, .unset] []))
  obtain ⟨kb, hkb⟩ : ∃ z, z = ((2 : Int32) + ((k0 &&& (63 : Int32)) - ((k0 &&& (63 : Int32)) / (63 : Int32)) * (63 : Int32))) := ⟨_, rfl⟩
  rw [← hkb]
  show own_Fin p.tables e below _ (s₁.setTop (mkF m 11 #[.val (.int k0), .val (.long q1), .second, .val (.int k2), .val (.long q3), .second, .val (.int kb), .unset, .unset, .unset, .unset, .unset, .unset, .unset, .unset, .unset, .unset, .unset] []))
  obtain ⟨hk1, hk2⟩ := own_kb hkb
  refine own_step (fun _ k => XS.lloadN X0.here hx rfl (hb hby at_11) rfl k) ?_
  show own_Fin p.tables e below _ (s₁.setTop (mkF m 12 #[.val (.int k0), .val (.long q1), .second, .val (.int k2), .val (.long q3), .second, .val (.int kb), .unset, .unset, .unset, .unset, .unset, .unset, .unset, .unset, .unset, .unset, .unset] [(.long q1)]))
  refine own_step (fun _ k => XS.iloadN X0.here hx rfl (hb hby at_12) rfl k) ?_
  show own_Fin p.tables e below _ (s₁.setTop (mkF m 13 #[.val (.int k0), .val (.long q1), .second, .val (.int k2), .val (.long q3), .second, .val (.int kb), .unset, .unset, .unset, .unset, .unset, .unset, .unset, .unset, .unset, .unset, .unset] [(.int k2), (.long q1)]))
  refine own_step (fun _ k => XS.bipush X0.here hx rfl (hb hby at_13) k) ?_
  show own_Fin p.tables e below _ (s₁.setTop (mkF m 15 #[.val (.int k0), .val (.long q1), .second, .val (.int k2), .val (.long q3), .second, .val (.int kb), .unset, .unset, .unset, .unset, .unset, .unset, .unset, .unset, .unset, .unset, .unset] [(.int (63 : Int32)), (.int k2), (.long q1)]))
  refine own_step (fun _ k => XS.iand X0.here hx rfl (hb hby at_15) rfl k) ?_
  show own_Fin p.tables e below _ (s₁.setTop (mkF m 16 #[.val (.int k0), .val (.long q1), .second, .val (.int k2), .val (.long q3), .second, .val (.int kb), .unset, .unset, .unset, .unset, .unset, .unset, .unset, .unset, .unset, .unset, .unset] [(.int (k2 &&& (63 : Int32))), (.long q1)]))
  refine own_step (fun _ k => XS.lushr X0.here hx rfl (hb hby at_16) rfl k) ?_
  show own_Fin p.tables e below _ (s₁.setTop (mkF m 17 #[.val (.int k0), .val (.long q1), .second, .val (.int k2), .val (.long q3), .second, .val (.int kb), .unset, .unset, .unset, .unset, .unset, .unset, .unset, .unset, .unset, .unset, .unset] [(.long ((q1.toUInt64 >>> ((k2 &&& (63 : Int32)) &&& 0x3f).toInt64.toUInt64).toInt64))]))
  refine own_step (fun _ k => XS.lstore X0.here hx rfl (hb hby at_17) rfl (l' := #[.val (.int k0), .val (.long q1), .second, .val (.int k2), .val (.long q3), .second, .val (.int kb), .val (.long ((q1.toUInt64 >>> ((k2 &&& (63 : Int32)) &&& 0x3f).toInt64.toUInt64).toInt64)), .second, .unset, .unset, .unset, .unset, .unset, .unset, .unset, .unset, .unset]) rfl k) ?_
  show own_Fin p.tables e below _ (s₁.setTop (mkF m 19 #[.val (.int k0), .val (.long q1), .second, .val (.int k2), .val (.long q3), .second, .val (.int kb), .val (.long ((q1.toUInt64 >>> ((k2 &&& (63 : Int32)) &&& 0x3f).toInt64.toUInt64).toInt64)), .second, .unset, .unset, .unset, .unset, .unset, .unset, .unset, .unset, .unset] []))
  obtain ⟨mk, hmk⟩ : ∃ z, z = ((q1.toUInt64 >>> ((k2 &&& (63 : Int32)) &&& 0x3f).toInt64.toUInt64).toInt64) := ⟨_, rfl⟩
  rw [← hmk]
  show own_Fin p.tables e below _ (s₁.setTop (mkF m 19 #[.val (.int k0), .val (.long q1), .second, .val (.int k2), .val (.long q3), .second, .val (.int kb), .val (.long mk), .second, .unset, .unset, .unset, .unset, .unset, .unset, .unset, .unset, .unset] []))
  refine own_step (fun _ k => XS.iload X0.here hx rfl (hb hby at_19) rfl k) ?_
  show own_Fin p.tables e below _ (s₁.setTop (mkF m 21 #[.val (.int k0), .val (.long q1), .second, .val (.int k2), .val (.long q3), .second, .val (.int kb), .val (.long mk), .second, .unset, .unset, .unset, .unset, .unset, .unset, .unset, .unset, .unset] [(.int kb)]))
  refine own_step (fun _ k => XS.bipush X0.here hx rfl (hb hby at_21) k) ?_
  show own_Fin p.tables e below _ (s₁.setTop (mkF m 23 #[.val (.int k0), .val (.long q1), .second, .val (.int k2), .val (.long q3), .second, .val (.int kb), .val (.long mk), .second, .unset, .unset, .unset, .unset, .unset, .unset, .unset, .unset, .unset] [(.int (64 : Int32)), (.int kb)]))
  have J2 : ∀ (T3 : State) (locs3 : List Loc) (y4 : Int64) (X3 : Stand p l e room_1 s m #[(.int k0), (.long q1), (.int k2), (.long q3)] below meth c T3 locs3 0 0) (e3 : T3.heap = h0) (N3 : Fr n0 locs3) (gy4 : y4 = (if kb = (64 : Int32) then q3 else (q3 &&& (((1 : Int64) <<< (kb &&& 0x3f).toInt64) - (1 : Int64))))), own_Fin p.tables e below (P0 Z k0 q1 k2 q3 h0 n0 s) (T3.setTop (mkF m 40 #[.val (.int k0), .val (.long q1), .second, .val (.int k2), .val (.long q3), .second, .val (.int kb), .val (.long mk), .second, .unset, .unset, .unset, .unset, .unset, .unset, .unset, .unset, .unset] [(.long y4)])) := by
    intro T3 locs3 y4 X3 e3 N3 gy4
    refine own_step (fun _ k => XS.lstore X3.here hx rfl (hb hby at_40) rfl (l' := #[.val (.int k0), .val (.long q1), .second, .val (.int k2), .val (.long q3), .second, .val (.int kb), .val (.long mk), .second, .val (.long y4), .second, .unset, .unset, .unset, .unset, .unset, .unset, .unset]) rfl k) ?_
    show own_Fin p.tables e below _ (T3.setTop (mkF m 42 #[.val (.int k0), .val (.long q1), .second, .val (.int k2), .val (.long q3), .second, .val (.int kb), .val (.long mk), .second, .val (.long y4), .second, .unset, .unset, .unset, .unset, .unset, .unset, .unset] []))
    have hkey := own_key hk1 hk2 gy4
    obtain ⟨T5, h5, X5, e5, E5, A5, D5, -, st5⟩ := newO X3 hx hZ hown (hw _ (List.mem_of_getElem? (i := 0) rfl)) (hw _ (List.mem_of_getElem? (i := 1) rfl)) (hw _ (List.mem_of_getElem? (i := 2) rfl)) e3 (g := (mkF m 42 #[.val (.int k0), .val (.long q1), .second, .val (.int k2), .val (.long q3), .second, .val (.int kb), .val (.long mk), .second, .val (.long y4), .second, .unset, .unset, .unset, .unset, .unset, .unset, .unset] [])) rfl (hb hby at_42) (by decide) (by decide)
    obtain ⟨b5, g5⟩ : ∃ z, z = h0.size := ⟨_, rfl⟩
    rw [← g5] at A5 D5 st5
    refine own_step st5 ?_
    have g_b5 : n0 ≤ b5 := Nat.le_trans Z0 (Nat.le_of_eq g5.symm)
    have f6 := Nat.le_trans Z0 E5.1
    have f7 : Fld Z h5 b5 "com/example/streamgist/streamgist/dedup/FingerprintQueues" "keyBits" "I" (.int (0 : Int32)) := D5 (Or.inr (hw _ (List.mem_of_getElem? (i := 11) rfl))) (ty := .int) (by decide)
    have f8 : Fld Z h5 b5 "com/example/streamgist/streamgist/dedup/FingerprintQueues" "quotientBits" "I" (.int (0 : Int32)) := D5 (Or.inr (hw _ (List.mem_of_getElem? (i := 13) rfl))) (ty := .int) (by decide)
    have f9 : Fld Z h5 b5 "com/example/streamgist/streamgist/dedup/FingerprintQueues" "groups" "[[J" .null := D5 (Or.inl (hw _ (List.mem_of_getElem? (i := 26) rfl))) (ty := (.array (.array .long))) (by decide)
    have f10 : Fld Z h5 b5 "com/example/streamgist/streamgist/dedup/FingerprintQueues" "words" "J" (.long (0 : Int64)) := D5 (Or.inl (hw _ (List.mem_of_getElem? (i := 28) rfl))) (ty := .long) (by decide)
    show own_Fin p.tables e below _ (T5.setTop (mkF m 45 #[.val (.int k0), .val (.long q1), .second, .val (.int k2), .val (.long q3), .second, .val (.int kb), .val (.long mk), .second, .val (.long y4), .second, .unset, .unset, .unset, .unset, .unset, .unset, .unset] [(.ref b5)]))
    refine own_step (fun _ k => XS.dup X5.here hx rfl (hb hby at_45) rfl rfl k) ?_
    show own_Fin p.tables e below _ (T5.setTop (mkF m 46 #[.val (.int k0), .val (.long q1), .second, .val (.int k2), .val (.long q3), .second, .val (.int kb), .val (.long mk), .second, .val (.long y4), .second, .unset, .unset, .unset, .unset, .unset, .unset, .unset] [(.ref b5), (.ref b5)]))
    refine own_step (fun _ k => XS.iload X5.here hx rfl (hb hby at_46) rfl k) ?_
    show own_Fin p.tables e below _ (T5.setTop (mkF m 48 #[.val (.int k0), .val (.long q1), .second, .val (.int k2), .val (.long q3), .second, .val (.int kb), .val (.long mk), .second, .val (.long y4), .second, .unset, .unset, .unset, .unset, .unset, .unset, .unset] [(.int kb), (.ref b5), (.ref b5)]))
    refine own_step (fun _ k => XS.lload X5.here hx rfl (hb hby at_48) rfl k) ?_
    show own_Fin p.tables e below _ (T5.setTop (mkF m 50 #[.val (.int k0), .val (.long q1), .second, .val (.int k2), .val (.long q3), .second, .val (.int kb), .val (.long mk), .second, .val (.long y4), .second, .unset, .unset, .unset, .unset, .unset, .unset, .unset] [(.long mk), (.int kb), (.ref b5), (.ref b5)]))
    obtain ⟨_, _, ⟨T11, L11, k11, n11⟩, -, X11, ⟨Lc11, hQ11, l11, y11, z11⟩, st11⟩ := X5.specialBack hx (y := (⟨"com/example/streamgist/streamgist/dedup/FingerprintQueues", "<init>", "(IJ)V"⟩ : MethodName)) rfl hown (mvT hZ (hw _ (List.mem_of_getElem? (i := 3) rfl))) (mvT hZ (hw _ (List.mem_of_getElem? (i := 4) rfl))) (mvT hZ (hw _ (List.mem_of_getElem? (i := 5) rfl))) (by decide) (backOf (W := 1) (rm1 l Z a0 hw [] b5 kb mk _ _ _ _ h5 n0 f6 f7 f8 f9 f10 A5 g_b5 hk1 hk2) hZ (hw _ (List.mem_of_getElem? (i := 5) rfl)) (hw _ (List.mem_of_getElem? (i := 2) rfl)) (by decide) (by decide)) (g := (mkF m 50 #[.val (.int k0), .val (.long q1), .second, .val (.int k2), .val (.long q3), .second, .val (.int kb), .val (.long mk), .second, .val (.long y4), .second, .unset, .unset, .unset, .unset, .unset, .unset, .unset] [(.long mk), (.int kb), (.ref b5), (.ref b5)])) rfl (by rw [hml]; rfl) (Steps.refl _) (a := b5) (argsL := [(.int kb), (.long mk)]) (rest := [(.ref b5)]) (lenOf pd_2 rfl) rfl (by show 2 * 0 + _ ≤ _; exact Nat.le_of_eq rfl) (hb hby at_50) (fun _ _ => ⟨rfl, e5, (by decide : 1 + 2 ≤ _), (by decide : 6 + 3 ≤ _)⟩)
    dsimp only [Pt.U, Pt.locs, Pt.cells, Pt.slots] at X11 l11 y11 z11 st11 hQ11
    subst l11 y11 z11
    obtain ⟨rfl, N11q, K11, fe11, fk11, q, fq11, i1, i2, hex, i3⟩ := hQ11
    have N11 := Fr.app N3 N11q
    refine own_steps st11 ?_
    have f12 := Nat.le_trans f6 K11.1
    have f13 := A5.keep K11
    show own_Fin p.tables e below _ (T11.setTop (mkF m 53 #[.val (.int k0), .val (.long q1), .second, .val (.int k2), .val (.long q3), .second, .val (.int kb), .val (.long mk), .second, .val (.long y4), .second, .unset, .unset, .unset, .unset, .unset, .unset, .unset] [(.ref b5)]))
    refine own_step (fun _ k => XS.astore X11.here hx rfl (hb hby at_53) rfl rfl (l' := #[.val (.int k0), .val (.long q1), .second, .val (.int k2), .val (.long q3), .second, .val (.int kb), .val (.long mk), .second, .val (.long y4), .second, .val (.ref b5), .unset, .unset, .unset, .unset, .unset, .unset]) rfl k) ?_
    show own_Fin p.tables e below _ (T11.setTop (mkF m 55 #[.val (.int k0), .val (.long q1), .second, .val (.int k2), .val (.long q3), .second, .val (.int kb), .val (.long mk), .second, .val (.long y4), .second, .val (.ref b5), .unset, .unset, .unset, .unset, .unset, .unset] []))
    refine own_step (fun _ k => XS.aload X11.here hx rfl (hb hby at_55) rfl rfl k) ?_
    show own_Fin p.tables e below _ (T11.setTop (mkF m 57 #[.val (.int k0), .val (.long q1), .second, .val (.int k2), .val (.long q3), .second, .val (.int kb), .val (.long mk), .second, .val (.long y4), .second, .val (.ref b5), .unset, .unset, .unset, .unset, .unset, .unset] [(.ref b5)]))
    obtain ⟨cq18, kq18, q18a, q18b, q18c⟩ := isOf hZ rfl fe11
    obtain ⟨_, _, ⟨T18, L18, k18, n18⟩, -, X18, ⟨Lc18, hQ18, l18, y18, z18⟩, st18⟩ := X11.virtualBack hx (y := (⟨"com/example/streamgist/streamgist/dedup/FingerprintQueues", "quotientBits", "()I"⟩ : MethodName)) (z := (⟨"com/example/streamgist/streamgist/dedup/FingerprintQueues", "quotientBits", "()I"⟩ : MethodName)) hown (mvT hZ (hw _ (List.mem_of_getElem? (i := 29) rfl))) (mvT hZ (hw _ (List.mem_of_getElem? (i := 30) rfl))) (notFace_of_selects (args := #[]) (mvT hZ (hw _ (List.mem_of_getElem? (i := 32) rfl)))) (mvT hZ (hw _ (List.mem_of_getElem? (i := 32) rfl))) (mvT hZ (hw _ (List.mem_of_getElem? (i := 31) rfl))) (by decide) (backOf (W := 0) (rm5 l Z a0 hw [] b5 q T11.heap n0 f12 fq11) hZ (hw _ (List.mem_of_getElem? (i := 33) rfl)) (hw _ (List.mem_of_getElem? (i := 2) rfl)) (by decide) (by decide)) q18a q18c (g := (mkF m 57 #[.val (.int k0), .val (.long q1), .second, .val (.int k2), .val (.long q3), .second, .val (.int kb), .val (.long mk), .second, .val (.long y4), .second, .val (.ref b5), .unset, .unset, .unset, .unset, .unset, .unset] [(.ref b5)])) rfl (by rw [hml]; rfl) (Steps.refl _) (argsL := []) (rest := []) (lenOf pd_3 rfl) rfl (by show 2 * 0 + _ ≤ _; exact Nat.le_of_eq rfl) (hb hby at_57) (fun _ _ => ⟨rfl, rfl, (by decide : 3 + 0 ≤ _), (by decide : 9 + 0 ≤ _)⟩)
    dsimp only [Pt.U, Pt.locs, Pt.cells, Pt.slots] at X18 l18 y18 z18 st18 hQ18
    subst l18 y18 z18
    obtain ⟨rfl, N18q, e18⟩ := hQ18
    have N18 := Fr.app N11 N18q
    refine own_steps st18 ?_
    show own_Fin p.tables e below _ (T18.setTop (mkF m 60 #[.val (.int k0), .val (.long q1), .second, .val (.int k2), .val (.long q3), .second, .val (.int kb), .val (.long mk), .second, .val (.long y4), .second, .val (.ref b5), .unset, .unset, .unset, .unset, .unset, .unset] [(.int q)]))
    refine own_step (fun _ k => XS.istore X18.here hx rfl (hb hby at_60) rfl (l' := #[.val (.int k0), .val (.long q1), .second, .val (.int k2), .val (.long q3), .second, .val (.int kb), .val (.long mk), .second, .val (.long y4), .second, .val (.ref b5), .val (.int q), .unset, .unset, .unset, .unset, .unset]) rfl k) ?_
    show own_Fin p.tables e below _ (T18.setTop (mkF m 62 #[.val (.int k0), .val (.long q1), .second, .val (.int k2), .val (.long q3), .second, .val (.int kb), .val (.long mk), .second, .val (.long y4), .second, .val (.ref b5), .val (.int q), .unset, .unset, .unset, .unset, .unset] []))
    refine own_step (fun _ k => XS.iload X18.here hx rfl (hb hby at_62) rfl k) ?_
    show own_Fin p.tables e below _ (T18.setTop (mkF m 64 #[.val (.int k0), .val (.long q1), .second, .val (.int k2), .val (.long q3), .second, .val (.int kb), .val (.long mk), .second, .val (.long y4), .second, .val (.ref b5), .val (.int q), .unset, .unset, .unset, .unset, .unset] [(.int q)]))
    have ha19 : ¬ (q < (0 : Int32)) := by
      intro h; have := Int32.lt_iff_toInt_lt.mp h; have : (0 : Int32).toInt = 0 := by decide
      omega
    refine own_step (fun _ k => XS.ifNo X18.here hx rfl (hb hby at_64) rfl ((if0 _ _).trans (flt ha19).1) k) ?_
    show own_Fin p.tables e below _ (T18.setTop (mkF m 67 #[.val (.int k0), .val (.long q1), .second, .val (.int k2), .val (.long q3), .second, .val (.int kb), .val (.long mk), .second, .val (.long y4), .second, .val (.ref b5), .val (.int q), .unset, .unset, .unset, .unset, .unset] []))
    refine own_step (fun _ k => XS.iload X18.here hx rfl (hb hby at_67) rfl k) ?_
    show own_Fin p.tables e below _ (T18.setTop (mkF m 69 #[.val (.int k0), .val (.long q1), .second, .val (.int k2), .val (.long q3), .second, .val (.int kb), .val (.long mk), .second, .val (.long y4), .second, .val (.ref b5), .val (.int q), .unset, .unset, .unset, .unset, .unset] [(.int q)]))
    refine own_step (fun _ k => XS.iload X18.here hx rfl (hb hby at_69) rfl k) ?_
    show own_Fin p.tables e below _ (T18.setTop (mkF m 71 #[.val (.int k0), .val (.long q1), .second, .val (.int k2), .val (.long q3), .second, .val (.int kb), .val (.long mk), .second, .val (.long y4), .second, .val (.ref b5), .val (.int q), .unset, .unset, .unset, .unset, .unset] [(.int kb), (.int q)]))
    refine own_step (fun _ k => XS.iconst X18.here hx rfl (hb hby at_71) k) ?_
    show own_Fin p.tables e below _ (T18.setTop (mkF m 72 #[.val (.int k0), .val (.long q1), .second, .val (.int k2), .val (.long q3), .second, .val (.int kb), .val (.long mk), .second, .val (.long y4), .second, .val (.ref b5), .val (.int q), .unset, .unset, .unset, .unset, .unset] [(.int (1 : Int32)), (.int kb), (.int q)]))
    refine own_step (fun _ k => XS.isub X18.here hx rfl (hb hby at_72) rfl k) ?_
    show own_Fin p.tables e below _ (T18.setTop (mkF m 73 #[.val (.int k0), .val (.long q1), .second, .val (.int k2), .val (.long q3), .second, .val (.int kb), .val (.long mk), .second, .val (.long y4), .second, .val (.ref b5), .val (.int q), .unset, .unset, .unset, .unset, .unset] [(.int (kb - (1 : Int32))), (.int q)]))
    have ha20 : ¬ ((kb - (1 : Int32)) < q) := by
      intro h; have := Int32.lt_iff_toInt_lt.mp h; have := own_sub1 (n := kb) (by omega)
      omega
    refine own_step (fun _ k => XS.icmpYes X18.here hx rfl (pc0 := 73) (pc' := 78) rfl (hb hby at_73) rfl ((flt ha20).2.2.2) (by decide) (by decide) k) ?_
    show own_Fin p.tables e below _ (T18.setTop (mkF m 78 #[.val (.int k0), .val (.long q1), .second, .val (.int k2), .val (.long q3), .second, .val (.int kb), .val (.long mk), .second, .val (.long y4), .second, .val (.ref b5), .val (.int q), .unset, .unset, .unset, .unset, .unset] []))
    refine own_step (fun _ k => XS.iload X18.here hx rfl (hb hby at_78) rfl k) ?_
    show own_Fin p.tables e below _ (T18.setTop (mkF m 80 #[.val (.int k0), .val (.long q1), .second, .val (.int k2), .val (.long q3), .second, .val (.int kb), .val (.long mk), .second, .val (.long y4), .second, .val (.ref b5), .val (.int q), .unset, .unset, .unset, .unset, .unset] [(.int q)]))
    refine own_step (fun _ k => XS.iload X18.here hx rfl (hb hby at_80) rfl k) ?_
    show own_Fin p.tables e below _ (T18.setTop (mkF m 82 #[.val (.int k0), .val (.long q1), .second, .val (.int k2), .val (.long q3), .second, .val (.int kb), .val (.long mk), .second, .val (.long y4), .second, .val (.ref b5), .val (.int q), .unset, .unset, .unset, .unset, .unset] [(.int kb), (.int q)]))
    refine own_step (fun _ k => XS.iconst X18.here hx rfl (hb hby at_82) k) ?_
    show own_Fin p.tables e below _ (T18.setTop (mkF m 83 #[.val (.int k0), .val (.long q1), .second, .val (.int k2), .val (.long q3), .second, .val (.int kb), .val (.long mk), .second, .val (.long y4), .second, .val (.ref b5), .val (.int q), .unset, .unset, .unset, .unset, .unset] [(.int (1 : Int32)), (.int kb), (.int q)]))
    refine own_step (fun _ k => XS.isub X18.here hx rfl (hb hby at_83) rfl k) ?_
    show own_Fin p.tables e below _ (T18.setTop (mkF m 84 #[.val (.int k0), .val (.long q1), .second, .val (.int k2), .val (.long q3), .second, .val (.int kb), .val (.long mk), .second, .val (.long y4), .second, .val (.ref b5), .val (.int q), .unset, .unset, .unset, .unset, .unset] [(.int (kb - (1 : Int32))), (.int q)]))
    have J22 : ∀ (T23 : State) (locs23 : List Loc) (X23 : Stand p l e room_1 s m #[(.int k0), (.long q1), (.int k2), (.long q3)] below meth c T23 locs23 3 9) (e23 : T23.heap = T11.heap) (N23 : Fr n0 locs23), own_Fin p.tables e below (P0 Z k0 q1 k2 q3 h0 n0 s) (T23.setTop (mkF m 101 #[.val (.int k0), .val (.long q1), .second, .val (.int k2), .val (.long q3), .second, .val (.int kb), .val (.long mk), .second, .val (.long y4), .second, .val (.ref b5), .val (.int q), .unset, .unset, .unset, .unset, .unset] [])) := by
      intro T23 locs23 X23 e23 N23
      refine own_step (fun _ k => XS.iload X23.here hx rfl (hb hby at_101) rfl k) ?_
      show own_Fin p.tables e below _ (T23.setTop (mkF m 103 #[.val (.int k0), .val (.long q1), .second, .val (.int k2), .val (.long q3), .second, .val (.int kb), .val (.long mk), .second, .val (.long y4), .second, .val (.ref b5), .val (.int q), .unset, .unset, .unset, .unset, .unset] [(.int q)]))
      have J25 : ∀ (T26 : State) (locs26 : List Loc) (X26 : Stand p l e room_1 s m #[(.int k0), (.long q1), (.int k2), (.long q3)] below meth c T26 locs26 3 9) (e26 : T26.heap = T11.heap) (N26 : Fr n0 locs26), own_Fin p.tables e below (P0 Z k0 q1 k2 q3 h0 n0 s) (T26.setTop (mkF m 122 #[.val (.int k0), .val (.long q1), .second, .val (.int k2), .val (.long q3), .second, .val (.int kb), .val (.long mk), .second, .val (.long y4), .second, .val (.ref b5), .val (.int q), .unset, .unset, .unset, .unset, .unset] [])) := by
        intro T26 locs26 X26 e26 N26
        refine own_step (fun _ k => XS.aload X26.here hx rfl (hb hby at_122) rfl rfl k) ?_
        show own_Fin p.tables e below _ (T26.setTop (mkF m 124 #[.val (.int k0), .val (.long q1), .second, .val (.int k2), .val (.long q3), .second, .val (.int kb), .val (.long mk), .second, .val (.long y4), .second, .val (.ref b5), .val (.int q), .unset, .unset, .unset, .unset, .unset] [(.ref b5)]))
        refine own_step (fun _ k => XS.lload X26.here hx rfl (hb hby at_124) rfl k) ?_
        show own_Fin p.tables e below _ (T26.setTop (mkF m 126 #[.val (.int k0), .val (.long q1), .second, .val (.int k2), .val (.long q3), .second, .val (.int kb), .val (.long mk), .second, .val (.long y4), .second, .val (.ref b5), .val (.int q), .unset, .unset, .unset, .unset, .unset] [(.long y4), (.ref b5)]))
        obtain ⟨cq27, kq27, q27a, q27b, q27c⟩ := isOf hZ e26 fe11
        obtain ⟨_, _, ⟨T27, L27, k27, n27⟩, -, X27, ⟨Lc27, hQ27, l27, y27, z27⟩, st27⟩ := X26.virtualBack hx (y := (⟨"com/example/streamgist/streamgist/dedup/FingerprintQueues", "quotient", "(J)J"⟩ : MethodName)) (z := (⟨"com/example/streamgist/streamgist/dedup/FingerprintQueues", "quotient", "(J)J"⟩ : MethodName)) hown (mvT hZ (hw _ (List.mem_of_getElem? (i := 35) rfl))) (mvT hZ (hw _ (List.mem_of_getElem? (i := 36) rfl))) (notFace_of_selects (args := #[]) (mvT hZ (hw _ (List.mem_of_getElem? (i := 38) rfl)))) (mvT hZ (hw _ (List.mem_of_getElem? (i := 38) rfl))) (mvT hZ (hw _ (List.mem_of_getElem? (i := 37) rfl))) (by decide) (backOf (W := 0) (rm6 l Z a0 hw [] b5 y4 kb q T11.heap n0 f12 fk11 fq11) hZ (hw _ (List.mem_of_getElem? (i := 39) rfl)) (hw _ (List.mem_of_getElem? (i := 2) rfl)) (by decide) (by decide)) q27a q27c (g := (mkF m 126 #[.val (.int k0), .val (.long q1), .second, .val (.int k2), .val (.long q3), .second, .val (.int kb), .val (.long mk), .second, .val (.long y4), .second, .val (.ref b5), .val (.int q), .unset, .unset, .unset, .unset, .unset] [(.long y4), (.ref b5)])) rfl (by rw [hml]; rfl) (Steps.refl _) (argsL := [(.long y4)]) (rest := []) (lenOf pd_4 rfl) rfl (by show 2 * 0 + _ ≤ _; exact Nat.le_of_eq rfl) (hb hby at_126) (fun _ _ => ⟨rfl, e26, (by decide : 3 + 0 ≤ _), (by decide : 9 + 0 ≤ _)⟩)
        dsimp only [Pt.U, Pt.locs, Pt.cells, Pt.slots] at X27 l27 y27 z27 st27 hQ27
        subst l27 y27 z27
        obtain ⟨rfl, N27q, e27⟩ := hQ27
        have N27 := Fr.app N26 N27q
        refine own_steps st27 ?_
        show own_Fin p.tables e below _ (T27.setTop (mkF m 129 #[.val (.int k0), .val (.long q1), .second, .val (.int k2), .val (.long q3), .second, .val (.int kb), .val (.long mk), .second, .val (.long y4), .second, .val (.ref b5), .val (.int q), .unset, .unset, .unset, .unset, .unset] [(.long (own_q kb q y4))]))
        refine own_step (fun _ k => XS.lstore X27.here hx rfl (hb hby at_129) rfl (l' := #[.val (.int k0), .val (.long q1), .second, .val (.int k2), .val (.long q3), .second, .val (.int kb), .val (.long mk), .second, .val (.long y4), .second, .val (.ref b5), .val (.int q), .val (.long (own_q kb q y4)), .second, .unset, .unset, .unset]) rfl k) ?_
        show own_Fin p.tables e below _ (T27.setTop (mkF m 131 #[.val (.int k0), .val (.long q1), .second, .val (.int k2), .val (.long q3), .second, .val (.int kb), .val (.long mk), .second, .val (.long y4), .second, .val (.ref b5), .val (.int q), .val (.long (own_q kb q y4)), .second, .unset, .unset, .unset] []))
        refine own_step (fun _ k => XS.iload X27.here hx rfl (hb hby at_131) rfl k) ?_
        show own_Fin p.tables e below _ (T27.setTop (mkF m 133 #[.val (.int k0), .val (.long q1), .second, .val (.int k2), .val (.long q3), .second, .val (.int kb), .val (.long mk), .second, .val (.long y4), .second, .val (.ref b5), .val (.int q), .val (.long (own_q kb q y4)), .second, .unset, .unset, .unset] [(.int q)]))
        by_cases hc28 : q = (0 : Int32)
        · refine own_step (fun _ k => XS.ifNo X27.here hx rfl (hb hby at_133) rfl ((if0 _ _).trans (teq hc28).2) k) ?_
          show own_Fin p.tables e below _ (T27.setTop (mkF m 136 #[.val (.int k0), .val (.long q1), .second, .val (.int k2), .val (.long q3), .second, .val (.int kb), .val (.long mk), .second, .val (.long y4), .second, .val (.ref b5), .val (.int q), .val (.long (own_q kb q y4)), .second, .unset, .unset, .unset] []))
          refine own_step (fun _ k => XS.lload X27.here hx rfl (hb hby at_136) rfl k) ?_
          show own_Fin p.tables e below _ (T27.setTop (mkF m 138 #[.val (.int k0), .val (.long q1), .second, .val (.int k2), .val (.long q3), .second, .val (.int kb), .val (.long mk), .second, .val (.long y4), .second, .val (.ref b5), .val (.int q), .val (.long (own_q kb q y4)), .second, .unset, .unset, .unset] [(.long (own_q kb q y4))]))
          refine own_step (fun _ k => XS.lconst X27.here hx rfl (hb hby at_138) k) ?_
          show own_Fin p.tables e below _ (T27.setTop (mkF m 139 #[.val (.int k0), .val (.long q1), .second, .val (.int k2), .val (.long q3), .second, .val (.int kb), .val (.long mk), .second, .val (.long y4), .second, .val (.ref b5), .val (.int q), .val (.long (own_q kb q y4)), .second, .unset, .unset, .unset] [(.long (0 : Int64)), (.long (own_q kb q y4))]))
          refine own_step (fun _ k => XS.lcmp X27.here hx rfl (hb hby at_139) rfl k) ?_
          show own_Fin p.tables e below _ (T27.setTop (mkF m 140 #[.val (.int k0), .val (.long q1), .second, .val (.int k2), .val (.long q3), .second, .val (.int kb), .val (.long mk), .second, .val (.long y4), .second, .val (.ref b5), .val (.int q), .val (.long (own_q kb q y4)), .second, .unset, .unset, .unset] [(.int (lcmpW (own_q kb q y4) (0 : Int64)))]))
          have ha29 : (own_q kb q y4) = (0 : Int64) := by
            exact if_pos hc28
          refine own_step (fun _ k => XS.ifNo X27.here hx rfl (hb hby at_140) rfl ((if0 _ _).trans (teq ((lw_eq _ _).mpr ha29)).2) k) ?_
          show own_Fin p.tables e below _ (T27.setTop (mkF m 143 #[.val (.int k0), .val (.long q1), .second, .val (.int k2), .val (.long q3), .second, .val (.int kb), .val (.long mk), .second, .val (.long y4), .second, .val (.ref b5), .val (.int q), .val (.long (own_q kb q y4)), .second, .unset, .unset, .unset] []))
          refine own_step (fun _ k => XS.iconst X27.here hx rfl (hb hby at_143) k) ?_
          show own_Fin p.tables e below _ (T27.setTop (mkF m 144 #[.val (.int k0), .val (.long q1), .second, .val (.int k2), .val (.long q3), .second, .val (.int kb), .val (.long mk), .second, .val (.long y4), .second, .val (.ref b5), .val (.int q), .val (.long (own_q kb q y4)), .second, .unset, .unset, .unset] [(.int (1 : Int32))]))
          refine own_step (fun _ k => XS.goto X27.here hx rfl (pc0 := 144) (pc' := 148) rfl (hb hby at_144) (by decide) (by decide) k) ?_
          show own_Fin p.tables e below _ (T27.setTop (mkF m 148 #[.val (.int k0), .val (.long q1), .second, .val (.int k2), .val (.long q3), .second, .val (.int kb), .val (.long mk), .second, .val (.long y4), .second, .val (.ref b5), .val (.int q), .val (.long (own_q kb q y4)), .second, .unset, .unset, .unset] [(.int (1 : Int32))]))
          obtain ⟨fs30, hr30, hrun30, hended30, hW30, hsame30⟩ := X27.leave (v := some (.int (nar .boolean (1 : Int32)))) (fun h => by rw [Bd.returns] at h; cases h)
          refine own_ret (retN X27 hx (t := .boolean) Bd.returns (by simp) (hb hby at_148) hr30) hrun30 hended30 ?_
          refine ⟨_, _, rfl, ?_, ⟨_, rfl⟩, hW30, hsame30.mono (by decide) (by decide)⟩
          show Q0 Z k0 q1 k2 q3 h0 n0 _ T27.heap _
          rw [e27]
          exact ⟨rfl, N27⟩
        · refine own_step (fun _ k => XS.ifYes X27.here hx rfl (pc0 := 133) (pc' := 149) rfl (hb hby at_133) rfl ((if0 _ _).trans (feq hc28).2) (by decide) (by decide) k) ?_
          show own_Fin p.tables e below _ (T27.setTop (mkF m 149 #[.val (.int k0), .val (.long q1), .second, .val (.int k2), .val (.long q3), .second, .val (.int kb), .val (.long mk), .second, .val (.long y4), .second, .val (.ref b5), .val (.int q), .val (.long (own_q kb q y4)), .second, .unset, .unset, .unset] []))
          obtain ⟨hr1, hr2, hr3, hr4⟩ := own_quo hk1 hk2 i1 i2 hc28 hkey
          refine own_step (fun _ k => XS.iload X27.here hx rfl (hb hby at_149) rfl k) ?_
          show own_Fin p.tables e below _ (T27.setTop (mkF m 151 #[.val (.int k0), .val (.long q1), .second, .val (.int k2), .val (.long q3), .second, .val (.int kb), .val (.long mk), .second, .val (.long y4), .second, .val (.ref b5), .val (.int q), .val (.long (own_q kb q y4)), .second, .unset, .unset, .unset] [(.int kb)]))
          refine own_step (fun _ k => XS.iload X27.here hx rfl (hb hby at_151) rfl k) ?_
          show own_Fin p.tables e below _ (T27.setTop (mkF m 153 #[.val (.int k0), .val (.long q1), .second, .val (.int k2), .val (.long q3), .second, .val (.int kb), .val (.long mk), .second, .val (.long y4), .second, .val (.ref b5), .val (.int q), .val (.long (own_q kb q y4)), .second, .unset, .unset, .unset] [(.int q), (.int kb)]))
          refine own_step (fun _ k => XS.isub X27.here hx rfl (hb hby at_153) rfl k) ?_
          show own_Fin p.tables e below _ (T27.setTop (mkF m 154 #[.val (.int k0), .val (.long q1), .second, .val (.int k2), .val (.long q3), .second, .val (.int kb), .val (.long mk), .second, .val (.long y4), .second, .val (.ref b5), .val (.int q), .val (.long (own_q kb q y4)), .second, .unset, .unset, .unset] [(.int (kb - q))]))
          refine own_step (fun _ k => XS.istore X27.here hx rfl (hb hby at_154) rfl (l' := #[.val (.int k0), .val (.long q1), .second, .val (.int k2), .val (.long q3), .second, .val (.int kb), .val (.long mk), .second, .val (.long y4), .second, .val (.ref b5), .val (.int q), .val (.long (own_q kb q y4)), .second, .val (.int (kb - q)), .unset, .unset]) rfl k) ?_
          show own_Fin p.tables e below _ (T27.setTop (mkF m 156 #[.val (.int k0), .val (.long q1), .second, .val (.int k2), .val (.long q3), .second, .val (.int kb), .val (.long mk), .second, .val (.long y4), .second, .val (.ref b5), .val (.int q), .val (.long (own_q kb q y4)), .second, .val (.int (kb - q)), .unset, .unset] []))
          refine own_step (fun _ k => XS.lload X27.here hx rfl (hb hby at_156) rfl k) ?_
          show own_Fin p.tables e below _ (T27.setTop (mkF m 158 #[.val (.int k0), .val (.long q1), .second, .val (.int k2), .val (.long q3), .second, .val (.int kb), .val (.long mk), .second, .val (.long y4), .second, .val (.ref b5), .val (.int q), .val (.long (own_q kb q y4)), .second, .val (.int (kb - q)), .unset, .unset] [(.long (own_q kb q y4))]))
          refine own_step (fun _ k => XS.lconst X27.here hx rfl (hb hby at_158) k) ?_
          show own_Fin p.tables e below _ (T27.setTop (mkF m 159 #[.val (.int k0), .val (.long q1), .second, .val (.int k2), .val (.long q3), .second, .val (.int kb), .val (.long mk), .second, .val (.long y4), .second, .val (.ref b5), .val (.int q), .val (.long (own_q kb q y4)), .second, .val (.int (kb - q)), .unset, .unset] [(.long (0 : Int64)), (.long (own_q kb q y4))]))
          refine own_step (fun _ k => XS.lcmp X27.here hx rfl (hb hby at_159) rfl k) ?_
          show own_Fin p.tables e below _ (T27.setTop (mkF m 160 #[.val (.int k0), .val (.long q1), .second, .val (.int k2), .val (.long q3), .second, .val (.int kb), .val (.long mk), .second, .val (.long y4), .second, .val (.ref b5), .val (.int q), .val (.long (own_q kb q y4)), .second, .val (.int (kb - q)), .unset, .unset] [(.int (lcmpW (own_q kb q y4) (0 : Int64)))]))
          have ha31 : ¬ ((own_q kb q y4) < (0 : Int64)) := by
            exact hr1
          refine own_step (fun _ k => XS.ifYes X27.here hx rfl (pc0 := 160) (pc' := 165) rfl (hb hby at_160) rfl ((if0 _ _).trans (flt (fun q => ha31 ((lw_lt _ _).mp q))).2.1) (by decide) (by decide) k) ?_
          show own_Fin p.tables e below _ (T27.setTop (mkF m 165 #[.val (.int k0), .val (.long q1), .second, .val (.int k2), .val (.long q3), .second, .val (.int kb), .val (.long mk), .second, .val (.long y4), .second, .val (.ref b5), .val (.int q), .val (.long (own_q kb q y4)), .second, .val (.int (kb - q)), .unset, .unset] []))
          refine own_step (fun _ k => XS.iload X27.here hx rfl (hb hby at_165) rfl k) ?_
          show own_Fin p.tables e below _ (T27.setTop (mkF m 167 #[.val (.int k0), .val (.long q1), .second, .val (.int k2), .val (.long q3), .second, .val (.int kb), .val (.long mk), .second, .val (.long y4), .second, .val (.ref b5), .val (.int q), .val (.long (own_q kb q y4)), .second, .val (.int (kb - q)), .unset, .unset] [(.int q)]))
          refine own_step (fun _ k => XS.bipush X27.here hx rfl (hb hby at_167) k) ?_
          show own_Fin p.tables e below _ (T27.setTop (mkF m 169 #[.val (.int k0), .val (.long q1), .second, .val (.int k2), .val (.long q3), .second, .val (.int kb), .val (.long mk), .second, .val (.long y4), .second, .val (.ref b5), .val (.int q), .val (.long (own_q kb q y4)), .second, .val (.int (kb - q)), .unset, .unset] [(.int (63 : Int32)), (.int q)]))
          have J33 : ∀ (T34 : State) (locs34 : List Loc) (X34 : Stand p l e room_1 s m #[(.int k0), (.long q1), (.int k2), (.long q3)] below meth c T34 locs34 3 9) (e34 : T34.heap = T11.heap) (N34 : Fr n0 locs34), own_Fin p.tables e below (P0 Z k0 q1 k2 q3 h0 n0 s) (T34.setTop (mkF m 184 #[.val (.int k0), .val (.long q1), .second, .val (.int k2), .val (.long q3), .second, .val (.int kb), .val (.long mk), .second, .val (.long y4), .second, .val (.ref b5), .val (.int q), .val (.long (own_q kb q y4)), .second, .val (.int (kb - q)), .unset, .unset] [])) := by
            intro T34 locs34 X34 e34 N34
            refine own_step (fun _ k => XS.lload X34.here hx rfl (hb hby at_184) rfl k) ?_
            show own_Fin p.tables e below _ (T34.setTop (mkF m 186 #[.val (.int k0), .val (.long q1), .second, .val (.int k2), .val (.long q3), .second, .val (.int kb), .val (.long mk), .second, .val (.long y4), .second, .val (.ref b5), .val (.int q), .val (.long (own_q kb q y4)), .second, .val (.int (kb - q)), .unset, .unset] [(.long y4)]))
            refine own_step (fun _ k => XS.lload X34.here hx rfl (hb hby at_186) rfl k) ?_
            show own_Fin p.tables e below _ (T34.setTop (mkF m 188 #[.val (.int k0), .val (.long q1), .second, .val (.int k2), .val (.long q3), .second, .val (.int kb), .val (.long mk), .second, .val (.long y4), .second, .val (.ref b5), .val (.int q), .val (.long (own_q kb q y4)), .second, .val (.int (kb - q)), .unset, .unset] [(.long (own_q kb q y4)), (.long y4)]))
            refine own_step (fun _ k => XS.lconst X34.here hx rfl (hb hby at_188) k) ?_
            show own_Fin p.tables e below _ (T34.setTop (mkF m 189 #[.val (.int k0), .val (.long q1), .second, .val (.int k2), .val (.long q3), .second, .val (.int kb), .val (.long mk), .second, .val (.long y4), .second, .val (.ref b5), .val (.int q), .val (.long (own_q kb q y4)), .second, .val (.int (kb - q)), .unset, .unset] [(.long (1 : Int64)), (.long (own_q kb q y4)), (.long y4)]))
            refine own_step (fun _ k => XS.iload X34.here hx rfl (hb hby at_189) rfl k) ?_
            show own_Fin p.tables e below _ (T34.setTop (mkF m 191 #[.val (.int k0), .val (.long q1), .second, .val (.int k2), .val (.long q3), .second, .val (.int kb), .val (.long mk), .second, .val (.long y4), .second, .val (.ref b5), .val (.int q), .val (.long (own_q kb q y4)), .second, .val (.int (kb - q)), .unset, .unset] [(.int (kb - q)), (.long (1 : Int64)), (.long (own_q kb q y4)), (.long y4)]))
            refine own_step (fun _ k => XS.lshl X34.here hx rfl (hb hby at_191) rfl k) ?_
            show own_Fin p.tables e below _ (T34.setTop (mkF m 192 #[.val (.int k0), .val (.long q1), .second, .val (.int k2), .val (.long q3), .second, .val (.int kb), .val (.long mk), .second, .val (.long y4), .second, .val (.ref b5), .val (.int q), .val (.long (own_q kb q y4)), .second, .val (.int (kb - q)), .unset, .unset] [(.long ((1 : Int64) <<< ((kb - q) &&& 0x3f).toInt64)), (.long (own_q kb q y4)), (.long y4)]))
            refine own_step (fun _ k => XS.lmul X34.here hx rfl (hb hby at_192) rfl k) ?_
            show own_Fin p.tables e below _ (T34.setTop (mkF m 193 #[.val (.int k0), .val (.long q1), .second, .val (.int k2), .val (.long q3), .second, .val (.int kb), .val (.long mk), .second, .val (.long y4), .second, .val (.ref b5), .val (.int q), .val (.long (own_q kb q y4)), .second, .val (.int (kb - q)), .unset, .unset] [(.long ((own_q kb q y4) * ((1 : Int64) <<< ((kb - q) &&& 0x3f).toInt64))), (.long y4)]))
            refine own_step (fun _ k => XS.lsub X34.here hx rfl (hb hby at_193) rfl k) ?_
            show own_Fin p.tables e below _ (T34.setTop (mkF m 194 #[.val (.int k0), .val (.long q1), .second, .val (.int k2), .val (.long q3), .second, .val (.int kb), .val (.long mk), .second, .val (.long y4), .second, .val (.ref b5), .val (.int q), .val (.long (own_q kb q y4)), .second, .val (.int (kb - q)), .unset, .unset] [(.long (y4 - ((own_q kb q y4) * ((1 : Int64) <<< ((kb - q) &&& 0x3f).toInt64))))]))
            refine own_step (fun _ k => XS.lstore X34.here hx rfl (hb hby at_194) rfl (l' := #[.val (.int k0), .val (.long q1), .second, .val (.int k2), .val (.long q3), .second, .val (.int kb), .val (.long mk), .second, .val (.long y4), .second, .val (.ref b5), .val (.int q), .val (.long (own_q kb q y4)), .second, .val (.int (kb - q)), .val (.long (y4 - ((own_q kb q y4) * ((1 : Int64) <<< ((kb - q) &&& 0x3f).toInt64)))), .second]) rfl k) ?_
            show own_Fin p.tables e below _ (T34.setTop (mkF m 196 #[.val (.int k0), .val (.long q1), .second, .val (.int k2), .val (.long q3), .second, .val (.int kb), .val (.long mk), .second, .val (.long y4), .second, .val (.ref b5), .val (.int q), .val (.long (own_q kb q y4)), .second, .val (.int (kb - q)), .val (.long (y4 - ((own_q kb q y4) * ((1 : Int64) <<< ((kb - q) &&& 0x3f).toInt64)))), .second] []))
            refine own_step (fun _ k => XS.lload X34.here hx rfl (hb hby at_196) rfl k) ?_
            show own_Fin p.tables e below _ (T34.setTop (mkF m 198 #[.val (.int k0), .val (.long q1), .second, .val (.int k2), .val (.long q3), .second, .val (.int kb), .val (.long mk), .second, .val (.long y4), .second, .val (.ref b5), .val (.int q), .val (.long (own_q kb q y4)), .second, .val (.int (kb - q)), .val (.long (y4 - ((own_q kb q y4) * ((1 : Int64) <<< ((kb - q) &&& 0x3f).toInt64)))), .second] [(.long (y4 - ((own_q kb q y4) * ((1 : Int64) <<< ((kb - q) &&& 0x3f).toInt64))))]))
            refine own_step (fun _ k => XS.lconst X34.here hx rfl (hb hby at_198) k) ?_
            show own_Fin p.tables e below _ (T34.setTop (mkF m 199 #[.val (.int k0), .val (.long q1), .second, .val (.int k2), .val (.long q3), .second, .val (.int kb), .val (.long mk), .second, .val (.long y4), .second, .val (.ref b5), .val (.int q), .val (.long (own_q kb q y4)), .second, .val (.int (kb - q)), .val (.long (y4 - ((own_q kb q y4) * ((1 : Int64) <<< ((kb - q) &&& 0x3f).toInt64)))), .second] [(.long (0 : Int64)), (.long (y4 - ((own_q kb q y4) * ((1 : Int64) <<< ((kb - q) &&& 0x3f).toInt64))))]))
            refine own_step (fun _ k => XS.lcmp X34.here hx rfl (hb hby at_199) rfl k) ?_
            show own_Fin p.tables e below _ (T34.setTop (mkF m 200 #[.val (.int k0), .val (.long q1), .second, .val (.int k2), .val (.long q3), .second, .val (.int kb), .val (.long mk), .second, .val (.long y4), .second, .val (.ref b5), .val (.int q), .val (.long (own_q kb q y4)), .second, .val (.int (kb - q)), .val (.long (y4 - ((own_q kb q y4) * ((1 : Int64) <<< ((kb - q) &&& 0x3f).toInt64)))), .second] [(.int (lcmpW (y4 - ((own_q kb q y4) * ((1 : Int64) <<< ((kb - q) &&& 0x3f).toInt64))) (0 : Int64)))]))
            have ha35 : ¬ ((y4 - ((own_q kb q y4) * ((1 : Int64) <<< ((kb - q) &&& 0x3f).toInt64))) < (0 : Int64)) := by
              exact hr3
            refine own_step (fun _ k => XS.ifYes X34.here hx rfl (pc0 := 200) (pc' := 205) rfl (hb hby at_200) rfl ((if0 _ _).trans (flt (fun q => ha35 ((lw_lt _ _).mp q))).2.1) (by decide) (by decide) k) ?_
            show own_Fin p.tables e below _ (T34.setTop (mkF m 205 #[.val (.int k0), .val (.long q1), .second, .val (.int k2), .val (.long q3), .second, .val (.int kb), .val (.long mk), .second, .val (.long y4), .second, .val (.ref b5), .val (.int q), .val (.long (own_q kb q y4)), .second, .val (.int (kb - q)), .val (.long (y4 - ((own_q kb q y4) * ((1 : Int64) <<< ((kb - q) &&& 0x3f).toInt64)))), .second] []))
            refine own_step (fun _ k => XS.iload X34.here hx rfl (hb hby at_205) rfl k) ?_
            show own_Fin p.tables e below _ (T34.setTop (mkF m 207 #[.val (.int k0), .val (.long q1), .second, .val (.int k2), .val (.long q3), .second, .val (.int kb), .val (.long mk), .second, .val (.long y4), .second, .val (.ref b5), .val (.int q), .val (.long (own_q kb q y4)), .second, .val (.int (kb - q)), .val (.long (y4 - ((own_q kb q y4) * ((1 : Int64) <<< ((kb - q) &&& 0x3f).toInt64)))), .second] [(.int (kb - q))]))
            refine own_step (fun _ k => XS.bipush X34.here hx rfl (hb hby at_207) k) ?_
            show own_Fin p.tables e below _ (T34.setTop (mkF m 209 #[.val (.int k0), .val (.long q1), .second, .val (.int k2), .val (.long q3), .second, .val (.int kb), .val (.long mk), .second, .val (.long y4), .second, .val (.ref b5), .val (.int q), .val (.long (own_q kb q y4)), .second, .val (.int (kb - q)), .val (.long (y4 - ((own_q kb q y4) * ((1 : Int64) <<< ((kb - q) &&& 0x3f).toInt64)))), .second] [(.int (63 : Int32)), (.int (kb - q))]))
            have J37 : ∀ (T38 : State) (locs38 : List Loc) (X38 : Stand p l e room_1 s m #[(.int k0), (.long q1), (.int k2), (.long q3)] below meth c T38 locs38 3 9) (e38 : T38.heap = T11.heap) (N38 : Fr n0 locs38), own_Fin p.tables e below (P0 Z k0 q1 k2 q3 h0 n0 s) (T38.setTop (mkF m 227 #[.val (.int k0), .val (.long q1), .second, .val (.int k2), .val (.long q3), .second, .val (.int kb), .val (.long mk), .second, .val (.long y4), .second, .val (.ref b5), .val (.int q), .val (.long (own_q kb q y4)), .second, .val (.int (kb - q)), .val (.long (y4 - ((own_q kb q y4) * ((1 : Int64) <<< ((kb - q) &&& 0x3f).toInt64)))), .second] [(.int (1 : Int32))])) := by
              intro T38 locs38 X38 e38 N38
              obtain ⟨fs39, hr39, hrun39, hended39, hW39, hsame39⟩ := X38.leave (v := some (.int (nar .boolean (1 : Int32)))) (fun h => by rw [Bd.returns] at h; cases h)
              refine own_ret (retN X38 hx (t := .boolean) Bd.returns (by simp) (hb hby at_227) hr39) hrun39 hended39 ?_
              refine ⟨_, _, rfl, ?_, ⟨_, rfl⟩, hW39, hsame39.mono (by decide) (by decide)⟩
              show Q0 Z k0 q1 k2 q3 h0 n0 _ T38.heap _
              rw [e38]
              exact ⟨rfl, N38⟩
            by_cases hc36 : (kb - q) = (63 : Int32)
            · refine own_step (fun _ k => XS.icmpYes X34.here hx rfl (pc0 := 209) (pc' := 222) rfl (hb hby at_209) rfl ((teq hc36).1) (by decide) (by decide) k) ?_
              show own_Fin p.tables e below _ (T34.setTop (mkF m 222 #[.val (.int k0), .val (.long q1), .second, .val (.int k2), .val (.long q3), .second, .val (.int kb), .val (.long mk), .second, .val (.long y4), .second, .val (.ref b5), .val (.int q), .val (.long (own_q kb q y4)), .second, .val (.int (kb - q)), .val (.long (y4 - ((own_q kb q y4) * ((1 : Int64) <<< ((kb - q) &&& 0x3f).toInt64)))), .second] []))
              refine own_step (fun _ k => XS.iconst X34.here hx rfl (hb hby at_222) k) ?_
              show own_Fin p.tables e below _ (T34.setTop (mkF m 223 #[.val (.int k0), .val (.long q1), .second, .val (.int k2), .val (.long q3), .second, .val (.int kb), .val (.long mk), .second, .val (.long y4), .second, .val (.ref b5), .val (.int q), .val (.long (own_q kb q y4)), .second, .val (.int (kb - q)), .val (.long (y4 - ((own_q kb q y4) * ((1 : Int64) <<< ((kb - q) &&& 0x3f).toInt64)))), .second] [(.int (1 : Int32))]))
              refine own_step (fun _ k => XS.goto X34.here hx rfl (pc0 := 223) (pc' := 227) rfl (hb hby at_223) (by decide) (by decide) k) ?_
              show own_Fin p.tables e below _ (T34.setTop (mkF m 227 #[.val (.int k0), .val (.long q1), .second, .val (.int k2), .val (.long q3), .second, .val (.int kb), .val (.long mk), .second, .val (.long y4), .second, .val (.ref b5), .val (.int q), .val (.long (own_q kb q y4)), .second, .val (.int (kb - q)), .val (.long (y4 - ((own_q kb q y4) * ((1 : Int64) <<< ((kb - q) &&& 0x3f).toInt64)))), .second] [(.int (1 : Int32))]))
              exact J37 T34 _ X34 e34 N34
            · refine own_step (fun _ k => XS.icmpNo X34.here hx rfl (hb hby at_209) rfl ((feq hc36).1) k) ?_
              show own_Fin p.tables e below _ (T34.setTop (mkF m 212 #[.val (.int k0), .val (.long q1), .second, .val (.int k2), .val (.long q3), .second, .val (.int kb), .val (.long mk), .second, .val (.long y4), .second, .val (.ref b5), .val (.int q), .val (.long (own_q kb q y4)), .second, .val (.int (kb - q)), .val (.long (y4 - ((own_q kb q y4) * ((1 : Int64) <<< ((kb - q) &&& 0x3f).toInt64)))), .second] []))
              refine own_step (fun _ k => XS.lload X34.here hx rfl (hb hby at_212) rfl k) ?_
              show own_Fin p.tables e below _ (T34.setTop (mkF m 214 #[.val (.int k0), .val (.long q1), .second, .val (.int k2), .val (.long q3), .second, .val (.int kb), .val (.long mk), .second, .val (.long y4), .second, .val (.ref b5), .val (.int q), .val (.long (own_q kb q y4)), .second, .val (.int (kb - q)), .val (.long (y4 - ((own_q kb q y4) * ((1 : Int64) <<< ((kb - q) &&& 0x3f).toInt64)))), .second] [(.long (y4 - ((own_q kb q y4) * ((1 : Int64) <<< ((kb - q) &&& 0x3f).toInt64))))]))
              refine own_step (fun _ k => XS.lconst X34.here hx rfl (hb hby at_214) k) ?_
              show own_Fin p.tables e below _ (T34.setTop (mkF m 215 #[.val (.int k0), .val (.long q1), .second, .val (.int k2), .val (.long q3), .second, .val (.int kb), .val (.long mk), .second, .val (.long y4), .second, .val (.ref b5), .val (.int q), .val (.long (own_q kb q y4)), .second, .val (.int (kb - q)), .val (.long (y4 - ((own_q kb q y4) * ((1 : Int64) <<< ((kb - q) &&& 0x3f).toInt64)))), .second] [(.long (1 : Int64)), (.long (y4 - ((own_q kb q y4) * ((1 : Int64) <<< ((kb - q) &&& 0x3f).toInt64))))]))
              refine own_step (fun _ k => XS.iload X34.here hx rfl (hb hby at_215) rfl k) ?_
              show own_Fin p.tables e below _ (T34.setTop (mkF m 217 #[.val (.int k0), .val (.long q1), .second, .val (.int k2), .val (.long q3), .second, .val (.int kb), .val (.long mk), .second, .val (.long y4), .second, .val (.ref b5), .val (.int q), .val (.long (own_q kb q y4)), .second, .val (.int (kb - q)), .val (.long (y4 - ((own_q kb q y4) * ((1 : Int64) <<< ((kb - q) &&& 0x3f).toInt64)))), .second] [(.int (kb - q)), (.long (1 : Int64)), (.long (y4 - ((own_q kb q y4) * ((1 : Int64) <<< ((kb - q) &&& 0x3f).toInt64))))]))
              refine own_step (fun _ k => XS.lshl X34.here hx rfl (hb hby at_217) rfl k) ?_
              show own_Fin p.tables e below _ (T34.setTop (mkF m 218 #[.val (.int k0), .val (.long q1), .second, .val (.int k2), .val (.long q3), .second, .val (.int kb), .val (.long mk), .second, .val (.long y4), .second, .val (.ref b5), .val (.int q), .val (.long (own_q kb q y4)), .second, .val (.int (kb - q)), .val (.long (y4 - ((own_q kb q y4) * ((1 : Int64) <<< ((kb - q) &&& 0x3f).toInt64)))), .second] [(.long ((1 : Int64) <<< ((kb - q) &&& 0x3f).toInt64)), (.long (y4 - ((own_q kb q y4) * ((1 : Int64) <<< ((kb - q) &&& 0x3f).toInt64))))]))
              refine own_step (fun _ k => XS.lcmp X34.here hx rfl (hb hby at_218) rfl k) ?_
              show own_Fin p.tables e below _ (T34.setTop (mkF m 219 #[.val (.int k0), .val (.long q1), .second, .val (.int k2), .val (.long q3), .second, .val (.int kb), .val (.long mk), .second, .val (.long y4), .second, .val (.ref b5), .val (.int q), .val (.long (own_q kb q y4)), .second, .val (.int (kb - q)), .val (.long (y4 - ((own_q kb q y4) * ((1 : Int64) <<< ((kb - q) &&& 0x3f).toInt64)))), .second] [(.int (lcmpW (y4 - ((own_q kb q y4) * ((1 : Int64) <<< ((kb - q) &&& 0x3f).toInt64))) ((1 : Int64) <<< ((kb - q) &&& 0x3f).toInt64)))]))
              have ha40 : (y4 - ((own_q kb q y4) * ((1 : Int64) <<< ((kb - q) &&& 0x3f).toInt64))) < ((1 : Int64) <<< ((kb - q) &&& 0x3f).toInt64) := by
                exact hr4 hc36
              refine own_step (fun _ k => XS.ifNo X34.here hx rfl (hb hby at_219) rfl ((if0 _ _).trans (tlt ((lw_lt _ _).mpr ha40)).2.1) k) ?_
              show own_Fin p.tables e below _ (T34.setTop (mkF m 222 #[.val (.int k0), .val (.long q1), .second, .val (.int k2), .val (.long q3), .second, .val (.int kb), .val (.long mk), .second, .val (.long y4), .second, .val (.ref b5), .val (.int q), .val (.long (own_q kb q y4)), .second, .val (.int (kb - q)), .val (.long (y4 - ((own_q kb q y4) * ((1 : Int64) <<< ((kb - q) &&& 0x3f).toInt64)))), .second] []))
              refine own_step (fun _ k => XS.iconst X34.here hx rfl (hb hby at_222) k) ?_
              show own_Fin p.tables e below _ (T34.setTop (mkF m 223 #[.val (.int k0), .val (.long q1), .second, .val (.int k2), .val (.long q3), .second, .val (.int kb), .val (.long mk), .second, .val (.long y4), .second, .val (.ref b5), .val (.int q), .val (.long (own_q kb q y4)), .second, .val (.int (kb - q)), .val (.long (y4 - ((own_q kb q y4) * ((1 : Int64) <<< ((kb - q) &&& 0x3f).toInt64)))), .second] [(.int (1 : Int32))]))
              refine own_step (fun _ k => XS.goto X34.here hx rfl (pc0 := 223) (pc' := 227) rfl (hb hby at_223) (by decide) (by decide) k) ?_
              show own_Fin p.tables e below _ (T34.setTop (mkF m 227 #[.val (.int k0), .val (.long q1), .second, .val (.int k2), .val (.long q3), .second, .val (.int kb), .val (.long mk), .second, .val (.long y4), .second, .val (.ref b5), .val (.int q), .val (.long (own_q kb q y4)), .second, .val (.int (kb - q)), .val (.long (y4 - ((own_q kb q y4) * ((1 : Int64) <<< ((kb - q) &&& 0x3f).toInt64)))), .second] [(.int (1 : Int32))]))
              exact J37 T34 _ X34 e34 N34
          by_cases hc32 : q < (63 : Int32)
          · refine own_step (fun _ k => XS.icmpNo X27.here hx rfl (hb hby at_169) rfl ((tlt hc32).2.1) k) ?_
            show own_Fin p.tables e below _ (T27.setTop (mkF m 172 #[.val (.int k0), .val (.long q1), .second, .val (.int k2), .val (.long q3), .second, .val (.int kb), .val (.long mk), .second, .val (.long y4), .second, .val (.ref b5), .val (.int q), .val (.long (own_q kb q y4)), .second, .val (.int (kb - q)), .unset, .unset] []))
            refine own_step (fun _ k => XS.lload X27.here hx rfl (hb hby at_172) rfl k) ?_
            show own_Fin p.tables e below _ (T27.setTop (mkF m 174 #[.val (.int k0), .val (.long q1), .second, .val (.int k2), .val (.long q3), .second, .val (.int kb), .val (.long mk), .second, .val (.long y4), .second, .val (.ref b5), .val (.int q), .val (.long (own_q kb q y4)), .second, .val (.int (kb - q)), .unset, .unset] [(.long (own_q kb q y4))]))
            refine own_step (fun _ k => XS.lconst X27.here hx rfl (hb hby at_174) k) ?_
            show own_Fin p.tables e below _ (T27.setTop (mkF m 175 #[.val (.int k0), .val (.long q1), .second, .val (.int k2), .val (.long q3), .second, .val (.int kb), .val (.long mk), .second, .val (.long y4), .second, .val (.ref b5), .val (.int q), .val (.long (own_q kb q y4)), .second, .val (.int (kb - q)), .unset, .unset] [(.long (1 : Int64)), (.long (own_q kb q y4))]))
            refine own_step (fun _ k => XS.iload X27.here hx rfl (hb hby at_175) rfl k) ?_
            show own_Fin p.tables e below _ (T27.setTop (mkF m 177 #[.val (.int k0), .val (.long q1), .second, .val (.int k2), .val (.long q3), .second, .val (.int kb), .val (.long mk), .second, .val (.long y4), .second, .val (.ref b5), .val (.int q), .val (.long (own_q kb q y4)), .second, .val (.int (kb - q)), .unset, .unset] [(.int q), (.long (1 : Int64)), (.long (own_q kb q y4))]))
            refine own_step (fun _ k => XS.lshl X27.here hx rfl (hb hby at_177) rfl k) ?_
            show own_Fin p.tables e below _ (T27.setTop (mkF m 178 #[.val (.int k0), .val (.long q1), .second, .val (.int k2), .val (.long q3), .second, .val (.int kb), .val (.long mk), .second, .val (.long y4), .second, .val (.ref b5), .val (.int q), .val (.long (own_q kb q y4)), .second, .val (.int (kb - q)), .unset, .unset] [(.long ((1 : Int64) <<< (q &&& 0x3f).toInt64)), (.long (own_q kb q y4))]))
            refine own_step (fun _ k => XS.lcmp X27.here hx rfl (hb hby at_178) rfl k) ?_
            show own_Fin p.tables e below _ (T27.setTop (mkF m 179 #[.val (.int k0), .val (.long q1), .second, .val (.int k2), .val (.long q3), .second, .val (.int kb), .val (.long mk), .second, .val (.long y4), .second, .val (.ref b5), .val (.int q), .val (.long (own_q kb q y4)), .second, .val (.int (kb - q)), .unset, .unset] [(.int (lcmpW (own_q kb q y4) ((1 : Int64) <<< (q &&& 0x3f).toInt64)))]))
            have ha41 : (own_q kb q y4) < ((1 : Int64) <<< (q &&& 0x3f).toInt64) := by
              exact hr2 hc32
            refine own_step (fun _ k => XS.ifYes X27.here hx rfl (pc0 := 179) (pc' := 184) rfl (hb hby at_179) rfl ((if0 _ _).trans (tlt ((lw_lt _ _).mpr ha41)).1) (by decide) (by decide) k) ?_
            show own_Fin p.tables e below _ (T27.setTop (mkF m 184 #[.val (.int k0), .val (.long q1), .second, .val (.int k2), .val (.long q3), .second, .val (.int kb), .val (.long mk), .second, .val (.long y4), .second, .val (.ref b5), .val (.int q), .val (.long (own_q kb q y4)), .second, .val (.int (kb - q)), .unset, .unset] []))
            exact J33 T27 _ X27 e27 N27
          · refine own_step (fun _ k => XS.icmpYes X27.here hx rfl (pc0 := 169) (pc' := 184) rfl (hb hby at_169) rfl ((flt hc32).2.1) (by decide) (by decide) k) ?_
            show own_Fin p.tables e below _ (T27.setTop (mkF m 184 #[.val (.int k0), .val (.long q1), .second, .val (.int k2), .val (.long q3), .second, .val (.int kb), .val (.long mk), .second, .val (.long y4), .second, .val (.ref b5), .val (.int q), .val (.long (own_q kb q y4)), .second, .val (.int (kb - q)), .unset, .unset] []))
            exact J33 T27 _ X27 e27 N27
      by_cases hc24 : q = (0 : Int32)
      · refine own_step (fun _ k => XS.ifYes X23.here hx rfl (pc0 := 103) (pc' := 122) rfl (hb hby at_103) rfl ((if0 _ _).trans (teq hc24).1) (by decide) (by decide) k) ?_
        show own_Fin p.tables e below _ (T23.setTop (mkF m 122 #[.val (.int k0), .val (.long q1), .second, .val (.int k2), .val (.long q3), .second, .val (.int kb), .val (.long mk), .second, .val (.long y4), .second, .val (.ref b5), .val (.int q), .unset, .unset, .unset, .unset, .unset] []))
        exact J25 T23 _ X23 e23 N23
      · refine own_step (fun _ k => XS.ifNo X23.here hx rfl (hb hby at_103) rfl ((if0 _ _).trans (feq hc24).1) k) ?_
        show own_Fin p.tables e below _ (T23.setTop (mkF m 106 #[.val (.int k0), .val (.long q1), .second, .val (.int k2), .val (.long q3), .second, .val (.int kb), .val (.long mk), .second, .val (.long y4), .second, .val (.ref b5), .val (.int q), .unset, .unset, .unset, .unset, .unset] []))
        refine own_step (X23.ldc2Long hx hown (mvT hZ (hw _ (List.mem_of_getElem? (i := 34) rfl))) (g := (mkF m 106 #[.val (.int k0), .val (.long q1), .second, .val (.int k2), .val (.long q3), .second, .val (.int kb), .val (.long mk), .second, .val (.long y4), .second, .val (.ref b5), .val (.int q), .unset, .unset, .unset, .unset, .unset] [])) rfl (hb hby at_106)) ?_
        show own_Fin p.tables e below _ (T23.setTop (mkF m 109 #[.val (.int k0), .val (.long q1), .second, .val (.int k2), .val (.long q3), .second, .val (.int kb), .val (.long mk), .second, .val (.long y4), .second, .val (.ref b5), .val (.int q), .unset, .unset, .unset, .unset, .unset] [(.long (2 : Int64))]))
        refine own_step (fun _ k => XS.iload X23.here hx rfl (hb hby at_109) rfl k) ?_
        show own_Fin p.tables e below _ (T23.setTop (mkF m 111 #[.val (.int k0), .val (.long q1), .second, .val (.int k2), .val (.long q3), .second, .val (.int kb), .val (.long mk), .second, .val (.long y4), .second, .val (.ref b5), .val (.int q), .unset, .unset, .unset, .unset, .unset] [(.int q), (.long (2 : Int64))]))
        refine own_step (fun _ k => XS.iconst X23.here hx rfl (hb hby at_111) k) ?_
        show own_Fin p.tables e below _ (T23.setTop (mkF m 112 #[.val (.int k0), .val (.long q1), .second, .val (.int k2), .val (.long q3), .second, .val (.int kb), .val (.long mk), .second, .val (.long y4), .second, .val (.ref b5), .val (.int q), .unset, .unset, .unset, .unset, .unset] [(.int (1 : Int32)), (.int q), (.long (2 : Int64))]))
        refine own_step (fun _ k => XS.isub X23.here hx rfl (hb hby at_112) rfl k) ?_
        show own_Fin p.tables e below _ (T23.setTop (mkF m 113 #[.val (.int k0), .val (.long q1), .second, .val (.int k2), .val (.long q3), .second, .val (.int kb), .val (.long mk), .second, .val (.long y4), .second, .val (.ref b5), .val (.int q), .unset, .unset, .unset, .unset, .unset] [(.int (q - (1 : Int32))), (.long (2 : Int64))]))
        refine own_step (fun _ k => XS.lshl X23.here hx rfl (hb hby at_113) rfl k) ?_
        show own_Fin p.tables e below _ (T23.setTop (mkF m 114 #[.val (.int k0), .val (.long q1), .second, .val (.int k2), .val (.long q3), .second, .val (.int kb), .val (.long mk), .second, .val (.long y4), .second, .val (.ref b5), .val (.int q), .unset, .unset, .unset, .unset, .unset] [(.long ((2 : Int64) <<< ((q - (1 : Int32)) &&& 0x3f).toInt64))]))
        refine own_step (fun _ k => XS.lload X23.here hx rfl (hb hby at_114) rfl k) ?_
        show own_Fin p.tables e below _ (T23.setTop (mkF m 116 #[.val (.int k0), .val (.long q1), .second, .val (.int k2), .val (.long q3), .second, .val (.int kb), .val (.long mk), .second, .val (.long y4), .second, .val (.ref b5), .val (.int q), .unset, .unset, .unset, .unset, .unset] [(.long mk), (.long ((2 : Int64) <<< ((q - (1 : Int32)) &&& 0x3f).toInt64))]))
        refine own_step (fun _ k => XS.lcmp X23.here hx rfl (hb hby at_116) rfl k) ?_
        show own_Fin p.tables e below _ (T23.setTop (mkF m 117 #[.val (.int k0), .val (.long q1), .second, .val (.int k2), .val (.long q3), .second, .val (.int kb), .val (.long mk), .second, .val (.long y4), .second, .val (.ref b5), .val (.int q), .unset, .unset, .unset, .unset, .unset] [(.int (lcmpW ((2 : Int64) <<< ((q - (1 : Int32)) &&& 0x3f).toInt64) mk))]))
        have ha42 : ((2 : Int64) <<< ((q - (1 : Int32)) &&& 0x3f).toInt64) < mk := by
          exact i3.resolve_left hc24
        refine own_step (fun _ k => XS.ifYes X23.here hx rfl (pc0 := 117) (pc' := 122) rfl (hb hby at_117) rfl ((if0 _ _).trans (tlt ((lw_lt _ _).mpr ha42)).1) (by decide) (by decide) k) ?_
        show own_Fin p.tables e below _ (T23.setTop (mkF m 122 #[.val (.int k0), .val (.long q1), .second, .val (.int k2), .val (.long q3), .second, .val (.int kb), .val (.long mk), .second, .val (.long y4), .second, .val (.ref b5), .val (.int q), .unset, .unset, .unset, .unset, .unset] []))
        exact J25 T23 _ X23 e23 N23
    by_cases hc21 : q = (kb - (1 : Int32))
    · refine own_step (fun _ k => XS.icmpYes X18.here hx rfl (pc0 := 84) (pc' := 101) rfl (hb hby at_84) rfl ((teq hc21).1) (by decide) (by decide) k) ?_
      show own_Fin p.tables e below _ (T18.setTop (mkF m 101 #[.val (.int k0), .val (.long q1), .second, .val (.int k2), .val (.long q3), .second, .val (.int kb), .val (.long mk), .second, .val (.long y4), .second, .val (.ref b5), .val (.int q), .unset, .unset, .unset, .unset, .unset] []))
      exact J22 T18 _ X18 e18 N18
    · refine own_step (fun _ k => XS.icmpNo X18.here hx rfl (hb hby at_84) rfl ((feq hc21).1) k) ?_
      show own_Fin p.tables e below _ (T18.setTop (mkF m 87 #[.val (.int k0), .val (.long q1), .second, .val (.int k2), .val (.long q3), .second, .val (.int kb), .val (.long mk), .second, .val (.long y4), .second, .val (.ref b5), .val (.int q), .unset, .unset, .unset, .unset, .unset] []))
      refine own_step (X18.ldc2Long hx hown (mvT hZ (hw _ (List.mem_of_getElem? (i := 34) rfl))) (g := (mkF m 87 #[.val (.int k0), .val (.long q1), .second, .val (.int k2), .val (.long q3), .second, .val (.int kb), .val (.long mk), .second, .val (.long y4), .second, .val (.ref b5), .val (.int q), .unset, .unset, .unset, .unset, .unset] [])) rfl (hb hby at_87)) ?_
      show own_Fin p.tables e below _ (T18.setTop (mkF m 90 #[.val (.int k0), .val (.long q1), .second, .val (.int k2), .val (.long q3), .second, .val (.int kb), .val (.long mk), .second, .val (.long y4), .second, .val (.ref b5), .val (.int q), .unset, .unset, .unset, .unset, .unset] [(.long (2 : Int64))]))
      refine own_step (fun _ k => XS.iload X18.here hx rfl (hb hby at_90) rfl k) ?_
      show own_Fin p.tables e below _ (T18.setTop (mkF m 92 #[.val (.int k0), .val (.long q1), .second, .val (.int k2), .val (.long q3), .second, .val (.int kb), .val (.long mk), .second, .val (.long y4), .second, .val (.ref b5), .val (.int q), .unset, .unset, .unset, .unset, .unset] [(.int q), (.long (2 : Int64))]))
      refine own_step (fun _ k => XS.lshl X18.here hx rfl (hb hby at_92) rfl k) ?_
      show own_Fin p.tables e below _ (T18.setTop (mkF m 93 #[.val (.int k0), .val (.long q1), .second, .val (.int k2), .val (.long q3), .second, .val (.int kb), .val (.long mk), .second, .val (.long y4), .second, .val (.ref b5), .val (.int q), .unset, .unset, .unset, .unset, .unset] [(.long ((2 : Int64) <<< (q &&& 0x3f).toInt64))]))
      refine own_step (fun _ k => XS.lload X18.here hx rfl (hb hby at_93) rfl k) ?_
      show own_Fin p.tables e below _ (T18.setTop (mkF m 95 #[.val (.int k0), .val (.long q1), .second, .val (.int k2), .val (.long q3), .second, .val (.int kb), .val (.long mk), .second, .val (.long y4), .second, .val (.ref b5), .val (.int q), .unset, .unset, .unset, .unset, .unset] [(.long mk), (.long ((2 : Int64) <<< (q &&& 0x3f).toInt64))]))
      refine own_step (fun _ k => XS.lcmp X18.here hx rfl (hb hby at_95) rfl k) ?_
      show own_Fin p.tables e below _ (T18.setTop (mkF m 96 #[.val (.int k0), .val (.long q1), .second, .val (.int k2), .val (.long q3), .second, .val (.int kb), .val (.long mk), .second, .val (.long y4), .second, .val (.ref b5), .val (.int q), .unset, .unset, .unset, .unset, .unset] [(.int (lcmpW ((2 : Int64) <<< (q &&& 0x3f).toInt64) mk))]))
      have ha43 : ¬ (((2 : Int64) <<< (q &&& 0x3f).toInt64) < mk) := by
        refine hex.resolve_right (fun h => h (Int32.lt_iff_toInt_lt.mpr ?_))
        have h1 := own_sub1 (n := kb) (by omega)
        have h2 : q.toInt ≠ (kb - (1 : Int32)).toInt := fun h => hc21 (Int32.toInt_inj.mp h)
        omega
      refine own_step (fun _ k => XS.ifYes X18.here hx rfl (pc0 := 96) (pc' := 101) rfl (hb hby at_96) rfl ((if0 _ _).trans (flt (fun q => ha43 ((lw_lt _ _).mp q))).2.1) (by decide) (by decide) k) ?_
      show own_Fin p.tables e below _ (T18.setTop (mkF m 101 #[.val (.int k0), .val (.long q1), .second, .val (.int k2), .val (.long q3), .second, .val (.int kb), .val (.long mk), .second, .val (.long y4), .second, .val (.ref b5), .val (.int q), .unset, .unset, .unset, .unset, .unset] []))
      exact J22 T18 _ X18 e18 N18
  by_cases hc1 : kb = (64 : Int32)
  · refine own_step (fun _ k => XS.icmpNo X0.here hx rfl (hb hby at_23) rfl ((teq hc1).2) k) ?_
    show own_Fin p.tables e below _ (s₁.setTop (mkF m 26 #[.val (.int k0), .val (.long q1), .second, .val (.int k2), .val (.long q3), .second, .val (.int kb), .val (.long mk), .second, .unset, .unset, .unset, .unset, .unset, .unset, .unset, .unset, .unset] []))
    refine own_step (fun _ k => XS.lload X0.here hx rfl (hb hby at_26) rfl k) ?_
    show own_Fin p.tables e below _ (s₁.setTop (mkF m 28 #[.val (.int k0), .val (.long q1), .second, .val (.int k2), .val (.long q3), .second, .val (.int kb), .val (.long mk), .second, .unset, .unset, .unset, .unset, .unset, .unset, .unset, .unset, .unset] [(.long q3)]))
    refine own_step (fun _ k => XS.goto X0.here hx rfl (pc0 := 28) (pc' := 40) rfl (hb hby at_28) (by decide) (by decide) k) ?_
    show own_Fin p.tables e below _ (s₁.setTop (mkF m 40 #[.val (.int k0), .val (.long q1), .second, .val (.int k2), .val (.long q3), .second, .val (.int kb), .val (.long mk), .second, .unset, .unset, .unset, .unset, .unset, .unset, .unset, .unset, .unset] [(.long q3)]))
    exact J2 s₁ _ q3 X0 e0 N0 (by rw [if_pos hc1])
  · refine own_step (fun _ k => XS.icmpYes X0.here hx rfl (pc0 := 23) (pc' := 31) rfl (hb hby at_23) rfl ((feq hc1).2) (by decide) (by decide) k) ?_
    show own_Fin p.tables e below _ (s₁.setTop (mkF m 31 #[.val (.int k0), .val (.long q1), .second, .val (.int k2), .val (.long q3), .second, .val (.int kb), .val (.long mk), .second, .unset, .unset, .unset, .unset, .unset, .unset, .unset, .unset, .unset] []))
    refine own_step (fun _ k => XS.lload X0.here hx rfl (hb hby at_31) rfl k) ?_
    show own_Fin p.tables e below _ (s₁.setTop (mkF m 33 #[.val (.int k0), .val (.long q1), .second, .val (.int k2), .val (.long q3), .second, .val (.int kb), .val (.long mk), .second, .unset, .unset, .unset, .unset, .unset, .unset, .unset, .unset, .unset] [(.long q3)]))
    refine own_step (fun _ k => XS.lconst X0.here hx rfl (hb hby at_33) k) ?_
    show own_Fin p.tables e below _ (s₁.setTop (mkF m 34 #[.val (.int k0), .val (.long q1), .second, .val (.int k2), .val (.long q3), .second, .val (.int kb), .val (.long mk), .second, .unset, .unset, .unset, .unset, .unset, .unset, .unset, .unset, .unset] [(.long (1 : Int64)), (.long q3)]))
    refine own_step (fun _ k => XS.iload X0.here hx rfl (hb hby at_34) rfl k) ?_
    show own_Fin p.tables e below _ (s₁.setTop (mkF m 36 #[.val (.int k0), .val (.long q1), .second, .val (.int k2), .val (.long q3), .second, .val (.int kb), .val (.long mk), .second, .unset, .unset, .unset, .unset, .unset, .unset, .unset, .unset, .unset] [(.int kb), (.long (1 : Int64)), (.long q3)]))
    refine own_step (fun _ k => XS.lshl X0.here hx rfl (hb hby at_36) rfl k) ?_
    show own_Fin p.tables e below _ (s₁.setTop (mkF m 37 #[.val (.int k0), .val (.long q1), .second, .val (.int k2), .val (.long q3), .second, .val (.int kb), .val (.long mk), .second, .unset, .unset, .unset, .unset, .unset, .unset, .unset, .unset, .unset] [(.long ((1 : Int64) <<< (kb &&& 0x3f).toInt64)), (.long q3)]))
    refine own_step (fun _ k => XS.lconst X0.here hx rfl (hb hby at_37) k) ?_
    show own_Fin p.tables e below _ (s₁.setTop (mkF m 38 #[.val (.int k0), .val (.long q1), .second, .val (.int k2), .val (.long q3), .second, .val (.int kb), .val (.long mk), .second, .unset, .unset, .unset, .unset, .unset, .unset, .unset, .unset, .unset] [(.long (1 : Int64)), (.long ((1 : Int64) <<< (kb &&& 0x3f).toInt64)), (.long q3)]))
    refine own_step (fun _ k => XS.lsub X0.here hx rfl (hb hby at_38) rfl k) ?_
    show own_Fin p.tables e below _ (s₁.setTop (mkF m 39 #[.val (.int k0), .val (.long q1), .second, .val (.int k2), .val (.long q3), .second, .val (.int kb), .val (.long mk), .second, .unset, .unset, .unset, .unset, .unset, .unset, .unset, .unset, .unset] [(.long (((1 : Int64) <<< (kb &&& 0x3f).toInt64) - (1 : Int64))), (.long q3)]))
    refine own_step (fun _ k => XS.land X0.here hx rfl (hb hby at_39) rfl k) ?_
    show own_Fin p.tables e below _ (s₁.setTop (mkF m 40 #[.val (.int k0), .val (.long q1), .second, .val (.int k2), .val (.long q3), .second, .val (.int kb), .val (.long mk), .second, .unset, .unset, .unset, .unset, .unset, .unset, .unset, .unset, .unset] [(.long (q3 &&& (((1 : Int64) <<< (kb &&& 0x3f).toInt64) - (1 : Int64))))]))
    exact J2 s₁ _ (q3 &&& (((1 : Int64) <<< (kb &&& 0x3f).toInt64) - (1 : Int64))) X0 e0 N0 (by rw [if_neg hc1])
set_option maxRecDepth 65536 in
set_option maxHeartbeats 40000000 in
theorem comes_1 {Post : Tables → Env → Array Value → State → Outcome → State → Prop} (hpost : ∀ tb e args s v u, (limb_1_1.after args s (.returned v) u = true ∧ limb_1_2.after args s (.returned v) u = true ∧ True) → FrameEnd s (.returned v) u (Jvm.fieldLocs frame_1_writes args s ++ Jvm.arrayLocs frame_1_arrays args s ++ Jvm.staticLocs frame_1_statics s) 16 128 → Post tb e args s (.returned v) u) :
    ArmFor flags0 classFile x code maxLocals ret World_1 tables_1 room_1 Calls_1 rest_1 Pre_1 Post := by
  intro l hfl _ _ p e ha hc hk s m args below hf hA hF happ hP
  obtain ⟨hcalls, hrest, hpre⟩ := hP
  obtain ⟨-, -, -, hnamed, -, -, -, hat⟩ := (Spec.applies_iff hf).mp happ
  obtain ⟨hg, hn⟩ := and_e (Cond.before_iff.mp (show (Jvm.Cond.and given_1 narrow_1).before args s = true from hpre))
  obtain ⟨g1, g2⟩ := and_e hg
  obtain ⟨g3, g4⟩ := and_e g2
  obtain ⟨g5, g6⟩ := and_e g4
  obtain ⟨g7, g8⟩ := and_e g6
  obtain ⟨w0, w1, w2, w3, rfl⟩ : ∃ w0 w1 w2 w3 : Value, args = #[w0, w1, w2, w3] := by
    have hs : args.size = 4 := by simpa [Cond.value, given_1] using g1
    obtain ⟨L⟩ := args
    match L, hs with
    | [w0, w1, w2, w3], _ => exact ⟨w0, w1, w2, w3, rfl⟩
  have hw := fun d (hd : d ∈ tables_1) => atoms_spec (ws := Jvm.Cond.code x code maxLocals ret :: tables_1) hat d (List.mem_cons_of_mem _ hd)
  have hfit : Fit s := fun {y c} hc i hi => by
    obtain ⟨ha, rfl⟩ := Array.getElem?_eq_some_iff.mp hc
    have q := List.all_eq_true.mp ((Array.all_eq_true_iff_forall_mem.mp hF) _ (Array.getElem_mem ha)) i (List.mem_range.mpr hi)
    simpa [Array.getElem?_eq_getElem hi] using q
  obtain ⟨i0, ei0⟩ := is_v g3
  obtain rfl : w0 = (.int i0) := Option.some.inj ei0
  obtain ⟨i1, ei1⟩ := isL_v g5
  obtain rfl : w1 = (.long i1) := Option.some.inj ei1
  obtain ⟨i2, ei2⟩ := is_v g7
  obtain rfl : w2 = (.int i2) := Option.some.inj ei2
  obtain ⟨i3, ei3⟩ := isL_v g8
  obtain rfl : w3 = (.long i3) := Option.some.inj ei3
  obtain ⟨n, o, h1, h2, h3, _, L, rfl, ⟨rfl, N⟩, hq⟩ := rm0 l s _ hw tables_1 i0 i1 i2 i3 s.heap s.heap.size (Nat.le_refl _)  p e ha hc hk s m _ below hf ((Spec.applies_iff_loose hf).mp happ).1 ⟨rfl, State.Warmed39.refl s, rfl⟩ trivial
  refine ⟨n, _, h1, h2, h3, hpost _ _ _ _ _ _ ⟨Cond.after_iff.mpr rfl, Cond.after_iff.mpr (eq_i res_at (Term.int_eval (1)) rfl), trivial⟩ ⟨hq.1, hq.2.1, (hq.2.2.sift fun y hy => Or.inr (N y hy)).mono (by decide) (by decide)⟩⟩
theorem main_1_1 : Claimed_1_1 := comes_1 fun _ _ _ _ _ _ h hF => ⟨h.1, hF⟩
theorem main_1_2 : Claimed_1_2 := comes_1 fun _ _ _ _ _ _ h hF => ⟨h.2.1, hF⟩
end Jvm.Pilot.@@N@@
namespace Jvm.Pilot.@@N@@
open Jvm Jvm.ClassFile Sem Op Lib Jvm.Free Jvm.Stand Jvm.Pilot.@@N@@.Jvm.D
/-! MADE BY PROGRAM (witnessworld.py) out of the Statement's table words and the real class files: 11 classes; the members and pool entries that the words name. The judged class is class 1, her method 1. -/
namespace start1
open Jvm.ClassFile
def u (s : String) : CpInfo := .utf8 (stringToUtf16 s)
/-- a pool by its gaps: so many unusable entries, then the entry; so many at the end -/
def gap : Nat → List CpInfo → List CpInfo
  | 0, r => r
  | n + 1, r => .unusable :: gap n r
def poolList (es : List (Nat × CpInfo)) (last : Nat) : List CpInfo := es.foldr (fun e r => gap e.1 (e.2 :: r)) (gap last [])
def pool (es : List (Nat × CpInfo)) (last : Nat) : Array CpInfo := ⟨poolList es last⟩
def fileOf (pool : Array CpInfo) (this : Nat) (attrs : Array Attribute := #[]) (ms : Array MethodInfo := #[]) (fl : Nat := 33) (sup : Nat := 0) (ifs : Array Nat := #[]) (fds : Array FieldInfo := #[]) : ClassFile where
  minorVersion := 0
  majorVersion := 65
  constantPool := pool
  accessFlags := fl
  thisClass := this
  superClass := sup
  interfaces := ifs
  fields := fds
  methods := ms
  attributes := attrs
def plain (name : String) (sup : Option ClassId) : Class where
  name := name
  kind := .ordinary
  loader := none
  accessFlags := 33
  super := sup
  interfaces := #[]
  cf := none
  fields := #[]
  methods := #[]
  instanceTypes := #[]
  staticTypes := #[]
  resolved := #[]
  callSites := []
  init := .initialized
  statics := none
  mirror := none

def pool0 : Array CpInfo := pool [(5, u "<init>"), (0, u "()V"), (1, .class_ 10), (1, u "java/lang/Object")] 113

def k0c0 : Code := { maxStack := 0, maxLocals := 1, code := object_method_1_code, exceptionTable := #[], attributes := #[] }
def k0m0 : Method := { name := "<init>", desc := "()V", sig := { parameters := [], returnType := none }, accessFlags := 1, code := some k0c0 }
/-- java/lang/Object -/
def k0 : Class := { plain "java/lang/Object" none with
  accessFlags := 33
  interfaces := #[]
  cf := some (fileOf pool0 8 #[] #[{ accessFlags := 1, nameIndex := 5, descriptorIndex := 6, attributes := #[] }] 33 0 #[] #[])
  fields := #[]
  methods := #[k0m0]
  instanceTypes := #[]
  staticTypes := #[]
  resolved := Array.replicate 124 none
  statics := none }

def pool1 : Array CpInfo := pool [(2, .class_ 4), (1, u "java/lang/Object"), (0, u "<init>"), (0, u "()V"), (0, .class_ 8), (0, u "com/example/streamgist/streamgist/dedup/FingerprintQueues"), (0, .methodref 7 10), (0, .nameAndType 5 11), (0, u "(IJ)V"), (0, .methodref 7 13), (0, .nameAndType 14 15), (0, u "quotientBits"), (0, u "()I"), (0, .long 2), (1, .methodref 7 19), (0, .nameAndType 20 21), (0, u "quotient"), (0, u "(J)J"), (0, .class_ 23), (0, u "com/example/streamgist/streamgist/dedup/FingerprintQueuesQuotientPinLaw"), (2, u "law"), (0, u "(IJIJ)Z")] 3

def k1m0 : Method := { name := "<init>", desc := "()V", sig := { parameters := [], returnType := none }, accessFlags := 1, code := none }
def k1c1 : Code := { maxStack := 7, maxLocals := 18, code := code, exceptionTable := #[], attributes := #[] }
def k1m1 : Method := { name := "law", desc := "(IJIJ)Z", sig := { parameters := [.int, .long, .int, .long], returnType := some .boolean }, accessFlags := 9, code := some k1c1 }
/-- com/example/streamgist/streamgist/dedup/FingerprintQueuesQuotientPinLaw -/
def k1 : Class := { plain "com/example/streamgist/streamgist/dedup/FingerprintQueuesQuotientPinLaw" (some 0) with
  accessFlags := 49
  interfaces := #[]
  cf := some (fileOf pool1 22 #[] #[{ accessFlags := 1, nameIndex := 5, descriptorIndex := 6, attributes := #[] }, { accessFlags := 9, nameIndex := 26, descriptorIndex := 27, attributes := #[] }] 49 2 #[] #[])
  fields := #[]
  methods := #[k1m0, k1m1]
  instanceTypes := #[]
  staticTypes := #[]
  resolved := Array.replicate 31 none
  statics := none }

def pool2 : Array CpInfo := pool [(1, .methodref 2 3), (0, .class_ 4), (0, .nameAndType 5 6), (0, u "java/lang/Object"), (0, u "<init>"), (0, u "()V"), (0, .class_ 8), (0, u "com/example/streamgist/streamgist/dedup/FingerprintQueues"), (0, .long 2), (1, .fieldref 7 12), (0, .nameAndType 13 14), (0, u "keyBits"), (0, u "I"), (0, .fieldref 7 16), (0, .nameAndType 17 14), (0, u "quotientBits"), (0, .class_ 19), (0, u "[J"), (0, .methodref 7 21), (0, .nameAndType 22 23), (0, u "emptyGroup"), (0, u "(I)[J"), (0, .fieldref 7 25), (0, .nameAndType 26 27), (0, u "groups"), (0, u "[[J"), (0, .fieldref 7 29), (0, .nameAndType 30 31), (0, u "words"), (0, u "J"), (2, u "quotient"), (0, u "(J)J"), (23, u "()I"), (6, u "bucketBits"), (23, .methodref 7 91), (0, .nameAndType 92 93), (0, u "keyWord"), (0, u "(JI)I"), (30, u "size"), (42, .long 63), (32, u "SELECT_IN_BYTE"), (0, u "[B"), (4, u "GROUP_BITS"), (2, u "MOST_MEAN_LOAD"), (1, u "COUNT_BITS"), (1, u "MOST_SPARE_WORDS"), (0, u "(IJ)V")] 31

def k2c0 : Code := { maxStack := 5, maxLocals := 5, code := prog_22_method_1_code, exceptionTable := #[], attributes := #[] }
def k2m0 : Method := { name := "<init>", desc := "(IJ)V", sig := { parameters := [.int, .long], returnType := none }, accessFlags := 0, code := some k2c0 }
def k2c1 : Code := { maxStack := 1, maxLocals := 1, code := prog_22_method_2_code, exceptionTable := #[], attributes := #[] }
def k2m1 : Method := { name := "quotientBits", desc := "()I", sig := { parameters := [], returnType := some .int }, accessFlags := 0, code := some k2c1 }
def k2c2 : Code := { maxStack := 4, maxLocals := 3, code := prog_22_method_3_code, exceptionTable := #[], attributes := #[] }
def k2m2 : Method := { name := "quotient", desc := "(J)J", sig := { parameters := [.long], returnType := some .long }, accessFlags := 0, code := some k2c2 }
def k2c3 : Code := { maxStack := 3, maxLocals := 1, code := prog_22_method_19_code, exceptionTable := #[], attributes := #[] }
def k2m3 : Method := { name := "emptyGroup", desc := "(I)[J", sig := { parameters := [.int], returnType := some (.array .long) }, accessFlags := 10, code := some k2c3 }
def k2c4 : Code := { maxStack := 4, maxLocals := 3, code := prog_22_method_21_code, exceptionTable := #[], attributes := #[] }
def k2m4 : Method := { name := "keyWord", desc := "(JI)I", sig := { parameters := [.long, .int], returnType := some .int }, accessFlags := 10, code := some k2c4 }
/-- com/example/streamgist/streamgist/dedup/FingerprintQueues -/
def k2 : Class := { plain "com/example/streamgist/streamgist/dedup/FingerprintQueues" (some 0) with
  accessFlags := 48
  interfaces := #[]
  cf := some (fileOf pool2 7 #[] #[{ accessFlags := 0, nameIndex := 5, descriptorIndex := 214, attributes := #[] }, { accessFlags := 0, nameIndex := 17, descriptorIndex := 59, attributes := #[] }, { accessFlags := 0, nameIndex := 34, descriptorIndex := 35, attributes := #[] }, { accessFlags := 10, nameIndex := 22, descriptorIndex := 23, attributes := #[] }, { accessFlags := 10, nameIndex := 92, descriptorIndex := 93, attributes := #[] }] 48 2 #[] #[{ accessFlags := 26, nameIndex := 206, descriptorIndex := 14, attributes := #[] }, { accessFlags := 26, nameIndex := 209, descriptorIndex := 14, attributes := #[] }, { accessFlags := 26, nameIndex := 211, descriptorIndex := 14, attributes := #[] }, { accessFlags := 26, nameIndex := 213, descriptorIndex := 14, attributes := #[] }, { accessFlags := 26, nameIndex := 200, descriptorIndex := 201, attributes := #[] }, { accessFlags := 18, nameIndex := 13, descriptorIndex := 14, attributes := #[] }, { accessFlags := 18, nameIndex := 17, descriptorIndex := 14, attributes := #[] }, { accessFlags := 2, nameIndex := 66, descriptorIndex := 14, attributes := #[] }, { accessFlags := 2, nameIndex := 26, descriptorIndex := 27, attributes := #[] }, { accessFlags := 2, nameIndex := 30, descriptorIndex := 31, attributes := #[] }, { accessFlags := 2, nameIndex := 124, descriptorIndex := 31, attributes := #[] }])
  fields := #[{ name := "GROUP_BITS", type := .int, accessFlags := 26, slot := 0, constantValue := 0 }, { name := "MOST_MEAN_LOAD", type := .int, accessFlags := 26, slot := 1, constantValue := 0 }, { name := "COUNT_BITS", type := .int, accessFlags := 26, slot := 2, constantValue := 0 }, { name := "MOST_SPARE_WORDS", type := .int, accessFlags := 26, slot := 3, constantValue := 0 }, { name := "SELECT_IN_BYTE", type := (.array .byte), accessFlags := 26, slot := 4, constantValue := 0 }, { name := "keyBits", type := .int, accessFlags := 18, slot := 0, constantValue := 0 }, { name := "quotientBits", type := .int, accessFlags := 18, slot := 1, constantValue := 0 }, { name := "bucketBits", type := .int, accessFlags := 2, slot := 2, constantValue := 0 }, { name := "groups", type := (.array (.array .long)), accessFlags := 2, slot := 3, constantValue := 0 }, { name := "words", type := .long, accessFlags := 2, slot := 4, constantValue := 0 }, { name := "size", type := .long, accessFlags := 2, slot := 5, constantValue := 0 }]
  methods := #[k2m0, k2m1, k2m2, k2m3, k2m4]
  instanceTypes := #[.int, .int, .int, (.array (.array .long)), .long, .long]
  staticTypes := #[.int, .int, .int, .int, (.array .byte)]
  resolved := Array.replicate 246 none
  statics := none }

def pool3 : Array CpInfo := pool [(1, u "java/lang/Cloneable"), (0, .class_ 1), (0, u "java/lang/Object"), (0, .class_ 3)] 3

/-- java/lang/Cloneable -/
def k3 : Class := { plain "java/lang/Cloneable" (some 0) with
  accessFlags := 1537
  interfaces := #[]
  cf := some (fileOf pool3 2 #[] #[] 1537 4 #[] #[])
  fields := #[]
  methods := #[]
  instanceTypes := #[]
  staticTypes := #[]
  resolved := Array.replicate 8 none
  statics := none }

def pool4 : Array CpInfo := pool [(1, u "java/io/Serializable"), (0, .class_ 1), (0, u "java/lang/Object"), (0, .class_ 3)] 3

/-- java/io/Serializable -/
def k4 : Class := { plain "java/io/Serializable" (some 0) with
  accessFlags := 1537
  interfaces := #[]
  cf := some (fileOf pool4 2 #[] #[] 1537 4 #[] #[])
  fields := #[]
  methods := #[]
  instanceTypes := #[]
  staticTypes := #[]
  resolved := Array.replicate 8 none
  statics := none }

/-- the primitive byte -/
def k5 : Class := { plain "byte" none with kind := .primitive 'B', accessFlags := 0x411 }
/-- [B -/
def k6 : Class := { plain "[B" (some 0) with kind := .array 5 .byte, interfaces := #[3, 4], accessFlags := 1041 }

/-- the primitive int -/
def k7 : Class := { plain "int" none with kind := .primitive 'I', accessFlags := 0x411 }
/-- [I -/
def k8 : Class := { plain "[I" (some 0) with kind := .array 7 .int, interfaces := #[3, 4], accessFlags := 1041 }

/-- the primitive long -/
def k9 : Class := { plain "long" none with kind := .primitive 'J', accessFlags := 0x411 }
/-- [J -/
def k10 : Class := { plain "[J" (some 0) with kind := .array 9 .long, interfaces := #[3, 4], accessFlags := 1041 }
def k11 : Class := { plain "[[J" (some 0) with kind := .array 10 (.array .long), interfaces := #[3, 4], accessFlags := 1041 }

def heap : Heap := #[]
def classes : Array Class := #[k0, k1, k2, k3, k4, k5, k6, k7, k8, k9, k10, k11]
def interned : List (Array UInt16 × Addr) := []
def slotsUsed : Nat := 0
def theMethod : MethodId := ⟨1, 1⟩
def args0 : Array Value := #[.int 1, .long 2, .int 3, .long 4]
def aboutOver (below : List Frame) : State where
  vm := { classes := classes, interned := interned.toArray }
  heap := heap
  slotsUsed := slotsUsed
  threads := #[{ frames := .invoking theMethod args0 :: below }]
def below0 : List Frame := [.native { method := ⟨0, 0⟩, args := #[] }]
def about1 : State := aboutOver below0
def p0 : Program := .bare "" "" ""
def e0 : Env := launch0.env 0 0 0
theorem w_frames : about1.frames = Frame.invoking theMethod args0 :: below0 := rfl
set_option maxRecDepth 65536 in
theorem w_args : argsFit about1.vm theMethod args0 = true := by decide +kernel
set_option maxRecDepth 65536 in
theorem w_heap : heapFits about1 = true := by decide +kernel
set_option maxRecDepth 65536 in
theorem w_runnable : about1.curStatus? = some .runnable := by decide +kernel
set_option maxRecDepth 65536 in
theorem w_alone : about1.alone = true := by decide +kernel
set_option maxRecDepth 65536 in
theorem w_named : about1.methodNamed? x = some theMethod := by decide +kernel
set_option maxRecDepth 65536 in
theorem w_hears : about1.hears theMethod below0 = true := by decide +kernel
set_option maxRecDepth 65536 in
theorem w_ripe : about1.ripe theMethod args0 below0 = true := by decide +kernel
theorem w_running : about1.status = .running := rfl
set_option maxRecDepth 65536 in
theorem w_room : about1.hasRoom e0.platform room_1 = true :=
  launch0.hasRoom_least _ room_1 (by decide +kernel) (by decide +kernel) (by decide +kernel) (by decide +kernel) (by decide +kernel) (by decide +kernel)
theorem allAtoms_all (ts : List Jvm.Cond) (a : Array Jvm.Value) (st : Jvm.State) : (allAtoms ts).before a st = ts.all (fun c => c.before a st) := by
  induction ts with
  | nil => rfl
  | cons c t ih =>
    show (Jvm.Cond.and c (allAtoms t)).before a st = _
    rw [Jvm.Cond.before_and, ih, List.all_cons]
def words1 : List Jvm.Cond := Jvm.Cond.code x code maxLocals ret :: tables_1
/-- a 'code' word, met by the world's own term for the bytes: nothing is compared byte by byte -/
theorem code_word {y : MethodName} {bytes : ByteArray} {mx : Nat} {rt : Option FieldType} {a : Array Value} {s : State} {m : MethodId} {meth : Method} {c : Code} (h1 : s.methodNamed? y = some m) (h2 : s.vm.method? m = some meth) (h3 : meth.code = some c) (h4 : c.code = bytes)
    (h5 : (c.maxLocals == mx && c.exceptionTable.isEmpty && decide (c.maxStack ≤ mostOperands) && decide (meth.sig.returnType = rt) && !meth.locks && decide (parseMethodDescriptor y.desc = some meth.sig)) = true) : (Jvm.Cond.code y bytes mx rt).before a s = true := by
  simp only [Bool.and_eq_true, beq_iff_eq, Bool.not_eq_true', decide_eq_true_eq] at h5
  obtain ⟨⟨⟨⟨⟨g1, g2⟩, g3⟩, g4⟩, g5⟩, g6⟩ := h5
  simp [Cond.before, Cond.holds, Cond.value, h1, h2, h3, h4, g1, g2, g3, g4, g5, g6]
def isCode : Jvm.Cond → Bool
  | .code _ _ _ _ => true
  | _ => false
theorem all_split {L : List Jvm.Cond} {P : Jvm.Cond → Bool} (h1 : L.all (fun c => isCode c || P c) = true) (h2 : ∀ c ∈ L.filter isCode, P c = true) : L.all P = true := by
  refine List.all_eq_true.mpr fun c hc => ?_
  have h := List.all_eq_true.mp h1 c hc
  rcases Bool.eq_false_or_eq_true (isCode c) with hi | hi
  · exact h2 c (List.mem_filter.mpr ⟨hc, hi⟩)
  · simpa [hi] using h
set_option maxRecDepth 65536 in
theorem w_c0 : (Jvm.Cond.code x code maxLocals ret).before args0 about1 = true := code_word (m := ⟨1, 1⟩) (meth := k1m1) (c := k1c1) (by decide +kernel) rfl rfl rfl (by decide +kernel)
set_option maxRecDepth 65536 in
theorem w_c1 : (Jvm.Cond.code ({ cls := "com/example/streamgist/streamgist/dedup/FingerprintQueues", name := "<init>", desc := "(IJ)V" } : Jvm.MethodName) prog_22_method_1_code (5 : Nat) (Option.none : Option Jvm.ClassFile.FieldType)).before args0 about1 = true := code_word (m := ⟨2, 0⟩) (meth := k2m0) (c := k2c0) (by decide +kernel) rfl rfl rfl (by decide +kernel)
set_option maxRecDepth 65536 in
theorem w_c2 : (Jvm.Cond.code ({ cls := "java/lang/Object", name := "<init>", desc := "()V" } : Jvm.MethodName) object_method_1_code (1 : Nat) (Option.none : Option Jvm.ClassFile.FieldType)).before args0 about1 = true := code_word (m := ⟨0, 0⟩) (meth := k0m0) (c := k0c0) (by decide +kernel) rfl rfl rfl (by decide +kernel)
set_option maxRecDepth 65536 in
theorem w_c3 : (Jvm.Cond.code ({ cls := "com/example/streamgist/streamgist/dedup/FingerprintQueues", name := "emptyGroup", desc := "(I)[J" } : Jvm.MethodName) prog_22_method_19_code (1 : Nat) (Option.some (Jvm.ClassFile.FieldType.array Jvm.ClassFile.FieldType.long))).before args0 about1 = true := code_word (m := ⟨2, 3⟩) (meth := k2m3) (c := k2c3) (by decide +kernel) rfl rfl rfl (by decide +kernel)
set_option maxRecDepth 65536 in
theorem w_c4 : (Jvm.Cond.code ({ cls := "com/example/streamgist/streamgist/dedup/FingerprintQueues", name := "keyWord", desc := "(JI)I" } : Jvm.MethodName) prog_22_method_21_code (3 : Nat) (Option.some Jvm.ClassFile.FieldType.int)).before args0 about1 = true := code_word (m := ⟨2, 4⟩) (meth := k2m4) (c := k2c4) (by decide +kernel) rfl rfl rfl (by decide +kernel)
set_option maxRecDepth 65536 in
theorem w_c5 : (Jvm.Cond.code ({ cls := "com/example/streamgist/streamgist/dedup/FingerprintQueues", name := "quotientBits", desc := "()I" } : Jvm.MethodName) prog_22_method_2_code (1 : Nat) (Option.some Jvm.ClassFile.FieldType.int)).before args0 about1 = true := code_word (m := ⟨2, 1⟩) (meth := k2m1) (c := k2c1) (by decide +kernel) rfl rfl rfl (by decide +kernel)
set_option maxRecDepth 65536 in
theorem w_c6 : (Jvm.Cond.code ({ cls := "com/example/streamgist/streamgist/dedup/FingerprintQueues", name := "quotient", desc := "(J)J" } : Jvm.MethodName) prog_22_method_3_code (3 : Nat) (Option.some Jvm.ClassFile.FieldType.long)).before args0 about1 = true := code_word (m := ⟨2, 2⟩) (meth := k2m2) (c := k2c2) (by decide +kernel) rfl rfl rfl (by decide +kernel)
def codes1 : List Jvm.Cond := [Jvm.Cond.code x code maxLocals ret, Jvm.Cond.code ({ cls := "com/example/streamgist/streamgist/dedup/FingerprintQueues", name := "<init>", desc := "(IJ)V" } : Jvm.MethodName) prog_22_method_1_code (5 : Nat) (Option.none : Option Jvm.ClassFile.FieldType), Jvm.Cond.code ({ cls := "java/lang/Object", name := "<init>", desc := "()V" } : Jvm.MethodName) object_method_1_code (1 : Nat) (Option.none : Option Jvm.ClassFile.FieldType), Jvm.Cond.code ({ cls := "com/example/streamgist/streamgist/dedup/FingerprintQueues", name := "emptyGroup", desc := "(I)[J" } : Jvm.MethodName) prog_22_method_19_code (1 : Nat) (Option.some (Jvm.ClassFile.FieldType.array Jvm.ClassFile.FieldType.long)), Jvm.Cond.code ({ cls := "com/example/streamgist/streamgist/dedup/FingerprintQueues", name := "keyWord", desc := "(JI)I" } : Jvm.MethodName) prog_22_method_21_code (3 : Nat) (Option.some Jvm.ClassFile.FieldType.int), Jvm.Cond.code ({ cls := "com/example/streamgist/streamgist/dedup/FingerprintQueues", name := "quotientBits", desc := "()I" } : Jvm.MethodName) prog_22_method_2_code (1 : Nat) (Option.some Jvm.ClassFile.FieldType.int), Jvm.Cond.code ({ cls := "com/example/streamgist/streamgist/dedup/FingerprintQueues", name := "quotient", desc := "(J)J" } : Jvm.MethodName) prog_22_method_3_code (3 : Nat) (Option.some Jvm.ClassFile.FieldType.long)]
set_option maxRecDepth 65536 in
theorem codes_eq : words1.filter isCode = codes1 := rfl
theorem w_codes : ∀ c ∈ words1.filter isCode, c.before args0 about1 = true := by
  rw [codes_eq]
  intro c hc
  simp only [codes1, List.mem_cons, List.not_mem_nil, or_false] at hc
  rcases hc with rfl | rfl | rfl | rfl | rfl | rfl | rfl
  · exact w_c0
  · exact w_c1
  · exact w_c2
  · exact w_c3
  · exact w_c4
  · exact w_c5
  · exact w_c6
set_option maxRecDepth 65536 in
theorem w_t1 : (words1.take 24).all (fun c => isCode c || c.before args0 about1) = true := by decide +kernel
set_option maxRecDepth 65536 in
theorem w_t2 : (words1.drop 24).all (fun c => isCode c || c.before args0 about1) = true := by decide +kernel
theorem w_tables : (allAtoms (Jvm.Cond.code x code maxLocals ret :: tables_1)).before args0 about1 = true := by
  rw [allAtoms_all]
  show words1.all (fun c => c.before args0 about1) = true
  refine all_split ?_ w_codes
  rw [← List.take_append_drop 24 words1, List.all_append, w_t1, w_t2]
  rfl
set_option maxRecDepth 65536 in
theorem w_case : (Jvm.Cond.and given_1 narrow_1).before args0 about1 = true := by decide +kernel
theorem w_applies : (headSpec (Jvm.Cond.code x code maxLocals ret :: tables_1) room_1).applies x e0.platform about1 = true :=
  (Spec.applies_iff w_frames).mpr ⟨w_running, w_runnable, w_alone, w_named, w_hears, w_ripe, w_room, w_tables⟩
theorem atStart : AtStart classFile x code maxLocals ret World_1 tables_1 room_1 Calls_1 rest_1 Pre_1 launch0 p0 e0 about1 theMethod args0 below0 :=
  ⟨lists_1, trivial, launch0.admits_env _ _ _, launch0.least_env, fairChoices_fair.cas, fairChoices_fair.clock, w_frames, w_args, w_heap, w_applies, trivial, trivial, w_case⟩
end start1
theorem witness_1 : WitnessClaimed_1 := ⟨start1.p0, start1.e0, start1.about1, start1.theMethod, start1.args0, start1.below0, start1.atStart⟩
end Jvm.Pilot.@@N@@
