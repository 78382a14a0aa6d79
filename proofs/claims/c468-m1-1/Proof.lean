import JvmDerived
import JvmDerived.Pilot.@@N@@Statement
import JvmDerived.Pilot.@@N@@Code
set_option linter.unusedVariables false
set_option linter.unusedSimpArgs false
namespace Jvm.RoadKit
open Sem ClassFile Op Lib Jvm.Stand Jvm.Free Jvm.LawKit
section New
variable {p : Program} {l : Launch} {e : Env} {R : Room} {s : State} {m : MethodId} {args : Array Value} {below : List Frame} {meth : Method} {c : Code} {T : State} {locs : List Loc} {cells slots : Nat}
theorem retI (X : Stand p l e R s m args below meth c T locs cells slots) (hx : p.tables.exec = Jvm.exec) {pc : Nat} {Ls : Array Slot} {z : Int32} {rest : List Value} (hret : meth.sig.returnType = some .int) (hd : decode c.code pc = .ok (.ireturn, 1)) {fs : List Frame}
    (hl : ∀ (f : JFrame) (acts : List Action), f.method = m → f.locked = none → f.entered = [] → (doReturn e (T.setTop f) acts (some (.int z))).1 = T.setFrames fs) : Steps p.tables e below (T.setTop (mkF m pc Ls (.int z :: rest))) (T.setFrames fs) := by
  have hm' : T.vm.method? m = some meth := X.method'
  have hn : narrow .int (.int z) = .int z := rfl
  show Steps p.tables e below (T.setTop { method := m, pc := pc, locals := Ls, stack := _ :: rest, locked := none }) _
  jvm_step X.here [X.here.top, hx, hd, hm', hret, hn]
  first | (intro acts; rw [hl _ acts rfl rfl rfl]) | rw [hl _ _ rfl rfl rfl]
  exact Steps.refl _
theorem own_retJ (X : Stand p l e R s m args below meth c T locs cells slots) (hx : p.tables.exec = Jvm.exec) {pc : Nat} {Ls : Array Slot} {z : Int64} {rest : List Value} (hret : meth.sig.returnType = some .long) (hd : decode c.code pc = .ok (.lreturn, 1)) {fs : List Frame}
    (hl : ∀ (f : JFrame) (acts : List Action), f.method = m → f.locked = none → f.entered = [] → (doReturn e (T.setTop f) acts (some (.long z))).1 = T.setFrames fs) : Steps p.tables e below (T.setTop (mkF m pc Ls (.long z :: rest))) (T.setFrames fs) := by
  have hm' : T.vm.method? m = some meth := X.method'
  have hn : narrow .long (.long z) = .long z := rfl
  show Steps p.tables e below (T.setTop { method := m, pc := pc, locals := Ls, stack := _ :: rest, locked := none }) _
  jvm_step X.here [X.here.top, hx, hd, hm', hret, hn]
  first | (intro acts; rw [hl _ acts rfl rfl rfl]) | rw [hl _ _ rfl rfl rfl]
  exact Steps.refl _
end New
end Jvm.RoadKit
namespace Jvm.Pilot.@@N@@
open Jvm Jvm.ClassFile Sem Op Lib Jvm.Free Jvm.Stand Jvm.LawKit Jvm.RoadKit Bundle Jvm.Pilot.@@N@@.Jvm.D
def own_Fin (tb : Tables) (e : Env) (below : List Frame) (P : Outcome → State → Prop) (S : State) : Prop := ∃ s₂ o, Steps tb e below S s₂ ∧ s₂.status = .running ∧ Ended s₂ below o ∧ P o s₂
theorem own_step {tb : Tables} {e : Env} {below : List Frame} {P : Outcome → State → Prop} {A B : State} (h : ∀ t, Steps tb e below B t → Steps tb e below A t) (k : own_Fin tb e below P B) : own_Fin tb e below P A := by
  obtain ⟨s₂, o, h1, h2⟩ := k; exact ⟨s₂, o, h _ h1, h2⟩
theorem own_steps {tb : Tables} {e : Env} {below : List Frame} {P : Outcome → State → Prop} {A B : State} (h : Steps tb e below A B) (k : own_Fin tb e below P B) : own_Fin tb e below P A := by
  obtain ⟨s₂, o, h1, h2⟩ := k; exact ⟨s₂, o, h.trans h1, h2⟩
theorem own_ret {tb : Tables} {e : Env} {below : List Frame} {P : Outcome → State → Prop} {S s₂ : State} {o : Outcome} (h : Steps tb e below S s₂) (h1 : s₂.status = .running) (h2 : Ended s₂ below o) (h3 : P o s₂) : own_Fin tb e below P S := ⟨s₂, o, h, h1, h2, h3⟩
theorem own_enter {tb : Tables} {e : Env} {below : List Frame} {P : Outcome → State → Prop} {T : State} {g g' : JFrame} (q : g = g') (k : own_Fin tb e below P (T.setTop g')) : ∃ s₂ o, Steps tb e below (T.setTop g) s₂ ∧ s₂.status = .running ∧ Ended s₂ below o ∧ P o s₂ := q ▸ k
def own_Two (a b : Slot) : Prop := (a = .unset ∧ b = .unset) ∨ ∃ v : Int64, a = .val (.long v) ∧ b = .second
theorem own_Two.u : own_Two .unset .unset := Or.inl ⟨rfl, rfl⟩
theorem own_Two.l {v : Int64} : own_Two (.val (.long v)) .second := Or.inr ⟨v, rfl, rfl⟩
def own_Arf (Z : State) (h : Heap) (a : Addr) (ty : FieldType) (n : Nat) (f : Nat → Value) : Prop := ∃ cl : Cell, Arr Z h a cl ty ∧ cl.slots.size = n ∧ ∀ i, i < n → cl.slots[i]? = some (f i)
def own_upd {α : Type} (g : Nat → α) (j : Nat) (v : α) : Nat → α := fun i => if i = j then v else g i
section OwnArr
variable {Z : State} {h h' : Heap} {a b : Addr} {ty : FieldType} {n : Nat} {f : Nat → Value} {v : Value} {sl : Nat} {ws : List Addr}
theorem own_Arf.lt (F : own_Arf Z h a ty n f) : a < h.size := by obtain ⟨c, A, -⟩ := F; exact A.lt
theorem own_Arf.ext (F : own_Arf Z h a ty n f) (E : Ext h h') : own_Arf Z h' a ty n f := by obtain ⟨c, A, r⟩ := F; exact ⟨c, A.ext E, r⟩
theorem own_Arf.other (F : own_Arf Z h b ty n f) (W : Wr h h' a sl v) (q : b ≠ a) : own_Arf Z h' b ty n f := by obtain ⟨c, A, r⟩ := F; exact ⟨c, A.other W q, r⟩
theorem own_Arf.keep (F : own_Arf Z h a ty n f) (K : Keep h h' ws) (q : a ∉ ws) : own_Arf Z h' a ty n f := by obtain ⟨c, A, r⟩ := F; exact ⟨c, ⟨K.2.1 a c A.1 q, A.2⟩, r⟩
theorem own_Arf.set (F : own_Arf Z h a ty n f) (W : Wr h h' a sl v) : own_Arf Z h' a ty n (fun i => if i = sl then v else f i) := by
  obtain ⟨c, A, S, H⟩ := F
  obtain ⟨c', e1, -, -, e4, -, e6, e7⟩ := wr_at W A.1
  have e8 := (e7 rfl).2.1
  refine ⟨c', ⟨e1, ?_, ?_⟩, by rw [e4, S], fun i hi => ?_⟩
  · rw [(e7 rfl).1]; exact (A.same W).2.1
  · rw [(e7 rfl).1]; exact (A.same W).2.2
  · show c'.slots[i]? = some (if i = sl then v else f i)
    by_cases q : i = sl
    · rw [if_pos q, q]; exact e8
    · rw [if_neg q, e6 _ q]; exact H i hi
theorem own_Arf.setI {g : Nat → Int32} {x : Int32} (F : own_Arf Z h a ty n (fun i => .int (g i))) (W : Wr h h' a sl (.int x)) : own_Arf Z h' a ty n (fun i => .int (own_upd g sl x i)) := by
  have q := F.set W
  have e : (fun i => Value.int (own_upd g sl x i)) = (fun i => if i = sl then Value.int x else Value.int (g i)) := by funext i; unfold own_upd; split <;> rfl
  rw [e]; exact q
theorem own_Arf.setJ {g : Nat → Int64} {x : Int64} (F : own_Arf Z h a ty n (fun i => .long (g i))) (W : Wr h h' a sl (.long x)) : own_Arf Z h' a ty n (fun i => .long (own_upd g sl x i)) := by
  have q := F.set W
  have e : (fun i => Value.long (own_upd g sl x i)) = (fun i => if i = sl then Value.long x else Value.long (g i)) := by funext i; unfold own_upd; split <;> rfl
  rw [e]; exact q
theorem own_Arf.ofI {k : ClassId} {z : Int32} {vs : List Value} (V : Arv Z h a k ty z vs (.int 0)) (l : List Int32) (hl : vs = l.map Value.int) (hz : z.toNatClampNeg = n) : own_Arf Z h a ty n (fun i => .int (l.getD i 0)) := by
  obtain ⟨c, A, -, S, -, H, -⟩ := V
  refine ⟨c, A, S.trans hz, fun i hi => ?_⟩
  rw [H i (by rw [S, hz]; exact hi), hl]
  simp only [List.getD, List.getElem?_map]
  cases l[i]? <;> rfl
theorem own_Arf.ofJ {k : ClassId} {z : Int32} {vs : List Value} (V : Arv Z h a k ty z vs (.long 0)) (l : List Int64) (hl : vs = l.map Value.long) (hz : z.toNatClampNeg = n) : own_Arf Z h a ty n (fun i => .long (l.getD i 0)) := by
  obtain ⟨c, A, -, S, -, H, -⟩ := V
  refine ⟨c, A, S.trans hz, fun i hi => ?_⟩
  rw [H i (by rw [S, hz]; exact hi), hl]
  simp only [List.getD, List.getElem?_map]
  cases l[i]? <;> rfl
theorem own_in {c : Cell} {j : Int32} (S : c.slots.size = n) (q : 0 ≤ j.toInt ∧ j.toInt < n) : ¬ (j < 0 ∨ c.slots.size ≤ j.toNatClampNeg) := by
  rw [S]; simp only [Int32.lt_iff_toInt_lt, Int32.toNatClampNeg, Int32.reduceToInt]; omega
theorem own_in2 {j : Int32} (q : 0 ≤ j.toInt ∧ j.toInt < n) : j.toNatClampNeg < n := by simp only [Int32.toNatClampNeg]; omega
end OwnArr
theorem own_dload {tb : Tables} [Ours tb] {e : Env} {below : List Frame} {T target : State} {m : MethodId} {c : Code} {g : JFrame} (h : At T m c below) (hx : tb.exec = Jvm.exec) (hg : g.method = m) {k : Nat} {v : UInt64} (hd : decode c.code g.pc = .ok (.dload k, 2)) (hl : g.locals[k]? = some (.val (.double v)))
    (hr : Steps tb e below (T.setTop { g with pc := g.pc + 2, stack := .double v :: g.stack }) target) : Steps tb e below (T.setTop g) target := by
  subst hg
  jvm_step h [h.top, hx, hd, hl]
  exact hr
theorem own_dconst {tb : Tables} [Ours tb] {e : Env} {below : List Frame} {T target : State} {m : MethodId} {c : Code} {g : JFrame} (h : At T m c below) (hx : tb.exec = Jvm.exec) (hg : g.method = m) (hd : decode c.code g.pc = .ok (.dconst 0, 1))
    (hr : Steps tb e below (T.setTop { g with pc := g.pc + 1, stack := .double 0 :: g.stack }) target) : Steps tb e below (T.setTop g) target := by
  subst hg
  jvm_step h [h.top, hx, hd]
  exact hr
theorem own_sub1 {n : Int32} (h : 0 < n.toInt) : (n - 1).toInt = n.toInt - 1 := by
  have := c_isub n 1; have := rng32 n; have := rng32 (n - 1); have : (1 : Int32).toInt = 1 := by decide
  omega
theorem own_add1 {n : Int32} (h : n.toInt < 1000) : (n + 1).toInt = n.toInt + 1 := by
  have := c_iadd n 1; have := rng32 n; have := rng32 (n + 1); have : (1 : Int32).toInt = 1 := by decide
  omega
theorem own_addsub (q : Int32) : (q + (1 : Int32)) - (1 : Int32) = q := by
  apply Int32.toInt_inj.mp
  have h1 := c_iadd q 1; have h2 := c_isub (q + 1) 1; have h3 := rng32 q; have h4 := rng32 (q + 1 - 1); have : (1 : Int32).toInt = 1 := by decide
  omega
theorem own_rem {x y : Int32} (hx : 0 ≤ x.toInt) (hy : 0 < y.toInt) : 0 ≤ (x - (x / y) * y).toInt ∧ (x - (x / y) * y).toInt < y.toInt := by
  have hr : x - (x / y) * y = x % y := by
    apply Int32.toInt_inj.mp
    have h1 := c_isub x (x / y * y); have h2 := c_imul (x / y) y; have h3 := rng32 (x - x / y * y)
    have h4 : y ≠ -1 := fun q => by rw [q] at hy; revert hy; decide
    have h5 := (c_idiv x y y.toInt rfl h4).1 hx; have h6 := (c_irem x y y.toInt rfl).1 hx
    have h7 := Int.emod_add_mul_ediv x.toInt y.toInt; have h8 := Int.emod_nonneg x.toInt (show y.toInt ≠ 0 by omega); have h9 := Int.emod_lt_of_pos x.toInt hy; have h10 := rng32 y
    rw [h5] at h2
    have h11 : y.toInt * (x.toInt / y.toInt) = x.toInt / y.toInt * y.toInt := Int.mul_comm _ _
    rw [h6]; omega
  rw [hr]
  have := (c_iremV x y).1 hx hy
  exact ⟨this.1, this.2.1⟩
theorem own_q64 {q : Int32} (h0 : 0 ≤ q.toInt) (h1 : q.toInt < 64) : q.toBitVec.toNat % 64 = q.toInt.toNat := by
  have h : q.toInt = q.toBitVec.toInt := rfl
  have h2 := q.toBitVec.isLt
  rw [BitVec.toInt_eq_toNat_cond] at h
  split at h <;> omega
theorem own_shl (x : Int64) {q : Int32} (h0 : 0 ≤ q.toInt) (h1 : q.toInt < 64) : (x <<< (q &&& 0x3f).toInt64).toBitVec = x.toBitVec <<< q.toInt.toNat := by
  have k := own_q64 h0 h1
  show x.toBitVec <<< ((q &&& 0x3f).toInt64.toBitVec.smod 64) = _
  rw [BitVec.shiftLeft_eq', (sm64 q _ k).1, smod64 _ (sm64 q _ k).2]
theorem own_shr (x : Int64) {q : Int32} (h0 : 0 ≤ q.toInt) (h1 : q.toInt < 64) : ((x.toUInt64 >>> (q &&& 0x3f).toInt64.toUInt64).toInt64).toBitVec = x.toBitVec >>> q.toInt.toNat := by
  have k := own_q64 h0 h1
  show x.toBitVec >>> ((q &&& 0x3f).toInt64.toBitVec % 64) = _
  rw [BitVec.ushiftRight_eq', BitVec.toNat_umod, (sm64 q _ k).1, BitVec.toNat_ofNat]
  congr 1
  show q.toInt.toNat % 2 ^ 64 % 64 = _
  omega
theorem own_pos {x : Int64} (h : x.toBitVec.toNat < 2 ^ 63) : x.toInt = x.toBitVec.toNat := by
  show x.toBitVec.toInt = _
  rw [BitVec.toInt_eq_toNat_cond, if_pos (by omega)]
theorem own_subr {a b : Int32} {A B : Int} (ha : a.toInt = A) (hb : b.toInt = B) (h1 : 0 ≤ A) (h2 : A ≤ 1000) (h3 : 0 ≤ B) (h4 : B ≤ 1000) : (a - b).toInt = A - B := by
  have := c_isub a b; have := rng32 (a - b); omega
theorem own_addr {a b : Int32} {A B : Int} (ha : a.toInt = A) (hb : b.toInt = B) (h1 : 0 ≤ A) (h2 : A ≤ 2000) (h3 : 0 ≤ B) (h4 : B ≤ 2000) : (a + b).toInt = A + B := by
  have := c_iadd a b; have := rng32 (a + b); omega
theorem own_clamp {n : Int32} (h : 0 ≤ n.toInt) : (n.toNatClampNeg : Int) = n.toInt := by simp only [Int32.toNatClampNeg]; omega
theorem own_lt {a b : Int32} : a < b ↔ a.toInt < b.toInt := Int32.lt_iff_toInt_lt
theorem own_ne0 {v : Int32} (h : 0 < v.toInt) : v ≠ 0 := fun q => by rw [q] at h; revert h; decide
theorem own_d (x : Int64) : 0 ≤ ((x &&& (255 : Int64)).toInt32).toInt ∧ ((x &&& (255 : Int64)).toInt32).toInt ≤ 255 := by
  have h1 := c_maskL x 255 8 (by decide) (by decide)
  have h2 := c_l2i (x &&& 255); have h3 := rng32 ((x &&& 255).toInt32)
  have : ((2 ^ 8 : Nat) : Int) = 256 := rfl
  rw [this] at h1; omega
theorem own_nx {c d : Int32} {x : Int64} (h : d = ((c + (1 : Int32)) + ((x &&& (255 : Int64)).toInt32))) (h0 : 0 ≤ c.toInt) (h1 : c.toInt ≤ 1100) : c.toInt < d.toInt ∧ d.toInt ≤ c.toInt + 256 := by
  have e := own_d x; have e1 : (1 : Int32).toInt = 1 := by decide
  have a1 := own_addr (a := c) rfl e1 h0 (by omega) (by omega) (by omega)
  have a2 := own_addr (a := c + 1) (b := (x &&& (255 : Int64)).toInt32) a1 rfl (by omega) (by omega) e.1 (by omega)
  rw [h]; omega
def own_bel (g : Nat → Int32) (n k col : Int32) : Int32 := if k < n then (if g (k).toNatClampNeg < col then 1 else 0) else 0
theorem own_mid0 {a b : Int32} (ha : 0 ≤ a.toInt) (hb : 0 ≤ b.toInt) (ha' : a.toInt < 1000) (hb' : b.toInt < 1000) : (((a + b).toUInt32 >>> ((1 : Int32) &&& 31).toUInt32).toInt32).toInt = (a.toInt + b.toInt) / 2 := by
  rw [c_iushr _ _ 1 (by decide) (by decide), own_addr rfl rfl ha (by omega) hb (by omega)]
  have e : ((2 ^ 1 : Nat) : Int) = 2 := rfl
  rw [e]; omega
def own_sorted (cf : Nat → Int32) (a b : Int32) : Prop := ∀ i j : Nat, a.toInt ≤ i → i ≤ j → (j : Int) < b.toInt → (cf i).toInt ≤ (cf j).toInt
theorem own_fa_lo {cf : Nat → Int32} {col lo0 hi0 lo md : Int32} (hs : own_sorted cf lo0 hi0) (h0 : 0 ≤ md.toInt) (h1 : md.toInt < hi0.toInt) (hb : hi0.toInt ≤ 100) (hm : cf (md).toNatClampNeg < col) :
    ∀ i : Nat, lo0.toInt ≤ i → (i : Int) < (md + (1 : Int32)).toInt → cf i < col := by
  intro i q1 q2
  have e1 : (1 : Int32).toInt = 1 := by decide
  have a1 := own_addr (a := md) rfl e1 h0 (by omega) (by omega) (by omega)
  have c := own_clamp h0
  have := hs i md.toNatClampNeg q1 (by omega) (by omega)
  have := own_lt.mp hm
  exact own_lt.mpr (by omega)
theorem own_fa_hi {cf : Nat → Int32} {col lo0 hi0 md : Int32} (hs : own_sorted cf lo0 hi0) (h0 : 0 ≤ md.toInt) (h1 : lo0.toInt ≤ md.toInt) (hm : ¬ cf (md).toNatClampNeg < col) :
    ∀ i : Nat, md.toInt ≤ i → (i : Int) < hi0.toInt → ¬ cf i < col := by
  intro i q1 q2 q3
  have c := own_clamp h0
  have := hs md.toNatClampNeg i (by omega) (by omega) q2
  have := mt own_lt.mpr hm; have := own_lt.mp q3
  omega
set_option maxHeartbeats 4000000 in
theorem own_sum {res sta nt bd col : Int32} {g cf : Nat → Int32} (hs0 : 0 ≤ sta.toInt) (hs1 : sta.toInt ≤ 5) (hn0 : 0 ≤ nt.toInt) (hn1 : nt.toInt ≤ 5) (hbd : bd.toInt = sta.toInt + nt.toInt) (h1 : sta.toInt ≤ res.toInt) (h2 : res.toInt ≤ bd.toInt)
    (hcf : ∀ k : Nat, (k : Int) < nt.toInt → cf (sta.toInt.toNat + k) = g k) (hlt : ∀ i : Nat, sta.toInt ≤ i → (i : Int) < res.toInt → cf i < col) (hge : ∀ i : Nat, res.toInt ≤ i → (i : Int) < bd.toInt → ¬ cf i < col) :
    res = (((((sta + (own_bel g nt (0 : Int32) col)) + (own_bel g nt (1 : Int32) col)) + (own_bel g nt (2 : Int32) col)) + (own_bel g nt (3 : Int32) col)) + (own_bel g nt (4 : Int32) col)) := by
  have bel : ∀ (kk : Int32) (k : Nat), kk.toInt = k → k < 5 → (own_bel g nt kk col).toInt = if (k : Int) < res.toInt - sta.toInt then 1 else 0 := fun kk k hk h5 => by
    have c := own_clamp (n := kk) (by omega)
    have ck : kk.toNatClampNeg = k := by omega
    unfold own_bel
    by_cases q : kk < nt
    · have q' := own_lt.mp q
      rw [if_pos q, ck, ← hcf k (by omega)]
      by_cases q2 : (k : Int) < res.toInt - sta.toInt
      · rw [if_pos (hlt _ (by omega) (by omega)), if_pos q2]; rfl
      · rw [if_neg (hge _ (by omega) (by omega)), if_neg q2]; rfl
    · have q' := mt own_lt.mpr q
      rw [if_neg q, if_neg (by omega)]; rfl
  have b0 := bel 0 0 (by decide) (by decide)
  have b1 := bel 1 1 (by decide) (by decide)
  have b2 := bel 2 2 (by decide) (by decide)
  have b3 := bel 3 3 (by decide) (by decide)
  have b4 := bel 4 4 (by decide) (by decide)
  have r : ∀ k : Nat, 0 ≤ (if (k : Int) < res.toInt - sta.toInt then (1 : Int) else 0) ∧ (if (k : Int) < res.toInt - sta.toInt then (1 : Int) else 0) ≤ 1 := fun k => by split <;> decide
  have r0 := r 0; have r1 := r 1; have r2 := r 2; have r3 := r 3; have r4 := r 4
  have s0 := own_addr (a := sta) rfl b0 hs0 (by omega) r0.1 (by omega)
  have s1 := own_addr s0 b1 (by omega) (by omega) r1.1 (by omega)
  have s2 := own_addr s1 b2 (by omega) (by omega) r2.1 (by omega)
  have s3 := own_addr s2 b3 (by omega) (by omega) r3.1 (by omega)
  have s4 := own_addr s3 b4 (by omega) (by omega) r4.1 (by omega)
  apply Int32.toInt_inj.mp
  rw [s4]
  clear s4 s3 s2 s1 s0 b0 b1 b2 b3 b4 bel r r0 r1 r2 r3 r4
  have hc : res.toInt - sta.toInt = 0 ∨ res.toInt - sta.toInt = 1 ∨ res.toInt - sta.toInt = 2 ∨ res.toInt - sta.toInt = 3 ∨ res.toInt - sta.toInt = 4 ∨ res.toInt - sta.toInt = 5 := by omega
  rcases hc with c | c | c | c | c | c <;> rw [c] <;> simp <;> omega
theorem own_ci_lo {g0 : Nat → Int32} {na nb : Int32} {b0 b1 b2 b3 b4 mv : Int32} {k : Nat} (h0 : 0 ≤ na.toInt) (h1 : na.toInt ≤ 5) (h2 : 0 ≤ nb.toInt) (h3 : nb.toInt ≤ 5) (hk : (k : Int) < na.toInt) :
    own_upd (own_upd (own_upd (own_upd (own_upd (own_upd g0 (na).toNatClampNeg b0) ((na + (1 : Int32))).toNatClampNeg b1) ((na + (2 : Int32))).toNatClampNeg b2) ((na + (3 : Int32))).toNatClampNeg b3) ((na + (4 : Int32))).toNatClampNeg b4) ((na + nb)).toNatClampNeg mv k = g0 k := by
  have c0 := own_clamp h0
  have a1 := own_addr (a := na) rfl (show (1 : Int32).toInt = 1 by decide) h0 (by omega) (by omega) (by omega)
  have a2 := own_addr (a := na) rfl (show (2 : Int32).toInt = 2 by decide) h0 (by omega) (by omega) (by omega)
  have a3 := own_addr (a := na) rfl (show (3 : Int32).toInt = 3 by decide) h0 (by omega) (by omega) (by omega)
  have a4 := own_addr (a := na) rfl (show (4 : Int32).toInt = 4 by decide) h0 (by omega) (by omega) (by omega)
  have a5 := own_addr (a := na) (b := nb) rfl rfl h0 (by omega) h2 (by omega)
  have c1 := own_clamp (n := na + 1) (by omega); have c2 := own_clamp (n := na + 2) (by omega); have c3 := own_clamp (n := na + 3) (by omega); have c4 := own_clamp (n := na + 4) (by omega); have c5 := own_clamp (n := na + nb) (by omega)
  simp only [own_upd]
  rw [if_neg (by omega), if_neg (by omega), if_neg (by omega), if_neg (by omega), if_neg (by omega), if_neg (by omega)]
set_option maxHeartbeats 4000000 in
theorem own_ci_hi {g0 : Nat → Int32} {na nb : Int32} {b0 b1 b2 b3 b4 mv : Int32} {k : Nat} (h0 : 0 ≤ na.toInt) (h1 : na.toInt ≤ 5) (h2 : 0 ≤ nb.toInt) (h3 : nb.toInt ≤ 5) (hk : (k : Int) < nb.toInt) :
    own_upd (own_upd (own_upd (own_upd (own_upd (own_upd g0 (na).toNatClampNeg b0) ((na + (1 : Int32))).toNatClampNeg b1) ((na + (2 : Int32))).toNatClampNeg b2) ((na + (3 : Int32))).toNatClampNeg b3) ((na + (4 : Int32))).toNatClampNeg b4) ((na + nb)).toNatClampNeg mv (na.toInt.toNat + k) = [b0, b1, b2, b3, b4].getD k 0 := by
  have c0 := own_clamp h0
  have a1 := own_addr (a := na) rfl (show (1 : Int32).toInt = 1 by decide) h0 (by omega) (by omega) (by omega)
  have a2 := own_addr (a := na) rfl (show (2 : Int32).toInt = 2 by decide) h0 (by omega) (by omega) (by omega)
  have a3 := own_addr (a := na) rfl (show (3 : Int32).toInt = 3 by decide) h0 (by omega) (by omega) (by omega)
  have a4 := own_addr (a := na) rfl (show (4 : Int32).toInt = 4 by decide) h0 (by omega) (by omega) (by omega)
  have a5 := own_addr (a := na) (b := nb) rfl rfl h0 (by omega) h2 (by omega)
  have c1 := own_clamp (n := na + 1) (by omega); have c2 := own_clamp (n := na + 2) (by omega); have c3 := own_clamp (n := na + 3) (by omega); have c4 := own_clamp (n := na + 4) (by omega); have c5 := own_clamp (n := na + nb) (by omega)
  simp only [own_upd]
  have hc : k = 0 ∨ k = 1 ∨ k = 2 ∨ k = 3 ∨ k = 4 := by omega
  rcases hc with q | q | q | q | q
  · rw [if_neg (by omega), if_neg (by omega), if_neg (by omega), if_neg (by omega), if_neg (by omega), if_pos (by omega), q]; rfl
  · rw [if_neg (by omega), if_neg (by omega), if_neg (by omega), if_neg (by omega), if_pos (by omega), q]; rfl
  · rw [if_neg (by omega), if_neg (by omega), if_neg (by omega), if_pos (by omega), q]; rfl
  · rw [if_neg (by omega), if_neg (by omega), if_pos (by omega), q]; rfl
  · rw [if_neg (by omega), if_pos (by omega), q]; rfl
set_option maxHeartbeats 4000000 in
theorem own_srt {c0 c1 c2 c3 c4 sta nt bd : Int32} {cf : Nat → Int32} (h1 : c0.toInt < c1.toInt) (h2 : c1.toInt < c2.toInt) (h3 : c2.toInt < c3.toInt) (h4 : c3.toInt < c4.toInt) (hs0 : 0 ≤ sta.toInt) (hn1 : nt.toInt ≤ 5) (hbd : bd.toInt = sta.toInt + nt.toInt) (hcf : ∀ k : Nat, (k : Int) < nt.toInt → cf (sta.toInt.toNat + k) = [c0, c1, c2, c3, c4].getD k 0) : own_sorted cf sta bd := by
  intro i j q1 q2 q3
  obtain ⟨a, ha⟩ : ∃ a, a = i - sta.toInt.toNat := ⟨_, rfl⟩
  obtain ⟨b, hb⟩ : ∃ b, b = j - sta.toInt.toNat := ⟨_, rfl⟩
  have ei : i = sta.toInt.toNat + a := by omega
  have ej : j = sta.toInt.toNat + b := by omega
  rw [ei, ej, hcf a (by omega), hcf b (by omega)]
  have hab : a ≤ b := by omega
  have hb5 : b < 5 := by omega
  have ca : a = 0 ∨ a = 1 ∨ a = 2 ∨ a = 3 ∨ a = 4 := by omega
  have cb : b = 0 ∨ b = 1 ∨ b = 2 ∨ b = 3 ∨ b = 4 := by omega
  clear ha hb ei ej q1 q2 q3 hcf
  rcases ca with q | q | q | q | q <;> rcases cb with r | r | r | r | r <;> subst q <;> subst r <;> first | omega | (simp only [List.getD, List.getElem?_cons_succ, List.getElem?_cons_zero, Option.getD_some]; omega)
theorem own_p0 {n : Int32} (h : ¬ n = (0 : Int32)) (h0 : 0 ≤ n.toInt) : 0 < n.toInt := by
  have : n.toInt ≠ 0 := fun q => h (Int32.toInt_inj.mp (q.trans (by decide)))
  omega
theorem own_r6 {x n : Int32} (h : n = ((x &&& (7 : Int32)) - ((x &&& (7 : Int32)) / (6 : Int32)) * (6 : Int32))) : 0 ≤ n.toInt ∧ n.toInt ≤ 5 := by
  have e : (6 : Int32).toInt = 6 := by decide
  have := own_rem (x := x &&& 7) (y := 6) (c_and x 7 (by decide)).1 (by decide)
  rw [h]; omega
theorem own_t01 {x t : Int32} (h : t = (x &&& (1 : Int32))) (h0 : ¬ t = (0 : Int32)) : t = (1 : Int32) := by
  have e := c_and x 1 (by decide); have e1 : (1 : Int32).toInt = 1 := by decide
  rw [← h] at e
  have : t.toInt ≠ 0 := fun q => h0 (Int32.toInt_inj.mp (q.trans (by decide)))
  exact Int32.toInt_inj.mp (by omega)
theorem own_pre {a b c d e z : Int32} {k : Nat} (h : k < 5) : [a, b, c, d, e, z, z, z, z, z, z].getD k 0 = [a, b, c, d, e].getD k 0 := by
  have hc : k = 0 ∨ k = 1 ∨ k = 2 ∨ k = 3 ∨ k = 4 := by omega
  rcases hc with q | q | q | q | q <;> rw [q] <;> rfl
theorem pn_0 : plainName "com/example/fusewright/fusewright/runtime/SparseMatrixFirstAtOrAfterPinLaw" = true := by first | (simp [plainName, overriddenIn]; done) | decide +kernel
theorem ef_1 (m : MethodId) (x0 : Int64) : entryFrame m #[(.long x0)] 3 = mkF m 0 #[.val (.long x0), .second, .unset] [] := by first | (simp [entryFrame, mkF, argsToLocals, Value.category]; done) | rfl
def Q1 (Z : State) (q0 : Int64) (h0 : Heap) (n0 : Nat) (v : Option Value) (h : Heap) (L : List Loc) : Prop := ∃ y, v = some (.ref y) ∧ Fr n0 L ∧ Keep h0 h [] ∧ h0.size ≤ y ∧ n0 ≤ y ∧ ∃ (kk : ClassId) (c0 c1 c2 c3 c4 : Int32), Arv Z h y kk .int (5 : Int32) [(.int c0), (.int c1), (.int c2), (.int c3), (.int c4)] (.int (0 : Int32)) ∧ 0 ≤ c0.toInt ∧ c0.toInt < c1.toInt ∧ c1.toInt < c2.toInt ∧ c2.toInt < c3.toInt ∧ c3.toInt < c4.toInt
abbrev P1 (Z : State) (q0 : Int64) (h0 : Heap) (n0 : Nat) (s : State) : Outcome → State → Prop := fun o U' => ∃ v L, o = .returned v ∧ Q1 Z q0 h0 n0 v U'.heap L ∧ FrameEnd s o U' L ({ frames := 0, cells := 1, slots := 5, locals := 0 } : Room).cells ({ frames := 0, cells := 1, slots := 5, locals := 0 } : Room).slots
theorem d1_0 : decode method_2_code 0 = .ok (.iconst 5, 1) := by decide +kernel
theorem d1_1 : decode method_2_code 1 = .ok (.newarray .int, 2) := by decide +kernel
theorem d1_3 : decode method_2_code 3 = .ok (.astore_n 2, 1) := by decide +kernel
theorem d1_4 : decode method_2_code 4 = .ok (.aload_n 2, 1) := by decide +kernel
theorem d1_5 : decode method_2_code 5 = .ok (.iconst 0, 1) := by decide +kernel
theorem d1_6 : decode method_2_code 6 = .ok (.lload_n 0, 1) := by decide +kernel
theorem d1_7 : decode method_2_code 7 = .ok (.ldc2_w 7, 3) := by decide +kernel
theorem d1_10 : decode method_2_code 10 = .ok (.land, 1) := by decide +kernel
theorem d1_11 : decode method_2_code 11 = .ok (.l2i, 1) := by decide +kernel
theorem d1_12 : decode method_2_code 12 = .ok (.iastore, 1) := by decide +kernel
theorem d1_13 : decode method_2_code 13 = .ok (.aload_n 2, 1) := by decide +kernel
theorem d1_14 : decode method_2_code 14 = .ok (.iconst 1, 1) := by decide +kernel
theorem d1_15 : decode method_2_code 15 = .ok (.aload_n 2, 1) := by decide +kernel
theorem d1_16 : decode method_2_code 16 = .ok (.iconst 0, 1) := by decide +kernel
theorem d1_17 : decode method_2_code 17 = .ok (.iaload, 1) := by decide +kernel
theorem d1_18 : decode method_2_code 18 = .ok (.iconst 1, 1) := by decide +kernel
theorem d1_19 : decode method_2_code 19 = .ok (.iadd, 1) := by decide +kernel
theorem d1_20 : decode method_2_code 20 = .ok (.lload_n 0, 1) := by decide +kernel
theorem d1_21 : decode method_2_code 21 = .ok (.bipush 8, 2) := by decide +kernel
theorem d1_23 : decode method_2_code 23 = .ok (.lushr, 1) := by decide +kernel
theorem d1_24 : decode method_2_code 24 = .ok (.ldc2_w 7, 3) := by decide +kernel
theorem d1_27 : decode method_2_code 27 = .ok (.land, 1) := by decide +kernel
theorem d1_28 : decode method_2_code 28 = .ok (.l2i, 1) := by decide +kernel
theorem d1_29 : decode method_2_code 29 = .ok (.iadd, 1) := by decide +kernel
theorem d1_30 : decode method_2_code 30 = .ok (.iastore, 1) := by decide +kernel
theorem d1_31 : decode method_2_code 31 = .ok (.aload_n 2, 1) := by decide +kernel
theorem d1_32 : decode method_2_code 32 = .ok (.iconst 2, 1) := by decide +kernel
theorem d1_33 : decode method_2_code 33 = .ok (.aload_n 2, 1) := by decide +kernel
theorem d1_34 : decode method_2_code 34 = .ok (.iconst 1, 1) := by decide +kernel
theorem d1_35 : decode method_2_code 35 = .ok (.iaload, 1) := by decide +kernel
theorem d1_36 : decode method_2_code 36 = .ok (.iconst 1, 1) := by decide +kernel
theorem d1_37 : decode method_2_code 37 = .ok (.iadd, 1) := by decide +kernel
theorem d1_38 : decode method_2_code 38 = .ok (.lload_n 0, 1) := by decide +kernel
theorem d1_39 : decode method_2_code 39 = .ok (.bipush 16, 2) := by decide +kernel
theorem d1_41 : decode method_2_code 41 = .ok (.lushr, 1) := by decide +kernel
theorem d1_42 : decode method_2_code 42 = .ok (.ldc2_w 7, 3) := by decide +kernel
theorem d1_45 : decode method_2_code 45 = .ok (.land, 1) := by decide +kernel
theorem d1_46 : decode method_2_code 46 = .ok (.l2i, 1) := by decide +kernel
theorem d1_47 : decode method_2_code 47 = .ok (.iadd, 1) := by decide +kernel
theorem d1_48 : decode method_2_code 48 = .ok (.iastore, 1) := by decide +kernel
theorem d1_49 : decode method_2_code 49 = .ok (.aload_n 2, 1) := by decide +kernel
theorem d1_50 : decode method_2_code 50 = .ok (.iconst 3, 1) := by decide +kernel
theorem d1_51 : decode method_2_code 51 = .ok (.aload_n 2, 1) := by decide +kernel
theorem d1_52 : decode method_2_code 52 = .ok (.iconst 2, 1) := by decide +kernel
theorem d1_53 : decode method_2_code 53 = .ok (.iaload, 1) := by decide +kernel
theorem d1_54 : decode method_2_code 54 = .ok (.iconst 1, 1) := by decide +kernel
theorem d1_55 : decode method_2_code 55 = .ok (.iadd, 1) := by decide +kernel
theorem d1_56 : decode method_2_code 56 = .ok (.lload_n 0, 1) := by decide +kernel
theorem d1_57 : decode method_2_code 57 = .ok (.bipush 24, 2) := by decide +kernel
theorem d1_59 : decode method_2_code 59 = .ok (.lushr, 1) := by decide +kernel
theorem d1_60 : decode method_2_code 60 = .ok (.ldc2_w 7, 3) := by decide +kernel
theorem d1_63 : decode method_2_code 63 = .ok (.land, 1) := by decide +kernel
theorem d1_64 : decode method_2_code 64 = .ok (.l2i, 1) := by decide +kernel
theorem d1_65 : decode method_2_code 65 = .ok (.iadd, 1) := by decide +kernel
theorem d1_66 : decode method_2_code 66 = .ok (.iastore, 1) := by decide +kernel
theorem d1_67 : decode method_2_code 67 = .ok (.aload_n 2, 1) := by decide +kernel
theorem d1_68 : decode method_2_code 68 = .ok (.iconst 4, 1) := by decide +kernel
theorem d1_69 : decode method_2_code 69 = .ok (.aload_n 2, 1) := by decide +kernel
theorem d1_70 : decode method_2_code 70 = .ok (.iconst 3, 1) := by decide +kernel
theorem d1_71 : decode method_2_code 71 = .ok (.iaload, 1) := by decide +kernel
theorem d1_72 : decode method_2_code 72 = .ok (.iconst 1, 1) := by decide +kernel
theorem d1_73 : decode method_2_code 73 = .ok (.iadd, 1) := by decide +kernel
theorem d1_74 : decode method_2_code 74 = .ok (.lload_n 0, 1) := by decide +kernel
theorem d1_75 : decode method_2_code 75 = .ok (.bipush 32, 2) := by decide +kernel
theorem d1_77 : decode method_2_code 77 = .ok (.lushr, 1) := by decide +kernel
theorem d1_78 : decode method_2_code 78 = .ok (.ldc2_w 7, 3) := by decide +kernel
theorem d1_81 : decode method_2_code 81 = .ok (.land, 1) := by decide +kernel
theorem d1_82 : decode method_2_code 82 = .ok (.l2i, 1) := by decide +kernel
theorem d1_83 : decode method_2_code 83 = .ok (.iadd, 1) := by decide +kernel
theorem d1_84 : decode method_2_code 84 = .ok (.iastore, 1) := by decide +kernel
theorem d1_85 : decode method_2_code 85 = .ok (.aload_n 2, 1) := by decide +kernel
theorem d1_86 : decode method_2_code 86 = .ok (.areturn, 1) := by decide +kernel
set_option maxRecDepth 65536 in
set_option maxHeartbeats 40000000 in
theorem rm1 (l : Launch) (Z : State) (a0 : Array Value) (hw : ∀ d ∈ tables_1, d.before a0 Z = true) (ws : List Jvm.Cond) (q0 : Int64) (h0 : Heap) (n0 : Nat) (Z0 : n0 ≤ h0.size) :
    MetFree l (⟨"com/example/fusewright/fusewright/runtime/SparseMatrixFirstAtOrAfterPinLaw", "cols", "(J)[I"⟩ : MethodName) (head1 (Jvm.Cond.code (⟨"com/example/fusewright/fusewright/runtime/SparseMatrixFirstAtOrAfterPinLaw", "cols", "(J)[I"⟩ : MethodName) method_2_code 3 (some (.array .int)) :: ws) ({ frames := 0, cells := 1, slots := 5, locals := 0 } : Room)) (fun a U => a = #[(.long q0)] ∧ Z.Warmed39 U.vm ∧ U.heap = h0) (fun _ _ _ _ _ => True) (fun _ U o U' => ∃ v L, o = .returned v ∧ Q1 Z q0 h0 n0 v U'.heap L ∧ FrameEnd U o U' L ({ frames := 0, cells := 1, slots := 5, locals := 0 } : Room).cells ({ frames := 0, cells := 1, slots := 5, locals := 0 } : Room).slots) := by
  refine MetFree.of_bodySF (plainFor_of_name pn_0) hisR ?_
  intro p e s m args below meth c s₁ Bd hml0 hP hK
  obtain ⟨rfl, hZ, hh⟩ := hP
  have hx := Bd.exec
  have hby := Bd.bytes
  have hml : c.maxLocals = 3 := hml0
  have hown : s.vm.findClass "com/example/fusewright/fusewright/runtime/SparseMatrixFirstAtOrAfterPinLaw" = some m.cls := findClass_of_methodNamed Bd.named
  have hnm := (name_of_methodNamed Bd.named Bd.method).1
  have X0 : Stand p l e ({ frames := 0, cells := 1, slots := 5, locals := 0 } : Room) s m #[(.long q0)] below meth c s₁ [] 0 0 := Stand.of_body Bd
  have e0 : s₁.heap = h0 := by rw [← hh, Bd.state]; rfl
  have N0 := Fr.nil n0
  refine own_enter (P := (P1 Z q0 h0 n0 s)) (ef_1 m q0) ?_
  have K0 : Keep h0 h0 [] := Keep.refl h0 _
  show own_Fin p.tables e below _ (s₁.setTop (mkF m 0 #[.val (.long q0), .second, .unset] []))
  refine own_step (fun _ k => XS.iconst X0.here hx rfl (hb hby d1_0) k) ?_
  show own_Fin p.tables e below _ (s₁.setTop (mkF m 1 #[.val (.long q0), .second, .unset] [(.int (5 : Int32))]))
  obtain ⟨T1, h1, k1, X1, e1, E1, A1, st1⟩ := newP X0 hx hZ (hw _ (List.mem_of_getElem? (i := 4) rfl)) e0 (g := (mkF m 1 #[.val (.long q0), .second, .unset] [(.int (5 : Int32))])) rfl (hb hby d1_1) rfl (by decide) (cap := 5) (by decide) (by decide) (by decide) (by decide)
  obtain ⟨b1, g1⟩ : ∃ z, z = h0.size := ⟨_, rfl⟩
  rw [← g1] at A1 st1
  refine own_step st1 ?_
  have g_b1 : n0 ≤ b1 := Nat.le_trans Z0 (Nat.le_of_eq g1.symm)
  have sz_b1 : h0.size ≤ b1 := Nat.le_trans K0.1 (Nat.le_of_eq g1.symm)
  have f2 := Nat.le_trans Z0 E1.1
  have f3 := K0.ext E1
  have f4 : Arv Z h1 b1 k1 .int (5 : Int32) [(.int (0 : Int32)), (.int (0 : Int32)), (.int (0 : Int32)), (.int (0 : Int32)), (.int (0 : Int32))] (.int (0 : Int32)) := (Arv.new A1 (by decide)).pad (pad_rep [] (.int (0 : Int32)) 5)
  show own_Fin p.tables e below _ (T1.setTop (mkF m 3 #[.val (.long q0), .second, .unset] [(.ref b1)]))
  refine own_step (fun _ k => XS.astoreN X1.here hx rfl (hb hby d1_3) rfl rfl (l' := #[.val (.long q0), .second, .val (.ref b1)]) rfl k) ?_
  show own_Fin p.tables e below _ (T1.setTop (mkF m 4 #[.val (.long q0), .second, .val (.ref b1)] []))
  refine own_step (fun _ k => XS.aloadN X1.here hx rfl (hb hby d1_4) rfl rfl k) ?_
  show own_Fin p.tables e below _ (T1.setTop (mkF m 5 #[.val (.long q0), .second, .val (.ref b1)] [(.ref b1)]))
  refine own_step (fun _ k => XS.iconst X1.here hx rfl (hb hby d1_5) k) ?_
  show own_Fin p.tables e below _ (T1.setTop (mkF m 6 #[.val (.long q0), .second, .val (.ref b1)] [(.int (0 : Int32)), (.ref b1)]))
  refine own_step (fun _ k => XS.lloadN X1.here hx rfl (hb hby d1_6) rfl k) ?_
  show own_Fin p.tables e below _ (T1.setTop (mkF m 7 #[.val (.long q0), .second, .val (.ref b1)] [(.long q0), (.int (0 : Int32)), (.ref b1)]))
  refine own_step (X1.ldc2Long hx hown (mvT hZ (hw _ (List.mem_of_getElem? (i := 5) rfl))) (g := (mkF m 7 #[.val (.long q0), .second, .val (.ref b1)] [(.long q0), (.int (0 : Int32)), (.ref b1)])) rfl (hb hby d1_7)) ?_
  show own_Fin p.tables e below _ (T1.setTop (mkF m 10 #[.val (.long q0), .second, .val (.ref b1)] [(.long (255 : Int64)), (.long q0), (.int (0 : Int32)), (.ref b1)]))
  refine own_step (fun _ k => XS.land X1.here hx rfl (hb hby d1_10) rfl k) ?_
  show own_Fin p.tables e below _ (T1.setTop (mkF m 11 #[.val (.long q0), .second, .val (.ref b1)] [(.long (q0 &&& (255 : Int64))), (.int (0 : Int32)), (.ref b1)]))
  refine own_step (fun _ k => XS.l2i X1.here hx rfl (hb hby d1_11) rfl k) ?_
  show own_Fin p.tables e below _ (T1.setTop (mkF m 12 #[.val (.long q0), .second, .val (.ref b1)] [(.int ((q0 &&& (255 : Int64)).toInt32)), (.int (0 : Int32)), (.ref b1)]))
  obtain ⟨c0, hc0⟩ : ∃ z, z = ((q0 &&& (255 : Int64)).toInt32) := ⟨_, rfl⟩
  rw [← hc0]
  show own_Fin p.tables e below _ (T1.setTop (mkF m 12 #[.val (.long q0), .second, .val (.ref b1)] [(.int c0), (.int (0 : Int32)), (.ref b1)]))
  have hd0 := own_d q0
  rw [← hc0] at hd0
  obtain ⟨cl5, Ar5, q5, S5, M5, H5, G5⟩ := id f4
  have hin5 : ¬ ((0 : Int32) < 0 ∨ cl5.slots.size ≤ ((0 : Int32)).toNatClampNeg) := inb_of S5 ⟨by decide, by decide⟩
  obtain ⟨T5, h5, X5, e5, W5, st5⟩ := stI X1 hx hZ e1 Ar5 (j := (0 : Int32)) hin5 (g := (mkF m 12 #[.val (.long q0), .second, .val (.ref b1)] [(.int c0), (.int (0 : Int32)), (.ref b1)])) rfl rfl (hb hby d1_12)
  refine own_step st5 ?_
  have f6 := Nat.le_trans f2 (Keep.of_wr W5).1
  have f7 := f3.wr W5 (Or.inr sz_b1)
  have f8 : Arv Z h5 b1 k1 .int (5 : Int32) [(.int c0), (.int (0 : Int32)), (.int (0 : Int32)), (.int (0 : Int32)), (.int (0 : Int32))] (.int (0 : Int32)) := Arv.set Ar5 q5 S5 M5 H5 G5 rfl W5 0 rfl (Nat.le_of_ble_eq_true rfl)
  have N9 := Fr.snoc X5 N0 g_b1
  show own_Fin p.tables e below _ (T5.setTop (mkF m 13 #[.val (.long q0), .second, .val (.ref b1)] []))
  refine own_step (fun _ k => XS.aloadN X5.here hx rfl (hb hby d1_13) rfl rfl k) ?_
  show own_Fin p.tables e below _ (T5.setTop (mkF m 14 #[.val (.long q0), .second, .val (.ref b1)] [(.ref b1)]))
  refine own_step (fun _ k => XS.iconst X5.here hx rfl (hb hby d1_14) k) ?_
  show own_Fin p.tables e below _ (T5.setTop (mkF m 15 #[.val (.long q0), .second, .val (.ref b1)] [(.int (1 : Int32)), (.ref b1)]))
  refine own_step (fun _ k => XS.aloadN X5.here hx rfl (hb hby d1_15) rfl rfl k) ?_
  show own_Fin p.tables e below _ (T5.setTop (mkF m 16 #[.val (.long q0), .second, .val (.ref b1)] [(.ref b1), (.int (1 : Int32)), (.ref b1)]))
  refine own_step (fun _ k => XS.iconst X5.here hx rfl (hb hby d1_16) k) ?_
  show own_Fin p.tables e below _ (T5.setTop (mkF m 17 #[.val (.long q0), .second, .val (.ref b1)] [(.int (0 : Int32)), (.ref b1), (.int (1 : Int32)), (.ref b1)]))
  obtain ⟨cl10, Ar10, -, S10, M10, H10, -⟩ := id f8
  have hin10 : ¬ ((0 : Int32) < 0 ∨ cl10.slots.size ≤ ((0 : Int32)).toNatClampNeg) := inb_of S10 ⟨by decide, by decide⟩
  refine own_step (X5.iaload hx (j := (0 : Int32)) (v := (.int c0)) (by first | exact Ar10.1 | (rw [e5]; exact Ar10.1)) (State.isArrayOf_alike hZ.alike Ar10.2.1) Ar10.2.2 hin10 (H10.at hin10 rfl) (g := (mkF m 17 #[.val (.long q0), .second, .val (.ref b1)] [(.int (0 : Int32)), (.ref b1), (.int (1 : Int32)), (.ref b1)])) rfl rfl (hb hby d1_17)) ?_
  show own_Fin p.tables e below _ (T5.setTop (mkF m 18 #[.val (.long q0), .second, .val (.ref b1)] [(.int c0), (.int (1 : Int32)), (.ref b1)]))
  refine own_step (fun _ k => XS.iconst X5.here hx rfl (hb hby d1_18) k) ?_
  show own_Fin p.tables e below _ (T5.setTop (mkF m 19 #[.val (.long q0), .second, .val (.ref b1)] [(.int (1 : Int32)), (.int c0), (.int (1 : Int32)), (.ref b1)]))
  refine own_step (fun _ k => XS.iadd X5.here hx rfl (hb hby d1_19) rfl k) ?_
  show own_Fin p.tables e below _ (T5.setTop (mkF m 20 #[.val (.long q0), .second, .val (.ref b1)] [(.int (c0 + (1 : Int32))), (.int (1 : Int32)), (.ref b1)]))
  refine own_step (fun _ k => XS.lloadN X5.here hx rfl (hb hby d1_20) rfl k) ?_
  show own_Fin p.tables e below _ (T5.setTop (mkF m 21 #[.val (.long q0), .second, .val (.ref b1)] [(.long q0), (.int (c0 + (1 : Int32))), (.int (1 : Int32)), (.ref b1)]))
  refine own_step (fun _ k => XS.bipush X5.here hx rfl (hb hby d1_21) k) ?_
  show own_Fin p.tables e below _ (T5.setTop (mkF m 23 #[.val (.long q0), .second, .val (.ref b1)] [(.int (8 : Int32)), (.long q0), (.int (c0 + (1 : Int32))), (.int (1 : Int32)), (.ref b1)]))
  refine own_step (fun _ k => XS.lushr X5.here hx rfl (hb hby d1_23) rfl k) ?_
  show own_Fin p.tables e below _ (T5.setTop (mkF m 24 #[.val (.long q0), .second, .val (.ref b1)] [(.long ((q0.toUInt64 >>> ((8 : Int32) &&& 0x3f).toInt64.toUInt64).toInt64)), (.int (c0 + (1 : Int32))), (.int (1 : Int32)), (.ref b1)]))
  refine own_step (X5.ldc2Long hx hown (mvT hZ (hw _ (List.mem_of_getElem? (i := 5) rfl))) (g := (mkF m 24 #[.val (.long q0), .second, .val (.ref b1)] [(.long ((q0.toUInt64 >>> ((8 : Int32) &&& 0x3f).toInt64.toUInt64).toInt64)), (.int (c0 + (1 : Int32))), (.int (1 : Int32)), (.ref b1)])) rfl (hb hby d1_24)) ?_
  show own_Fin p.tables e below _ (T5.setTop (mkF m 27 #[.val (.long q0), .second, .val (.ref b1)] [(.long (255 : Int64)), (.long ((q0.toUInt64 >>> ((8 : Int32) &&& 0x3f).toInt64.toUInt64).toInt64)), (.int (c0 + (1 : Int32))), (.int (1 : Int32)), (.ref b1)]))
  refine own_step (fun _ k => XS.land X5.here hx rfl (hb hby d1_27) rfl k) ?_
  show own_Fin p.tables e below _ (T5.setTop (mkF m 28 #[.val (.long q0), .second, .val (.ref b1)] [(.long (((q0.toUInt64 >>> ((8 : Int32) &&& 0x3f).toInt64.toUInt64).toInt64) &&& (255 : Int64))), (.int (c0 + (1 : Int32))), (.int (1 : Int32)), (.ref b1)]))
  refine own_step (fun _ k => XS.l2i X5.here hx rfl (hb hby d1_28) rfl k) ?_
  show own_Fin p.tables e below _ (T5.setTop (mkF m 29 #[.val (.long q0), .second, .val (.ref b1)] [(.int ((((q0.toUInt64 >>> ((8 : Int32) &&& 0x3f).toInt64.toUInt64).toInt64) &&& (255 : Int64)).toInt32)), (.int (c0 + (1 : Int32))), (.int (1 : Int32)), (.ref b1)]))
  refine own_step (fun _ k => XS.iadd X5.here hx rfl (hb hby d1_29) rfl k) ?_
  show own_Fin p.tables e below _ (T5.setTop (mkF m 30 #[.val (.long q0), .second, .val (.ref b1)] [(.int ((c0 + (1 : Int32)) + ((((q0.toUInt64 >>> ((8 : Int32) &&& 0x3f).toInt64.toUInt64).toInt64) &&& (255 : Int64)).toInt32))), (.int (1 : Int32)), (.ref b1)]))
  obtain ⟨c1, hc1⟩ : ∃ z, z = ((c0 + (1 : Int32)) + ((((q0.toUInt64 >>> ((8 : Int32) &&& 0x3f).toInt64.toUInt64).toInt64) &&& (255 : Int64)).toInt32)) := ⟨_, rfl⟩
  rw [← hc1]
  show own_Fin p.tables e below _ (T5.setTop (mkF m 30 #[.val (.long q0), .second, .val (.ref b1)] [(.int c1), (.int (1 : Int32)), (.ref b1)]))
  have hx1 := own_nx hc1 (by omega) (by omega)
  obtain ⟨cl11, Ar11, q11, S11, M11, H11, G11⟩ := id f8
  have hin11 : ¬ ((1 : Int32) < 0 ∨ cl11.slots.size ≤ ((1 : Int32)).toNatClampNeg) := inb_of S11 ⟨by decide, by decide⟩
  obtain ⟨T11, h11, X11, e11, W11, st11⟩ := stI X5 hx hZ e5 Ar11 (j := (1 : Int32)) hin11 (g := (mkF m 30 #[.val (.long q0), .second, .val (.ref b1)] [(.int c1), (.int (1 : Int32)), (.ref b1)])) rfl rfl (hb hby d1_30)
  refine own_step st11 ?_
  have f12 := Nat.le_trans f6 (Keep.of_wr W11).1
  have f13 := f7.wr W11 (Or.inr sz_b1)
  have f14 : Arv Z h11 b1 k1 .int (5 : Int32) [(.int c0), (.int c1), (.int (0 : Int32)), (.int (0 : Int32)), (.int (0 : Int32))] (.int (0 : Int32)) := Arv.set Ar11 q11 S11 M11 H11 G11 rfl W11 1 rfl (Nat.le_of_ble_eq_true rfl)
  have N15 := Fr.snoc X11 N9 g_b1
  show own_Fin p.tables e below _ (T11.setTop (mkF m 31 #[.val (.long q0), .second, .val (.ref b1)] []))
  refine own_step (fun _ k => XS.aloadN X11.here hx rfl (hb hby d1_31) rfl rfl k) ?_
  show own_Fin p.tables e below _ (T11.setTop (mkF m 32 #[.val (.long q0), .second, .val (.ref b1)] [(.ref b1)]))
  refine own_step (fun _ k => XS.iconst X11.here hx rfl (hb hby d1_32) k) ?_
  show own_Fin p.tables e below _ (T11.setTop (mkF m 33 #[.val (.long q0), .second, .val (.ref b1)] [(.int (2 : Int32)), (.ref b1)]))
  refine own_step (fun _ k => XS.aloadN X11.here hx rfl (hb hby d1_33) rfl rfl k) ?_
  show own_Fin p.tables e below _ (T11.setTop (mkF m 34 #[.val (.long q0), .second, .val (.ref b1)] [(.ref b1), (.int (2 : Int32)), (.ref b1)]))
  refine own_step (fun _ k => XS.iconst X11.here hx rfl (hb hby d1_34) k) ?_
  show own_Fin p.tables e below _ (T11.setTop (mkF m 35 #[.val (.long q0), .second, .val (.ref b1)] [(.int (1 : Int32)), (.ref b1), (.int (2 : Int32)), (.ref b1)]))
  obtain ⟨cl16, Ar16, -, S16, M16, H16, -⟩ := id f14
  have hin16 : ¬ ((1 : Int32) < 0 ∨ cl16.slots.size ≤ ((1 : Int32)).toNatClampNeg) := inb_of S16 ⟨by decide, by decide⟩
  refine own_step (X11.iaload hx (j := (1 : Int32)) (v := (.int c1)) (by first | exact Ar16.1 | (rw [e11]; exact Ar16.1)) (State.isArrayOf_alike hZ.alike Ar16.2.1) Ar16.2.2 hin16 (H16.at hin16 rfl) (g := (mkF m 35 #[.val (.long q0), .second, .val (.ref b1)] [(.int (1 : Int32)), (.ref b1), (.int (2 : Int32)), (.ref b1)])) rfl rfl (hb hby d1_35)) ?_
  show own_Fin p.tables e below _ (T11.setTop (mkF m 36 #[.val (.long q0), .second, .val (.ref b1)] [(.int c1), (.int (2 : Int32)), (.ref b1)]))
  refine own_step (fun _ k => XS.iconst X11.here hx rfl (hb hby d1_36) k) ?_
  show own_Fin p.tables e below _ (T11.setTop (mkF m 37 #[.val (.long q0), .second, .val (.ref b1)] [(.int (1 : Int32)), (.int c1), (.int (2 : Int32)), (.ref b1)]))
  refine own_step (fun _ k => XS.iadd X11.here hx rfl (hb hby d1_37) rfl k) ?_
  show own_Fin p.tables e below _ (T11.setTop (mkF m 38 #[.val (.long q0), .second, .val (.ref b1)] [(.int (c1 + (1 : Int32))), (.int (2 : Int32)), (.ref b1)]))
  refine own_step (fun _ k => XS.lloadN X11.here hx rfl (hb hby d1_38) rfl k) ?_
  show own_Fin p.tables e below _ (T11.setTop (mkF m 39 #[.val (.long q0), .second, .val (.ref b1)] [(.long q0), (.int (c1 + (1 : Int32))), (.int (2 : Int32)), (.ref b1)]))
  refine own_step (fun _ k => XS.bipush X11.here hx rfl (hb hby d1_39) k) ?_
  show own_Fin p.tables e below _ (T11.setTop (mkF m 41 #[.val (.long q0), .second, .val (.ref b1)] [(.int (16 : Int32)), (.long q0), (.int (c1 + (1 : Int32))), (.int (2 : Int32)), (.ref b1)]))
  refine own_step (fun _ k => XS.lushr X11.here hx rfl (hb hby d1_41) rfl k) ?_
  show own_Fin p.tables e below _ (T11.setTop (mkF m 42 #[.val (.long q0), .second, .val (.ref b1)] [(.long ((q0.toUInt64 >>> ((16 : Int32) &&& 0x3f).toInt64.toUInt64).toInt64)), (.int (c1 + (1 : Int32))), (.int (2 : Int32)), (.ref b1)]))
  refine own_step (X11.ldc2Long hx hown (mvT hZ (hw _ (List.mem_of_getElem? (i := 5) rfl))) (g := (mkF m 42 #[.val (.long q0), .second, .val (.ref b1)] [(.long ((q0.toUInt64 >>> ((16 : Int32) &&& 0x3f).toInt64.toUInt64).toInt64)), (.int (c1 + (1 : Int32))), (.int (2 : Int32)), (.ref b1)])) rfl (hb hby d1_42)) ?_
  show own_Fin p.tables e below _ (T11.setTop (mkF m 45 #[.val (.long q0), .second, .val (.ref b1)] [(.long (255 : Int64)), (.long ((q0.toUInt64 >>> ((16 : Int32) &&& 0x3f).toInt64.toUInt64).toInt64)), (.int (c1 + (1 : Int32))), (.int (2 : Int32)), (.ref b1)]))
  refine own_step (fun _ k => XS.land X11.here hx rfl (hb hby d1_45) rfl k) ?_
  show own_Fin p.tables e below _ (T11.setTop (mkF m 46 #[.val (.long q0), .second, .val (.ref b1)] [(.long (((q0.toUInt64 >>> ((16 : Int32) &&& 0x3f).toInt64.toUInt64).toInt64) &&& (255 : Int64))), (.int (c1 + (1 : Int32))), (.int (2 : Int32)), (.ref b1)]))
  refine own_step (fun _ k => XS.l2i X11.here hx rfl (hb hby d1_46) rfl k) ?_
  show own_Fin p.tables e below _ (T11.setTop (mkF m 47 #[.val (.long q0), .second, .val (.ref b1)] [(.int ((((q0.toUInt64 >>> ((16 : Int32) &&& 0x3f).toInt64.toUInt64).toInt64) &&& (255 : Int64)).toInt32)), (.int (c1 + (1 : Int32))), (.int (2 : Int32)), (.ref b1)]))
  refine own_step (fun _ k => XS.iadd X11.here hx rfl (hb hby d1_47) rfl k) ?_
  show own_Fin p.tables e below _ (T11.setTop (mkF m 48 #[.val (.long q0), .second, .val (.ref b1)] [(.int ((c1 + (1 : Int32)) + ((((q0.toUInt64 >>> ((16 : Int32) &&& 0x3f).toInt64.toUInt64).toInt64) &&& (255 : Int64)).toInt32))), (.int (2 : Int32)), (.ref b1)]))
  obtain ⟨c2, hc2⟩ : ∃ z, z = ((c1 + (1 : Int32)) + ((((q0.toUInt64 >>> ((16 : Int32) &&& 0x3f).toInt64.toUInt64).toInt64) &&& (255 : Int64)).toInt32)) := ⟨_, rfl⟩
  rw [← hc2]
  show own_Fin p.tables e below _ (T11.setTop (mkF m 48 #[.val (.long q0), .second, .val (.ref b1)] [(.int c2), (.int (2 : Int32)), (.ref b1)]))
  have hx2 := own_nx hc2 (by omega) (by omega)
  obtain ⟨cl17, Ar17, q17, S17, M17, H17, G17⟩ := id f14
  have hin17 : ¬ ((2 : Int32) < 0 ∨ cl17.slots.size ≤ ((2 : Int32)).toNatClampNeg) := inb_of S17 ⟨by decide, by decide⟩
  obtain ⟨T17, h17, X17, e17, W17, st17⟩ := stI X11 hx hZ e11 Ar17 (j := (2 : Int32)) hin17 (g := (mkF m 48 #[.val (.long q0), .second, .val (.ref b1)] [(.int c2), (.int (2 : Int32)), (.ref b1)])) rfl rfl (hb hby d1_48)
  refine own_step st17 ?_
  have f18 := Nat.le_trans f12 (Keep.of_wr W17).1
  have f19 := f13.wr W17 (Or.inr sz_b1)
  have f20 : Arv Z h17 b1 k1 .int (5 : Int32) [(.int c0), (.int c1), (.int c2), (.int (0 : Int32)), (.int (0 : Int32))] (.int (0 : Int32)) := Arv.set Ar17 q17 S17 M17 H17 G17 rfl W17 2 rfl (Nat.le_of_ble_eq_true rfl)
  have N21 := Fr.snoc X17 N15 g_b1
  show own_Fin p.tables e below _ (T17.setTop (mkF m 49 #[.val (.long q0), .second, .val (.ref b1)] []))
  refine own_step (fun _ k => XS.aloadN X17.here hx rfl (hb hby d1_49) rfl rfl k) ?_
  show own_Fin p.tables e below _ (T17.setTop (mkF m 50 #[.val (.long q0), .second, .val (.ref b1)] [(.ref b1)]))
  refine own_step (fun _ k => XS.iconst X17.here hx rfl (hb hby d1_50) k) ?_
  show own_Fin p.tables e below _ (T17.setTop (mkF m 51 #[.val (.long q0), .second, .val (.ref b1)] [(.int (3 : Int32)), (.ref b1)]))
  refine own_step (fun _ k => XS.aloadN X17.here hx rfl (hb hby d1_51) rfl rfl k) ?_
  show own_Fin p.tables e below _ (T17.setTop (mkF m 52 #[.val (.long q0), .second, .val (.ref b1)] [(.ref b1), (.int (3 : Int32)), (.ref b1)]))
  refine own_step (fun _ k => XS.iconst X17.here hx rfl (hb hby d1_52) k) ?_
  show own_Fin p.tables e below _ (T17.setTop (mkF m 53 #[.val (.long q0), .second, .val (.ref b1)] [(.int (2 : Int32)), (.ref b1), (.int (3 : Int32)), (.ref b1)]))
  obtain ⟨cl22, Ar22, -, S22, M22, H22, -⟩ := id f20
  have hin22 : ¬ ((2 : Int32) < 0 ∨ cl22.slots.size ≤ ((2 : Int32)).toNatClampNeg) := inb_of S22 ⟨by decide, by decide⟩
  refine own_step (X17.iaload hx (j := (2 : Int32)) (v := (.int c2)) (by first | exact Ar22.1 | (rw [e17]; exact Ar22.1)) (State.isArrayOf_alike hZ.alike Ar22.2.1) Ar22.2.2 hin22 (H22.at hin22 rfl) (g := (mkF m 53 #[.val (.long q0), .second, .val (.ref b1)] [(.int (2 : Int32)), (.ref b1), (.int (3 : Int32)), (.ref b1)])) rfl rfl (hb hby d1_53)) ?_
  show own_Fin p.tables e below _ (T17.setTop (mkF m 54 #[.val (.long q0), .second, .val (.ref b1)] [(.int c2), (.int (3 : Int32)), (.ref b1)]))
  refine own_step (fun _ k => XS.iconst X17.here hx rfl (hb hby d1_54) k) ?_
  show own_Fin p.tables e below _ (T17.setTop (mkF m 55 #[.val (.long q0), .second, .val (.ref b1)] [(.int (1 : Int32)), (.int c2), (.int (3 : Int32)), (.ref b1)]))
  refine own_step (fun _ k => XS.iadd X17.here hx rfl (hb hby d1_55) rfl k) ?_
  show own_Fin p.tables e below _ (T17.setTop (mkF m 56 #[.val (.long q0), .second, .val (.ref b1)] [(.int (c2 + (1 : Int32))), (.int (3 : Int32)), (.ref b1)]))
  refine own_step (fun _ k => XS.lloadN X17.here hx rfl (hb hby d1_56) rfl k) ?_
  show own_Fin p.tables e below _ (T17.setTop (mkF m 57 #[.val (.long q0), .second, .val (.ref b1)] [(.long q0), (.int (c2 + (1 : Int32))), (.int (3 : Int32)), (.ref b1)]))
  refine own_step (fun _ k => XS.bipush X17.here hx rfl (hb hby d1_57) k) ?_
  show own_Fin p.tables e below _ (T17.setTop (mkF m 59 #[.val (.long q0), .second, .val (.ref b1)] [(.int (24 : Int32)), (.long q0), (.int (c2 + (1 : Int32))), (.int (3 : Int32)), (.ref b1)]))
  refine own_step (fun _ k => XS.lushr X17.here hx rfl (hb hby d1_59) rfl k) ?_
  show own_Fin p.tables e below _ (T17.setTop (mkF m 60 #[.val (.long q0), .second, .val (.ref b1)] [(.long ((q0.toUInt64 >>> ((24 : Int32) &&& 0x3f).toInt64.toUInt64).toInt64)), (.int (c2 + (1 : Int32))), (.int (3 : Int32)), (.ref b1)]))
  refine own_step (X17.ldc2Long hx hown (mvT hZ (hw _ (List.mem_of_getElem? (i := 5) rfl))) (g := (mkF m 60 #[.val (.long q0), .second, .val (.ref b1)] [(.long ((q0.toUInt64 >>> ((24 : Int32) &&& 0x3f).toInt64.toUInt64).toInt64)), (.int (c2 + (1 : Int32))), (.int (3 : Int32)), (.ref b1)])) rfl (hb hby d1_60)) ?_
  show own_Fin p.tables e below _ (T17.setTop (mkF m 63 #[.val (.long q0), .second, .val (.ref b1)] [(.long (255 : Int64)), (.long ((q0.toUInt64 >>> ((24 : Int32) &&& 0x3f).toInt64.toUInt64).toInt64)), (.int (c2 + (1 : Int32))), (.int (3 : Int32)), (.ref b1)]))
  refine own_step (fun _ k => XS.land X17.here hx rfl (hb hby d1_63) rfl k) ?_
  show own_Fin p.tables e below _ (T17.setTop (mkF m 64 #[.val (.long q0), .second, .val (.ref b1)] [(.long (((q0.toUInt64 >>> ((24 : Int32) &&& 0x3f).toInt64.toUInt64).toInt64) &&& (255 : Int64))), (.int (c2 + (1 : Int32))), (.int (3 : Int32)), (.ref b1)]))
  refine own_step (fun _ k => XS.l2i X17.here hx rfl (hb hby d1_64) rfl k) ?_
  show own_Fin p.tables e below _ (T17.setTop (mkF m 65 #[.val (.long q0), .second, .val (.ref b1)] [(.int ((((q0.toUInt64 >>> ((24 : Int32) &&& 0x3f).toInt64.toUInt64).toInt64) &&& (255 : Int64)).toInt32)), (.int (c2 + (1 : Int32))), (.int (3 : Int32)), (.ref b1)]))
  refine own_step (fun _ k => XS.iadd X17.here hx rfl (hb hby d1_65) rfl k) ?_
  show own_Fin p.tables e below _ (T17.setTop (mkF m 66 #[.val (.long q0), .second, .val (.ref b1)] [(.int ((c2 + (1 : Int32)) + ((((q0.toUInt64 >>> ((24 : Int32) &&& 0x3f).toInt64.toUInt64).toInt64) &&& (255 : Int64)).toInt32))), (.int (3 : Int32)), (.ref b1)]))
  obtain ⟨c3, hc3⟩ : ∃ z, z = ((c2 + (1 : Int32)) + ((((q0.toUInt64 >>> ((24 : Int32) &&& 0x3f).toInt64.toUInt64).toInt64) &&& (255 : Int64)).toInt32)) := ⟨_, rfl⟩
  rw [← hc3]
  show own_Fin p.tables e below _ (T17.setTop (mkF m 66 #[.val (.long q0), .second, .val (.ref b1)] [(.int c3), (.int (3 : Int32)), (.ref b1)]))
  have hx3 := own_nx hc3 (by omega) (by omega)
  obtain ⟨cl23, Ar23, q23, S23, M23, H23, G23⟩ := id f20
  have hin23 : ¬ ((3 : Int32) < 0 ∨ cl23.slots.size ≤ ((3 : Int32)).toNatClampNeg) := inb_of S23 ⟨by decide, by decide⟩
  obtain ⟨T23, h23, X23, e23, W23, st23⟩ := stI X17 hx hZ e17 Ar23 (j := (3 : Int32)) hin23 (g := (mkF m 66 #[.val (.long q0), .second, .val (.ref b1)] [(.int c3), (.int (3 : Int32)), (.ref b1)])) rfl rfl (hb hby d1_66)
  refine own_step st23 ?_
  have f24 := Nat.le_trans f18 (Keep.of_wr W23).1
  have f25 := f19.wr W23 (Or.inr sz_b1)
  have f26 : Arv Z h23 b1 k1 .int (5 : Int32) [(.int c0), (.int c1), (.int c2), (.int c3), (.int (0 : Int32))] (.int (0 : Int32)) := Arv.set Ar23 q23 S23 M23 H23 G23 rfl W23 3 rfl (Nat.le_of_ble_eq_true rfl)
  have N27 := Fr.snoc X23 N21 g_b1
  show own_Fin p.tables e below _ (T23.setTop (mkF m 67 #[.val (.long q0), .second, .val (.ref b1)] []))
  refine own_step (fun _ k => XS.aloadN X23.here hx rfl (hb hby d1_67) rfl rfl k) ?_
  show own_Fin p.tables e below _ (T23.setTop (mkF m 68 #[.val (.long q0), .second, .val (.ref b1)] [(.ref b1)]))
  refine own_step (fun _ k => XS.iconst X23.here hx rfl (hb hby d1_68) k) ?_
  show own_Fin p.tables e below _ (T23.setTop (mkF m 69 #[.val (.long q0), .second, .val (.ref b1)] [(.int (4 : Int32)), (.ref b1)]))
  refine own_step (fun _ k => XS.aloadN X23.here hx rfl (hb hby d1_69) rfl rfl k) ?_
  show own_Fin p.tables e below _ (T23.setTop (mkF m 70 #[.val (.long q0), .second, .val (.ref b1)] [(.ref b1), (.int (4 : Int32)), (.ref b1)]))
  refine own_step (fun _ k => XS.iconst X23.here hx rfl (hb hby d1_70) k) ?_
  show own_Fin p.tables e below _ (T23.setTop (mkF m 71 #[.val (.long q0), .second, .val (.ref b1)] [(.int (3 : Int32)), (.ref b1), (.int (4 : Int32)), (.ref b1)]))
  obtain ⟨cl28, Ar28, -, S28, M28, H28, -⟩ := id f26
  have hin28 : ¬ ((3 : Int32) < 0 ∨ cl28.slots.size ≤ ((3 : Int32)).toNatClampNeg) := inb_of S28 ⟨by decide, by decide⟩
  refine own_step (X23.iaload hx (j := (3 : Int32)) (v := (.int c3)) (by first | exact Ar28.1 | (rw [e23]; exact Ar28.1)) (State.isArrayOf_alike hZ.alike Ar28.2.1) Ar28.2.2 hin28 (H28.at hin28 rfl) (g := (mkF m 71 #[.val (.long q0), .second, .val (.ref b1)] [(.int (3 : Int32)), (.ref b1), (.int (4 : Int32)), (.ref b1)])) rfl rfl (hb hby d1_71)) ?_
  show own_Fin p.tables e below _ (T23.setTop (mkF m 72 #[.val (.long q0), .second, .val (.ref b1)] [(.int c3), (.int (4 : Int32)), (.ref b1)]))
  refine own_step (fun _ k => XS.iconst X23.here hx rfl (hb hby d1_72) k) ?_
  show own_Fin p.tables e below _ (T23.setTop (mkF m 73 #[.val (.long q0), .second, .val (.ref b1)] [(.int (1 : Int32)), (.int c3), (.int (4 : Int32)), (.ref b1)]))
  refine own_step (fun _ k => XS.iadd X23.here hx rfl (hb hby d1_73) rfl k) ?_
  show own_Fin p.tables e below _ (T23.setTop (mkF m 74 #[.val (.long q0), .second, .val (.ref b1)] [(.int (c3 + (1 : Int32))), (.int (4 : Int32)), (.ref b1)]))
  refine own_step (fun _ k => XS.lloadN X23.here hx rfl (hb hby d1_74) rfl k) ?_
  show own_Fin p.tables e below _ (T23.setTop (mkF m 75 #[.val (.long q0), .second, .val (.ref b1)] [(.long q0), (.int (c3 + (1 : Int32))), (.int (4 : Int32)), (.ref b1)]))
  refine own_step (fun _ k => XS.bipush X23.here hx rfl (hb hby d1_75) k) ?_
  show own_Fin p.tables e below _ (T23.setTop (mkF m 77 #[.val (.long q0), .second, .val (.ref b1)] [(.int (32 : Int32)), (.long q0), (.int (c3 + (1 : Int32))), (.int (4 : Int32)), (.ref b1)]))
  refine own_step (fun _ k => XS.lushr X23.here hx rfl (hb hby d1_77) rfl k) ?_
  show own_Fin p.tables e below _ (T23.setTop (mkF m 78 #[.val (.long q0), .second, .val (.ref b1)] [(.long ((q0.toUInt64 >>> ((32 : Int32) &&& 0x3f).toInt64.toUInt64).toInt64)), (.int (c3 + (1 : Int32))), (.int (4 : Int32)), (.ref b1)]))
  refine own_step (X23.ldc2Long hx hown (mvT hZ (hw _ (List.mem_of_getElem? (i := 5) rfl))) (g := (mkF m 78 #[.val (.long q0), .second, .val (.ref b1)] [(.long ((q0.toUInt64 >>> ((32 : Int32) &&& 0x3f).toInt64.toUInt64).toInt64)), (.int (c3 + (1 : Int32))), (.int (4 : Int32)), (.ref b1)])) rfl (hb hby d1_78)) ?_
  show own_Fin p.tables e below _ (T23.setTop (mkF m 81 #[.val (.long q0), .second, .val (.ref b1)] [(.long (255 : Int64)), (.long ((q0.toUInt64 >>> ((32 : Int32) &&& 0x3f).toInt64.toUInt64).toInt64)), (.int (c3 + (1 : Int32))), (.int (4 : Int32)), (.ref b1)]))
  refine own_step (fun _ k => XS.land X23.here hx rfl (hb hby d1_81) rfl k) ?_
  show own_Fin p.tables e below _ (T23.setTop (mkF m 82 #[.val (.long q0), .second, .val (.ref b1)] [(.long (((q0.toUInt64 >>> ((32 : Int32) &&& 0x3f).toInt64.toUInt64).toInt64) &&& (255 : Int64))), (.int (c3 + (1 : Int32))), (.int (4 : Int32)), (.ref b1)]))
  refine own_step (fun _ k => XS.l2i X23.here hx rfl (hb hby d1_82) rfl k) ?_
  show own_Fin p.tables e below _ (T23.setTop (mkF m 83 #[.val (.long q0), .second, .val (.ref b1)] [(.int ((((q0.toUInt64 >>> ((32 : Int32) &&& 0x3f).toInt64.toUInt64).toInt64) &&& (255 : Int64)).toInt32)), (.int (c3 + (1 : Int32))), (.int (4 : Int32)), (.ref b1)]))
  refine own_step (fun _ k => XS.iadd X23.here hx rfl (hb hby d1_83) rfl k) ?_
  show own_Fin p.tables e below _ (T23.setTop (mkF m 84 #[.val (.long q0), .second, .val (.ref b1)] [(.int ((c3 + (1 : Int32)) + ((((q0.toUInt64 >>> ((32 : Int32) &&& 0x3f).toInt64.toUInt64).toInt64) &&& (255 : Int64)).toInt32))), (.int (4 : Int32)), (.ref b1)]))
  obtain ⟨c4, hc4⟩ : ∃ z, z = ((c3 + (1 : Int32)) + ((((q0.toUInt64 >>> ((32 : Int32) &&& 0x3f).toInt64.toUInt64).toInt64) &&& (255 : Int64)).toInt32)) := ⟨_, rfl⟩
  rw [← hc4]
  show own_Fin p.tables e below _ (T23.setTop (mkF m 84 #[.val (.long q0), .second, .val (.ref b1)] [(.int c4), (.int (4 : Int32)), (.ref b1)]))
  have hx4 := own_nx hc4 (by omega) (by omega)
  obtain ⟨cl29, Ar29, q29, S29, M29, H29, G29⟩ := id f26
  have hin29 : ¬ ((4 : Int32) < 0 ∨ cl29.slots.size ≤ ((4 : Int32)).toNatClampNeg) := inb_of S29 ⟨by decide, by decide⟩
  obtain ⟨T29, h29, X29, e29, W29, st29⟩ := stI X23 hx hZ e23 Ar29 (j := (4 : Int32)) hin29 (g := (mkF m 84 #[.val (.long q0), .second, .val (.ref b1)] [(.int c4), (.int (4 : Int32)), (.ref b1)])) rfl rfl (hb hby d1_84)
  refine own_step st29 ?_
  have f30 := Nat.le_trans f24 (Keep.of_wr W29).1
  have f31 := f25.wr W29 (Or.inr sz_b1)
  have f32 : Arv Z h29 b1 k1 .int (5 : Int32) [(.int c0), (.int c1), (.int c2), (.int c3), (.int c4)] (.int (0 : Int32)) := Arv.set Ar29 q29 S29 M29 H29 G29 rfl W29 4 rfl (Nat.le_of_ble_eq_true rfl)
  have N33 := Fr.snoc X29 N27 g_b1
  show own_Fin p.tables e below _ (T29.setTop (mkF m 85 #[.val (.long q0), .second, .val (.ref b1)] []))
  refine own_step (fun _ k => XS.aloadN X29.here hx rfl (hb hby d1_85) rfl rfl k) ?_
  show own_Fin p.tables e below _ (T29.setTop (mkF m 86 #[.val (.long q0), .second, .val (.ref b1)] [(.ref b1)]))
  obtain ⟨fs34, hr34, hrun34, hended34, hW34, hsame34⟩ := X29.leave (v := some (.ref b1)) (fun h => by rw [Bd.returns] at h; cases h)
  refine own_ret (X29.areturnOut hx rfl Bd.returns rfl (hb hby d1_86) hr34) hrun34 hended34 ?_
  refine ⟨_, _, rfl, ?_, ⟨_, rfl⟩, hW34, hsame34.mono (by decide) (by decide)⟩
  show Q1 Z q0 h0 n0 _ T29.heap _
  rw [e29]
  exact ⟨_, rfl, N33, f31, sz_b1, g_b1, _, c0, c1, c2, c3, c4, f32, hd0.1, hx1.1, hx2.1, hx3.1, hx4.1⟩
theorem pn_1 : plainName "com/example/fusewright/fusewright/runtime/SparseMatrix" = true := by first | (simp [plainName, overriddenIn]; done) | decide +kernel
theorem ef_2 (m : MethodId) (x0 : Addr) (x1 : Int32) (x2 : Int32) (x3 : Addr) (x4 : Addr) (x5 : Addr) (x6 : UInt64) : entryFrame m #[(.ref x0), (.int x1), (.int x2), (.ref x3), (.ref x4), (.ref x5), (.double x6)] 8 = mkF m 0 #[.val (.ref x0), .val (.int x1), .val (.int x2), .val (.ref x3), .val (.ref x4), .val (.ref x5), .val (.double x6), .second] [] := by first | (simp [entryFrame, mkF, argsToLocals, Value.category]; done) | rfl
def Q2 (Z : State) (ob : Addr) (p1 : Int32) (p2 : Int32) (t3 : Addr) (t4 : Addr) (t5 : Addr) (z6 : UInt64) (u1 u2 u3 u4 u5 u6 : Value) (h0 : Heap) (n0 : Nat) (v : Option Value) (h : Heap) (L : List Loc) : Prop := v = none ∧ Fr n0 L ∧ Keep h0 h [ob] ∧ Exa Z h ob "com/example/fusewright/fusewright/runtime/SparseMatrix" ∧ Fld Z h ob "com/example/fusewright/fusewright/runtime/SparseMatrix" "rows" "I" (.int p1) ∧ Fld Z h ob "com/example/fusewright/fusewright/runtime/SparseMatrix" "columns" "I" (.int p2) ∧ Fld Z h ob "com/example/fusewright/fusewright/runtime/SparseMatrix" "rowStarts" "[I" (.ref t3) ∧ Fld Z h ob "com/example/fusewright/fusewright/runtime/SparseMatrix" "columnIndices" "[I" (.ref t4) ∧ Fld Z h ob "com/example/fusewright/fusewright/runtime/SparseMatrix" "values" "[D" (.ref t5) ∧ Fld Z h ob "com/example/fusewright/fusewright/runtime/SparseMatrix" "zero" "D" (.double z6)
abbrev P2 (Z : State) (ob : Addr) (p1 : Int32) (p2 : Int32) (t3 : Addr) (t4 : Addr) (t5 : Addr) (z6 : UInt64) (u1 u2 u3 u4 u5 u6 : Value) (h0 : Heap) (n0 : Nat) (s : State) : Outcome → State → Prop := fun o U' => ∃ v L, o = .returned v ∧ Q2 Z ob p1 p2 t3 t4 t5 z6 u1 u2 u3 u4 u5 u6 h0 n0 v U'.heap L ∧ FrameEnd s o U' L ({ frames := 1, cells := 0, slots := 0, locals := 12 } : Room).cells ({ frames := 1, cells := 0, slots := 0, locals := 12 } : Room).slots
theorem d2_0 : decode prog_115_method_1_code 0 = .ok (.aload_n 0, 1) := by decide +kernel
theorem d2_1 : decode prog_115_method_1_code 1 = .ok (.invokespecial 3, 3) := by decide +kernel
theorem d2_4 : decode prog_115_method_1_code 4 = .ok (.aload_n 0, 1) := by decide +kernel
theorem d2_5 : decode prog_115_method_1_code 5 = .ok (.iload_n 1, 1) := by decide +kernel
theorem d2_6 : decode prog_115_method_1_code 6 = .ok (.putfield 9, 3) := by decide +kernel
theorem d2_9 : decode prog_115_method_1_code 9 = .ok (.aload_n 0, 1) := by decide +kernel
theorem d2_10 : decode prog_115_method_1_code 10 = .ok (.iload_n 2, 1) := by decide +kernel
theorem d2_11 : decode prog_115_method_1_code 11 = .ok (.putfield 15, 3) := by decide +kernel
theorem d2_14 : decode prog_115_method_1_code 14 = .ok (.aload_n 0, 1) := by decide +kernel
theorem d2_15 : decode prog_115_method_1_code 15 = .ok (.aload_n 3, 1) := by decide +kernel
theorem d2_16 : decode prog_115_method_1_code 16 = .ok (.putfield 18, 3) := by decide +kernel
theorem d2_19 : decode prog_115_method_1_code 19 = .ok (.aload_n 0, 1) := by decide +kernel
theorem d2_20 : decode prog_115_method_1_code 20 = .ok (.aload 4, 2) := by decide +kernel
theorem d2_22 : decode prog_115_method_1_code 22 = .ok (.putfield 22, 3) := by decide +kernel
theorem d2_25 : decode prog_115_method_1_code 25 = .ok (.aload_n 0, 1) := by decide +kernel
theorem d2_26 : decode prog_115_method_1_code 26 = .ok (.aload 5, 2) := by decide +kernel
theorem d2_28 : decode prog_115_method_1_code 28 = .ok (.putfield 25, 3) := by decide +kernel
theorem d2_31 : decode prog_115_method_1_code 31 = .ok (.aload_n 0, 1) := by decide +kernel
theorem d2_32 : decode prog_115_method_1_code 32 = .ok (.dload 6, 2) := by decide +kernel
theorem d2_34 : decode prog_115_method_1_code 34 = .ok (.putfield 29, 3) := by decide +kernel
theorem d2_37 : decode prog_115_method_1_code 37 = .ok (.return_, 1) := by decide +kernel
set_option maxRecDepth 65536 in
set_option maxHeartbeats 40000000 in
theorem rm2 (l : Launch) (Z : State) (a0 : Array Value) (hw : ∀ d ∈ tables_1, d.before a0 Z = true) (ws : List Jvm.Cond) (ob : Addr) (p1 : Int32) (p2 : Int32) (t3 : Addr) (t4 : Addr) (t5 : Addr) (z6 : UInt64) (u1 u2 u3 u4 u5 u6 : Value) (h0 : Heap) (n0 : Nat) (Z0 : n0 ≤ h0.size) (F0_0 : Fld Z h0 ob "com/example/fusewright/fusewright/runtime/SparseMatrix" "rows" "I" u1) (F1_0 : Fld Z h0 ob "com/example/fusewright/fusewright/runtime/SparseMatrix" "columns" "I" u2) (F2_0 : Fld Z h0 ob "com/example/fusewright/fusewright/runtime/SparseMatrix" "rowStarts" "[I" u3) (F3_0 : Fld Z h0 ob "com/example/fusewright/fusewright/runtime/SparseMatrix" "columnIndices" "[I" u4) (F4_0 : Fld Z h0 ob "com/example/fusewright/fusewright/runtime/SparseMatrix" "values" "[D" u5) (F5_0 : Fld Z h0 ob "com/example/fusewright/fusewright/runtime/SparseMatrix" "zero" "D" u6) (Ex0 : Exa Z h0 ob "com/example/fusewright/fusewright/runtime/SparseMatrix") (g_ob : n0 ≤ ob) :
    MetFree l (⟨"com/example/fusewright/fusewright/runtime/SparseMatrix", "<init>", "(II[I[I[DD)V"⟩ : MethodName) (head1 (Jvm.Cond.code (⟨"com/example/fusewright/fusewright/runtime/SparseMatrix", "<init>", "(II[I[I[DD)V"⟩ : MethodName) prog_115_method_1_code 8 none :: ws) ({ frames := 1, cells := 0, slots := 0, locals := 12 } : Room)) (fun a U => a = #[(.ref ob), (.int p1), (.int p2), (.ref t3), (.ref t4), (.ref t5), (.double z6)] ∧ Z.Warmed39 U.vm ∧ U.heap = h0) (fun _ _ _ _ _ => True) (fun _ U o U' => ∃ v L, o = .returned v ∧ Q2 Z ob p1 p2 t3 t4 t5 z6 u1 u2 u3 u4 u5 u6 h0 n0 v U'.heap L ∧ FrameEnd U o U' L ({ frames := 1, cells := 0, slots := 0, locals := 12 } : Room).cells ({ frames := 1, cells := 0, slots := 0, locals := 12 } : Room).slots) := by
  refine MetFree.of_bodySF (plainFor_of_name pn_1) hisR ?_
  intro p e s m args below meth c s₁ Bd hml0 hP hK
  obtain ⟨rfl, hZ, hh⟩ := hP
  have hx := Bd.exec
  have hby := Bd.bytes
  have hml : c.maxLocals = 8 := hml0
  have hown : s.vm.findClass "com/example/fusewright/fusewright/runtime/SparseMatrix" = some m.cls := findClass_of_methodNamed Bd.named
  have hnm := (name_of_methodNamed Bd.named Bd.method).1
  have X0 : Stand p l e ({ frames := 1, cells := 0, slots := 0, locals := 12 } : Room) s m #[(.ref ob), (.int p1), (.int p2), (.ref t3), (.ref t4), (.ref t5), (.double z6)] below meth c s₁ [] 0 0 := Stand.of_body Bd
  have e0 : s₁.heap = h0 := by rw [← hh, Bd.state]; rfl
  have N0 := Fr.nil n0
  refine own_enter (P := (P2 Z ob p1 p2 t3 t4 t5 z6 u1 u2 u3 u4 u5 u6 h0 n0 s)) (ef_2 m ob p1 p2 t3 t4 t5 z6) ?_
  have K0 : Keep h0 h0 [ob] := Keep.refl h0 _
  show own_Fin p.tables e below _ (s₁.setTop (mkF m 0 #[.val (.ref ob), .val (.int p1), .val (.int p2), .val (.ref t3), .val (.ref t4), .val (.ref t5), .val (.double z6), .second] []))
  refine own_step (fun _ k => XS.aloadN X0.here hx rfl (hb hby d2_0) rfl rfl k) ?_
  show own_Fin p.tables e below _ (s₁.setTop (mkF m 1 #[.val (.ref ob), .val (.int p1), .val (.int p2), .val (.ref t3), .val (.ref t4), .val (.ref t5), .val (.double z6), .second] [(.ref ob)]))
  obtain ⟨T1, X1, e1, st1⟩ := initO X0 hx hZ hown (hw _ (List.mem_of_getElem? (i := 14) rfl)) (hw _ (List.mem_of_getElem? (i := 15) rfl)) (hw _ (List.mem_of_getElem? (i := 16) rfl)) e0 (g := (mkF m 1 #[.val (.ref ob), .val (.int p1), .val (.int p2), .val (.ref t3), .val (.ref t4), .val (.ref t5), .val (.double z6), .second] [(.ref ob)])) rfl (by rw [hml]; rfl) rfl (hb hby d2_1) (by decide) (W := 0) (by show 2 * 0 + _ ≤ _; exact Nat.le_of_eq rfl) (by decide)
  refine own_step st1 ?_
  show own_Fin p.tables e below _ (T1.setTop (mkF m 4 #[.val (.ref ob), .val (.int p1), .val (.int p2), .val (.ref t3), .val (.ref t4), .val (.ref t5), .val (.double z6), .second] []))
  refine own_step (fun _ k => XS.aloadN X1.here hx rfl (hb hby d2_4) rfl rfl k) ?_
  show own_Fin p.tables e below _ (T1.setTop (mkF m 5 #[.val (.ref ob), .val (.int p1), .val (.int p2), .val (.ref t3), .val (.ref t4), .val (.ref t5), .val (.double z6), .second] [(.ref ob)]))
  refine own_step (fun _ k => XS.iloadN X1.here hx rfl (hb hby d2_5) rfl k) ?_
  show own_Fin p.tables e below _ (T1.setTop (mkF m 6 #[.val (.ref ob), .val (.int p1), .val (.int p2), .val (.ref t3), .val (.ref t4), .val (.ref t5), .val (.double z6), .second] [(.int p1), (.ref ob)]))
  obtain ⟨T2, h2, X2, e2, W2, st2⟩ := putF X1 hx hZ hown (host := "") (Or.inl (hw _ (List.mem_of_getElem? (i := 17) rfl))) Via.refl e1 F0_0 Ex0 (Or.inr ⟨(hw _ (List.mem_of_getElem? (i := 18) rfl)), rfl, hnm⟩) (hw _ (List.mem_of_getElem? (i := 8) rfl)) (ty := .int) (by decide) rfl rfl (g := (mkF m 6 #[.val (.ref ob), .val (.int p1), .val (.int p2), .val (.ref t3), .val (.ref t4), .val (.ref t5), .val (.double z6), .second] [(.int p1), (.ref ob)])) rfl rfl (hb hby d2_6)
  refine own_step st2 ?_
  have f3 := Nat.le_trans Z0 (Keep.of_wr W2).1
  have f4 := F1_0.other W2 (Or.inr (slot_ne (Or.inr (hw _ (List.mem_of_getElem? (i := 20) rfl))) (Or.inr (hw _ (List.mem_of_getElem? (i := 18) rfl))) (by decide) (t := .int) (t' := .int) (by decide) (by decide)))
  have f5 := F2_0.other W2 (Or.inr (slot_ne (Or.inr (hw _ (List.mem_of_getElem? (i := 22) rfl))) (Or.inr (hw _ (List.mem_of_getElem? (i := 18) rfl))) (by decide) (t := (.array .int)) (t' := .int) (by decide) (by decide)))
  have f6 := F3_0.other W2 (Or.inr (slot_ne (Or.inr (hw _ (List.mem_of_getElem? (i := 24) rfl))) (Or.inr (hw _ (List.mem_of_getElem? (i := 18) rfl))) (by decide) (t := (.array .int)) (t' := .int) (by decide) (by decide)))
  have f7 := F4_0.other W2 (Or.inr (slot_ne (Or.inr (hw _ (List.mem_of_getElem? (i := 26) rfl))) (Or.inr (hw _ (List.mem_of_getElem? (i := 18) rfl))) (by decide) (t := (.array .double)) (t' := .int) (by decide) (by decide)))
  have f8 := F5_0.other W2 (Or.inr (slot_ne (Or.inr (hw _ (List.mem_of_getElem? (i := 28) rfl))) (Or.inr (hw _ (List.mem_of_getElem? (i := 18) rfl))) (by decide) (t := .double) (t' := .int) (by decide) (by decide)))
  have f9 := Ex0.wr W2
  have f10 := K0.wr W2 (Or.inl (List.mem_of_getElem? (i := 0) rfl))
  have f11 := F0_0.same W2
  have N12 := Fr.snoc X2 N0 g_ob
  show own_Fin p.tables e below _ (T2.setTop (mkF m 9 #[.val (.ref ob), .val (.int p1), .val (.int p2), .val (.ref t3), .val (.ref t4), .val (.ref t5), .val (.double z6), .second] []))
  refine own_step (fun _ k => XS.aloadN X2.here hx rfl (hb hby d2_9) rfl rfl k) ?_
  show own_Fin p.tables e below _ (T2.setTop (mkF m 10 #[.val (.ref ob), .val (.int p1), .val (.int p2), .val (.ref t3), .val (.ref t4), .val (.ref t5), .val (.double z6), .second] [(.ref ob)]))
  refine own_step (fun _ k => XS.iloadN X2.here hx rfl (hb hby d2_10) rfl k) ?_
  show own_Fin p.tables e below _ (T2.setTop (mkF m 11 #[.val (.ref ob), .val (.int p1), .val (.int p2), .val (.ref t3), .val (.ref t4), .val (.ref t5), .val (.double z6), .second] [(.int p2), (.ref ob)]))
  obtain ⟨T13, h13, X13, e13, W13, st13⟩ := putF X2 hx hZ hown (host := "") (Or.inl (hw _ (List.mem_of_getElem? (i := 19) rfl))) Via.refl e2 f4 f9 (Or.inr ⟨(hw _ (List.mem_of_getElem? (i := 20) rfl)), rfl, hnm⟩) (hw _ (List.mem_of_getElem? (i := 8) rfl)) (ty := .int) (by decide) rfl rfl (g := (mkF m 11 #[.val (.ref ob), .val (.int p1), .val (.int p2), .val (.ref t3), .val (.ref t4), .val (.ref t5), .val (.double z6), .second] [(.int p2), (.ref ob)])) rfl rfl (hb hby d2_11)
  refine own_step st13 ?_
  have f14 := Nat.le_trans f3 (Keep.of_wr W13).1
  have f15 := f11.other W13 (Or.inr (slot_ne (Or.inr (hw _ (List.mem_of_getElem? (i := 18) rfl))) (Or.inr (hw _ (List.mem_of_getElem? (i := 20) rfl))) (by decide) (t := .int) (t' := .int) (by decide) (by decide)))
  have f16 := f5.other W13 (Or.inr (slot_ne (Or.inr (hw _ (List.mem_of_getElem? (i := 22) rfl))) (Or.inr (hw _ (List.mem_of_getElem? (i := 20) rfl))) (by decide) (t := (.array .int)) (t' := .int) (by decide) (by decide)))
  have f17 := f6.other W13 (Or.inr (slot_ne (Or.inr (hw _ (List.mem_of_getElem? (i := 24) rfl))) (Or.inr (hw _ (List.mem_of_getElem? (i := 20) rfl))) (by decide) (t := (.array .int)) (t' := .int) (by decide) (by decide)))
  have f18 := f7.other W13 (Or.inr (slot_ne (Or.inr (hw _ (List.mem_of_getElem? (i := 26) rfl))) (Or.inr (hw _ (List.mem_of_getElem? (i := 20) rfl))) (by decide) (t := (.array .double)) (t' := .int) (by decide) (by decide)))
  have f19 := f8.other W13 (Or.inr (slot_ne (Or.inr (hw _ (List.mem_of_getElem? (i := 28) rfl))) (Or.inr (hw _ (List.mem_of_getElem? (i := 20) rfl))) (by decide) (t := .double) (t' := .int) (by decide) (by decide)))
  have f20 := f9.wr W13
  have f21 := f10.wr W13 (Or.inl (List.mem_of_getElem? (i := 0) rfl))
  have f22 := f4.same W13
  have N23 := Fr.snoc X13 N12 g_ob
  show own_Fin p.tables e below _ (T13.setTop (mkF m 14 #[.val (.ref ob), .val (.int p1), .val (.int p2), .val (.ref t3), .val (.ref t4), .val (.ref t5), .val (.double z6), .second] []))
  refine own_step (fun _ k => XS.aloadN X13.here hx rfl (hb hby d2_14) rfl rfl k) ?_
  show own_Fin p.tables e below _ (T13.setTop (mkF m 15 #[.val (.ref ob), .val (.int p1), .val (.int p2), .val (.ref t3), .val (.ref t4), .val (.ref t5), .val (.double z6), .second] [(.ref ob)]))
  refine own_step (fun _ k => XS.aloadN X13.here hx rfl (hb hby d2_15) rfl rfl k) ?_
  show own_Fin p.tables e below _ (T13.setTop (mkF m 16 #[.val (.ref ob), .val (.int p1), .val (.int p2), .val (.ref t3), .val (.ref t4), .val (.ref t5), .val (.double z6), .second] [(.ref t3), (.ref ob)]))
  obtain ⟨T24, h24, X24, e24, W24, st24⟩ := putF X13 hx hZ hown (host := "") (Or.inl (hw _ (List.mem_of_getElem? (i := 21) rfl))) Via.refl e13 f16 f20 (Or.inr ⟨(hw _ (List.mem_of_getElem? (i := 22) rfl)), rfl, hnm⟩) (hw _ (List.mem_of_getElem? (i := 8) rfl)) (ty := (.array .int)) (by decide) rfl rfl (g := (mkF m 16 #[.val (.ref ob), .val (.int p1), .val (.int p2), .val (.ref t3), .val (.ref t4), .val (.ref t5), .val (.double z6), .second] [(.ref t3), (.ref ob)])) rfl rfl (hb hby d2_16)
  refine own_step st24 ?_
  have f25 := Nat.le_trans f14 (Keep.of_wr W24).1
  have f26 := f15.other W24 (Or.inr (slot_ne (Or.inr (hw _ (List.mem_of_getElem? (i := 18) rfl))) (Or.inr (hw _ (List.mem_of_getElem? (i := 22) rfl))) (by decide) (t := .int) (t' := (.array .int)) (by decide) (by decide)))
  have f27 := f22.other W24 (Or.inr (slot_ne (Or.inr (hw _ (List.mem_of_getElem? (i := 20) rfl))) (Or.inr (hw _ (List.mem_of_getElem? (i := 22) rfl))) (by decide) (t := .int) (t' := (.array .int)) (by decide) (by decide)))
  have f28 := f17.other W24 (Or.inr (slot_ne (Or.inr (hw _ (List.mem_of_getElem? (i := 24) rfl))) (Or.inr (hw _ (List.mem_of_getElem? (i := 22) rfl))) (by decide) (t := (.array .int)) (t' := (.array .int)) (by decide) (by decide)))
  have f29 := f18.other W24 (Or.inr (slot_ne (Or.inr (hw _ (List.mem_of_getElem? (i := 26) rfl))) (Or.inr (hw _ (List.mem_of_getElem? (i := 22) rfl))) (by decide) (t := (.array .double)) (t' := (.array .int)) (by decide) (by decide)))
  have f30 := f19.other W24 (Or.inr (slot_ne (Or.inr (hw _ (List.mem_of_getElem? (i := 28) rfl))) (Or.inr (hw _ (List.mem_of_getElem? (i := 22) rfl))) (by decide) (t := .double) (t' := (.array .int)) (by decide) (by decide)))
  have f31 := f20.wr W24
  have f32 := f21.wr W24 (Or.inl (List.mem_of_getElem? (i := 0) rfl))
  have f33 := f16.same W24
  have N34 := Fr.snoc X24 N23 g_ob
  show own_Fin p.tables e below _ (T24.setTop (mkF m 19 #[.val (.ref ob), .val (.int p1), .val (.int p2), .val (.ref t3), .val (.ref t4), .val (.ref t5), .val (.double z6), .second] []))
  refine own_step (fun _ k => XS.aloadN X24.here hx rfl (hb hby d2_19) rfl rfl k) ?_
  show own_Fin p.tables e below _ (T24.setTop (mkF m 20 #[.val (.ref ob), .val (.int p1), .val (.int p2), .val (.ref t3), .val (.ref t4), .val (.ref t5), .val (.double z6), .second] [(.ref ob)]))
  refine own_step (fun _ k => XS.aload X24.here hx rfl (hb hby d2_20) rfl rfl k) ?_
  show own_Fin p.tables e below _ (T24.setTop (mkF m 22 #[.val (.ref ob), .val (.int p1), .val (.int p2), .val (.ref t3), .val (.ref t4), .val (.ref t5), .val (.double z6), .second] [(.ref t4), (.ref ob)]))
  obtain ⟨T35, h35, X35, e35, W35, st35⟩ := putF X24 hx hZ hown (host := "") (Or.inl (hw _ (List.mem_of_getElem? (i := 23) rfl))) Via.refl e24 f28 f31 (Or.inr ⟨(hw _ (List.mem_of_getElem? (i := 24) rfl)), rfl, hnm⟩) (hw _ (List.mem_of_getElem? (i := 8) rfl)) (ty := (.array .int)) (by decide) rfl rfl (g := (mkF m 22 #[.val (.ref ob), .val (.int p1), .val (.int p2), .val (.ref t3), .val (.ref t4), .val (.ref t5), .val (.double z6), .second] [(.ref t4), (.ref ob)])) rfl rfl (hb hby d2_22)
  refine own_step st35 ?_
  have f36 := Nat.le_trans f25 (Keep.of_wr W35).1
  have f37 := f26.other W35 (Or.inr (slot_ne (Or.inr (hw _ (List.mem_of_getElem? (i := 18) rfl))) (Or.inr (hw _ (List.mem_of_getElem? (i := 24) rfl))) (by decide) (t := .int) (t' := (.array .int)) (by decide) (by decide)))
  have f38 := f27.other W35 (Or.inr (slot_ne (Or.inr (hw _ (List.mem_of_getElem? (i := 20) rfl))) (Or.inr (hw _ (List.mem_of_getElem? (i := 24) rfl))) (by decide) (t := .int) (t' := (.array .int)) (by decide) (by decide)))
  have f39 := f33.other W35 (Or.inr (slot_ne (Or.inr (hw _ (List.mem_of_getElem? (i := 22) rfl))) (Or.inr (hw _ (List.mem_of_getElem? (i := 24) rfl))) (by decide) (t := (.array .int)) (t' := (.array .int)) (by decide) (by decide)))
  have f40 := f29.other W35 (Or.inr (slot_ne (Or.inr (hw _ (List.mem_of_getElem? (i := 26) rfl))) (Or.inr (hw _ (List.mem_of_getElem? (i := 24) rfl))) (by decide) (t := (.array .double)) (t' := (.array .int)) (by decide) (by decide)))
  have f41 := f30.other W35 (Or.inr (slot_ne (Or.inr (hw _ (List.mem_of_getElem? (i := 28) rfl))) (Or.inr (hw _ (List.mem_of_getElem? (i := 24) rfl))) (by decide) (t := .double) (t' := (.array .int)) (by decide) (by decide)))
  have f42 := f31.wr W35
  have f43 := f32.wr W35 (Or.inl (List.mem_of_getElem? (i := 0) rfl))
  have f44 := f28.same W35
  have N45 := Fr.snoc X35 N34 g_ob
  show own_Fin p.tables e below _ (T35.setTop (mkF m 25 #[.val (.ref ob), .val (.int p1), .val (.int p2), .val (.ref t3), .val (.ref t4), .val (.ref t5), .val (.double z6), .second] []))
  refine own_step (fun _ k => XS.aloadN X35.here hx rfl (hb hby d2_25) rfl rfl k) ?_
  show own_Fin p.tables e below _ (T35.setTop (mkF m 26 #[.val (.ref ob), .val (.int p1), .val (.int p2), .val (.ref t3), .val (.ref t4), .val (.ref t5), .val (.double z6), .second] [(.ref ob)]))
  refine own_step (fun _ k => XS.aload X35.here hx rfl (hb hby d2_26) rfl rfl k) ?_
  show own_Fin p.tables e below _ (T35.setTop (mkF m 28 #[.val (.ref ob), .val (.int p1), .val (.int p2), .val (.ref t3), .val (.ref t4), .val (.ref t5), .val (.double z6), .second] [(.ref t5), (.ref ob)]))
  obtain ⟨T46, h46, X46, e46, W46, st46⟩ := putF X35 hx hZ hown (host := "") (Or.inl (hw _ (List.mem_of_getElem? (i := 25) rfl))) Via.refl e35 f40 f42 (Or.inr ⟨(hw _ (List.mem_of_getElem? (i := 26) rfl)), rfl, hnm⟩) (hw _ (List.mem_of_getElem? (i := 8) rfl)) (ty := (.array .double)) (by decide) rfl rfl (g := (mkF m 28 #[.val (.ref ob), .val (.int p1), .val (.int p2), .val (.ref t3), .val (.ref t4), .val (.ref t5), .val (.double z6), .second] [(.ref t5), (.ref ob)])) rfl rfl (hb hby d2_28)
  refine own_step st46 ?_
  have f47 := Nat.le_trans f36 (Keep.of_wr W46).1
  have f48 := f37.other W46 (Or.inr (slot_ne (Or.inr (hw _ (List.mem_of_getElem? (i := 18) rfl))) (Or.inr (hw _ (List.mem_of_getElem? (i := 26) rfl))) (by decide) (t := .int) (t' := (.array .double)) (by decide) (by decide)))
  have f49 := f38.other W46 (Or.inr (slot_ne (Or.inr (hw _ (List.mem_of_getElem? (i := 20) rfl))) (Or.inr (hw _ (List.mem_of_getElem? (i := 26) rfl))) (by decide) (t := .int) (t' := (.array .double)) (by decide) (by decide)))
  have f50 := f39.other W46 (Or.inr (slot_ne (Or.inr (hw _ (List.mem_of_getElem? (i := 22) rfl))) (Or.inr (hw _ (List.mem_of_getElem? (i := 26) rfl))) (by decide) (t := (.array .int)) (t' := (.array .double)) (by decide) (by decide)))
  have f51 := f44.other W46 (Or.inr (slot_ne (Or.inr (hw _ (List.mem_of_getElem? (i := 24) rfl))) (Or.inr (hw _ (List.mem_of_getElem? (i := 26) rfl))) (by decide) (t := (.array .int)) (t' := (.array .double)) (by decide) (by decide)))
  have f52 := f41.other W46 (Or.inr (slot_ne (Or.inr (hw _ (List.mem_of_getElem? (i := 28) rfl))) (Or.inr (hw _ (List.mem_of_getElem? (i := 26) rfl))) (by decide) (t := .double) (t' := (.array .double)) (by decide) (by decide)))
  have f53 := f42.wr W46
  have f54 := f43.wr W46 (Or.inl (List.mem_of_getElem? (i := 0) rfl))
  have f55 := f40.same W46
  have N56 := Fr.snoc X46 N45 g_ob
  show own_Fin p.tables e below _ (T46.setTop (mkF m 31 #[.val (.ref ob), .val (.int p1), .val (.int p2), .val (.ref t3), .val (.ref t4), .val (.ref t5), .val (.double z6), .second] []))
  refine own_step (fun _ k => XS.aloadN X46.here hx rfl (hb hby d2_31) rfl rfl k) ?_
  show own_Fin p.tables e below _ (T46.setTop (mkF m 32 #[.val (.ref ob), .val (.int p1), .val (.int p2), .val (.ref t3), .val (.ref t4), .val (.ref t5), .val (.double z6), .second] [(.ref ob)]))
  refine own_step (fun _ k => own_dload X46.here hx rfl (hb hby d2_32) rfl k) ?_
  show own_Fin p.tables e below _ (T46.setTop (mkF m 34 #[.val (.ref ob), .val (.int p1), .val (.int p2), .val (.ref t3), .val (.ref t4), .val (.ref t5), .val (.double z6), .second] [(.double z6), (.ref ob)]))
  obtain ⟨T57, h57, X57, e57, W57, st57⟩ := putF X46 hx hZ hown (host := "") (Or.inl (hw _ (List.mem_of_getElem? (i := 27) rfl))) Via.refl e46 f52 f53 (Or.inr ⟨(hw _ (List.mem_of_getElem? (i := 28) rfl)), rfl, hnm⟩) (hw _ (List.mem_of_getElem? (i := 8) rfl)) (ty := .double) (by decide) rfl rfl (g := (mkF m 34 #[.val (.ref ob), .val (.int p1), .val (.int p2), .val (.ref t3), .val (.ref t4), .val (.ref t5), .val (.double z6), .second] [(.double z6), (.ref ob)])) rfl rfl (hb hby d2_34)
  refine own_step st57 ?_
  have f58 := Nat.le_trans f47 (Keep.of_wr W57).1
  have f59 := f48.other W57 (Or.inr (slot_ne (Or.inr (hw _ (List.mem_of_getElem? (i := 18) rfl))) (Or.inr (hw _ (List.mem_of_getElem? (i := 28) rfl))) (by decide) (t := .int) (t' := .double) (by decide) (by decide)))
  have f60 := f49.other W57 (Or.inr (slot_ne (Or.inr (hw _ (List.mem_of_getElem? (i := 20) rfl))) (Or.inr (hw _ (List.mem_of_getElem? (i := 28) rfl))) (by decide) (t := .int) (t' := .double) (by decide) (by decide)))
  have f61 := f50.other W57 (Or.inr (slot_ne (Or.inr (hw _ (List.mem_of_getElem? (i := 22) rfl))) (Or.inr (hw _ (List.mem_of_getElem? (i := 28) rfl))) (by decide) (t := (.array .int)) (t' := .double) (by decide) (by decide)))
  have f62 := f51.other W57 (Or.inr (slot_ne (Or.inr (hw _ (List.mem_of_getElem? (i := 24) rfl))) (Or.inr (hw _ (List.mem_of_getElem? (i := 28) rfl))) (by decide) (t := (.array .int)) (t' := .double) (by decide) (by decide)))
  have f63 := f55.other W57 (Or.inr (slot_ne (Or.inr (hw _ (List.mem_of_getElem? (i := 26) rfl))) (Or.inr (hw _ (List.mem_of_getElem? (i := 28) rfl))) (by decide) (t := (.array .double)) (t' := .double) (by decide) (by decide)))
  have f64 := f53.wr W57
  have f65 := f54.wr W57 (Or.inl (List.mem_of_getElem? (i := 0) rfl))
  have f66 := f52.same W57
  have N67 := Fr.snoc X57 N56 g_ob
  show own_Fin p.tables e below _ (T57.setTop (mkF m 37 #[.val (.ref ob), .val (.int p1), .val (.int p2), .val (.ref t3), .val (.ref t4), .val (.ref t5), .val (.double z6), .second] []))
  obtain ⟨fs68, hr68, hrun68, hended68, hW68, hsame68⟩ := X57.leave (v := none) (fun _ => rfl)
  refine own_ret (X57.returnOut hx Bd.returns (hb hby d2_37) hr68) hrun68 hended68 ?_
  refine ⟨_, _, rfl, ?_, ⟨_, rfl⟩, hW68, hsame68.mono (by decide) (by decide)⟩
  show Q2 Z ob p1 p2 t3 t4 t5 z6 u1 u2 u3 u4 u5 u6 h0 n0 _ T57.heap _
  rw [e57]
  exact ⟨rfl, N67, f65, f64, f59, f60, f61, f62, f63, f66⟩
theorem ef_4 (m : MethodId) (x0 : Addr) (x1 : Int32) (x2 : Int32) (x3 : Int32) : entryFrame m #[(.ref x0), (.int x1), (.int x2), (.int x3)] 4 = mkF m 0 #[.val (.ref x0), .val (.int x1), .val (.int x2), .val (.int x3)] [] := by first | (simp [entryFrame, mkF, argsToLocals, Value.category]; done) | rfl
def Q4 (Z : State) (ts : Addr) (nn : Int32) (kk : Int32) (col : Int32) (g : Nat → Int32) (h0 : Heap) (n0 : Nat) (v : Option Value) (h : Heap) (L : List Loc) : Prop := v = some (.int (own_bel g nn kk col)) ∧ Fr n0 L ∧ h = h0
abbrev P4 (Z : State) (ts : Addr) (nn : Int32) (kk : Int32) (col : Int32) (g : Nat → Int32) (h0 : Heap) (n0 : Nat) (s : State) : Outcome → State → Prop := fun o U' => ∃ v L, o = .returned v ∧ Q4 Z ts nn kk col g h0 n0 v U'.heap L ∧ FrameEnd s o U' L ({ frames := 0, cells := 0, slots := 0, locals := 0 } : Room).cells ({ frames := 0, cells := 0, slots := 0, locals := 0 } : Room).slots
theorem d4_0 : decode method_3_code 0 = .ok (.iload_n 2, 1) := by decide +kernel
theorem d4_1 : decode method_3_code 1 = .ok (.iload_n 1, 1) := by decide +kernel
theorem d4_2 : decode method_3_code 2 = .ok (.if_icmp .ge 14, 3) := by decide +kernel
theorem d4_5 : decode method_3_code 5 = .ok (.aload_n 0, 1) := by decide +kernel
theorem d4_6 : decode method_3_code 6 = .ok (.iload_n 2, 1) := by decide +kernel
theorem d4_7 : decode method_3_code 7 = .ok (.iaload, 1) := by decide +kernel
theorem d4_8 : decode method_3_code 8 = .ok (.iload_n 3, 1) := by decide +kernel
theorem d4_9 : decode method_3_code 9 = .ok (.if_icmp .ge 7, 3) := by decide +kernel
theorem d4_12 : decode method_3_code 12 = .ok (.iconst 1, 1) := by decide +kernel
theorem d4_13 : decode method_3_code 13 = .ok (.goto 4, 3) := by decide +kernel
theorem d4_16 : decode method_3_code 16 = .ok (.iconst 0, 1) := by decide +kernel
theorem d4_17 : decode method_3_code 17 = .ok (.ireturn, 1) := by decide +kernel
set_option maxRecDepth 65536 in
set_option maxHeartbeats 40000000 in
theorem rm4 (l : Launch) (Z : State) (a0 : Array Value) (hw : ∀ d ∈ tables_1, d.before a0 Z = true) (ws : List Jvm.Cond) (ts : Addr) (nn : Int32) (kk : Int32) (col : Int32) (g : Nat → Int32) (h0 : Heap) (n0 : Nat) (Z0 : n0 ≤ h0.size) (Ga0 : own_Arf Z h0 ts .int 5 (fun i => .int (g i))) (hk0 : 0 ≤ kk.toInt) (hk1 : kk.toInt < 5) :
    MetFree l (⟨"com/example/fusewright/fusewright/runtime/SparseMatrixFirstAtOrAfterPinLaw", "below", "([IIII)I"⟩ : MethodName) (head1 (Jvm.Cond.code (⟨"com/example/fusewright/fusewright/runtime/SparseMatrixFirstAtOrAfterPinLaw", "below", "([IIII)I"⟩ : MethodName) method_3_code 4 (some .int) :: ws) ({ frames := 0, cells := 0, slots := 0, locals := 0 } : Room)) (fun a U => a = #[(.ref ts), (.int nn), (.int kk), (.int col)] ∧ Z.Warmed39 U.vm ∧ U.heap = h0) (fun _ _ _ _ _ => True) (fun _ U o U' => ∃ v L, o = .returned v ∧ Q4 Z ts nn kk col g h0 n0 v U'.heap L ∧ FrameEnd U o U' L ({ frames := 0, cells := 0, slots := 0, locals := 0 } : Room).cells ({ frames := 0, cells := 0, slots := 0, locals := 0 } : Room).slots) := by
  refine MetFree.of_bodySF (plainFor_of_name pn_0) hisR ?_
  intro p e s m args below meth c s₁ Bd hml0 hP hK
  obtain ⟨rfl, hZ, hh⟩ := hP
  have hx := Bd.exec
  have hby := Bd.bytes
  have hml : c.maxLocals = 4 := hml0
  have hown : s.vm.findClass "com/example/fusewright/fusewright/runtime/SparseMatrixFirstAtOrAfterPinLaw" = some m.cls := findClass_of_methodNamed Bd.named
  have hnm := (name_of_methodNamed Bd.named Bd.method).1
  have X0 : Stand p l e ({ frames := 0, cells := 0, slots := 0, locals := 0 } : Room) s m #[(.ref ts), (.int nn), (.int kk), (.int col)] below meth c s₁ [] 0 0 := Stand.of_body Bd
  have e0 : s₁.heap = h0 := by rw [← hh, Bd.state]; rfl
  have N0 := Fr.nil n0
  refine own_enter (P := (P4 Z ts nn kk col g h0 n0 s)) (ef_4 m ts nn kk col) ?_
  show own_Fin p.tables e below _ (s₁.setTop (mkF m 0 #[.val (.ref ts), .val (.int nn), .val (.int kk), .val (.int col)] []))
  refine own_step (fun _ k => XS.iloadN X0.here hx rfl (hb hby d4_0) rfl k) ?_
  show own_Fin p.tables e below _ (s₁.setTop (mkF m 1 #[.val (.ref ts), .val (.int nn), .val (.int kk), .val (.int col)] [(.int kk)]))
  refine own_step (fun _ k => XS.iloadN X0.here hx rfl (hb hby d4_1) rfl k) ?_
  show own_Fin p.tables e below _ (s₁.setTop (mkF m 2 #[.val (.ref ts), .val (.int nn), .val (.int kk), .val (.int col)] [(.int nn), (.int kk)]))
  have J2 : ∀ (T3 : State) (locs3 : List Loc) (y4 : Int32) (X3 : Stand p l e ({ frames := 0, cells := 0, slots := 0, locals := 0 } : Room) s m #[(.ref ts), (.int nn), (.int kk), (.int col)] below meth c T3 locs3 0 0) (e3 : T3.heap = h0) (N3 : Fr n0 locs3) (gy4 : y4 = (if kk < nn then (if (g (kk).toNatClampNeg) < col then (1 : Int32) else (0 : Int32)) else (0 : Int32))), own_Fin p.tables e below (P4 Z ts nn kk col g h0 n0 s) (T3.setTop (mkF m 17 #[.val (.ref ts), .val (.int nn), .val (.int kk), .val (.int col)] [(.int y4)])) := by
    intro T3 locs3 y4 X3 e3 N3 gy4
    obtain ⟨fs5, hr5, hrun5, hended5, hW5, hsame5⟩ := X3.leave (v := some (.int y4)) (fun h => by rw [Bd.returns] at h; cases h)
    refine own_ret (retI X3 hx Bd.returns (hb hby d4_17) hr5) hrun5 hended5 ?_
    refine ⟨_, _, rfl, ?_, ⟨_, rfl⟩, hW5, hsame5.mono (by decide) (by decide)⟩
    show Q4 Z ts nn kk col g h0 n0 _ T3.heap _
    rw [e3]
    refine ⟨congrArg (fun z => some (Value.int z)) ?_, N3, rfl⟩
    rw [gy4]; rfl
  by_cases hc1 : kk < nn
  · refine own_step (fun _ k => XS.icmpNo X0.here hx rfl (hb hby d4_2) rfl ((tlt hc1).2.1) k) ?_
    show own_Fin p.tables e below _ (s₁.setTop (mkF m 5 #[.val (.ref ts), .val (.int nn), .val (.int kk), .val (.int col)] []))
    refine own_step (fun _ k => XS.aloadN X0.here hx rfl (hb hby d4_5) rfl rfl k) ?_
    show own_Fin p.tables e below _ (s₁.setTop (mkF m 6 #[.val (.ref ts), .val (.int nn), .val (.int kk), .val (.int col)] [(.ref ts)]))
    refine own_step (fun _ k => XS.iloadN X0.here hx rfl (hb hby d4_6) rfl k) ?_
    show own_Fin p.tables e below _ (s₁.setTop (mkF m 7 #[.val (.ref ts), .val (.int nn), .val (.int kk), .val (.int col)] [(.int kk), (.ref ts)]))
    obtain ⟨cl6, Ar6, S6, H6⟩ := id Ga0
    have hin6 : ¬ (kk < 0 ∨ cl6.slots.size ≤ (kk).toNatClampNeg) := own_in S6 ⟨hk0, hk1⟩
    refine own_step (X0.iaload hx (j := kk) (v := (.int (g (kk).toNatClampNeg))) (by first | exact Ar6.1 | (rw [e0]; exact Ar6.1)) (State.isArrayOf_alike hZ.alike Ar6.2.1) Ar6.2.2 hin6 (H6 _ (own_in2 ⟨hk0, hk1⟩)) (g := (mkF m 7 #[.val (.ref ts), .val (.int nn), .val (.int kk), .val (.int col)] [(.int kk), (.ref ts)])) rfl rfl (hb hby d4_7)) ?_
    show own_Fin p.tables e below _ (s₁.setTop (mkF m 8 #[.val (.ref ts), .val (.int nn), .val (.int kk), .val (.int col)] [(.int (g (kk).toNatClampNeg))]))
    refine own_step (fun _ k => XS.iloadN X0.here hx rfl (hb hby d4_8) rfl k) ?_
    show own_Fin p.tables e below _ (s₁.setTop (mkF m 9 #[.val (.ref ts), .val (.int nn), .val (.int kk), .val (.int col)] [(.int col), (.int (g (kk).toNatClampNeg))]))
    by_cases hc7 : (g (kk).toNatClampNeg) < col
    · refine own_step (fun _ k => XS.icmpNo X0.here hx rfl (hb hby d4_9) rfl ((tlt hc7).2.1) k) ?_
      show own_Fin p.tables e below _ (s₁.setTop (mkF m 12 #[.val (.ref ts), .val (.int nn), .val (.int kk), .val (.int col)] []))
      refine own_step (fun _ k => XS.iconst X0.here hx rfl (hb hby d4_12) k) ?_
      show own_Fin p.tables e below _ (s₁.setTop (mkF m 13 #[.val (.ref ts), .val (.int nn), .val (.int kk), .val (.int col)] [(.int (1 : Int32))]))
      refine own_step (fun _ k => XS.goto X0.here hx rfl (pc0 := 13) (pc' := 17) rfl (hb hby d4_13) (by decide) (by decide) k) ?_
      show own_Fin p.tables e below _ (s₁.setTop (mkF m 17 #[.val (.ref ts), .val (.int nn), .val (.int kk), .val (.int col)] [(.int (1 : Int32))]))
      exact J2 s₁ _ (1 : Int32) X0 e0 N0 (by rw [if_pos hc1, if_pos hc7])
    · refine own_step (fun _ k => XS.icmpYes X0.here hx rfl (pc0 := 9) (pc' := 16) rfl (hb hby d4_9) rfl ((flt hc7).2.1) (by decide) (by decide) k) ?_
      show own_Fin p.tables e below _ (s₁.setTop (mkF m 16 #[.val (.ref ts), .val (.int nn), .val (.int kk), .val (.int col)] []))
      refine own_step (fun _ k => XS.iconst X0.here hx rfl (hb hby d4_16) k) ?_
      show own_Fin p.tables e below _ (s₁.setTop (mkF m 17 #[.val (.ref ts), .val (.int nn), .val (.int kk), .val (.int col)] [(.int (0 : Int32))]))
      exact J2 s₁ _ (0 : Int32) X0 e0 N0 (by rw [if_pos hc1, if_neg hc7])
  · refine own_step (fun _ k => XS.icmpYes X0.here hx rfl (pc0 := 2) (pc' := 16) rfl (hb hby d4_2) rfl ((flt hc1).2.1) (by decide) (by decide) k) ?_
    show own_Fin p.tables e below _ (s₁.setTop (mkF m 16 #[.val (.ref ts), .val (.int nn), .val (.int kk), .val (.int col)] []))
    refine own_step (fun _ k => XS.iconst X0.here hx rfl (hb hby d4_16) k) ?_
    show own_Fin p.tables e below _ (s₁.setTop (mkF m 17 #[.val (.ref ts), .val (.int nn), .val (.int kk), .val (.int col)] [(.int (0 : Int32))]))
    exact J2 s₁ _ (0 : Int32) X0 e0 N0 (by rw [if_neg hc1])
theorem ef_5 (m : MethodId) (x0 : Addr) (x1 : Int32) (x2 : Int32) : entryFrame m #[(.ref x0), (.int x1), (.int x2)] 6 = mkF m 0 #[.val (.ref x0), .val (.int x1), .val (.int x2), .unset, .unset, .unset] [] := by first | (simp [entryFrame, mkF, argsToLocals, Value.category]; done) | rfl
def Q5 (Z : State) (ob : Addr) (row : Int32) (col : Int32) (ts tc : Addr) (rf cf : Nat → Int32) (lo0 hi0 : Int32) (h0 : Heap) (n0 : Nat) (v : Option Value) (h : Heap) (L : List Loc) : Prop := ∃ r : Int32, v = some (.int r) ∧ Fr n0 L ∧ h = h0 ∧ lo0.toInt ≤ r.toInt ∧ r.toInt ≤ hi0.toInt ∧ (∀ i : Nat, lo0.toInt ≤ i → (i : Int) < r.toInt → cf i < col) ∧ (∀ i : Nat, r.toInt ≤ i → (i : Int) < hi0.toInt → ¬ cf i < col)
abbrev P5 (Z : State) (ob : Addr) (row : Int32) (col : Int32) (ts tc : Addr) (rf cf : Nat → Int32) (lo0 hi0 : Int32) (h0 : Heap) (n0 : Nat) (s : State) : Outcome → State → Prop := fun o U' => ∃ v L, o = .returned v ∧ Q5 Z ob row col ts tc rf cf lo0 hi0 h0 n0 v U'.heap L ∧ FrameEnd s o U' L ({ frames := 0, cells := 0, slots := 0, locals := 0 } : Room).cells ({ frames := 0, cells := 0, slots := 0, locals := 0 } : Room).slots
theorem d5_0 : decode prog_115_method_16_code 0 = .ok (.aload_n 0, 1) := by decide +kernel
theorem d5_1 : decode prog_115_method_16_code 1 = .ok (.getfield 18, 3) := by decide +kernel
theorem d5_4 : decode prog_115_method_16_code 4 = .ok (.iload_n 1, 1) := by decide +kernel
theorem d5_5 : decode prog_115_method_16_code 5 = .ok (.iaload, 1) := by decide +kernel
theorem d5_6 : decode prog_115_method_16_code 6 = .ok (.istore_n 3, 1) := by decide +kernel
theorem d5_7 : decode prog_115_method_16_code 7 = .ok (.aload_n 0, 1) := by decide +kernel
theorem d5_8 : decode prog_115_method_16_code 8 = .ok (.getfield 18, 3) := by decide +kernel
theorem d5_11 : decode prog_115_method_16_code 11 = .ok (.iload_n 1, 1) := by decide +kernel
theorem d5_12 : decode prog_115_method_16_code 12 = .ok (.iconst 1, 1) := by decide +kernel
theorem d5_13 : decode prog_115_method_16_code 13 = .ok (.iadd, 1) := by decide +kernel
theorem d5_14 : decode prog_115_method_16_code 14 = .ok (.iaload, 1) := by decide +kernel
theorem d5_15 : decode prog_115_method_16_code 15 = .ok (.istore 4, 2) := by decide +kernel
theorem d5_17 : decode prog_115_method_16_code 17 = .ok (.iload_n 3, 1) := by decide +kernel
theorem d5_18 : decode prog_115_method_16_code 18 = .ok (.iload 4, 2) := by decide +kernel
theorem d5_20 : decode prog_115_method_16_code 20 = .ok (.if_icmp .ge 37, 3) := by decide +kernel
theorem d5_23 : decode prog_115_method_16_code 23 = .ok (.iload_n 3, 1) := by decide +kernel
theorem d5_24 : decode prog_115_method_16_code 24 = .ok (.iload 4, 2) := by decide +kernel
theorem d5_26 : decode prog_115_method_16_code 26 = .ok (.iadd, 1) := by decide +kernel
theorem d5_27 : decode prog_115_method_16_code 27 = .ok (.iconst 1, 1) := by decide +kernel
theorem d5_28 : decode prog_115_method_16_code 28 = .ok (.iushr, 1) := by decide +kernel
theorem d5_29 : decode prog_115_method_16_code 29 = .ok (.istore 5, 2) := by decide +kernel
theorem d5_31 : decode prog_115_method_16_code 31 = .ok (.aload_n 0, 1) := by decide +kernel
theorem d5_32 : decode prog_115_method_16_code 32 = .ok (.getfield 22, 3) := by decide +kernel
theorem d5_35 : decode prog_115_method_16_code 35 = .ok (.iload 5, 2) := by decide +kernel
theorem d5_37 : decode prog_115_method_16_code 37 = .ok (.iaload, 1) := by decide +kernel
theorem d5_38 : decode prog_115_method_16_code 38 = .ok (.iload_n 2, 1) := by decide +kernel
theorem d5_39 : decode prog_115_method_16_code 39 = .ok (.if_icmp .ge 11, 3) := by decide +kernel
theorem d5_42 : decode prog_115_method_16_code 42 = .ok (.iload 5, 2) := by decide +kernel
theorem d5_44 : decode prog_115_method_16_code 44 = .ok (.iconst 1, 1) := by decide +kernel
theorem d5_45 : decode prog_115_method_16_code 45 = .ok (.iadd, 1) := by decide +kernel
theorem d5_46 : decode prog_115_method_16_code 46 = .ok (.istore_n 3, 1) := by decide +kernel
theorem d5_47 : decode prog_115_method_16_code 47 = .ok (.goto 7, 3) := by decide +kernel
theorem d5_54 : decode prog_115_method_16_code 54 = .ok (.goto (-37), 3) := by decide +kernel
theorem d5_50 : decode prog_115_method_16_code 50 = .ok (.iload 5, 2) := by decide +kernel
theorem d5_52 : decode prog_115_method_16_code 52 = .ok (.istore 4, 2) := by decide +kernel
theorem d5_57 : decode prog_115_method_16_code 57 = .ok (.iload_n 3, 1) := by decide +kernel
theorem d5_58 : decode prog_115_method_16_code 58 = .ok (.ireturn, 1) := by decide +kernel
set_option maxRecDepth 65536 in
set_option maxHeartbeats 40000000 in
theorem rm5 (l : Launch) (Z : State) (a0 : Array Value) (hw : ∀ d ∈ tables_1, d.before a0 Z = true) (ws : List Jvm.Cond) (ob : Addr) (row : Int32) (col : Int32) (ts tc : Addr) (rf cf : Nat → Int32) (lo0 hi0 : Int32) (h0 : Heap) (n0 : Nat) (Z0 : n0 ≤ h0.size) (Fs0 : Fld Z h0 ob "com/example/fusewright/fusewright/runtime/SparseMatrix" "rowStarts" "[I" (.ref ts)) (Fc0 : Fld Z h0 ob "com/example/fusewright/fusewright/runtime/SparseMatrix" "columnIndices" "[I" (.ref tc)) (Ar0 : own_Arf Z h0 ts .int 3 (fun i => .int (rf i))) (Ac0 : own_Arf Z h0 tc .int 11 (fun i => .int (cf i))) (hr0 : 0 ≤ row.toInt) (hr1 : row.toInt ≤ 1) (hA : rf (row).toNatClampNeg = lo0) (hB : rf ((row + (1 : Int32))).toNatClampNeg = hi0) (hl0 : 0 ≤ lo0.toInt) (hl1 : lo0.toInt ≤ hi0.toInt) (hl2 : hi0.toInt ≤ 10) (hsr : own_sorted cf lo0 hi0) :
    MetFree l (⟨"com/example/fusewright/fusewright/runtime/SparseMatrix", "firstAtOrAfter", "(II)I"⟩ : MethodName) (head1 (Jvm.Cond.code (⟨"com/example/fusewright/fusewright/runtime/SparseMatrix", "firstAtOrAfter", "(II)I"⟩ : MethodName) prog_115_method_16_code 6 (some .int) :: ws) ({ frames := 0, cells := 0, slots := 0, locals := 0 } : Room)) (fun a U => a = #[(.ref ob), (.int row), (.int col)] ∧ Z.Warmed39 U.vm ∧ U.heap = h0) (fun _ _ _ _ _ => True) (fun _ U o U' => ∃ v L, o = .returned v ∧ Q5 Z ob row col ts tc rf cf lo0 hi0 h0 n0 v U'.heap L ∧ FrameEnd U o U' L ({ frames := 0, cells := 0, slots := 0, locals := 0 } : Room).cells ({ frames := 0, cells := 0, slots := 0, locals := 0 } : Room).slots) := by
  refine MetFree.of_bodySF (plainFor_of_name pn_1) hisR ?_
  intro p e s m args below meth c s₁ Bd hml0 hP hK
  obtain ⟨rfl, hZ, hh⟩ := hP
  have hx := Bd.exec
  have hby := Bd.bytes
  have hml : c.maxLocals = 6 := hml0
  have hown : s.vm.findClass "com/example/fusewright/fusewright/runtime/SparseMatrix" = some m.cls := findClass_of_methodNamed Bd.named
  have hnm := (name_of_methodNamed Bd.named Bd.method).1
  have X0 : Stand p l e ({ frames := 0, cells := 0, slots := 0, locals := 0 } : Room) s m #[(.ref ob), (.int row), (.int col)] below meth c s₁ [] 0 0 := Stand.of_body Bd
  have e0 : s₁.heap = h0 := by rw [← hh, Bd.state]; rfl
  have N0 := Fr.nil n0
  refine own_enter (P := (P5 Z ob row col ts tc rf cf lo0 hi0 h0 n0 s)) (ef_5 m ob row col) ?_
  show own_Fin p.tables e below _ (s₁.setTop (mkF m 0 #[.val (.ref ob), .val (.int row), .val (.int col), .unset, .unset, .unset] []))
  refine own_step (fun _ k => XS.aloadN X0.here hx rfl (hb hby d5_0) rfl rfl k) ?_
  show own_Fin p.tables e below _ (s₁.setTop (mkF m 1 #[.val (.ref ob), .val (.int row), .val (.int col), .unset, .unset, .unset] [(.ref ob)]))
  obtain ⟨T1, X1, e1, st1⟩ := getF X0 hx hZ hown (host := "") (Or.inl (hw _ (List.mem_of_getElem? (i := 21) rfl))) Via.refl e0 Fs0 (g := (mkF m 1 #[.val (.ref ob), .val (.int row), .val (.int col), .unset, .unset, .unset] [(.ref ob)])) rfl rfl (hb hby d5_1)
  refine own_step st1 ?_
  show own_Fin p.tables e below _ (T1.setTop (mkF m 4 #[.val (.ref ob), .val (.int row), .val (.int col), .unset, .unset, .unset] [(.ref ts)]))
  refine own_step (fun _ k => XS.iloadN X1.here hx rfl (hb hby d5_4) rfl k) ?_
  show own_Fin p.tables e below _ (T1.setTop (mkF m 5 #[.val (.ref ob), .val (.int row), .val (.int col), .unset, .unset, .unset] [(.int row), (.ref ts)]))
  obtain ⟨cl2, Ar2, S2, H2⟩ := id Ar0
  have hin2 : ¬ (row < 0 ∨ cl2.slots.size ≤ (row).toNatClampNeg) := own_in S2 ⟨hr0, by omega⟩
  refine own_step (X1.iaload hx (j := row) (v := (.int (rf (row).toNatClampNeg))) (by first | exact Ar2.1 | (rw [e1]; exact Ar2.1)) (State.isArrayOf_alike hZ.alike Ar2.2.1) Ar2.2.2 hin2 (H2 _ (own_in2 ⟨hr0, by omega⟩)) (g := (mkF m 5 #[.val (.ref ob), .val (.int row), .val (.int col), .unset, .unset, .unset] [(.int row), (.ref ts)])) rfl rfl (hb hby d5_5)) ?_
  show own_Fin p.tables e below _ (T1.setTop (mkF m 6 #[.val (.ref ob), .val (.int row), .val (.int col), .unset, .unset, .unset] [(.int (rf (row).toNatClampNeg))]))
  rw [hA]
  show own_Fin p.tables e below _ (T1.setTop (mkF m 6 #[.val (.ref ob), .val (.int row), .val (.int col), .unset, .unset, .unset] [(.int lo0)]))
  refine own_step (fun _ k => XS.istoreN X1.here hx rfl (hb hby d5_6) rfl (l' := #[.val (.ref ob), .val (.int row), .val (.int col), .val (.int lo0), .unset, .unset]) rfl k) ?_
  show own_Fin p.tables e below _ (T1.setTop (mkF m 7 #[.val (.ref ob), .val (.int row), .val (.int col), .val (.int lo0), .unset, .unset] []))
  refine own_step (fun _ k => XS.aloadN X1.here hx rfl (hb hby d5_7) rfl rfl k) ?_
  show own_Fin p.tables e below _ (T1.setTop (mkF m 8 #[.val (.ref ob), .val (.int row), .val (.int col), .val (.int lo0), .unset, .unset] [(.ref ob)]))
  obtain ⟨T3, X3, e3, st3⟩ := getF X1 hx hZ hown (host := "") (Or.inl (hw _ (List.mem_of_getElem? (i := 21) rfl))) Via.refl e1 Fs0 (g := (mkF m 8 #[.val (.ref ob), .val (.int row), .val (.int col), .val (.int lo0), .unset, .unset] [(.ref ob)])) rfl rfl (hb hby d5_8)
  refine own_step st3 ?_
  show own_Fin p.tables e below _ (T3.setTop (mkF m 11 #[.val (.ref ob), .val (.int row), .val (.int col), .val (.int lo0), .unset, .unset] [(.ref ts)]))
  refine own_step (fun _ k => XS.iloadN X3.here hx rfl (hb hby d5_11) rfl k) ?_
  show own_Fin p.tables e below _ (T3.setTop (mkF m 12 #[.val (.ref ob), .val (.int row), .val (.int col), .val (.int lo0), .unset, .unset] [(.int row), (.ref ts)]))
  refine own_step (fun _ k => XS.iconst X3.here hx rfl (hb hby d5_12) k) ?_
  show own_Fin p.tables e below _ (T3.setTop (mkF m 13 #[.val (.ref ob), .val (.int row), .val (.int col), .val (.int lo0), .unset, .unset] [(.int (1 : Int32)), (.int row), (.ref ts)]))
  refine own_step (fun _ k => XS.iadd X3.here hx rfl (hb hby d5_13) rfl k) ?_
  show own_Fin p.tables e below _ (T3.setTop (mkF m 14 #[.val (.ref ob), .val (.int row), .val (.int col), .val (.int lo0), .unset, .unset] [(.int (row + (1 : Int32))), (.ref ts)]))
  have hrow1 : (row + (1 : Int32)).toInt = row.toInt + 1 := own_add1 (by omega)
  obtain ⟨cl4, Ar4, S4, H4⟩ := id Ar0
  have hin4 : ¬ ((row + (1 : Int32)) < 0 ∨ cl4.slots.size ≤ ((row + (1 : Int32))).toNatClampNeg) := own_in S4 ⟨by rw [hrow1]; omega, by rw [hrow1]; omega⟩
  refine own_step (X3.iaload hx (j := (row + (1 : Int32))) (v := (.int (rf ((row + (1 : Int32))).toNatClampNeg))) (by first | exact Ar4.1 | (rw [e3]; exact Ar4.1)) (State.isArrayOf_alike hZ.alike Ar4.2.1) Ar4.2.2 hin4 (H4 _ (own_in2 ⟨by rw [hrow1]; omega, by rw [hrow1]; omega⟩)) (g := (mkF m 14 #[.val (.ref ob), .val (.int row), .val (.int col), .val (.int lo0), .unset, .unset] [(.int (row + (1 : Int32))), (.ref ts)])) rfl rfl (hb hby d5_14)) ?_
  show own_Fin p.tables e below _ (T3.setTop (mkF m 15 #[.val (.ref ob), .val (.int row), .val (.int col), .val (.int lo0), .unset, .unset] [(.int (rf ((row + (1 : Int32))).toNatClampNeg))]))
  rw [hB]
  show own_Fin p.tables e below _ (T3.setTop (mkF m 15 #[.val (.ref ob), .val (.int row), .val (.int col), .val (.int lo0), .unset, .unset] [(.int hi0)]))
  refine own_step (fun _ k => XS.istore X3.here hx rfl (hb hby d5_15) rfl (l' := #[.val (.ref ob), .val (.int row), .val (.int col), .val (.int lo0), .val (.int hi0), .unset]) rfl k) ?_
  show own_Fin p.tables e below _ (T3.setTop (mkF m 17 #[.val (.ref ob), .val (.int row), .val (.int col), .val (.int lo0), .val (.int hi0), .unset] []))
  have loop5 : ∀ (k : Nat) (T5 : State) (locs5 : List Loc) (lo : Int32) (hi : Int32) (sl5_5 : Slot) (X5 : Stand p l e ({ frames := 0, cells := 0, slots := 0, locals := 0 } : Room) s m #[(.ref ob), (.int row), (.int col)] below meth c T5 locs5 0 0) (e5 : T5.heap = h0) (N5 : Fr n0 locs5) (gsl5_5 : One sl5_5) (i1 : lo0.toInt ≤ lo.toInt) (i2 : lo.toInt ≤ hi.toInt) (i3 : hi.toInt ≤ hi0.toInt) (i4 : ∀ i : Nat, lo0.toInt ≤ i → (i : Int) < lo.toInt → cf i < col) (i5 : ∀ i : Nat, hi.toInt ≤ i → (i : Int) < hi0.toInt → ¬ cf i < col), (hi.toInt - lo.toInt).toNat = k → own_Fin p.tables e below (P5 Z ob row col ts tc rf cf lo0 hi0 h0 n0 s) (T5.setTop (mkF m 17 #[.val (.ref ob), .val (.int row), .val (.int col), .val (.int lo), .val (.int hi), sl5_5] [])) := by
    intro k
    induction k using Nat.strongRecOn with
    | _ k ih =>
      intro T5 locs5 lo hi sl5_5 X5 e5 N5 gsl5_5 i1 i2 i3 i4 i5 hmeas
      show own_Fin p.tables e below _ (T5.setTop (mkF m 17 #[.val (.ref ob), .val (.int row), .val (.int col), .val (.int lo), .val (.int hi), sl5_5] []))
      refine own_step (fun _ k => XS.iloadN X5.here hx rfl (hb hby d5_17) rfl k) ?_
      show own_Fin p.tables e below _ (T5.setTop (mkF m 18 #[.val (.ref ob), .val (.int row), .val (.int col), .val (.int lo), .val (.int hi), sl5_5] [(.int lo)]))
      refine own_step (fun _ k => XS.iload X5.here hx rfl (hb hby d5_18) rfl k) ?_
      show own_Fin p.tables e below _ (T5.setTop (mkF m 20 #[.val (.ref ob), .val (.int row), .val (.int col), .val (.int lo), .val (.int hi), sl5_5] [(.int hi), (.int lo)]))
      by_cases hc6 : lo < hi
      · refine own_step (fun _ k => XS.icmpNo X5.here hx rfl (hb hby d5_20) rfl ((tlt hc6).2.1) k) ?_
        show own_Fin p.tables e below _ (T5.setTop (mkF m 23 #[.val (.ref ob), .val (.int row), .val (.int col), .val (.int lo), .val (.int hi), sl5_5] []))
        refine own_step (fun _ k => XS.iloadN X5.here hx rfl (hb hby d5_23) rfl k) ?_
        show own_Fin p.tables e below _ (T5.setTop (mkF m 24 #[.val (.ref ob), .val (.int row), .val (.int col), .val (.int lo), .val (.int hi), sl5_5] [(.int lo)]))
        refine own_step (fun _ k => XS.iload X5.here hx rfl (hb hby d5_24) rfl k) ?_
        show own_Fin p.tables e below _ (T5.setTop (mkF m 26 #[.val (.ref ob), .val (.int row), .val (.int col), .val (.int lo), .val (.int hi), sl5_5] [(.int hi), (.int lo)]))
        refine own_step (fun _ k => XS.iadd X5.here hx rfl (hb hby d5_26) rfl k) ?_
        show own_Fin p.tables e below _ (T5.setTop (mkF m 27 #[.val (.ref ob), .val (.int row), .val (.int col), .val (.int lo), .val (.int hi), sl5_5] [(.int (lo + hi))]))
        refine own_step (fun _ k => XS.iconst X5.here hx rfl (hb hby d5_27) k) ?_
        show own_Fin p.tables e below _ (T5.setTop (mkF m 28 #[.val (.ref ob), .val (.int row), .val (.int col), .val (.int lo), .val (.int hi), sl5_5] [(.int (1 : Int32)), (.int (lo + hi))]))
        refine own_step (fun _ k => XS.iushr X5.here hx rfl (hb hby d5_28) rfl k) ?_
        show own_Fin p.tables e below _ (T5.setTop (mkF m 29 #[.val (.ref ob), .val (.int row), .val (.int col), .val (.int lo), .val (.int hi), sl5_5] [(.int (((lo + hi).toUInt32 >>> ((1 : Int32) &&& 31).toUInt32).toInt32))]))
        refine own_step (fun _ k => XS.istoreS X5.here hx rfl (hb hby d5_29) rfl rfl gsl5_5 k) ?_
        show own_Fin p.tables e below _ (T5.setTop (mkF m 31 #[.val (.ref ob), .val (.int row), .val (.int col), .val (.int lo), .val (.int hi), .val (.int (((lo + hi).toUInt32 >>> ((1 : Int32) &&& 31).toUInt32).toInt32))] []))
        have hlt : lo.toInt < hi.toInt := own_lt.mp hc6
        obtain ⟨md, hmd⟩ : ∃ z, z = (((lo + hi).toUInt32 >>> ((1 : Int32) &&& 31).toUInt32).toInt32) := ⟨_, rfl⟩
        rw [← hmd]
        show own_Fin p.tables e below _ (T5.setTop (mkF m 31 #[.val (.ref ob), .val (.int row), .val (.int col), .val (.int lo), .val (.int hi), .val (.int md)] []))
        have hmd2 : md.toInt = (lo.toInt + hi.toInt) / 2 := by rw [hmd]; exact own_mid0 (by omega) (by omega) (by omega) (by omega)
        refine own_step (fun _ k => XS.aloadN X5.here hx rfl (hb hby d5_31) rfl rfl k) ?_
        show own_Fin p.tables e below _ (T5.setTop (mkF m 32 #[.val (.ref ob), .val (.int row), .val (.int col), .val (.int lo), .val (.int hi), .val (.int md)] [(.ref ob)]))
        obtain ⟨T7, X7, e7, st7⟩ := getF X5 hx hZ hown (host := "") (Or.inl (hw _ (List.mem_of_getElem? (i := 23) rfl))) Via.refl e5 Fc0 (g := (mkF m 32 #[.val (.ref ob), .val (.int row), .val (.int col), .val (.int lo), .val (.int hi), .val (.int md)] [(.ref ob)])) rfl rfl (hb hby d5_32)
        refine own_step st7 ?_
        show own_Fin p.tables e below _ (T7.setTop (mkF m 35 #[.val (.ref ob), .val (.int row), .val (.int col), .val (.int lo), .val (.int hi), .val (.int md)] [(.ref tc)]))
        refine own_step (fun _ k => XS.iload X7.here hx rfl (hb hby d5_35) rfl k) ?_
        show own_Fin p.tables e below _ (T7.setTop (mkF m 37 #[.val (.ref ob), .val (.int row), .val (.int col), .val (.int lo), .val (.int hi), .val (.int md)] [(.int md), (.ref tc)]))
        obtain ⟨cl8, Ar8, S8, H8⟩ := id Ac0
        have hin8 : ¬ (md < 0 ∨ cl8.slots.size ≤ (md).toNatClampNeg) := own_in S8 ⟨by omega, by omega⟩
        refine own_step (X7.iaload hx (j := md) (v := (.int (cf (md).toNatClampNeg))) (by first | exact Ar8.1 | (rw [e7]; exact Ar8.1)) (State.isArrayOf_alike hZ.alike Ar8.2.1) Ar8.2.2 hin8 (H8 _ (own_in2 ⟨by omega, by omega⟩)) (g := (mkF m 37 #[.val (.ref ob), .val (.int row), .val (.int col), .val (.int lo), .val (.int hi), .val (.int md)] [(.int md), (.ref tc)])) rfl rfl (hb hby d5_37)) ?_
        show own_Fin p.tables e below _ (T7.setTop (mkF m 38 #[.val (.ref ob), .val (.int row), .val (.int col), .val (.int lo), .val (.int hi), .val (.int md)] [(.int (cf (md).toNatClampNeg))]))
        refine own_step (fun _ k => XS.iloadN X7.here hx rfl (hb hby d5_38) rfl k) ?_
        show own_Fin p.tables e below _ (T7.setTop (mkF m 39 #[.val (.ref ob), .val (.int row), .val (.int col), .val (.int lo), .val (.int hi), .val (.int md)] [(.int col), (.int (cf (md).toNatClampNeg))]))
        by_cases hc9 : (cf (md).toNatClampNeg) < col
        · refine own_step (fun _ k => XS.icmpNo X7.here hx rfl (hb hby d5_39) rfl ((tlt hc9).2.1) k) ?_
          show own_Fin p.tables e below _ (T7.setTop (mkF m 42 #[.val (.ref ob), .val (.int row), .val (.int col), .val (.int lo), .val (.int hi), .val (.int md)] []))
          refine own_step (fun _ k => XS.iload X7.here hx rfl (hb hby d5_42) rfl k) ?_
          show own_Fin p.tables e below _ (T7.setTop (mkF m 44 #[.val (.ref ob), .val (.int row), .val (.int col), .val (.int lo), .val (.int hi), .val (.int md)] [(.int md)]))
          refine own_step (fun _ k => XS.iconst X7.here hx rfl (hb hby d5_44) k) ?_
          show own_Fin p.tables e below _ (T7.setTop (mkF m 45 #[.val (.ref ob), .val (.int row), .val (.int col), .val (.int lo), .val (.int hi), .val (.int md)] [(.int (1 : Int32)), (.int md)]))
          refine own_step (fun _ k => XS.iadd X7.here hx rfl (hb hby d5_45) rfl k) ?_
          show own_Fin p.tables e below _ (T7.setTop (mkF m 46 #[.val (.ref ob), .val (.int row), .val (.int col), .val (.int lo), .val (.int hi), .val (.int md)] [(.int (md + (1 : Int32)))]))
          refine own_step (fun _ k => XS.istoreN X7.here hx rfl (hb hby d5_46) rfl (l' := #[.val (.ref ob), .val (.int row), .val (.int col), .val (.int (md + (1 : Int32))), .val (.int hi), .val (.int md)]) rfl k) ?_
          show own_Fin p.tables e below _ (T7.setTop (mkF m 47 #[.val (.ref ob), .val (.int row), .val (.int col), .val (.int (md + (1 : Int32))), .val (.int hi), .val (.int md)] []))
          refine own_step (fun _ k => XS.goto X7.here hx rfl (pc0 := 47) (pc' := 54) rfl (hb hby d5_47) (by decide) (by decide) k) ?_
          show own_Fin p.tables e below _ (T7.setTop (mkF m 54 #[.val (.ref ob), .val (.int row), .val (.int col), .val (.int (md + (1 : Int32))), .val (.int hi), .val (.int md)] []))
          refine own_step (fun _ k => XS.goto X7.here hx rfl (pc0 := 54) (pc' := 17) rfl (hb hby d5_54) (by decide) (by decide) k) ?_
          show own_Fin p.tables e below _ (T7.setTop (mkF m 17 #[.val (.ref ob), .val (.int row), .val (.int col), .val (.int (md + (1 : Int32))), .val (.int hi), .val (.int md)] []))
          have hb1 : (md + (1 : Int32)).toInt = md.toInt + 1 := own_add1 (by omega)
          exact ih _ (by omega) T7 _ (md + (1 : Int32)) hi (.val (.int md)) X7 e7 N5 (by first | exact One.u | exact One.val rfl | assumption) (by omega) (by omega) i3 (own_fa_lo (lo := lo) hsr (by omega) (by omega) (by omega) hc9) i5 rfl
        · refine own_step (fun _ k => XS.icmpYes X7.here hx rfl (pc0 := 39) (pc' := 50) rfl (hb hby d5_39) rfl ((flt hc9).2.1) (by decide) (by decide) k) ?_
          show own_Fin p.tables e below _ (T7.setTop (mkF m 50 #[.val (.ref ob), .val (.int row), .val (.int col), .val (.int lo), .val (.int hi), .val (.int md)] []))
          refine own_step (fun _ k => XS.iload X7.here hx rfl (hb hby d5_50) rfl k) ?_
          show own_Fin p.tables e below _ (T7.setTop (mkF m 52 #[.val (.ref ob), .val (.int row), .val (.int col), .val (.int lo), .val (.int hi), .val (.int md)] [(.int md)]))
          refine own_step (fun _ k => XS.istore X7.here hx rfl (hb hby d5_52) rfl (l' := #[.val (.ref ob), .val (.int row), .val (.int col), .val (.int lo), .val (.int md), .val (.int md)]) rfl k) ?_
          show own_Fin p.tables e below _ (T7.setTop (mkF m 54 #[.val (.ref ob), .val (.int row), .val (.int col), .val (.int lo), .val (.int md), .val (.int md)] []))
          refine own_step (fun _ k => XS.goto X7.here hx rfl (pc0 := 54) (pc' := 17) rfl (hb hby d5_54) (by decide) (by decide) k) ?_
          show own_Fin p.tables e below _ (T7.setTop (mkF m 17 #[.val (.ref ob), .val (.int row), .val (.int col), .val (.int lo), .val (.int md), .val (.int md)] []))
          exact ih _ (by omega) T7 _ lo md (.val (.int md)) X7 e7 N5 (by first | exact One.u | exact One.val rfl | assumption) i1 (by omega) (by omega) i4 (own_fa_hi hsr (by omega) (by omega) hc9) rfl
      · refine own_step (fun _ k => XS.icmpYes X5.here hx rfl (pc0 := 20) (pc' := 57) rfl (hb hby d5_20) rfl ((flt hc6).2.1) (by decide) (by decide) k) ?_
        show own_Fin p.tables e below _ (T5.setTop (mkF m 57 #[.val (.ref ob), .val (.int row), .val (.int col), .val (.int lo), .val (.int hi), sl5_5] []))
        refine own_step (fun _ k => XS.iloadN X5.here hx rfl (hb hby d5_57) rfl k) ?_
        show own_Fin p.tables e below _ (T5.setTop (mkF m 58 #[.val (.ref ob), .val (.int row), .val (.int col), .val (.int lo), .val (.int hi), sl5_5] [(.int lo)]))
        obtain ⟨fs10, hr10, hrun10, hended10, hW10, hsame10⟩ := X5.leave (v := some (.int lo)) (fun h => by rw [Bd.returns] at h; cases h)
        refine own_ret (retI X5 hx Bd.returns (hb hby d5_58) hr10) hrun10 hended10 ?_
        refine ⟨_, _, rfl, ?_, ⟨_, rfl⟩, hW10, hsame10.mono (by decide) (by decide)⟩
        show Q5 Z ob row col ts tc rf cf lo0 hi0 h0 n0 _ T5.heap _
        rw [e5]
        have hee : hi = lo := Int32.toInt_inj.mp (by have := mt own_lt.mpr hc6; omega)
        subst hee
        exact ⟨_, rfl, N5, rfl, i1, i3, i4, i5⟩
  exact loop5 _ T3 _ lo0 hi0 (.unset) X3 e3 N0 (by first | exact One.u | exact One.val rfl | assumption) (Int.le_refl _) hl1 (Int.le_refl _) (fun i q1 q2 => absurd q1 (by omega)) (fun i q1 q2 => absurd q1 (by omega)) rfl
theorem ef_0 (m : MethodId) (x0 : Int32) (x1 : Int64) (x2 : Int64) (x3 : Int32) (x4 : Int32) : entryFrame m #[(.int x0), (.long x1), (.long x2), (.int x3), (.int x4)] maxLocals = mkF m 0 #[.val (.int x0), .val (.long x1), .second, .val (.long x2), .second, .val (.int x3), .val (.int x4), .unset, .unset, .unset, .unset, .unset, .unset, .unset, .unset, .unset, .unset, .unset, .unset, .unset, .unset] [] := by first | (simp [entryFrame, mkF, argsToLocals, Value.category, maxLocals]; done) | rfl
def Q0 (Z : State) (w0 : Int32) (q1 : Int64) (q2 : Int64) (w5 : Int32) (w6 : Int32) (h0 : Heap) (n0 : Nat) (v : Option Value) (h : Heap) (L : List Loc) : Prop := v = some (.int 1) ∧ Fr n0 L
abbrev P0 (Z : State) (w0 : Int32) (q1 : Int64) (q2 : Int64) (w5 : Int32) (w6 : Int32) (h0 : Heap) (n0 : Nat) (s : State) : Outcome → State → Prop := fun o U' => ∃ v L, o = .returned v ∧ Q0 Z w0 q1 q2 w5 w6 h0 n0 v U'.heap L ∧ FrameEnd s o U' L room_1.cells room_1.slots
theorem pd_0 : parseMethodDescriptor "(J)[I" = some ⟨[.long], some (.array .int)⟩ := by decide +kernel
theorem pd_1 : parseMethodDescriptor "(II[I[I[DD)V" = some ⟨[.int, .int, (.array .int), (.array .int), (.array .double), .double], none⟩ := by decide +kernel
theorem pd_2 : parseMethodDescriptor "([IIII)I" = some ⟨[(.array .int), .int, .int, .int], some .int⟩ := by decide +kernel
theorem pd_3 : parseMethodDescriptor "(II)I" = some ⟨[.int, .int], some .int⟩ := by decide +kernel
set_option maxRecDepth 65536 in
set_option maxHeartbeats 40000000 in
theorem rm0 (l : Launch) (Z : State) (a0 : Array Value) (hw : ∀ d ∈ tables_1, d.before a0 Z = true) (ws : List Jvm.Cond) (w0 : Int32) (q1 : Int64) (q2 : Int64) (w5 : Int32) (w6 : Int32) (h0 : Heap) (n0 : Nat) (Z0 : n0 ≤ h0.size) :
    MetFree l x (head1 (Jvm.Cond.code x code maxLocals ret :: ws) room_1) (fun a U => a = #[(.int w0), (.long q1), (.long q2), (.int w5), (.int w6)] ∧ Z.Warmed39 U.vm ∧ U.heap = h0) (fun _ _ _ _ _ => True) (fun _ U o U' => ∃ v L, o = .returned v ∧ Q0 Z w0 q1 q2 w5 w6 h0 n0 v U'.heap L ∧ FrameEnd U o U' L room_1.cells room_1.slots) := by
  refine MetFree.of_bodySF (plainFor_of_name pn_0) hisR ?_
  intro p e s m args below meth c s₁ Bd hml0 hP hK
  obtain ⟨rfl, hZ, hh⟩ := hP
  have hx := Bd.exec
  have hby := Bd.bytes
  have hml : c.maxLocals = 21 := hml0
  have hown : s.vm.findClass "com/example/fusewright/fusewright/runtime/SparseMatrixFirstAtOrAfterPinLaw" = some m.cls := findClass_of_methodNamed Bd.named
  have hnm := (name_of_methodNamed Bd.named Bd.method).1
  have X0 : Stand p l e room_1 s m #[(.int w0), (.long q1), (.long q2), (.int w5), (.int w6)] below meth c s₁ [] 0 0 := Stand.of_body Bd
  have e0 : s₁.heap = h0 := by rw [← hh, Bd.state]; rfl
  have N0 := Fr.nil n0
  refine own_enter (P := (P0 Z w0 q1 q2 w5 w6 h0 n0 s)) (ef_0 m w0 q1 q2 w5 w6) ?_
  show own_Fin p.tables e below _ (s₁.setTop (mkF m 0 #[.val (.int w0), .val (.long q1), .second, .val (.long q2), .second, .val (.int w5), .val (.int w6), .unset, .unset, .unset, .unset, .unset, .unset, .unset, .unset, .unset, .unset, .unset, .unset, .unset, .unset] []))
  refine own_step (fun _ k => XS.iloadN X0.here hx rfl (hb hby at_0) rfl k) ?_
  show own_Fin p.tables e below _ (s₁.setTop (mkF m 1 #[.val (.int w0), .val (.long q1), .second, .val (.long q2), .second, .val (.int w5), .val (.int w6), .unset, .unset, .unset, .unset, .unset, .unset, .unset, .unset, .unset, .unset, .unset, .unset, .unset, .unset] [(.int w0)]))
  refine own_step (fun _ k => XS.bipush X0.here hx rfl (hb hby at_1) k) ?_
  show own_Fin p.tables e below _ (s₁.setTop (mkF m 3 #[.val (.int w0), .val (.long q1), .second, .val (.long q2), .second, .val (.int w5), .val (.int w6), .unset, .unset, .unset, .unset, .unset, .unset, .unset, .unset, .unset, .unset, .unset, .unset, .unset, .unset] [(.int (7 : Int32)), (.int w0)]))
  refine own_step (fun _ k => XS.iand X0.here hx rfl (hb hby at_3) rfl k) ?_
  show own_Fin p.tables e below _ (s₁.setTop (mkF m 4 #[.val (.int w0), .val (.long q1), .second, .val (.long q2), .second, .val (.int w5), .val (.int w6), .unset, .unset, .unset, .unset, .unset, .unset, .unset, .unset, .unset, .unset, .unset, .unset, .unset, .unset] [(.int (w0 &&& (7 : Int32)))]))
  refine own_step (fun _ k => XS.bipush X0.here hx rfl (hb hby at_4) k) ?_
  show own_Fin p.tables e below _ (s₁.setTop (mkF m 6 #[.val (.int w0), .val (.long q1), .second, .val (.long q2), .second, .val (.int w5), .val (.int w6), .unset, .unset, .unset, .unset, .unset, .unset, .unset, .unset, .unset, .unset, .unset, .unset, .unset, .unset] [(.int (6 : Int32)), (.int (w0 &&& (7 : Int32)))]))
  refine own_step (fun _ k => XS.irem X0.here hx rfl (hb hby at_6) rfl (by decide) k) ?_
  show own_Fin p.tables e below _ (s₁.setTop (mkF m 7 #[.val (.int w0), .val (.long q1), .second, .val (.long q2), .second, .val (.int w5), .val (.int w6), .unset, .unset, .unset, .unset, .unset, .unset, .unset, .unset, .unset, .unset, .unset, .unset, .unset, .unset] [(.int ((w0 &&& (7 : Int32)) - ((w0 &&& (7 : Int32)) / (6 : Int32)) * (6 : Int32)))]))
  refine own_step (fun _ k => XS.istore X0.here hx rfl (hb hby at_7) rfl (l' := #[.val (.int w0), .val (.long q1), .second, .val (.long q2), .second, .val (.int w5), .val (.int w6), .val (.int ((w0 &&& (7 : Int32)) - ((w0 &&& (7 : Int32)) / (6 : Int32)) * (6 : Int32))), .unset, .unset, .unset, .unset, .unset, .unset, .unset, .unset, .unset, .unset, .unset, .unset, .unset]) rfl k) ?_
  show own_Fin p.tables e below _ (s₁.setTop (mkF m 9 #[.val (.int w0), .val (.long q1), .second, .val (.long q2), .second, .val (.int w5), .val (.int w6), .val (.int ((w0 &&& (7 : Int32)) - ((w0 &&& (7 : Int32)) / (6 : Int32)) * (6 : Int32))), .unset, .unset, .unset, .unset, .unset, .unset, .unset, .unset, .unset, .unset, .unset, .unset, .unset] []))
  obtain ⟨na, hna⟩ : ∃ z, z = ((w0 &&& (7 : Int32)) - ((w0 &&& (7 : Int32)) / (6 : Int32)) * (6 : Int32)) := ⟨_, rfl⟩
  rw [← hna]
  show own_Fin p.tables e below _ (s₁.setTop (mkF m 9 #[.val (.int w0), .val (.long q1), .second, .val (.long q2), .second, .val (.int w5), .val (.int w6), .val (.int na), .unset, .unset, .unset, .unset, .unset, .unset, .unset, .unset, .unset, .unset, .unset, .unset, .unset] []))
  obtain ⟨hna0, hna1⟩ := own_r6 hna
  refine own_step (fun _ k => XS.iloadN X0.here hx rfl (hb hby at_9) rfl k) ?_
  show own_Fin p.tables e below _ (s₁.setTop (mkF m 10 #[.val (.int w0), .val (.long q1), .second, .val (.long q2), .second, .val (.int w5), .val (.int w6), .val (.int na), .unset, .unset, .unset, .unset, .unset, .unset, .unset, .unset, .unset, .unset, .unset, .unset, .unset] [(.int w0)]))
  refine own_step (fun _ k => XS.iconst X0.here hx rfl (hb hby at_10) k) ?_
  show own_Fin p.tables e below _ (s₁.setTop (mkF m 11 #[.val (.int w0), .val (.long q1), .second, .val (.long q2), .second, .val (.int w5), .val (.int w6), .val (.int na), .unset, .unset, .unset, .unset, .unset, .unset, .unset, .unset, .unset, .unset, .unset, .unset, .unset] [(.int (3 : Int32)), (.int w0)]))
  refine own_step (fun _ k => XS.iushr X0.here hx rfl (hb hby at_11) rfl k) ?_
  show own_Fin p.tables e below _ (s₁.setTop (mkF m 12 #[.val (.int w0), .val (.long q1), .second, .val (.long q2), .second, .val (.int w5), .val (.int w6), .val (.int na), .unset, .unset, .unset, .unset, .unset, .unset, .unset, .unset, .unset, .unset, .unset, .unset, .unset] [(.int ((w0.toUInt32 >>> ((3 : Int32) &&& 31).toUInt32).toInt32))]))
  refine own_step (fun _ k => XS.bipush X0.here hx rfl (hb hby at_12) k) ?_
  show own_Fin p.tables e below _ (s₁.setTop (mkF m 14 #[.val (.int w0), .val (.long q1), .second, .val (.long q2), .second, .val (.int w5), .val (.int w6), .val (.int na), .unset, .unset, .unset, .unset, .unset, .unset, .unset, .unset, .unset, .unset, .unset, .unset, .unset] [(.int (7 : Int32)), (.int ((w0.toUInt32 >>> ((3 : Int32) &&& 31).toUInt32).toInt32))]))
  refine own_step (fun _ k => XS.iand X0.here hx rfl (hb hby at_14) rfl k) ?_
  show own_Fin p.tables e below _ (s₁.setTop (mkF m 15 #[.val (.int w0), .val (.long q1), .second, .val (.long q2), .second, .val (.int w5), .val (.int w6), .val (.int na), .unset, .unset, .unset, .unset, .unset, .unset, .unset, .unset, .unset, .unset, .unset, .unset, .unset] [(.int (((w0.toUInt32 >>> ((3 : Int32) &&& 31).toUInt32).toInt32) &&& (7 : Int32)))]))
  refine own_step (fun _ k => XS.bipush X0.here hx rfl (hb hby at_15) k) ?_
  show own_Fin p.tables e below _ (s₁.setTop (mkF m 17 #[.val (.int w0), .val (.long q1), .second, .val (.long q2), .second, .val (.int w5), .val (.int w6), .val (.int na), .unset, .unset, .unset, .unset, .unset, .unset, .unset, .unset, .unset, .unset, .unset, .unset, .unset] [(.int (6 : Int32)), (.int (((w0.toUInt32 >>> ((3 : Int32) &&& 31).toUInt32).toInt32) &&& (7 : Int32)))]))
  refine own_step (fun _ k => XS.irem X0.here hx rfl (hb hby at_17) rfl (by decide) k) ?_
  show own_Fin p.tables e below _ (s₁.setTop (mkF m 18 #[.val (.int w0), .val (.long q1), .second, .val (.long q2), .second, .val (.int w5), .val (.int w6), .val (.int na), .unset, .unset, .unset, .unset, .unset, .unset, .unset, .unset, .unset, .unset, .unset, .unset, .unset] [(.int ((((w0.toUInt32 >>> ((3 : Int32) &&& 31).toUInt32).toInt32) &&& (7 : Int32)) - ((((w0.toUInt32 >>> ((3 : Int32) &&& 31).toUInt32).toInt32) &&& (7 : Int32)) / (6 : Int32)) * (6 : Int32)))]))
  refine own_step (fun _ k => XS.istore X0.here hx rfl (hb hby at_18) rfl (l' := #[.val (.int w0), .val (.long q1), .second, .val (.long q2), .second, .val (.int w5), .val (.int w6), .val (.int na), .val (.int ((((w0.toUInt32 >>> ((3 : Int32) &&& 31).toUInt32).toInt32) &&& (7 : Int32)) - ((((w0.toUInt32 >>> ((3 : Int32) &&& 31).toUInt32).toInt32) &&& (7 : Int32)) / (6 : Int32)) * (6 : Int32))), .unset, .unset, .unset, .unset, .unset, .unset, .unset, .unset, .unset, .unset, .unset, .unset]) rfl k) ?_
  show own_Fin p.tables e below _ (s₁.setTop (mkF m 20 #[.val (.int w0), .val (.long q1), .second, .val (.long q2), .second, .val (.int w5), .val (.int w6), .val (.int na), .val (.int ((((w0.toUInt32 >>> ((3 : Int32) &&& 31).toUInt32).toInt32) &&& (7 : Int32)) - ((((w0.toUInt32 >>> ((3 : Int32) &&& 31).toUInt32).toInt32) &&& (7 : Int32)) / (6 : Int32)) * (6 : Int32))), .unset, .unset, .unset, .unset, .unset, .unset, .unset, .unset, .unset, .unset, .unset, .unset] []))
  obtain ⟨nb, hnb⟩ : ∃ z, z = ((((w0.toUInt32 >>> ((3 : Int32) &&& 31).toUInt32).toInt32) &&& (7 : Int32)) - ((((w0.toUInt32 >>> ((3 : Int32) &&& 31).toUInt32).toInt32) &&& (7 : Int32)) / (6 : Int32)) * (6 : Int32)) := ⟨_, rfl⟩
  rw [← hnb]
  show own_Fin p.tables e below _ (s₁.setTop (mkF m 20 #[.val (.int w0), .val (.long q1), .second, .val (.long q2), .second, .val (.int w5), .val (.int w6), .val (.int na), .val (.int nb), .unset, .unset, .unset, .unset, .unset, .unset, .unset, .unset, .unset, .unset, .unset, .unset] []))
  obtain ⟨hnb0, hnb1⟩ := own_r6 hnb
  have hab : (na + nb).toInt = na.toInt + nb.toInt := own_addr rfl rfl hna0 (by omega) hnb0 (by omega)
  refine own_step (fun _ k => XS.iloadN X0.here hx rfl (hb hby at_20) rfl k) ?_
  show own_Fin p.tables e below _ (s₁.setTop (mkF m 21 #[.val (.int w0), .val (.long q1), .second, .val (.long q2), .second, .val (.int w5), .val (.int w6), .val (.int na), .val (.int nb), .unset, .unset, .unset, .unset, .unset, .unset, .unset, .unset, .unset, .unset, .unset, .unset] [(.int w0)]))
  refine own_step (fun _ k => XS.bipush X0.here hx rfl (hb hby at_21) k) ?_
  show own_Fin p.tables e below _ (s₁.setTop (mkF m 23 #[.val (.int w0), .val (.long q1), .second, .val (.long q2), .second, .val (.int w5), .val (.int w6), .val (.int na), .val (.int nb), .unset, .unset, .unset, .unset, .unset, .unset, .unset, .unset, .unset, .unset, .unset, .unset] [(.int (6 : Int32)), (.int w0)]))
  refine own_step (fun _ k => XS.iushr X0.here hx rfl (hb hby at_23) rfl k) ?_
  show own_Fin p.tables e below _ (s₁.setTop (mkF m 24 #[.val (.int w0), .val (.long q1), .second, .val (.long q2), .second, .val (.int w5), .val (.int w6), .val (.int na), .val (.int nb), .unset, .unset, .unset, .unset, .unset, .unset, .unset, .unset, .unset, .unset, .unset, .unset] [(.int ((w0.toUInt32 >>> ((6 : Int32) &&& 31).toUInt32).toInt32))]))
  refine own_step (fun _ k => XS.iconst X0.here hx rfl (hb hby at_24) k) ?_
  show own_Fin p.tables e below _ (s₁.setTop (mkF m 25 #[.val (.int w0), .val (.long q1), .second, .val (.long q2), .second, .val (.int w5), .val (.int w6), .val (.int na), .val (.int nb), .unset, .unset, .unset, .unset, .unset, .unset, .unset, .unset, .unset, .unset, .unset, .unset] [(.int (1 : Int32)), (.int ((w0.toUInt32 >>> ((6 : Int32) &&& 31).toUInt32).toInt32))]))
  refine own_step (fun _ k => XS.iand X0.here hx rfl (hb hby at_25) rfl k) ?_
  show own_Fin p.tables e below _ (s₁.setTop (mkF m 26 #[.val (.int w0), .val (.long q1), .second, .val (.long q2), .second, .val (.int w5), .val (.int w6), .val (.int na), .val (.int nb), .unset, .unset, .unset, .unset, .unset, .unset, .unset, .unset, .unset, .unset, .unset, .unset] [(.int (((w0.toUInt32 >>> ((6 : Int32) &&& 31).toUInt32).toInt32) &&& (1 : Int32)))]))
  refine own_step (fun _ k => XS.istore X0.here hx rfl (hb hby at_26) rfl (l' := #[.val (.int w0), .val (.long q1), .second, .val (.long q2), .second, .val (.int w5), .val (.int w6), .val (.int na), .val (.int nb), .val (.int (((w0.toUInt32 >>> ((6 : Int32) &&& 31).toUInt32).toInt32) &&& (1 : Int32))), .unset, .unset, .unset, .unset, .unset, .unset, .unset, .unset, .unset, .unset, .unset]) rfl k) ?_
  show own_Fin p.tables e below _ (s₁.setTop (mkF m 28 #[.val (.int w0), .val (.long q1), .second, .val (.long q2), .second, .val (.int w5), .val (.int w6), .val (.int na), .val (.int nb), .val (.int (((w0.toUInt32 >>> ((6 : Int32) &&& 31).toUInt32).toInt32) &&& (1 : Int32))), .unset, .unset, .unset, .unset, .unset, .unset, .unset, .unset, .unset, .unset, .unset] []))
  obtain ⟨tt, htt⟩ : ∃ z, z = (((w0.toUInt32 >>> ((6 : Int32) &&& 31).toUInt32).toInt32) &&& (1 : Int32)) := ⟨_, rfl⟩
  rw [← htt]
  show own_Fin p.tables e below _ (s₁.setTop (mkF m 28 #[.val (.int w0), .val (.long q1), .second, .val (.long q2), .second, .val (.int w5), .val (.int w6), .val (.int na), .val (.int nb), .val (.int tt), .unset, .unset, .unset, .unset, .unset, .unset, .unset, .unset, .unset, .unset, .unset] []))
  refine own_step (fun _ k => XS.lloadN X0.here hx rfl (hb hby at_28) rfl k) ?_
  show own_Fin p.tables e below _ (s₁.setTop (mkF m 29 #[.val (.int w0), .val (.long q1), .second, .val (.long q2), .second, .val (.int w5), .val (.int w6), .val (.int na), .val (.int nb), .val (.int tt), .unset, .unset, .unset, .unset, .unset, .unset, .unset, .unset, .unset, .unset, .unset] [(.long q1)]))
  obtain ⟨_, _, ⟨T1, L1, k1, n1⟩, -, X1, ⟨Lc1, hQ1, l1, y1, z1⟩, st1⟩ := Jvm.LawKit.callS X0 hx (y := (⟨"com/example/fusewright/fusewright/runtime/SparseMatrixFirstAtOrAfterPinLaw", "cols", "(J)[I"⟩ : MethodName)) hown (mvT hZ (hw _ (List.mem_of_getElem? (i := 0) rfl))) (mvT hZ (hw _ (List.mem_of_getElem? (i := 1) rfl))) (mvT hZ (hw _ (List.mem_of_getElem? (i := 2) rfl))) (mvT hZ (hw _ (List.mem_of_getElem? (i := 3) rfl))) (by decide) (backOf (W := 0) (rm1 l Z a0 hw [] q1  h0 n0 Z0 ) hZ (hw _ (List.mem_of_getElem? (i := 3) rfl)) (hw _ (List.mem_of_getElem? (i := 2) rfl)) (by decide) (by decide)) (g := (mkF m 29 #[.val (.int w0), .val (.long q1), .second, .val (.long q2), .second, .val (.int w5), .val (.int w6), .val (.int na), .val (.int nb), .val (.int tt), .unset, .unset, .unset, .unset, .unset, .unset, .unset, .unset, .unset, .unset, .unset] [(.long q1)])) rfl (by rw [hml]; rfl) (argsL := [(.long q1)]) (rest := []) (lenOf pd_0 rfl) rfl (by show 2 * 0 + _ ≤ _; exact Nat.le_of_eq rfl) (hb hby at_29) (fun _ _ => ⟨rfl, e0, (by decide : 0 + 1 ≤ _), (by decide : 0 + 5 ≤ _)⟩)
  dsimp only [Pt.U, Pt.locs, Pt.cells, Pt.slots] at X1 l1 y1 z1 st1 hQ1
  subst l1 y1 z1
  obtain ⟨y1, rfl, N1q, K1, hy1, g_y1, kk1, ca0, ca1, ca2, ca3, ca4, fv1, ha0, ha1, ha2, ha3, ha4⟩ := hQ1
  have N1 := Fr.app N0 N1q
  refine own_step st1 ?_
  have f2 := Nat.le_trans Z0 K1.1
  show own_Fin p.tables e below _ (T1.setTop (mkF m 32 #[.val (.int w0), .val (.long q1), .second, .val (.long q2), .second, .val (.int w5), .val (.int w6), .val (.int na), .val (.int nb), .val (.int tt), .unset, .unset, .unset, .unset, .unset, .unset, .unset, .unset, .unset, .unset, .unset] [(.ref y1)]))
  refine own_step (fun _ k => XS.astore X1.here hx rfl (hb hby at_32) rfl rfl (l' := #[.val (.int w0), .val (.long q1), .second, .val (.long q2), .second, .val (.int w5), .val (.int w6), .val (.int na), .val (.int nb), .val (.int tt), .val (.ref y1), .unset, .unset, .unset, .unset, .unset, .unset, .unset, .unset, .unset, .unset]) rfl k) ?_
  show own_Fin p.tables e below _ (T1.setTop (mkF m 34 #[.val (.int w0), .val (.long q1), .second, .val (.long q2), .second, .val (.int w5), .val (.int w6), .val (.int na), .val (.int nb), .val (.int tt), .val (.ref y1), .unset, .unset, .unset, .unset, .unset, .unset, .unset, .unset, .unset, .unset] []))
  refine own_step (fun _ k => XS.lloadN X1.here hx rfl (hb hby at_34) rfl k) ?_
  show own_Fin p.tables e below _ (T1.setTop (mkF m 35 #[.val (.int w0), .val (.long q1), .second, .val (.long q2), .second, .val (.int w5), .val (.int w6), .val (.int na), .val (.int nb), .val (.int tt), .val (.ref y1), .unset, .unset, .unset, .unset, .unset, .unset, .unset, .unset, .unset, .unset] [(.long q2)]))
  obtain ⟨_, _, ⟨T3, L3, k3, n3⟩, -, X3, ⟨Lc3, hQ3, l3, y3, z3⟩, st3⟩ := Jvm.LawKit.callS X1 hx (y := (⟨"com/example/fusewright/fusewright/runtime/SparseMatrixFirstAtOrAfterPinLaw", "cols", "(J)[I"⟩ : MethodName)) hown (mvT hZ (hw _ (List.mem_of_getElem? (i := 0) rfl))) (mvT hZ (hw _ (List.mem_of_getElem? (i := 1) rfl))) (mvT hZ (hw _ (List.mem_of_getElem? (i := 2) rfl))) (mvT hZ (hw _ (List.mem_of_getElem? (i := 3) rfl))) (by decide) (backOf (W := 0) (rm1 l Z a0 hw [] q2  T1.heap n0 f2 ) hZ (hw _ (List.mem_of_getElem? (i := 3) rfl)) (hw _ (List.mem_of_getElem? (i := 2) rfl)) (by decide) (by decide)) (g := (mkF m 35 #[.val (.int w0), .val (.long q1), .second, .val (.long q2), .second, .val (.int w5), .val (.int w6), .val (.int na), .val (.int nb), .val (.int tt), .val (.ref y1), .unset, .unset, .unset, .unset, .unset, .unset, .unset, .unset, .unset, .unset] [(.long q2)])) rfl (by rw [hml]; rfl) (argsL := [(.long q2)]) (rest := []) (lenOf pd_0 rfl) rfl (by show 2 * 0 + _ ≤ _; exact Nat.le_of_eq rfl) (hb hby at_35) (fun _ _ => ⟨rfl, rfl, (by decide : 1 + 1 ≤ _), (by decide : 5 + 5 ≤ _)⟩)
  dsimp only [Pt.U, Pt.locs, Pt.cells, Pt.slots] at X3 l3 y3 z3 st3 hQ3
  subst l3 y3 z3
  obtain ⟨y3, rfl, N3q, K3, hy3, g_y3, kk3, cb0, cb1, cb2, cb3, cb4, fv3, hb0, hb1, hb2, hb3, hb4⟩ := hQ3
  have N3 := Fr.app N1 N3q
  refine own_step st3 ?_
  have f4 := Nat.le_trans f2 K3.1
  have f5 := fv1.keep K3 nin0
  have ne_y1_y3 : y1 ≠ y3 := Nat.ne_of_lt (Nat.lt_of_lt_of_le fv1.lt hy3)
  show own_Fin p.tables e below _ (T3.setTop (mkF m 38 #[.val (.int w0), .val (.long q1), .second, .val (.long q2), .second, .val (.int w5), .val (.int w6), .val (.int na), .val (.int nb), .val (.int tt), .val (.ref y1), .unset, .unset, .unset, .unset, .unset, .unset, .unset, .unset, .unset, .unset] [(.ref y3)]))
  refine own_step (fun _ k => XS.astore X3.here hx rfl (hb hby at_38) rfl rfl (l' := #[.val (.int w0), .val (.long q1), .second, .val (.long q2), .second, .val (.int w5), .val (.int w6), .val (.int na), .val (.int nb), .val (.int tt), .val (.ref y1), .val (.ref y3), .unset, .unset, .unset, .unset, .unset, .unset, .unset, .unset, .unset]) rfl k) ?_
  show own_Fin p.tables e below _ (T3.setTop (mkF m 40 #[.val (.int w0), .val (.long q1), .second, .val (.long q2), .second, .val (.int w5), .val (.int w6), .val (.int na), .val (.int nb), .val (.int tt), .val (.ref y1), .val (.ref y3), .unset, .unset, .unset, .unset, .unset, .unset, .unset, .unset, .unset] []))
  refine own_step (fun _ k => XS.bipush X3.here hx rfl (hb hby at_40) k) ?_
  show own_Fin p.tables e below _ (T3.setTop (mkF m 42 #[.val (.int w0), .val (.long q1), .second, .val (.long q2), .second, .val (.int w5), .val (.int w6), .val (.int na), .val (.int nb), .val (.int tt), .val (.ref y1), .val (.ref y3), .unset, .unset, .unset, .unset, .unset, .unset, .unset, .unset, .unset] [(.int (11 : Int32))]))
  obtain ⟨T6, h6, k6, X6, e6, E6, A6, st6⟩ := newP X3 hx hZ (hw _ (List.mem_of_getElem? (i := 4) rfl)) rfl (g := (mkF m 42 #[.val (.int w0), .val (.long q1), .second, .val (.long q2), .second, .val (.int w5), .val (.int w6), .val (.int na), .val (.int nb), .val (.int tt), .val (.ref y1), .val (.ref y3), .unset, .unset, .unset, .unset, .unset, .unset, .unset, .unset, .unset] [(.int (11 : Int32))])) rfl (hb hby at_42) rfl (by decide) (cap := 11) (by decide) (by decide) (by decide) (by decide)
  obtain ⟨b6, g6⟩ : ∃ z, z = T3.heap.size := ⟨_, rfl⟩
  rw [← g6] at A6 st6
  refine own_step st6 ?_
  have g_b6 : n0 ≤ b6 := Nat.le_trans f4 (Nat.le_of_eq g6.symm)
  have ne_y1_b6 : y1 ≠ b6 := Nat.ne_of_lt (Nat.lt_of_lt_of_le f5.lt (Nat.le_of_eq g6.symm))
  have ne_y3_b6 : y3 ≠ b6 := Nat.ne_of_lt (Nat.lt_of_lt_of_le fv3.lt (Nat.le_of_eq g6.symm))
  have f7 := Nat.le_trans f4 E6.1
  have f8 := f5.ext E6
  have f9 := fv3.ext E6
  have f10 : Arv Z h6 b6 k6 .int (11 : Int32) [(.int (0 : Int32)), (.int (0 : Int32)), (.int (0 : Int32)), (.int (0 : Int32)), (.int (0 : Int32)), (.int (0 : Int32)), (.int (0 : Int32)), (.int (0 : Int32)), (.int (0 : Int32)), (.int (0 : Int32)), (.int (0 : Int32))] (.int (0 : Int32)) := (Arv.new A6 (by decide)).pad (pad_rep [] (.int (0 : Int32)) 11)
  show own_Fin p.tables e below _ (T6.setTop (mkF m 44 #[.val (.int w0), .val (.long q1), .second, .val (.long q2), .second, .val (.int w5), .val (.int w6), .val (.int na), .val (.int nb), .val (.int tt), .val (.ref y1), .val (.ref y3), .unset, .unset, .unset, .unset, .unset, .unset, .unset, .unset, .unset] [(.ref b6)]))
  refine own_step (fun _ k => XS.astore X6.here hx rfl (hb hby at_44) rfl rfl (l' := #[.val (.int w0), .val (.long q1), .second, .val (.long q2), .second, .val (.int w5), .val (.int w6), .val (.int na), .val (.int nb), .val (.int tt), .val (.ref y1), .val (.ref y3), .val (.ref b6), .unset, .unset, .unset, .unset, .unset, .unset, .unset, .unset]) rfl k) ?_
  show own_Fin p.tables e below _ (T6.setTop (mkF m 46 #[.val (.int w0), .val (.long q1), .second, .val (.long q2), .second, .val (.int w5), .val (.int w6), .val (.int na), .val (.int nb), .val (.int tt), .val (.ref y1), .val (.ref y3), .val (.ref b6), .unset, .unset, .unset, .unset, .unset, .unset, .unset, .unset] []))
  refine own_step (fun _ k => XS.aload X6.here hx rfl (hb hby at_46) rfl rfl k) ?_
  show own_Fin p.tables e below _ (T6.setTop (mkF m 48 #[.val (.int w0), .val (.long q1), .second, .val (.long q2), .second, .val (.int w5), .val (.int w6), .val (.int na), .val (.int nb), .val (.int tt), .val (.ref y1), .val (.ref y3), .val (.ref b6), .unset, .unset, .unset, .unset, .unset, .unset, .unset, .unset] [(.ref b6)]))
  refine own_step (fun _ k => XS.iconst X6.here hx rfl (hb hby at_48) k) ?_
  show own_Fin p.tables e below _ (T6.setTop (mkF m 49 #[.val (.int w0), .val (.long q1), .second, .val (.long q2), .second, .val (.int w5), .val (.int w6), .val (.int na), .val (.int nb), .val (.int tt), .val (.ref y1), .val (.ref y3), .val (.ref b6), .unset, .unset, .unset, .unset, .unset, .unset, .unset, .unset] [(.int (0 : Int32)), (.ref b6)]))
  refine own_step (fun _ k => XS.aload X6.here hx rfl (hb hby at_49) rfl rfl k) ?_
  show own_Fin p.tables e below _ (T6.setTop (mkF m 51 #[.val (.int w0), .val (.long q1), .second, .val (.long q2), .second, .val (.int w5), .val (.int w6), .val (.int na), .val (.int nb), .val (.int tt), .val (.ref y1), .val (.ref y3), .val (.ref b6), .unset, .unset, .unset, .unset, .unset, .unset, .unset, .unset] [(.ref y1), (.int (0 : Int32)), (.ref b6)]))
  refine own_step (fun _ k => XS.iconst X6.here hx rfl (hb hby at_51) k) ?_
  show own_Fin p.tables e below _ (T6.setTop (mkF m 52 #[.val (.int w0), .val (.long q1), .second, .val (.long q2), .second, .val (.int w5), .val (.int w6), .val (.int na), .val (.int nb), .val (.int tt), .val (.ref y1), .val (.ref y3), .val (.ref b6), .unset, .unset, .unset, .unset, .unset, .unset, .unset, .unset] [(.int (0 : Int32)), (.ref y1), (.int (0 : Int32)), (.ref b6)]))
  obtain ⟨cl11, Ar11, -, S11, M11, H11, -⟩ := id f8
  have hin11 : ¬ ((0 : Int32) < 0 ∨ cl11.slots.size ≤ ((0 : Int32)).toNatClampNeg) := inb_of S11 ⟨by decide, by decide⟩
  refine own_step (X6.iaload hx (j := (0 : Int32)) (v := (.int ca0)) (by first | exact Ar11.1 | (rw [e6]; exact Ar11.1)) (State.isArrayOf_alike hZ.alike Ar11.2.1) Ar11.2.2 hin11 (H11.at hin11 rfl) (g := (mkF m 52 #[.val (.int w0), .val (.long q1), .second, .val (.long q2), .second, .val (.int w5), .val (.int w6), .val (.int na), .val (.int nb), .val (.int tt), .val (.ref y1), .val (.ref y3), .val (.ref b6), .unset, .unset, .unset, .unset, .unset, .unset, .unset, .unset] [(.int (0 : Int32)), (.ref y1), (.int (0 : Int32)), (.ref b6)])) rfl rfl (hb hby at_52)) ?_
  show own_Fin p.tables e below _ (T6.setTop (mkF m 53 #[.val (.int w0), .val (.long q1), .second, .val (.long q2), .second, .val (.int w5), .val (.int w6), .val (.int na), .val (.int nb), .val (.int tt), .val (.ref y1), .val (.ref y3), .val (.ref b6), .unset, .unset, .unset, .unset, .unset, .unset, .unset, .unset] [(.int ca0), (.int (0 : Int32)), (.ref b6)]))
  obtain ⟨cl12, Ar12, q12, S12, M12, H12, G12⟩ := id f10
  have hin12 : ¬ ((0 : Int32) < 0 ∨ cl12.slots.size ≤ ((0 : Int32)).toNatClampNeg) := inb_of S12 ⟨by decide, by decide⟩
  obtain ⟨T12, h12, X12, e12, W12, st12⟩ := stI X6 hx hZ e6 Ar12 (j := (0 : Int32)) hin12 (g := (mkF m 53 #[.val (.int w0), .val (.long q1), .second, .val (.long q2), .second, .val (.int w5), .val (.int w6), .val (.int na), .val (.int nb), .val (.int tt), .val (.ref y1), .val (.ref y3), .val (.ref b6), .unset, .unset, .unset, .unset, .unset, .unset, .unset, .unset] [(.int ca0), (.int (0 : Int32)), (.ref b6)])) rfl rfl (hb hby at_53)
  refine own_step st12 ?_
  have f13 := Nat.le_trans f7 (Keep.of_wr W12).1
  have f14 := f8.other W12 ne_y1_b6
  have f15 := f9.other W12 ne_y3_b6
  have f16 : Arv Z h12 b6 k6 .int (11 : Int32) [(.int ca0), (.int (0 : Int32)), (.int (0 : Int32)), (.int (0 : Int32)), (.int (0 : Int32)), (.int (0 : Int32)), (.int (0 : Int32)), (.int (0 : Int32)), (.int (0 : Int32)), (.int (0 : Int32)), (.int (0 : Int32))] (.int (0 : Int32)) := Arv.set Ar12 q12 S12 M12 H12 G12 rfl W12 0 rfl (Nat.le_of_ble_eq_true rfl)
  have N17 := Fr.snoc X12 N3 g_b6
  show own_Fin p.tables e below _ (T12.setTop (mkF m 54 #[.val (.int w0), .val (.long q1), .second, .val (.long q2), .second, .val (.int w5), .val (.int w6), .val (.int na), .val (.int nb), .val (.int tt), .val (.ref y1), .val (.ref y3), .val (.ref b6), .unset, .unset, .unset, .unset, .unset, .unset, .unset, .unset] []))
  refine own_step (fun _ k => XS.aload X12.here hx rfl (hb hby at_54) rfl rfl k) ?_
  show own_Fin p.tables e below _ (T12.setTop (mkF m 56 #[.val (.int w0), .val (.long q1), .second, .val (.long q2), .second, .val (.int w5), .val (.int w6), .val (.int na), .val (.int nb), .val (.int tt), .val (.ref y1), .val (.ref y3), .val (.ref b6), .unset, .unset, .unset, .unset, .unset, .unset, .unset, .unset] [(.ref b6)]))
  refine own_step (fun _ k => XS.iconst X12.here hx rfl (hb hby at_56) k) ?_
  show own_Fin p.tables e below _ (T12.setTop (mkF m 57 #[.val (.int w0), .val (.long q1), .second, .val (.long q2), .second, .val (.int w5), .val (.int w6), .val (.int na), .val (.int nb), .val (.int tt), .val (.ref y1), .val (.ref y3), .val (.ref b6), .unset, .unset, .unset, .unset, .unset, .unset, .unset, .unset] [(.int (1 : Int32)), (.ref b6)]))
  refine own_step (fun _ k => XS.aload X12.here hx rfl (hb hby at_57) rfl rfl k) ?_
  show own_Fin p.tables e below _ (T12.setTop (mkF m 59 #[.val (.int w0), .val (.long q1), .second, .val (.long q2), .second, .val (.int w5), .val (.int w6), .val (.int na), .val (.int nb), .val (.int tt), .val (.ref y1), .val (.ref y3), .val (.ref b6), .unset, .unset, .unset, .unset, .unset, .unset, .unset, .unset] [(.ref y1), (.int (1 : Int32)), (.ref b6)]))
  refine own_step (fun _ k => XS.iconst X12.here hx rfl (hb hby at_59) k) ?_
  show own_Fin p.tables e below _ (T12.setTop (mkF m 60 #[.val (.int w0), .val (.long q1), .second, .val (.long q2), .second, .val (.int w5), .val (.int w6), .val (.int na), .val (.int nb), .val (.int tt), .val (.ref y1), .val (.ref y3), .val (.ref b6), .unset, .unset, .unset, .unset, .unset, .unset, .unset, .unset] [(.int (1 : Int32)), (.ref y1), (.int (1 : Int32)), (.ref b6)]))
  obtain ⟨cl18, Ar18, -, S18, M18, H18, -⟩ := id f14
  have hin18 : ¬ ((1 : Int32) < 0 ∨ cl18.slots.size ≤ ((1 : Int32)).toNatClampNeg) := inb_of S18 ⟨by decide, by decide⟩
  refine own_step (X12.iaload hx (j := (1 : Int32)) (v := (.int ca1)) (by first | exact Ar18.1 | (rw [e12]; exact Ar18.1)) (State.isArrayOf_alike hZ.alike Ar18.2.1) Ar18.2.2 hin18 (H18.at hin18 rfl) (g := (mkF m 60 #[.val (.int w0), .val (.long q1), .second, .val (.long q2), .second, .val (.int w5), .val (.int w6), .val (.int na), .val (.int nb), .val (.int tt), .val (.ref y1), .val (.ref y3), .val (.ref b6), .unset, .unset, .unset, .unset, .unset, .unset, .unset, .unset] [(.int (1 : Int32)), (.ref y1), (.int (1 : Int32)), (.ref b6)])) rfl rfl (hb hby at_60)) ?_
  show own_Fin p.tables e below _ (T12.setTop (mkF m 61 #[.val (.int w0), .val (.long q1), .second, .val (.long q2), .second, .val (.int w5), .val (.int w6), .val (.int na), .val (.int nb), .val (.int tt), .val (.ref y1), .val (.ref y3), .val (.ref b6), .unset, .unset, .unset, .unset, .unset, .unset, .unset, .unset] [(.int ca1), (.int (1 : Int32)), (.ref b6)]))
  obtain ⟨cl19, Ar19, q19, S19, M19, H19, G19⟩ := id f16
  have hin19 : ¬ ((1 : Int32) < 0 ∨ cl19.slots.size ≤ ((1 : Int32)).toNatClampNeg) := inb_of S19 ⟨by decide, by decide⟩
  obtain ⟨T19, h19, X19, e19, W19, st19⟩ := stI X12 hx hZ e12 Ar19 (j := (1 : Int32)) hin19 (g := (mkF m 61 #[.val (.int w0), .val (.long q1), .second, .val (.long q2), .second, .val (.int w5), .val (.int w6), .val (.int na), .val (.int nb), .val (.int tt), .val (.ref y1), .val (.ref y3), .val (.ref b6), .unset, .unset, .unset, .unset, .unset, .unset, .unset, .unset] [(.int ca1), (.int (1 : Int32)), (.ref b6)])) rfl rfl (hb hby at_61)
  refine own_step st19 ?_
  have f20 := Nat.le_trans f13 (Keep.of_wr W19).1
  have f21 := f14.other W19 ne_y1_b6
  have f22 := f15.other W19 ne_y3_b6
  have f23 : Arv Z h19 b6 k6 .int (11 : Int32) [(.int ca0), (.int ca1), (.int (0 : Int32)), (.int (0 : Int32)), (.int (0 : Int32)), (.int (0 : Int32)), (.int (0 : Int32)), (.int (0 : Int32)), (.int (0 : Int32)), (.int (0 : Int32)), (.int (0 : Int32))] (.int (0 : Int32)) := Arv.set Ar19 q19 S19 M19 H19 G19 rfl W19 1 rfl (Nat.le_of_ble_eq_true rfl)
  have N24 := Fr.snoc X19 N17 g_b6
  show own_Fin p.tables e below _ (T19.setTop (mkF m 62 #[.val (.int w0), .val (.long q1), .second, .val (.long q2), .second, .val (.int w5), .val (.int w6), .val (.int na), .val (.int nb), .val (.int tt), .val (.ref y1), .val (.ref y3), .val (.ref b6), .unset, .unset, .unset, .unset, .unset, .unset, .unset, .unset] []))
  refine own_step (fun _ k => XS.aload X19.here hx rfl (hb hby at_62) rfl rfl k) ?_
  show own_Fin p.tables e below _ (T19.setTop (mkF m 64 #[.val (.int w0), .val (.long q1), .second, .val (.long q2), .second, .val (.int w5), .val (.int w6), .val (.int na), .val (.int nb), .val (.int tt), .val (.ref y1), .val (.ref y3), .val (.ref b6), .unset, .unset, .unset, .unset, .unset, .unset, .unset, .unset] [(.ref b6)]))
  refine own_step (fun _ k => XS.iconst X19.here hx rfl (hb hby at_64) k) ?_
  show own_Fin p.tables e below _ (T19.setTop (mkF m 65 #[.val (.int w0), .val (.long q1), .second, .val (.long q2), .second, .val (.int w5), .val (.int w6), .val (.int na), .val (.int nb), .val (.int tt), .val (.ref y1), .val (.ref y3), .val (.ref b6), .unset, .unset, .unset, .unset, .unset, .unset, .unset, .unset] [(.int (2 : Int32)), (.ref b6)]))
  refine own_step (fun _ k => XS.aload X19.here hx rfl (hb hby at_65) rfl rfl k) ?_
  show own_Fin p.tables e below _ (T19.setTop (mkF m 67 #[.val (.int w0), .val (.long q1), .second, .val (.long q2), .second, .val (.int w5), .val (.int w6), .val (.int na), .val (.int nb), .val (.int tt), .val (.ref y1), .val (.ref y3), .val (.ref b6), .unset, .unset, .unset, .unset, .unset, .unset, .unset, .unset] [(.ref y1), (.int (2 : Int32)), (.ref b6)]))
  refine own_step (fun _ k => XS.iconst X19.here hx rfl (hb hby at_67) k) ?_
  show own_Fin p.tables e below _ (T19.setTop (mkF m 68 #[.val (.int w0), .val (.long q1), .second, .val (.long q2), .second, .val (.int w5), .val (.int w6), .val (.int na), .val (.int nb), .val (.int tt), .val (.ref y1), .val (.ref y3), .val (.ref b6), .unset, .unset, .unset, .unset, .unset, .unset, .unset, .unset] [(.int (2 : Int32)), (.ref y1), (.int (2 : Int32)), (.ref b6)]))
  obtain ⟨cl25, Ar25, -, S25, M25, H25, -⟩ := id f21
  have hin25 : ¬ ((2 : Int32) < 0 ∨ cl25.slots.size ≤ ((2 : Int32)).toNatClampNeg) := inb_of S25 ⟨by decide, by decide⟩
  refine own_step (X19.iaload hx (j := (2 : Int32)) (v := (.int ca2)) (by first | exact Ar25.1 | (rw [e19]; exact Ar25.1)) (State.isArrayOf_alike hZ.alike Ar25.2.1) Ar25.2.2 hin25 (H25.at hin25 rfl) (g := (mkF m 68 #[.val (.int w0), .val (.long q1), .second, .val (.long q2), .second, .val (.int w5), .val (.int w6), .val (.int na), .val (.int nb), .val (.int tt), .val (.ref y1), .val (.ref y3), .val (.ref b6), .unset, .unset, .unset, .unset, .unset, .unset, .unset, .unset] [(.int (2 : Int32)), (.ref y1), (.int (2 : Int32)), (.ref b6)])) rfl rfl (hb hby at_68)) ?_
  show own_Fin p.tables e below _ (T19.setTop (mkF m 69 #[.val (.int w0), .val (.long q1), .second, .val (.long q2), .second, .val (.int w5), .val (.int w6), .val (.int na), .val (.int nb), .val (.int tt), .val (.ref y1), .val (.ref y3), .val (.ref b6), .unset, .unset, .unset, .unset, .unset, .unset, .unset, .unset] [(.int ca2), (.int (2 : Int32)), (.ref b6)]))
  obtain ⟨cl26, Ar26, q26, S26, M26, H26, G26⟩ := id f23
  have hin26 : ¬ ((2 : Int32) < 0 ∨ cl26.slots.size ≤ ((2 : Int32)).toNatClampNeg) := inb_of S26 ⟨by decide, by decide⟩
  obtain ⟨T26, h26, X26, e26, W26, st26⟩ := stI X19 hx hZ e19 Ar26 (j := (2 : Int32)) hin26 (g := (mkF m 69 #[.val (.int w0), .val (.long q1), .second, .val (.long q2), .second, .val (.int w5), .val (.int w6), .val (.int na), .val (.int nb), .val (.int tt), .val (.ref y1), .val (.ref y3), .val (.ref b6), .unset, .unset, .unset, .unset, .unset, .unset, .unset, .unset] [(.int ca2), (.int (2 : Int32)), (.ref b6)])) rfl rfl (hb hby at_69)
  refine own_step st26 ?_
  have f27 := Nat.le_trans f20 (Keep.of_wr W26).1
  have f28 := f21.other W26 ne_y1_b6
  have f29 := f22.other W26 ne_y3_b6
  have f30 : Arv Z h26 b6 k6 .int (11 : Int32) [(.int ca0), (.int ca1), (.int ca2), (.int (0 : Int32)), (.int (0 : Int32)), (.int (0 : Int32)), (.int (0 : Int32)), (.int (0 : Int32)), (.int (0 : Int32)), (.int (0 : Int32)), (.int (0 : Int32))] (.int (0 : Int32)) := Arv.set Ar26 q26 S26 M26 H26 G26 rfl W26 2 rfl (Nat.le_of_ble_eq_true rfl)
  have N31 := Fr.snoc X26 N24 g_b6
  show own_Fin p.tables e below _ (T26.setTop (mkF m 70 #[.val (.int w0), .val (.long q1), .second, .val (.long q2), .second, .val (.int w5), .val (.int w6), .val (.int na), .val (.int nb), .val (.int tt), .val (.ref y1), .val (.ref y3), .val (.ref b6), .unset, .unset, .unset, .unset, .unset, .unset, .unset, .unset] []))
  refine own_step (fun _ k => XS.aload X26.here hx rfl (hb hby at_70) rfl rfl k) ?_
  show own_Fin p.tables e below _ (T26.setTop (mkF m 72 #[.val (.int w0), .val (.long q1), .second, .val (.long q2), .second, .val (.int w5), .val (.int w6), .val (.int na), .val (.int nb), .val (.int tt), .val (.ref y1), .val (.ref y3), .val (.ref b6), .unset, .unset, .unset, .unset, .unset, .unset, .unset, .unset] [(.ref b6)]))
  refine own_step (fun _ k => XS.iconst X26.here hx rfl (hb hby at_72) k) ?_
  show own_Fin p.tables e below _ (T26.setTop (mkF m 73 #[.val (.int w0), .val (.long q1), .second, .val (.long q2), .second, .val (.int w5), .val (.int w6), .val (.int na), .val (.int nb), .val (.int tt), .val (.ref y1), .val (.ref y3), .val (.ref b6), .unset, .unset, .unset, .unset, .unset, .unset, .unset, .unset] [(.int (3 : Int32)), (.ref b6)]))
  refine own_step (fun _ k => XS.aload X26.here hx rfl (hb hby at_73) rfl rfl k) ?_
  show own_Fin p.tables e below _ (T26.setTop (mkF m 75 #[.val (.int w0), .val (.long q1), .second, .val (.long q2), .second, .val (.int w5), .val (.int w6), .val (.int na), .val (.int nb), .val (.int tt), .val (.ref y1), .val (.ref y3), .val (.ref b6), .unset, .unset, .unset, .unset, .unset, .unset, .unset, .unset] [(.ref y1), (.int (3 : Int32)), (.ref b6)]))
  refine own_step (fun _ k => XS.iconst X26.here hx rfl (hb hby at_75) k) ?_
  show own_Fin p.tables e below _ (T26.setTop (mkF m 76 #[.val (.int w0), .val (.long q1), .second, .val (.long q2), .second, .val (.int w5), .val (.int w6), .val (.int na), .val (.int nb), .val (.int tt), .val (.ref y1), .val (.ref y3), .val (.ref b6), .unset, .unset, .unset, .unset, .unset, .unset, .unset, .unset] [(.int (3 : Int32)), (.ref y1), (.int (3 : Int32)), (.ref b6)]))
  obtain ⟨cl32, Ar32, -, S32, M32, H32, -⟩ := id f28
  have hin32 : ¬ ((3 : Int32) < 0 ∨ cl32.slots.size ≤ ((3 : Int32)).toNatClampNeg) := inb_of S32 ⟨by decide, by decide⟩
  refine own_step (X26.iaload hx (j := (3 : Int32)) (v := (.int ca3)) (by first | exact Ar32.1 | (rw [e26]; exact Ar32.1)) (State.isArrayOf_alike hZ.alike Ar32.2.1) Ar32.2.2 hin32 (H32.at hin32 rfl) (g := (mkF m 76 #[.val (.int w0), .val (.long q1), .second, .val (.long q2), .second, .val (.int w5), .val (.int w6), .val (.int na), .val (.int nb), .val (.int tt), .val (.ref y1), .val (.ref y3), .val (.ref b6), .unset, .unset, .unset, .unset, .unset, .unset, .unset, .unset] [(.int (3 : Int32)), (.ref y1), (.int (3 : Int32)), (.ref b6)])) rfl rfl (hb hby at_76)) ?_
  show own_Fin p.tables e below _ (T26.setTop (mkF m 77 #[.val (.int w0), .val (.long q1), .second, .val (.long q2), .second, .val (.int w5), .val (.int w6), .val (.int na), .val (.int nb), .val (.int tt), .val (.ref y1), .val (.ref y3), .val (.ref b6), .unset, .unset, .unset, .unset, .unset, .unset, .unset, .unset] [(.int ca3), (.int (3 : Int32)), (.ref b6)]))
  obtain ⟨cl33, Ar33, q33, S33, M33, H33, G33⟩ := id f30
  have hin33 : ¬ ((3 : Int32) < 0 ∨ cl33.slots.size ≤ ((3 : Int32)).toNatClampNeg) := inb_of S33 ⟨by decide, by decide⟩
  obtain ⟨T33, h33, X33, e33, W33, st33⟩ := stI X26 hx hZ e26 Ar33 (j := (3 : Int32)) hin33 (g := (mkF m 77 #[.val (.int w0), .val (.long q1), .second, .val (.long q2), .second, .val (.int w5), .val (.int w6), .val (.int na), .val (.int nb), .val (.int tt), .val (.ref y1), .val (.ref y3), .val (.ref b6), .unset, .unset, .unset, .unset, .unset, .unset, .unset, .unset] [(.int ca3), (.int (3 : Int32)), (.ref b6)])) rfl rfl (hb hby at_77)
  refine own_step st33 ?_
  have f34 := Nat.le_trans f27 (Keep.of_wr W33).1
  have f35 := f28.other W33 ne_y1_b6
  have f36 := f29.other W33 ne_y3_b6
  have f37 : Arv Z h33 b6 k6 .int (11 : Int32) [(.int ca0), (.int ca1), (.int ca2), (.int ca3), (.int (0 : Int32)), (.int (0 : Int32)), (.int (0 : Int32)), (.int (0 : Int32)), (.int (0 : Int32)), (.int (0 : Int32)), (.int (0 : Int32))] (.int (0 : Int32)) := Arv.set Ar33 q33 S33 M33 H33 G33 rfl W33 3 rfl (Nat.le_of_ble_eq_true rfl)
  have N38 := Fr.snoc X33 N31 g_b6
  show own_Fin p.tables e below _ (T33.setTop (mkF m 78 #[.val (.int w0), .val (.long q1), .second, .val (.long q2), .second, .val (.int w5), .val (.int w6), .val (.int na), .val (.int nb), .val (.int tt), .val (.ref y1), .val (.ref y3), .val (.ref b6), .unset, .unset, .unset, .unset, .unset, .unset, .unset, .unset] []))
  refine own_step (fun _ k => XS.aload X33.here hx rfl (hb hby at_78) rfl rfl k) ?_
  show own_Fin p.tables e below _ (T33.setTop (mkF m 80 #[.val (.int w0), .val (.long q1), .second, .val (.long q2), .second, .val (.int w5), .val (.int w6), .val (.int na), .val (.int nb), .val (.int tt), .val (.ref y1), .val (.ref y3), .val (.ref b6), .unset, .unset, .unset, .unset, .unset, .unset, .unset, .unset] [(.ref b6)]))
  refine own_step (fun _ k => XS.iconst X33.here hx rfl (hb hby at_80) k) ?_
  show own_Fin p.tables e below _ (T33.setTop (mkF m 81 #[.val (.int w0), .val (.long q1), .second, .val (.long q2), .second, .val (.int w5), .val (.int w6), .val (.int na), .val (.int nb), .val (.int tt), .val (.ref y1), .val (.ref y3), .val (.ref b6), .unset, .unset, .unset, .unset, .unset, .unset, .unset, .unset] [(.int (4 : Int32)), (.ref b6)]))
  refine own_step (fun _ k => XS.aload X33.here hx rfl (hb hby at_81) rfl rfl k) ?_
  show own_Fin p.tables e below _ (T33.setTop (mkF m 83 #[.val (.int w0), .val (.long q1), .second, .val (.long q2), .second, .val (.int w5), .val (.int w6), .val (.int na), .val (.int nb), .val (.int tt), .val (.ref y1), .val (.ref y3), .val (.ref b6), .unset, .unset, .unset, .unset, .unset, .unset, .unset, .unset] [(.ref y1), (.int (4 : Int32)), (.ref b6)]))
  refine own_step (fun _ k => XS.iconst X33.here hx rfl (hb hby at_83) k) ?_
  show own_Fin p.tables e below _ (T33.setTop (mkF m 84 #[.val (.int w0), .val (.long q1), .second, .val (.long q2), .second, .val (.int w5), .val (.int w6), .val (.int na), .val (.int nb), .val (.int tt), .val (.ref y1), .val (.ref y3), .val (.ref b6), .unset, .unset, .unset, .unset, .unset, .unset, .unset, .unset] [(.int (4 : Int32)), (.ref y1), (.int (4 : Int32)), (.ref b6)]))
  obtain ⟨cl39, Ar39, -, S39, M39, H39, -⟩ := id f35
  have hin39 : ¬ ((4 : Int32) < 0 ∨ cl39.slots.size ≤ ((4 : Int32)).toNatClampNeg) := inb_of S39 ⟨by decide, by decide⟩
  refine own_step (X33.iaload hx (j := (4 : Int32)) (v := (.int ca4)) (by first | exact Ar39.1 | (rw [e33]; exact Ar39.1)) (State.isArrayOf_alike hZ.alike Ar39.2.1) Ar39.2.2 hin39 (H39.at hin39 rfl) (g := (mkF m 84 #[.val (.int w0), .val (.long q1), .second, .val (.long q2), .second, .val (.int w5), .val (.int w6), .val (.int na), .val (.int nb), .val (.int tt), .val (.ref y1), .val (.ref y3), .val (.ref b6), .unset, .unset, .unset, .unset, .unset, .unset, .unset, .unset] [(.int (4 : Int32)), (.ref y1), (.int (4 : Int32)), (.ref b6)])) rfl rfl (hb hby at_84)) ?_
  show own_Fin p.tables e below _ (T33.setTop (mkF m 85 #[.val (.int w0), .val (.long q1), .second, .val (.long q2), .second, .val (.int w5), .val (.int w6), .val (.int na), .val (.int nb), .val (.int tt), .val (.ref y1), .val (.ref y3), .val (.ref b6), .unset, .unset, .unset, .unset, .unset, .unset, .unset, .unset] [(.int ca4), (.int (4 : Int32)), (.ref b6)]))
  obtain ⟨cl40, Ar40, q40, S40, M40, H40, G40⟩ := id f37
  have hin40 : ¬ ((4 : Int32) < 0 ∨ cl40.slots.size ≤ ((4 : Int32)).toNatClampNeg) := inb_of S40 ⟨by decide, by decide⟩
  obtain ⟨T40, h40, X40, e40, W40, st40⟩ := stI X33 hx hZ e33 Ar40 (j := (4 : Int32)) hin40 (g := (mkF m 85 #[.val (.int w0), .val (.long q1), .second, .val (.long q2), .second, .val (.int w5), .val (.int w6), .val (.int na), .val (.int nb), .val (.int tt), .val (.ref y1), .val (.ref y3), .val (.ref b6), .unset, .unset, .unset, .unset, .unset, .unset, .unset, .unset] [(.int ca4), (.int (4 : Int32)), (.ref b6)])) rfl rfl (hb hby at_85)
  refine own_step st40 ?_
  have f41 := Nat.le_trans f34 (Keep.of_wr W40).1
  have f42 := f35.other W40 ne_y1_b6
  have f43 := f36.other W40 ne_y3_b6
  have f44 : Arv Z h40 b6 k6 .int (11 : Int32) [(.int ca0), (.int ca1), (.int ca2), (.int ca3), (.int ca4), (.int (0 : Int32)), (.int (0 : Int32)), (.int (0 : Int32)), (.int (0 : Int32)), (.int (0 : Int32)), (.int (0 : Int32))] (.int (0 : Int32)) := Arv.set Ar40 q40 S40 M40 H40 G40 rfl W40 4 rfl (Nat.le_of_ble_eq_true rfl)
  have N45 := Fr.snoc X40 N38 g_b6
  show own_Fin p.tables e below _ (T40.setTop (mkF m 86 #[.val (.int w0), .val (.long q1), .second, .val (.long q2), .second, .val (.int w5), .val (.int w6), .val (.int na), .val (.int nb), .val (.int tt), .val (.ref y1), .val (.ref y3), .val (.ref b6), .unset, .unset, .unset, .unset, .unset, .unset, .unset, .unset] []))
  refine own_step (fun _ k => XS.aload X40.here hx rfl (hb hby at_86) rfl rfl k) ?_
  show own_Fin p.tables e below _ (T40.setTop (mkF m 88 #[.val (.int w0), .val (.long q1), .second, .val (.long q2), .second, .val (.int w5), .val (.int w6), .val (.int na), .val (.int nb), .val (.int tt), .val (.ref y1), .val (.ref y3), .val (.ref b6), .unset, .unset, .unset, .unset, .unset, .unset, .unset, .unset] [(.ref b6)]))
  refine own_step (fun _ k => XS.iload X40.here hx rfl (hb hby at_88) rfl k) ?_
  show own_Fin p.tables e below _ (T40.setTop (mkF m 90 #[.val (.int w0), .val (.long q1), .second, .val (.long q2), .second, .val (.int w5), .val (.int w6), .val (.int na), .val (.int nb), .val (.int tt), .val (.ref y1), .val (.ref y3), .val (.ref b6), .unset, .unset, .unset, .unset, .unset, .unset, .unset, .unset] [(.int na), (.ref b6)]))
  refine own_step (fun _ k => XS.aload X40.here hx rfl (hb hby at_90) rfl rfl k) ?_
  show own_Fin p.tables e below _ (T40.setTop (mkF m 92 #[.val (.int w0), .val (.long q1), .second, .val (.long q2), .second, .val (.int w5), .val (.int w6), .val (.int na), .val (.int nb), .val (.int tt), .val (.ref y1), .val (.ref y3), .val (.ref b6), .unset, .unset, .unset, .unset, .unset, .unset, .unset, .unset] [(.ref y3), (.int na), (.ref b6)]))
  refine own_step (fun _ k => XS.iconst X40.here hx rfl (hb hby at_92) k) ?_
  show own_Fin p.tables e below _ (T40.setTop (mkF m 93 #[.val (.int w0), .val (.long q1), .second, .val (.long q2), .second, .val (.int w5), .val (.int w6), .val (.int na), .val (.int nb), .val (.int tt), .val (.ref y1), .val (.ref y3), .val (.ref b6), .unset, .unset, .unset, .unset, .unset, .unset, .unset, .unset] [(.int (0 : Int32)), (.ref y3), (.int na), (.ref b6)]))
  obtain ⟨cl46, Ar46, -, S46, M46, H46, -⟩ := id f43
  have hin46 : ¬ ((0 : Int32) < 0 ∨ cl46.slots.size ≤ ((0 : Int32)).toNatClampNeg) := inb_of S46 ⟨by decide, by decide⟩
  refine own_step (X40.iaload hx (j := (0 : Int32)) (v := (.int cb0)) (by first | exact Ar46.1 | (rw [e40]; exact Ar46.1)) (State.isArrayOf_alike hZ.alike Ar46.2.1) Ar46.2.2 hin46 (H46.at hin46 rfl) (g := (mkF m 93 #[.val (.int w0), .val (.long q1), .second, .val (.long q2), .second, .val (.int w5), .val (.int w6), .val (.int na), .val (.int nb), .val (.int tt), .val (.ref y1), .val (.ref y3), .val (.ref b6), .unset, .unset, .unset, .unset, .unset, .unset, .unset, .unset] [(.int (0 : Int32)), (.ref y3), (.int na), (.ref b6)])) rfl rfl (hb hby at_93)) ?_
  show own_Fin p.tables e below _ (T40.setTop (mkF m 94 #[.val (.int w0), .val (.long q1), .second, .val (.long q2), .second, .val (.int w5), .val (.int w6), .val (.int na), .val (.int nb), .val (.int tt), .val (.ref y1), .val (.ref y3), .val (.ref b6), .unset, .unset, .unset, .unset, .unset, .unset, .unset, .unset] [(.int cb0), (.int na), (.ref b6)]))
  obtain ⟨gZ, hgZ⟩ : ∃ z : Nat → Int32, z = fun i => [ca0, ca1, ca2, ca3, ca4, (0 : Int32), (0 : Int32), (0 : Int32), (0 : Int32), (0 : Int32), (0 : Int32)].getD i 0 := ⟨_, rfl⟩
  have fZ : own_Arf Z h40 b6 .int 11 (fun i => .int (gZ i)) := by rw [hgZ]; exact own_Arf.ofI f44 [ca0, ca1, ca2, ca3, ca4, (0 : Int32), (0 : Int32), (0 : Int32), (0 : Int32), (0 : Int32), (0 : Int32)] rfl rfl
  obtain ⟨cl47, Ar47, S47, H47⟩ := id fZ
  have hin47 : ¬ (na < 0 ∨ cl47.slots.size ≤ (na).toNatClampNeg) := own_in S47 ⟨hna0, by omega⟩
  obtain ⟨T47, h47, X47, e47, W47, st47⟩ := stI X40 hx hZ e40 Ar47 (j := na) hin47 (g := (mkF m 94 #[.val (.int w0), .val (.long q1), .second, .val (.long q2), .second, .val (.int w5), .val (.int w6), .val (.int na), .val (.int nb), .val (.int tt), .val (.ref y1), .val (.ref y3), .val (.ref b6), .unset, .unset, .unset, .unset, .unset, .unset, .unset, .unset] [(.int cb0), (.int na), (.ref b6)])) rfl rfl (hb hby at_94)
  refine own_step st47 ?_
  have f48 := Nat.le_trans f41 (Keep.of_wr W47).1
  have f49 := f42.other W47 ne_y1_b6
  have f50 := f43.other W47 ne_y3_b6
  have f51 : own_Arf Z h47 b6 .int 11 (fun i => .int ((own_upd gZ (na).toNatClampNeg cb0) i)) := own_Arf.setI fZ W47
  have N52 := Fr.snoc X47 N45 g_b6
  show own_Fin p.tables e below _ (T47.setTop (mkF m 95 #[.val (.int w0), .val (.long q1), .second, .val (.long q2), .second, .val (.int w5), .val (.int w6), .val (.int na), .val (.int nb), .val (.int tt), .val (.ref y1), .val (.ref y3), .val (.ref b6), .unset, .unset, .unset, .unset, .unset, .unset, .unset, .unset] []))
  refine own_step (fun _ k => XS.aload X47.here hx rfl (hb hby at_95) rfl rfl k) ?_
  show own_Fin p.tables e below _ (T47.setTop (mkF m 97 #[.val (.int w0), .val (.long q1), .second, .val (.long q2), .second, .val (.int w5), .val (.int w6), .val (.int na), .val (.int nb), .val (.int tt), .val (.ref y1), .val (.ref y3), .val (.ref b6), .unset, .unset, .unset, .unset, .unset, .unset, .unset, .unset] [(.ref b6)]))
  refine own_step (fun _ k => XS.iload X47.here hx rfl (hb hby at_97) rfl k) ?_
  show own_Fin p.tables e below _ (T47.setTop (mkF m 99 #[.val (.int w0), .val (.long q1), .second, .val (.long q2), .second, .val (.int w5), .val (.int w6), .val (.int na), .val (.int nb), .val (.int tt), .val (.ref y1), .val (.ref y3), .val (.ref b6), .unset, .unset, .unset, .unset, .unset, .unset, .unset, .unset] [(.int na), (.ref b6)]))
  refine own_step (fun _ k => XS.iconst X47.here hx rfl (hb hby at_99) k) ?_
  show own_Fin p.tables e below _ (T47.setTop (mkF m 100 #[.val (.int w0), .val (.long q1), .second, .val (.long q2), .second, .val (.int w5), .val (.int w6), .val (.int na), .val (.int nb), .val (.int tt), .val (.ref y1), .val (.ref y3), .val (.ref b6), .unset, .unset, .unset, .unset, .unset, .unset, .unset, .unset] [(.int (1 : Int32)), (.int na), (.ref b6)]))
  refine own_step (fun _ k => XS.iadd X47.here hx rfl (hb hby at_100) rfl k) ?_
  show own_Fin p.tables e below _ (T47.setTop (mkF m 101 #[.val (.int w0), .val (.long q1), .second, .val (.long q2), .second, .val (.int w5), .val (.int w6), .val (.int na), .val (.int nb), .val (.int tt), .val (.ref y1), .val (.ref y3), .val (.ref b6), .unset, .unset, .unset, .unset, .unset, .unset, .unset, .unset] [(.int (na + (1 : Int32))), (.ref b6)]))
  refine own_step (fun _ k => XS.aload X47.here hx rfl (hb hby at_101) rfl rfl k) ?_
  show own_Fin p.tables e below _ (T47.setTop (mkF m 103 #[.val (.int w0), .val (.long q1), .second, .val (.long q2), .second, .val (.int w5), .val (.int w6), .val (.int na), .val (.int nb), .val (.int tt), .val (.ref y1), .val (.ref y3), .val (.ref b6), .unset, .unset, .unset, .unset, .unset, .unset, .unset, .unset] [(.ref y3), (.int (na + (1 : Int32))), (.ref b6)]))
  refine own_step (fun _ k => XS.iconst X47.here hx rfl (hb hby at_103) k) ?_
  show own_Fin p.tables e below _ (T47.setTop (mkF m 104 #[.val (.int w0), .val (.long q1), .second, .val (.long q2), .second, .val (.int w5), .val (.int w6), .val (.int na), .val (.int nb), .val (.int tt), .val (.ref y1), .val (.ref y3), .val (.ref b6), .unset, .unset, .unset, .unset, .unset, .unset, .unset, .unset] [(.int (1 : Int32)), (.ref y3), (.int (na + (1 : Int32))), (.ref b6)]))
  obtain ⟨cl53, Ar53, -, S53, M53, H53, -⟩ := id f50
  have hin53 : ¬ ((1 : Int32) < 0 ∨ cl53.slots.size ≤ ((1 : Int32)).toNatClampNeg) := inb_of S53 ⟨by decide, by decide⟩
  refine own_step (X47.iaload hx (j := (1 : Int32)) (v := (.int cb1)) (by first | exact Ar53.1 | (rw [e47]; exact Ar53.1)) (State.isArrayOf_alike hZ.alike Ar53.2.1) Ar53.2.2 hin53 (H53.at hin53 rfl) (g := (mkF m 104 #[.val (.int w0), .val (.long q1), .second, .val (.long q2), .second, .val (.int w5), .val (.int w6), .val (.int na), .val (.int nb), .val (.int tt), .val (.ref y1), .val (.ref y3), .val (.ref b6), .unset, .unset, .unset, .unset, .unset, .unset, .unset, .unset] [(.int (1 : Int32)), (.ref y3), (.int (na + (1 : Int32))), (.ref b6)])) rfl rfl (hb hby at_104)) ?_
  show own_Fin p.tables e below _ (T47.setTop (mkF m 105 #[.val (.int w0), .val (.long q1), .second, .val (.long q2), .second, .val (.int w5), .val (.int w6), .val (.int na), .val (.int nb), .val (.int tt), .val (.ref y1), .val (.ref y3), .val (.ref b6), .unset, .unset, .unset, .unset, .unset, .unset, .unset, .unset] [(.int cb1), (.int (na + (1 : Int32))), (.ref b6)]))
  have hi1 : (na + (1 : Int32)).toInt = na.toInt + 1 := own_addr rfl (by decide) hna0 (by omega) (by omega) (by omega)
  obtain ⟨cl54, Ar54, S54, H54⟩ := id f51
  have hin54 : ¬ ((na + (1 : Int32)) < 0 ∨ cl54.slots.size ≤ ((na + (1 : Int32))).toNatClampNeg) := own_in S54 ⟨by rw [hi1]; omega, by rw [hi1]; omega⟩
  obtain ⟨T54, h54, X54, e54, W54, st54⟩ := stI X47 hx hZ e47 Ar54 (j := (na + (1 : Int32))) hin54 (g := (mkF m 105 #[.val (.int w0), .val (.long q1), .second, .val (.long q2), .second, .val (.int w5), .val (.int w6), .val (.int na), .val (.int nb), .val (.int tt), .val (.ref y1), .val (.ref y3), .val (.ref b6), .unset, .unset, .unset, .unset, .unset, .unset, .unset, .unset] [(.int cb1), (.int (na + (1 : Int32))), (.ref b6)])) rfl rfl (hb hby at_105)
  refine own_step st54 ?_
  have f55 := Nat.le_trans f48 (Keep.of_wr W54).1
  have f56 := f49.other W54 ne_y1_b6
  have f57 := f50.other W54 ne_y3_b6
  have f58 : own_Arf Z h54 b6 .int 11 (fun i => .int ((own_upd (own_upd gZ (na).toNatClampNeg cb0) ((na + (1 : Int32))).toNatClampNeg cb1) i)) := own_Arf.setI f51 W54
  have N59 := Fr.snoc X54 N52 g_b6
  show own_Fin p.tables e below _ (T54.setTop (mkF m 106 #[.val (.int w0), .val (.long q1), .second, .val (.long q2), .second, .val (.int w5), .val (.int w6), .val (.int na), .val (.int nb), .val (.int tt), .val (.ref y1), .val (.ref y3), .val (.ref b6), .unset, .unset, .unset, .unset, .unset, .unset, .unset, .unset] []))
  refine own_step (fun _ k => XS.aload X54.here hx rfl (hb hby at_106) rfl rfl k) ?_
  show own_Fin p.tables e below _ (T54.setTop (mkF m 108 #[.val (.int w0), .val (.long q1), .second, .val (.long q2), .second, .val (.int w5), .val (.int w6), .val (.int na), .val (.int nb), .val (.int tt), .val (.ref y1), .val (.ref y3), .val (.ref b6), .unset, .unset, .unset, .unset, .unset, .unset, .unset, .unset] [(.ref b6)]))
  refine own_step (fun _ k => XS.iload X54.here hx rfl (hb hby at_108) rfl k) ?_
  show own_Fin p.tables e below _ (T54.setTop (mkF m 110 #[.val (.int w0), .val (.long q1), .second, .val (.long q2), .second, .val (.int w5), .val (.int w6), .val (.int na), .val (.int nb), .val (.int tt), .val (.ref y1), .val (.ref y3), .val (.ref b6), .unset, .unset, .unset, .unset, .unset, .unset, .unset, .unset] [(.int na), (.ref b6)]))
  refine own_step (fun _ k => XS.iconst X54.here hx rfl (hb hby at_110) k) ?_
  show own_Fin p.tables e below _ (T54.setTop (mkF m 111 #[.val (.int w0), .val (.long q1), .second, .val (.long q2), .second, .val (.int w5), .val (.int w6), .val (.int na), .val (.int nb), .val (.int tt), .val (.ref y1), .val (.ref y3), .val (.ref b6), .unset, .unset, .unset, .unset, .unset, .unset, .unset, .unset] [(.int (2 : Int32)), (.int na), (.ref b6)]))
  refine own_step (fun _ k => XS.iadd X54.here hx rfl (hb hby at_111) rfl k) ?_
  show own_Fin p.tables e below _ (T54.setTop (mkF m 112 #[.val (.int w0), .val (.long q1), .second, .val (.long q2), .second, .val (.int w5), .val (.int w6), .val (.int na), .val (.int nb), .val (.int tt), .val (.ref y1), .val (.ref y3), .val (.ref b6), .unset, .unset, .unset, .unset, .unset, .unset, .unset, .unset] [(.int (na + (2 : Int32))), (.ref b6)]))
  refine own_step (fun _ k => XS.aload X54.here hx rfl (hb hby at_112) rfl rfl k) ?_
  show own_Fin p.tables e below _ (T54.setTop (mkF m 114 #[.val (.int w0), .val (.long q1), .second, .val (.long q2), .second, .val (.int w5), .val (.int w6), .val (.int na), .val (.int nb), .val (.int tt), .val (.ref y1), .val (.ref y3), .val (.ref b6), .unset, .unset, .unset, .unset, .unset, .unset, .unset, .unset] [(.ref y3), (.int (na + (2 : Int32))), (.ref b6)]))
  refine own_step (fun _ k => XS.iconst X54.here hx rfl (hb hby at_114) k) ?_
  show own_Fin p.tables e below _ (T54.setTop (mkF m 115 #[.val (.int w0), .val (.long q1), .second, .val (.long q2), .second, .val (.int w5), .val (.int w6), .val (.int na), .val (.int nb), .val (.int tt), .val (.ref y1), .val (.ref y3), .val (.ref b6), .unset, .unset, .unset, .unset, .unset, .unset, .unset, .unset] [(.int (2 : Int32)), (.ref y3), (.int (na + (2 : Int32))), (.ref b6)]))
  obtain ⟨cl60, Ar60, -, S60, M60, H60, -⟩ := id f57
  have hin60 : ¬ ((2 : Int32) < 0 ∨ cl60.slots.size ≤ ((2 : Int32)).toNatClampNeg) := inb_of S60 ⟨by decide, by decide⟩
  refine own_step (X54.iaload hx (j := (2 : Int32)) (v := (.int cb2)) (by first | exact Ar60.1 | (rw [e54]; exact Ar60.1)) (State.isArrayOf_alike hZ.alike Ar60.2.1) Ar60.2.2 hin60 (H60.at hin60 rfl) (g := (mkF m 115 #[.val (.int w0), .val (.long q1), .second, .val (.long q2), .second, .val (.int w5), .val (.int w6), .val (.int na), .val (.int nb), .val (.int tt), .val (.ref y1), .val (.ref y3), .val (.ref b6), .unset, .unset, .unset, .unset, .unset, .unset, .unset, .unset] [(.int (2 : Int32)), (.ref y3), (.int (na + (2 : Int32))), (.ref b6)])) rfl rfl (hb hby at_115)) ?_
  show own_Fin p.tables e below _ (T54.setTop (mkF m 116 #[.val (.int w0), .val (.long q1), .second, .val (.long q2), .second, .val (.int w5), .val (.int w6), .val (.int na), .val (.int nb), .val (.int tt), .val (.ref y1), .val (.ref y3), .val (.ref b6), .unset, .unset, .unset, .unset, .unset, .unset, .unset, .unset] [(.int cb2), (.int (na + (2 : Int32))), (.ref b6)]))
  have hi2 : (na + (2 : Int32)).toInt = na.toInt + 2 := own_addr rfl (by decide) hna0 (by omega) (by omega) (by omega)
  obtain ⟨cl61, Ar61, S61, H61⟩ := id f58
  have hin61 : ¬ ((na + (2 : Int32)) < 0 ∨ cl61.slots.size ≤ ((na + (2 : Int32))).toNatClampNeg) := own_in S61 ⟨by rw [hi2]; omega, by rw [hi2]; omega⟩
  obtain ⟨T61, h61, X61, e61, W61, st61⟩ := stI X54 hx hZ e54 Ar61 (j := (na + (2 : Int32))) hin61 (g := (mkF m 116 #[.val (.int w0), .val (.long q1), .second, .val (.long q2), .second, .val (.int w5), .val (.int w6), .val (.int na), .val (.int nb), .val (.int tt), .val (.ref y1), .val (.ref y3), .val (.ref b6), .unset, .unset, .unset, .unset, .unset, .unset, .unset, .unset] [(.int cb2), (.int (na + (2 : Int32))), (.ref b6)])) rfl rfl (hb hby at_116)
  refine own_step st61 ?_
  have f62 := Nat.le_trans f55 (Keep.of_wr W61).1
  have f63 := f56.other W61 ne_y1_b6
  have f64 := f57.other W61 ne_y3_b6
  have f65 : own_Arf Z h61 b6 .int 11 (fun i => .int ((own_upd (own_upd (own_upd gZ (na).toNatClampNeg cb0) ((na + (1 : Int32))).toNatClampNeg cb1) ((na + (2 : Int32))).toNatClampNeg cb2) i)) := own_Arf.setI f58 W61
  have N66 := Fr.snoc X61 N59 g_b6
  show own_Fin p.tables e below _ (T61.setTop (mkF m 117 #[.val (.int w0), .val (.long q1), .second, .val (.long q2), .second, .val (.int w5), .val (.int w6), .val (.int na), .val (.int nb), .val (.int tt), .val (.ref y1), .val (.ref y3), .val (.ref b6), .unset, .unset, .unset, .unset, .unset, .unset, .unset, .unset] []))
  refine own_step (fun _ k => XS.aload X61.here hx rfl (hb hby at_117) rfl rfl k) ?_
  show own_Fin p.tables e below _ (T61.setTop (mkF m 119 #[.val (.int w0), .val (.long q1), .second, .val (.long q2), .second, .val (.int w5), .val (.int w6), .val (.int na), .val (.int nb), .val (.int tt), .val (.ref y1), .val (.ref y3), .val (.ref b6), .unset, .unset, .unset, .unset, .unset, .unset, .unset, .unset] [(.ref b6)]))
  refine own_step (fun _ k => XS.iload X61.here hx rfl (hb hby at_119) rfl k) ?_
  show own_Fin p.tables e below _ (T61.setTop (mkF m 121 #[.val (.int w0), .val (.long q1), .second, .val (.long q2), .second, .val (.int w5), .val (.int w6), .val (.int na), .val (.int nb), .val (.int tt), .val (.ref y1), .val (.ref y3), .val (.ref b6), .unset, .unset, .unset, .unset, .unset, .unset, .unset, .unset] [(.int na), (.ref b6)]))
  refine own_step (fun _ k => XS.iconst X61.here hx rfl (hb hby at_121) k) ?_
  show own_Fin p.tables e below _ (T61.setTop (mkF m 122 #[.val (.int w0), .val (.long q1), .second, .val (.long q2), .second, .val (.int w5), .val (.int w6), .val (.int na), .val (.int nb), .val (.int tt), .val (.ref y1), .val (.ref y3), .val (.ref b6), .unset, .unset, .unset, .unset, .unset, .unset, .unset, .unset] [(.int (3 : Int32)), (.int na), (.ref b6)]))
  refine own_step (fun _ k => XS.iadd X61.here hx rfl (hb hby at_122) rfl k) ?_
  show own_Fin p.tables e below _ (T61.setTop (mkF m 123 #[.val (.int w0), .val (.long q1), .second, .val (.long q2), .second, .val (.int w5), .val (.int w6), .val (.int na), .val (.int nb), .val (.int tt), .val (.ref y1), .val (.ref y3), .val (.ref b6), .unset, .unset, .unset, .unset, .unset, .unset, .unset, .unset] [(.int (na + (3 : Int32))), (.ref b6)]))
  refine own_step (fun _ k => XS.aload X61.here hx rfl (hb hby at_123) rfl rfl k) ?_
  show own_Fin p.tables e below _ (T61.setTop (mkF m 125 #[.val (.int w0), .val (.long q1), .second, .val (.long q2), .second, .val (.int w5), .val (.int w6), .val (.int na), .val (.int nb), .val (.int tt), .val (.ref y1), .val (.ref y3), .val (.ref b6), .unset, .unset, .unset, .unset, .unset, .unset, .unset, .unset] [(.ref y3), (.int (na + (3 : Int32))), (.ref b6)]))
  refine own_step (fun _ k => XS.iconst X61.here hx rfl (hb hby at_125) k) ?_
  show own_Fin p.tables e below _ (T61.setTop (mkF m 126 #[.val (.int w0), .val (.long q1), .second, .val (.long q2), .second, .val (.int w5), .val (.int w6), .val (.int na), .val (.int nb), .val (.int tt), .val (.ref y1), .val (.ref y3), .val (.ref b6), .unset, .unset, .unset, .unset, .unset, .unset, .unset, .unset] [(.int (3 : Int32)), (.ref y3), (.int (na + (3 : Int32))), (.ref b6)]))
  obtain ⟨cl67, Ar67, -, S67, M67, H67, -⟩ := id f64
  have hin67 : ¬ ((3 : Int32) < 0 ∨ cl67.slots.size ≤ ((3 : Int32)).toNatClampNeg) := inb_of S67 ⟨by decide, by decide⟩
  refine own_step (X61.iaload hx (j := (3 : Int32)) (v := (.int cb3)) (by first | exact Ar67.1 | (rw [e61]; exact Ar67.1)) (State.isArrayOf_alike hZ.alike Ar67.2.1) Ar67.2.2 hin67 (H67.at hin67 rfl) (g := (mkF m 126 #[.val (.int w0), .val (.long q1), .second, .val (.long q2), .second, .val (.int w5), .val (.int w6), .val (.int na), .val (.int nb), .val (.int tt), .val (.ref y1), .val (.ref y3), .val (.ref b6), .unset, .unset, .unset, .unset, .unset, .unset, .unset, .unset] [(.int (3 : Int32)), (.ref y3), (.int (na + (3 : Int32))), (.ref b6)])) rfl rfl (hb hby at_126)) ?_
  show own_Fin p.tables e below _ (T61.setTop (mkF m 127 #[.val (.int w0), .val (.long q1), .second, .val (.long q2), .second, .val (.int w5), .val (.int w6), .val (.int na), .val (.int nb), .val (.int tt), .val (.ref y1), .val (.ref y3), .val (.ref b6), .unset, .unset, .unset, .unset, .unset, .unset, .unset, .unset] [(.int cb3), (.int (na + (3 : Int32))), (.ref b6)]))
  have hi3 : (na + (3 : Int32)).toInt = na.toInt + 3 := own_addr rfl (by decide) hna0 (by omega) (by omega) (by omega)
  obtain ⟨cl68, Ar68, S68, H68⟩ := id f65
  have hin68 : ¬ ((na + (3 : Int32)) < 0 ∨ cl68.slots.size ≤ ((na + (3 : Int32))).toNatClampNeg) := own_in S68 ⟨by rw [hi3]; omega, by rw [hi3]; omega⟩
  obtain ⟨T68, h68, X68, e68, W68, st68⟩ := stI X61 hx hZ e61 Ar68 (j := (na + (3 : Int32))) hin68 (g := (mkF m 127 #[.val (.int w0), .val (.long q1), .second, .val (.long q2), .second, .val (.int w5), .val (.int w6), .val (.int na), .val (.int nb), .val (.int tt), .val (.ref y1), .val (.ref y3), .val (.ref b6), .unset, .unset, .unset, .unset, .unset, .unset, .unset, .unset] [(.int cb3), (.int (na + (3 : Int32))), (.ref b6)])) rfl rfl (hb hby at_127)
  refine own_step st68 ?_
  have f69 := Nat.le_trans f62 (Keep.of_wr W68).1
  have f70 := f63.other W68 ne_y1_b6
  have f71 := f64.other W68 ne_y3_b6
  have f72 : own_Arf Z h68 b6 .int 11 (fun i => .int ((own_upd (own_upd (own_upd (own_upd gZ (na).toNatClampNeg cb0) ((na + (1 : Int32))).toNatClampNeg cb1) ((na + (2 : Int32))).toNatClampNeg cb2) ((na + (3 : Int32))).toNatClampNeg cb3) i)) := own_Arf.setI f65 W68
  have N73 := Fr.snoc X68 N66 g_b6
  show own_Fin p.tables e below _ (T68.setTop (mkF m 128 #[.val (.int w0), .val (.long q1), .second, .val (.long q2), .second, .val (.int w5), .val (.int w6), .val (.int na), .val (.int nb), .val (.int tt), .val (.ref y1), .val (.ref y3), .val (.ref b6), .unset, .unset, .unset, .unset, .unset, .unset, .unset, .unset] []))
  refine own_step (fun _ k => XS.aload X68.here hx rfl (hb hby at_128) rfl rfl k) ?_
  show own_Fin p.tables e below _ (T68.setTop (mkF m 130 #[.val (.int w0), .val (.long q1), .second, .val (.long q2), .second, .val (.int w5), .val (.int w6), .val (.int na), .val (.int nb), .val (.int tt), .val (.ref y1), .val (.ref y3), .val (.ref b6), .unset, .unset, .unset, .unset, .unset, .unset, .unset, .unset] [(.ref b6)]))
  refine own_step (fun _ k => XS.iload X68.here hx rfl (hb hby at_130) rfl k) ?_
  show own_Fin p.tables e below _ (T68.setTop (mkF m 132 #[.val (.int w0), .val (.long q1), .second, .val (.long q2), .second, .val (.int w5), .val (.int w6), .val (.int na), .val (.int nb), .val (.int tt), .val (.ref y1), .val (.ref y3), .val (.ref b6), .unset, .unset, .unset, .unset, .unset, .unset, .unset, .unset] [(.int na), (.ref b6)]))
  refine own_step (fun _ k => XS.iconst X68.here hx rfl (hb hby at_132) k) ?_
  show own_Fin p.tables e below _ (T68.setTop (mkF m 133 #[.val (.int w0), .val (.long q1), .second, .val (.long q2), .second, .val (.int w5), .val (.int w6), .val (.int na), .val (.int nb), .val (.int tt), .val (.ref y1), .val (.ref y3), .val (.ref b6), .unset, .unset, .unset, .unset, .unset, .unset, .unset, .unset] [(.int (4 : Int32)), (.int na), (.ref b6)]))
  refine own_step (fun _ k => XS.iadd X68.here hx rfl (hb hby at_133) rfl k) ?_
  show own_Fin p.tables e below _ (T68.setTop (mkF m 134 #[.val (.int w0), .val (.long q1), .second, .val (.long q2), .second, .val (.int w5), .val (.int w6), .val (.int na), .val (.int nb), .val (.int tt), .val (.ref y1), .val (.ref y3), .val (.ref b6), .unset, .unset, .unset, .unset, .unset, .unset, .unset, .unset] [(.int (na + (4 : Int32))), (.ref b6)]))
  refine own_step (fun _ k => XS.aload X68.here hx rfl (hb hby at_134) rfl rfl k) ?_
  show own_Fin p.tables e below _ (T68.setTop (mkF m 136 #[.val (.int w0), .val (.long q1), .second, .val (.long q2), .second, .val (.int w5), .val (.int w6), .val (.int na), .val (.int nb), .val (.int tt), .val (.ref y1), .val (.ref y3), .val (.ref b6), .unset, .unset, .unset, .unset, .unset, .unset, .unset, .unset] [(.ref y3), (.int (na + (4 : Int32))), (.ref b6)]))
  refine own_step (fun _ k => XS.iconst X68.here hx rfl (hb hby at_136) k) ?_
  show own_Fin p.tables e below _ (T68.setTop (mkF m 137 #[.val (.int w0), .val (.long q1), .second, .val (.long q2), .second, .val (.int w5), .val (.int w6), .val (.int na), .val (.int nb), .val (.int tt), .val (.ref y1), .val (.ref y3), .val (.ref b6), .unset, .unset, .unset, .unset, .unset, .unset, .unset, .unset] [(.int (4 : Int32)), (.ref y3), (.int (na + (4 : Int32))), (.ref b6)]))
  obtain ⟨cl74, Ar74, -, S74, M74, H74, -⟩ := id f71
  have hin74 : ¬ ((4 : Int32) < 0 ∨ cl74.slots.size ≤ ((4 : Int32)).toNatClampNeg) := inb_of S74 ⟨by decide, by decide⟩
  refine own_step (X68.iaload hx (j := (4 : Int32)) (v := (.int cb4)) (by first | exact Ar74.1 | (rw [e68]; exact Ar74.1)) (State.isArrayOf_alike hZ.alike Ar74.2.1) Ar74.2.2 hin74 (H74.at hin74 rfl) (g := (mkF m 137 #[.val (.int w0), .val (.long q1), .second, .val (.long q2), .second, .val (.int w5), .val (.int w6), .val (.int na), .val (.int nb), .val (.int tt), .val (.ref y1), .val (.ref y3), .val (.ref b6), .unset, .unset, .unset, .unset, .unset, .unset, .unset, .unset] [(.int (4 : Int32)), (.ref y3), (.int (na + (4 : Int32))), (.ref b6)])) rfl rfl (hb hby at_137)) ?_
  show own_Fin p.tables e below _ (T68.setTop (mkF m 138 #[.val (.int w0), .val (.long q1), .second, .val (.long q2), .second, .val (.int w5), .val (.int w6), .val (.int na), .val (.int nb), .val (.int tt), .val (.ref y1), .val (.ref y3), .val (.ref b6), .unset, .unset, .unset, .unset, .unset, .unset, .unset, .unset] [(.int cb4), (.int (na + (4 : Int32))), (.ref b6)]))
  have hi4 : (na + (4 : Int32)).toInt = na.toInt + 4 := own_addr rfl (by decide) hna0 (by omega) (by omega) (by omega)
  obtain ⟨cl75, Ar75, S75, H75⟩ := id f72
  have hin75 : ¬ ((na + (4 : Int32)) < 0 ∨ cl75.slots.size ≤ ((na + (4 : Int32))).toNatClampNeg) := own_in S75 ⟨by rw [hi4]; omega, by rw [hi4]; omega⟩
  obtain ⟨T75, h75, X75, e75, W75, st75⟩ := stI X68 hx hZ e68 Ar75 (j := (na + (4 : Int32))) hin75 (g := (mkF m 138 #[.val (.int w0), .val (.long q1), .second, .val (.long q2), .second, .val (.int w5), .val (.int w6), .val (.int na), .val (.int nb), .val (.int tt), .val (.ref y1), .val (.ref y3), .val (.ref b6), .unset, .unset, .unset, .unset, .unset, .unset, .unset, .unset] [(.int cb4), (.int (na + (4 : Int32))), (.ref b6)])) rfl rfl (hb hby at_138)
  refine own_step st75 ?_
  have f76 := Nat.le_trans f69 (Keep.of_wr W75).1
  have f77 := f70.other W75 ne_y1_b6
  have f78 := f71.other W75 ne_y3_b6
  have f79 : own_Arf Z h75 b6 .int 11 (fun i => .int ((own_upd (own_upd (own_upd (own_upd (own_upd gZ (na).toNatClampNeg cb0) ((na + (1 : Int32))).toNatClampNeg cb1) ((na + (2 : Int32))).toNatClampNeg cb2) ((na + (3 : Int32))).toNatClampNeg cb3) ((na + (4 : Int32))).toNatClampNeg cb4) i)) := own_Arf.setI f72 W75
  have N80 := Fr.snoc X75 N73 g_b6
  show own_Fin p.tables e below _ (T75.setTop (mkF m 139 #[.val (.int w0), .val (.long q1), .second, .val (.long q2), .second, .val (.int w5), .val (.int w6), .val (.int na), .val (.int nb), .val (.int tt), .val (.ref y1), .val (.ref y3), .val (.ref b6), .unset, .unset, .unset, .unset, .unset, .unset, .unset, .unset] []))
  refine own_step (fun _ k => XS.aload X75.here hx rfl (hb hby at_139) rfl rfl k) ?_
  show own_Fin p.tables e below _ (T75.setTop (mkF m 141 #[.val (.int w0), .val (.long q1), .second, .val (.long q2), .second, .val (.int w5), .val (.int w6), .val (.int na), .val (.int nb), .val (.int tt), .val (.ref y1), .val (.ref y3), .val (.ref b6), .unset, .unset, .unset, .unset, .unset, .unset, .unset, .unset] [(.ref b6)]))
  refine own_step (fun _ k => XS.iload X75.here hx rfl (hb hby at_141) rfl k) ?_
  show own_Fin p.tables e below _ (T75.setTop (mkF m 143 #[.val (.int w0), .val (.long q1), .second, .val (.long q2), .second, .val (.int w5), .val (.int w6), .val (.int na), .val (.int nb), .val (.int tt), .val (.ref y1), .val (.ref y3), .val (.ref b6), .unset, .unset, .unset, .unset, .unset, .unset, .unset, .unset] [(.int na), (.ref b6)]))
  refine own_step (fun _ k => XS.iload X75.here hx rfl (hb hby at_143) rfl k) ?_
  show own_Fin p.tables e below _ (T75.setTop (mkF m 145 #[.val (.int w0), .val (.long q1), .second, .val (.long q2), .second, .val (.int w5), .val (.int w6), .val (.int na), .val (.int nb), .val (.int tt), .val (.ref y1), .val (.ref y3), .val (.ref b6), .unset, .unset, .unset, .unset, .unset, .unset, .unset, .unset] [(.int nb), (.int na), (.ref b6)]))
  refine own_step (fun _ k => XS.iadd X75.here hx rfl (hb hby at_145) rfl k) ?_
  show own_Fin p.tables e below _ (T75.setTop (mkF m 146 #[.val (.int w0), .val (.long q1), .second, .val (.long q2), .second, .val (.int w5), .val (.int w6), .val (.int na), .val (.int nb), .val (.int tt), .val (.ref y1), .val (.ref y3), .val (.ref b6), .unset, .unset, .unset, .unset, .unset, .unset, .unset, .unset] [(.int (na + nb)), (.ref b6)]))
  refine own_step (X75.ldcInt hx hown (mvT hZ (hw _ (List.mem_of_getElem? (i := 6) rfl))) (g := (mkF m 146 #[.val (.int w0), .val (.long q1), .second, .val (.long q2), .second, .val (.int w5), .val (.int w6), .val (.int na), .val (.int nb), .val (.int tt), .val (.ref y1), .val (.ref y3), .val (.ref b6), .unset, .unset, .unset, .unset, .unset, .unset, .unset, .unset] [(.int (na + nb)), (.ref b6)])) rfl (hb hby at_146)) ?_
  show own_Fin p.tables e below _ (T75.setTop (mkF m 148 #[.val (.int w0), .val (.long q1), .second, .val (.long q2), .second, .val (.int w5), .val (.int w6), .val (.int na), .val (.int nb), .val (.int tt), .val (.ref y1), .val (.ref y3), .val (.ref b6), .unset, .unset, .unset, .unset, .unset, .unset, .unset, .unset] [(.int (-2147483648 : Int32)), (.int (na + nb)), (.ref b6)]))
  obtain ⟨cl81, Ar81, S81, H81⟩ := id f79
  have hin81 : ¬ ((na + nb) < 0 ∨ cl81.slots.size ≤ ((na + nb)).toNatClampNeg) := own_in S81 ⟨by rw [hab]; omega, by rw [hab]; omega⟩
  obtain ⟨T81, h81, X81, e81, W81, st81⟩ := stI X75 hx hZ e75 Ar81 (j := (na + nb)) hin81 (g := (mkF m 148 #[.val (.int w0), .val (.long q1), .second, .val (.long q2), .second, .val (.int w5), .val (.int w6), .val (.int na), .val (.int nb), .val (.int tt), .val (.ref y1), .val (.ref y3), .val (.ref b6), .unset, .unset, .unset, .unset, .unset, .unset, .unset, .unset] [(.int (-2147483648 : Int32)), (.int (na + nb)), (.ref b6)])) rfl rfl (hb hby at_148)
  refine own_step st81 ?_
  have f82 := Nat.le_trans f76 (Keep.of_wr W81).1
  have f83 := f77.other W81 ne_y1_b6
  have f84 := f78.other W81 ne_y3_b6
  have f85 : own_Arf Z h81 b6 .int 11 (fun i => .int ((own_upd (own_upd (own_upd (own_upd (own_upd (own_upd gZ (na).toNatClampNeg cb0) ((na + (1 : Int32))).toNatClampNeg cb1) ((na + (2 : Int32))).toNatClampNeg cb2) ((na + (3 : Int32))).toNatClampNeg cb3) ((na + (4 : Int32))).toNatClampNeg cb4) ((na + nb)).toNatClampNeg (-2147483648 : Int32)) i)) := own_Arf.setI f79 W81
  have N86 := Fr.snoc X81 N80 g_b6
  show own_Fin p.tables e below _ (T81.setTop (mkF m 149 #[.val (.int w0), .val (.long q1), .second, .val (.long q2), .second, .val (.int w5), .val (.int w6), .val (.int na), .val (.int nb), .val (.int tt), .val (.ref y1), .val (.ref y3), .val (.ref b6), .unset, .unset, .unset, .unset, .unset, .unset, .unset, .unset] []))
  have hlo : ∀ k : Nat, (k : Int) < na.toInt → (own_upd (own_upd (own_upd (own_upd (own_upd (own_upd gZ (na).toNatClampNeg cb0) ((na + (1 : Int32))).toNatClampNeg cb1) ((na + (2 : Int32))).toNatClampNeg cb2) ((na + (3 : Int32))).toNatClampNeg cb3) ((na + (4 : Int32))).toNatClampNeg cb4) ((na + nb)).toNatClampNeg (-2147483648 : Int32)) k = [ca0, ca1, ca2, ca3, ca4].getD k 0 := fun k hk => (own_ci_lo hna0 hna1 hnb0 hnb1 hk).trans (by rw [hgZ]; exact own_pre (by omega))
  have hhi : ∀ k : Nat, (k : Int) < nb.toInt → (own_upd (own_upd (own_upd (own_upd (own_upd (own_upd gZ (na).toNatClampNeg cb0) ((na + (1 : Int32))).toNatClampNeg cb1) ((na + (2 : Int32))).toNatClampNeg cb2) ((na + (3 : Int32))).toNatClampNeg cb3) ((na + (4 : Int32))).toNatClampNeg cb4) ((na + nb)).toNatClampNeg (-2147483648 : Int32)) (na.toInt.toNat + k) = [cb0, cb1, cb2, cb3, cb4].getD k 0 := fun k hk => own_ci_hi hna0 hna1 hnb0 hnb1 hk
  obtain ⟨gC, hgC⟩ : ∃ z : Nat → Int32, z = (own_upd (own_upd (own_upd (own_upd (own_upd (own_upd gZ (na).toNatClampNeg cb0) ((na + (1 : Int32))).toNatClampNeg cb1) ((na + (2 : Int32))).toNatClampNeg cb2) ((na + (3 : Int32))).toNatClampNeg cb3) ((na + (4 : Int32))).toNatClampNeg cb4) ((na + nb)).toNatClampNeg (-2147483648 : Int32)) := ⟨_, rfl⟩
  have fC : own_Arf Z h81 b6 .int 11 (fun i => .int (gC i)) := by rw [hgC]; exact f85
  rw [← hgC] at hlo hhi
  refine own_step (fun _ k => XS.iconst X81.here hx rfl (hb hby at_149) k) ?_
  show own_Fin p.tables e below _ (T81.setTop (mkF m 150 #[.val (.int w0), .val (.long q1), .second, .val (.long q2), .second, .val (.int w5), .val (.int w6), .val (.int na), .val (.int nb), .val (.int tt), .val (.ref y1), .val (.ref y3), .val (.ref b6), .unset, .unset, .unset, .unset, .unset, .unset, .unset, .unset] [(.int (3 : Int32))]))
  obtain ⟨T87, h87, k87, X87, e87, E87, A87, st87⟩ := newP X81 hx hZ (hw _ (List.mem_of_getElem? (i := 4) rfl)) e81 (g := (mkF m 150 #[.val (.int w0), .val (.long q1), .second, .val (.long q2), .second, .val (.int w5), .val (.int w6), .val (.int na), .val (.int nb), .val (.int tt), .val (.ref y1), .val (.ref y3), .val (.ref b6), .unset, .unset, .unset, .unset, .unset, .unset, .unset, .unset] [(.int (3 : Int32))])) rfl (hb hby at_150) rfl (by decide) (cap := 3) (by decide) (by decide) (by decide) (by decide)
  obtain ⟨b87, g87⟩ : ∃ z, z = h81.size := ⟨_, rfl⟩
  rw [← g87] at A87 st87
  refine own_step st87 ?_
  have g_b87 : n0 ≤ b87 := Nat.le_trans f82 (Nat.le_of_eq g87.symm)
  have ne_b6_b87 : b6 ≠ b87 := Nat.ne_of_lt (Nat.lt_of_lt_of_le fC.lt (Nat.le_of_eq g87.symm))
  have ne_y1_b87 : y1 ≠ b87 := Nat.ne_of_lt (Nat.lt_of_lt_of_le f83.lt (Nat.le_of_eq g87.symm))
  have ne_y3_b87 : y3 ≠ b87 := Nat.ne_of_lt (Nat.lt_of_lt_of_le f84.lt (Nat.le_of_eq g87.symm))
  have f88 := Nat.le_trans f82 E87.1
  have f89 := f83.ext E87
  have f90 := f84.ext E87
  have f91 := fC.ext E87
  have f92 : Arv Z h87 b87 k87 .int (3 : Int32) [(.int (0 : Int32)), (.int (0 : Int32)), (.int (0 : Int32))] (.int (0 : Int32)) := (Arv.new A87 (by decide)).pad (pad_rep [] (.int (0 : Int32)) 3)
  show own_Fin p.tables e below _ (T87.setTop (mkF m 152 #[.val (.int w0), .val (.long q1), .second, .val (.long q2), .second, .val (.int w5), .val (.int w6), .val (.int na), .val (.int nb), .val (.int tt), .val (.ref y1), .val (.ref y3), .val (.ref b6), .unset, .unset, .unset, .unset, .unset, .unset, .unset, .unset] [(.ref b87)]))
  refine own_step (fun _ k => XS.dup X87.here hx rfl (hb hby at_152) rfl rfl k) ?_
  show own_Fin p.tables e below _ (T87.setTop (mkF m 153 #[.val (.int w0), .val (.long q1), .second, .val (.long q2), .second, .val (.int w5), .val (.int w6), .val (.int na), .val (.int nb), .val (.int tt), .val (.ref y1), .val (.ref y3), .val (.ref b6), .unset, .unset, .unset, .unset, .unset, .unset, .unset, .unset] [(.ref b87), (.ref b87)]))
  refine own_step (fun _ k => XS.iconst X87.here hx rfl (hb hby at_153) k) ?_
  show own_Fin p.tables e below _ (T87.setTop (mkF m 154 #[.val (.int w0), .val (.long q1), .second, .val (.long q2), .second, .val (.int w5), .val (.int w6), .val (.int na), .val (.int nb), .val (.int tt), .val (.ref y1), .val (.ref y3), .val (.ref b6), .unset, .unset, .unset, .unset, .unset, .unset, .unset, .unset] [(.int (0 : Int32)), (.ref b87), (.ref b87)]))
  refine own_step (fun _ k => XS.iconst X87.here hx rfl (hb hby at_154) k) ?_
  show own_Fin p.tables e below _ (T87.setTop (mkF m 155 #[.val (.int w0), .val (.long q1), .second, .val (.long q2), .second, .val (.int w5), .val (.int w6), .val (.int na), .val (.int nb), .val (.int tt), .val (.ref y1), .val (.ref y3), .val (.ref b6), .unset, .unset, .unset, .unset, .unset, .unset, .unset, .unset] [(.int (0 : Int32)), (.int (0 : Int32)), (.ref b87), (.ref b87)]))
  obtain ⟨cl93, Ar93, q93, S93, M93, H93, G93⟩ := id f92
  have hin93 : ¬ ((0 : Int32) < 0 ∨ cl93.slots.size ≤ ((0 : Int32)).toNatClampNeg) := inb_of S93 ⟨by decide, by decide⟩
  obtain ⟨T93, h93, X93, e93, W93, st93⟩ := stI X87 hx hZ e87 Ar93 (j := (0 : Int32)) hin93 (g := (mkF m 155 #[.val (.int w0), .val (.long q1), .second, .val (.long q2), .second, .val (.int w5), .val (.int w6), .val (.int na), .val (.int nb), .val (.int tt), .val (.ref y1), .val (.ref y3), .val (.ref b6), .unset, .unset, .unset, .unset, .unset, .unset, .unset, .unset] [(.int (0 : Int32)), (.int (0 : Int32)), (.ref b87), (.ref b87)])) rfl rfl (hb hby at_155)
  refine own_step st93 ?_
  have f94 := Nat.le_trans f88 (Keep.of_wr W93).1
  have f95 := f89.other W93 ne_y1_b87
  have f96 := f90.other W93 ne_y3_b87
  have f97 := f91.other W93 ne_b6_b87
  have f98 : Arv Z h93 b87 k87 .int (3 : Int32) [(.int (0 : Int32)), (.int (0 : Int32)), (.int (0 : Int32))] (.int (0 : Int32)) := Arv.set Ar93 q93 S93 M93 H93 G93 rfl W93 0 rfl (Nat.le_of_ble_eq_true rfl)
  have N99 := Fr.snoc X93 N86 g_b87
  show own_Fin p.tables e below _ (T93.setTop (mkF m 156 #[.val (.int w0), .val (.long q1), .second, .val (.long q2), .second, .val (.int w5), .val (.int w6), .val (.int na), .val (.int nb), .val (.int tt), .val (.ref y1), .val (.ref y3), .val (.ref b6), .unset, .unset, .unset, .unset, .unset, .unset, .unset, .unset] [(.ref b87)]))
  refine own_step (fun _ k => XS.dup X93.here hx rfl (hb hby at_156) rfl rfl k) ?_
  show own_Fin p.tables e below _ (T93.setTop (mkF m 157 #[.val (.int w0), .val (.long q1), .second, .val (.long q2), .second, .val (.int w5), .val (.int w6), .val (.int na), .val (.int nb), .val (.int tt), .val (.ref y1), .val (.ref y3), .val (.ref b6), .unset, .unset, .unset, .unset, .unset, .unset, .unset, .unset] [(.ref b87), (.ref b87)]))
  refine own_step (fun _ k => XS.iconst X93.here hx rfl (hb hby at_157) k) ?_
  show own_Fin p.tables e below _ (T93.setTop (mkF m 158 #[.val (.int w0), .val (.long q1), .second, .val (.long q2), .second, .val (.int w5), .val (.int w6), .val (.int na), .val (.int nb), .val (.int tt), .val (.ref y1), .val (.ref y3), .val (.ref b6), .unset, .unset, .unset, .unset, .unset, .unset, .unset, .unset] [(.int (1 : Int32)), (.ref b87), (.ref b87)]))
  refine own_step (fun _ k => XS.iload X93.here hx rfl (hb hby at_158) rfl k) ?_
  show own_Fin p.tables e below _ (T93.setTop (mkF m 160 #[.val (.int w0), .val (.long q1), .second, .val (.long q2), .second, .val (.int w5), .val (.int w6), .val (.int na), .val (.int nb), .val (.int tt), .val (.ref y1), .val (.ref y3), .val (.ref b6), .unset, .unset, .unset, .unset, .unset, .unset, .unset, .unset] [(.int na), (.int (1 : Int32)), (.ref b87), (.ref b87)]))
  obtain ⟨cl100, Ar100, q100, S100, M100, H100, G100⟩ := id f98
  have hin100 : ¬ ((1 : Int32) < 0 ∨ cl100.slots.size ≤ ((1 : Int32)).toNatClampNeg) := inb_of S100 ⟨by decide, by decide⟩
  obtain ⟨T100, h100, X100, e100, W100, st100⟩ := stI X93 hx hZ e93 Ar100 (j := (1 : Int32)) hin100 (g := (mkF m 160 #[.val (.int w0), .val (.long q1), .second, .val (.long q2), .second, .val (.int w5), .val (.int w6), .val (.int na), .val (.int nb), .val (.int tt), .val (.ref y1), .val (.ref y3), .val (.ref b6), .unset, .unset, .unset, .unset, .unset, .unset, .unset, .unset] [(.int na), (.int (1 : Int32)), (.ref b87), (.ref b87)])) rfl rfl (hb hby at_160)
  refine own_step st100 ?_
  have f101 := Nat.le_trans f94 (Keep.of_wr W100).1
  have f102 := f95.other W100 ne_y1_b87
  have f103 := f96.other W100 ne_y3_b87
  have f104 := f97.other W100 ne_b6_b87
  have f105 : Arv Z h100 b87 k87 .int (3 : Int32) [(.int (0 : Int32)), (.int na), (.int (0 : Int32))] (.int (0 : Int32)) := Arv.set Ar100 q100 S100 M100 H100 G100 rfl W100 1 rfl (Nat.le_of_ble_eq_true rfl)
  have N106 := Fr.snoc X100 N99 g_b87
  show own_Fin p.tables e below _ (T100.setTop (mkF m 161 #[.val (.int w0), .val (.long q1), .second, .val (.long q2), .second, .val (.int w5), .val (.int w6), .val (.int na), .val (.int nb), .val (.int tt), .val (.ref y1), .val (.ref y3), .val (.ref b6), .unset, .unset, .unset, .unset, .unset, .unset, .unset, .unset] [(.ref b87)]))
  refine own_step (fun _ k => XS.dup X100.here hx rfl (hb hby at_161) rfl rfl k) ?_
  show own_Fin p.tables e below _ (T100.setTop (mkF m 162 #[.val (.int w0), .val (.long q1), .second, .val (.long q2), .second, .val (.int w5), .val (.int w6), .val (.int na), .val (.int nb), .val (.int tt), .val (.ref y1), .val (.ref y3), .val (.ref b6), .unset, .unset, .unset, .unset, .unset, .unset, .unset, .unset] [(.ref b87), (.ref b87)]))
  refine own_step (fun _ k => XS.iconst X100.here hx rfl (hb hby at_162) k) ?_
  show own_Fin p.tables e below _ (T100.setTop (mkF m 163 #[.val (.int w0), .val (.long q1), .second, .val (.long q2), .second, .val (.int w5), .val (.int w6), .val (.int na), .val (.int nb), .val (.int tt), .val (.ref y1), .val (.ref y3), .val (.ref b6), .unset, .unset, .unset, .unset, .unset, .unset, .unset, .unset] [(.int (2 : Int32)), (.ref b87), (.ref b87)]))
  refine own_step (fun _ k => XS.iload X100.here hx rfl (hb hby at_163) rfl k) ?_
  show own_Fin p.tables e below _ (T100.setTop (mkF m 165 #[.val (.int w0), .val (.long q1), .second, .val (.long q2), .second, .val (.int w5), .val (.int w6), .val (.int na), .val (.int nb), .val (.int tt), .val (.ref y1), .val (.ref y3), .val (.ref b6), .unset, .unset, .unset, .unset, .unset, .unset, .unset, .unset] [(.int na), (.int (2 : Int32)), (.ref b87), (.ref b87)]))
  refine own_step (fun _ k => XS.iload X100.here hx rfl (hb hby at_165) rfl k) ?_
  show own_Fin p.tables e below _ (T100.setTop (mkF m 167 #[.val (.int w0), .val (.long q1), .second, .val (.long q2), .second, .val (.int w5), .val (.int w6), .val (.int na), .val (.int nb), .val (.int tt), .val (.ref y1), .val (.ref y3), .val (.ref b6), .unset, .unset, .unset, .unset, .unset, .unset, .unset, .unset] [(.int nb), (.int na), (.int (2 : Int32)), (.ref b87), (.ref b87)]))
  refine own_step (fun _ k => XS.iadd X100.here hx rfl (hb hby at_167) rfl k) ?_
  show own_Fin p.tables e below _ (T100.setTop (mkF m 168 #[.val (.int w0), .val (.long q1), .second, .val (.long q2), .second, .val (.int w5), .val (.int w6), .val (.int na), .val (.int nb), .val (.int tt), .val (.ref y1), .val (.ref y3), .val (.ref b6), .unset, .unset, .unset, .unset, .unset, .unset, .unset, .unset] [(.int (na + nb)), (.int (2 : Int32)), (.ref b87), (.ref b87)]))
  obtain ⟨cl107, Ar107, q107, S107, M107, H107, G107⟩ := id f105
  have hin107 : ¬ ((2 : Int32) < 0 ∨ cl107.slots.size ≤ ((2 : Int32)).toNatClampNeg) := inb_of S107 ⟨by decide, by decide⟩
  obtain ⟨T107, h107, X107, e107, W107, st107⟩ := stI X100 hx hZ e100 Ar107 (j := (2 : Int32)) hin107 (g := (mkF m 168 #[.val (.int w0), .val (.long q1), .second, .val (.long q2), .second, .val (.int w5), .val (.int w6), .val (.int na), .val (.int nb), .val (.int tt), .val (.ref y1), .val (.ref y3), .val (.ref b6), .unset, .unset, .unset, .unset, .unset, .unset, .unset, .unset] [(.int (na + nb)), (.int (2 : Int32)), (.ref b87), (.ref b87)])) rfl rfl (hb hby at_168)
  refine own_step st107 ?_
  have f108 := Nat.le_trans f101 (Keep.of_wr W107).1
  have f109 := f102.other W107 ne_y1_b87
  have f110 := f103.other W107 ne_y3_b87
  have f111 := f104.other W107 ne_b6_b87
  have f112 : Arv Z h107 b87 k87 .int (3 : Int32) [(.int (0 : Int32)), (.int na), (.int (na + nb))] (.int (0 : Int32)) := Arv.set Ar107 q107 S107 M107 H107 G107 rfl W107 2 rfl (Nat.le_of_ble_eq_true rfl)
  have N113 := Fr.snoc X107 N106 g_b87
  show own_Fin p.tables e below _ (T107.setTop (mkF m 169 #[.val (.int w0), .val (.long q1), .second, .val (.long q2), .second, .val (.int w5), .val (.int w6), .val (.int na), .val (.int nb), .val (.int tt), .val (.ref y1), .val (.ref y3), .val (.ref b6), .unset, .unset, .unset, .unset, .unset, .unset, .unset, .unset] [(.ref b87)]))
  refine own_step (fun _ k => XS.astore X107.here hx rfl (hb hby at_169) rfl rfl (l' := #[.val (.int w0), .val (.long q1), .second, .val (.long q2), .second, .val (.int w5), .val (.int w6), .val (.int na), .val (.int nb), .val (.int tt), .val (.ref y1), .val (.ref y3), .val (.ref b6), .val (.ref b87), .unset, .unset, .unset, .unset, .unset, .unset, .unset]) rfl k) ?_
  show own_Fin p.tables e below _ (T107.setTop (mkF m 171 #[.val (.int w0), .val (.long q1), .second, .val (.long q2), .second, .val (.int w5), .val (.int w6), .val (.int na), .val (.int nb), .val (.int tt), .val (.ref y1), .val (.ref y3), .val (.ref b6), .val (.ref b87), .unset, .unset, .unset, .unset, .unset, .unset, .unset] []))
  obtain ⟨T114, h114, X114, e114, E114, A114, D114, -, st114⟩ := newO X107 hx hZ hown (hw _ (List.mem_of_getElem? (i := 7) rfl)) (hw _ (List.mem_of_getElem? (i := 8) rfl)) (hw _ (List.mem_of_getElem? (i := 9) rfl)) e107 (g := (mkF m 171 #[.val (.int w0), .val (.long q1), .second, .val (.long q2), .second, .val (.int w5), .val (.int w6), .val (.int na), .val (.int nb), .val (.int tt), .val (.ref y1), .val (.ref y3), .val (.ref b6), .val (.ref b87), .unset, .unset, .unset, .unset, .unset, .unset, .unset] [])) rfl (hb hby at_171) (by decide) (by decide)
  obtain ⟨b114, g114⟩ : ∃ z, z = h107.size := ⟨_, rfl⟩
  rw [← g114] at A114 D114 st114
  refine own_step st114 ?_
  have g_b114 : n0 ≤ b114 := Nat.le_trans f108 (Nat.le_of_eq g114.symm)
  have ne_b6_b114 : b6 ≠ b114 := Nat.ne_of_lt (Nat.lt_of_lt_of_le f111.lt (Nat.le_of_eq g114.symm))
  have ne_b87_b114 : b87 ≠ b114 := Nat.ne_of_lt (Nat.lt_of_lt_of_le f112.lt (Nat.le_of_eq g114.symm))
  have ne_y1_b114 : y1 ≠ b114 := Nat.ne_of_lt (Nat.lt_of_lt_of_le f109.lt (Nat.le_of_eq g114.symm))
  have ne_y3_b114 : y3 ≠ b114 := Nat.ne_of_lt (Nat.lt_of_lt_of_le f110.lt (Nat.le_of_eq g114.symm))
  have f115 := Nat.le_trans f108 E114.1
  have f116 := f109.ext E114
  have f117 := f110.ext E114
  have f118 := f111.ext E114
  have f119 := f112.ext E114
  have f120 : Fld Z h114 b114 "com/example/fusewright/fusewright/runtime/SparseMatrix" "rows" "I" (.int (0 : Int32)) := D114 (Or.inr (hw _ (List.mem_of_getElem? (i := 18) rfl))) (ty := .int) (by decide)
  have f121 : Fld Z h114 b114 "com/example/fusewright/fusewright/runtime/SparseMatrix" "columns" "I" (.int (0 : Int32)) := D114 (Or.inr (hw _ (List.mem_of_getElem? (i := 20) rfl))) (ty := .int) (by decide)
  have f122 : Fld Z h114 b114 "com/example/fusewright/fusewright/runtime/SparseMatrix" "rowStarts" "[I" .null := D114 (Or.inr (hw _ (List.mem_of_getElem? (i := 22) rfl))) (ty := (.array .int)) (by decide)
  have f123 : Fld Z h114 b114 "com/example/fusewright/fusewright/runtime/SparseMatrix" "columnIndices" "[I" .null := D114 (Or.inr (hw _ (List.mem_of_getElem? (i := 24) rfl))) (ty := (.array .int)) (by decide)
  have f124 : Fld Z h114 b114 "com/example/fusewright/fusewright/runtime/SparseMatrix" "values" "[D" .null := D114 (Or.inr (hw _ (List.mem_of_getElem? (i := 26) rfl))) (ty := (.array .double)) (by decide)
  have f125 : Fld Z h114 b114 "com/example/fusewright/fusewright/runtime/SparseMatrix" "zero" "D" (.double (0 : UInt64)) := D114 (Or.inr (hw _ (List.mem_of_getElem? (i := 28) rfl))) (ty := .double) (by decide)
  show own_Fin p.tables e below _ (T114.setTop (mkF m 174 #[.val (.int w0), .val (.long q1), .second, .val (.long q2), .second, .val (.int w5), .val (.int w6), .val (.int na), .val (.int nb), .val (.int tt), .val (.ref y1), .val (.ref y3), .val (.ref b6), .val (.ref b87), .unset, .unset, .unset, .unset, .unset, .unset, .unset] [(.ref b114)]))
  refine own_step (fun _ k => XS.dup X114.here hx rfl (hb hby at_174) rfl rfl k) ?_
  show own_Fin p.tables e below _ (T114.setTop (mkF m 175 #[.val (.int w0), .val (.long q1), .second, .val (.long q2), .second, .val (.int w5), .val (.int w6), .val (.int na), .val (.int nb), .val (.int tt), .val (.ref y1), .val (.ref y3), .val (.ref b6), .val (.ref b87), .unset, .unset, .unset, .unset, .unset, .unset, .unset] [(.ref b114), (.ref b114)]))
  refine own_step (fun _ k => XS.iconst X114.here hx rfl (hb hby at_175) k) ?_
  show own_Fin p.tables e below _ (T114.setTop (mkF m 176 #[.val (.int w0), .val (.long q1), .second, .val (.long q2), .second, .val (.int w5), .val (.int w6), .val (.int na), .val (.int nb), .val (.int tt), .val (.ref y1), .val (.ref y3), .val (.ref b6), .val (.ref b87), .unset, .unset, .unset, .unset, .unset, .unset, .unset] [(.int (2 : Int32)), (.ref b114), (.ref b114)]))
  refine own_step (fun _ k => XS.sipush X114.here hx rfl (hb hby at_176) k) ?_
  show own_Fin p.tables e below _ (T114.setTop (mkF m 179 #[.val (.int w0), .val (.long q1), .second, .val (.long q2), .second, .val (.int w5), .val (.int w6), .val (.int na), .val (.int nb), .val (.int tt), .val (.ref y1), .val (.ref y3), .val (.ref b6), .val (.ref b87), .unset, .unset, .unset, .unset, .unset, .unset, .unset] [(.int (4096 : Int32)), (.int (2 : Int32)), (.ref b114), (.ref b114)]))
  refine own_step (fun _ k => XS.aload X114.here hx rfl (hb hby at_179) rfl rfl k) ?_
  show own_Fin p.tables e below _ (T114.setTop (mkF m 181 #[.val (.int w0), .val (.long q1), .second, .val (.long q2), .second, .val (.int w5), .val (.int w6), .val (.int na), .val (.int nb), .val (.int tt), .val (.ref y1), .val (.ref y3), .val (.ref b6), .val (.ref b87), .unset, .unset, .unset, .unset, .unset, .unset, .unset] [(.ref b87), (.int (4096 : Int32)), (.int (2 : Int32)), (.ref b114), (.ref b114)]))
  refine own_step (fun _ k => XS.aload X114.here hx rfl (hb hby at_181) rfl rfl k) ?_
  show own_Fin p.tables e below _ (T114.setTop (mkF m 183 #[.val (.int w0), .val (.long q1), .second, .val (.long q2), .second, .val (.int w5), .val (.int w6), .val (.int na), .val (.int nb), .val (.int tt), .val (.ref y1), .val (.ref y3), .val (.ref b6), .val (.ref b87), .unset, .unset, .unset, .unset, .unset, .unset, .unset] [(.ref b6), (.ref b87), (.int (4096 : Int32)), (.int (2 : Int32)), (.ref b114), (.ref b114)]))
  refine own_step (fun _ k => XS.bipush X114.here hx rfl (hb hby at_183) k) ?_
  show own_Fin p.tables e below _ (T114.setTop (mkF m 185 #[.val (.int w0), .val (.long q1), .second, .val (.long q2), .second, .val (.int w5), .val (.int w6), .val (.int na), .val (.int nb), .val (.int tt), .val (.ref y1), .val (.ref y3), .val (.ref b6), .val (.ref b87), .unset, .unset, .unset, .unset, .unset, .unset, .unset] [(.int (11 : Int32)), (.ref b6), (.ref b87), (.int (4096 : Int32)), (.int (2 : Int32)), (.ref b114), (.ref b114)]))
  obtain ⟨T126, h126, k126, X126, e126, E126, A126, st126⟩ := newP X114 hx hZ (hw _ (List.mem_of_getElem? (i := 10) rfl)) e114 (g := (mkF m 185 #[.val (.int w0), .val (.long q1), .second, .val (.long q2), .second, .val (.int w5), .val (.int w6), .val (.int na), .val (.int nb), .val (.int tt), .val (.ref y1), .val (.ref y3), .val (.ref b6), .val (.ref b87), .unset, .unset, .unset, .unset, .unset, .unset, .unset] [(.int (11 : Int32)), (.ref b6), (.ref b87), (.int (4096 : Int32)), (.int (2 : Int32)), (.ref b114), (.ref b114)])) rfl (hb hby at_185) rfl (by decide) (cap := 11) (by decide) (by decide) (by decide) (by decide)
  obtain ⟨b126, g126⟩ : ∃ z, z = h114.size := ⟨_, rfl⟩
  rw [← g126] at A126 st126
  refine own_step st126 ?_
  have g_b126 : n0 ≤ b126 := Nat.le_trans f115 (Nat.le_of_eq g126.symm)
  have ne_b114_b126 : b114 ≠ b126 := Nat.ne_of_lt (Nat.lt_of_lt_of_le A114.lt (Nat.le_of_eq g126.symm))
  have ne_b6_b126 : b6 ≠ b126 := Nat.ne_of_lt (Nat.lt_of_lt_of_le f118.lt (Nat.le_of_eq g126.symm))
  have ne_b87_b126 : b87 ≠ b126 := Nat.ne_of_lt (Nat.lt_of_lt_of_le f119.lt (Nat.le_of_eq g126.symm))
  have ne_y1_b126 : y1 ≠ b126 := Nat.ne_of_lt (Nat.lt_of_lt_of_le f116.lt (Nat.le_of_eq g126.symm))
  have ne_y3_b126 : y3 ≠ b126 := Nat.ne_of_lt (Nat.lt_of_lt_of_le f117.lt (Nat.le_of_eq g126.symm))
  have f127 := Nat.le_trans f115 E126.1
  have f128 := f116.ext E126
  have f129 := f117.ext E126
  have f130 := f118.ext E126
  have f131 := f119.ext E126
  have f132 := A114.ext E126
  have f133 := f120.ext E126
  have f134 := f121.ext E126
  have f135 := f122.ext E126
  have f136 := f123.ext E126
  have f137 := f124.ext E126
  have f138 := f125.ext E126
  have f139 : Arv Z h126 b126 k126 .double (11 : Int32) [] (.double 0) := Arv.new A126 (by decide)
  show own_Fin p.tables e below _ (T126.setTop (mkF m 187 #[.val (.int w0), .val (.long q1), .second, .val (.long q2), .second, .val (.int w5), .val (.int w6), .val (.int na), .val (.int nb), .val (.int tt), .val (.ref y1), .val (.ref y3), .val (.ref b6), .val (.ref b87), .unset, .unset, .unset, .unset, .unset, .unset, .unset] [(.ref b126), (.ref b6), (.ref b87), (.int (4096 : Int32)), (.int (2 : Int32)), (.ref b114), (.ref b114)]))
  refine own_step (fun _ k => own_dconst X126.here hx rfl (hb hby at_187) k) ?_
  show own_Fin p.tables e below _ (T126.setTop (mkF m 188 #[.val (.int w0), .val (.long q1), .second, .val (.long q2), .second, .val (.int w5), .val (.int w6), .val (.int na), .val (.int nb), .val (.int tt), .val (.ref y1), .val (.ref y3), .val (.ref b6), .val (.ref b87), .unset, .unset, .unset, .unset, .unset, .unset, .unset] [(.double (0 : UInt64)), (.ref b126), (.ref b6), (.ref b87), (.int (4096 : Int32)), (.int (2 : Int32)), (.ref b114), (.ref b114)]))
  obtain ⟨_, _, ⟨T140, L140, k140, n140⟩, -, X140, ⟨Lc140, hQ140, l140, y140, z140⟩, st140⟩ := X126.specialBack hx (y := (⟨"com/example/fusewright/fusewright/runtime/SparseMatrix", "<init>", "(II[I[I[DD)V"⟩ : MethodName)) rfl hown (mvT hZ (hw _ (List.mem_of_getElem? (i := 11) rfl))) (mvT hZ (hw _ (List.mem_of_getElem? (i := 12) rfl))) (mvT hZ (hw _ (List.mem_of_getElem? (i := 13) rfl))) (by decide) (backOf (W := 1) (rm2 l Z a0 hw [] b114 (2 : Int32) (4096 : Int32) b87 b6 b126 (0 : UInt64) _ _ _ _ _ _ h126 n0 f127 f133 f134 f135 f136 f137 f138 f132 g_b114) hZ (hw _ (List.mem_of_getElem? (i := 13) rfl)) (hw _ (List.mem_of_getElem? (i := 9) rfl)) (by decide) (by decide)) (g := (mkF m 188 #[.val (.int w0), .val (.long q1), .second, .val (.long q2), .second, .val (.int w5), .val (.int w6), .val (.int na), .val (.int nb), .val (.int tt), .val (.ref y1), .val (.ref y3), .val (.ref b6), .val (.ref b87), .unset, .unset, .unset, .unset, .unset, .unset, .unset] [(.double (0 : UInt64)), (.ref b126), (.ref b6), (.ref b87), (.int (4096 : Int32)), (.int (2 : Int32)), (.ref b114), (.ref b114)])) rfl (by rw [hml]; rfl) (Steps.refl _) (a := b114) (argsL := [(.int (2 : Int32)), (.int (4096 : Int32)), (.ref b87), (.ref b6), (.ref b126), (.double (0 : UInt64))]) (rest := [(.ref b114)]) (lenOf pd_1 rfl) rfl (by show 2 * 0 + _ ≤ _; exact Nat.le_of_eq rfl) (hb hby at_188) (fun _ _ => ⟨rfl, e126, (by decide : 6 + 0 ≤ _), (by decide : 41 + 0 ≤ _)⟩)
  dsimp only [Pt.U, Pt.locs, Pt.cells, Pt.slots] at X140 l140 y140 z140 st140 hQ140
  subst l140 y140 z140
  obtain ⟨rfl, N140q, K140, fe140, fs140_0, fs140_1, fs140_2, fs140_3, fs140_4, fs140_5⟩ := hQ140
  have N140 := Fr.app N113 N140q
  refine own_steps st140 ?_
  have f141 := Nat.le_trans f127 K140.1
  have f142 := f128.keep K140 (ninS ne_y1_b114 nin0)
  have f143 := f129.keep K140 (ninS ne_y3_b114 nin0)
  have f144 := f130.keep K140 (ninS ne_b6_b114 nin0)
  have f145 := f131.keep K140 (ninS ne_b87_b114 nin0)
  have f146 := f132.keep K140
  have f153 := f139.keep K140 (ninS (Ne.symm ne_b114_b126) nin0)
  show own_Fin p.tables e below _ (T140.setTop (mkF m 191 #[.val (.int w0), .val (.long q1), .second, .val (.long q2), .second, .val (.int w5), .val (.int w6), .val (.int na), .val (.int nb), .val (.int tt), .val (.ref y1), .val (.ref y3), .val (.ref b6), .val (.ref b87), .unset, .unset, .unset, .unset, .unset, .unset, .unset] [(.ref b114)]))
  refine own_step (fun _ k => XS.astore X140.here hx rfl (hb hby at_191) rfl rfl (l' := #[.val (.int w0), .val (.long q1), .second, .val (.long q2), .second, .val (.int w5), .val (.int w6), .val (.int na), .val (.int nb), .val (.int tt), .val (.ref y1), .val (.ref y3), .val (.ref b6), .val (.ref b87), .val (.ref b114), .unset, .unset, .unset, .unset, .unset, .unset]) rfl k) ?_
  show own_Fin p.tables e below _ (T140.setTop (mkF m 193 #[.val (.int w0), .val (.long q1), .second, .val (.long q2), .second, .val (.int w5), .val (.int w6), .val (.int na), .val (.int nb), .val (.int tt), .val (.ref y1), .val (.ref y3), .val (.ref b6), .val (.ref b87), .val (.ref b114), .unset, .unset, .unset, .unset, .unset, .unset] []))
  refine own_step (fun _ k => XS.iload X140.here hx rfl (hb hby at_193) rfl k) ?_
  show own_Fin p.tables e below _ (T140.setTop (mkF m 195 #[.val (.int w0), .val (.long q1), .second, .val (.long q2), .second, .val (.int w5), .val (.int w6), .val (.int na), .val (.int nb), .val (.int tt), .val (.ref y1), .val (.ref y3), .val (.ref b6), .val (.ref b87), .val (.ref b114), .unset, .unset, .unset, .unset, .unset, .unset] [(.int tt)]))
  by_cases hc154 : tt = (0 : Int32)
  · refine own_step (fun _ k => XS.ifNo X140.here hx rfl (hb hby at_195) rfl ((if0 _ _).trans (teq hc154).2) k) ?_
    show own_Fin p.tables e below _ (T140.setTop (mkF m 198 #[.val (.int w0), .val (.long q1), .second, .val (.long q2), .second, .val (.int w5), .val (.int w6), .val (.int na), .val (.int nb), .val (.int tt), .val (.ref y1), .val (.ref y3), .val (.ref b6), .val (.ref b87), .val (.ref b114), .unset, .unset, .unset, .unset, .unset, .unset] []))
    subst hc154
    show own_Fin p.tables e below _ (T140.setTop (mkF m 198 #[.val (.int w0), .val (.long q1), .second, .val (.long q2), .second, .val (.int w5), .val (.int w6), .val (.int na), .val (.int nb), .val (.int (0 : Int32)), .val (.ref y1), .val (.ref y3), .val (.ref b6), .val (.ref b87), .val (.ref b114), .unset, .unset, .unset, .unset, .unset, .unset] []))
    refine own_step (fun _ k => XS.aload X140.here hx rfl (hb hby at_198) rfl rfl k) ?_
    show own_Fin p.tables e below _ (T140.setTop (mkF m 200 #[.val (.int w0), .val (.long q1), .second, .val (.long q2), .second, .val (.int w5), .val (.int w6), .val (.int na), .val (.int nb), .val (.int (0 : Int32)), .val (.ref y1), .val (.ref y3), .val (.ref b6), .val (.ref b87), .val (.ref b114), .unset, .unset, .unset, .unset, .unset, .unset] [(.ref y1)]))
    refine own_step (fun _ k => XS.goto X140.here hx rfl (pc0 := 200) (pc' := 205) rfl (hb hby at_200) (by decide) (by decide) k) ?_
    show own_Fin p.tables e below _ (T140.setTop (mkF m 205 #[.val (.int w0), .val (.long q1), .second, .val (.long q2), .second, .val (.int w5), .val (.int w6), .val (.int na), .val (.int nb), .val (.int (0 : Int32)), .val (.ref y1), .val (.ref y3), .val (.ref b6), .val (.ref b87), .val (.ref b114), .unset, .unset, .unset, .unset, .unset, .unset] [(.ref y1)]))
    refine own_step (fun _ k => XS.astore X140.here hx rfl (hb hby at_205) rfl rfl (l' := #[.val (.int w0), .val (.long q1), .second, .val (.long q2), .second, .val (.int w5), .val (.int w6), .val (.int na), .val (.int nb), .val (.int (0 : Int32)), .val (.ref y1), .val (.ref y3), .val (.ref b6), .val (.ref b87), .val (.ref b114), .val (.ref y1), .unset, .unset, .unset, .unset, .unset]) rfl k) ?_
    show own_Fin p.tables e below _ (T140.setTop (mkF m 207 #[.val (.int w0), .val (.long q1), .second, .val (.long q2), .second, .val (.int w5), .val (.int w6), .val (.int na), .val (.int nb), .val (.int (0 : Int32)), .val (.ref y1), .val (.ref y3), .val (.ref b6), .val (.ref b87), .val (.ref b114), .val (.ref y1), .unset, .unset, .unset, .unset, .unset] []))
    obtain ⟨gA, hgA⟩ : ∃ z : Nat → Int32, z = fun i => [ca0, ca1, ca2, ca3, ca4].getD i 0 := ⟨_, rfl⟩
    have fA : own_Arf Z T140.heap y1 .int 5 (fun i => .int (gA i)) := by rw [hgA]; exact own_Arf.ofI f142 [ca0, ca1, ca2, ca3, ca4] rfl rfl
    refine own_step (fun _ k => XS.iload X140.here hx rfl (hb hby at_207) rfl k) ?_
    show own_Fin p.tables e below _ (T140.setTop (mkF m 209 #[.val (.int w0), .val (.long q1), .second, .val (.long q2), .second, .val (.int w5), .val (.int w6), .val (.int na), .val (.int nb), .val (.int (0 : Int32)), .val (.ref y1), .val (.ref y3), .val (.ref b6), .val (.ref b87), .val (.ref b114), .val (.ref y1), .unset, .unset, .unset, .unset, .unset] [(.int (0 : Int32))]))
    refine own_step (fun _ k => XS.ifNo X140.here hx rfl (hb hby at_209) rfl ((if0 _ _).trans (teq (rfl : (0 : Int32) = (0 : Int32))).2) k) ?_
    show own_Fin p.tables e below _ (T140.setTop (mkF m 212 #[.val (.int w0), .val (.long q1), .second, .val (.long q2), .second, .val (.int w5), .val (.int w6), .val (.int na), .val (.int nb), .val (.int (0 : Int32)), .val (.ref y1), .val (.ref y3), .val (.ref b6), .val (.ref b87), .val (.ref b114), .val (.ref y1), .unset, .unset, .unset, .unset, .unset] []))
    refine own_step (fun _ k => XS.iload X140.here hx rfl (hb hby at_212) rfl k) ?_
    show own_Fin p.tables e below _ (T140.setTop (mkF m 214 #[.val (.int w0), .val (.long q1), .second, .val (.long q2), .second, .val (.int w5), .val (.int w6), .val (.int na), .val (.int nb), .val (.int (0 : Int32)), .val (.ref y1), .val (.ref y3), .val (.ref b6), .val (.ref b87), .val (.ref b114), .val (.ref y1), .unset, .unset, .unset, .unset, .unset] [(.int na)]))
    refine own_step (fun _ k => XS.goto X140.here hx rfl (pc0 := 214) (pc' := 219) rfl (hb hby at_214) (by decide) (by decide) k) ?_
    show own_Fin p.tables e below _ (T140.setTop (mkF m 219 #[.val (.int w0), .val (.long q1), .second, .val (.long q2), .second, .val (.int w5), .val (.int w6), .val (.int na), .val (.int nb), .val (.int (0 : Int32)), .val (.ref y1), .val (.ref y3), .val (.ref b6), .val (.ref b87), .val (.ref b114), .val (.ref y1), .unset, .unset, .unset, .unset, .unset] [(.int na)]))
    refine own_step (fun _ k => XS.istore X140.here hx rfl (hb hby at_219) rfl (l' := #[.val (.int w0), .val (.long q1), .second, .val (.long q2), .second, .val (.int w5), .val (.int w6), .val (.int na), .val (.int nb), .val (.int (0 : Int32)), .val (.ref y1), .val (.ref y3), .val (.ref b6), .val (.ref b87), .val (.ref b114), .val (.ref y1), .val (.int na), .unset, .unset, .unset, .unset]) rfl k) ?_
    show own_Fin p.tables e below _ (T140.setTop (mkF m 221 #[.val (.int w0), .val (.long q1), .second, .val (.long q2), .second, .val (.int w5), .val (.int w6), .val (.int na), .val (.int nb), .val (.int (0 : Int32)), .val (.ref y1), .val (.ref y3), .val (.ref b6), .val (.ref b87), .val (.ref b114), .val (.ref y1), .val (.int na), .unset, .unset, .unset, .unset] []))
    refine own_step (fun _ k => XS.iload X140.here hx rfl (hb hby at_221) rfl k) ?_
    show own_Fin p.tables e below _ (T140.setTop (mkF m 223 #[.val (.int w0), .val (.long q1), .second, .val (.long q2), .second, .val (.int w5), .val (.int w6), .val (.int na), .val (.int nb), .val (.int (0 : Int32)), .val (.ref y1), .val (.ref y3), .val (.ref b6), .val (.ref b87), .val (.ref b114), .val (.ref y1), .val (.int na), .unset, .unset, .unset, .unset] [(.int (0 : Int32))]))
    refine own_step (fun _ k => XS.ifNo X140.here hx rfl (hb hby at_223) rfl ((if0 _ _).trans (teq (rfl : (0 : Int32) = (0 : Int32))).2) k) ?_
    show own_Fin p.tables e below _ (T140.setTop (mkF m 226 #[.val (.int w0), .val (.long q1), .second, .val (.long q2), .second, .val (.int w5), .val (.int w6), .val (.int na), .val (.int nb), .val (.int (0 : Int32)), .val (.ref y1), .val (.ref y3), .val (.ref b6), .val (.ref b87), .val (.ref b114), .val (.ref y1), .val (.int na), .unset, .unset, .unset, .unset] []))
    refine own_step (fun _ k => XS.iconst X140.here hx rfl (hb hby at_226) k) ?_
    show own_Fin p.tables e below _ (T140.setTop (mkF m 227 #[.val (.int w0), .val (.long q1), .second, .val (.long q2), .second, .val (.int w5), .val (.int w6), .val (.int na), .val (.int nb), .val (.int (0 : Int32)), .val (.ref y1), .val (.ref y3), .val (.ref b6), .val (.ref b87), .val (.ref b114), .val (.ref y1), .val (.int na), .unset, .unset, .unset, .unset] [(.int (0 : Int32))]))
    refine own_step (fun _ k => XS.goto X140.here hx rfl (pc0 := 227) (pc' := 232) rfl (hb hby at_227) (by decide) (by decide) k) ?_
    show own_Fin p.tables e below _ (T140.setTop (mkF m 232 #[.val (.int w0), .val (.long q1), .second, .val (.long q2), .second, .val (.int w5), .val (.int w6), .val (.int na), .val (.int nb), .val (.int (0 : Int32)), .val (.ref y1), .val (.ref y3), .val (.ref b6), .val (.ref b87), .val (.ref b114), .val (.ref y1), .val (.int na), .unset, .unset, .unset, .unset] [(.int (0 : Int32))]))
    refine own_step (fun _ k => XS.istore X140.here hx rfl (hb hby at_232) rfl (l' := #[.val (.int w0), .val (.long q1), .second, .val (.long q2), .second, .val (.int w5), .val (.int w6), .val (.int na), .val (.int nb), .val (.int (0 : Int32)), .val (.ref y1), .val (.ref y3), .val (.ref b6), .val (.ref b87), .val (.ref b114), .val (.ref y1), .val (.int na), .val (.int (0 : Int32)), .unset, .unset, .unset]) rfl k) ?_
    show own_Fin p.tables e below _ (T140.setTop (mkF m 234 #[.val (.int w0), .val (.long q1), .second, .val (.long q2), .second, .val (.int w5), .val (.int w6), .val (.int na), .val (.int nb), .val (.int (0 : Int32)), .val (.ref y1), .val (.ref y3), .val (.ref b6), .val (.ref b87), .val (.ref b114), .val (.ref y1), .val (.int na), .val (.int (0 : Int32)), .unset, .unset, .unset] []))
    refine own_step (fun _ k => XS.iload X140.here hx rfl (hb hby at_234) rfl k) ?_
    show own_Fin p.tables e below _ (T140.setTop (mkF m 236 #[.val (.int w0), .val (.long q1), .second, .val (.long q2), .second, .val (.int w5), .val (.int w6), .val (.int na), .val (.int nb), .val (.int (0 : Int32)), .val (.ref y1), .val (.ref y3), .val (.ref b6), .val (.ref b87), .val (.ref b114), .val (.ref y1), .val (.int na), .val (.int (0 : Int32)), .unset, .unset, .unset] [(.int w5)]))
    refine own_step (fun _ k => XS.bipush X140.here hx rfl (hb hby at_236) k) ?_
    show own_Fin p.tables e below _ (T140.setTop (mkF m 238 #[.val (.int w0), .val (.long q1), .second, .val (.long q2), .second, .val (.int w5), .val (.int w6), .val (.int na), .val (.int nb), .val (.int (0 : Int32)), .val (.ref y1), .val (.ref y3), .val (.ref b6), .val (.ref b87), .val (.ref b114), .val (.ref y1), .val (.int na), .val (.int (0 : Int32)), .unset, .unset, .unset] [(.int (7 : Int32)), (.int w5)]))
    refine own_step (fun _ k => XS.iand X140.here hx rfl (hb hby at_238) rfl k) ?_
    show own_Fin p.tables e below _ (T140.setTop (mkF m 239 #[.val (.int w0), .val (.long q1), .second, .val (.long q2), .second, .val (.int w5), .val (.int w6), .val (.int na), .val (.int nb), .val (.int (0 : Int32)), .val (.ref y1), .val (.ref y3), .val (.ref b6), .val (.ref b87), .val (.ref b114), .val (.ref y1), .val (.int na), .val (.int (0 : Int32)), .unset, .unset, .unset] [(.int (w5 &&& (7 : Int32)))]))
    refine own_step (fun _ k => XS.istore X140.here hx rfl (hb hby at_239) rfl (l' := #[.val (.int w0), .val (.long q1), .second, .val (.long q2), .second, .val (.int w5), .val (.int w6), .val (.int na), .val (.int nb), .val (.int (0 : Int32)), .val (.ref y1), .val (.ref y3), .val (.ref b6), .val (.ref b87), .val (.ref b114), .val (.ref y1), .val (.int na), .val (.int (0 : Int32)), .val (.int (w5 &&& (7 : Int32))), .unset, .unset]) rfl k) ?_
    show own_Fin p.tables e below _ (T140.setTop (mkF m 241 #[.val (.int w0), .val (.long q1), .second, .val (.long q2), .second, .val (.int w5), .val (.int w6), .val (.int na), .val (.int nb), .val (.int (0 : Int32)), .val (.ref y1), .val (.ref y3), .val (.ref b6), .val (.ref b87), .val (.ref b114), .val (.ref y1), .val (.int na), .val (.int (0 : Int32)), .val (.int (w5 &&& (7 : Int32))), .unset, .unset] []))
    obtain ⟨kd, hkd⟩ : ∃ z, z = (w5 &&& (7 : Int32)) := ⟨_, rfl⟩
    rw [← hkd]
    show own_Fin p.tables e below _ (T140.setTop (mkF m 241 #[.val (.int w0), .val (.long q1), .second, .val (.long q2), .second, .val (.int w5), .val (.int w6), .val (.int na), .val (.int nb), .val (.int (0 : Int32)), .val (.ref y1), .val (.ref y3), .val (.ref b6), .val (.ref b87), .val (.ref b114), .val (.ref y1), .val (.int na), .val (.int (0 : Int32)), .val (.int kd), .unset, .unset] []))
    refine own_step (fun _ k => XS.iload X140.here hx rfl (hb hby at_241) rfl k) ?_
    show own_Fin p.tables e below _ (T140.setTop (mkF m 243 #[.val (.int w0), .val (.long q1), .second, .val (.long q2), .second, .val (.int w5), .val (.int w6), .val (.int na), .val (.int nb), .val (.int (0 : Int32)), .val (.ref y1), .val (.ref y3), .val (.ref b6), .val (.ref b87), .val (.ref b114), .val (.ref y1), .val (.int na), .val (.int (0 : Int32)), .val (.int kd), .unset, .unset] [(.int na)]))
    have J156 : ∀ (T157 : State) (locs157 : List Loc) (y158 : Int32) (X157 : Stand p l e room_1 s m #[(.int w0), (.long q1), (.long q2), (.int w5), (.int w6)] below meth c T157 locs157 6 41) (e157 : T157.heap = T140.heap) (N157 : Fr n0 locs157) (gy158 : y158 = (if na = (0 : Int32) then w6 else (if (3 : Int32) < kd then w6 else (if kd = (3 : Int32) then (w6 &&& (2047 : Int32)) else (((gA (((((w5.toUInt32 >>> ((3 : Int32) &&& 31).toUInt32).toInt32) &&& (7 : Int32)) - ((((w5.toUInt32 >>> ((3 : Int32) &&& 31).toUInt32).toInt32) &&& (7 : Int32)) / na) * na)).toNatClampNeg) + kd) - (1 : Int32)))))), own_Fin p.tables e below (P0 Z w0 q1 q2 w5 w6 h0 n0 s) (T157.setTop (mkF m 296 #[.val (.int w0), .val (.long q1), .second, .val (.long q2), .second, .val (.int w5), .val (.int w6), .val (.int na), .val (.int nb), .val (.int (0 : Int32)), .val (.ref y1), .val (.ref y3), .val (.ref b6), .val (.ref b87), .val (.ref b114), .val (.ref y1), .val (.int na), .val (.int (0 : Int32)), .val (.int kd), .val (.int y158), .unset] [])) := by
      intro T157 locs157 y158 X157 e157 N157 gy158
      refine own_step (fun _ k => XS.iload X157.here hx rfl (hb hby at_296) rfl k) ?_
      show own_Fin p.tables e below _ (T157.setTop (mkF m 298 #[.val (.int w0), .val (.long q1), .second, .val (.long q2), .second, .val (.int w5), .val (.int w6), .val (.int na), .val (.int nb), .val (.int (0 : Int32)), .val (.ref y1), .val (.ref y3), .val (.ref b6), .val (.ref b87), .val (.ref b114), .val (.ref y1), .val (.int na), .val (.int (0 : Int32)), .val (.int kd), .val (.int y158), .unset] [(.int (0 : Int32))]))
      refine own_step (fun _ k => XS.aload X157.here hx rfl (hb hby at_298) rfl rfl k) ?_
      show own_Fin p.tables e below _ (T157.setTop (mkF m 300 #[.val (.int w0), .val (.long q1), .second, .val (.long q2), .second, .val (.int w5), .val (.int w6), .val (.int na), .val (.int nb), .val (.int (0 : Int32)), .val (.ref y1), .val (.ref y3), .val (.ref b6), .val (.ref b87), .val (.ref b114), .val (.ref y1), .val (.int na), .val (.int (0 : Int32)), .val (.int kd), .val (.int y158), .unset] [(.ref y1), (.int (0 : Int32))]))
      refine own_step (fun _ k => XS.iload X157.here hx rfl (hb hby at_300) rfl k) ?_
      show own_Fin p.tables e below _ (T157.setTop (mkF m 302 #[.val (.int w0), .val (.long q1), .second, .val (.long q2), .second, .val (.int w5), .val (.int w6), .val (.int na), .val (.int nb), .val (.int (0 : Int32)), .val (.ref y1), .val (.ref y3), .val (.ref b6), .val (.ref b87), .val (.ref b114), .val (.ref y1), .val (.int na), .val (.int (0 : Int32)), .val (.int kd), .val (.int y158), .unset] [(.int na), (.ref y1), (.int (0 : Int32))]))
      refine own_step (fun _ k => XS.iconst X157.here hx rfl (hb hby at_302) k) ?_
      show own_Fin p.tables e below _ (T157.setTop (mkF m 303 #[.val (.int w0), .val (.long q1), .second, .val (.long q2), .second, .val (.int w5), .val (.int w6), .val (.int na), .val (.int nb), .val (.int (0 : Int32)), .val (.ref y1), .val (.ref y3), .val (.ref b6), .val (.ref b87), .val (.ref b114), .val (.ref y1), .val (.int na), .val (.int (0 : Int32)), .val (.int kd), .val (.int y158), .unset] [(.int (0 : Int32)), (.int na), (.ref y1), (.int (0 : Int32))]))
      refine own_step (fun _ k => XS.iload X157.here hx rfl (hb hby at_303) rfl k) ?_
      show own_Fin p.tables e below _ (T157.setTop (mkF m 305 #[.val (.int w0), .val (.long q1), .second, .val (.long q2), .second, .val (.int w5), .val (.int w6), .val (.int na), .val (.int nb), .val (.int (0 : Int32)), .val (.ref y1), .val (.ref y3), .val (.ref b6), .val (.ref b87), .val (.ref b114), .val (.ref y1), .val (.int na), .val (.int (0 : Int32)), .val (.int kd), .val (.int y158), .unset] [(.int y158), (.int (0 : Int32)), (.int na), (.ref y1), (.int (0 : Int32))]))
      obtain ⟨_, _, ⟨T159, L159, k159, n159⟩, -, X159, ⟨Lc159, hQ159, l159, y159, z159⟩, st159⟩ := Jvm.LawKit.callS X157 hx (y := (⟨"com/example/fusewright/fusewright/runtime/SparseMatrixFirstAtOrAfterPinLaw", "below", "([IIII)I"⟩ : MethodName)) hown (mvT hZ (hw _ (List.mem_of_getElem? (i := 29) rfl))) (mvT hZ (hw _ (List.mem_of_getElem? (i := 30) rfl))) (mvT hZ (hw _ (List.mem_of_getElem? (i := 2) rfl))) (mvT hZ (hw _ (List.mem_of_getElem? (i := 31) rfl))) (by decide) (backOf (W := 1) (rm4 l Z a0 hw [] y1 na (0 : Int32) y158 gA T140.heap n0 f141 fA (by decide) (by decide)) hZ (hw _ (List.mem_of_getElem? (i := 31) rfl)) (hw _ (List.mem_of_getElem? (i := 2) rfl)) (by decide) (by decide)) (g := (mkF m 305 #[.val (.int w0), .val (.long q1), .second, .val (.long q2), .second, .val (.int w5), .val (.int w6), .val (.int na), .val (.int nb), .val (.int (0 : Int32)), .val (.ref y1), .val (.ref y3), .val (.ref b6), .val (.ref b87), .val (.ref b114), .val (.ref y1), .val (.int na), .val (.int (0 : Int32)), .val (.int kd), .val (.int y158), .unset] [(.int y158), (.int (0 : Int32)), (.int na), (.ref y1), (.int (0 : Int32))])) rfl (by rw [hml]; rfl) (argsL := [(.ref y1), (.int na), (.int (0 : Int32)), (.int y158)]) (rest := [(.int (0 : Int32))]) (lenOf pd_2 rfl) rfl (by show 2 * 0 + _ ≤ _; exact Nat.le_of_eq rfl) (hb hby at_305) (fun _ _ => ⟨rfl, e157, (by decide : 6 + 0 ≤ _), (by decide : 41 + 0 ≤ _)⟩)
      dsimp only [Pt.U, Pt.locs, Pt.cells, Pt.slots] at X159 l159 y159 z159 st159 hQ159
      subst l159 y159 z159
      obtain ⟨rfl, N159q, e159⟩ := hQ159
      have N159 := Fr.app N157 N159q
      refine own_step st159 ?_
      show own_Fin p.tables e below _ (T159.setTop (mkF m 308 #[.val (.int w0), .val (.long q1), .second, .val (.long q2), .second, .val (.int w5), .val (.int w6), .val (.int na), .val (.int nb), .val (.int (0 : Int32)), .val (.ref y1), .val (.ref y3), .val (.ref b6), .val (.ref b87), .val (.ref b114), .val (.ref y1), .val (.int na), .val (.int (0 : Int32)), .val (.int kd), .val (.int y158), .unset] [(.int (own_bel gA na (0 : Int32) y158)), (.int (0 : Int32))]))
      refine own_step (fun _ k => XS.iadd X159.here hx rfl (hb hby at_308) rfl k) ?_
      show own_Fin p.tables e below _ (T159.setTop (mkF m 309 #[.val (.int w0), .val (.long q1), .second, .val (.long q2), .second, .val (.int w5), .val (.int w6), .val (.int na), .val (.int nb), .val (.int (0 : Int32)), .val (.ref y1), .val (.ref y3), .val (.ref b6), .val (.ref b87), .val (.ref b114), .val (.ref y1), .val (.int na), .val (.int (0 : Int32)), .val (.int kd), .val (.int y158), .unset] [(.int ((0 : Int32) + (own_bel gA na (0 : Int32) y158)))]))
      refine own_step (fun _ k => XS.aload X159.here hx rfl (hb hby at_309) rfl rfl k) ?_
      show own_Fin p.tables e below _ (T159.setTop (mkF m 311 #[.val (.int w0), .val (.long q1), .second, .val (.long q2), .second, .val (.int w5), .val (.int w6), .val (.int na), .val (.int nb), .val (.int (0 : Int32)), .val (.ref y1), .val (.ref y3), .val (.ref b6), .val (.ref b87), .val (.ref b114), .val (.ref y1), .val (.int na), .val (.int (0 : Int32)), .val (.int kd), .val (.int y158), .unset] [(.ref y1), (.int ((0 : Int32) + (own_bel gA na (0 : Int32) y158)))]))
      refine own_step (fun _ k => XS.iload X159.here hx rfl (hb hby at_311) rfl k) ?_
      show own_Fin p.tables e below _ (T159.setTop (mkF m 313 #[.val (.int w0), .val (.long q1), .second, .val (.long q2), .second, .val (.int w5), .val (.int w6), .val (.int na), .val (.int nb), .val (.int (0 : Int32)), .val (.ref y1), .val (.ref y3), .val (.ref b6), .val (.ref b87), .val (.ref b114), .val (.ref y1), .val (.int na), .val (.int (0 : Int32)), .val (.int kd), .val (.int y158), .unset] [(.int na), (.ref y1), (.int ((0 : Int32) + (own_bel gA na (0 : Int32) y158)))]))
      refine own_step (fun _ k => XS.iconst X159.here hx rfl (hb hby at_313) k) ?_
      show own_Fin p.tables e below _ (T159.setTop (mkF m 314 #[.val (.int w0), .val (.long q1), .second, .val (.long q2), .second, .val (.int w5), .val (.int w6), .val (.int na), .val (.int nb), .val (.int (0 : Int32)), .val (.ref y1), .val (.ref y3), .val (.ref b6), .val (.ref b87), .val (.ref b114), .val (.ref y1), .val (.int na), .val (.int (0 : Int32)), .val (.int kd), .val (.int y158), .unset] [(.int (1 : Int32)), (.int na), (.ref y1), (.int ((0 : Int32) + (own_bel gA na (0 : Int32) y158)))]))
      refine own_step (fun _ k => XS.iload X159.here hx rfl (hb hby at_314) rfl k) ?_
      show own_Fin p.tables e below _ (T159.setTop (mkF m 316 #[.val (.int w0), .val (.long q1), .second, .val (.long q2), .second, .val (.int w5), .val (.int w6), .val (.int na), .val (.int nb), .val (.int (0 : Int32)), .val (.ref y1), .val (.ref y3), .val (.ref b6), .val (.ref b87), .val (.ref b114), .val (.ref y1), .val (.int na), .val (.int (0 : Int32)), .val (.int kd), .val (.int y158), .unset] [(.int y158), (.int (1 : Int32)), (.int na), (.ref y1), (.int ((0 : Int32) + (own_bel gA na (0 : Int32) y158)))]))
      obtain ⟨_, _, ⟨T160, L160, k160, n160⟩, -, X160, ⟨Lc160, hQ160, l160, y160, z160⟩, st160⟩ := Jvm.LawKit.callS X159 hx (y := (⟨"com/example/fusewright/fusewright/runtime/SparseMatrixFirstAtOrAfterPinLaw", "below", "([IIII)I"⟩ : MethodName)) hown (mvT hZ (hw _ (List.mem_of_getElem? (i := 29) rfl))) (mvT hZ (hw _ (List.mem_of_getElem? (i := 30) rfl))) (mvT hZ (hw _ (List.mem_of_getElem? (i := 2) rfl))) (mvT hZ (hw _ (List.mem_of_getElem? (i := 31) rfl))) (by decide) (backOf (W := 1) (rm4 l Z a0 hw [] y1 na (1 : Int32) y158 gA T140.heap n0 f141 fA (by decide) (by decide)) hZ (hw _ (List.mem_of_getElem? (i := 31) rfl)) (hw _ (List.mem_of_getElem? (i := 2) rfl)) (by decide) (by decide)) (g := (mkF m 316 #[.val (.int w0), .val (.long q1), .second, .val (.long q2), .second, .val (.int w5), .val (.int w6), .val (.int na), .val (.int nb), .val (.int (0 : Int32)), .val (.ref y1), .val (.ref y3), .val (.ref b6), .val (.ref b87), .val (.ref b114), .val (.ref y1), .val (.int na), .val (.int (0 : Int32)), .val (.int kd), .val (.int y158), .unset] [(.int y158), (.int (1 : Int32)), (.int na), (.ref y1), (.int ((0 : Int32) + (own_bel gA na (0 : Int32) y158)))])) rfl (by rw [hml]; rfl) (argsL := [(.ref y1), (.int na), (.int (1 : Int32)), (.int y158)]) (rest := [(.int ((0 : Int32) + (own_bel gA na (0 : Int32) y158)))]) (lenOf pd_2 rfl) rfl (by show 2 * 0 + _ ≤ _; exact Nat.le_of_eq rfl) (hb hby at_316) (fun _ _ => ⟨rfl, e159, (by decide : 6 + 0 ≤ _), (by decide : 41 + 0 ≤ _)⟩)
      dsimp only [Pt.U, Pt.locs, Pt.cells, Pt.slots] at X160 l160 y160 z160 st160 hQ160
      subst l160 y160 z160
      obtain ⟨rfl, N160q, e160⟩ := hQ160
      have N160 := Fr.app N159 N160q
      refine own_step st160 ?_
      show own_Fin p.tables e below _ (T160.setTop (mkF m 319 #[.val (.int w0), .val (.long q1), .second, .val (.long q2), .second, .val (.int w5), .val (.int w6), .val (.int na), .val (.int nb), .val (.int (0 : Int32)), .val (.ref y1), .val (.ref y3), .val (.ref b6), .val (.ref b87), .val (.ref b114), .val (.ref y1), .val (.int na), .val (.int (0 : Int32)), .val (.int kd), .val (.int y158), .unset] [(.int (own_bel gA na (1 : Int32) y158)), (.int ((0 : Int32) + (own_bel gA na (0 : Int32) y158)))]))
      refine own_step (fun _ k => XS.iadd X160.here hx rfl (hb hby at_319) rfl k) ?_
      show own_Fin p.tables e below _ (T160.setTop (mkF m 320 #[.val (.int w0), .val (.long q1), .second, .val (.long q2), .second, .val (.int w5), .val (.int w6), .val (.int na), .val (.int nb), .val (.int (0 : Int32)), .val (.ref y1), .val (.ref y3), .val (.ref b6), .val (.ref b87), .val (.ref b114), .val (.ref y1), .val (.int na), .val (.int (0 : Int32)), .val (.int kd), .val (.int y158), .unset] [(.int (((0 : Int32) + (own_bel gA na (0 : Int32) y158)) + (own_bel gA na (1 : Int32) y158)))]))
      refine own_step (fun _ k => XS.aload X160.here hx rfl (hb hby at_320) rfl rfl k) ?_
      show own_Fin p.tables e below _ (T160.setTop (mkF m 322 #[.val (.int w0), .val (.long q1), .second, .val (.long q2), .second, .val (.int w5), .val (.int w6), .val (.int na), .val (.int nb), .val (.int (0 : Int32)), .val (.ref y1), .val (.ref y3), .val (.ref b6), .val (.ref b87), .val (.ref b114), .val (.ref y1), .val (.int na), .val (.int (0 : Int32)), .val (.int kd), .val (.int y158), .unset] [(.ref y1), (.int (((0 : Int32) + (own_bel gA na (0 : Int32) y158)) + (own_bel gA na (1 : Int32) y158)))]))
      refine own_step (fun _ k => XS.iload X160.here hx rfl (hb hby at_322) rfl k) ?_
      show own_Fin p.tables e below _ (T160.setTop (mkF m 324 #[.val (.int w0), .val (.long q1), .second, .val (.long q2), .second, .val (.int w5), .val (.int w6), .val (.int na), .val (.int nb), .val (.int (0 : Int32)), .val (.ref y1), .val (.ref y3), .val (.ref b6), .val (.ref b87), .val (.ref b114), .val (.ref y1), .val (.int na), .val (.int (0 : Int32)), .val (.int kd), .val (.int y158), .unset] [(.int na), (.ref y1), (.int (((0 : Int32) + (own_bel gA na (0 : Int32) y158)) + (own_bel gA na (1 : Int32) y158)))]))
      refine own_step (fun _ k => XS.iconst X160.here hx rfl (hb hby at_324) k) ?_
      show own_Fin p.tables e below _ (T160.setTop (mkF m 325 #[.val (.int w0), .val (.long q1), .second, .val (.long q2), .second, .val (.int w5), .val (.int w6), .val (.int na), .val (.int nb), .val (.int (0 : Int32)), .val (.ref y1), .val (.ref y3), .val (.ref b6), .val (.ref b87), .val (.ref b114), .val (.ref y1), .val (.int na), .val (.int (0 : Int32)), .val (.int kd), .val (.int y158), .unset] [(.int (2 : Int32)), (.int na), (.ref y1), (.int (((0 : Int32) + (own_bel gA na (0 : Int32) y158)) + (own_bel gA na (1 : Int32) y158)))]))
      refine own_step (fun _ k => XS.iload X160.here hx rfl (hb hby at_325) rfl k) ?_
      show own_Fin p.tables e below _ (T160.setTop (mkF m 327 #[.val (.int w0), .val (.long q1), .second, .val (.long q2), .second, .val (.int w5), .val (.int w6), .val (.int na), .val (.int nb), .val (.int (0 : Int32)), .val (.ref y1), .val (.ref y3), .val (.ref b6), .val (.ref b87), .val (.ref b114), .val (.ref y1), .val (.int na), .val (.int (0 : Int32)), .val (.int kd), .val (.int y158), .unset] [(.int y158), (.int (2 : Int32)), (.int na), (.ref y1), (.int (((0 : Int32) + (own_bel gA na (0 : Int32) y158)) + (own_bel gA na (1 : Int32) y158)))]))
      obtain ⟨_, _, ⟨T161, L161, k161, n161⟩, -, X161, ⟨Lc161, hQ161, l161, y161, z161⟩, st161⟩ := Jvm.LawKit.callS X160 hx (y := (⟨"com/example/fusewright/fusewright/runtime/SparseMatrixFirstAtOrAfterPinLaw", "below", "([IIII)I"⟩ : MethodName)) hown (mvT hZ (hw _ (List.mem_of_getElem? (i := 29) rfl))) (mvT hZ (hw _ (List.mem_of_getElem? (i := 30) rfl))) (mvT hZ (hw _ (List.mem_of_getElem? (i := 2) rfl))) (mvT hZ (hw _ (List.mem_of_getElem? (i := 31) rfl))) (by decide) (backOf (W := 1) (rm4 l Z a0 hw [] y1 na (2 : Int32) y158 gA T140.heap n0 f141 fA (by decide) (by decide)) hZ (hw _ (List.mem_of_getElem? (i := 31) rfl)) (hw _ (List.mem_of_getElem? (i := 2) rfl)) (by decide) (by decide)) (g := (mkF m 327 #[.val (.int w0), .val (.long q1), .second, .val (.long q2), .second, .val (.int w5), .val (.int w6), .val (.int na), .val (.int nb), .val (.int (0 : Int32)), .val (.ref y1), .val (.ref y3), .val (.ref b6), .val (.ref b87), .val (.ref b114), .val (.ref y1), .val (.int na), .val (.int (0 : Int32)), .val (.int kd), .val (.int y158), .unset] [(.int y158), (.int (2 : Int32)), (.int na), (.ref y1), (.int (((0 : Int32) + (own_bel gA na (0 : Int32) y158)) + (own_bel gA na (1 : Int32) y158)))])) rfl (by rw [hml]; rfl) (argsL := [(.ref y1), (.int na), (.int (2 : Int32)), (.int y158)]) (rest := [(.int (((0 : Int32) + (own_bel gA na (0 : Int32) y158)) + (own_bel gA na (1 : Int32) y158)))]) (lenOf pd_2 rfl) rfl (by show 2 * 0 + _ ≤ _; exact Nat.le_of_eq rfl) (hb hby at_327) (fun _ _ => ⟨rfl, e160, (by decide : 6 + 0 ≤ _), (by decide : 41 + 0 ≤ _)⟩)
      dsimp only [Pt.U, Pt.locs, Pt.cells, Pt.slots] at X161 l161 y161 z161 st161 hQ161
      subst l161 y161 z161
      obtain ⟨rfl, N161q, e161⟩ := hQ161
      have N161 := Fr.app N160 N161q
      refine own_step st161 ?_
      show own_Fin p.tables e below _ (T161.setTop (mkF m 330 #[.val (.int w0), .val (.long q1), .second, .val (.long q2), .second, .val (.int w5), .val (.int w6), .val (.int na), .val (.int nb), .val (.int (0 : Int32)), .val (.ref y1), .val (.ref y3), .val (.ref b6), .val (.ref b87), .val (.ref b114), .val (.ref y1), .val (.int na), .val (.int (0 : Int32)), .val (.int kd), .val (.int y158), .unset] [(.int (own_bel gA na (2 : Int32) y158)), (.int (((0 : Int32) + (own_bel gA na (0 : Int32) y158)) + (own_bel gA na (1 : Int32) y158)))]))
      refine own_step (fun _ k => XS.iadd X161.here hx rfl (hb hby at_330) rfl k) ?_
      show own_Fin p.tables e below _ (T161.setTop (mkF m 331 #[.val (.int w0), .val (.long q1), .second, .val (.long q2), .second, .val (.int w5), .val (.int w6), .val (.int na), .val (.int nb), .val (.int (0 : Int32)), .val (.ref y1), .val (.ref y3), .val (.ref b6), .val (.ref b87), .val (.ref b114), .val (.ref y1), .val (.int na), .val (.int (0 : Int32)), .val (.int kd), .val (.int y158), .unset] [(.int ((((0 : Int32) + (own_bel gA na (0 : Int32) y158)) + (own_bel gA na (1 : Int32) y158)) + (own_bel gA na (2 : Int32) y158)))]))
      refine own_step (fun _ k => XS.aload X161.here hx rfl (hb hby at_331) rfl rfl k) ?_
      show own_Fin p.tables e below _ (T161.setTop (mkF m 333 #[.val (.int w0), .val (.long q1), .second, .val (.long q2), .second, .val (.int w5), .val (.int w6), .val (.int na), .val (.int nb), .val (.int (0 : Int32)), .val (.ref y1), .val (.ref y3), .val (.ref b6), .val (.ref b87), .val (.ref b114), .val (.ref y1), .val (.int na), .val (.int (0 : Int32)), .val (.int kd), .val (.int y158), .unset] [(.ref y1), (.int ((((0 : Int32) + (own_bel gA na (0 : Int32) y158)) + (own_bel gA na (1 : Int32) y158)) + (own_bel gA na (2 : Int32) y158)))]))
      refine own_step (fun _ k => XS.iload X161.here hx rfl (hb hby at_333) rfl k) ?_
      show own_Fin p.tables e below _ (T161.setTop (mkF m 335 #[.val (.int w0), .val (.long q1), .second, .val (.long q2), .second, .val (.int w5), .val (.int w6), .val (.int na), .val (.int nb), .val (.int (0 : Int32)), .val (.ref y1), .val (.ref y3), .val (.ref b6), .val (.ref b87), .val (.ref b114), .val (.ref y1), .val (.int na), .val (.int (0 : Int32)), .val (.int kd), .val (.int y158), .unset] [(.int na), (.ref y1), (.int ((((0 : Int32) + (own_bel gA na (0 : Int32) y158)) + (own_bel gA na (1 : Int32) y158)) + (own_bel gA na (2 : Int32) y158)))]))
      refine own_step (fun _ k => XS.iconst X161.here hx rfl (hb hby at_335) k) ?_
      show own_Fin p.tables e below _ (T161.setTop (mkF m 336 #[.val (.int w0), .val (.long q1), .second, .val (.long q2), .second, .val (.int w5), .val (.int w6), .val (.int na), .val (.int nb), .val (.int (0 : Int32)), .val (.ref y1), .val (.ref y3), .val (.ref b6), .val (.ref b87), .val (.ref b114), .val (.ref y1), .val (.int na), .val (.int (0 : Int32)), .val (.int kd), .val (.int y158), .unset] [(.int (3 : Int32)), (.int na), (.ref y1), (.int ((((0 : Int32) + (own_bel gA na (0 : Int32) y158)) + (own_bel gA na (1 : Int32) y158)) + (own_bel gA na (2 : Int32) y158)))]))
      refine own_step (fun _ k => XS.iload X161.here hx rfl (hb hby at_336) rfl k) ?_
      show own_Fin p.tables e below _ (T161.setTop (mkF m 338 #[.val (.int w0), .val (.long q1), .second, .val (.long q2), .second, .val (.int w5), .val (.int w6), .val (.int na), .val (.int nb), .val (.int (0 : Int32)), .val (.ref y1), .val (.ref y3), .val (.ref b6), .val (.ref b87), .val (.ref b114), .val (.ref y1), .val (.int na), .val (.int (0 : Int32)), .val (.int kd), .val (.int y158), .unset] [(.int y158), (.int (3 : Int32)), (.int na), (.ref y1), (.int ((((0 : Int32) + (own_bel gA na (0 : Int32) y158)) + (own_bel gA na (1 : Int32) y158)) + (own_bel gA na (2 : Int32) y158)))]))
      obtain ⟨_, _, ⟨T162, L162, k162, n162⟩, -, X162, ⟨Lc162, hQ162, l162, y162, z162⟩, st162⟩ := Jvm.LawKit.callS X161 hx (y := (⟨"com/example/fusewright/fusewright/runtime/SparseMatrixFirstAtOrAfterPinLaw", "below", "([IIII)I"⟩ : MethodName)) hown (mvT hZ (hw _ (List.mem_of_getElem? (i := 29) rfl))) (mvT hZ (hw _ (List.mem_of_getElem? (i := 30) rfl))) (mvT hZ (hw _ (List.mem_of_getElem? (i := 2) rfl))) (mvT hZ (hw _ (List.mem_of_getElem? (i := 31) rfl))) (by decide) (backOf (W := 1) (rm4 l Z a0 hw [] y1 na (3 : Int32) y158 gA T140.heap n0 f141 fA (by decide) (by decide)) hZ (hw _ (List.mem_of_getElem? (i := 31) rfl)) (hw _ (List.mem_of_getElem? (i := 2) rfl)) (by decide) (by decide)) (g := (mkF m 338 #[.val (.int w0), .val (.long q1), .second, .val (.long q2), .second, .val (.int w5), .val (.int w6), .val (.int na), .val (.int nb), .val (.int (0 : Int32)), .val (.ref y1), .val (.ref y3), .val (.ref b6), .val (.ref b87), .val (.ref b114), .val (.ref y1), .val (.int na), .val (.int (0 : Int32)), .val (.int kd), .val (.int y158), .unset] [(.int y158), (.int (3 : Int32)), (.int na), (.ref y1), (.int ((((0 : Int32) + (own_bel gA na (0 : Int32) y158)) + (own_bel gA na (1 : Int32) y158)) + (own_bel gA na (2 : Int32) y158)))])) rfl (by rw [hml]; rfl) (argsL := [(.ref y1), (.int na), (.int (3 : Int32)), (.int y158)]) (rest := [(.int ((((0 : Int32) + (own_bel gA na (0 : Int32) y158)) + (own_bel gA na (1 : Int32) y158)) + (own_bel gA na (2 : Int32) y158)))]) (lenOf pd_2 rfl) rfl (by show 2 * 0 + _ ≤ _; exact Nat.le_of_eq rfl) (hb hby at_338) (fun _ _ => ⟨rfl, e161, (by decide : 6 + 0 ≤ _), (by decide : 41 + 0 ≤ _)⟩)
      dsimp only [Pt.U, Pt.locs, Pt.cells, Pt.slots] at X162 l162 y162 z162 st162 hQ162
      subst l162 y162 z162
      obtain ⟨rfl, N162q, e162⟩ := hQ162
      have N162 := Fr.app N161 N162q
      refine own_step st162 ?_
      show own_Fin p.tables e below _ (T162.setTop (mkF m 341 #[.val (.int w0), .val (.long q1), .second, .val (.long q2), .second, .val (.int w5), .val (.int w6), .val (.int na), .val (.int nb), .val (.int (0 : Int32)), .val (.ref y1), .val (.ref y3), .val (.ref b6), .val (.ref b87), .val (.ref b114), .val (.ref y1), .val (.int na), .val (.int (0 : Int32)), .val (.int kd), .val (.int y158), .unset] [(.int (own_bel gA na (3 : Int32) y158)), (.int ((((0 : Int32) + (own_bel gA na (0 : Int32) y158)) + (own_bel gA na (1 : Int32) y158)) + (own_bel gA na (2 : Int32) y158)))]))
      refine own_step (fun _ k => XS.iadd X162.here hx rfl (hb hby at_341) rfl k) ?_
      show own_Fin p.tables e below _ (T162.setTop (mkF m 342 #[.val (.int w0), .val (.long q1), .second, .val (.long q2), .second, .val (.int w5), .val (.int w6), .val (.int na), .val (.int nb), .val (.int (0 : Int32)), .val (.ref y1), .val (.ref y3), .val (.ref b6), .val (.ref b87), .val (.ref b114), .val (.ref y1), .val (.int na), .val (.int (0 : Int32)), .val (.int kd), .val (.int y158), .unset] [(.int (((((0 : Int32) + (own_bel gA na (0 : Int32) y158)) + (own_bel gA na (1 : Int32) y158)) + (own_bel gA na (2 : Int32) y158)) + (own_bel gA na (3 : Int32) y158)))]))
      refine own_step (fun _ k => XS.aload X162.here hx rfl (hb hby at_342) rfl rfl k) ?_
      show own_Fin p.tables e below _ (T162.setTop (mkF m 344 #[.val (.int w0), .val (.long q1), .second, .val (.long q2), .second, .val (.int w5), .val (.int w6), .val (.int na), .val (.int nb), .val (.int (0 : Int32)), .val (.ref y1), .val (.ref y3), .val (.ref b6), .val (.ref b87), .val (.ref b114), .val (.ref y1), .val (.int na), .val (.int (0 : Int32)), .val (.int kd), .val (.int y158), .unset] [(.ref y1), (.int (((((0 : Int32) + (own_bel gA na (0 : Int32) y158)) + (own_bel gA na (1 : Int32) y158)) + (own_bel gA na (2 : Int32) y158)) + (own_bel gA na (3 : Int32) y158)))]))
      refine own_step (fun _ k => XS.iload X162.here hx rfl (hb hby at_344) rfl k) ?_
      show own_Fin p.tables e below _ (T162.setTop (mkF m 346 #[.val (.int w0), .val (.long q1), .second, .val (.long q2), .second, .val (.int w5), .val (.int w6), .val (.int na), .val (.int nb), .val (.int (0 : Int32)), .val (.ref y1), .val (.ref y3), .val (.ref b6), .val (.ref b87), .val (.ref b114), .val (.ref y1), .val (.int na), .val (.int (0 : Int32)), .val (.int kd), .val (.int y158), .unset] [(.int na), (.ref y1), (.int (((((0 : Int32) + (own_bel gA na (0 : Int32) y158)) + (own_bel gA na (1 : Int32) y158)) + (own_bel gA na (2 : Int32) y158)) + (own_bel gA na (3 : Int32) y158)))]))
      refine own_step (fun _ k => XS.iconst X162.here hx rfl (hb hby at_346) k) ?_
      show own_Fin p.tables e below _ (T162.setTop (mkF m 347 #[.val (.int w0), .val (.long q1), .second, .val (.long q2), .second, .val (.int w5), .val (.int w6), .val (.int na), .val (.int nb), .val (.int (0 : Int32)), .val (.ref y1), .val (.ref y3), .val (.ref b6), .val (.ref b87), .val (.ref b114), .val (.ref y1), .val (.int na), .val (.int (0 : Int32)), .val (.int kd), .val (.int y158), .unset] [(.int (4 : Int32)), (.int na), (.ref y1), (.int (((((0 : Int32) + (own_bel gA na (0 : Int32) y158)) + (own_bel gA na (1 : Int32) y158)) + (own_bel gA na (2 : Int32) y158)) + (own_bel gA na (3 : Int32) y158)))]))
      refine own_step (fun _ k => XS.iload X162.here hx rfl (hb hby at_347) rfl k) ?_
      show own_Fin p.tables e below _ (T162.setTop (mkF m 349 #[.val (.int w0), .val (.long q1), .second, .val (.long q2), .second, .val (.int w5), .val (.int w6), .val (.int na), .val (.int nb), .val (.int (0 : Int32)), .val (.ref y1), .val (.ref y3), .val (.ref b6), .val (.ref b87), .val (.ref b114), .val (.ref y1), .val (.int na), .val (.int (0 : Int32)), .val (.int kd), .val (.int y158), .unset] [(.int y158), (.int (4 : Int32)), (.int na), (.ref y1), (.int (((((0 : Int32) + (own_bel gA na (0 : Int32) y158)) + (own_bel gA na (1 : Int32) y158)) + (own_bel gA na (2 : Int32) y158)) + (own_bel gA na (3 : Int32) y158)))]))
      obtain ⟨_, _, ⟨T163, L163, k163, n163⟩, -, X163, ⟨Lc163, hQ163, l163, y163, z163⟩, st163⟩ := Jvm.LawKit.callS X162 hx (y := (⟨"com/example/fusewright/fusewright/runtime/SparseMatrixFirstAtOrAfterPinLaw", "below", "([IIII)I"⟩ : MethodName)) hown (mvT hZ (hw _ (List.mem_of_getElem? (i := 29) rfl))) (mvT hZ (hw _ (List.mem_of_getElem? (i := 30) rfl))) (mvT hZ (hw _ (List.mem_of_getElem? (i := 2) rfl))) (mvT hZ (hw _ (List.mem_of_getElem? (i := 31) rfl))) (by decide) (backOf (W := 1) (rm4 l Z a0 hw [] y1 na (4 : Int32) y158 gA T140.heap n0 f141 fA (by decide) (by decide)) hZ (hw _ (List.mem_of_getElem? (i := 31) rfl)) (hw _ (List.mem_of_getElem? (i := 2) rfl)) (by decide) (by decide)) (g := (mkF m 349 #[.val (.int w0), .val (.long q1), .second, .val (.long q2), .second, .val (.int w5), .val (.int w6), .val (.int na), .val (.int nb), .val (.int (0 : Int32)), .val (.ref y1), .val (.ref y3), .val (.ref b6), .val (.ref b87), .val (.ref b114), .val (.ref y1), .val (.int na), .val (.int (0 : Int32)), .val (.int kd), .val (.int y158), .unset] [(.int y158), (.int (4 : Int32)), (.int na), (.ref y1), (.int (((((0 : Int32) + (own_bel gA na (0 : Int32) y158)) + (own_bel gA na (1 : Int32) y158)) + (own_bel gA na (2 : Int32) y158)) + (own_bel gA na (3 : Int32) y158)))])) rfl (by rw [hml]; rfl) (argsL := [(.ref y1), (.int na), (.int (4 : Int32)), (.int y158)]) (rest := [(.int (((((0 : Int32) + (own_bel gA na (0 : Int32) y158)) + (own_bel gA na (1 : Int32) y158)) + (own_bel gA na (2 : Int32) y158)) + (own_bel gA na (3 : Int32) y158)))]) (lenOf pd_2 rfl) rfl (by show 2 * 0 + _ ≤ _; exact Nat.le_of_eq rfl) (hb hby at_349) (fun _ _ => ⟨rfl, e162, (by decide : 6 + 0 ≤ _), (by decide : 41 + 0 ≤ _)⟩)
      dsimp only [Pt.U, Pt.locs, Pt.cells, Pt.slots] at X163 l163 y163 z163 st163 hQ163
      subst l163 y163 z163
      obtain ⟨rfl, N163q, e163⟩ := hQ163
      have N163 := Fr.app N162 N163q
      refine own_step st163 ?_
      show own_Fin p.tables e below _ (T163.setTop (mkF m 352 #[.val (.int w0), .val (.long q1), .second, .val (.long q2), .second, .val (.int w5), .val (.int w6), .val (.int na), .val (.int nb), .val (.int (0 : Int32)), .val (.ref y1), .val (.ref y3), .val (.ref b6), .val (.ref b87), .val (.ref b114), .val (.ref y1), .val (.int na), .val (.int (0 : Int32)), .val (.int kd), .val (.int y158), .unset] [(.int (own_bel gA na (4 : Int32) y158)), (.int (((((0 : Int32) + (own_bel gA na (0 : Int32) y158)) + (own_bel gA na (1 : Int32) y158)) + (own_bel gA na (2 : Int32) y158)) + (own_bel gA na (3 : Int32) y158)))]))
      refine own_step (fun _ k => XS.iadd X163.here hx rfl (hb hby at_352) rfl k) ?_
      show own_Fin p.tables e below _ (T163.setTop (mkF m 353 #[.val (.int w0), .val (.long q1), .second, .val (.long q2), .second, .val (.int w5), .val (.int w6), .val (.int na), .val (.int nb), .val (.int (0 : Int32)), .val (.ref y1), .val (.ref y3), .val (.ref b6), .val (.ref b87), .val (.ref b114), .val (.ref y1), .val (.int na), .val (.int (0 : Int32)), .val (.int kd), .val (.int y158), .unset] [(.int ((((((0 : Int32) + (own_bel gA na (0 : Int32) y158)) + (own_bel gA na (1 : Int32) y158)) + (own_bel gA na (2 : Int32) y158)) + (own_bel gA na (3 : Int32) y158)) + (own_bel gA na (4 : Int32) y158)))]))
      refine own_step (fun _ k => XS.istore X163.here hx rfl (hb hby at_353) rfl (l' := #[.val (.int w0), .val (.long q1), .second, .val (.long q2), .second, .val (.int w5), .val (.int w6), .val (.int na), .val (.int nb), .val (.int (0 : Int32)), .val (.ref y1), .val (.ref y3), .val (.ref b6), .val (.ref b87), .val (.ref b114), .val (.ref y1), .val (.int na), .val (.int (0 : Int32)), .val (.int kd), .val (.int y158), .val (.int ((((((0 : Int32) + (own_bel gA na (0 : Int32) y158)) + (own_bel gA na (1 : Int32) y158)) + (own_bel gA na (2 : Int32) y158)) + (own_bel gA na (3 : Int32) y158)) + (own_bel gA na (4 : Int32) y158)))]) rfl k) ?_
      show own_Fin p.tables e below _ (T163.setTop (mkF m 355 #[.val (.int w0), .val (.long q1), .second, .val (.long q2), .second, .val (.int w5), .val (.int w6), .val (.int na), .val (.int nb), .val (.int (0 : Int32)), .val (.ref y1), .val (.ref y3), .val (.ref b6), .val (.ref b87), .val (.ref b114), .val (.ref y1), .val (.int na), .val (.int (0 : Int32)), .val (.int kd), .val (.int y158), .val (.int ((((((0 : Int32) + (own_bel gA na (0 : Int32) y158)) + (own_bel gA na (1 : Int32) y158)) + (own_bel gA na (2 : Int32) y158)) + (own_bel gA na (3 : Int32) y158)) + (own_bel gA na (4 : Int32) y158)))] []))
      refine own_step (fun _ k => XS.aload X163.here hx rfl (hb hby at_355) rfl rfl k) ?_
      show own_Fin p.tables e below _ (T163.setTop (mkF m 357 #[.val (.int w0), .val (.long q1), .second, .val (.long q2), .second, .val (.int w5), .val (.int w6), .val (.int na), .val (.int nb), .val (.int (0 : Int32)), .val (.ref y1), .val (.ref y3), .val (.ref b6), .val (.ref b87), .val (.ref b114), .val (.ref y1), .val (.int na), .val (.int (0 : Int32)), .val (.int kd), .val (.int y158), .val (.int ((((((0 : Int32) + (own_bel gA na (0 : Int32) y158)) + (own_bel gA na (1 : Int32) y158)) + (own_bel gA na (2 : Int32) y158)) + (own_bel gA na (3 : Int32) y158)) + (own_bel gA na (4 : Int32) y158)))] [(.ref b114)]))
      refine own_step (fun _ k => XS.iload X163.here hx rfl (hb hby at_357) rfl k) ?_
      show own_Fin p.tables e below _ (T163.setTop (mkF m 359 #[.val (.int w0), .val (.long q1), .second, .val (.long q2), .second, .val (.int w5), .val (.int w6), .val (.int na), .val (.int nb), .val (.int (0 : Int32)), .val (.ref y1), .val (.ref y3), .val (.ref b6), .val (.ref b87), .val (.ref b114), .val (.ref y1), .val (.int na), .val (.int (0 : Int32)), .val (.int kd), .val (.int y158), .val (.int ((((((0 : Int32) + (own_bel gA na (0 : Int32) y158)) + (own_bel gA na (1 : Int32) y158)) + (own_bel gA na (2 : Int32) y158)) + (own_bel gA na (3 : Int32) y158)) + (own_bel gA na (4 : Int32) y158)))] [(.int (0 : Int32)), (.ref b114)]))
      refine own_step (fun _ k => XS.iload X163.here hx rfl (hb hby at_359) rfl k) ?_
      show own_Fin p.tables e below _ (T163.setTop (mkF m 361 #[.val (.int w0), .val (.long q1), .second, .val (.long q2), .second, .val (.int w5), .val (.int w6), .val (.int na), .val (.int nb), .val (.int (0 : Int32)), .val (.ref y1), .val (.ref y3), .val (.ref b6), .val (.ref b87), .val (.ref b114), .val (.ref y1), .val (.int na), .val (.int (0 : Int32)), .val (.int kd), .val (.int y158), .val (.int ((((((0 : Int32) + (own_bel gA na (0 : Int32) y158)) + (own_bel gA na (1 : Int32) y158)) + (own_bel gA na (2 : Int32) y158)) + (own_bel gA na (3 : Int32) y158)) + (own_bel gA na (4 : Int32) y158)))] [(.int y158), (.int (0 : Int32)), (.ref b114)]))
      obtain ⟨gR, hgR⟩ : ∃ z : Nat → Int32, z = fun i => [(0 : Int32), na, (na + nb)].getD i 0 := ⟨_, rfl⟩
      have fR : own_Arf Z T140.heap b87 .int 3 (fun i => .int (gR i)) := by rw [hgR]; exact own_Arf.ofI f145 [(0 : Int32), na, (na + nb)] rfl rfl
      have hcf : ∀ k : Nat, (k : Int) < na.toInt → gC ((0 : Int32).toInt.toNat + k) = [ca0, ca1, ca2, ca3, ca4].getD k 0 := fun k hk => by rw [show (0 : Int32).toInt.toNat + k = k from Nat.zero_add k]; exact hlo k hk
      have hbd : na.toInt = (0 : Int32).toInt + na.toInt := (Int.zero_add _).symm
      have hsr : own_sorted gC (0 : Int32) na := own_srt ha1 ha2 ha3 ha4 (by decide) (by omega) hbd hcf
      obtain ⟨cq164, kq164, q164a, q164b, q164c⟩ := isOf hZ e163 fe140
      obtain ⟨_, _, ⟨T164, L164, k164, n164⟩, -, X164, ⟨Lc164, hQ164, l164, y164, z164⟩, st164⟩ := X163.virtualBack hx (y := (⟨"com/example/fusewright/fusewright/runtime/SparseMatrix", "firstAtOrAfter", "(II)I"⟩ : MethodName)) (z := (⟨"com/example/fusewright/fusewright/runtime/SparseMatrix", "firstAtOrAfter", "(II)I"⟩ : MethodName)) hown (mvT hZ (hw _ (List.mem_of_getElem? (i := 32) rfl))) (mvT hZ (hw _ (List.mem_of_getElem? (i := 33) rfl))) (notFace_of_selects (args := #[]) (mvT hZ (hw _ (List.mem_of_getElem? (i := 35) rfl)))) (mvT hZ (hw _ (List.mem_of_getElem? (i := 35) rfl))) (mvT hZ (hw _ (List.mem_of_getElem? (i := 34) rfl))) (by decide) (backOf (W := 0) (rm5 l Z a0 hw [] b114 (0 : Int32) y158 b87 b6 gR gC (0 : Int32) na T140.heap n0 f141 fs140_2 fs140_3 fR f144 (by decide) (by decide) (by rw [hgR]; rfl) (by rw [hgR]; rfl) (by decide) (by show (0 : Int) ≤ _; omega) (by omega) hsr) hZ (hw _ (List.mem_of_getElem? (i := 36) rfl)) (hw _ (List.mem_of_getElem? (i := 9) rfl)) (by decide) (by decide)) q164a q164c (g := (mkF m 361 #[.val (.int w0), .val (.long q1), .second, .val (.long q2), .second, .val (.int w5), .val (.int w6), .val (.int na), .val (.int nb), .val (.int (0 : Int32)), .val (.ref y1), .val (.ref y3), .val (.ref b6), .val (.ref b87), .val (.ref b114), .val (.ref y1), .val (.int na), .val (.int (0 : Int32)), .val (.int kd), .val (.int y158), .val (.int ((((((0 : Int32) + (own_bel gA na (0 : Int32) y158)) + (own_bel gA na (1 : Int32) y158)) + (own_bel gA na (2 : Int32) y158)) + (own_bel gA na (3 : Int32) y158)) + (own_bel gA na (4 : Int32) y158)))] [(.int y158), (.int (0 : Int32)), (.ref b114)])) rfl (by rw [hml]; rfl) (Steps.refl _) (argsL := [(.int (0 : Int32)), (.int y158)]) (rest := []) (lenOf pd_3 rfl) rfl (by show 2 * 0 + _ ≤ _; exact Nat.le_of_eq rfl) (hb hby at_361) (fun _ _ => ⟨rfl, e163, (by decide : 6 + 0 ≤ _), (by decide : 41 + 0 ≤ _)⟩)
      dsimp only [Pt.U, Pt.locs, Pt.cells, Pt.slots] at X164 l164 y164 z164 st164 hQ164
      subst l164 y164 z164
      obtain ⟨res, rfl, N164q, e164, hv1, hv2, hv3, hv4⟩ := hQ164
      have N164 := Fr.app N163 N164q
      refine own_steps st164 ?_
      show own_Fin p.tables e below _ (T164.setTop (mkF m 364 #[.val (.int w0), .val (.long q1), .second, .val (.long q2), .second, .val (.int w5), .val (.int w6), .val (.int na), .val (.int nb), .val (.int (0 : Int32)), .val (.ref y1), .val (.ref y3), .val (.ref b6), .val (.ref b87), .val (.ref b114), .val (.ref y1), .val (.int na), .val (.int (0 : Int32)), .val (.int kd), .val (.int y158), .val (.int ((((((0 : Int32) + (own_bel gA na (0 : Int32) y158)) + (own_bel gA na (1 : Int32) y158)) + (own_bel gA na (2 : Int32) y158)) + (own_bel gA na (3 : Int32) y158)) + (own_bel gA na (4 : Int32) y158)))] [(.int res)]))
      refine own_step (fun _ k => XS.iload X164.here hx rfl (hb hby at_364) rfl k) ?_
      show own_Fin p.tables e below _ (T164.setTop (mkF m 366 #[.val (.int w0), .val (.long q1), .second, .val (.long q2), .second, .val (.int w5), .val (.int w6), .val (.int na), .val (.int nb), .val (.int (0 : Int32)), .val (.ref y1), .val (.ref y3), .val (.ref b6), .val (.ref b87), .val (.ref b114), .val (.ref y1), .val (.int na), .val (.int (0 : Int32)), .val (.int kd), .val (.int y158), .val (.int ((((((0 : Int32) + (own_bel gA na (0 : Int32) y158)) + (own_bel gA na (1 : Int32) y158)) + (own_bel gA na (2 : Int32) y158)) + (own_bel gA na (3 : Int32) y158)) + (own_bel gA na (4 : Int32) y158)))] [(.int ((((((0 : Int32) + (own_bel gA na (0 : Int32) y158)) + (own_bel gA na (1 : Int32) y158)) + (own_bel gA na (2 : Int32) y158)) + (own_bel gA na (3 : Int32) y158)) + (own_bel gA na (4 : Int32) y158))), (.int res)]))
      have ha165 : res = ((((((0 : Int32) + (own_bel gA na (0 : Int32) y158)) + (own_bel gA na (1 : Int32) y158)) + (own_bel gA na (2 : Int32) y158)) + (own_bel gA na (3 : Int32) y158)) + (own_bel gA na (4 : Int32) y158)) := by
        exact own_sum (bd := na) (cf := gC) (by decide) (by decide) (by omega) (by omega) hbd hv1 hv2 (by rw [hgA]; exact hcf) hv3 hv4
      refine own_step (fun _ k => XS.icmpNo X164.here hx rfl (hb hby at_366) rfl ((teq ha165).2) k) ?_
      show own_Fin p.tables e below _ (T164.setTop (mkF m 369 #[.val (.int w0), .val (.long q1), .second, .val (.long q2), .second, .val (.int w5), .val (.int w6), .val (.int na), .val (.int nb), .val (.int (0 : Int32)), .val (.ref y1), .val (.ref y3), .val (.ref b6), .val (.ref b87), .val (.ref b114), .val (.ref y1), .val (.int na), .val (.int (0 : Int32)), .val (.int kd), .val (.int y158), .val (.int ((((((0 : Int32) + (own_bel gA na (0 : Int32) y158)) + (own_bel gA na (1 : Int32) y158)) + (own_bel gA na (2 : Int32) y158)) + (own_bel gA na (3 : Int32) y158)) + (own_bel gA na (4 : Int32) y158)))] []))
      refine own_step (fun _ k => XS.iconst X164.here hx rfl (hb hby at_369) k) ?_
      show own_Fin p.tables e below _ (T164.setTop (mkF m 370 #[.val (.int w0), .val (.long q1), .second, .val (.long q2), .second, .val (.int w5), .val (.int w6), .val (.int na), .val (.int nb), .val (.int (0 : Int32)), .val (.ref y1), .val (.ref y3), .val (.ref b6), .val (.ref b87), .val (.ref b114), .val (.ref y1), .val (.int na), .val (.int (0 : Int32)), .val (.int kd), .val (.int y158), .val (.int ((((((0 : Int32) + (own_bel gA na (0 : Int32) y158)) + (own_bel gA na (1 : Int32) y158)) + (own_bel gA na (2 : Int32) y158)) + (own_bel gA na (3 : Int32) y158)) + (own_bel gA na (4 : Int32) y158)))] [(.int (1 : Int32))]))
      refine own_step (fun _ k => XS.goto X164.here hx rfl (pc0 := 370) (pc' := 374) rfl (hb hby at_370) (by decide) (by decide) k) ?_
      show own_Fin p.tables e below _ (T164.setTop (mkF m 374 #[.val (.int w0), .val (.long q1), .second, .val (.long q2), .second, .val (.int w5), .val (.int w6), .val (.int na), .val (.int nb), .val (.int (0 : Int32)), .val (.ref y1), .val (.ref y3), .val (.ref b6), .val (.ref b87), .val (.ref b114), .val (.ref y1), .val (.int na), .val (.int (0 : Int32)), .val (.int kd), .val (.int y158), .val (.int ((((((0 : Int32) + (own_bel gA na (0 : Int32) y158)) + (own_bel gA na (1 : Int32) y158)) + (own_bel gA na (2 : Int32) y158)) + (own_bel gA na (3 : Int32) y158)) + (own_bel gA na (4 : Int32) y158)))] [(.int (1 : Int32))]))
      obtain ⟨fs166, hr166, hrun166, hended166, hW166, hsame166⟩ := X164.leave (v := some (.int (nar .boolean (1 : Int32)))) (fun h => by rw [Bd.returns] at h; cases h)
      refine own_ret (retN X164 hx (t := .boolean) Bd.returns (by simp) (hb hby at_374) hr166) hrun166 hended166 ?_
      refine ⟨_, _, rfl, ?_, ⟨_, rfl⟩, hW166, hsame166.mono (by decide) (by decide)⟩
      show Q0 Z w0 q1 q2 w5 w6 h0 n0 _ T164.heap _
      rw [e164]
      exact ⟨rfl, N164⟩
    by_cases hc155 : na = (0 : Int32)
    · refine own_step (fun _ k => XS.ifYes X140.here hx rfl (pc0 := 243) (pc' := 252) rfl (hb hby at_243) rfl ((if0 _ _).trans (teq hc155).1) (by decide) (by decide) k) ?_
      show own_Fin p.tables e below _ (T140.setTop (mkF m 252 #[.val (.int w0), .val (.long q1), .second, .val (.long q2), .second, .val (.int w5), .val (.int w6), .val (.int na), .val (.int nb), .val (.int (0 : Int32)), .val (.ref y1), .val (.ref y3), .val (.ref b6), .val (.ref b87), .val (.ref b114), .val (.ref y1), .val (.int na), .val (.int (0 : Int32)), .val (.int kd), .unset, .unset] []))
      refine own_step (fun _ k => XS.iload X140.here hx rfl (hb hby at_252) rfl k) ?_
      show own_Fin p.tables e below _ (T140.setTop (mkF m 254 #[.val (.int w0), .val (.long q1), .second, .val (.long q2), .second, .val (.int w5), .val (.int w6), .val (.int na), .val (.int nb), .val (.int (0 : Int32)), .val (.ref y1), .val (.ref y3), .val (.ref b6), .val (.ref b87), .val (.ref b114), .val (.ref y1), .val (.int na), .val (.int (0 : Int32)), .val (.int kd), .unset, .unset] [(.int w6)]))
      refine own_step (fun _ k => XS.istore X140.here hx rfl (hb hby at_254) rfl (l' := #[.val (.int w0), .val (.long q1), .second, .val (.long q2), .second, .val (.int w5), .val (.int w6), .val (.int na), .val (.int nb), .val (.int (0 : Int32)), .val (.ref y1), .val (.ref y3), .val (.ref b6), .val (.ref b87), .val (.ref b114), .val (.ref y1), .val (.int na), .val (.int (0 : Int32)), .val (.int kd), .val (.int w6), .unset]) rfl k) ?_
      show own_Fin p.tables e below _ (T140.setTop (mkF m 256 #[.val (.int w0), .val (.long q1), .second, .val (.long q2), .second, .val (.int w5), .val (.int w6), .val (.int na), .val (.int nb), .val (.int (0 : Int32)), .val (.ref y1), .val (.ref y3), .val (.ref b6), .val (.ref b87), .val (.ref b114), .val (.ref y1), .val (.int na), .val (.int (0 : Int32)), .val (.int kd), .val (.int w6), .unset] []))
      refine own_step (fun _ k => XS.goto X140.here hx rfl (pc0 := 256) (pc' := 296) rfl (hb hby at_256) (by decide) (by decide) k) ?_
      show own_Fin p.tables e below _ (T140.setTop (mkF m 296 #[.val (.int w0), .val (.long q1), .second, .val (.long q2), .second, .val (.int w5), .val (.int w6), .val (.int na), .val (.int nb), .val (.int (0 : Int32)), .val (.ref y1), .val (.ref y3), .val (.ref b6), .val (.ref b87), .val (.ref b114), .val (.ref y1), .val (.int na), .val (.int (0 : Int32)), .val (.int kd), .val (.int w6), .unset] []))
      exact J156 T140 _ w6 X140 rfl N140 (by rw [if_pos hc155])
    · refine own_step (fun _ k => XS.ifNo X140.here hx rfl (hb hby at_243) rfl ((if0 _ _).trans (feq hc155).1) k) ?_
      show own_Fin p.tables e below _ (T140.setTop (mkF m 246 #[.val (.int w0), .val (.long q1), .second, .val (.long q2), .second, .val (.int w5), .val (.int w6), .val (.int na), .val (.int nb), .val (.int (0 : Int32)), .val (.ref y1), .val (.ref y3), .val (.ref b6), .val (.ref b87), .val (.ref b114), .val (.ref y1), .val (.int na), .val (.int (0 : Int32)), .val (.int kd), .unset, .unset] []))
      refine own_step (fun _ k => XS.iload X140.here hx rfl (hb hby at_246) rfl k) ?_
      show own_Fin p.tables e below _ (T140.setTop (mkF m 248 #[.val (.int w0), .val (.long q1), .second, .val (.long q2), .second, .val (.int w5), .val (.int w6), .val (.int na), .val (.int nb), .val (.int (0 : Int32)), .val (.ref y1), .val (.ref y3), .val (.ref b6), .val (.ref b87), .val (.ref b114), .val (.ref y1), .val (.int na), .val (.int (0 : Int32)), .val (.int kd), .unset, .unset] [(.int kd)]))
      refine own_step (fun _ k => XS.iconst X140.here hx rfl (hb hby at_248) k) ?_
      show own_Fin p.tables e below _ (T140.setTop (mkF m 249 #[.val (.int w0), .val (.long q1), .second, .val (.long q2), .second, .val (.int w5), .val (.int w6), .val (.int na), .val (.int nb), .val (.int (0 : Int32)), .val (.ref y1), .val (.ref y3), .val (.ref b6), .val (.ref b87), .val (.ref b114), .val (.ref y1), .val (.int na), .val (.int (0 : Int32)), .val (.int kd), .unset, .unset] [(.int (3 : Int32)), (.int kd)]))
      by_cases hc167 : (3 : Int32) < kd
      · refine own_step (fun _ k => XS.icmpNo X140.here hx rfl (hb hby at_249) rfl ((tlt hc167).2.2.2) k) ?_
        show own_Fin p.tables e below _ (T140.setTop (mkF m 252 #[.val (.int w0), .val (.long q1), .second, .val (.long q2), .second, .val (.int w5), .val (.int w6), .val (.int na), .val (.int nb), .val (.int (0 : Int32)), .val (.ref y1), .val (.ref y3), .val (.ref b6), .val (.ref b87), .val (.ref b114), .val (.ref y1), .val (.int na), .val (.int (0 : Int32)), .val (.int kd), .unset, .unset] []))
        refine own_step (fun _ k => XS.iload X140.here hx rfl (hb hby at_252) rfl k) ?_
        show own_Fin p.tables e below _ (T140.setTop (mkF m 254 #[.val (.int w0), .val (.long q1), .second, .val (.long q2), .second, .val (.int w5), .val (.int w6), .val (.int na), .val (.int nb), .val (.int (0 : Int32)), .val (.ref y1), .val (.ref y3), .val (.ref b6), .val (.ref b87), .val (.ref b114), .val (.ref y1), .val (.int na), .val (.int (0 : Int32)), .val (.int kd), .unset, .unset] [(.int w6)]))
        refine own_step (fun _ k => XS.istore X140.here hx rfl (hb hby at_254) rfl (l' := #[.val (.int w0), .val (.long q1), .second, .val (.long q2), .second, .val (.int w5), .val (.int w6), .val (.int na), .val (.int nb), .val (.int (0 : Int32)), .val (.ref y1), .val (.ref y3), .val (.ref b6), .val (.ref b87), .val (.ref b114), .val (.ref y1), .val (.int na), .val (.int (0 : Int32)), .val (.int kd), .val (.int w6), .unset]) rfl k) ?_
        show own_Fin p.tables e below _ (T140.setTop (mkF m 256 #[.val (.int w0), .val (.long q1), .second, .val (.long q2), .second, .val (.int w5), .val (.int w6), .val (.int na), .val (.int nb), .val (.int (0 : Int32)), .val (.ref y1), .val (.ref y3), .val (.ref b6), .val (.ref b87), .val (.ref b114), .val (.ref y1), .val (.int na), .val (.int (0 : Int32)), .val (.int kd), .val (.int w6), .unset] []))
        refine own_step (fun _ k => XS.goto X140.here hx rfl (pc0 := 256) (pc' := 296) rfl (hb hby at_256) (by decide) (by decide) k) ?_
        show own_Fin p.tables e below _ (T140.setTop (mkF m 296 #[.val (.int w0), .val (.long q1), .second, .val (.long q2), .second, .val (.int w5), .val (.int w6), .val (.int na), .val (.int nb), .val (.int (0 : Int32)), .val (.ref y1), .val (.ref y3), .val (.ref b6), .val (.ref b87), .val (.ref b114), .val (.ref y1), .val (.int na), .val (.int (0 : Int32)), .val (.int kd), .val (.int w6), .unset] []))
        exact J156 T140 _ w6 X140 rfl N140 (by rw [if_neg hc155, if_pos hc167])
      · refine own_step (fun _ k => XS.icmpYes X140.here hx rfl (pc0 := 249) (pc' := 259) rfl (hb hby at_249) rfl ((flt hc167).2.2.2) (by decide) (by decide) k) ?_
        show own_Fin p.tables e below _ (T140.setTop (mkF m 259 #[.val (.int w0), .val (.long q1), .second, .val (.long q2), .second, .val (.int w5), .val (.int w6), .val (.int na), .val (.int nb), .val (.int (0 : Int32)), .val (.ref y1), .val (.ref y3), .val (.ref b6), .val (.ref b87), .val (.ref b114), .val (.ref y1), .val (.int na), .val (.int (0 : Int32)), .val (.int kd), .unset, .unset] []))
        refine own_step (fun _ k => XS.iload X140.here hx rfl (hb hby at_259) rfl k) ?_
        show own_Fin p.tables e below _ (T140.setTop (mkF m 261 #[.val (.int w0), .val (.long q1), .second, .val (.long q2), .second, .val (.int w5), .val (.int w6), .val (.int na), .val (.int nb), .val (.int (0 : Int32)), .val (.ref y1), .val (.ref y3), .val (.ref b6), .val (.ref b87), .val (.ref b114), .val (.ref y1), .val (.int na), .val (.int (0 : Int32)), .val (.int kd), .unset, .unset] [(.int kd)]))
        refine own_step (fun _ k => XS.iconst X140.here hx rfl (hb hby at_261) k) ?_
        show own_Fin p.tables e below _ (T140.setTop (mkF m 262 #[.val (.int w0), .val (.long q1), .second, .val (.long q2), .second, .val (.int w5), .val (.int w6), .val (.int na), .val (.int nb), .val (.int (0 : Int32)), .val (.ref y1), .val (.ref y3), .val (.ref b6), .val (.ref b87), .val (.ref b114), .val (.ref y1), .val (.int na), .val (.int (0 : Int32)), .val (.int kd), .unset, .unset] [(.int (3 : Int32)), (.int kd)]))
        by_cases hc168 : kd = (3 : Int32)
        · refine own_step (fun _ k => XS.icmpNo X140.here hx rfl (hb hby at_262) rfl ((teq hc168).2) k) ?_
          show own_Fin p.tables e below _ (T140.setTop (mkF m 265 #[.val (.int w0), .val (.long q1), .second, .val (.long q2), .second, .val (.int w5), .val (.int w6), .val (.int na), .val (.int nb), .val (.int (0 : Int32)), .val (.ref y1), .val (.ref y3), .val (.ref b6), .val (.ref b87), .val (.ref b114), .val (.ref y1), .val (.int na), .val (.int (0 : Int32)), .val (.int kd), .unset, .unset] []))
          refine own_step (fun _ k => XS.iload X140.here hx rfl (hb hby at_265) rfl k) ?_
          show own_Fin p.tables e below _ (T140.setTop (mkF m 267 #[.val (.int w0), .val (.long q1), .second, .val (.long q2), .second, .val (.int w5), .val (.int w6), .val (.int na), .val (.int nb), .val (.int (0 : Int32)), .val (.ref y1), .val (.ref y3), .val (.ref b6), .val (.ref b87), .val (.ref b114), .val (.ref y1), .val (.int na), .val (.int (0 : Int32)), .val (.int kd), .unset, .unset] [(.int w6)]))
          refine own_step (fun _ k => XS.sipush X140.here hx rfl (hb hby at_267) k) ?_
          show own_Fin p.tables e below _ (T140.setTop (mkF m 270 #[.val (.int w0), .val (.long q1), .second, .val (.long q2), .second, .val (.int w5), .val (.int w6), .val (.int na), .val (.int nb), .val (.int (0 : Int32)), .val (.ref y1), .val (.ref y3), .val (.ref b6), .val (.ref b87), .val (.ref b114), .val (.ref y1), .val (.int na), .val (.int (0 : Int32)), .val (.int kd), .unset, .unset] [(.int (2047 : Int32)), (.int w6)]))
          refine own_step (fun _ k => XS.iand X140.here hx rfl (hb hby at_270) rfl k) ?_
          show own_Fin p.tables e below _ (T140.setTop (mkF m 271 #[.val (.int w0), .val (.long q1), .second, .val (.long q2), .second, .val (.int w5), .val (.int w6), .val (.int na), .val (.int nb), .val (.int (0 : Int32)), .val (.ref y1), .val (.ref y3), .val (.ref b6), .val (.ref b87), .val (.ref b114), .val (.ref y1), .val (.int na), .val (.int (0 : Int32)), .val (.int kd), .unset, .unset] [(.int (w6 &&& (2047 : Int32)))]))
          refine own_step (fun _ k => XS.istore X140.here hx rfl (hb hby at_271) rfl (l' := #[.val (.int w0), .val (.long q1), .second, .val (.long q2), .second, .val (.int w5), .val (.int w6), .val (.int na), .val (.int nb), .val (.int (0 : Int32)), .val (.ref y1), .val (.ref y3), .val (.ref b6), .val (.ref b87), .val (.ref b114), .val (.ref y1), .val (.int na), .val (.int (0 : Int32)), .val (.int kd), .val (.int (w6 &&& (2047 : Int32))), .unset]) rfl k) ?_
          show own_Fin p.tables e below _ (T140.setTop (mkF m 273 #[.val (.int w0), .val (.long q1), .second, .val (.long q2), .second, .val (.int w5), .val (.int w6), .val (.int na), .val (.int nb), .val (.int (0 : Int32)), .val (.ref y1), .val (.ref y3), .val (.ref b6), .val (.ref b87), .val (.ref b114), .val (.ref y1), .val (.int na), .val (.int (0 : Int32)), .val (.int kd), .val (.int (w6 &&& (2047 : Int32))), .unset] []))
          refine own_step (fun _ k => XS.goto X140.here hx rfl (pc0 := 273) (pc' := 296) rfl (hb hby at_273) (by decide) (by decide) k) ?_
          show own_Fin p.tables e below _ (T140.setTop (mkF m 296 #[.val (.int w0), .val (.long q1), .second, .val (.long q2), .second, .val (.int w5), .val (.int w6), .val (.int na), .val (.int nb), .val (.int (0 : Int32)), .val (.ref y1), .val (.ref y3), .val (.ref b6), .val (.ref b87), .val (.ref b114), .val (.ref y1), .val (.int na), .val (.int (0 : Int32)), .val (.int kd), .val (.int (w6 &&& (2047 : Int32))), .unset] []))
          exact J156 T140 _ (w6 &&& (2047 : Int32)) X140 rfl N140 (by rw [if_neg hc155, if_neg hc167, if_pos hc168])
        · refine own_step (fun _ k => XS.icmpYes X140.here hx rfl (pc0 := 262) (pc' := 276) rfl (hb hby at_262) rfl ((feq hc168).2) (by decide) (by decide) k) ?_
          show own_Fin p.tables e below _ (T140.setTop (mkF m 276 #[.val (.int w0), .val (.long q1), .second, .val (.long q2), .second, .val (.int w5), .val (.int w6), .val (.int na), .val (.int nb), .val (.int (0 : Int32)), .val (.ref y1), .val (.ref y3), .val (.ref b6), .val (.ref b87), .val (.ref b114), .val (.ref y1), .val (.int na), .val (.int (0 : Int32)), .val (.int kd), .unset, .unset] []))
          refine own_step (fun _ k => XS.aload X140.here hx rfl (hb hby at_276) rfl rfl k) ?_
          show own_Fin p.tables e below _ (T140.setTop (mkF m 278 #[.val (.int w0), .val (.long q1), .second, .val (.long q2), .second, .val (.int w5), .val (.int w6), .val (.int na), .val (.int nb), .val (.int (0 : Int32)), .val (.ref y1), .val (.ref y3), .val (.ref b6), .val (.ref b87), .val (.ref b114), .val (.ref y1), .val (.int na), .val (.int (0 : Int32)), .val (.int kd), .unset, .unset] [(.ref y1)]))
          refine own_step (fun _ k => XS.iload X140.here hx rfl (hb hby at_278) rfl k) ?_
          show own_Fin p.tables e below _ (T140.setTop (mkF m 280 #[.val (.int w0), .val (.long q1), .second, .val (.long q2), .second, .val (.int w5), .val (.int w6), .val (.int na), .val (.int nb), .val (.int (0 : Int32)), .val (.ref y1), .val (.ref y3), .val (.ref b6), .val (.ref b87), .val (.ref b114), .val (.ref y1), .val (.int na), .val (.int (0 : Int32)), .val (.int kd), .unset, .unset] [(.int w5), (.ref y1)]))
          refine own_step (fun _ k => XS.iconst X140.here hx rfl (hb hby at_280) k) ?_
          show own_Fin p.tables e below _ (T140.setTop (mkF m 281 #[.val (.int w0), .val (.long q1), .second, .val (.long q2), .second, .val (.int w5), .val (.int w6), .val (.int na), .val (.int nb), .val (.int (0 : Int32)), .val (.ref y1), .val (.ref y3), .val (.ref b6), .val (.ref b87), .val (.ref b114), .val (.ref y1), .val (.int na), .val (.int (0 : Int32)), .val (.int kd), .unset, .unset] [(.int (3 : Int32)), (.int w5), (.ref y1)]))
          refine own_step (fun _ k => XS.iushr X140.here hx rfl (hb hby at_281) rfl k) ?_
          show own_Fin p.tables e below _ (T140.setTop (mkF m 282 #[.val (.int w0), .val (.long q1), .second, .val (.long q2), .second, .val (.int w5), .val (.int w6), .val (.int na), .val (.int nb), .val (.int (0 : Int32)), .val (.ref y1), .val (.ref y3), .val (.ref b6), .val (.ref b87), .val (.ref b114), .val (.ref y1), .val (.int na), .val (.int (0 : Int32)), .val (.int kd), .unset, .unset] [(.int ((w5.toUInt32 >>> ((3 : Int32) &&& 31).toUInt32).toInt32)), (.ref y1)]))
          refine own_step (fun _ k => XS.bipush X140.here hx rfl (hb hby at_282) k) ?_
          show own_Fin p.tables e below _ (T140.setTop (mkF m 284 #[.val (.int w0), .val (.long q1), .second, .val (.long q2), .second, .val (.int w5), .val (.int w6), .val (.int na), .val (.int nb), .val (.int (0 : Int32)), .val (.ref y1), .val (.ref y3), .val (.ref b6), .val (.ref b87), .val (.ref b114), .val (.ref y1), .val (.int na), .val (.int (0 : Int32)), .val (.int kd), .unset, .unset] [(.int (7 : Int32)), (.int ((w5.toUInt32 >>> ((3 : Int32) &&& 31).toUInt32).toInt32)), (.ref y1)]))
          refine own_step (fun _ k => XS.iand X140.here hx rfl (hb hby at_284) rfl k) ?_
          show own_Fin p.tables e below _ (T140.setTop (mkF m 285 #[.val (.int w0), .val (.long q1), .second, .val (.long q2), .second, .val (.int w5), .val (.int w6), .val (.int na), .val (.int nb), .val (.int (0 : Int32)), .val (.ref y1), .val (.ref y3), .val (.ref b6), .val (.ref b87), .val (.ref b114), .val (.ref y1), .val (.int na), .val (.int (0 : Int32)), .val (.int kd), .unset, .unset] [(.int (((w5.toUInt32 >>> ((3 : Int32) &&& 31).toUInt32).toInt32) &&& (7 : Int32))), (.ref y1)]))
          refine own_step (fun _ k => XS.iload X140.here hx rfl (hb hby at_285) rfl k) ?_
          show own_Fin p.tables e below _ (T140.setTop (mkF m 287 #[.val (.int w0), .val (.long q1), .second, .val (.long q2), .second, .val (.int w5), .val (.int w6), .val (.int na), .val (.int nb), .val (.int (0 : Int32)), .val (.ref y1), .val (.ref y3), .val (.ref b6), .val (.ref b87), .val (.ref b114), .val (.ref y1), .val (.int na), .val (.int (0 : Int32)), .val (.int kd), .unset, .unset] [(.int na), (.int (((w5.toUInt32 >>> ((3 : Int32) &&& 31).toUInt32).toInt32) &&& (7 : Int32))), (.ref y1)]))
          refine own_step (fun _ k => XS.irem X140.here hx rfl (hb hby at_287) rfl hc155 k) ?_
          show own_Fin p.tables e below _ (T140.setTop (mkF m 288 #[.val (.int w0), .val (.long q1), .second, .val (.long q2), .second, .val (.int w5), .val (.int w6), .val (.int na), .val (.int nb), .val (.int (0 : Int32)), .val (.ref y1), .val (.ref y3), .val (.ref b6), .val (.ref b87), .val (.ref b114), .val (.ref y1), .val (.int na), .val (.int (0 : Int32)), .val (.int kd), .unset, .unset] [(.int ((((w5.toUInt32 >>> ((3 : Int32) &&& 31).toUInt32).toInt32) &&& (7 : Int32)) - ((((w5.toUInt32 >>> ((3 : Int32) &&& 31).toUInt32).toInt32) &&& (7 : Int32)) / na) * na)), (.ref y1)]))
          have hj288 := own_rem (x := (((w5.toUInt32 >>> ((3 : Int32) &&& 31).toUInt32).toInt32) &&& (7 : Int32))) (y := na) (c_and _ 7 (by decide)).1 (own_p0 hc155 (by omega))
          obtain ⟨cl169, Ar169, S169, H169⟩ := id fA
          have hin169 : ¬ (((((w5.toUInt32 >>> ((3 : Int32) &&& 31).toUInt32).toInt32) &&& (7 : Int32)) - ((((w5.toUInt32 >>> ((3 : Int32) &&& 31).toUInt32).toInt32) &&& (7 : Int32)) / na) * na) < 0 ∨ cl169.slots.size ≤ (((((w5.toUInt32 >>> ((3 : Int32) &&& 31).toUInt32).toInt32) &&& (7 : Int32)) - ((((w5.toUInt32 >>> ((3 : Int32) &&& 31).toUInt32).toInt32) &&& (7 : Int32)) / na) * na)).toNatClampNeg) := own_in S169 ⟨hj288.1, by have := hj288.2; omega⟩
          refine own_step (X140.iaload hx (j := ((((w5.toUInt32 >>> ((3 : Int32) &&& 31).toUInt32).toInt32) &&& (7 : Int32)) - ((((w5.toUInt32 >>> ((3 : Int32) &&& 31).toUInt32).toInt32) &&& (7 : Int32)) / na) * na)) (v := (.int (gA (((((w5.toUInt32 >>> ((3 : Int32) &&& 31).toUInt32).toInt32) &&& (7 : Int32)) - ((((w5.toUInt32 >>> ((3 : Int32) &&& 31).toUInt32).toInt32) &&& (7 : Int32)) / na) * na)).toNatClampNeg))) (by first | exact Ar169.1 | (rw [rfl]; exact Ar169.1)) (State.isArrayOf_alike hZ.alike Ar169.2.1) Ar169.2.2 hin169 (H169 _ (own_in2 ⟨hj288.1, by have := hj288.2; omega⟩)) (g := (mkF m 288 #[.val (.int w0), .val (.long q1), .second, .val (.long q2), .second, .val (.int w5), .val (.int w6), .val (.int na), .val (.int nb), .val (.int (0 : Int32)), .val (.ref y1), .val (.ref y3), .val (.ref b6), .val (.ref b87), .val (.ref b114), .val (.ref y1), .val (.int na), .val (.int (0 : Int32)), .val (.int kd), .unset, .unset] [(.int ((((w5.toUInt32 >>> ((3 : Int32) &&& 31).toUInt32).toInt32) &&& (7 : Int32)) - ((((w5.toUInt32 >>> ((3 : Int32) &&& 31).toUInt32).toInt32) &&& (7 : Int32)) / na) * na)), (.ref y1)])) rfl rfl (hb hby at_288)) ?_
          show own_Fin p.tables e below _ (T140.setTop (mkF m 289 #[.val (.int w0), .val (.long q1), .second, .val (.long q2), .second, .val (.int w5), .val (.int w6), .val (.int na), .val (.int nb), .val (.int (0 : Int32)), .val (.ref y1), .val (.ref y3), .val (.ref b6), .val (.ref b87), .val (.ref b114), .val (.ref y1), .val (.int na), .val (.int (0 : Int32)), .val (.int kd), .unset, .unset] [(.int (gA (((((w5.toUInt32 >>> ((3 : Int32) &&& 31).toUInt32).toInt32) &&& (7 : Int32)) - ((((w5.toUInt32 >>> ((3 : Int32) &&& 31).toUInt32).toInt32) &&& (7 : Int32)) / na) * na)).toNatClampNeg))]))
          refine own_step (fun _ k => XS.iload X140.here hx rfl (hb hby at_289) rfl k) ?_
          show own_Fin p.tables e below _ (T140.setTop (mkF m 291 #[.val (.int w0), .val (.long q1), .second, .val (.long q2), .second, .val (.int w5), .val (.int w6), .val (.int na), .val (.int nb), .val (.int (0 : Int32)), .val (.ref y1), .val (.ref y3), .val (.ref b6), .val (.ref b87), .val (.ref b114), .val (.ref y1), .val (.int na), .val (.int (0 : Int32)), .val (.int kd), .unset, .unset] [(.int kd), (.int (gA (((((w5.toUInt32 >>> ((3 : Int32) &&& 31).toUInt32).toInt32) &&& (7 : Int32)) - ((((w5.toUInt32 >>> ((3 : Int32) &&& 31).toUInt32).toInt32) &&& (7 : Int32)) / na) * na)).toNatClampNeg))]))
          refine own_step (fun _ k => XS.iadd X140.here hx rfl (hb hby at_291) rfl k) ?_
          show own_Fin p.tables e below _ (T140.setTop (mkF m 292 #[.val (.int w0), .val (.long q1), .second, .val (.long q2), .second, .val (.int w5), .val (.int w6), .val (.int na), .val (.int nb), .val (.int (0 : Int32)), .val (.ref y1), .val (.ref y3), .val (.ref b6), .val (.ref b87), .val (.ref b114), .val (.ref y1), .val (.int na), .val (.int (0 : Int32)), .val (.int kd), .unset, .unset] [(.int ((gA (((((w5.toUInt32 >>> ((3 : Int32) &&& 31).toUInt32).toInt32) &&& (7 : Int32)) - ((((w5.toUInt32 >>> ((3 : Int32) &&& 31).toUInt32).toInt32) &&& (7 : Int32)) / na) * na)).toNatClampNeg) + kd))]))
          refine own_step (fun _ k => XS.iconst X140.here hx rfl (hb hby at_292) k) ?_
          show own_Fin p.tables e below _ (T140.setTop (mkF m 293 #[.val (.int w0), .val (.long q1), .second, .val (.long q2), .second, .val (.int w5), .val (.int w6), .val (.int na), .val (.int nb), .val (.int (0 : Int32)), .val (.ref y1), .val (.ref y3), .val (.ref b6), .val (.ref b87), .val (.ref b114), .val (.ref y1), .val (.int na), .val (.int (0 : Int32)), .val (.int kd), .unset, .unset] [(.int (1 : Int32)), (.int ((gA (((((w5.toUInt32 >>> ((3 : Int32) &&& 31).toUInt32).toInt32) &&& (7 : Int32)) - ((((w5.toUInt32 >>> ((3 : Int32) &&& 31).toUInt32).toInt32) &&& (7 : Int32)) / na) * na)).toNatClampNeg) + kd))]))
          refine own_step (fun _ k => XS.isub X140.here hx rfl (hb hby at_293) rfl k) ?_
          show own_Fin p.tables e below _ (T140.setTop (mkF m 294 #[.val (.int w0), .val (.long q1), .second, .val (.long q2), .second, .val (.int w5), .val (.int w6), .val (.int na), .val (.int nb), .val (.int (0 : Int32)), .val (.ref y1), .val (.ref y3), .val (.ref b6), .val (.ref b87), .val (.ref b114), .val (.ref y1), .val (.int na), .val (.int (0 : Int32)), .val (.int kd), .unset, .unset] [(.int (((gA (((((w5.toUInt32 >>> ((3 : Int32) &&& 31).toUInt32).toInt32) &&& (7 : Int32)) - ((((w5.toUInt32 >>> ((3 : Int32) &&& 31).toUInt32).toInt32) &&& (7 : Int32)) / na) * na)).toNatClampNeg) + kd) - (1 : Int32)))]))
          refine own_step (fun _ k => XS.istore X140.here hx rfl (hb hby at_294) rfl (l' := #[.val (.int w0), .val (.long q1), .second, .val (.long q2), .second, .val (.int w5), .val (.int w6), .val (.int na), .val (.int nb), .val (.int (0 : Int32)), .val (.ref y1), .val (.ref y3), .val (.ref b6), .val (.ref b87), .val (.ref b114), .val (.ref y1), .val (.int na), .val (.int (0 : Int32)), .val (.int kd), .val (.int (((gA (((((w5.toUInt32 >>> ((3 : Int32) &&& 31).toUInt32).toInt32) &&& (7 : Int32)) - ((((w5.toUInt32 >>> ((3 : Int32) &&& 31).toUInt32).toInt32) &&& (7 : Int32)) / na) * na)).toNatClampNeg) + kd) - (1 : Int32))), .unset]) rfl k) ?_
          show own_Fin p.tables e below _ (T140.setTop (mkF m 296 #[.val (.int w0), .val (.long q1), .second, .val (.long q2), .second, .val (.int w5), .val (.int w6), .val (.int na), .val (.int nb), .val (.int (0 : Int32)), .val (.ref y1), .val (.ref y3), .val (.ref b6), .val (.ref b87), .val (.ref b114), .val (.ref y1), .val (.int na), .val (.int (0 : Int32)), .val (.int kd), .val (.int (((gA (((((w5.toUInt32 >>> ((3 : Int32) &&& 31).toUInt32).toInt32) &&& (7 : Int32)) - ((((w5.toUInt32 >>> ((3 : Int32) &&& 31).toUInt32).toInt32) &&& (7 : Int32)) / na) * na)).toNatClampNeg) + kd) - (1 : Int32))), .unset] []))
          exact J156 T140 _ (((gA (((((w5.toUInt32 >>> ((3 : Int32) &&& 31).toUInt32).toInt32) &&& (7 : Int32)) - ((((w5.toUInt32 >>> ((3 : Int32) &&& 31).toUInt32).toInt32) &&& (7 : Int32)) / na) * na)).toNatClampNeg) + kd) - (1 : Int32)) X140 rfl N140 (by rw [if_neg hc155, if_neg hc167, if_neg hc168])
  · refine own_step (fun _ k => XS.ifYes X140.here hx rfl (pc0 := 195) (pc' := 203) rfl (hb hby at_195) rfl ((if0 _ _).trans (feq hc154).2) (by decide) (by decide) k) ?_
    show own_Fin p.tables e below _ (T140.setTop (mkF m 203 #[.val (.int w0), .val (.long q1), .second, .val (.long q2), .second, .val (.int w5), .val (.int w6), .val (.int na), .val (.int nb), .val (.int tt), .val (.ref y1), .val (.ref y3), .val (.ref b6), .val (.ref b87), .val (.ref b114), .unset, .unset, .unset, .unset, .unset, .unset] []))
    have ht1 : tt = (1 : Int32) := own_t01 htt hc154
    subst ht1
    show own_Fin p.tables e below _ (T140.setTop (mkF m 203 #[.val (.int w0), .val (.long q1), .second, .val (.long q2), .second, .val (.int w5), .val (.int w6), .val (.int na), .val (.int nb), .val (.int (1 : Int32)), .val (.ref y1), .val (.ref y3), .val (.ref b6), .val (.ref b87), .val (.ref b114), .unset, .unset, .unset, .unset, .unset, .unset] []))
    refine own_step (fun _ k => XS.aload X140.here hx rfl (hb hby at_203) rfl rfl k) ?_
    show own_Fin p.tables e below _ (T140.setTop (mkF m 205 #[.val (.int w0), .val (.long q1), .second, .val (.long q2), .second, .val (.int w5), .val (.int w6), .val (.int na), .val (.int nb), .val (.int (1 : Int32)), .val (.ref y1), .val (.ref y3), .val (.ref b6), .val (.ref b87), .val (.ref b114), .unset, .unset, .unset, .unset, .unset, .unset] [(.ref y3)]))
    refine own_step (fun _ k => XS.astore X140.here hx rfl (hb hby at_205) rfl rfl (l' := #[.val (.int w0), .val (.long q1), .second, .val (.long q2), .second, .val (.int w5), .val (.int w6), .val (.int na), .val (.int nb), .val (.int (1 : Int32)), .val (.ref y1), .val (.ref y3), .val (.ref b6), .val (.ref b87), .val (.ref b114), .val (.ref y3), .unset, .unset, .unset, .unset, .unset]) rfl k) ?_
    show own_Fin p.tables e below _ (T140.setTop (mkF m 207 #[.val (.int w0), .val (.long q1), .second, .val (.long q2), .second, .val (.int w5), .val (.int w6), .val (.int na), .val (.int nb), .val (.int (1 : Int32)), .val (.ref y1), .val (.ref y3), .val (.ref b6), .val (.ref b87), .val (.ref b114), .val (.ref y3), .unset, .unset, .unset, .unset, .unset] []))
    obtain ⟨gA, hgA⟩ : ∃ z : Nat → Int32, z = fun i => [cb0, cb1, cb2, cb3, cb4].getD i 0 := ⟨_, rfl⟩
    have fA : own_Arf Z T140.heap y3 .int 5 (fun i => .int (gA i)) := by rw [hgA]; exact own_Arf.ofI f143 [cb0, cb1, cb2, cb3, cb4] rfl rfl
    refine own_step (fun _ k => XS.iload X140.here hx rfl (hb hby at_207) rfl k) ?_
    show own_Fin p.tables e below _ (T140.setTop (mkF m 209 #[.val (.int w0), .val (.long q1), .second, .val (.long q2), .second, .val (.int w5), .val (.int w6), .val (.int na), .val (.int nb), .val (.int (1 : Int32)), .val (.ref y1), .val (.ref y3), .val (.ref b6), .val (.ref b87), .val (.ref b114), .val (.ref y3), .unset, .unset, .unset, .unset, .unset] [(.int (1 : Int32))]))
    refine own_step (fun _ k => XS.ifYes X140.here hx rfl (pc0 := 209) (pc' := 217) rfl (hb hby at_209) rfl ((if0 _ _).trans (feq (by decide : ¬ ((1 : Int32) = (0 : Int32)))).2) (by decide) (by decide) k) ?_
    show own_Fin p.tables e below _ (T140.setTop (mkF m 217 #[.val (.int w0), .val (.long q1), .second, .val (.long q2), .second, .val (.int w5), .val (.int w6), .val (.int na), .val (.int nb), .val (.int (1 : Int32)), .val (.ref y1), .val (.ref y3), .val (.ref b6), .val (.ref b87), .val (.ref b114), .val (.ref y3), .unset, .unset, .unset, .unset, .unset] []))
    refine own_step (fun _ k => XS.iload X140.here hx rfl (hb hby at_217) rfl k) ?_
    show own_Fin p.tables e below _ (T140.setTop (mkF m 219 #[.val (.int w0), .val (.long q1), .second, .val (.long q2), .second, .val (.int w5), .val (.int w6), .val (.int na), .val (.int nb), .val (.int (1 : Int32)), .val (.ref y1), .val (.ref y3), .val (.ref b6), .val (.ref b87), .val (.ref b114), .val (.ref y3), .unset, .unset, .unset, .unset, .unset] [(.int nb)]))
    refine own_step (fun _ k => XS.istore X140.here hx rfl (hb hby at_219) rfl (l' := #[.val (.int w0), .val (.long q1), .second, .val (.long q2), .second, .val (.int w5), .val (.int w6), .val (.int na), .val (.int nb), .val (.int (1 : Int32)), .val (.ref y1), .val (.ref y3), .val (.ref b6), .val (.ref b87), .val (.ref b114), .val (.ref y3), .val (.int nb), .unset, .unset, .unset, .unset]) rfl k) ?_
    show own_Fin p.tables e below _ (T140.setTop (mkF m 221 #[.val (.int w0), .val (.long q1), .second, .val (.long q2), .second, .val (.int w5), .val (.int w6), .val (.int na), .val (.int nb), .val (.int (1 : Int32)), .val (.ref y1), .val (.ref y3), .val (.ref b6), .val (.ref b87), .val (.ref b114), .val (.ref y3), .val (.int nb), .unset, .unset, .unset, .unset] []))
    refine own_step (fun _ k => XS.iload X140.here hx rfl (hb hby at_221) rfl k) ?_
    show own_Fin p.tables e below _ (T140.setTop (mkF m 223 #[.val (.int w0), .val (.long q1), .second, .val (.long q2), .second, .val (.int w5), .val (.int w6), .val (.int na), .val (.int nb), .val (.int (1 : Int32)), .val (.ref y1), .val (.ref y3), .val (.ref b6), .val (.ref b87), .val (.ref b114), .val (.ref y3), .val (.int nb), .unset, .unset, .unset, .unset] [(.int (1 : Int32))]))
    refine own_step (fun _ k => XS.ifYes X140.here hx rfl (pc0 := 223) (pc' := 230) rfl (hb hby at_223) rfl ((if0 _ _).trans (feq (by decide : ¬ ((1 : Int32) = (0 : Int32)))).2) (by decide) (by decide) k) ?_
    show own_Fin p.tables e below _ (T140.setTop (mkF m 230 #[.val (.int w0), .val (.long q1), .second, .val (.long q2), .second, .val (.int w5), .val (.int w6), .val (.int na), .val (.int nb), .val (.int (1 : Int32)), .val (.ref y1), .val (.ref y3), .val (.ref b6), .val (.ref b87), .val (.ref b114), .val (.ref y3), .val (.int nb), .unset, .unset, .unset, .unset] []))
    refine own_step (fun _ k => XS.iload X140.here hx rfl (hb hby at_230) rfl k) ?_
    show own_Fin p.tables e below _ (T140.setTop (mkF m 232 #[.val (.int w0), .val (.long q1), .second, .val (.long q2), .second, .val (.int w5), .val (.int w6), .val (.int na), .val (.int nb), .val (.int (1 : Int32)), .val (.ref y1), .val (.ref y3), .val (.ref b6), .val (.ref b87), .val (.ref b114), .val (.ref y3), .val (.int nb), .unset, .unset, .unset, .unset] [(.int na)]))
    refine own_step (fun _ k => XS.istore X140.here hx rfl (hb hby at_232) rfl (l' := #[.val (.int w0), .val (.long q1), .second, .val (.long q2), .second, .val (.int w5), .val (.int w6), .val (.int na), .val (.int nb), .val (.int (1 : Int32)), .val (.ref y1), .val (.ref y3), .val (.ref b6), .val (.ref b87), .val (.ref b114), .val (.ref y3), .val (.int nb), .val (.int na), .unset, .unset, .unset]) rfl k) ?_
    show own_Fin p.tables e below _ (T140.setTop (mkF m 234 #[.val (.int w0), .val (.long q1), .second, .val (.long q2), .second, .val (.int w5), .val (.int w6), .val (.int na), .val (.int nb), .val (.int (1 : Int32)), .val (.ref y1), .val (.ref y3), .val (.ref b6), .val (.ref b87), .val (.ref b114), .val (.ref y3), .val (.int nb), .val (.int na), .unset, .unset, .unset] []))
    refine own_step (fun _ k => XS.iload X140.here hx rfl (hb hby at_234) rfl k) ?_
    show own_Fin p.tables e below _ (T140.setTop (mkF m 236 #[.val (.int w0), .val (.long q1), .second, .val (.long q2), .second, .val (.int w5), .val (.int w6), .val (.int na), .val (.int nb), .val (.int (1 : Int32)), .val (.ref y1), .val (.ref y3), .val (.ref b6), .val (.ref b87), .val (.ref b114), .val (.ref y3), .val (.int nb), .val (.int na), .unset, .unset, .unset] [(.int w5)]))
    refine own_step (fun _ k => XS.bipush X140.here hx rfl (hb hby at_236) k) ?_
    show own_Fin p.tables e below _ (T140.setTop (mkF m 238 #[.val (.int w0), .val (.long q1), .second, .val (.long q2), .second, .val (.int w5), .val (.int w6), .val (.int na), .val (.int nb), .val (.int (1 : Int32)), .val (.ref y1), .val (.ref y3), .val (.ref b6), .val (.ref b87), .val (.ref b114), .val (.ref y3), .val (.int nb), .val (.int na), .unset, .unset, .unset] [(.int (7 : Int32)), (.int w5)]))
    refine own_step (fun _ k => XS.iand X140.here hx rfl (hb hby at_238) rfl k) ?_
    show own_Fin p.tables e below _ (T140.setTop (mkF m 239 #[.val (.int w0), .val (.long q1), .second, .val (.long q2), .second, .val (.int w5), .val (.int w6), .val (.int na), .val (.int nb), .val (.int (1 : Int32)), .val (.ref y1), .val (.ref y3), .val (.ref b6), .val (.ref b87), .val (.ref b114), .val (.ref y3), .val (.int nb), .val (.int na), .unset, .unset, .unset] [(.int (w5 &&& (7 : Int32)))]))
    refine own_step (fun _ k => XS.istore X140.here hx rfl (hb hby at_239) rfl (l' := #[.val (.int w0), .val (.long q1), .second, .val (.long q2), .second, .val (.int w5), .val (.int w6), .val (.int na), .val (.int nb), .val (.int (1 : Int32)), .val (.ref y1), .val (.ref y3), .val (.ref b6), .val (.ref b87), .val (.ref b114), .val (.ref y3), .val (.int nb), .val (.int na), .val (.int (w5 &&& (7 : Int32))), .unset, .unset]) rfl k) ?_
    show own_Fin p.tables e below _ (T140.setTop (mkF m 241 #[.val (.int w0), .val (.long q1), .second, .val (.long q2), .second, .val (.int w5), .val (.int w6), .val (.int na), .val (.int nb), .val (.int (1 : Int32)), .val (.ref y1), .val (.ref y3), .val (.ref b6), .val (.ref b87), .val (.ref b114), .val (.ref y3), .val (.int nb), .val (.int na), .val (.int (w5 &&& (7 : Int32))), .unset, .unset] []))
    obtain ⟨kd, hkd⟩ : ∃ z, z = (w5 &&& (7 : Int32)) := ⟨_, rfl⟩
    rw [← hkd]
    show own_Fin p.tables e below _ (T140.setTop (mkF m 241 #[.val (.int w0), .val (.long q1), .second, .val (.long q2), .second, .val (.int w5), .val (.int w6), .val (.int na), .val (.int nb), .val (.int (1 : Int32)), .val (.ref y1), .val (.ref y3), .val (.ref b6), .val (.ref b87), .val (.ref b114), .val (.ref y3), .val (.int nb), .val (.int na), .val (.int kd), .unset, .unset] []))
    refine own_step (fun _ k => XS.iload X140.here hx rfl (hb hby at_241) rfl k) ?_
    show own_Fin p.tables e below _ (T140.setTop (mkF m 243 #[.val (.int w0), .val (.long q1), .second, .val (.long q2), .second, .val (.int w5), .val (.int w6), .val (.int na), .val (.int nb), .val (.int (1 : Int32)), .val (.ref y1), .val (.ref y3), .val (.ref b6), .val (.ref b87), .val (.ref b114), .val (.ref y3), .val (.int nb), .val (.int na), .val (.int kd), .unset, .unset] [(.int nb)]))
    have J171 : ∀ (T172 : State) (locs172 : List Loc) (y173 : Int32) (X172 : Stand p l e room_1 s m #[(.int w0), (.long q1), (.long q2), (.int w5), (.int w6)] below meth c T172 locs172 6 41) (e172 : T172.heap = T140.heap) (N172 : Fr n0 locs172) (gy173 : y173 = (if nb = (0 : Int32) then w6 else (if (3 : Int32) < kd then w6 else (if kd = (3 : Int32) then (w6 &&& (2047 : Int32)) else (((gA (((((w5.toUInt32 >>> ((3 : Int32) &&& 31).toUInt32).toInt32) &&& (7 : Int32)) - ((((w5.toUInt32 >>> ((3 : Int32) &&& 31).toUInt32).toInt32) &&& (7 : Int32)) / nb) * nb)).toNatClampNeg) + kd) - (1 : Int32)))))), own_Fin p.tables e below (P0 Z w0 q1 q2 w5 w6 h0 n0 s) (T172.setTop (mkF m 296 #[.val (.int w0), .val (.long q1), .second, .val (.long q2), .second, .val (.int w5), .val (.int w6), .val (.int na), .val (.int nb), .val (.int (1 : Int32)), .val (.ref y1), .val (.ref y3), .val (.ref b6), .val (.ref b87), .val (.ref b114), .val (.ref y3), .val (.int nb), .val (.int na), .val (.int kd), .val (.int y173), .unset] [])) := by
      intro T172 locs172 y173 X172 e172 N172 gy173
      refine own_step (fun _ k => XS.iload X172.here hx rfl (hb hby at_296) rfl k) ?_
      show own_Fin p.tables e below _ (T172.setTop (mkF m 298 #[.val (.int w0), .val (.long q1), .second, .val (.long q2), .second, .val (.int w5), .val (.int w6), .val (.int na), .val (.int nb), .val (.int (1 : Int32)), .val (.ref y1), .val (.ref y3), .val (.ref b6), .val (.ref b87), .val (.ref b114), .val (.ref y3), .val (.int nb), .val (.int na), .val (.int kd), .val (.int y173), .unset] [(.int na)]))
      refine own_step (fun _ k => XS.aload X172.here hx rfl (hb hby at_298) rfl rfl k) ?_
      show own_Fin p.tables e below _ (T172.setTop (mkF m 300 #[.val (.int w0), .val (.long q1), .second, .val (.long q2), .second, .val (.int w5), .val (.int w6), .val (.int na), .val (.int nb), .val (.int (1 : Int32)), .val (.ref y1), .val (.ref y3), .val (.ref b6), .val (.ref b87), .val (.ref b114), .val (.ref y3), .val (.int nb), .val (.int na), .val (.int kd), .val (.int y173), .unset] [(.ref y3), (.int na)]))
      refine own_step (fun _ k => XS.iload X172.here hx rfl (hb hby at_300) rfl k) ?_
      show own_Fin p.tables e below _ (T172.setTop (mkF m 302 #[.val (.int w0), .val (.long q1), .second, .val (.long q2), .second, .val (.int w5), .val (.int w6), .val (.int na), .val (.int nb), .val (.int (1 : Int32)), .val (.ref y1), .val (.ref y3), .val (.ref b6), .val (.ref b87), .val (.ref b114), .val (.ref y3), .val (.int nb), .val (.int na), .val (.int kd), .val (.int y173), .unset] [(.int nb), (.ref y3), (.int na)]))
      refine own_step (fun _ k => XS.iconst X172.here hx rfl (hb hby at_302) k) ?_
      show own_Fin p.tables e below _ (T172.setTop (mkF m 303 #[.val (.int w0), .val (.long q1), .second, .val (.long q2), .second, .val (.int w5), .val (.int w6), .val (.int na), .val (.int nb), .val (.int (1 : Int32)), .val (.ref y1), .val (.ref y3), .val (.ref b6), .val (.ref b87), .val (.ref b114), .val (.ref y3), .val (.int nb), .val (.int na), .val (.int kd), .val (.int y173), .unset] [(.int (0 : Int32)), (.int nb), (.ref y3), (.int na)]))
      refine own_step (fun _ k => XS.iload X172.here hx rfl (hb hby at_303) rfl k) ?_
      show own_Fin p.tables e below _ (T172.setTop (mkF m 305 #[.val (.int w0), .val (.long q1), .second, .val (.long q2), .second, .val (.int w5), .val (.int w6), .val (.int na), .val (.int nb), .val (.int (1 : Int32)), .val (.ref y1), .val (.ref y3), .val (.ref b6), .val (.ref b87), .val (.ref b114), .val (.ref y3), .val (.int nb), .val (.int na), .val (.int kd), .val (.int y173), .unset] [(.int y173), (.int (0 : Int32)), (.int nb), (.ref y3), (.int na)]))
      obtain ⟨_, _, ⟨T174, L174, k174, n174⟩, -, X174, ⟨Lc174, hQ174, l174, y174, z174⟩, st174⟩ := Jvm.LawKit.callS X172 hx (y := (⟨"com/example/fusewright/fusewright/runtime/SparseMatrixFirstAtOrAfterPinLaw", "below", "([IIII)I"⟩ : MethodName)) hown (mvT hZ (hw _ (List.mem_of_getElem? (i := 29) rfl))) (mvT hZ (hw _ (List.mem_of_getElem? (i := 30) rfl))) (mvT hZ (hw _ (List.mem_of_getElem? (i := 2) rfl))) (mvT hZ (hw _ (List.mem_of_getElem? (i := 31) rfl))) (by decide) (backOf (W := 1) (rm4 l Z a0 hw [] y3 nb (0 : Int32) y173 gA T140.heap n0 f141 fA (by decide) (by decide)) hZ (hw _ (List.mem_of_getElem? (i := 31) rfl)) (hw _ (List.mem_of_getElem? (i := 2) rfl)) (by decide) (by decide)) (g := (mkF m 305 #[.val (.int w0), .val (.long q1), .second, .val (.long q2), .second, .val (.int w5), .val (.int w6), .val (.int na), .val (.int nb), .val (.int (1 : Int32)), .val (.ref y1), .val (.ref y3), .val (.ref b6), .val (.ref b87), .val (.ref b114), .val (.ref y3), .val (.int nb), .val (.int na), .val (.int kd), .val (.int y173), .unset] [(.int y173), (.int (0 : Int32)), (.int nb), (.ref y3), (.int na)])) rfl (by rw [hml]; rfl) (argsL := [(.ref y3), (.int nb), (.int (0 : Int32)), (.int y173)]) (rest := [(.int na)]) (lenOf pd_2 rfl) rfl (by show 2 * 0 + _ ≤ _; exact Nat.le_of_eq rfl) (hb hby at_305) (fun _ _ => ⟨rfl, e172, (by decide : 6 + 0 ≤ _), (by decide : 41 + 0 ≤ _)⟩)
      dsimp only [Pt.U, Pt.locs, Pt.cells, Pt.slots] at X174 l174 y174 z174 st174 hQ174
      subst l174 y174 z174
      obtain ⟨rfl, N174q, e174⟩ := hQ174
      have N174 := Fr.app N172 N174q
      refine own_step st174 ?_
      show own_Fin p.tables e below _ (T174.setTop (mkF m 308 #[.val (.int w0), .val (.long q1), .second, .val (.long q2), .second, .val (.int w5), .val (.int w6), .val (.int na), .val (.int nb), .val (.int (1 : Int32)), .val (.ref y1), .val (.ref y3), .val (.ref b6), .val (.ref b87), .val (.ref b114), .val (.ref y3), .val (.int nb), .val (.int na), .val (.int kd), .val (.int y173), .unset] [(.int (own_bel gA nb (0 : Int32) y173)), (.int na)]))
      refine own_step (fun _ k => XS.iadd X174.here hx rfl (hb hby at_308) rfl k) ?_
      show own_Fin p.tables e below _ (T174.setTop (mkF m 309 #[.val (.int w0), .val (.long q1), .second, .val (.long q2), .second, .val (.int w5), .val (.int w6), .val (.int na), .val (.int nb), .val (.int (1 : Int32)), .val (.ref y1), .val (.ref y3), .val (.ref b6), .val (.ref b87), .val (.ref b114), .val (.ref y3), .val (.int nb), .val (.int na), .val (.int kd), .val (.int y173), .unset] [(.int (na + (own_bel gA nb (0 : Int32) y173)))]))
      refine own_step (fun _ k => XS.aload X174.here hx rfl (hb hby at_309) rfl rfl k) ?_
      show own_Fin p.tables e below _ (T174.setTop (mkF m 311 #[.val (.int w0), .val (.long q1), .second, .val (.long q2), .second, .val (.int w5), .val (.int w6), .val (.int na), .val (.int nb), .val (.int (1 : Int32)), .val (.ref y1), .val (.ref y3), .val (.ref b6), .val (.ref b87), .val (.ref b114), .val (.ref y3), .val (.int nb), .val (.int na), .val (.int kd), .val (.int y173), .unset] [(.ref y3), (.int (na + (own_bel gA nb (0 : Int32) y173)))]))
      refine own_step (fun _ k => XS.iload X174.here hx rfl (hb hby at_311) rfl k) ?_
      show own_Fin p.tables e below _ (T174.setTop (mkF m 313 #[.val (.int w0), .val (.long q1), .second, .val (.long q2), .second, .val (.int w5), .val (.int w6), .val (.int na), .val (.int nb), .val (.int (1 : Int32)), .val (.ref y1), .val (.ref y3), .val (.ref b6), .val (.ref b87), .val (.ref b114), .val (.ref y3), .val (.int nb), .val (.int na), .val (.int kd), .val (.int y173), .unset] [(.int nb), (.ref y3), (.int (na + (own_bel gA nb (0 : Int32) y173)))]))
      refine own_step (fun _ k => XS.iconst X174.here hx rfl (hb hby at_313) k) ?_
      show own_Fin p.tables e below _ (T174.setTop (mkF m 314 #[.val (.int w0), .val (.long q1), .second, .val (.long q2), .second, .val (.int w5), .val (.int w6), .val (.int na), .val (.int nb), .val (.int (1 : Int32)), .val (.ref y1), .val (.ref y3), .val (.ref b6), .val (.ref b87), .val (.ref b114), .val (.ref y3), .val (.int nb), .val (.int na), .val (.int kd), .val (.int y173), .unset] [(.int (1 : Int32)), (.int nb), (.ref y3), (.int (na + (own_bel gA nb (0 : Int32) y173)))]))
      refine own_step (fun _ k => XS.iload X174.here hx rfl (hb hby at_314) rfl k) ?_
      show own_Fin p.tables e below _ (T174.setTop (mkF m 316 #[.val (.int w0), .val (.long q1), .second, .val (.long q2), .second, .val (.int w5), .val (.int w6), .val (.int na), .val (.int nb), .val (.int (1 : Int32)), .val (.ref y1), .val (.ref y3), .val (.ref b6), .val (.ref b87), .val (.ref b114), .val (.ref y3), .val (.int nb), .val (.int na), .val (.int kd), .val (.int y173), .unset] [(.int y173), (.int (1 : Int32)), (.int nb), (.ref y3), (.int (na + (own_bel gA nb (0 : Int32) y173)))]))
      obtain ⟨_, _, ⟨T175, L175, k175, n175⟩, -, X175, ⟨Lc175, hQ175, l175, y175, z175⟩, st175⟩ := Jvm.LawKit.callS X174 hx (y := (⟨"com/example/fusewright/fusewright/runtime/SparseMatrixFirstAtOrAfterPinLaw", "below", "([IIII)I"⟩ : MethodName)) hown (mvT hZ (hw _ (List.mem_of_getElem? (i := 29) rfl))) (mvT hZ (hw _ (List.mem_of_getElem? (i := 30) rfl))) (mvT hZ (hw _ (List.mem_of_getElem? (i := 2) rfl))) (mvT hZ (hw _ (List.mem_of_getElem? (i := 31) rfl))) (by decide) (backOf (W := 1) (rm4 l Z a0 hw [] y3 nb (1 : Int32) y173 gA T140.heap n0 f141 fA (by decide) (by decide)) hZ (hw _ (List.mem_of_getElem? (i := 31) rfl)) (hw _ (List.mem_of_getElem? (i := 2) rfl)) (by decide) (by decide)) (g := (mkF m 316 #[.val (.int w0), .val (.long q1), .second, .val (.long q2), .second, .val (.int w5), .val (.int w6), .val (.int na), .val (.int nb), .val (.int (1 : Int32)), .val (.ref y1), .val (.ref y3), .val (.ref b6), .val (.ref b87), .val (.ref b114), .val (.ref y3), .val (.int nb), .val (.int na), .val (.int kd), .val (.int y173), .unset] [(.int y173), (.int (1 : Int32)), (.int nb), (.ref y3), (.int (na + (own_bel gA nb (0 : Int32) y173)))])) rfl (by rw [hml]; rfl) (argsL := [(.ref y3), (.int nb), (.int (1 : Int32)), (.int y173)]) (rest := [(.int (na + (own_bel gA nb (0 : Int32) y173)))]) (lenOf pd_2 rfl) rfl (by show 2 * 0 + _ ≤ _; exact Nat.le_of_eq rfl) (hb hby at_316) (fun _ _ => ⟨rfl, e174, (by decide : 6 + 0 ≤ _), (by decide : 41 + 0 ≤ _)⟩)
      dsimp only [Pt.U, Pt.locs, Pt.cells, Pt.slots] at X175 l175 y175 z175 st175 hQ175
      subst l175 y175 z175
      obtain ⟨rfl, N175q, e175⟩ := hQ175
      have N175 := Fr.app N174 N175q
      refine own_step st175 ?_
      show own_Fin p.tables e below _ (T175.setTop (mkF m 319 #[.val (.int w0), .val (.long q1), .second, .val (.long q2), .second, .val (.int w5), .val (.int w6), .val (.int na), .val (.int nb), .val (.int (1 : Int32)), .val (.ref y1), .val (.ref y3), .val (.ref b6), .val (.ref b87), .val (.ref b114), .val (.ref y3), .val (.int nb), .val (.int na), .val (.int kd), .val (.int y173), .unset] [(.int (own_bel gA nb (1 : Int32) y173)), (.int (na + (own_bel gA nb (0 : Int32) y173)))]))
      refine own_step (fun _ k => XS.iadd X175.here hx rfl (hb hby at_319) rfl k) ?_
      show own_Fin p.tables e below _ (T175.setTop (mkF m 320 #[.val (.int w0), .val (.long q1), .second, .val (.long q2), .second, .val (.int w5), .val (.int w6), .val (.int na), .val (.int nb), .val (.int (1 : Int32)), .val (.ref y1), .val (.ref y3), .val (.ref b6), .val (.ref b87), .val (.ref b114), .val (.ref y3), .val (.int nb), .val (.int na), .val (.int kd), .val (.int y173), .unset] [(.int ((na + (own_bel gA nb (0 : Int32) y173)) + (own_bel gA nb (1 : Int32) y173)))]))
      refine own_step (fun _ k => XS.aload X175.here hx rfl (hb hby at_320) rfl rfl k) ?_
      show own_Fin p.tables e below _ (T175.setTop (mkF m 322 #[.val (.int w0), .val (.long q1), .second, .val (.long q2), .second, .val (.int w5), .val (.int w6), .val (.int na), .val (.int nb), .val (.int (1 : Int32)), .val (.ref y1), .val (.ref y3), .val (.ref b6), .val (.ref b87), .val (.ref b114), .val (.ref y3), .val (.int nb), .val (.int na), .val (.int kd), .val (.int y173), .unset] [(.ref y3), (.int ((na + (own_bel gA nb (0 : Int32) y173)) + (own_bel gA nb (1 : Int32) y173)))]))
      refine own_step (fun _ k => XS.iload X175.here hx rfl (hb hby at_322) rfl k) ?_
      show own_Fin p.tables e below _ (T175.setTop (mkF m 324 #[.val (.int w0), .val (.long q1), .second, .val (.long q2), .second, .val (.int w5), .val (.int w6), .val (.int na), .val (.int nb), .val (.int (1 : Int32)), .val (.ref y1), .val (.ref y3), .val (.ref b6), .val (.ref b87), .val (.ref b114), .val (.ref y3), .val (.int nb), .val (.int na), .val (.int kd), .val (.int y173), .unset] [(.int nb), (.ref y3), (.int ((na + (own_bel gA nb (0 : Int32) y173)) + (own_bel gA nb (1 : Int32) y173)))]))
      refine own_step (fun _ k => XS.iconst X175.here hx rfl (hb hby at_324) k) ?_
      show own_Fin p.tables e below _ (T175.setTop (mkF m 325 #[.val (.int w0), .val (.long q1), .second, .val (.long q2), .second, .val (.int w5), .val (.int w6), .val (.int na), .val (.int nb), .val (.int (1 : Int32)), .val (.ref y1), .val (.ref y3), .val (.ref b6), .val (.ref b87), .val (.ref b114), .val (.ref y3), .val (.int nb), .val (.int na), .val (.int kd), .val (.int y173), .unset] [(.int (2 : Int32)), (.int nb), (.ref y3), (.int ((na + (own_bel gA nb (0 : Int32) y173)) + (own_bel gA nb (1 : Int32) y173)))]))
      refine own_step (fun _ k => XS.iload X175.here hx rfl (hb hby at_325) rfl k) ?_
      show own_Fin p.tables e below _ (T175.setTop (mkF m 327 #[.val (.int w0), .val (.long q1), .second, .val (.long q2), .second, .val (.int w5), .val (.int w6), .val (.int na), .val (.int nb), .val (.int (1 : Int32)), .val (.ref y1), .val (.ref y3), .val (.ref b6), .val (.ref b87), .val (.ref b114), .val (.ref y3), .val (.int nb), .val (.int na), .val (.int kd), .val (.int y173), .unset] [(.int y173), (.int (2 : Int32)), (.int nb), (.ref y3), (.int ((na + (own_bel gA nb (0 : Int32) y173)) + (own_bel gA nb (1 : Int32) y173)))]))
      obtain ⟨_, _, ⟨T176, L176, k176, n176⟩, -, X176, ⟨Lc176, hQ176, l176, y176, z176⟩, st176⟩ := Jvm.LawKit.callS X175 hx (y := (⟨"com/example/fusewright/fusewright/runtime/SparseMatrixFirstAtOrAfterPinLaw", "below", "([IIII)I"⟩ : MethodName)) hown (mvT hZ (hw _ (List.mem_of_getElem? (i := 29) rfl))) (mvT hZ (hw _ (List.mem_of_getElem? (i := 30) rfl))) (mvT hZ (hw _ (List.mem_of_getElem? (i := 2) rfl))) (mvT hZ (hw _ (List.mem_of_getElem? (i := 31) rfl))) (by decide) (backOf (W := 1) (rm4 l Z a0 hw [] y3 nb (2 : Int32) y173 gA T140.heap n0 f141 fA (by decide) (by decide)) hZ (hw _ (List.mem_of_getElem? (i := 31) rfl)) (hw _ (List.mem_of_getElem? (i := 2) rfl)) (by decide) (by decide)) (g := (mkF m 327 #[.val (.int w0), .val (.long q1), .second, .val (.long q2), .second, .val (.int w5), .val (.int w6), .val (.int na), .val (.int nb), .val (.int (1 : Int32)), .val (.ref y1), .val (.ref y3), .val (.ref b6), .val (.ref b87), .val (.ref b114), .val (.ref y3), .val (.int nb), .val (.int na), .val (.int kd), .val (.int y173), .unset] [(.int y173), (.int (2 : Int32)), (.int nb), (.ref y3), (.int ((na + (own_bel gA nb (0 : Int32) y173)) + (own_bel gA nb (1 : Int32) y173)))])) rfl (by rw [hml]; rfl) (argsL := [(.ref y3), (.int nb), (.int (2 : Int32)), (.int y173)]) (rest := [(.int ((na + (own_bel gA nb (0 : Int32) y173)) + (own_bel gA nb (1 : Int32) y173)))]) (lenOf pd_2 rfl) rfl (by show 2 * 0 + _ ≤ _; exact Nat.le_of_eq rfl) (hb hby at_327) (fun _ _ => ⟨rfl, e175, (by decide : 6 + 0 ≤ _), (by decide : 41 + 0 ≤ _)⟩)
      dsimp only [Pt.U, Pt.locs, Pt.cells, Pt.slots] at X176 l176 y176 z176 st176 hQ176
      subst l176 y176 z176
      obtain ⟨rfl, N176q, e176⟩ := hQ176
      have N176 := Fr.app N175 N176q
      refine own_step st176 ?_
      show own_Fin p.tables e below _ (T176.setTop (mkF m 330 #[.val (.int w0), .val (.long q1), .second, .val (.long q2), .second, .val (.int w5), .val (.int w6), .val (.int na), .val (.int nb), .val (.int (1 : Int32)), .val (.ref y1), .val (.ref y3), .val (.ref b6), .val (.ref b87), .val (.ref b114), .val (.ref y3), .val (.int nb), .val (.int na), .val (.int kd), .val (.int y173), .unset] [(.int (own_bel gA nb (2 : Int32) y173)), (.int ((na + (own_bel gA nb (0 : Int32) y173)) + (own_bel gA nb (1 : Int32) y173)))]))
      refine own_step (fun _ k => XS.iadd X176.here hx rfl (hb hby at_330) rfl k) ?_
      show own_Fin p.tables e below _ (T176.setTop (mkF m 331 #[.val (.int w0), .val (.long q1), .second, .val (.long q2), .second, .val (.int w5), .val (.int w6), .val (.int na), .val (.int nb), .val (.int (1 : Int32)), .val (.ref y1), .val (.ref y3), .val (.ref b6), .val (.ref b87), .val (.ref b114), .val (.ref y3), .val (.int nb), .val (.int na), .val (.int kd), .val (.int y173), .unset] [(.int (((na + (own_bel gA nb (0 : Int32) y173)) + (own_bel gA nb (1 : Int32) y173)) + (own_bel gA nb (2 : Int32) y173)))]))
      refine own_step (fun _ k => XS.aload X176.here hx rfl (hb hby at_331) rfl rfl k) ?_
      show own_Fin p.tables e below _ (T176.setTop (mkF m 333 #[.val (.int w0), .val (.long q1), .second, .val (.long q2), .second, .val (.int w5), .val (.int w6), .val (.int na), .val (.int nb), .val (.int (1 : Int32)), .val (.ref y1), .val (.ref y3), .val (.ref b6), .val (.ref b87), .val (.ref b114), .val (.ref y3), .val (.int nb), .val (.int na), .val (.int kd), .val (.int y173), .unset] [(.ref y3), (.int (((na + (own_bel gA nb (0 : Int32) y173)) + (own_bel gA nb (1 : Int32) y173)) + (own_bel gA nb (2 : Int32) y173)))]))
      refine own_step (fun _ k => XS.iload X176.here hx rfl (hb hby at_333) rfl k) ?_
      show own_Fin p.tables e below _ (T176.setTop (mkF m 335 #[.val (.int w0), .val (.long q1), .second, .val (.long q2), .second, .val (.int w5), .val (.int w6), .val (.int na), .val (.int nb), .val (.int (1 : Int32)), .val (.ref y1), .val (.ref y3), .val (.ref b6), .val (.ref b87), .val (.ref b114), .val (.ref y3), .val (.int nb), .val (.int na), .val (.int kd), .val (.int y173), .unset] [(.int nb), (.ref y3), (.int (((na + (own_bel gA nb (0 : Int32) y173)) + (own_bel gA nb (1 : Int32) y173)) + (own_bel gA nb (2 : Int32) y173)))]))
      refine own_step (fun _ k => XS.iconst X176.here hx rfl (hb hby at_335) k) ?_
      show own_Fin p.tables e below _ (T176.setTop (mkF m 336 #[.val (.int w0), .val (.long q1), .second, .val (.long q2), .second, .val (.int w5), .val (.int w6), .val (.int na), .val (.int nb), .val (.int (1 : Int32)), .val (.ref y1), .val (.ref y3), .val (.ref b6), .val (.ref b87), .val (.ref b114), .val (.ref y3), .val (.int nb), .val (.int na), .val (.int kd), .val (.int y173), .unset] [(.int (3 : Int32)), (.int nb), (.ref y3), (.int (((na + (own_bel gA nb (0 : Int32) y173)) + (own_bel gA nb (1 : Int32) y173)) + (own_bel gA nb (2 : Int32) y173)))]))
      refine own_step (fun _ k => XS.iload X176.here hx rfl (hb hby at_336) rfl k) ?_
      show own_Fin p.tables e below _ (T176.setTop (mkF m 338 #[.val (.int w0), .val (.long q1), .second, .val (.long q2), .second, .val (.int w5), .val (.int w6), .val (.int na), .val (.int nb), .val (.int (1 : Int32)), .val (.ref y1), .val (.ref y3), .val (.ref b6), .val (.ref b87), .val (.ref b114), .val (.ref y3), .val (.int nb), .val (.int na), .val (.int kd), .val (.int y173), .unset] [(.int y173), (.int (3 : Int32)), (.int nb), (.ref y3), (.int (((na + (own_bel gA nb (0 : Int32) y173)) + (own_bel gA nb (1 : Int32) y173)) + (own_bel gA nb (2 : Int32) y173)))]))
      obtain ⟨_, _, ⟨T177, L177, k177, n177⟩, -, X177, ⟨Lc177, hQ177, l177, y177, z177⟩, st177⟩ := Jvm.LawKit.callS X176 hx (y := (⟨"com/example/fusewright/fusewright/runtime/SparseMatrixFirstAtOrAfterPinLaw", "below", "([IIII)I"⟩ : MethodName)) hown (mvT hZ (hw _ (List.mem_of_getElem? (i := 29) rfl))) (mvT hZ (hw _ (List.mem_of_getElem? (i := 30) rfl))) (mvT hZ (hw _ (List.mem_of_getElem? (i := 2) rfl))) (mvT hZ (hw _ (List.mem_of_getElem? (i := 31) rfl))) (by decide) (backOf (W := 1) (rm4 l Z a0 hw [] y3 nb (3 : Int32) y173 gA T140.heap n0 f141 fA (by decide) (by decide)) hZ (hw _ (List.mem_of_getElem? (i := 31) rfl)) (hw _ (List.mem_of_getElem? (i := 2) rfl)) (by decide) (by decide)) (g := (mkF m 338 #[.val (.int w0), .val (.long q1), .second, .val (.long q2), .second, .val (.int w5), .val (.int w6), .val (.int na), .val (.int nb), .val (.int (1 : Int32)), .val (.ref y1), .val (.ref y3), .val (.ref b6), .val (.ref b87), .val (.ref b114), .val (.ref y3), .val (.int nb), .val (.int na), .val (.int kd), .val (.int y173), .unset] [(.int y173), (.int (3 : Int32)), (.int nb), (.ref y3), (.int (((na + (own_bel gA nb (0 : Int32) y173)) + (own_bel gA nb (1 : Int32) y173)) + (own_bel gA nb (2 : Int32) y173)))])) rfl (by rw [hml]; rfl) (argsL := [(.ref y3), (.int nb), (.int (3 : Int32)), (.int y173)]) (rest := [(.int (((na + (own_bel gA nb (0 : Int32) y173)) + (own_bel gA nb (1 : Int32) y173)) + (own_bel gA nb (2 : Int32) y173)))]) (lenOf pd_2 rfl) rfl (by show 2 * 0 + _ ≤ _; exact Nat.le_of_eq rfl) (hb hby at_338) (fun _ _ => ⟨rfl, e176, (by decide : 6 + 0 ≤ _), (by decide : 41 + 0 ≤ _)⟩)
      dsimp only [Pt.U, Pt.locs, Pt.cells, Pt.slots] at X177 l177 y177 z177 st177 hQ177
      subst l177 y177 z177
      obtain ⟨rfl, N177q, e177⟩ := hQ177
      have N177 := Fr.app N176 N177q
      refine own_step st177 ?_
      show own_Fin p.tables e below _ (T177.setTop (mkF m 341 #[.val (.int w0), .val (.long q1), .second, .val (.long q2), .second, .val (.int w5), .val (.int w6), .val (.int na), .val (.int nb), .val (.int (1 : Int32)), .val (.ref y1), .val (.ref y3), .val (.ref b6), .val (.ref b87), .val (.ref b114), .val (.ref y3), .val (.int nb), .val (.int na), .val (.int kd), .val (.int y173), .unset] [(.int (own_bel gA nb (3 : Int32) y173)), (.int (((na + (own_bel gA nb (0 : Int32) y173)) + (own_bel gA nb (1 : Int32) y173)) + (own_bel gA nb (2 : Int32) y173)))]))
      refine own_step (fun _ k => XS.iadd X177.here hx rfl (hb hby at_341) rfl k) ?_
      show own_Fin p.tables e below _ (T177.setTop (mkF m 342 #[.val (.int w0), .val (.long q1), .second, .val (.long q2), .second, .val (.int w5), .val (.int w6), .val (.int na), .val (.int nb), .val (.int (1 : Int32)), .val (.ref y1), .val (.ref y3), .val (.ref b6), .val (.ref b87), .val (.ref b114), .val (.ref y3), .val (.int nb), .val (.int na), .val (.int kd), .val (.int y173), .unset] [(.int ((((na + (own_bel gA nb (0 : Int32) y173)) + (own_bel gA nb (1 : Int32) y173)) + (own_bel gA nb (2 : Int32) y173)) + (own_bel gA nb (3 : Int32) y173)))]))
      refine own_step (fun _ k => XS.aload X177.here hx rfl (hb hby at_342) rfl rfl k) ?_
      show own_Fin p.tables e below _ (T177.setTop (mkF m 344 #[.val (.int w0), .val (.long q1), .second, .val (.long q2), .second, .val (.int w5), .val (.int w6), .val (.int na), .val (.int nb), .val (.int (1 : Int32)), .val (.ref y1), .val (.ref y3), .val (.ref b6), .val (.ref b87), .val (.ref b114), .val (.ref y3), .val (.int nb), .val (.int na), .val (.int kd), .val (.int y173), .unset] [(.ref y3), (.int ((((na + (own_bel gA nb (0 : Int32) y173)) + (own_bel gA nb (1 : Int32) y173)) + (own_bel gA nb (2 : Int32) y173)) + (own_bel gA nb (3 : Int32) y173)))]))
      refine own_step (fun _ k => XS.iload X177.here hx rfl (hb hby at_344) rfl k) ?_
      show own_Fin p.tables e below _ (T177.setTop (mkF m 346 #[.val (.int w0), .val (.long q1), .second, .val (.long q2), .second, .val (.int w5), .val (.int w6), .val (.int na), .val (.int nb), .val (.int (1 : Int32)), .val (.ref y1), .val (.ref y3), .val (.ref b6), .val (.ref b87), .val (.ref b114), .val (.ref y3), .val (.int nb), .val (.int na), .val (.int kd), .val (.int y173), .unset] [(.int nb), (.ref y3), (.int ((((na + (own_bel gA nb (0 : Int32) y173)) + (own_bel gA nb (1 : Int32) y173)) + (own_bel gA nb (2 : Int32) y173)) + (own_bel gA nb (3 : Int32) y173)))]))
      refine own_step (fun _ k => XS.iconst X177.here hx rfl (hb hby at_346) k) ?_
      show own_Fin p.tables e below _ (T177.setTop (mkF m 347 #[.val (.int w0), .val (.long q1), .second, .val (.long q2), .second, .val (.int w5), .val (.int w6), .val (.int na), .val (.int nb), .val (.int (1 : Int32)), .val (.ref y1), .val (.ref y3), .val (.ref b6), .val (.ref b87), .val (.ref b114), .val (.ref y3), .val (.int nb), .val (.int na), .val (.int kd), .val (.int y173), .unset] [(.int (4 : Int32)), (.int nb), (.ref y3), (.int ((((na + (own_bel gA nb (0 : Int32) y173)) + (own_bel gA nb (1 : Int32) y173)) + (own_bel gA nb (2 : Int32) y173)) + (own_bel gA nb (3 : Int32) y173)))]))
      refine own_step (fun _ k => XS.iload X177.here hx rfl (hb hby at_347) rfl k) ?_
      show own_Fin p.tables e below _ (T177.setTop (mkF m 349 #[.val (.int w0), .val (.long q1), .second, .val (.long q2), .second, .val (.int w5), .val (.int w6), .val (.int na), .val (.int nb), .val (.int (1 : Int32)), .val (.ref y1), .val (.ref y3), .val (.ref b6), .val (.ref b87), .val (.ref b114), .val (.ref y3), .val (.int nb), .val (.int na), .val (.int kd), .val (.int y173), .unset] [(.int y173), (.int (4 : Int32)), (.int nb), (.ref y3), (.int ((((na + (own_bel gA nb (0 : Int32) y173)) + (own_bel gA nb (1 : Int32) y173)) + (own_bel gA nb (2 : Int32) y173)) + (own_bel gA nb (3 : Int32) y173)))]))
      obtain ⟨_, _, ⟨T178, L178, k178, n178⟩, -, X178, ⟨Lc178, hQ178, l178, y178, z178⟩, st178⟩ := Jvm.LawKit.callS X177 hx (y := (⟨"com/example/fusewright/fusewright/runtime/SparseMatrixFirstAtOrAfterPinLaw", "below", "([IIII)I"⟩ : MethodName)) hown (mvT hZ (hw _ (List.mem_of_getElem? (i := 29) rfl))) (mvT hZ (hw _ (List.mem_of_getElem? (i := 30) rfl))) (mvT hZ (hw _ (List.mem_of_getElem? (i := 2) rfl))) (mvT hZ (hw _ (List.mem_of_getElem? (i := 31) rfl))) (by decide) (backOf (W := 1) (rm4 l Z a0 hw [] y3 nb (4 : Int32) y173 gA T140.heap n0 f141 fA (by decide) (by decide)) hZ (hw _ (List.mem_of_getElem? (i := 31) rfl)) (hw _ (List.mem_of_getElem? (i := 2) rfl)) (by decide) (by decide)) (g := (mkF m 349 #[.val (.int w0), .val (.long q1), .second, .val (.long q2), .second, .val (.int w5), .val (.int w6), .val (.int na), .val (.int nb), .val (.int (1 : Int32)), .val (.ref y1), .val (.ref y3), .val (.ref b6), .val (.ref b87), .val (.ref b114), .val (.ref y3), .val (.int nb), .val (.int na), .val (.int kd), .val (.int y173), .unset] [(.int y173), (.int (4 : Int32)), (.int nb), (.ref y3), (.int ((((na + (own_bel gA nb (0 : Int32) y173)) + (own_bel gA nb (1 : Int32) y173)) + (own_bel gA nb (2 : Int32) y173)) + (own_bel gA nb (3 : Int32) y173)))])) rfl (by rw [hml]; rfl) (argsL := [(.ref y3), (.int nb), (.int (4 : Int32)), (.int y173)]) (rest := [(.int ((((na + (own_bel gA nb (0 : Int32) y173)) + (own_bel gA nb (1 : Int32) y173)) + (own_bel gA nb (2 : Int32) y173)) + (own_bel gA nb (3 : Int32) y173)))]) (lenOf pd_2 rfl) rfl (by show 2 * 0 + _ ≤ _; exact Nat.le_of_eq rfl) (hb hby at_349) (fun _ _ => ⟨rfl, e177, (by decide : 6 + 0 ≤ _), (by decide : 41 + 0 ≤ _)⟩)
      dsimp only [Pt.U, Pt.locs, Pt.cells, Pt.slots] at X178 l178 y178 z178 st178 hQ178
      subst l178 y178 z178
      obtain ⟨rfl, N178q, e178⟩ := hQ178
      have N178 := Fr.app N177 N178q
      refine own_step st178 ?_
      show own_Fin p.tables e below _ (T178.setTop (mkF m 352 #[.val (.int w0), .val (.long q1), .second, .val (.long q2), .second, .val (.int w5), .val (.int w6), .val (.int na), .val (.int nb), .val (.int (1 : Int32)), .val (.ref y1), .val (.ref y3), .val (.ref b6), .val (.ref b87), .val (.ref b114), .val (.ref y3), .val (.int nb), .val (.int na), .val (.int kd), .val (.int y173), .unset] [(.int (own_bel gA nb (4 : Int32) y173)), (.int ((((na + (own_bel gA nb (0 : Int32) y173)) + (own_bel gA nb (1 : Int32) y173)) + (own_bel gA nb (2 : Int32) y173)) + (own_bel gA nb (3 : Int32) y173)))]))
      refine own_step (fun _ k => XS.iadd X178.here hx rfl (hb hby at_352) rfl k) ?_
      show own_Fin p.tables e below _ (T178.setTop (mkF m 353 #[.val (.int w0), .val (.long q1), .second, .val (.long q2), .second, .val (.int w5), .val (.int w6), .val (.int na), .val (.int nb), .val (.int (1 : Int32)), .val (.ref y1), .val (.ref y3), .val (.ref b6), .val (.ref b87), .val (.ref b114), .val (.ref y3), .val (.int nb), .val (.int na), .val (.int kd), .val (.int y173), .unset] [(.int (((((na + (own_bel gA nb (0 : Int32) y173)) + (own_bel gA nb (1 : Int32) y173)) + (own_bel gA nb (2 : Int32) y173)) + (own_bel gA nb (3 : Int32) y173)) + (own_bel gA nb (4 : Int32) y173)))]))
      refine own_step (fun _ k => XS.istore X178.here hx rfl (hb hby at_353) rfl (l' := #[.val (.int w0), .val (.long q1), .second, .val (.long q2), .second, .val (.int w5), .val (.int w6), .val (.int na), .val (.int nb), .val (.int (1 : Int32)), .val (.ref y1), .val (.ref y3), .val (.ref b6), .val (.ref b87), .val (.ref b114), .val (.ref y3), .val (.int nb), .val (.int na), .val (.int kd), .val (.int y173), .val (.int (((((na + (own_bel gA nb (0 : Int32) y173)) + (own_bel gA nb (1 : Int32) y173)) + (own_bel gA nb (2 : Int32) y173)) + (own_bel gA nb (3 : Int32) y173)) + (own_bel gA nb (4 : Int32) y173)))]) rfl k) ?_
      show own_Fin p.tables e below _ (T178.setTop (mkF m 355 #[.val (.int w0), .val (.long q1), .second, .val (.long q2), .second, .val (.int w5), .val (.int w6), .val (.int na), .val (.int nb), .val (.int (1 : Int32)), .val (.ref y1), .val (.ref y3), .val (.ref b6), .val (.ref b87), .val (.ref b114), .val (.ref y3), .val (.int nb), .val (.int na), .val (.int kd), .val (.int y173), .val (.int (((((na + (own_bel gA nb (0 : Int32) y173)) + (own_bel gA nb (1 : Int32) y173)) + (own_bel gA nb (2 : Int32) y173)) + (own_bel gA nb (3 : Int32) y173)) + (own_bel gA nb (4 : Int32) y173)))] []))
      refine own_step (fun _ k => XS.aload X178.here hx rfl (hb hby at_355) rfl rfl k) ?_
      show own_Fin p.tables e below _ (T178.setTop (mkF m 357 #[.val (.int w0), .val (.long q1), .second, .val (.long q2), .second, .val (.int w5), .val (.int w6), .val (.int na), .val (.int nb), .val (.int (1 : Int32)), .val (.ref y1), .val (.ref y3), .val (.ref b6), .val (.ref b87), .val (.ref b114), .val (.ref y3), .val (.int nb), .val (.int na), .val (.int kd), .val (.int y173), .val (.int (((((na + (own_bel gA nb (0 : Int32) y173)) + (own_bel gA nb (1 : Int32) y173)) + (own_bel gA nb (2 : Int32) y173)) + (own_bel gA nb (3 : Int32) y173)) + (own_bel gA nb (4 : Int32) y173)))] [(.ref b114)]))
      refine own_step (fun _ k => XS.iload X178.here hx rfl (hb hby at_357) rfl k) ?_
      show own_Fin p.tables e below _ (T178.setTop (mkF m 359 #[.val (.int w0), .val (.long q1), .second, .val (.long q2), .second, .val (.int w5), .val (.int w6), .val (.int na), .val (.int nb), .val (.int (1 : Int32)), .val (.ref y1), .val (.ref y3), .val (.ref b6), .val (.ref b87), .val (.ref b114), .val (.ref y3), .val (.int nb), .val (.int na), .val (.int kd), .val (.int y173), .val (.int (((((na + (own_bel gA nb (0 : Int32) y173)) + (own_bel gA nb (1 : Int32) y173)) + (own_bel gA nb (2 : Int32) y173)) + (own_bel gA nb (3 : Int32) y173)) + (own_bel gA nb (4 : Int32) y173)))] [(.int (1 : Int32)), (.ref b114)]))
      refine own_step (fun _ k => XS.iload X178.here hx rfl (hb hby at_359) rfl k) ?_
      show own_Fin p.tables e below _ (T178.setTop (mkF m 361 #[.val (.int w0), .val (.long q1), .second, .val (.long q2), .second, .val (.int w5), .val (.int w6), .val (.int na), .val (.int nb), .val (.int (1 : Int32)), .val (.ref y1), .val (.ref y3), .val (.ref b6), .val (.ref b87), .val (.ref b114), .val (.ref y3), .val (.int nb), .val (.int na), .val (.int kd), .val (.int y173), .val (.int (((((na + (own_bel gA nb (0 : Int32) y173)) + (own_bel gA nb (1 : Int32) y173)) + (own_bel gA nb (2 : Int32) y173)) + (own_bel gA nb (3 : Int32) y173)) + (own_bel gA nb (4 : Int32) y173)))] [(.int y173), (.int (1 : Int32)), (.ref b114)]))
      obtain ⟨gR, hgR⟩ : ∃ z : Nat → Int32, z = fun i => [(0 : Int32), na, (na + nb)].getD i 0 := ⟨_, rfl⟩
      have fR : own_Arf Z T140.heap b87 .int 3 (fun i => .int (gR i)) := by rw [hgR]; exact own_Arf.ofI f145 [(0 : Int32), na, (na + nb)] rfl rfl
      have hcf := hhi
      have hbd := hab
      have hsr : own_sorted gC na (na + nb) := own_srt hb1 hb2 hb3 hb4 hna0 (by omega) hbd hcf
      obtain ⟨cq179, kq179, q179a, q179b, q179c⟩ := isOf hZ e178 fe140
      obtain ⟨_, _, ⟨T179, L179, k179, n179⟩, -, X179, ⟨Lc179, hQ179, l179, y179, z179⟩, st179⟩ := X178.virtualBack hx (y := (⟨"com/example/fusewright/fusewright/runtime/SparseMatrix", "firstAtOrAfter", "(II)I"⟩ : MethodName)) (z := (⟨"com/example/fusewright/fusewright/runtime/SparseMatrix", "firstAtOrAfter", "(II)I"⟩ : MethodName)) hown (mvT hZ (hw _ (List.mem_of_getElem? (i := 32) rfl))) (mvT hZ (hw _ (List.mem_of_getElem? (i := 33) rfl))) (notFace_of_selects (args := #[]) (mvT hZ (hw _ (List.mem_of_getElem? (i := 35) rfl)))) (mvT hZ (hw _ (List.mem_of_getElem? (i := 35) rfl))) (mvT hZ (hw _ (List.mem_of_getElem? (i := 34) rfl))) (by decide) (backOf (W := 0) (rm5 l Z a0 hw [] b114 (1 : Int32) y173 b87 b6 gR gC na (na + nb) T140.heap n0 f141 fs140_2 fs140_3 fR f144 (by decide) (by decide) (by rw [hgR]; rfl) (by rw [hgR]; rfl) hna0 (by omega) (by omega) hsr) hZ (hw _ (List.mem_of_getElem? (i := 36) rfl)) (hw _ (List.mem_of_getElem? (i := 9) rfl)) (by decide) (by decide)) q179a q179c (g := (mkF m 361 #[.val (.int w0), .val (.long q1), .second, .val (.long q2), .second, .val (.int w5), .val (.int w6), .val (.int na), .val (.int nb), .val (.int (1 : Int32)), .val (.ref y1), .val (.ref y3), .val (.ref b6), .val (.ref b87), .val (.ref b114), .val (.ref y3), .val (.int nb), .val (.int na), .val (.int kd), .val (.int y173), .val (.int (((((na + (own_bel gA nb (0 : Int32) y173)) + (own_bel gA nb (1 : Int32) y173)) + (own_bel gA nb (2 : Int32) y173)) + (own_bel gA nb (3 : Int32) y173)) + (own_bel gA nb (4 : Int32) y173)))] [(.int y173), (.int (1 : Int32)), (.ref b114)])) rfl (by rw [hml]; rfl) (Steps.refl _) (argsL := [(.int (1 : Int32)), (.int y173)]) (rest := []) (lenOf pd_3 rfl) rfl (by show 2 * 0 + _ ≤ _; exact Nat.le_of_eq rfl) (hb hby at_361) (fun _ _ => ⟨rfl, e178, (by decide : 6 + 0 ≤ _), (by decide : 41 + 0 ≤ _)⟩)
      dsimp only [Pt.U, Pt.locs, Pt.cells, Pt.slots] at X179 l179 y179 z179 st179 hQ179
      subst l179 y179 z179
      obtain ⟨res, rfl, N179q, e179, hv1, hv2, hv3, hv4⟩ := hQ179
      have N179 := Fr.app N178 N179q
      refine own_steps st179 ?_
      show own_Fin p.tables e below _ (T179.setTop (mkF m 364 #[.val (.int w0), .val (.long q1), .second, .val (.long q2), .second, .val (.int w5), .val (.int w6), .val (.int na), .val (.int nb), .val (.int (1 : Int32)), .val (.ref y1), .val (.ref y3), .val (.ref b6), .val (.ref b87), .val (.ref b114), .val (.ref y3), .val (.int nb), .val (.int na), .val (.int kd), .val (.int y173), .val (.int (((((na + (own_bel gA nb (0 : Int32) y173)) + (own_bel gA nb (1 : Int32) y173)) + (own_bel gA nb (2 : Int32) y173)) + (own_bel gA nb (3 : Int32) y173)) + (own_bel gA nb (4 : Int32) y173)))] [(.int res)]))
      refine own_step (fun _ k => XS.iload X179.here hx rfl (hb hby at_364) rfl k) ?_
      show own_Fin p.tables e below _ (T179.setTop (mkF m 366 #[.val (.int w0), .val (.long q1), .second, .val (.long q2), .second, .val (.int w5), .val (.int w6), .val (.int na), .val (.int nb), .val (.int (1 : Int32)), .val (.ref y1), .val (.ref y3), .val (.ref b6), .val (.ref b87), .val (.ref b114), .val (.ref y3), .val (.int nb), .val (.int na), .val (.int kd), .val (.int y173), .val (.int (((((na + (own_bel gA nb (0 : Int32) y173)) + (own_bel gA nb (1 : Int32) y173)) + (own_bel gA nb (2 : Int32) y173)) + (own_bel gA nb (3 : Int32) y173)) + (own_bel gA nb (4 : Int32) y173)))] [(.int (((((na + (own_bel gA nb (0 : Int32) y173)) + (own_bel gA nb (1 : Int32) y173)) + (own_bel gA nb (2 : Int32) y173)) + (own_bel gA nb (3 : Int32) y173)) + (own_bel gA nb (4 : Int32) y173))), (.int res)]))
      have ha180 : res = (((((na + (own_bel gA nb (0 : Int32) y173)) + (own_bel gA nb (1 : Int32) y173)) + (own_bel gA nb (2 : Int32) y173)) + (own_bel gA nb (3 : Int32) y173)) + (own_bel gA nb (4 : Int32) y173)) := by
        exact own_sum (bd := (na + nb)) (cf := gC) (by omega) (by omega) (by omega) (by omega) hbd hv1 hv2 (by rw [hgA]; exact hcf) hv3 hv4
      refine own_step (fun _ k => XS.icmpNo X179.here hx rfl (hb hby at_366) rfl ((teq ha180).2) k) ?_
      show own_Fin p.tables e below _ (T179.setTop (mkF m 369 #[.val (.int w0), .val (.long q1), .second, .val (.long q2), .second, .val (.int w5), .val (.int w6), .val (.int na), .val (.int nb), .val (.int (1 : Int32)), .val (.ref y1), .val (.ref y3), .val (.ref b6), .val (.ref b87), .val (.ref b114), .val (.ref y3), .val (.int nb), .val (.int na), .val (.int kd), .val (.int y173), .val (.int (((((na + (own_bel gA nb (0 : Int32) y173)) + (own_bel gA nb (1 : Int32) y173)) + (own_bel gA nb (2 : Int32) y173)) + (own_bel gA nb (3 : Int32) y173)) + (own_bel gA nb (4 : Int32) y173)))] []))
      refine own_step (fun _ k => XS.iconst X179.here hx rfl (hb hby at_369) k) ?_
      show own_Fin p.tables e below _ (T179.setTop (mkF m 370 #[.val (.int w0), .val (.long q1), .second, .val (.long q2), .second, .val (.int w5), .val (.int w6), .val (.int na), .val (.int nb), .val (.int (1 : Int32)), .val (.ref y1), .val (.ref y3), .val (.ref b6), .val (.ref b87), .val (.ref b114), .val (.ref y3), .val (.int nb), .val (.int na), .val (.int kd), .val (.int y173), .val (.int (((((na + (own_bel gA nb (0 : Int32) y173)) + (own_bel gA nb (1 : Int32) y173)) + (own_bel gA nb (2 : Int32) y173)) + (own_bel gA nb (3 : Int32) y173)) + (own_bel gA nb (4 : Int32) y173)))] [(.int (1 : Int32))]))
      refine own_step (fun _ k => XS.goto X179.here hx rfl (pc0 := 370) (pc' := 374) rfl (hb hby at_370) (by decide) (by decide) k) ?_
      show own_Fin p.tables e below _ (T179.setTop (mkF m 374 #[.val (.int w0), .val (.long q1), .second, .val (.long q2), .second, .val (.int w5), .val (.int w6), .val (.int na), .val (.int nb), .val (.int (1 : Int32)), .val (.ref y1), .val (.ref y3), .val (.ref b6), .val (.ref b87), .val (.ref b114), .val (.ref y3), .val (.int nb), .val (.int na), .val (.int kd), .val (.int y173), .val (.int (((((na + (own_bel gA nb (0 : Int32) y173)) + (own_bel gA nb (1 : Int32) y173)) + (own_bel gA nb (2 : Int32) y173)) + (own_bel gA nb (3 : Int32) y173)) + (own_bel gA nb (4 : Int32) y173)))] [(.int (1 : Int32))]))
      obtain ⟨fs181, hr181, hrun181, hended181, hW181, hsame181⟩ := X179.leave (v := some (.int (nar .boolean (1 : Int32)))) (fun h => by rw [Bd.returns] at h; cases h)
      refine own_ret (retN X179 hx (t := .boolean) Bd.returns (by simp) (hb hby at_374) hr181) hrun181 hended181 ?_
      refine ⟨_, _, rfl, ?_, ⟨_, rfl⟩, hW181, hsame181.mono (by decide) (by decide)⟩
      show Q0 Z w0 q1 q2 w5 w6 h0 n0 _ T179.heap _
      rw [e179]
      exact ⟨rfl, N179⟩
    by_cases hc170 : nb = (0 : Int32)
    · refine own_step (fun _ k => XS.ifYes X140.here hx rfl (pc0 := 243) (pc' := 252) rfl (hb hby at_243) rfl ((if0 _ _).trans (teq hc170).1) (by decide) (by decide) k) ?_
      show own_Fin p.tables e below _ (T140.setTop (mkF m 252 #[.val (.int w0), .val (.long q1), .second, .val (.long q2), .second, .val (.int w5), .val (.int w6), .val (.int na), .val (.int nb), .val (.int (1 : Int32)), .val (.ref y1), .val (.ref y3), .val (.ref b6), .val (.ref b87), .val (.ref b114), .val (.ref y3), .val (.int nb), .val (.int na), .val (.int kd), .unset, .unset] []))
      refine own_step (fun _ k => XS.iload X140.here hx rfl (hb hby at_252) rfl k) ?_
      show own_Fin p.tables e below _ (T140.setTop (mkF m 254 #[.val (.int w0), .val (.long q1), .second, .val (.long q2), .second, .val (.int w5), .val (.int w6), .val (.int na), .val (.int nb), .val (.int (1 : Int32)), .val (.ref y1), .val (.ref y3), .val (.ref b6), .val (.ref b87), .val (.ref b114), .val (.ref y3), .val (.int nb), .val (.int na), .val (.int kd), .unset, .unset] [(.int w6)]))
      refine own_step (fun _ k => XS.istore X140.here hx rfl (hb hby at_254) rfl (l' := #[.val (.int w0), .val (.long q1), .second, .val (.long q2), .second, .val (.int w5), .val (.int w6), .val (.int na), .val (.int nb), .val (.int (1 : Int32)), .val (.ref y1), .val (.ref y3), .val (.ref b6), .val (.ref b87), .val (.ref b114), .val (.ref y3), .val (.int nb), .val (.int na), .val (.int kd), .val (.int w6), .unset]) rfl k) ?_
      show own_Fin p.tables e below _ (T140.setTop (mkF m 256 #[.val (.int w0), .val (.long q1), .second, .val (.long q2), .second, .val (.int w5), .val (.int w6), .val (.int na), .val (.int nb), .val (.int (1 : Int32)), .val (.ref y1), .val (.ref y3), .val (.ref b6), .val (.ref b87), .val (.ref b114), .val (.ref y3), .val (.int nb), .val (.int na), .val (.int kd), .val (.int w6), .unset] []))
      refine own_step (fun _ k => XS.goto X140.here hx rfl (pc0 := 256) (pc' := 296) rfl (hb hby at_256) (by decide) (by decide) k) ?_
      show own_Fin p.tables e below _ (T140.setTop (mkF m 296 #[.val (.int w0), .val (.long q1), .second, .val (.long q2), .second, .val (.int w5), .val (.int w6), .val (.int na), .val (.int nb), .val (.int (1 : Int32)), .val (.ref y1), .val (.ref y3), .val (.ref b6), .val (.ref b87), .val (.ref b114), .val (.ref y3), .val (.int nb), .val (.int na), .val (.int kd), .val (.int w6), .unset] []))
      exact J171 T140 _ w6 X140 rfl N140 (by rw [if_pos hc170])
    · refine own_step (fun _ k => XS.ifNo X140.here hx rfl (hb hby at_243) rfl ((if0 _ _).trans (feq hc170).1) k) ?_
      show own_Fin p.tables e below _ (T140.setTop (mkF m 246 #[.val (.int w0), .val (.long q1), .second, .val (.long q2), .second, .val (.int w5), .val (.int w6), .val (.int na), .val (.int nb), .val (.int (1 : Int32)), .val (.ref y1), .val (.ref y3), .val (.ref b6), .val (.ref b87), .val (.ref b114), .val (.ref y3), .val (.int nb), .val (.int na), .val (.int kd), .unset, .unset] []))
      refine own_step (fun _ k => XS.iload X140.here hx rfl (hb hby at_246) rfl k) ?_
      show own_Fin p.tables e below _ (T140.setTop (mkF m 248 #[.val (.int w0), .val (.long q1), .second, .val (.long q2), .second, .val (.int w5), .val (.int w6), .val (.int na), .val (.int nb), .val (.int (1 : Int32)), .val (.ref y1), .val (.ref y3), .val (.ref b6), .val (.ref b87), .val (.ref b114), .val (.ref y3), .val (.int nb), .val (.int na), .val (.int kd), .unset, .unset] [(.int kd)]))
      refine own_step (fun _ k => XS.iconst X140.here hx rfl (hb hby at_248) k) ?_
      show own_Fin p.tables e below _ (T140.setTop (mkF m 249 #[.val (.int w0), .val (.long q1), .second, .val (.long q2), .second, .val (.int w5), .val (.int w6), .val (.int na), .val (.int nb), .val (.int (1 : Int32)), .val (.ref y1), .val (.ref y3), .val (.ref b6), .val (.ref b87), .val (.ref b114), .val (.ref y3), .val (.int nb), .val (.int na), .val (.int kd), .unset, .unset] [(.int (3 : Int32)), (.int kd)]))
      by_cases hc182 : (3 : Int32) < kd
      · refine own_step (fun _ k => XS.icmpNo X140.here hx rfl (hb hby at_249) rfl ((tlt hc182).2.2.2) k) ?_
        show own_Fin p.tables e below _ (T140.setTop (mkF m 252 #[.val (.int w0), .val (.long q1), .second, .val (.long q2), .second, .val (.int w5), .val (.int w6), .val (.int na), .val (.int nb), .val (.int (1 : Int32)), .val (.ref y1), .val (.ref y3), .val (.ref b6), .val (.ref b87), .val (.ref b114), .val (.ref y3), .val (.int nb), .val (.int na), .val (.int kd), .unset, .unset] []))
        refine own_step (fun _ k => XS.iload X140.here hx rfl (hb hby at_252) rfl k) ?_
        show own_Fin p.tables e below _ (T140.setTop (mkF m 254 #[.val (.int w0), .val (.long q1), .second, .val (.long q2), .second, .val (.int w5), .val (.int w6), .val (.int na), .val (.int nb), .val (.int (1 : Int32)), .val (.ref y1), .val (.ref y3), .val (.ref b6), .val (.ref b87), .val (.ref b114), .val (.ref y3), .val (.int nb), .val (.int na), .val (.int kd), .unset, .unset] [(.int w6)]))
        refine own_step (fun _ k => XS.istore X140.here hx rfl (hb hby at_254) rfl (l' := #[.val (.int w0), .val (.long q1), .second, .val (.long q2), .second, .val (.int w5), .val (.int w6), .val (.int na), .val (.int nb), .val (.int (1 : Int32)), .val (.ref y1), .val (.ref y3), .val (.ref b6), .val (.ref b87), .val (.ref b114), .val (.ref y3), .val (.int nb), .val (.int na), .val (.int kd), .val (.int w6), .unset]) rfl k) ?_
        show own_Fin p.tables e below _ (T140.setTop (mkF m 256 #[.val (.int w0), .val (.long q1), .second, .val (.long q2), .second, .val (.int w5), .val (.int w6), .val (.int na), .val (.int nb), .val (.int (1 : Int32)), .val (.ref y1), .val (.ref y3), .val (.ref b6), .val (.ref b87), .val (.ref b114), .val (.ref y3), .val (.int nb), .val (.int na), .val (.int kd), .val (.int w6), .unset] []))
        refine own_step (fun _ k => XS.goto X140.here hx rfl (pc0 := 256) (pc' := 296) rfl (hb hby at_256) (by decide) (by decide) k) ?_
        show own_Fin p.tables e below _ (T140.setTop (mkF m 296 #[.val (.int w0), .val (.long q1), .second, .val (.long q2), .second, .val (.int w5), .val (.int w6), .val (.int na), .val (.int nb), .val (.int (1 : Int32)), .val (.ref y1), .val (.ref y3), .val (.ref b6), .val (.ref b87), .val (.ref b114), .val (.ref y3), .val (.int nb), .val (.int na), .val (.int kd), .val (.int w6), .unset] []))
        exact J171 T140 _ w6 X140 rfl N140 (by rw [if_neg hc170, if_pos hc182])
      · refine own_step (fun _ k => XS.icmpYes X140.here hx rfl (pc0 := 249) (pc' := 259) rfl (hb hby at_249) rfl ((flt hc182).2.2.2) (by decide) (by decide) k) ?_
        show own_Fin p.tables e below _ (T140.setTop (mkF m 259 #[.val (.int w0), .val (.long q1), .second, .val (.long q2), .second, .val (.int w5), .val (.int w6), .val (.int na), .val (.int nb), .val (.int (1 : Int32)), .val (.ref y1), .val (.ref y3), .val (.ref b6), .val (.ref b87), .val (.ref b114), .val (.ref y3), .val (.int nb), .val (.int na), .val (.int kd), .unset, .unset] []))
        refine own_step (fun _ k => XS.iload X140.here hx rfl (hb hby at_259) rfl k) ?_
        show own_Fin p.tables e below _ (T140.setTop (mkF m 261 #[.val (.int w0), .val (.long q1), .second, .val (.long q2), .second, .val (.int w5), .val (.int w6), .val (.int na), .val (.int nb), .val (.int (1 : Int32)), .val (.ref y1), .val (.ref y3), .val (.ref b6), .val (.ref b87), .val (.ref b114), .val (.ref y3), .val (.int nb), .val (.int na), .val (.int kd), .unset, .unset] [(.int kd)]))
        refine own_step (fun _ k => XS.iconst X140.here hx rfl (hb hby at_261) k) ?_
        show own_Fin p.tables e below _ (T140.setTop (mkF m 262 #[.val (.int w0), .val (.long q1), .second, .val (.long q2), .second, .val (.int w5), .val (.int w6), .val (.int na), .val (.int nb), .val (.int (1 : Int32)), .val (.ref y1), .val (.ref y3), .val (.ref b6), .val (.ref b87), .val (.ref b114), .val (.ref y3), .val (.int nb), .val (.int na), .val (.int kd), .unset, .unset] [(.int (3 : Int32)), (.int kd)]))
        by_cases hc183 : kd = (3 : Int32)
        · refine own_step (fun _ k => XS.icmpNo X140.here hx rfl (hb hby at_262) rfl ((teq hc183).2) k) ?_
          show own_Fin p.tables e below _ (T140.setTop (mkF m 265 #[.val (.int w0), .val (.long q1), .second, .val (.long q2), .second, .val (.int w5), .val (.int w6), .val (.int na), .val (.int nb), .val (.int (1 : Int32)), .val (.ref y1), .val (.ref y3), .val (.ref b6), .val (.ref b87), .val (.ref b114), .val (.ref y3), .val (.int nb), .val (.int na), .val (.int kd), .unset, .unset] []))
          refine own_step (fun _ k => XS.iload X140.here hx rfl (hb hby at_265) rfl k) ?_
          show own_Fin p.tables e below _ (T140.setTop (mkF m 267 #[.val (.int w0), .val (.long q1), .second, .val (.long q2), .second, .val (.int w5), .val (.int w6), .val (.int na), .val (.int nb), .val (.int (1 : Int32)), .val (.ref y1), .val (.ref y3), .val (.ref b6), .val (.ref b87), .val (.ref b114), .val (.ref y3), .val (.int nb), .val (.int na), .val (.int kd), .unset, .unset] [(.int w6)]))
          refine own_step (fun _ k => XS.sipush X140.here hx rfl (hb hby at_267) k) ?_
          show own_Fin p.tables e below _ (T140.setTop (mkF m 270 #[.val (.int w0), .val (.long q1), .second, .val (.long q2), .second, .val (.int w5), .val (.int w6), .val (.int na), .val (.int nb), .val (.int (1 : Int32)), .val (.ref y1), .val (.ref y3), .val (.ref b6), .val (.ref b87), .val (.ref b114), .val (.ref y3), .val (.int nb), .val (.int na), .val (.int kd), .unset, .unset] [(.int (2047 : Int32)), (.int w6)]))
          refine own_step (fun _ k => XS.iand X140.here hx rfl (hb hby at_270) rfl k) ?_
          show own_Fin p.tables e below _ (T140.setTop (mkF m 271 #[.val (.int w0), .val (.long q1), .second, .val (.long q2), .second, .val (.int w5), .val (.int w6), .val (.int na), .val (.int nb), .val (.int (1 : Int32)), .val (.ref y1), .val (.ref y3), .val (.ref b6), .val (.ref b87), .val (.ref b114), .val (.ref y3), .val (.int nb), .val (.int na), .val (.int kd), .unset, .unset] [(.int (w6 &&& (2047 : Int32)))]))
          refine own_step (fun _ k => XS.istore X140.here hx rfl (hb hby at_271) rfl (l' := #[.val (.int w0), .val (.long q1), .second, .val (.long q2), .second, .val (.int w5), .val (.int w6), .val (.int na), .val (.int nb), .val (.int (1 : Int32)), .val (.ref y1), .val (.ref y3), .val (.ref b6), .val (.ref b87), .val (.ref b114), .val (.ref y3), .val (.int nb), .val (.int na), .val (.int kd), .val (.int (w6 &&& (2047 : Int32))), .unset]) rfl k) ?_
          show own_Fin p.tables e below _ (T140.setTop (mkF m 273 #[.val (.int w0), .val (.long q1), .second, .val (.long q2), .second, .val (.int w5), .val (.int w6), .val (.int na), .val (.int nb), .val (.int (1 : Int32)), .val (.ref y1), .val (.ref y3), .val (.ref b6), .val (.ref b87), .val (.ref b114), .val (.ref y3), .val (.int nb), .val (.int na), .val (.int kd), .val (.int (w6 &&& (2047 : Int32))), .unset] []))
          refine own_step (fun _ k => XS.goto X140.here hx rfl (pc0 := 273) (pc' := 296) rfl (hb hby at_273) (by decide) (by decide) k) ?_
          show own_Fin p.tables e below _ (T140.setTop (mkF m 296 #[.val (.int w0), .val (.long q1), .second, .val (.long q2), .second, .val (.int w5), .val (.int w6), .val (.int na), .val (.int nb), .val (.int (1 : Int32)), .val (.ref y1), .val (.ref y3), .val (.ref b6), .val (.ref b87), .val (.ref b114), .val (.ref y3), .val (.int nb), .val (.int na), .val (.int kd), .val (.int (w6 &&& (2047 : Int32))), .unset] []))
          exact J171 T140 _ (w6 &&& (2047 : Int32)) X140 rfl N140 (by rw [if_neg hc170, if_neg hc182, if_pos hc183])
        · refine own_step (fun _ k => XS.icmpYes X140.here hx rfl (pc0 := 262) (pc' := 276) rfl (hb hby at_262) rfl ((feq hc183).2) (by decide) (by decide) k) ?_
          show own_Fin p.tables e below _ (T140.setTop (mkF m 276 #[.val (.int w0), .val (.long q1), .second, .val (.long q2), .second, .val (.int w5), .val (.int w6), .val (.int na), .val (.int nb), .val (.int (1 : Int32)), .val (.ref y1), .val (.ref y3), .val (.ref b6), .val (.ref b87), .val (.ref b114), .val (.ref y3), .val (.int nb), .val (.int na), .val (.int kd), .unset, .unset] []))
          refine own_step (fun _ k => XS.aload X140.here hx rfl (hb hby at_276) rfl rfl k) ?_
          show own_Fin p.tables e below _ (T140.setTop (mkF m 278 #[.val (.int w0), .val (.long q1), .second, .val (.long q2), .second, .val (.int w5), .val (.int w6), .val (.int na), .val (.int nb), .val (.int (1 : Int32)), .val (.ref y1), .val (.ref y3), .val (.ref b6), .val (.ref b87), .val (.ref b114), .val (.ref y3), .val (.int nb), .val (.int na), .val (.int kd), .unset, .unset] [(.ref y3)]))
          refine own_step (fun _ k => XS.iload X140.here hx rfl (hb hby at_278) rfl k) ?_
          show own_Fin p.tables e below _ (T140.setTop (mkF m 280 #[.val (.int w0), .val (.long q1), .second, .val (.long q2), .second, .val (.int w5), .val (.int w6), .val (.int na), .val (.int nb), .val (.int (1 : Int32)), .val (.ref y1), .val (.ref y3), .val (.ref b6), .val (.ref b87), .val (.ref b114), .val (.ref y3), .val (.int nb), .val (.int na), .val (.int kd), .unset, .unset] [(.int w5), (.ref y3)]))
          refine own_step (fun _ k => XS.iconst X140.here hx rfl (hb hby at_280) k) ?_
          show own_Fin p.tables e below _ (T140.setTop (mkF m 281 #[.val (.int w0), .val (.long q1), .second, .val (.long q2), .second, .val (.int w5), .val (.int w6), .val (.int na), .val (.int nb), .val (.int (1 : Int32)), .val (.ref y1), .val (.ref y3), .val (.ref b6), .val (.ref b87), .val (.ref b114), .val (.ref y3), .val (.int nb), .val (.int na), .val (.int kd), .unset, .unset] [(.int (3 : Int32)), (.int w5), (.ref y3)]))
          refine own_step (fun _ k => XS.iushr X140.here hx rfl (hb hby at_281) rfl k) ?_
          show own_Fin p.tables e below _ (T140.setTop (mkF m 282 #[.val (.int w0), .val (.long q1), .second, .val (.long q2), .second, .val (.int w5), .val (.int w6), .val (.int na), .val (.int nb), .val (.int (1 : Int32)), .val (.ref y1), .val (.ref y3), .val (.ref b6), .val (.ref b87), .val (.ref b114), .val (.ref y3), .val (.int nb), .val (.int na), .val (.int kd), .unset, .unset] [(.int ((w5.toUInt32 >>> ((3 : Int32) &&& 31).toUInt32).toInt32)), (.ref y3)]))
          refine own_step (fun _ k => XS.bipush X140.here hx rfl (hb hby at_282) k) ?_
          show own_Fin p.tables e below _ (T140.setTop (mkF m 284 #[.val (.int w0), .val (.long q1), .second, .val (.long q2), .second, .val (.int w5), .val (.int w6), .val (.int na), .val (.int nb), .val (.int (1 : Int32)), .val (.ref y1), .val (.ref y3), .val (.ref b6), .val (.ref b87), .val (.ref b114), .val (.ref y3), .val (.int nb), .val (.int na), .val (.int kd), .unset, .unset] [(.int (7 : Int32)), (.int ((w5.toUInt32 >>> ((3 : Int32) &&& 31).toUInt32).toInt32)), (.ref y3)]))
          refine own_step (fun _ k => XS.iand X140.here hx rfl (hb hby at_284) rfl k) ?_
          show own_Fin p.tables e below _ (T140.setTop (mkF m 285 #[.val (.int w0), .val (.long q1), .second, .val (.long q2), .second, .val (.int w5), .val (.int w6), .val (.int na), .val (.int nb), .val (.int (1 : Int32)), .val (.ref y1), .val (.ref y3), .val (.ref b6), .val (.ref b87), .val (.ref b114), .val (.ref y3), .val (.int nb), .val (.int na), .val (.int kd), .unset, .unset] [(.int (((w5.toUInt32 >>> ((3 : Int32) &&& 31).toUInt32).toInt32) &&& (7 : Int32))), (.ref y3)]))
          refine own_step (fun _ k => XS.iload X140.here hx rfl (hb hby at_285) rfl k) ?_
          show own_Fin p.tables e below _ (T140.setTop (mkF m 287 #[.val (.int w0), .val (.long q1), .second, .val (.long q2), .second, .val (.int w5), .val (.int w6), .val (.int na), .val (.int nb), .val (.int (1 : Int32)), .val (.ref y1), .val (.ref y3), .val (.ref b6), .val (.ref b87), .val (.ref b114), .val (.ref y3), .val (.int nb), .val (.int na), .val (.int kd), .unset, .unset] [(.int nb), (.int (((w5.toUInt32 >>> ((3 : Int32) &&& 31).toUInt32).toInt32) &&& (7 : Int32))), (.ref y3)]))
          refine own_step (fun _ k => XS.irem X140.here hx rfl (hb hby at_287) rfl hc170 k) ?_
          show own_Fin p.tables e below _ (T140.setTop (mkF m 288 #[.val (.int w0), .val (.long q1), .second, .val (.long q2), .second, .val (.int w5), .val (.int w6), .val (.int na), .val (.int nb), .val (.int (1 : Int32)), .val (.ref y1), .val (.ref y3), .val (.ref b6), .val (.ref b87), .val (.ref b114), .val (.ref y3), .val (.int nb), .val (.int na), .val (.int kd), .unset, .unset] [(.int ((((w5.toUInt32 >>> ((3 : Int32) &&& 31).toUInt32).toInt32) &&& (7 : Int32)) - ((((w5.toUInt32 >>> ((3 : Int32) &&& 31).toUInt32).toInt32) &&& (7 : Int32)) / nb) * nb)), (.ref y3)]))
          have hj288 := own_rem (x := (((w5.toUInt32 >>> ((3 : Int32) &&& 31).toUInt32).toInt32) &&& (7 : Int32))) (y := nb) (c_and _ 7 (by decide)).1 (own_p0 hc170 (by omega))
          obtain ⟨cl184, Ar184, S184, H184⟩ := id fA
          have hin184 : ¬ (((((w5.toUInt32 >>> ((3 : Int32) &&& 31).toUInt32).toInt32) &&& (7 : Int32)) - ((((w5.toUInt32 >>> ((3 : Int32) &&& 31).toUInt32).toInt32) &&& (7 : Int32)) / nb) * nb) < 0 ∨ cl184.slots.size ≤ (((((w5.toUInt32 >>> ((3 : Int32) &&& 31).toUInt32).toInt32) &&& (7 : Int32)) - ((((w5.toUInt32 >>> ((3 : Int32) &&& 31).toUInt32).toInt32) &&& (7 : Int32)) / nb) * nb)).toNatClampNeg) := own_in S184 ⟨hj288.1, by have := hj288.2; omega⟩
          refine own_step (X140.iaload hx (j := ((((w5.toUInt32 >>> ((3 : Int32) &&& 31).toUInt32).toInt32) &&& (7 : Int32)) - ((((w5.toUInt32 >>> ((3 : Int32) &&& 31).toUInt32).toInt32) &&& (7 : Int32)) / nb) * nb)) (v := (.int (gA (((((w5.toUInt32 >>> ((3 : Int32) &&& 31).toUInt32).toInt32) &&& (7 : Int32)) - ((((w5.toUInt32 >>> ((3 : Int32) &&& 31).toUInt32).toInt32) &&& (7 : Int32)) / nb) * nb)).toNatClampNeg))) (by first | exact Ar184.1 | (rw [rfl]; exact Ar184.1)) (State.isArrayOf_alike hZ.alike Ar184.2.1) Ar184.2.2 hin184 (H184 _ (own_in2 ⟨hj288.1, by have := hj288.2; omega⟩)) (g := (mkF m 288 #[.val (.int w0), .val (.long q1), .second, .val (.long q2), .second, .val (.int w5), .val (.int w6), .val (.int na), .val (.int nb), .val (.int (1 : Int32)), .val (.ref y1), .val (.ref y3), .val (.ref b6), .val (.ref b87), .val (.ref b114), .val (.ref y3), .val (.int nb), .val (.int na), .val (.int kd), .unset, .unset] [(.int ((((w5.toUInt32 >>> ((3 : Int32) &&& 31).toUInt32).toInt32) &&& (7 : Int32)) - ((((w5.toUInt32 >>> ((3 : Int32) &&& 31).toUInt32).toInt32) &&& (7 : Int32)) / nb) * nb)), (.ref y3)])) rfl rfl (hb hby at_288)) ?_
          show own_Fin p.tables e below _ (T140.setTop (mkF m 289 #[.val (.int w0), .val (.long q1), .second, .val (.long q2), .second, .val (.int w5), .val (.int w6), .val (.int na), .val (.int nb), .val (.int (1 : Int32)), .val (.ref y1), .val (.ref y3), .val (.ref b6), .val (.ref b87), .val (.ref b114), .val (.ref y3), .val (.int nb), .val (.int na), .val (.int kd), .unset, .unset] [(.int (gA (((((w5.toUInt32 >>> ((3 : Int32) &&& 31).toUInt32).toInt32) &&& (7 : Int32)) - ((((w5.toUInt32 >>> ((3 : Int32) &&& 31).toUInt32).toInt32) &&& (7 : Int32)) / nb) * nb)).toNatClampNeg))]))
          refine own_step (fun _ k => XS.iload X140.here hx rfl (hb hby at_289) rfl k) ?_
          show own_Fin p.tables e below _ (T140.setTop (mkF m 291 #[.val (.int w0), .val (.long q1), .second, .val (.long q2), .second, .val (.int w5), .val (.int w6), .val (.int na), .val (.int nb), .val (.int (1 : Int32)), .val (.ref y1), .val (.ref y3), .val (.ref b6), .val (.ref b87), .val (.ref b114), .val (.ref y3), .val (.int nb), .val (.int na), .val (.int kd), .unset, .unset] [(.int kd), (.int (gA (((((w5.toUInt32 >>> ((3 : Int32) &&& 31).toUInt32).toInt32) &&& (7 : Int32)) - ((((w5.toUInt32 >>> ((3 : Int32) &&& 31).toUInt32).toInt32) &&& (7 : Int32)) / nb) * nb)).toNatClampNeg))]))
          refine own_step (fun _ k => XS.iadd X140.here hx rfl (hb hby at_291) rfl k) ?_
          show own_Fin p.tables e below _ (T140.setTop (mkF m 292 #[.val (.int w0), .val (.long q1), .second, .val (.long q2), .second, .val (.int w5), .val (.int w6), .val (.int na), .val (.int nb), .val (.int (1 : Int32)), .val (.ref y1), .val (.ref y3), .val (.ref b6), .val (.ref b87), .val (.ref b114), .val (.ref y3), .val (.int nb), .val (.int na), .val (.int kd), .unset, .unset] [(.int ((gA (((((w5.toUInt32 >>> ((3 : Int32) &&& 31).toUInt32).toInt32) &&& (7 : Int32)) - ((((w5.toUInt32 >>> ((3 : Int32) &&& 31).toUInt32).toInt32) &&& (7 : Int32)) / nb) * nb)).toNatClampNeg) + kd))]))
          refine own_step (fun _ k => XS.iconst X140.here hx rfl (hb hby at_292) k) ?_
          show own_Fin p.tables e below _ (T140.setTop (mkF m 293 #[.val (.int w0), .val (.long q1), .second, .val (.long q2), .second, .val (.int w5), .val (.int w6), .val (.int na), .val (.int nb), .val (.int (1 : Int32)), .val (.ref y1), .val (.ref y3), .val (.ref b6), .val (.ref b87), .val (.ref b114), .val (.ref y3), .val (.int nb), .val (.int na), .val (.int kd), .unset, .unset] [(.int (1 : Int32)), (.int ((gA (((((w5.toUInt32 >>> ((3 : Int32) &&& 31).toUInt32).toInt32) &&& (7 : Int32)) - ((((w5.toUInt32 >>> ((3 : Int32) &&& 31).toUInt32).toInt32) &&& (7 : Int32)) / nb) * nb)).toNatClampNeg) + kd))]))
          refine own_step (fun _ k => XS.isub X140.here hx rfl (hb hby at_293) rfl k) ?_
          show own_Fin p.tables e below _ (T140.setTop (mkF m 294 #[.val (.int w0), .val (.long q1), .second, .val (.long q2), .second, .val (.int w5), .val (.int w6), .val (.int na), .val (.int nb), .val (.int (1 : Int32)), .val (.ref y1), .val (.ref y3), .val (.ref b6), .val (.ref b87), .val (.ref b114), .val (.ref y3), .val (.int nb), .val (.int na), .val (.int kd), .unset, .unset] [(.int (((gA (((((w5.toUInt32 >>> ((3 : Int32) &&& 31).toUInt32).toInt32) &&& (7 : Int32)) - ((((w5.toUInt32 >>> ((3 : Int32) &&& 31).toUInt32).toInt32) &&& (7 : Int32)) / nb) * nb)).toNatClampNeg) + kd) - (1 : Int32)))]))
          refine own_step (fun _ k => XS.istore X140.here hx rfl (hb hby at_294) rfl (l' := #[.val (.int w0), .val (.long q1), .second, .val (.long q2), .second, .val (.int w5), .val (.int w6), .val (.int na), .val (.int nb), .val (.int (1 : Int32)), .val (.ref y1), .val (.ref y3), .val (.ref b6), .val (.ref b87), .val (.ref b114), .val (.ref y3), .val (.int nb), .val (.int na), .val (.int kd), .val (.int (((gA (((((w5.toUInt32 >>> ((3 : Int32) &&& 31).toUInt32).toInt32) &&& (7 : Int32)) - ((((w5.toUInt32 >>> ((3 : Int32) &&& 31).toUInt32).toInt32) &&& (7 : Int32)) / nb) * nb)).toNatClampNeg) + kd) - (1 : Int32))), .unset]) rfl k) ?_
          show own_Fin p.tables e below _ (T140.setTop (mkF m 296 #[.val (.int w0), .val (.long q1), .second, .val (.long q2), .second, .val (.int w5), .val (.int w6), .val (.int na), .val (.int nb), .val (.int (1 : Int32)), .val (.ref y1), .val (.ref y3), .val (.ref b6), .val (.ref b87), .val (.ref b114), .val (.ref y3), .val (.int nb), .val (.int na), .val (.int kd), .val (.int (((gA (((((w5.toUInt32 >>> ((3 : Int32) &&& 31).toUInt32).toInt32) &&& (7 : Int32)) - ((((w5.toUInt32 >>> ((3 : Int32) &&& 31).toUInt32).toInt32) &&& (7 : Int32)) / nb) * nb)).toNatClampNeg) + kd) - (1 : Int32))), .unset] []))
          exact J171 T140 _ (((gA (((((w5.toUInt32 >>> ((3 : Int32) &&& 31).toUInt32).toInt32) &&& (7 : Int32)) - ((((w5.toUInt32 >>> ((3 : Int32) &&& 31).toUInt32).toInt32) &&& (7 : Int32)) / nb) * nb)).toNatClampNeg) + kd) - (1 : Int32)) X140 rfl N140 (by rw [if_neg hc170, if_neg hc182, if_neg hc183])
set_option maxRecDepth 65536 in
set_option maxHeartbeats 40000000 in
theorem comes_1 {Post : Tables → Env → Array Value → State → Outcome → State → Prop} (hpost : ∀ tb e args s v u, (limb_1_1.after args s (.returned v) u = true ∧ limb_1_2.after args s (.returned v) u = true ∧ True) → FrameEnd s (.returned v) u (Jvm.fieldLocs frame_1_writes args s ++ Jvm.arrayLocs frame_1_arrays args s ++ Jvm.staticLocs frame_1_statics s) 24 192 → Post tb e args s (.returned v) u) :
    ArmFor flags0 classFile x code maxLocals ret World_1 tables_1 room_1 Calls_1 rest_1 Pre_1 Post := by
  intro l hfl _ _ p e ha hc hk s m args below hf hA hF happ hP
  obtain ⟨hcalls, hrest, hpre⟩ := hP
  obtain ⟨-, -, -, hnamed, -, -, -, hat⟩ := (Spec.applies_iff hf).mp happ
  obtain ⟨hg, hn⟩ := and_e (Cond.before_iff.mp (show (Jvm.Cond.and given_1 narrow_1).before args s = true from hpre))
  obtain ⟨g1, g2⟩ := and_e hg
  obtain ⟨g3, g4⟩ := and_e g2
  obtain ⟨g5, g6⟩ := and_e g4
  obtain ⟨g7, g8⟩ := and_e g6
  obtain ⟨g9, g10⟩ := and_e g8
  obtain ⟨w0, w1, w2, w3, w4, rfl⟩ : ∃ w0 w1 w2 w3 w4 : Value, args = #[w0, w1, w2, w3, w4] := by
    have hs : args.size = 5 := by simpa [Cond.value, given_1] using g1
    obtain ⟨L⟩ := args
    match L, hs with
    | [w0, w1, w2, w3, w4], _ => exact ⟨w0, w1, w2, w3, w4, rfl⟩
  have hw := fun d (hd : d ∈ tables_1) => atoms_spec (ws := Jvm.Cond.code x code maxLocals ret :: tables_1) hat d (List.mem_cons_of_mem _ hd)
  have hfit : Fit s := fun {y c} hc i hi => by
    obtain ⟨ha, rfl⟩ := Array.getElem?_eq_some_iff.mp hc
    have q := List.all_eq_true.mp ((Array.all_eq_true_iff_forall_mem.mp hF) _ (Array.getElem_mem ha)) i (List.mem_range.mpr hi)
    simpa [Array.getElem?_eq_getElem hi] using q
  obtain ⟨i0, ei0⟩ := is_v g3
  obtain rfl : w0 = (.int i0) := Option.some.inj ei0
  obtain ⟨i1, ei1⟩ := isL_v g5
  obtain rfl : w1 = (.long i1) := Option.some.inj ei1
  obtain ⟨i2, ei2⟩ := isL_v g7
  obtain rfl : w2 = (.long i2) := Option.some.inj ei2
  obtain ⟨i3, ei3⟩ := is_v g9
  obtain rfl : w3 = (.int i3) := Option.some.inj ei3
  obtain ⟨i4, ei4⟩ := is_v g10
  obtain rfl : w4 = (.int i4) := Option.some.inj ei4
  obtain ⟨n, o, h1, h2, h3, _, L, rfl, ⟨rfl, N⟩, hq⟩ := rm0 l s _ hw tables_1 i0 i1 i2 i3 i4 s.heap s.heap.size (Nat.le_refl _)  p e ha hc hk s m _ below hf ((Spec.applies_iff_loose hf).mp happ).1 ⟨rfl, State.Warmed39.refl s, rfl⟩ trivial
  refine ⟨n, _, h1, h2, h3, hpost _ _ _ _ _ _ ⟨Cond.after_iff.mpr rfl, Cond.after_iff.mpr (eq_i res_at (Term.int_eval (1)) rfl), trivial⟩ ⟨hq.1, hq.2.1, (hq.2.2.sift fun y hy => Or.inr (N y hy)).mono (by decide) (by decide)⟩⟩
theorem main_1_1 : Claimed_1_1 := comes_1 fun _ _ _ _ _ _ h hF => ⟨h.1, hF⟩
theorem main_1_2 : Claimed_1_2 := comes_1 fun _ _ _ _ _ _ h hF => ⟨h.2.1, hF⟩
end Jvm.Pilot.@@N@@
namespace Jvm.Pilot.@@N@@
open Jvm Jvm.ClassFile Sem Op Lib Jvm.Free Jvm.Stand Jvm.Pilot.@@N@@.Jvm.D
/-! MADE BY PROGRAM (witnessworld.py) out of the Statement's table words and the real class files: 10 classes; the members and pool entries that the words name. The judged class is class 1, her method 3. -/
namespace start1
open Jvm.ClassFile
def u (s : String) : CpInfo := .utf8 (stringToUtf16 s)
/-- a pool by its gaps: so many unusable entries, then the entry; so many at the end -/
def gap : Nat → List CpInfo → List CpInfo
  | 0, r => r
  | n + 1, r => .unusable :: gap n r
def poolList (es : List (Nat × CpInfo)) (last : Nat) : List CpInfo := es.foldr (fun e r => gap e.1 (e.2 :: r)) (gap last [])
def pool (es : List (Nat × CpInfo)) (last : Nat) : Array CpInfo := ⟨poolList es last⟩
def fileOf (pool : Array CpInfo) (this : Nat) (attrs : Array Attribute := #[]) (ms : Array MethodInfo := #[]) (fl : Nat := 33) (sup : Nat := 0) (ifs : Array Nat := #[]) (fds : Array FieldInfo := #[]) : ClassFile where
  minorVersion := 0
  majorVersion := 65
  constantPool := pool
  accessFlags := fl
  thisClass := this
  superClass := sup
  interfaces := ifs
  fields := fds
  methods := ms
  attributes := attrs
def plain (name : String) (sup : Option ClassId) : Class where
  name := name
  kind := .ordinary
  loader := none
  accessFlags := 33
  super := sup
  interfaces := #[]
  cf := none
  fields := #[]
  methods := #[]
  instanceTypes := #[]
  staticTypes := #[]
  resolved := #[]
  callSites := []
  init := .initialized
  statics := none
  mirror := none

def pool0 : Array CpInfo := pool [(5, u "<init>"), (0, u "()V"), (1, .class_ 10), (1, u "java/lang/Object")] 113

def k0c0 : Code := { maxStack := 0, maxLocals := 1, code := object_method_1_code, exceptionTable := #[], attributes := #[] }
def k0m0 : Method := { name := "<init>", desc := "()V", sig := { parameters := [], returnType := none }, accessFlags := 1, code := some k0c0 }
/-- java/lang/Object -/
def k0 : Class := { plain "java/lang/Object" none with
  accessFlags := 33
  interfaces := #[]
  cf := some (fileOf pool0 8 #[] #[{ accessFlags := 1, nameIndex := 5, descriptorIndex := 6, attributes := #[] }] 33 0 #[] #[])
  fields := #[]
  methods := #[k0m0]
  instanceTypes := #[]
  staticTypes := #[]
  resolved := Array.replicate 124 none
  statics := none }

def pool1 : Array CpInfo := pool [(2, .class_ 4), (1, u "java/lang/Object"), (0, u "<init>"), (0, u "()V"), (0, .long 255), (1, .methodref 10 11), (0, .class_ 12), (0, .nameAndType 13 14), (0, u "com/example/fusewright/fusewright/runtime/SparseMatrixFirstAtOrAfterPinLaw"), (0, u "cols"), (0, u "(J)[I"), (2, .integer 2147483648), (0, .class_ 19), (0, u "com/example/fusewright/fusewright/runtime/SparseMatrix"), (0, .methodref 18 21), (0, .nameAndType 5 22), (0, u "(II[I[I[DD)V"), (0, .methodref 10 24), (0, .nameAndType 25 26), (0, u "below"), (0, u "([IIII)I"), (0, .methodref 18 28), (0, .nameAndType 29 30), (0, u "firstAtOrAfter"), (0, u "(II)I"), (3, u "law"), (0, u "(IJJII)Z")] 4

def k1m0 : Method := { name := "<init>", desc := "()V", sig := { parameters := [], returnType := none }, accessFlags := 2, code := none }
def k1c1 : Code := { maxStack := 7, maxLocals := 3, code := method_2_code, exceptionTable := #[], attributes := #[] }
def k1m1 : Method := { name := "cols", desc := "(J)[I", sig := { parameters := [.long], returnType := some (.array .int) }, accessFlags := 10, code := some k1c1 }
def k1c2 : Code := { maxStack := 2, maxLocals := 4, code := method_3_code, exceptionTable := #[], attributes := #[] }
def k1m2 : Method := { name := "below", desc := "([IIII)I", sig := { parameters := [(.array .int), .int, .int, .int], returnType := some .int }, accessFlags := 10, code := some k1c2 }
def k1c3 : Code := { maxStack := 9, maxLocals := 21, code := code, exceptionTable := #[], attributes := #[] }
def k1m3 : Method := { name := "law", desc := "(IJJII)Z", sig := { parameters := [.int, .long, .long, .int, .int], returnType := some .boolean }, accessFlags := 9, code := some k1c3 }
/-- com/example/fusewright/fusewright/runtime/SparseMatrixFirstAtOrAfterPinLaw -/
def k1 : Class := { plain "com/example/fusewright/fusewright/runtime/SparseMatrixFirstAtOrAfterPinLaw" (some 0) with
  accessFlags := 49
  interfaces := #[]
  cf := some (fileOf pool1 10 #[] #[{ accessFlags := 2, nameIndex := 5, descriptorIndex := 6, attributes := #[] }, { accessFlags := 10, nameIndex := 13, descriptorIndex := 14, attributes := #[] }, { accessFlags := 10, nameIndex := 25, descriptorIndex := 26, attributes := #[] }, { accessFlags := 9, nameIndex := 34, descriptorIndex := 35, attributes := #[] }] 49 2 #[] #[])
  fields := #[]
  methods := #[k1m0, k1m1, k1m2, k1m3]
  instanceTypes := #[]
  staticTypes := #[]
  resolved := Array.replicate 40 none
  statics := none }

def pool2 : Array CpInfo := pool [(4, .class_ 6), (1, u "com/example/fusewright/fusewright/runtime/Matrix"), (12, .class_ 20), (0, u "java/lang/Object"), (0, u "MAX_SIZE"), (0, u "J")] 34

/-- com/example/fusewright/fusewright/runtime/Matrix -/
def k2 : Class := { plain "com/example/fusewright/fusewright/runtime/Matrix" (some 0) with
  accessFlags := 1537
  interfaces := #[]
  cf := some (fileOf pool2 4 #[] #[] 1537 19 #[] #[{ accessFlags := 25, nameIndex := 21, descriptorIndex := 22, attributes := #[] }])
  fields := #[{ name := "MAX_SIZE", type := .long, accessFlags := 25, slot := 0, constantValue := 0 }]
  methods := #[]
  instanceTypes := #[]
  staticTypes := #[.long]
  resolved := Array.replicate 57 none
  statics := none }

def pool3 : Array CpInfo := pool [(1, .class_ 2), (0, u "com/example/fusewright/fusewright/runtime/Matrix"), (0, .methodref 4 5), (0, .class_ 6), (0, .nameAndType 7 8), (0, u "java/lang/Object"), (0, u "<init>"), (0, u "()V"), (0, .fieldref 10 11), (0, .class_ 12), (0, .nameAndType 13 14), (0, u "com/example/fusewright/fusewright/runtime/SparseMatrix"), (0, u "rows"), (0, u "I"), (0, .fieldref 10 16), (0, .nameAndType 17 14), (0, u "columns"), (0, .fieldref 10 19), (0, .nameAndType 20 21), (0, u "rowStarts"), (0, u "[I"), (0, .fieldref 10 23), (0, .nameAndType 24 21), (0, u "columnIndices"), (0, .fieldref 10 26), (0, .nameAndType 27 28), (0, u "values"), (0, u "[D"), (0, .fieldref 10 30), (0, .nameAndType 31 32), (0, u "zero"), (0, u "D"), (40, u "(II)I"), (25, u "firstAtOrAfter"), (42, .class_ 143), (0, u "com/example/fusewright/fusewright/runtime/SparseMatrix$Placement"), (33, u "(II[I[I[DD)V"), (26, .class_ 205), (0, u "com/example/fusewright/fusewright/runtime/SparseMatrix$Builder"), (40, .class_ 248), (1, u "com/example/fusewright/fusewright/runtime/SparseMatrix$Rows"), (16, u "MAX_ENTRIES"), (0, u "J"), (1, u "MAX_DENSITY"), (0, u "PLACES_PER_UNUSED")] 87

def k3c0 : Code := { maxStack := 3, maxLocals := 8, code := prog_115_method_1_code, exceptionTable := #[], attributes := #[] }
def k3m0 : Method := { name := "<init>", desc := "(II[I[I[DD)V", sig := { parameters := [.int, .int, (.array .int), (.array .int), (.array .double), .double], returnType := none }, accessFlags := 0, code := some k3c0 }
def k3c1 : Code := { maxStack := 3, maxLocals := 6, code := prog_115_method_16_code, exceptionTable := #[], attributes := #[] }
def k3m1 : Method := { name := "firstAtOrAfter", desc := "(II)I", sig := { parameters := [.int, .int], returnType := some .int }, accessFlags := 0, code := some k3c1 }
/-- com/example/fusewright/fusewright/runtime/SparseMatrix -/
def k3 : Class := { plain "com/example/fusewright/fusewright/runtime/SparseMatrix" (some 0) with
  accessFlags := 49
  interfaces := #[2]
  cf := some (fileOf pool3 10 #[.nestMembers #[204, 142, 246]] #[{ accessFlags := 0, nameIndex := 7, descriptorIndex := 177, attributes := #[] }, { accessFlags := 0, nameIndex := 99, descriptorIndex := 73, attributes := #[] }] 49 4 #[1] #[{ accessFlags := 25, nameIndex := 265, descriptorIndex := 266, attributes := #[] }, { accessFlags := 25, nameIndex := 268, descriptorIndex := 32, attributes := #[] }, { accessFlags := 26, nameIndex := 269, descriptorIndex := 14, attributes := #[] }, { accessFlags := 18, nameIndex := 13, descriptorIndex := 14, attributes := #[] }, { accessFlags := 18, nameIndex := 17, descriptorIndex := 14, attributes := #[] }, { accessFlags := 18, nameIndex := 20, descriptorIndex := 21, attributes := #[] }, { accessFlags := 18, nameIndex := 24, descriptorIndex := 21, attributes := #[] }, { accessFlags := 18, nameIndex := 27, descriptorIndex := 28, attributes := #[] }, { accessFlags := 18, nameIndex := 31, descriptorIndex := 32, attributes := #[] }])
  fields := #[{ name := "MAX_ENTRIES", type := .long, accessFlags := 25, slot := 0, constantValue := 0 }, { name := "MAX_DENSITY", type := .double, accessFlags := 25, slot := 1, constantValue := 0 }, { name := "PLACES_PER_UNUSED", type := .int, accessFlags := 26, slot := 2, constantValue := 0 }, { name := "rows", type := .int, accessFlags := 18, slot := 0, constantValue := 0 }, { name := "columns", type := .int, accessFlags := 18, slot := 1, constantValue := 0 }, { name := "rowStarts", type := (.array .int), accessFlags := 18, slot := 2, constantValue := 0 }, { name := "columnIndices", type := (.array .int), accessFlags := 18, slot := 3, constantValue := 0 }, { name := "values", type := (.array .double), accessFlags := 18, slot := 4, constantValue := 0 }, { name := "zero", type := .double, accessFlags := 18, slot := 5, constantValue := 0 }]
  methods := #[k3m0, k3m1]
  instanceTypes := #[.int, .int, (.array .int), (.array .int), (.array .double), .double]
  staticTypes := #[.long, .double, .int]
  resolved := Array.replicate 357 none
  statics := none }

def pool4 : Array CpInfo := pool [(1, u "java/lang/Cloneable"), (0, .class_ 1), (0, u "java/lang/Object"), (0, .class_ 3)] 3

/-- java/lang/Cloneable -/
def k4 : Class := { plain "java/lang/Cloneable" (some 0) with
  accessFlags := 1537
  interfaces := #[]
  cf := some (fileOf pool4 2 #[] #[] 1537 4 #[] #[])
  fields := #[]
  methods := #[]
  instanceTypes := #[]
  staticTypes := #[]
  resolved := Array.replicate 8 none
  statics := none }

def pool5 : Array CpInfo := pool [(1, u "java/io/Serializable"), (0, .class_ 1), (0, u "java/lang/Object"), (0, .class_ 3)] 3

/-- java/io/Serializable -/
def k5 : Class := { plain "java/io/Serializable" (some 0) with
  accessFlags := 1537
  interfaces := #[]
  cf := some (fileOf pool5 2 #[] #[] 1537 4 #[] #[])
  fields := #[]
  methods := #[]
  instanceTypes := #[]
  staticTypes := #[]
  resolved := Array.replicate 8 none
  statics := none }

/-- the primitive byte -/
def k6 : Class := { plain "byte" none with kind := .primitive 'B', accessFlags := 0x411 }
/-- [B -/
def k7 : Class := { plain "[B" (some 0) with kind := .array 6 .byte, interfaces := #[4, 5], accessFlags := 1041 }

/-- the primitive int -/
def k8 : Class := { plain "int" none with kind := .primitive 'I', accessFlags := 0x411 }
/-- [I -/
def k9 : Class := { plain "[I" (some 0) with kind := .array 8 .int, interfaces := #[4, 5], accessFlags := 1041 }

def k10 : Class := { plain "double" none with kind := .primitive 'D', accessFlags := 0x411 }
def k11 : Class := { plain "[D" (some 0) with kind := .array 10 .double, interfaces := #[4, 5], accessFlags := 1041 }
def heap : Heap := #[]
def classes : Array Class := #[k0, k1, k2, k3, k4, k5, k6, k7, k8, k9, k10, k11]
def interned : List (Array UInt16 × Addr) := []
def slotsUsed : Nat := 0
def theMethod : MethodId := ⟨1, 3⟩
def args0 : Array Value := #[.int 1, .long 2, .long 3, .int 4, .int 5]
def aboutOver (below : List Frame) : State where
  vm := { classes := classes, interned := interned.toArray }
  heap := heap
  slotsUsed := slotsUsed
  threads := #[{ frames := .invoking theMethod args0 :: below }]
def below0 : List Frame := [.native { method := ⟨0, 0⟩, args := #[] }]
def about1 : State := aboutOver below0
def p0 : Program := .bare "" "" ""
def e0 : Env := launch0.env 0 0 0
theorem w_frames : about1.frames = Frame.invoking theMethod args0 :: below0 := rfl
set_option maxRecDepth 65536 in
theorem w_args : argsFit about1.vm theMethod args0 = true := by decide +kernel
set_option maxRecDepth 65536 in
theorem w_heap : heapFits about1 = true := by decide +kernel
set_option maxRecDepth 65536 in
theorem w_runnable : about1.curStatus? = some .runnable := by decide +kernel
set_option maxRecDepth 65536 in
theorem w_alone : about1.alone = true := by decide +kernel
set_option maxRecDepth 65536 in
theorem w_named : about1.methodNamed? x = some theMethod := by decide +kernel
set_option maxRecDepth 65536 in
theorem w_hears : about1.hears theMethod below0 = true := by decide +kernel
set_option maxRecDepth 65536 in
theorem w_ripe : about1.ripe theMethod args0 below0 = true := by decide +kernel
theorem w_running : about1.status = .running := rfl
set_option maxRecDepth 65536 in
theorem w_room : about1.hasRoom e0.platform room_1 = true :=
  launch0.hasRoom_least _ room_1 (by decide +kernel) (by decide +kernel) (by decide +kernel) (by decide +kernel) (by decide +kernel) (by decide +kernel)
theorem allAtoms_all (ts : List Jvm.Cond) (a : Array Jvm.Value) (st : Jvm.State) : (allAtoms ts).before a st = ts.all (fun c => c.before a st) := by
  induction ts with
  | nil => rfl
  | cons c t ih =>
    show (Jvm.Cond.and c (allAtoms t)).before a st = _
    rw [Jvm.Cond.before_and, ih, List.all_cons]
def words1 : List Jvm.Cond := Jvm.Cond.code x code maxLocals ret :: tables_1
/-- a 'code' word, met by the world's own term for the bytes: nothing is compared byte by byte -/
theorem code_word {y : MethodName} {bytes : ByteArray} {mx : Nat} {rt : Option FieldType} {a : Array Value} {s : State} {m : MethodId} {meth : Method} {c : Code} (h1 : s.methodNamed? y = some m) (h2 : s.vm.method? m = some meth) (h3 : meth.code = some c) (h4 : c.code = bytes)
    (h5 : (c.maxLocals == mx && c.exceptionTable.isEmpty && decide (c.maxStack ≤ mostOperands) && decide (meth.sig.returnType = rt) && !meth.locks && decide (parseMethodDescriptor y.desc = some meth.sig)) = true) : (Jvm.Cond.code y bytes mx rt).before a s = true := by
  simp only [Bool.and_eq_true, beq_iff_eq, Bool.not_eq_true', decide_eq_true_eq] at h5
  obtain ⟨⟨⟨⟨⟨g1, g2⟩, g3⟩, g4⟩, g5⟩, g6⟩ := h5
  simp [Cond.before, Cond.holds, Cond.value, h1, h2, h3, h4, g1, g2, g3, g4, g5, g6]
def isCode : Jvm.Cond → Bool
  | .code _ _ _ _ => true
  | _ => false
theorem all_split {L : List Jvm.Cond} {P : Jvm.Cond → Bool} (h1 : L.all (fun c => isCode c || P c) = true) (h2 : ∀ c ∈ L.filter isCode, P c = true) : L.all P = true := by
  refine List.all_eq_true.mpr fun c hc => ?_
  have h := List.all_eq_true.mp h1 c hc
  rcases Bool.eq_false_or_eq_true (isCode c) with hi | hi
  · exact h2 c (List.mem_filter.mpr ⟨hc, hi⟩)
  · simpa [hi] using h
set_option maxRecDepth 65536 in
theorem w_c0 : (Jvm.Cond.code x code maxLocals ret).before args0 about1 = true := code_word (m := ⟨1, 3⟩) (meth := k1m3) (c := k1c3) (by decide +kernel) rfl rfl rfl (by decide +kernel)
set_option maxRecDepth 65536 in
theorem w_c1 : (Jvm.Cond.code ({ cls := "com/example/fusewright/fusewright/runtime/SparseMatrixFirstAtOrAfterPinLaw", name := "cols", desc := "(J)[I" } : Jvm.MethodName) method_2_code (3 : Nat) (Option.some (Jvm.ClassFile.FieldType.array Jvm.ClassFile.FieldType.int))).before args0 about1 = true := code_word (m := ⟨1, 1⟩) (meth := k1m1) (c := k1c1) (by decide +kernel) rfl rfl rfl (by decide +kernel)
set_option maxRecDepth 65536 in
theorem w_c2 : (Jvm.Cond.code ({ cls := "com/example/fusewright/fusewright/runtime/SparseMatrix", name := "<init>", desc := "(II[I[I[DD)V" } : Jvm.MethodName) prog_115_method_1_code (8 : Nat) (Option.none : Option Jvm.ClassFile.FieldType)).before args0 about1 = true := code_word (m := ⟨3, 0⟩) (meth := k3m0) (c := k3c0) (by decide +kernel) rfl rfl rfl (by decide +kernel)
set_option maxRecDepth 65536 in
theorem w_c3 : (Jvm.Cond.code ({ cls := "java/lang/Object", name := "<init>", desc := "()V" } : Jvm.MethodName) object_method_1_code (1 : Nat) (Option.none : Option Jvm.ClassFile.FieldType)).before args0 about1 = true := code_word (m := ⟨0, 0⟩) (meth := k0m0) (c := k0c0) (by decide +kernel) rfl rfl rfl (by decide +kernel)
set_option maxRecDepth 65536 in
theorem w_c4 : (Jvm.Cond.code ({ cls := "com/example/fusewright/fusewright/runtime/SparseMatrixFirstAtOrAfterPinLaw", name := "below", desc := "([IIII)I" } : Jvm.MethodName) method_3_code (4 : Nat) (Option.some Jvm.ClassFile.FieldType.int)).before args0 about1 = true := code_word (m := ⟨1, 2⟩) (meth := k1m2) (c := k1c2) (by decide +kernel) rfl rfl rfl (by decide +kernel)
set_option maxRecDepth 65536 in
theorem w_c5 : (Jvm.Cond.code ({ cls := "com/example/fusewright/fusewright/runtime/SparseMatrix", name := "firstAtOrAfter", desc := "(II)I" } : Jvm.MethodName) prog_115_method_16_code (6 : Nat) (Option.some Jvm.ClassFile.FieldType.int)).before args0 about1 = true := code_word (m := ⟨3, 1⟩) (meth := k3m1) (c := k3c1) (by decide +kernel) rfl rfl rfl (by decide +kernel)
def codes1 : List Jvm.Cond := [Jvm.Cond.code x code maxLocals ret, Jvm.Cond.code ({ cls := "com/example/fusewright/fusewright/runtime/SparseMatrixFirstAtOrAfterPinLaw", name := "cols", desc := "(J)[I" } : Jvm.MethodName) method_2_code (3 : Nat) (Option.some (Jvm.ClassFile.FieldType.array Jvm.ClassFile.FieldType.int)), Jvm.Cond.code ({ cls := "com/example/fusewright/fusewright/runtime/SparseMatrix", name := "<init>", desc := "(II[I[I[DD)V" } : Jvm.MethodName) prog_115_method_1_code (8 : Nat) (Option.none : Option Jvm.ClassFile.FieldType), Jvm.Cond.code ({ cls := "java/lang/Object", name := "<init>", desc := "()V" } : Jvm.MethodName) object_method_1_code (1 : Nat) (Option.none : Option Jvm.ClassFile.FieldType), Jvm.Cond.code ({ cls := "com/example/fusewright/fusewright/runtime/SparseMatrixFirstAtOrAfterPinLaw", name := "below", desc := "([IIII)I" } : Jvm.MethodName) method_3_code (4 : Nat) (Option.some Jvm.ClassFile.FieldType.int), Jvm.Cond.code ({ cls := "com/example/fusewright/fusewright/runtime/SparseMatrix", name := "firstAtOrAfter", desc := "(II)I" } : Jvm.MethodName) prog_115_method_16_code (6 : Nat) (Option.some Jvm.ClassFile.FieldType.int)]
set_option maxRecDepth 65536 in
theorem codes_eq : words1.filter isCode = codes1 := rfl
theorem w_codes : ∀ c ∈ words1.filter isCode, c.before args0 about1 = true := by
  rw [codes_eq]
  intro c hc
  simp only [codes1, List.mem_cons, List.not_mem_nil, or_false] at hc
  rcases hc with rfl | rfl | rfl | rfl | rfl | rfl
  · exact w_c0
  · exact w_c1
  · exact w_c2
  · exact w_c3
  · exact w_c4
  · exact w_c5
set_option maxRecDepth 65536 in
theorem w_t1 : (words1.take 24).all (fun c => isCode c || c.before args0 about1) = true := by decide +kernel
set_option maxRecDepth 65536 in
theorem w_t2 : (words1.drop 24).all (fun c => isCode c || c.before args0 about1) = true := by decide +kernel
theorem w_tables : (allAtoms (Jvm.Cond.code x code maxLocals ret :: tables_1)).before args0 about1 = true := by
  rw [allAtoms_all]
  show words1.all (fun c => c.before args0 about1) = true
  refine all_split ?_ w_codes
  rw [← List.take_append_drop 24 words1, List.all_append, w_t1, w_t2]
  rfl
set_option maxRecDepth 65536 in
theorem w_case : (Jvm.Cond.and given_1 narrow_1).before args0 about1 = true := by decide +kernel
theorem w_applies : (headSpec (Jvm.Cond.code x code maxLocals ret :: tables_1) room_1).applies x e0.platform about1 = true :=
  (Spec.applies_iff w_frames).mpr ⟨w_running, w_runnable, w_alone, w_named, w_hears, w_ripe, w_room, w_tables⟩
theorem atStart : AtStart classFile x code maxLocals ret World_1 tables_1 room_1 Calls_1 rest_1 Pre_1 launch0 p0 e0 about1 theMethod args0 below0 :=
  ⟨lists_1, trivial, launch0.admits_env _ _ _, launch0.least_env, fairChoices_fair.cas, fairChoices_fair.clock, w_frames, w_args, w_heap, w_applies, trivial, trivial, w_case⟩
end start1
theorem witness_1 : WitnessClaimed_1 := ⟨start1.p0, start1.e0, start1.about1, start1.theMethod, start1.args0, start1.below0, start1.atStart⟩
end Jvm.Pilot.@@N@@
