import JvmDerived
import JvmDerived.Pilot.@@N@@Statement
import JvmDerived.Pilot.@@N@@Code
set_option linter.unusedVariables false
set_option linter.unusedSimpArgs false
@@BLOCK:NumsL.lean.txt@@
namespace Jvm.Pilot.@@N@@
open Jvm Jvm.ClassFile Sem Op Lib Jvm.Free Jvm.Stand Jvm.LawKit Jvm.RoadKit Bundle Jvm.Pilot.@@N@@.Jvm.D
/-- from the state σ the run comes to an end that Q allows -/
def OwnG (rc rs : Nat) (Q : Option Value → Heap → List Loc → Prop) (p : Program) (e : Env) (below : List Frame) (s σ : State) : Prop :=
  ∃ s₂ o, Steps p.tables e below σ s₂ ∧ s₂.status = .running ∧ Ended s₂ below o ∧ ∃ v L, o = .returned v ∧ Q v s₂.heap L ∧ FrameEnd s o s₂ L rc rs
section Own
variable {p : Program} {l : Launch} {e : Env} {R : Room} {s : State} {m : MethodId} {args : Array Value} {below : List Frame} {meth : Method} {c : Code} {T σ σ' : State} {locs : List Loc} {cells slots rc rs : Nat} {Q : Option Value → Heap → List Loc → Prop}
theorem own_st (h : ∀ target, Steps p.tables e below σ' target → Steps p.tables e below σ target) (g : OwnG rc rs Q p e below s σ') : OwnG rc rs Q p e below s σ := by
  obtain ⟨s₂, o, h1, r⟩ := g; exact ⟨s₂, o, h _ h1, r⟩
theorem own_go (h : Steps p.tables e below σ σ') (g : OwnG rc rs Q p e below s σ') : OwnG rc rs Q p e below s σ := by
  obtain ⟨s₂, o, h1, r⟩ := g; exact ⟨s₂, o, h.trans h1, r⟩
theorem own_retN (X : Stand p l e R s m args below meth c T locs cells slots) (hx : p.tables.exec = Jvm.exec) {pc : Nat} {Ls : Array Slot} {z : Int32} {rest : List Value} {t : FieldType} (hret : meth.sig.returnType = some t) (hlk : meth.locks = false) (ht : t = .boolean ∨ t = .byte ∨ t = .char ∨ t = .short)
    (hd : decode c.code pc = .ok (.ireturn, 1)) (hc : cells ≤ rc) (hs : slots ≤ rs) (hQ : Q (some (.int (nar t z))) T.heap locs) : OwnG rc rs Q p e below s (T.setTop (mkF m pc Ls (.int z :: rest))) := by
  obtain ⟨fs, hr, hrun, hended, hW, hsame⟩ := X.leave (v := some (.int (nar t z))) (fun h => by rw [hret] at h; cases h) hlk
  exact ⟨_, _, retN X hx hret ht hd hr, hrun, hended, _, _, rfl, hQ, ⟨_, rfl⟩, hW, hsame.mono hc hs⟩
theorem own_retI (X : Stand p l e R s m args below meth c T locs cells slots) (hx : p.tables.exec = Jvm.exec) {pc : Nat} {Ls : Array Slot} {z : Int32} {rest : List Value} (hret : meth.sig.returnType = some .int) (hlk : meth.locks = false)
    (hd : decode c.code pc = .ok (.ireturn, 1)) (hc : cells ≤ rc) (hs : slots ≤ rs) (hQ : Q (some (.int z)) T.heap locs) : OwnG rc rs Q p e below s (T.setTop (mkF m pc Ls (.int z :: rest))) := by
  obtain ⟨fs, hr, hrun, hended, hW, hsame⟩ := X.leave (v := some (.int z)) (fun h => by rw [hret] at h; cases h) hlk
  exact ⟨_, _, retOut X hx hret rfl (Or.inl ⟨rfl, Or.inl rfl, _, rfl⟩) hd hr, hrun, hended, _, _, rfl, hQ, ⟨_, rfl⟩, hW, hsame.mono hc hs⟩
theorem own_retJ (X : Stand p l e R s m args below meth c T locs cells slots) (hx : p.tables.exec = Jvm.exec) {pc : Nat} {Ls : Array Slot} {z : Int64} {rest : List Value} (hret : meth.sig.returnType = some .long) (hlk : meth.locks = false)
    (hd : decode c.code pc = .ok (.lreturn, 1)) (hc : cells ≤ rc) (hs : slots ≤ rs) (hQ : Q (some (.long z)) T.heap locs) : OwnG rc rs Q p e below s (T.setTop (mkF m pc Ls (.long z :: rest))) := by
  obtain ⟨fs, hr, hrun, hended, hW, hsame⟩ := X.leave (v := some (.long z)) (fun h => by rw [hret] at h; cases h) hlk
  exact ⟨_, _, retOut X hx hret rfl (Or.inr (Or.inl ⟨rfl, rfl, _, rfl⟩)) hd hr, hrun, hended, _, _, rfl, hQ, ⟨_, rfl⟩, hW, hsame.mono hc hs⟩
theorem own_retA (X : Stand p l e R s m args below meth c T locs cells slots) (hx : p.tables.exec = Jvm.exec) {pc : Nat} {Ls : Array Slot} {a : Addr} {rest : List Value} {t : FieldType} (hret : meth.sig.returnType = some t) (hlk : meth.locks = false) (ht : t.isReference = true)
    (hd : decode c.code pc = .ok (.areturn, 1)) (hc : cells ≤ rc) (hs : slots ≤ rs) (hQ : Q (some (.ref a)) T.heap locs) : OwnG rc rs Q p e below s (T.setTop (mkF m pc Ls (.ref a :: rest))) := by
  obtain ⟨fs, hr, hrun, hended, hW, hsame⟩ := X.leave (v := some (.ref a)) (fun h => by rw [hret] at h; cases h) hlk
  exact ⟨_, _, retOut X hx hret (by cases t <;> first | rfl | cases ht) (Or.inr (Or.inr (Or.inr (Or.inr ⟨rfl, ht, rfl⟩)))) hd hr, hrun, hended, _, _, rfl, hQ, ⟨_, rfl⟩, hW, hsame.mono hc hs⟩
theorem own_retV (X : Stand p l e R s m args below meth c T locs cells slots) (hx : p.tables.exec = Jvm.exec) {pc : Nat} {Ls : Array Slot} (hret : meth.sig.returnType = none) (hlk : meth.locks = false)
    (hd : decode c.code pc = .ok (.return_, 1)) (hc : cells ≤ rc) (hs : slots ≤ rs) (hQ : Q none T.heap locs) : OwnG rc rs Q p e below s (T.setTop (mkF m pc Ls [])) := by
  obtain ⟨fs, hr, hrun, hended, hW, hsame⟩ := X.leave (v := none) (fun _ => rfl) hlk
  exact ⟨_, _, X.returnOut hx hret hd hr, hrun, hended, _, _, rfl, hQ, ⟨_, rfl⟩, hW, hsame.mono hc hs⟩
end Own
/-! arrays, by a function that says what each place holds -/
def Ary (Z : State) (h : Heap) (a : Addr) (ty : FieldType) (n : Nat) (f : Nat → Value) : Prop :=
  ∃ cl : Cell, Arr Z h a cl ty ∧ cl.slots.size = n ∧ n < 2147483648 ∧ (∀ j, j < n → cl.slots[j]? = some (f j)) ∧ ∀ j, j < n → fits ty (f j) = true
def own_up (f : Nat → Value) (i : Nat) (v : Value) : Nat → Value := fun j => if j = i then v else f j
section Arrays
variable {p : Program} {l : Launch} {e : Env} {R : Room} {s : State} {m : MethodId} {args : Array Value} {below : List Frame} {meth : Method} {c : Code} {T : State} {locs : List Loc} {cells slots : Nat} {Z : State} {h h' : Heap} {a b : Addr} {ty : FieldType} {n : Nat} {f f' : Nat → Value} {ws : List Addr} {sl : Nat} {v : Value}
theorem Ary.lt (A : Ary Z h a ty n f) : a < h.size := by obtain ⟨cl, A1, -⟩ := A; exact A1.lt
theorem Ary.ext (A : Ary Z h a ty n f) (E : Ext h h') : Ary Z h' a ty n f := by obtain ⟨cl, A1, r⟩ := A; exact ⟨cl, A1.ext E, r⟩
theorem Ary.other (A : Ary Z h a ty n f) (W : Wr h h' b sl v) (q : a ≠ b) : Ary Z h' a ty n f := by obtain ⟨cl, A1, r⟩ := A; exact ⟨cl, A1.other W q, r⟩
theorem Ary.keep (A : Ary Z h a ty n f) (K : Keep h h' ws) (q : a ∉ ws) : Ary Z h' a ty n f := by obtain ⟨cl, A1, r⟩ := A; exact ⟨cl, ⟨K.2.1 a cl A1.1 q, A1.2⟩, r⟩
theorem Ary.cong (A : Ary Z h a ty n f) (q : ∀ j, j < n → f j = f' j) : Ary Z h a ty n f' := by
  obtain ⟨cl, A1, r1, r2, r3, r4⟩ := A
  exact ⟨cl, A1, r1, r2, fun j hj => by rw [← q j hj]; exact r3 j hj, fun j hj => by rw [← q j hj]; exact r4 j hj⟩
theorem own_clamp {j : Int32} {i : Nat} (hj : j.toInt = (i : Int)) : j.toNatClampNeg = i ∧ ¬ j < 0 := by
  refine ⟨by rw [Int32.toNatClampNeg, hj]; rfl, ?_⟩
  rw [Int32.lt_iff_toInt_lt, hj]; have : (0 : Int32).toInt = 0 := rfl; omega
theorem own_in {cl : Cell} {j : Int32} {i : Nat} (hj : j.toInt = (i : Int)) (hs : cl.slots.size = n) (hi : i < n) : ¬ (j < 0 ∨ cl.slots.size ≤ j.toNatClampNeg) := by
  obtain ⟨h1, h2⟩ := own_clamp hj
  rintro (q | q)
  · exact h2 q
  · rw [h1, hs] at q; omega
theorem own_bl (X : Stand p l e R s m args below meth c T locs cells slots) (hx : p.tables.exec = Jvm.exec) (hZ : Z.Warmed39 s.vm) (eT : T.heap = h) (A : Ary Z h a .byte n f) {j : Int32} (i : Nat) (hj : j.toInt = (i : Int)) (hi : i < n) (hv : f i = v)
    {g : JFrame} (hg : g.method = m) {rest : List Value} (hs : g.stack = .int j :: .ref a :: rest) (hd : decode c.code g.pc = .ok (.baload, 1)) :
    ∀ target, Steps p.tables e below (T.setTop { g with pc := g.pc + 1, stack := v :: rest }) target → Steps p.tables e below (T.setTop g) target := by
  obtain ⟨cl, A1, r1, r2, r3, r4⟩ := A
  exact X.baloadBytes hx (by rw [eT]; exact A1.1) (State.isArrayOf_alike hZ.alike A1.2.1) A1.2.2 (own_in hj r1 hi) (by rw [(own_clamp hj).1, ← hv]; exact r3 i hi) hg hs hd
theorem own_il (X : Stand p l e R s m args below meth c T locs cells slots) (hx : p.tables.exec = Jvm.exec) (hZ : Z.Warmed39 s.vm) (eT : T.heap = h) (A : Ary Z h a .int n f) {j : Int32} (i : Nat) (hj : j.toInt = (i : Int)) (hi : i < n) (hv : f i = v)
    {g : JFrame} (hg : g.method = m) {rest : List Value} (hs : g.stack = .int j :: .ref a :: rest) (hd : decode c.code g.pc = .ok (.iaload, 1)) :
    ∀ target, Steps p.tables e below (T.setTop { g with pc := g.pc + 1, stack := v :: rest }) target → Steps p.tables e below (T.setTop g) target := by
  obtain ⟨cl, A1, r1, r2, r3, r4⟩ := A
  exact X.iaload hx (by rw [eT]; exact A1.1) (State.isArrayOf_alike hZ.alike A1.2.1) A1.2.2 (own_in hj r1 hi) (by rw [(own_clamp hj).1, ← hv]; exact r3 i hi) hg hs hd
theorem own_len (X : Stand p l e R s m args below meth c T locs cells slots) (hx : p.tables.exec = Jvm.exec) (hZ : Z.Warmed39 s.vm) (eT : T.heap = h) (A : Ary Z h a ty n f) {z : Int32} (hz : z = Int32.ofNat n)
    {g : JFrame} (hg : g.method = m) {rest : List Value} (hs : g.stack = .ref a :: rest) (hd : decode c.code g.pc = .ok (.arraylength, 1)) :
    ∀ target, Steps p.tables e below (T.setTop { g with pc := g.pc + 1, stack := .int z :: rest }) target → Steps p.tables e below (T.setTop g) target := by
  obtain ⟨cl, A1, r1, r2, r3, r4⟩ := A
  intro target k
  refine X.arraylength hx (by rw [eT]; exact A1.1) (State.isArrayOf_alike hZ.alike A1.2.1) hg hs hd target ?_
  rw [r1]; rw [hz] at k; exact k
theorem Ary.wr (A : Ary Z h a ty n f) {i : Nat} (hi : i < n) (W : Wr h h' a i v) (hf : fits ty v = true) : Ary Z h' a ty n (own_up f i v) := by
  obtain ⟨cl, A1, r1, r2, r3, r4⟩ := A
  refine ⟨_, A1.same W, by rw [sz_set]; exact r1, r2, fun j hj => ?_, fun j hj => ?_⟩
  · by_cases q : j = i
    · subst q; simp [own_up, Cell.setSlot, r1, hi]
    · simp only [own_up, if_neg q, Cell.setSlot]; rw [Array.getElem?_setIfInBounds_ne (Ne.symm q)]; exact r3 j hj
  · by_cases q : j = i
    · subst q; simp only [own_up, if_true]; exact hf
    · simp only [own_up, if_neg q]; exact r4 j hj
theorem own_sB (X : Stand p l e R s m args below meth c T locs cells slots) (hx : p.tables.exec = Jvm.exec) (hZ : Z.Warmed39 s.vm) (eT : T.heap = h) (A : Ary Z h a .byte n f) {j x : Int32} (i : Nat) (hj : j.toInt = (i : Int)) (hi : i < n)
    {g : JFrame} (hg : g.method = m) {rest : List Value} (hs : g.stack = .int x :: .int j :: .ref a :: rest) (hd : decode c.code g.pc = .ok (.bastore, 1)) :
    ∃ T' h', Stand p l e R s m args below meth c T' (locs ++ [⟨a, i⟩]) cells slots ∧ T'.heap = h' ∧ Wr h h' a i (.int (x.toInt8.toInt32)) ∧ Ary Z h' a .byte n (own_up f i (.int (x.toInt8.toInt32))) ∧ ∀ target, Steps p.tables e below (T'.setTop { g with pc := g.pc + 1, stack := rest }) target → Steps p.tables e below (T.setTop g) target := by
  obtain ⟨cl, A1, r1, r⟩ := A
  obtain ⟨T', h', X', e', W, st⟩ := stB X hx hZ eT A1 (own_in hj r1 hi) hg hs hd
  rw [(own_clamp hj).1] at X' W
  exact ⟨T', h', X', e', W, Ary.wr ⟨cl, A1, r1, r⟩ hi W (fits_nar_byte x), st⟩
theorem own_sZ (X : Stand p l e R s m args below meth c T locs cells slots) (hx : p.tables.exec = Jvm.exec) (hZ : Z.Warmed39 s.vm) (eT : T.heap = h) (A : Ary Z h a .boolean n f) {j x : Int32} (i : Nat) (hj : j.toInt = (i : Int)) (hi : i < n)
    {g : JFrame} (hg : g.method = m) {rest : List Value} (hs : g.stack = .int x :: .int j :: .ref a :: rest) (hd : decode c.code g.pc = .ok (.bastore, 1)) :
    ∃ T' h', Stand p l e R s m args below meth c T' (locs ++ [⟨a, i⟩]) cells slots ∧ T'.heap = h' ∧ Wr h h' a i (.int (nar .boolean x)) ∧ Ary Z h' a .boolean n (own_up f i (.int (nar .boolean x))) ∧ ∀ target, Steps p.tables e below (T'.setTop { g with pc := g.pc + 1, stack := rest }) target → Steps p.tables e below (T.setTop g) target := by
  obtain ⟨cl, A1, r1, r⟩ := A
  obtain ⟨T', h', X', e', W, st⟩ := stZ X hx hZ eT A1 (own_in hj r1 hi) hg hs hd
  rw [(own_clamp hj).1] at X' W
  exact ⟨T', h', X', e', W, Ary.wr ⟨cl, A1, r1, r⟩ hi W (fits_nar_bool x), st⟩
theorem own_sI (X : Stand p l e R s m args below meth c T locs cells slots) (hx : p.tables.exec = Jvm.exec) (hZ : Z.Warmed39 s.vm) (eT : T.heap = h) (A : Ary Z h a .int n f) {j x : Int32} (i : Nat) (hj : j.toInt = (i : Int)) (hi : i < n)
    {g : JFrame} (hg : g.method = m) {rest : List Value} (hs : g.stack = .int x :: .int j :: .ref a :: rest) (hd : decode c.code g.pc = .ok (.iastore, 1)) :
    ∃ T' h', Stand p l e R s m args below meth c T' (locs ++ [⟨a, i⟩]) cells slots ∧ T'.heap = h' ∧ Wr h h' a i (.int x) ∧ Ary Z h' a .int n (own_up f i (.int x)) ∧ ∀ target, Steps p.tables e below (T'.setTop { g with pc := g.pc + 1, stack := rest }) target → Steps p.tables e below (T.setTop g) target := by
  obtain ⟨cl, A1, r1, r⟩ := A
  obtain ⟨T', h', X', e', W, st⟩ := stI X hx hZ eT A1 (own_in hj r1 hi) hg hs hd
  rw [(own_clamp hj).1] at X' W
  exact ⟨T', h', X', e', W, Ary.wr ⟨cl, A1, r1, r⟩ hi W rfl, st⟩
theorem own_new (X : Stand p l e R s m args below meth c T locs cells slots) (hx : p.tables.exec = Jvm.exec) (hZ : Z.Warmed39 s.vm) {a0 : Array Value} {aty : ArrayType} (w : (Cond.arrayClass (newarray.typeOf aty)).before a0 Z = true) (eT : T.heap = h) {g : JFrame} (hg : g.method = m) (hd : decode c.code g.pc = .ok (.newarray aty, 2)) {z : Int32} {rest : List Value} (hs : g.stack = .int z :: rest)
    (k : Nat) (hk : z.toInt = (k : Int)) {cap : Nat} (hcap : k ≤ cap) (hb : cap * 8 ≤ 536870912) (hc : cells + 1 ≤ R.cells) (hl : slots + cap ≤ R.slots) :
    ∃ T' h', Stand p l e R s m args below meth c T' locs (cells + 1) (slots + cap) ∧ T'.heap = h' ∧ Ext h h' ∧ Ary Z h' h.size (newarray.typeOf aty) k (fun _ => defaultValue (newarray.typeOf aty)) ∧
      ∀ target, Steps p.tables e below (T'.setTop { g with pc := g.pc + 2, stack := .ref h.size :: rest }) target → Steps p.tables e below (T.setTop g) target := by
  obtain ⟨h1, h2⟩ := own_clamp hk
  obtain ⟨T', h', cA, X', e', E, A, st⟩ := newP X hx hZ w eT hg hd hs h2 (cap := cap) (by rw [h1]; exact hcap) hb hc hl
  refine ⟨T', h', X', e', E, ⟨_, A, by rw [sz_new, h1], by have := rng32 z; omega, fun j hj => ?_, fun j _ => by cases aty <;> rfl⟩, st⟩
  simp [newA, h1, hj]
end Arrays

theorem own_by (z : Int32) : z.toInt8.toInt32.toInt8.toInt32 = z.toInt8.toInt32 := by simp
/-- v without its first i groups of seven bits, as putNumber makes it -/
def own_v (v : Int64) : Nat → Int64
  | 0 => v
  | i + 1 => (((own_v v i).toUInt64 >>> ((7 : Int32) &&& 0x3f).toInt64.toUInt64).toInt64)
def own_B (v : Int64) (j : Nat) : Int32 := ((((own_v v j) &&& (127 : Int64)) ||| (128 : Int64)).toInt32).toInt8.toInt32
def own_E (v : Int64) (j : Nat) : Int32 := ((own_v v j).toInt32).toInt8.toInt32
def own_pf (v : Int64) (o i : Nat) (k : Nat) : Value := if o ≤ k ∧ k < o + i then .int (own_B v (k - o)) else .int (-91)
def own_fn (v : Int64) (o N : Nat) (k : Nat) : Value := if o ≤ k ∧ k < o + N then (if k - o + 1 < N then .int (own_B v (k - o)) else .int (own_E v (k - o))) else .int (-91)
theorem own_pf0 (v : Int64) (o k : Nat) : own_pf v o 0 k = .int (-91) := by rw [own_pf, if_neg (by omega)]
theorem own_pf1 (v : Int64) (o i : Nat) (z : Int32) (hz : z.toInt8.toInt32 = own_B v i) (k : Nat) : own_up (own_pf v o i) (o + i) (.int (z.toInt8.toInt32)) k = own_pf v o (i + 1) k := by
  rw [own_up, hz]
  by_cases h : k = o + i
  · rw [if_pos h, own_pf, if_pos (by omega), show k - o = i by omega]
  · rw [if_neg h, own_pf, own_pf]
    by_cases h2 : o ≤ k ∧ k < o + i
    · rw [if_pos h2, if_pos (by omega)]
    · rw [if_neg h2, if_neg (by omega)]
theorem own_pfn (v : Int64) (o i N : Nat) (hN : i + 1 = N) (z : Int32) (hz : z.toInt8.toInt32 = own_E v i) (k : Nat) : own_up (own_pf v o i) (o + i) (.int (z.toInt8.toInt32)) k = own_fn v o N k := by
  rw [own_up, hz]
  by_cases h : k = o + i
  · rw [if_pos h, own_fn, if_pos (by omega), if_neg (by omega), show k - o = i by omega]
  · rw [if_neg h, own_pf, own_fn]
    by_cases h2 : o ≤ k ∧ k < o + i
    · rw [if_pos h2, if_pos (by omega), if_pos (by omega)]
    · rw [if_neg h2, if_neg (by omega)]
theorem own_vi (v : Int64) (u : Nat) (hu : v.toInt = (u : Int)) : ∀ i : Nat, (own_v v i).toInt = ((u / 128 ^ i : Nat) : Int) := by
  intro i
  induction i with
  | zero => simp [own_v, hu]
  | succ i ih =>
    have h0 : (0 : Int64) ≤ own_v v i := by rw [Int64.le_iff_toInt_le, ih]; exact Int.natCast_nonneg _
    have := Jvm.Kit.i64_lushr h0 (n := ((7 : Int32) &&& 0x3f).toInt64.toUInt64) (k := 7) (by decide) (by decide)
    rw [own_v, this, ih, Nat.pow_succ, ← Nat.div_div_eq_div_mul]
    generalize u / 128 ^ i = q
    show (q : Int) / 128 = ((q / 128 : Nat) : Int)
    omega
theorem own_lo (v : Int64) (u : Nat) (hu : v.toInt = (u : Int)) (N : Nat) (h1 : N = 1 ∨ 128 ^ (N - 1) ≤ u) (i : Nat) (hi : i + 2 ≤ N) : ¬ own_v v i < (128 : Int64) := by
  rw [Int64.lt_iff_toInt_lt, own_vi v u hu i]
  have hp : 128 * 128 ^ i ≤ u := by
    rcases h1 with h1 | h1
    · omega
    · refine Nat.le_trans ?_ h1
      rw [Nat.mul_comm, ← Nat.pow_succ]
      exact Nat.pow_le_pow_right (by decide) (by omega)
  have := (Nat.le_div_iff_mul_le (Nat.pow_pos (by decide) : 0 < 128 ^ i)).mpr hp
  show ¬ ((u / 128 ^ i : Nat) : Int) < 128
  omega
theorem own_hi (v : Int64) (u : Nat) (hu : v.toInt = (u : Int)) (N : Nat) (h2 : u < 128 ^ N) (i : Nat) (hi : i + 1 = N) : own_v v i < (128 : Int64) := by
  rw [Int64.lt_iff_toInt_lt, own_vi v u hu i]
  subst hi
  have : u / 128 ^ i < 128 := Nat.div_lt_of_lt_mul (by rw [← Nat.pow_succ]; exact h2)
  show ((u / 128 ^ i : Nat) : Int) < 128
  omega
theorem own_N (u : Nat) (h : u < 9223372036854775808) : ∃ N : Nat, 1 ≤ N ∧ N ≤ 9 ∧ u < 128 ^ N ∧ (N = 1 ∨ 128 ^ (N - 1) ≤ u) := by
  by_cases h1 : u < 128
  · exact ⟨1, by decide, by decide, h1, Or.inl rfl⟩
  by_cases h2 : u < 16384
  · exact ⟨2, by decide, by decide, h2, Or.inr (by show 128 ≤ u; omega)⟩
  by_cases h3 : u < 2097152
  · exact ⟨3, by decide, by decide, h3, Or.inr (by show 16384 ≤ u; omega)⟩
  by_cases h4 : u < 268435456
  · exact ⟨4, by decide, by decide, h4, Or.inr (by show 2097152 ≤ u; omega)⟩
  by_cases h5 : u < 34359738368
  · exact ⟨5, by decide, by decide, h5, Or.inr (by show 268435456 ≤ u; omega)⟩
  by_cases h6 : u < 4398046511104
  · exact ⟨6, by decide, by decide, h6, Or.inr (by show 34359738368 ≤ u; omega)⟩
  by_cases h7 : u < 562949953421312
  · exact ⟨7, by decide, by decide, h7, Or.inr (by show 4398046511104 ≤ u; omega)⟩
  by_cases h8 : u < 72057594037927936
  · exact ⟨8, by decide, by decide, h8, Or.inr (by show 562949953421312 ≤ u; omega)⟩
  · exact ⟨9, by decide, by decide, h, Or.inr (by show 72057594037927936 ≤ u; omega)⟩
theorem own_cmp (v : Int64) (u : Nat) (hu : v.toInt = (u : Int)) (N : Nat) (h2 : u < 128 ^ N) (h1 : N = 1 ∨ 128 ^ (N - 1) ≤ u) (j : Nat) (hj : 1 ≤ j) (K : Int64) (hK : K.toInt = ((128 ^ j : Nat) : Int)) : (N ≤ j → v < K) ∧ (j < N → ¬ v < K) := by
  refine ⟨fun h => ?_, fun h => ?_⟩
  · rw [Int64.lt_iff_toInt_lt, hu, hK]
    have := Nat.lt_of_lt_of_le h2 (Nat.pow_le_pow_right (by decide : 0 < 128) h)
    omega
  · rw [Int64.lt_iff_toInt_lt, hu, hK]
    have : 128 ^ j ≤ u := by
      rcases h1 with h1 | h1
      · omega
      · exact Nat.le_trans (Nat.pow_le_pow_right (by decide) (by omega)) h1
    omega
theorem own_one (i : Nat) : Int32.ofNat i + (1 : Int32) = Int32.ofNat (i + 1) := (Int32.ofNat_add i 1).symm
theorem own_inc (i : Int32) (k : Nat) (h : i.toInt = (k : Int)) (hk : k < 1000) : (i + (1 : Int32)).toInt = ((k + 1 : Nat) : Int) := by
  have h1 := c_iadd i 1; have h2 := rng32 (i + 1); have h4 : (1 : Int32).toInt = 1 := rfl; omega
theorem own_of (i : Int32) (k : Nat) (h : i.toInt = (k : Int)) : i = Int32.ofNat k := by
  have := rng32 i
  exact Int32.toInt_inj.mp (by rw [Int32.toInt_ofNat_of_lt (by omega)]; exact h)
theorem own_to (k : Nat) (h : k < 1000) : (Int32.ofNat k).toInt = (k : Int) := Int32.toInt_ofNat_of_lt (by omega)
theorem own_nn (r : Int64) (s : Int32) : ∃ u : Nat, u < 9223372036854775808 ∧ (((r &&& (9223372036854775807 : Int64)).toUInt64 >>> ((s &&& (63 : Int32)) &&& 0x3f).toInt64.toUInt64).toInt64).toInt = (u : Int) := by
  have h0 : (0 : Int64) ≤ r &&& (9223372036854775807 : Int64) := by
    rw [Int64.le_iff_toInt_le]; exact (c_andSL r 9223372036854775807).2.2 (by decide)
  obtain ⟨k, hk, e⟩ : ∃ k : Nat, k < 64 ∧ (s &&& (63 : Int32)) = Int32.ofNat k := by
    have h := Jvm.Kit.i32_mask s 63 (k := 6) (by decide) (by decide)
    refine ⟨(s &&& 63).toInt.toNat, by omega, own_of _ _ (by omega)⟩
  have hn : ∀ k : Fin 64, ((Int32.ofNat k.val &&& 0x3f).toInt64.toUInt64).toNat = k.val := by decide +kernel
  have := Jvm.Kit.i64_lushr h0 (n := ((s &&& (63 : Int32)) &&& 0x3f).toInt64.toUInt64) (k := k) (by rw [e]; exact hn ⟨k, hk⟩) hk
  have h1 := rng64 (((r &&& (9223372036854775807 : Int64)).toUInt64 >>> ((s &&& (63 : Int32)) &&& 0x3f).toInt64.toUInt64).toInt64)
  have h2 : 0 ≤ (((r &&& (9223372036854775807 : Int64)).toUInt64 >>> ((s &&& (63 : Int32)) &&& 0x3f).toInt64.toUInt64).toInt64).toInt := by
    rw [this]; exact Int.ediv_nonneg (by rw [Int64.le_iff_toInt_le] at h0; exact h0) (Int.pow_nonneg (by decide))
  exact ⟨(((r &&& (9223372036854775807 : Int64)).toUInt64 >>> ((s &&& (63 : Int32)) &&& 0x3f).toInt64.toUInt64).toInt64).toInt.toNat, by omega, by omega⟩
theorem own_off (o : Int32) : ∃ k : Nat, k ≤ 3 ∧ (o &&& (3 : Int32)).toInt = (k : Int) := by
  have h := Jvm.Kit.i32_mask o 3 (k := 2) (by decide) (by decide)
  exact ⟨(o &&& 3).toInt.toNat, by omega, by omega⟩
theorem own_sh (v : Int64) (u : Nat) (hu : v.toInt = (u : Int)) (i : Int32) (j : Nat) (hj : i.toInt = (j : Int)) (h9 : j < 9) : ((v.toUInt64 >>> (((7 : Int32) * i) &&& 0x3f).toInt64.toUInt64).toInt64) = own_v v j := by
  have e := own_of i j hj
  have hn : ∀ k : Fin 9, ((((7 : Int32) * Int32.ofNat k.val) &&& 0x3f).toInt64.toUInt64).toNat = 7 * k.val := by decide +kernel
  have h0 : (0 : Int64) ≤ v := by rw [Int64.le_iff_toInt_le, hu]; show (0 : Int) ≤ _; omega
  have := Jvm.Kit.i64_lushr h0 (n := (((7 : Int32) * i) &&& 0x3f).toInt64.toUInt64) (k := 7 * j) (by rw [e]; exact hn ⟨j, h9⟩) (by omega)
  apply Int64.toInt_inj.mp
  rw [this, own_vi v u hu j, hu, show (2 : Int) ^ (7 * j) = ((128 ^ j : Nat) : Int) by rw [Int.pow_mul]; norm_cast]
  exact (Int.natCast_ediv _ _).symm
theorem own_eB (v : Int64) (j : Nat) : (((((own_v v j) &&& (127 : Int64)).toInt32) ||| (128 : Int32)).toInt8.toInt32) = own_B v j := by
  rw [own_B, Int64.toInt32_or]; rfl
theorem own_eE (v : Int64) (j : Nat) (h0 : 0 ≤ (own_v v j).toInt) (h : own_v v j < (128 : Int64)) : ((((own_v v j) &&& (127 : Int64)).toInt32).toInt8.toInt32) = own_E v j := by
  have e : (own_v v j) &&& (127 : Int64) = own_v v j := by
    apply Int64.toInt_inj.mp
    rw [Jvm.Kit.i64_mask (own_v v j) 127 (k := 7) (by decide) (by decide)]
    rw [Int64.lt_iff_toInt_lt] at h
    have : (128 : Int64).toInt = 128 := rfl
    show (own_v v j).toInt % 128 = _
    omega
  rw [e, own_E]

theorem d1_0 : decode prog_72_method_3_code 0 = .ok (.lload_n 2, 1) := by decide +kernel
theorem d1_1 : decode prog_72_method_3_code 1 = .ok (.lconst 0, 1) := by decide +kernel
theorem d1_2 : decode prog_72_method_3_code 2 = .ok (.lcmp, 1) := by decide +kernel
theorem d1_3 : decode prog_72_method_3_code 3 = .ok (.ifCond .ge 17, 3) := by decide +kernel
theorem d1_6 : decode prog_72_method_3_code 6 = .ok (.new 19, 3) := by decide +kernel
theorem d1_9 : decode prog_72_method_3_code 9 = .ok (.dup, 1) := by decide +kernel
theorem d1_10 : decode prog_72_method_3_code 10 = .ok (.lload_n 2, 1) := by decide +kernel
theorem d1_11 : decode prog_72_method_3_code 11 = .ok (.invokedynamic 21, 5) := by decide +kernel
theorem d1_16 : decode prog_72_method_3_code 16 = .ok (.invokespecial 25, 3) := by decide +kernel
theorem d1_19 : decode prog_72_method_3_code 19 = .ok (.athrow, 1) := by decide +kernel
theorem d1_20 : decode prog_72_method_3_code 20 = .ok (.iload_n 1, 1) := by decide +kernel
theorem d1_21 : decode prog_72_method_3_code 21 = .ok (.istore 4, 2) := by decide +kernel
theorem d1_23 : decode prog_72_method_3_code 23 = .ok (.lload_n 2, 1) := by decide +kernel
theorem d1_24 : decode prog_72_method_3_code 24 = .ok (.lstore 5, 2) := by decide +kernel
theorem d1_26 : decode prog_72_method_3_code 26 = .ok (.lload 5, 2) := by decide +kernel
theorem d1_28 : decode prog_72_method_3_code 28 = .ok (.ldc2_w 28, 3) := by decide +kernel
theorem d1_31 : decode prog_72_method_3_code 31 = .ok (.lcmp, 1) := by decide +kernel
theorem d1_32 : decode prog_72_method_3_code 32 = .ok (.ifCond .lt 32, 3) := by decide +kernel
theorem d1_35 : decode prog_72_method_3_code 35 = .ok (.aload_n 0, 1) := by decide +kernel
theorem d1_36 : decode prog_72_method_3_code 36 = .ok (.iload 4, 2) := by decide +kernel
theorem d1_38 : decode prog_72_method_3_code 38 = .ok (.iinc 4 1, 3) := by decide +kernel
theorem d1_41 : decode prog_72_method_3_code 41 = .ok (.lload 5, 2) := by decide +kernel
theorem d1_43 : decode prog_72_method_3_code 43 = .ok (.ldc2_w 30, 3) := by decide +kernel
theorem d1_46 : decode prog_72_method_3_code 46 = .ok (.land, 1) := by decide +kernel
theorem d1_47 : decode prog_72_method_3_code 47 = .ok (.ldc2_w 28, 3) := by decide +kernel
theorem d1_50 : decode prog_72_method_3_code 50 = .ok (.lor, 1) := by decide +kernel
theorem d1_51 : decode prog_72_method_3_code 51 = .ok (.l2i, 1) := by decide +kernel
theorem d1_52 : decode prog_72_method_3_code 52 = .ok (.i2b, 1) := by decide +kernel
theorem d1_53 : decode prog_72_method_3_code 53 = .ok (.bastore, 1) := by decide +kernel
theorem d1_54 : decode prog_72_method_3_code 54 = .ok (.lload 5, 2) := by decide +kernel
theorem d1_56 : decode prog_72_method_3_code 56 = .ok (.bipush 7, 2) := by decide +kernel
theorem d1_58 : decode prog_72_method_3_code 58 = .ok (.lushr, 1) := by decide +kernel
theorem d1_59 : decode prog_72_method_3_code 59 = .ok (.lstore 5, 2) := by decide +kernel
theorem d1_61 : decode prog_72_method_3_code 61 = .ok (.goto (-35), 3) := by decide +kernel
theorem d1_64 : decode prog_72_method_3_code 64 = .ok (.aload_n 0, 1) := by decide +kernel
theorem d1_65 : decode prog_72_method_3_code 65 = .ok (.iload 4, 2) := by decide +kernel
theorem d1_67 : decode prog_72_method_3_code 67 = .ok (.iinc 4 1, 3) := by decide +kernel
theorem d1_70 : decode prog_72_method_3_code 70 = .ok (.lload 5, 2) := by decide +kernel
theorem d1_72 : decode prog_72_method_3_code 72 = .ok (.l2i, 1) := by decide +kernel
theorem d1_73 : decode prog_72_method_3_code 73 = .ok (.i2b, 1) := by decide +kernel
theorem d1_74 : decode prog_72_method_3_code 74 = .ok (.bastore, 1) := by decide +kernel
theorem d1_75 : decode prog_72_method_3_code 75 = .ok (.iload 4, 2) := by decide +kernel
theorem d1_77 : decode prog_72_method_3_code 77 = .ok (.ireturn, 1) := by decide +kernel
def Q1 (Z : State) (a1 : Addr) (vz : Int64) (N : Nat) (oz : Nat) (n0 : Nat) (v_ : Option Value) (h : Heap) (L : List Loc) : Prop := v_ = some (.int (Int32.ofNat (oz + N))) ∧ Fr n0 L ∧ n0 ≤ h.size ∧ Ary Z h a1 .byte 16 (own_fn vz oz N)
set_option maxRecDepth 65536 in
set_option maxHeartbeats 40000000 in
theorem own_loop {p : Program} {l : Launch} {e : Env} {s : State} {m : MethodId} {args : Array Value} {below : List Frame} {meth : Method} {c : Code} {Z : State} {a0 : Array Value} (hx : p.tables.exec = Jvm.exec) (hZ : Z.Warmed39 s.vm) (hw : ∀ d ∈ tables_1, d.before a0 Z = true) (hby : c.code = prog_72_method_3_code) (hml : c.maxLocals = 7) (hown : s.vm.findClass "com/example/posting/posting/index/Encoding" = some m.cls) (hrt : meth.sig.returnType = some .int) (hlk : meth.locks = false) (a1 : Addr) (oo : Int32) (vz : Int64) (u : Nat) (hu : vz.toInt = (u : Int)) (N : Nat) (hN1 : 1 ≤ N) (hN9 : N ≤ 9) (h2 : u < 128 ^ N) (h1 : N = 1 ∨ 128 ^ (N - 1) ≤ u) (oz : Nat) (ho : oz ≤ 3) (n0 : Nat) (ga : n0 ≤ a1) : ∀ (r i : Nat), i + r + 1 = N → ∀ (at_ : Int32) (T0 : State) (h0 : Heap) (locs : List Loc), Stand p l e ({ frames := 0, cells := 0, slots := 0, locals := 0 } : Room) s m args below meth c T0 locs 0 0 → T0.heap = h0 → Fr n0 locs → n0 ≤ h0.size → at_.toInt = ((oz + i : Nat) : Int) → Ary Z h0 a1 .byte 16 (own_pf vz oz i) → OwnG 0 0 (Q1 Z a1 vz N oz n0) p e below s (T0.setTop (mkF m 26 #[.val (.ref a1), .val (.int oo), .val (.long vz), .second, .val (.int at_), .val (.long (own_v vz i)), .second] [])) := by
  intro r
  induction r with
  | zero =>
    intro i hi at_ T0 h0 locs X0 e0 N0 Z0 hat V0
    show OwnG _ _ _ _ _ _ _ (T0.setTop (mkF m 26 #[.val (.ref a1), .val (.int oo), .val (.long vz), .second, .val (.int at_), .val (.long (own_v vz i)), .second] []))
    refine own_st (fun _ kq_ => XS.lload X0.here hx rfl (hb hby d1_26) rfl kq_) ?_
    show OwnG _ _ _ _ _ _ _ (T0.setTop (mkF m 28 #[.val (.ref a1), .val (.int oo), .val (.long vz), .second, .val (.int at_), .val (.long (own_v vz i)), .second] [(.long (own_v vz i))]))
    refine own_st (X0.ldc2Long hx hown (mvT hZ (hw _ (List.mem_of_getElem? (i := 14) rfl))) (g := (mkF m 28 #[.val (.ref a1), .val (.int oo), .val (.long vz), .second, .val (.int at_), .val (.long (own_v vz i)), .second] [(.long (own_v vz i))])) rfl (hb hby d1_28)) ?_
    show OwnG _ _ _ _ _ _ _ (T0.setTop (mkF m 31 #[.val (.ref a1), .val (.int oo), .val (.long vz), .second, .val (.int at_), .val (.long (own_v vz i)), .second] [(.long (128 : Int64)), (.long (own_v vz i))]))
    refine own_st (fun _ kq_ => XS.lcmp X0.here hx rfl (hb hby d1_31) rfl kq_) ?_
    show OwnG _ _ _ _ _ _ _ (T0.setTop (mkF m 32 #[.val (.ref a1), .val (.int oo), .val (.long vz), .second, .val (.int at_), .val (.long (own_v vz i)), .second] [(.int (lcmpW (own_v vz i) (128 : Int64)))]))
    refine own_st (fun _ kq_ => XS.ifYes X0.here hx rfl (pc0 := 32) (pc' := 64) rfl (hb hby d1_32) rfl ((if0 _ _).trans (tlt ((lw_lt _ _).mpr (own_hi vz u hu N h2 i (by omega)))).1) (by decide) (by decide) kq_) ?_
    show OwnG _ _ _ _ _ _ _ (T0.setTop (mkF m 64 #[.val (.ref a1), .val (.int oo), .val (.long vz), .second, .val (.int at_), .val (.long (own_v vz i)), .second] []))
    refine own_st (fun _ kq_ => XS.aloadN X0.here hx rfl (hb hby d1_64) rfl rfl kq_) ?_
    show OwnG _ _ _ _ _ _ _ (T0.setTop (mkF m 65 #[.val (.ref a1), .val (.int oo), .val (.long vz), .second, .val (.int at_), .val (.long (own_v vz i)), .second] [(.ref a1)]))
    refine own_st (fun _ kq_ => XS.iload X0.here hx rfl (hb hby d1_65) rfl kq_) ?_
    show OwnG _ _ _ _ _ _ _ (T0.setTop (mkF m 67 #[.val (.ref a1), .val (.int oo), .val (.long vz), .second, .val (.int at_), .val (.long (own_v vz i)), .second] [(.int at_), (.ref a1)]))
    refine own_st (fun _ kq_ => XS.iinc X0.here hx rfl (hb hby d1_67) rfl (l' := #[.val (.ref a1), .val (.int oo), .val (.long vz), .second, .val (.int (at_ + (1 : Int32))), .val (.long (own_v vz i)), .second]) rfl kq_) ?_
    show OwnG _ _ _ _ _ _ _ (T0.setTop (mkF m 70 #[.val (.ref a1), .val (.int oo), .val (.long vz), .second, .val (.int (at_ + (1 : Int32))), .val (.long (own_v vz i)), .second] [(.int at_), (.ref a1)]))
    refine own_st (fun _ kq_ => XS.lload X0.here hx rfl (hb hby d1_70) rfl kq_) ?_
    show OwnG _ _ _ _ _ _ _ (T0.setTop (mkF m 72 #[.val (.ref a1), .val (.int oo), .val (.long vz), .second, .val (.int (at_ + (1 : Int32))), .val (.long (own_v vz i)), .second] [(.long (own_v vz i)), (.int at_), (.ref a1)]))
    refine own_st (fun _ kq_ => XS.l2i X0.here hx rfl (hb hby d1_72) rfl kq_) ?_
    show OwnG _ _ _ _ _ _ _ (T0.setTop (mkF m 73 #[.val (.ref a1), .val (.int oo), .val (.long vz), .second, .val (.int (at_ + (1 : Int32))), .val (.long (own_v vz i)), .second] [(.int ((own_v vz i).toInt32)), (.int at_), (.ref a1)]))
    refine own_st (fun _ kq_ => XS.i2b X0.here hx rfl (hb hby d1_73) rfl kq_) ?_
    show OwnG _ _ _ _ _ _ _ (T0.setTop (mkF m 74 #[.val (.ref a1), .val (.int oo), .val (.long vz), .second, .val (.int (at_ + (1 : Int32))), .val (.long (own_v vz i)), .second] [(.int (((own_v vz i).toInt32).toInt8.toInt32)), (.int at_), (.ref a1)]))
    obtain ⟨T1, h1, X1, e1, W1, V1, st1⟩ := own_sB X0 hx hZ e0 V0 (oz + i) hat (by omega) (g := (mkF m 74 #[.val (.ref a1), .val (.int oo), .val (.long vz), .second, .val (.int (at_ + (1 : Int32))), .val (.long (own_v vz i)), .second] [(.int (((own_v vz i).toInt32).toInt8.toInt32)), (.int at_), (.ref a1)])) rfl rfl (hb hby d1_74)
    have N1 := Fr.snoc X1 N0 ga
    refine own_st st1 ?_
    show OwnG _ _ _ _ _ _ _ (T1.setTop (mkF m 75 #[.val (.ref a1), .val (.int oo), .val (.long vz), .second, .val (.int (at_ + (1 : Int32))), .val (.long (own_v vz i)), .second] []))
    have VV : Ary Z h1 a1 .byte 16 (own_fn vz oz N) := V1.cong fun k _ => own_pfn vz oz i N (by omega) _ (own_by _) k
    refine own_st (fun _ kq_ => XS.iload X1.here hx rfl (hb hby d1_75) rfl kq_) ?_
    show OwnG _ _ _ _ _ _ _ (T1.setTop (mkF m 77 #[.val (.ref a1), .val (.int oo), .val (.long vz), .second, .val (.int (at_ + (1 : Int32))), .val (.long (own_v vz i)), .second] [(.int (at_ + (1 : Int32)))]))
    have e9 : at_ + (1 : Int32) = Int32.ofNat (oz + N) := own_of _ _ (by rw [own_inc at_ (oz + i) hat (by omega)]; omega)
    exact own_retI X1 hx hrt hlk (hb hby d1_77) (by decide) (by decide) (by show _ ∧ _; first | (rw [e1]; exact ⟨congrArg (fun z => some (Value.int z)) e9, N1, by rw [W1.size]; exact Z0, VV⟩) | exact ⟨congrArg (fun z => some (Value.int z)) e9, N1, by rw [W1.size]; exact Z0, VV⟩)
  | succ r ih =>
    intro i hi at_ T0 h0 locs X0 e0 N0 Z0 hat V0
    show OwnG _ _ _ _ _ _ _ (T0.setTop (mkF m 26 #[.val (.ref a1), .val (.int oo), .val (.long vz), .second, .val (.int at_), .val (.long (own_v vz i)), .second] []))
    refine own_st (fun _ kq_ => XS.lload X0.here hx rfl (hb hby d1_26) rfl kq_) ?_
    show OwnG _ _ _ _ _ _ _ (T0.setTop (mkF m 28 #[.val (.ref a1), .val (.int oo), .val (.long vz), .second, .val (.int at_), .val (.long (own_v vz i)), .second] [(.long (own_v vz i))]))
    refine own_st (X0.ldc2Long hx hown (mvT hZ (hw _ (List.mem_of_getElem? (i := 14) rfl))) (g := (mkF m 28 #[.val (.ref a1), .val (.int oo), .val (.long vz), .second, .val (.int at_), .val (.long (own_v vz i)), .second] [(.long (own_v vz i))])) rfl (hb hby d1_28)) ?_
    show OwnG _ _ _ _ _ _ _ (T0.setTop (mkF m 31 #[.val (.ref a1), .val (.int oo), .val (.long vz), .second, .val (.int at_), .val (.long (own_v vz i)), .second] [(.long (128 : Int64)), (.long (own_v vz i))]))
    refine own_st (fun _ kq_ => XS.lcmp X0.here hx rfl (hb hby d1_31) rfl kq_) ?_
    show OwnG _ _ _ _ _ _ _ (T0.setTop (mkF m 32 #[.val (.ref a1), .val (.int oo), .val (.long vz), .second, .val (.int at_), .val (.long (own_v vz i)), .second] [(.int (lcmpW (own_v vz i) (128 : Int64)))]))
    refine own_st (fun _ kq_ => XS.ifNo X0.here hx rfl (hb hby d1_32) rfl ((if0 _ _).trans (flt (fun q => own_lo vz u hu N h1 i (by omega) ((lw_lt _ _).mp q))).1) kq_) ?_
    show OwnG _ _ _ _ _ _ _ (T0.setTop (mkF m 35 #[.val (.ref a1), .val (.int oo), .val (.long vz), .second, .val (.int at_), .val (.long (own_v vz i)), .second] []))
    refine own_st (fun _ kq_ => XS.aloadN X0.here hx rfl (hb hby d1_35) rfl rfl kq_) ?_
    show OwnG _ _ _ _ _ _ _ (T0.setTop (mkF m 36 #[.val (.ref a1), .val (.int oo), .val (.long vz), .second, .val (.int at_), .val (.long (own_v vz i)), .second] [(.ref a1)]))
    refine own_st (fun _ kq_ => XS.iload X0.here hx rfl (hb hby d1_36) rfl kq_) ?_
    show OwnG _ _ _ _ _ _ _ (T0.setTop (mkF m 38 #[.val (.ref a1), .val (.int oo), .val (.long vz), .second, .val (.int at_), .val (.long (own_v vz i)), .second] [(.int at_), (.ref a1)]))
    refine own_st (fun _ kq_ => XS.iinc X0.here hx rfl (hb hby d1_38) rfl (l' := #[.val (.ref a1), .val (.int oo), .val (.long vz), .second, .val (.int (at_ + (1 : Int32))), .val (.long (own_v vz i)), .second]) rfl kq_) ?_
    show OwnG _ _ _ _ _ _ _ (T0.setTop (mkF m 41 #[.val (.ref a1), .val (.int oo), .val (.long vz), .second, .val (.int (at_ + (1 : Int32))), .val (.long (own_v vz i)), .second] [(.int at_), (.ref a1)]))
    refine own_st (fun _ kq_ => XS.lload X0.here hx rfl (hb hby d1_41) rfl kq_) ?_
    show OwnG _ _ _ _ _ _ _ (T0.setTop (mkF m 43 #[.val (.ref a1), .val (.int oo), .val (.long vz), .second, .val (.int (at_ + (1 : Int32))), .val (.long (own_v vz i)), .second] [(.long (own_v vz i)), (.int at_), (.ref a1)]))
    refine own_st (X0.ldc2Long hx hown (mvT hZ (hw _ (List.mem_of_getElem? (i := 20) rfl))) (g := (mkF m 43 #[.val (.ref a1), .val (.int oo), .val (.long vz), .second, .val (.int (at_ + (1 : Int32))), .val (.long (own_v vz i)), .second] [(.long (own_v vz i)), (.int at_), (.ref a1)])) rfl (hb hby d1_43)) ?_
    show OwnG _ _ _ _ _ _ _ (T0.setTop (mkF m 46 #[.val (.ref a1), .val (.int oo), .val (.long vz), .second, .val (.int (at_ + (1 : Int32))), .val (.long (own_v vz i)), .second] [(.long (127 : Int64)), (.long (own_v vz i)), (.int at_), (.ref a1)]))
    refine own_st (fun _ kq_ => XS.land X0.here hx rfl (hb hby d1_46) rfl kq_) ?_
    show OwnG _ _ _ _ _ _ _ (T0.setTop (mkF m 47 #[.val (.ref a1), .val (.int oo), .val (.long vz), .second, .val (.int (at_ + (1 : Int32))), .val (.long (own_v vz i)), .second] [(.long ((own_v vz i) &&& (127 : Int64))), (.int at_), (.ref a1)]))
    refine own_st (X0.ldc2Long hx hown (mvT hZ (hw _ (List.mem_of_getElem? (i := 14) rfl))) (g := (mkF m 47 #[.val (.ref a1), .val (.int oo), .val (.long vz), .second, .val (.int (at_ + (1 : Int32))), .val (.long (own_v vz i)), .second] [(.long ((own_v vz i) &&& (127 : Int64))), (.int at_), (.ref a1)])) rfl (hb hby d1_47)) ?_
    show OwnG _ _ _ _ _ _ _ (T0.setTop (mkF m 50 #[.val (.ref a1), .val (.int oo), .val (.long vz), .second, .val (.int (at_ + (1 : Int32))), .val (.long (own_v vz i)), .second] [(.long (128 : Int64)), (.long ((own_v vz i) &&& (127 : Int64))), (.int at_), (.ref a1)]))
    refine own_st (fun _ kq_ => XS.lor X0.here hx rfl (hb hby d1_50) rfl kq_) ?_
    show OwnG _ _ _ _ _ _ _ (T0.setTop (mkF m 51 #[.val (.ref a1), .val (.int oo), .val (.long vz), .second, .val (.int (at_ + (1 : Int32))), .val (.long (own_v vz i)), .second] [(.long (((own_v vz i) &&& (127 : Int64)) ||| (128 : Int64))), (.int at_), (.ref a1)]))
    refine own_st (fun _ kq_ => XS.l2i X0.here hx rfl (hb hby d1_51) rfl kq_) ?_
    show OwnG _ _ _ _ _ _ _ (T0.setTop (mkF m 52 #[.val (.ref a1), .val (.int oo), .val (.long vz), .second, .val (.int (at_ + (1 : Int32))), .val (.long (own_v vz i)), .second] [(.int ((((own_v vz i) &&& (127 : Int64)) ||| (128 : Int64)).toInt32)), (.int at_), (.ref a1)]))
    refine own_st (fun _ kq_ => XS.i2b X0.here hx rfl (hb hby d1_52) rfl kq_) ?_
    show OwnG _ _ _ _ _ _ _ (T0.setTop (mkF m 53 #[.val (.ref a1), .val (.int oo), .val (.long vz), .second, .val (.int (at_ + (1 : Int32))), .val (.long (own_v vz i)), .second] [(.int (((((own_v vz i) &&& (127 : Int64)) ||| (128 : Int64)).toInt32).toInt8.toInt32)), (.int at_), (.ref a1)]))
    obtain ⟨T2, h2, X2, e2, W2, V2, st2⟩ := own_sB X0 hx hZ e0 V0 (oz + i) hat (by omega) (g := (mkF m 53 #[.val (.ref a1), .val (.int oo), .val (.long vz), .second, .val (.int (at_ + (1 : Int32))), .val (.long (own_v vz i)), .second] [(.int (((((own_v vz i) &&& (127 : Int64)) ||| (128 : Int64)).toInt32).toInt8.toInt32)), (.int at_), (.ref a1)])) rfl rfl (hb hby d1_53)
    have N2 := Fr.snoc X2 N0 ga
    refine own_st st2 ?_
    show OwnG _ _ _ _ _ _ _ (T2.setTop (mkF m 54 #[.val (.ref a1), .val (.int oo), .val (.long vz), .second, .val (.int (at_ + (1 : Int32))), .val (.long (own_v vz i)), .second] []))
    have VV : Ary Z h2 a1 .byte 16 (own_pf vz oz (i + 1)) := V2.cong fun k _ => own_pf1 vz oz i _ (own_by _) k
    refine own_st (fun _ kq_ => XS.lload X2.here hx rfl (hb hby d1_54) rfl kq_) ?_
    show OwnG _ _ _ _ _ _ _ (T2.setTop (mkF m 56 #[.val (.ref a1), .val (.int oo), .val (.long vz), .second, .val (.int (at_ + (1 : Int32))), .val (.long (own_v vz i)), .second] [(.long (own_v vz i))]))
    refine own_st (fun _ kq_ => XS.bipush X2.here hx rfl (hb hby d1_56) kq_) ?_
    show OwnG _ _ _ _ _ _ _ (T2.setTop (mkF m 58 #[.val (.ref a1), .val (.int oo), .val (.long vz), .second, .val (.int (at_ + (1 : Int32))), .val (.long (own_v vz i)), .second] [(.int (7 : Int32)), (.long (own_v vz i))]))
    refine own_st (fun _ kq_ => XS.lushr X2.here hx rfl (hb hby d1_58) rfl kq_) ?_
    show OwnG _ _ _ _ _ _ _ (T2.setTop (mkF m 59 #[.val (.ref a1), .val (.int oo), .val (.long vz), .second, .val (.int (at_ + (1 : Int32))), .val (.long (own_v vz i)), .second] [(.long (((own_v vz i).toUInt64 >>> ((7 : Int32) &&& 0x3f).toInt64.toUInt64).toInt64))]))
    refine own_st (fun _ kq_ => XS.lstore X2.here hx rfl (hb hby d1_59) rfl (l' := #[.val (.ref a1), .val (.int oo), .val (.long vz), .second, .val (.int (at_ + (1 : Int32))), .val (.long (((own_v vz i).toUInt64 >>> ((7 : Int32) &&& 0x3f).toInt64.toUInt64).toInt64)), .second]) rfl kq_) ?_
    show OwnG _ _ _ _ _ _ _ (T2.setTop (mkF m 61 #[.val (.ref a1), .val (.int oo), .val (.long vz), .second, .val (.int (at_ + (1 : Int32))), .val (.long (((own_v vz i).toUInt64 >>> ((7 : Int32) &&& 0x3f).toInt64.toUInt64).toInt64)), .second] []))
    refine own_st (fun _ kq_ => XS.goto X2.here hx rfl (pc0 := 61) (pc' := 26) rfl (hb hby d1_61) (by decide) (by decide) kq_) ?_
    show OwnG _ _ _ _ _ _ _ (T2.setTop (mkF m 26 #[.val (.ref a1), .val (.int oo), .val (.long vz), .second, .val (.int (at_ + (1 : Int32))), .val (.long (((own_v vz i).toUInt64 >>> ((7 : Int32) &&& 0x3f).toInt64.toUInt64).toInt64)), .second] []))
    exact ih (i + 1) (by omega) _ _ _ _ X2 e2 N2 (by rw [W2.size]; exact Z0) (by rw [own_inc at_ (oz + i) hat (by omega)]; omega) VV
theorem pn_1 : plainFor (⟨"com/example/posting/posting/index/Encoding", "putNumber", "([BIJ)I"⟩ : MethodName) = true := by first | exact plainFor_of_name (by first | (simp [plainName, overriddenIn]; done) | decide +kernel) | decide +kernel
theorem ef_1 (m : MethodId) (x0 : Addr) (x1 : Int32) (x2 : Int64) : entryFrame m #[(.ref x0), (.int x1), (.long x2)] 7 = mkF m 0 #[.val (.ref x0), .val (.int x1), .val (.long x2), .second, .unset, .unset, .unset] [] := by first | (simp [entryFrame, mkF, argsToLocals, Value.category]; done) | rfl
set_option maxRecDepth 65536 in
set_option maxHeartbeats 40000000 in
theorem rm1 (l : Launch) (Z : State) (a0 : Array Value) (hw : ∀ d ∈ tables_1, d.before a0 Z = true) (ws : List Jvm.Cond) (a1 : Addr) (oo : Int32) (vz : Int64) (u : Nat) (N : Nat) (oz : Nat) (h0 : Heap) (n0 : Nat) (Z0 : n0 ≤ h0.size) (hu : vz.toInt = (u : Int)) (hN1 : 1 ≤ N) (hN9 : N ≤ 9) (h2 : u < 128 ^ N) (h1 : N = 1 ∨ 128 ^ (N - 1) ≤ u) (hoo : oo.toInt = (oz : Int)) (ho : oz ≤ 3) (ga : n0 ≤ a1) (V0 : Ary Z h0 a1 .byte 16 (fun _ => .int (-91))) :
    MetFree l (⟨"com/example/posting/posting/index/Encoding", "putNumber", "([BIJ)I"⟩ : MethodName) (head1 (Jvm.Cond.code (⟨"com/example/posting/posting/index/Encoding", "putNumber", "([BIJ)I"⟩ : MethodName) prog_72_method_3_code 7 (some .int) :: ws) ({ frames := 0, cells := 0, slots := 0, locals := 0 } : Room)) (fun a U => a = #[(.ref a1), (.int oo), (.long vz)] ∧ Z.Warmed39 U.vm ∧ U.heap = h0) (fun _ _ _ _ _ => True) (fun _ U o U' => ∃ v L, o = .returned v ∧ Q1 Z a1 vz N oz n0 v U'.heap L ∧ FrameEnd U o U' L ({ frames := 0, cells := 0, slots := 0, locals := 0 } : Room).cells ({ frames := 0, cells := 0, slots := 0, locals := 0 } : Room).slots) := by
  refine MetFree.of_bodySF pn_1 hisR ?_
  intro p e s m args below meth c s₁ Bd hml0 hP hK
  obtain ⟨rfl, hZ, hh⟩ := hP
  have hx := Bd.exec
  have hby := Bd.bytes
  have hml : c.maxLocals = 7 := hml0
  have hown : s.vm.findClass "com/example/posting/posting/index/Encoding" = some m.cls := findClass_of_methodNamed Bd.named
  have hnm := (name_of_methodNamed Bd.named Bd.method).1
  have hrt := Bd.returns
  have hlk : meth.locks = false := BodyLoose.notSynchronized Bd
  have X0 : Stand p l e ({ frames := 0, cells := 0, slots := 0, locals := 0 } : Room) s m #[(.ref a1), (.int oo), (.long vz)] below meth c s₁ [] 0 0 := Stand.of_body Bd
  have e0 : s₁.heap = h0 := by rw [← hh, Bd.state]; rfl
  have N0 := Fr.nil n0
  show OwnG ({ frames := 0, cells := 0, slots := 0, locals := 0 } : Room).cells ({ frames := 0, cells := 0, slots := 0, locals := 0 } : Room).slots (Q1 Z a1 vz N oz n0) p e below s (s₁.setTop (entryFrame m #[(.ref a1), (.int oo), (.long vz)] 7))
  refine own_st (σ' := s₁.setTop (mkF m 0 #[.val (.ref a1), .val (.int oo), .val (.long vz), .second, .unset, .unset, .unset] [])) (fun _ kq_ => castTop (ef_1 m a1 oo vz) kq_) ?_
  show OwnG _ _ _ _ _ _ _ (s₁.setTop (mkF m 0 #[.val (.ref a1), .val (.int oo), .val (.long vz), .second, .unset, .unset, .unset] []))
  refine own_st (fun _ kq_ => XS.lloadN X0.here hx rfl (hb hby d1_0) rfl kq_) ?_
  show OwnG _ _ _ _ _ _ _ (s₁.setTop (mkF m 1 #[.val (.ref a1), .val (.int oo), .val (.long vz), .second, .unset, .unset, .unset] [(.long vz)]))
  refine own_st (fun _ kq_ => XS.lconst X0.here hx rfl (hb hby d1_1) kq_) ?_
  show OwnG _ _ _ _ _ _ _ (s₁.setTop (mkF m 2 #[.val (.ref a1), .val (.int oo), .val (.long vz), .second, .unset, .unset, .unset] [(.long (0 : Int64)), (.long vz)]))
  refine own_st (fun _ kq_ => XS.lcmp X0.here hx rfl (hb hby d1_2) rfl kq_) ?_
  show OwnG _ _ _ _ _ _ _ (s₁.setTop (mkF m 3 #[.val (.ref a1), .val (.int oo), .val (.long vz), .second, .unset, .unset, .unset] [(.int (lcmpW vz (0 : Int64)))]))
  refine own_st (fun _ kq_ => XS.ifYes X0.here hx rfl (pc0 := 3) (pc' := 20) rfl (hb hby d1_3) rfl ((if0 _ _).trans (flt (fun q => by have := (lw_lt _ _).mp q; rw [Int64.lt_iff_toInt_lt, hu] at this; have : (0 : Int64).toInt = 0 := rfl; omega)).2.1) (by decide) (by decide) kq_) ?_
  show OwnG _ _ _ _ _ _ _ (s₁.setTop (mkF m 20 #[.val (.ref a1), .val (.int oo), .val (.long vz), .second, .unset, .unset, .unset] []))
  refine own_st (fun _ kq_ => XS.iloadN X0.here hx rfl (hb hby d1_20) rfl kq_) ?_
  show OwnG _ _ _ _ _ _ _ (s₁.setTop (mkF m 21 #[.val (.ref a1), .val (.int oo), .val (.long vz), .second, .unset, .unset, .unset] [(.int oo)]))
  refine own_st (fun _ kq_ => XS.istore X0.here hx rfl (hb hby d1_21) rfl (l' := #[.val (.ref a1), .val (.int oo), .val (.long vz), .second, .val (.int oo), .unset, .unset]) rfl kq_) ?_
  show OwnG _ _ _ _ _ _ _ (s₁.setTop (mkF m 23 #[.val (.ref a1), .val (.int oo), .val (.long vz), .second, .val (.int oo), .unset, .unset] []))
  refine own_st (fun _ kq_ => XS.lloadN X0.here hx rfl (hb hby d1_23) rfl kq_) ?_
  show OwnG _ _ _ _ _ _ _ (s₁.setTop (mkF m 24 #[.val (.ref a1), .val (.int oo), .val (.long vz), .second, .val (.int oo), .unset, .unset] [(.long vz)]))
  refine own_st (fun _ kq_ => XS.lstore X0.here hx rfl (hb hby d1_24) rfl (l' := #[.val (.ref a1), .val (.int oo), .val (.long vz), .second, .val (.int oo), .val (.long vz), .second]) rfl kq_) ?_
  show OwnG _ _ _ _ _ _ _ (s₁.setTop (mkF m 26 #[.val (.ref a1), .val (.int oo), .val (.long vz), .second, .val (.int oo), .val (.long vz), .second] []))
  exact own_loop hx hZ hw hby hml hown hrt hlk a1 oo vz u hu N hN1 hN9 h2 h1 oz ho n0 ga (N - 1) 0 (by omega) oo _ _ _ X0 e0 N0 Z0 hoo (V0.cong fun k _ => (own_pf0 vz oz k).symm)
theorem d2_0 : decode method_3_code 0 = .ok (.iload_n 1, 1) := by decide +kernel
theorem d2_1 : decode method_3_code 1 = .ok (.iload_n 2, 1) := by decide +kernel
theorem d2_2 : decode method_3_code 2 = .ok (.isub, 1) := by decide +kernel
theorem d2_3 : decode method_3_code 3 = .ok (.istore 6, 2) := by decide +kernel
theorem d2_5 : decode method_3_code 5 = .ok (.iload 6, 2) := by decide +kernel
theorem d2_7 : decode method_3_code 7 = .ok (.ifCond .lt 9, 3) := by decide +kernel
theorem d2_10 : decode method_3_code 10 = .ok (.iload 6, 2) := by decide +kernel
theorem d2_12 : decode method_3_code 12 = .ok (.iload_n 3, 1) := by decide +kernel
theorem d2_13 : decode method_3_code 13 = .ok (.if_icmp .lt 17, 3) := by decide +kernel
theorem d2_16 : decode method_3_code 16 = .ok (.aload_n 0, 1) := by decide +kernel
theorem d2_17 : decode method_3_code 17 = .ok (.iload_n 1, 1) := by decide +kernel
theorem d2_18 : decode method_3_code 18 = .ok (.baload, 1) := by decide +kernel
theorem d2_19 : decode method_3_code 19 = .ok (.bipush (-91), 2) := by decide +kernel
theorem d2_21 : decode method_3_code 21 = .ok (.if_icmp .ne 7, 3) := by decide +kernel
theorem d2_24 : decode method_3_code 24 = .ok (.iconst 1, 1) := by decide +kernel
theorem d2_25 : decode method_3_code 25 = .ok (.goto 4, 3) := by decide +kernel
theorem d2_28 : decode method_3_code 28 = .ok (.iconst 0, 1) := by decide +kernel
theorem d2_29 : decode method_3_code 29 = .ok (.ireturn, 1) := by decide +kernel
theorem d2_30 : decode method_3_code 30 = .ok (.lload 4, 2) := by decide +kernel
theorem d2_32 : decode method_3_code 32 = .ok (.bipush 7, 2) := by decide +kernel
theorem d2_34 : decode method_3_code 34 = .ok (.iload 6, 2) := by decide +kernel
theorem d2_36 : decode method_3_code 36 = .ok (.imul, 1) := by decide +kernel
theorem d2_37 : decode method_3_code 37 = .ok (.lushr, 1) := by decide +kernel
theorem d2_38 : decode method_3_code 38 = .ok (.ldc2_w 39, 3) := by decide +kernel
theorem d2_41 : decode method_3_code 41 = .ok (.land, 1) := by decide +kernel
theorem d2_42 : decode method_3_code 42 = .ok (.l2i, 1) := by decide +kernel
theorem d2_43 : decode method_3_code 43 = .ok (.istore 7, 2) := by decide +kernel
theorem d2_45 : decode method_3_code 45 = .ok (.iload 6, 2) := by decide +kernel
theorem d2_47 : decode method_3_code 47 = .ok (.iload_n 3, 1) := by decide +kernel
theorem d2_48 : decode method_3_code 48 = .ok (.iconst 1, 1) := by decide +kernel
theorem d2_49 : decode method_3_code 49 = .ok (.isub, 1) := by decide +kernel
theorem d2_50 : decode method_3_code 50 = .ok (.if_icmp .ge 12, 3) := by decide +kernel
theorem d2_53 : decode method_3_code 53 = .ok (.iload 7, 2) := by decide +kernel
theorem d2_55 : decode method_3_code 55 = .ok (.sipush 128, 3) := by decide +kernel
theorem d2_58 : decode method_3_code 58 = .ok (.ior, 1) := by decide +kernel
theorem d2_59 : decode method_3_code 59 = .ok (.goto 5, 3) := by decide +kernel
theorem d2_62 : decode method_3_code 62 = .ok (.iload 7, 2) := by decide +kernel
theorem d2_64 : decode method_3_code 64 = .ok (.istore 8, 2) := by decide +kernel
theorem d2_66 : decode method_3_code 66 = .ok (.aload_n 0, 1) := by decide +kernel
theorem d2_67 : decode method_3_code 67 = .ok (.iload_n 1, 1) := by decide +kernel
theorem d2_68 : decode method_3_code 68 = .ok (.baload, 1) := by decide +kernel
theorem d2_69 : decode method_3_code 69 = .ok (.iload 8, 2) := by decide +kernel
theorem d2_71 : decode method_3_code 71 = .ok (.i2b, 1) := by decide +kernel
theorem d2_72 : decode method_3_code 72 = .ok (.if_icmp .ne 7, 3) := by decide +kernel
theorem d2_75 : decode method_3_code 75 = .ok (.iconst 1, 1) := by decide +kernel
theorem d2_76 : decode method_3_code 76 = .ok (.goto 4, 3) := by decide +kernel
theorem d2_79 : decode method_3_code 79 = .ok (.iconst 0, 1) := by decide +kernel
theorem d2_80 : decode method_3_code 80 = .ok (.ireturn, 1) := by decide +kernel
theorem pn_2 : plainFor (⟨"com/example/posting/posting/index/EncodingPutNumberPinLaw", "cell", "([BIIIJ)Z"⟩ : MethodName) = true := by first | exact plainFor_of_name (by first | (simp [plainName, overriddenIn]; done) | decide +kernel) | decide +kernel
theorem ef_2 (m : MethodId) (x0 : Addr) (x1 : Int32) (x2 : Int32) (x3 : Int32) (x4 : Int64) : entryFrame m #[(.ref x0), (.int x1), (.int x2), (.int x3), (.long x4)] 9 = mkF m 0 #[.val (.ref x0), .val (.int x1), .val (.int x2), .val (.int x3), .val (.long x4), .second, .unset, .unset, .unset] [] := by first | (simp [entryFrame, mkF, argsToLocals, Value.category]; done) | rfl
def Q2 (Z : State) (a1 : Addr) (kk : Int32) (oo : Int32) (nn : Int32) (vz : Int64) (u : Nat) (N : Nat) (oz : Nat) (k : Nat) (h0 : Heap) (n0 : Nat) (v : Option Value) (h : Heap) (L : List Loc) : Prop := v = some (.int 1) ∧ Fr n0 L ∧ h = h0
set_option maxRecDepth 65536 in
set_option maxHeartbeats 40000000 in
theorem rm2 (l : Launch) (Z : State) (a0 : Array Value) (hw : ∀ d ∈ tables_1, d.before a0 Z = true) (ws : List Jvm.Cond) (a1 : Addr) (kk : Int32) (oo : Int32) (nn : Int32) (vz : Int64) (u : Nat) (N : Nat) (oz : Nat) (k : Nat) (h0 : Heap) (n0 : Nat) (Z0 : n0 ≤ h0.size) (hu : vz.toInt = (u : Int)) (hN1 : 1 ≤ N) (hN9 : N ≤ 9) (h2 : u < 128 ^ N) (h1 : N = 1 ∨ 128 ^ (N - 1) ≤ u) (hkk : kk.toInt = (k : Int)) (hk : k < 16) (hoo : oo.toInt = (oz : Int)) (ho : oz ≤ 3) (hnn : nn.toInt = (N : Int)) (V0 : Ary Z h0 a1 .byte 16 (own_fn vz oz N)) :
    MetFree l (⟨"com/example/posting/posting/index/EncodingPutNumberPinLaw", "cell", "([BIIIJ)Z"⟩ : MethodName) (head1 (Jvm.Cond.code (⟨"com/example/posting/posting/index/EncodingPutNumberPinLaw", "cell", "([BIIIJ)Z"⟩ : MethodName) method_3_code 9 (some .boolean) :: ws) ({ frames := 0, cells := 0, slots := 0, locals := 0 } : Room)) (fun a U => a = #[(.ref a1), (.int kk), (.int oo), (.int nn), (.long vz)] ∧ Z.Warmed39 U.vm ∧ U.heap = h0) (fun _ _ _ _ _ => True) (fun _ U o U' => ∃ v L, o = .returned v ∧ Q2 Z a1 kk oo nn vz u N oz k h0 n0 v U'.heap L ∧ FrameEnd U o U' L ({ frames := 0, cells := 0, slots := 0, locals := 0 } : Room).cells ({ frames := 0, cells := 0, slots := 0, locals := 0 } : Room).slots) := by
  refine MetFree.of_bodySF pn_2 hisR ?_
  intro p e s m args below meth c s₁ Bd hml0 hP hK
  obtain ⟨rfl, hZ, hh⟩ := hP
  have hx := Bd.exec
  have hby := Bd.bytes
  have hml : c.maxLocals = 9 := hml0
  have hown : s.vm.findClass "com/example/posting/posting/index/EncodingPutNumberPinLaw" = some m.cls := findClass_of_methodNamed Bd.named
  have hnm := (name_of_methodNamed Bd.named Bd.method).1
  have hrt := Bd.returns
  have hlk : meth.locks = false := BodyLoose.notSynchronized Bd
  have X0 : Stand p l e ({ frames := 0, cells := 0, slots := 0, locals := 0 } : Room) s m #[(.ref a1), (.int kk), (.int oo), (.int nn), (.long vz)] below meth c s₁ [] 0 0 := Stand.of_body Bd
  have e0 : s₁.heap = h0 := by rw [← hh, Bd.state]; rfl
  have N0 := Fr.nil n0
  show OwnG ({ frames := 0, cells := 0, slots := 0, locals := 0 } : Room).cells ({ frames := 0, cells := 0, slots := 0, locals := 0 } : Room).slots (Q2 Z a1 kk oo nn vz u N oz k h0 n0) p e below s (s₁.setTop (entryFrame m #[(.ref a1), (.int kk), (.int oo), (.int nn), (.long vz)] 9))
  refine own_st (σ' := s₁.setTop (mkF m 0 #[.val (.ref a1), .val (.int kk), .val (.int oo), .val (.int nn), .val (.long vz), .second, .unset, .unset, .unset] [])) (fun _ kq_ => castTop (ef_2 m a1 kk oo nn vz) kq_) ?_
  show OwnG _ _ _ _ _ _ _ (s₁.setTop (mkF m 0 #[.val (.ref a1), .val (.int kk), .val (.int oo), .val (.int nn), .val (.long vz), .second, .unset, .unset, .unset] []))
  have hd : (kk - oo).toInt = (k : Int) - oz := by have h1 := c_isub kk oo; have h2 := rng32 (kk - oo); omega
  refine own_st (fun _ kq_ => XS.iloadN X0.here hx rfl (hb hby d2_0) rfl kq_) ?_
  show OwnG _ _ _ _ _ _ _ (s₁.setTop (mkF m 1 #[.val (.ref a1), .val (.int kk), .val (.int oo), .val (.int nn), .val (.long vz), .second, .unset, .unset, .unset] [(.int kk)]))
  refine own_st (fun _ kq_ => XS.iloadN X0.here hx rfl (hb hby d2_1) rfl kq_) ?_
  show OwnG _ _ _ _ _ _ _ (s₁.setTop (mkF m 2 #[.val (.ref a1), .val (.int kk), .val (.int oo), .val (.int nn), .val (.long vz), .second, .unset, .unset, .unset] [(.int oo), (.int kk)]))
  refine own_st (fun _ kq_ => XS.isub X0.here hx rfl (hb hby d2_2) rfl kq_) ?_
  show OwnG _ _ _ _ _ _ _ (s₁.setTop (mkF m 3 #[.val (.ref a1), .val (.int kk), .val (.int oo), .val (.int nn), .val (.long vz), .second, .unset, .unset, .unset] [(.int (kk - oo))]))
  refine own_st (fun _ kq_ => XS.istore X0.here hx rfl (hb hby d2_3) rfl (l' := #[.val (.ref a1), .val (.int kk), .val (.int oo), .val (.int nn), .val (.long vz), .second, .val (.int (kk - oo)), .unset, .unset]) rfl kq_) ?_
  show OwnG _ _ _ _ _ _ _ (s₁.setTop (mkF m 5 #[.val (.ref a1), .val (.int kk), .val (.int oo), .val (.int nn), .val (.long vz), .second, .val (.int (kk - oo)), .unset, .unset] []))
  refine own_st (fun _ kq_ => XS.iload X0.here hx rfl (hb hby d2_5) rfl kq_) ?_
  show OwnG _ _ _ _ _ _ _ (s₁.setTop (mkF m 7 #[.val (.ref a1), .val (.int kk), .val (.int oo), .val (.int nn), .val (.long vz), .second, .val (.int (kk - oo)), .unset, .unset] [(.int (kk - oo))]))
  by_cases h7 : (kk - oo) < (0 : Int32)
  · skip
    refine own_st (fun _ kq_ => XS.ifYes X0.here hx rfl (pc0 := 7) (pc' := 16) rfl (hb hby d2_7) rfl ((if0 _ _).trans (tlt h7).1) (by decide) (by decide) kq_) ?_
    show OwnG _ _ _ _ _ _ _ (s₁.setTop (mkF m 16 #[.val (.ref a1), .val (.int kk), .val (.int oo), .val (.int nn), .val (.long vz), .second, .val (.int (kk - oo)), .unset, .unset] []))
    rw [Int32.lt_iff_toInt_lt, hd] at h7
    have hz : (0 : Int32).toInt = 0 := rfl
    refine own_st (fun _ kq_ => XS.aloadN X0.here hx rfl (hb hby d2_16) rfl rfl kq_) ?_
    show OwnG _ _ _ _ _ _ _ (s₁.setTop (mkF m 17 #[.val (.ref a1), .val (.int kk), .val (.int oo), .val (.int nn), .val (.long vz), .second, .val (.int (kk - oo)), .unset, .unset] [(.ref a1)]))
    refine own_st (fun _ kq_ => XS.iloadN X0.here hx rfl (hb hby d2_17) rfl kq_) ?_
    show OwnG _ _ _ _ _ _ _ (s₁.setTop (mkF m 18 #[.val (.ref a1), .val (.int kk), .val (.int oo), .val (.int nn), .val (.long vz), .second, .val (.int (kk - oo)), .unset, .unset] [(.int kk), (.ref a1)]))
    refine own_st (own_bl X0 hx hZ e0 V0 (k) hkk hk (by rw [own_fn, if_neg (by omega)]) (g := (mkF m 18 #[.val (.ref a1), .val (.int kk), .val (.int oo), .val (.int nn), .val (.long vz), .second, .val (.int (kk - oo)), .unset, .unset] [(.int kk), (.ref a1)])) rfl rfl (hb hby d2_18)) ?_
    show OwnG _ _ _ _ _ _ _ (s₁.setTop (mkF m 19 #[.val (.ref a1), .val (.int kk), .val (.int oo), .val (.int nn), .val (.long vz), .second, .val (.int (kk - oo)), .unset, .unset] [(.int (-91 : Int32))]))
    refine own_st (fun _ kq_ => XS.bipush X0.here hx rfl (hb hby d2_19) kq_) ?_
    show OwnG _ _ _ _ _ _ _ (s₁.setTop (mkF m 21 #[.val (.ref a1), .val (.int kk), .val (.int oo), .val (.int nn), .val (.long vz), .second, .val (.int (kk - oo)), .unset, .unset] [(.int (-91 : Int32)), (.int (-91 : Int32))]))
    refine own_st (fun _ kq_ => XS.icmpNo X0.here hx rfl (hb hby d2_21) rfl (teq rfl).2 kq_) ?_
    show OwnG _ _ _ _ _ _ _ (s₁.setTop (mkF m 24 #[.val (.ref a1), .val (.int kk), .val (.int oo), .val (.int nn), .val (.long vz), .second, .val (.int (kk - oo)), .unset, .unset] []))
    refine own_st (fun _ kq_ => XS.iconst X0.here hx rfl (hb hby d2_24) kq_) ?_
    show OwnG _ _ _ _ _ _ _ (s₁.setTop (mkF m 25 #[.val (.ref a1), .val (.int kk), .val (.int oo), .val (.int nn), .val (.long vz), .second, .val (.int (kk - oo)), .unset, .unset] [(.int (1 : Int32))]))
    refine own_st (fun _ kq_ => XS.goto X0.here hx rfl (pc0 := 25) (pc' := 29) rfl (hb hby d2_25) (by decide) (by decide) kq_) ?_
    show OwnG _ _ _ _ _ _ _ (s₁.setTop (mkF m 29 #[.val (.ref a1), .val (.int kk), .val (.int oo), .val (.int nn), .val (.long vz), .second, .val (.int (kk - oo)), .unset, .unset] [(.int (1 : Int32))]))
    exact own_retN X0 hx hrt hlk (t := .boolean) (by simp) (hb hby d2_29) (by decide) (by decide) (by show _ ∧ _; first | (rw [e0]; exact ⟨rfl, N0, rfl⟩) | exact ⟨rfl, N0, rfl⟩)
  · skip
    refine own_st (fun _ kq_ => XS.ifNo X0.here hx rfl (hb hby d2_7) rfl ((if0 _ _).trans (flt h7).1) kq_) ?_
    show OwnG _ _ _ _ _ _ _ (s₁.setTop (mkF m 10 #[.val (.ref a1), .val (.int kk), .val (.int oo), .val (.int nn), .val (.long vz), .second, .val (.int (kk - oo)), .unset, .unset] []))
    refine own_st (fun _ kq_ => XS.iload X0.here hx rfl (hb hby d2_10) rfl kq_) ?_
    show OwnG _ _ _ _ _ _ _ (s₁.setTop (mkF m 12 #[.val (.ref a1), .val (.int kk), .val (.int oo), .val (.int nn), .val (.long vz), .second, .val (.int (kk - oo)), .unset, .unset] [(.int (kk - oo))]))
    refine own_st (fun _ kq_ => XS.iloadN X0.here hx rfl (hb hby d2_12) rfl kq_) ?_
    show OwnG _ _ _ _ _ _ _ (s₁.setTop (mkF m 13 #[.val (.ref a1), .val (.int kk), .val (.int oo), .val (.int nn), .val (.long vz), .second, .val (.int (kk - oo)), .unset, .unset] [(.int nn), (.int (kk - oo))]))
    by_cases h13 : (kk - oo) < nn
    · have hz : (0 : Int32).toInt = 0 := rfl
      have h7' := h7
      have h13' := h13
      rw [Int32.lt_iff_toInt_lt] at h7' h13'
      refine own_st (fun _ kq_ => XS.icmpYes X0.here hx rfl (pc0 := 13) (pc' := 30) rfl (hb hby d2_13) rfl (tlt h13).1 (by decide) (by decide) kq_) ?_
      show OwnG _ _ _ _ _ _ _ (s₁.setTop (mkF m 30 #[.val (.ref a1), .val (.int kk), .val (.int oo), .val (.int nn), .val (.long vz), .second, .val (.int (kk - oo)), .unset, .unset] []))
      refine own_st (fun _ kq_ => XS.lload X0.here hx rfl (hb hby d2_30) rfl kq_) ?_
      show OwnG _ _ _ _ _ _ _ (s₁.setTop (mkF m 32 #[.val (.ref a1), .val (.int kk), .val (.int oo), .val (.int nn), .val (.long vz), .second, .val (.int (kk - oo)), .unset, .unset] [(.long vz)]))
      refine own_st (fun _ kq_ => XS.bipush X0.here hx rfl (hb hby d2_32) kq_) ?_
      show OwnG _ _ _ _ _ _ _ (s₁.setTop (mkF m 34 #[.val (.ref a1), .val (.int kk), .val (.int oo), .val (.int nn), .val (.long vz), .second, .val (.int (kk - oo)), .unset, .unset] [(.int (7 : Int32)), (.long vz)]))
      refine own_st (fun _ kq_ => XS.iload X0.here hx rfl (hb hby d2_34) rfl kq_) ?_
      show OwnG _ _ _ _ _ _ _ (s₁.setTop (mkF m 36 #[.val (.ref a1), .val (.int kk), .val (.int oo), .val (.int nn), .val (.long vz), .second, .val (.int (kk - oo)), .unset, .unset] [(.int (kk - oo)), (.int (7 : Int32)), (.long vz)]))
      refine own_st (fun _ kq_ => XS.imul X0.here hx rfl (hb hby d2_36) rfl kq_) ?_
      show OwnG _ _ _ _ _ _ _ (s₁.setTop (mkF m 37 #[.val (.ref a1), .val (.int kk), .val (.int oo), .val (.int nn), .val (.long vz), .second, .val (.int (kk - oo)), .unset, .unset] [(.int ((7 : Int32) * (kk - oo))), (.long vz)]))
      refine own_st (fun _ kq_ => XS.lushr X0.here hx rfl (hb hby d2_37) rfl kq_) ?_
      show OwnG _ _ _ _ _ _ _ (s₁.setTop (mkF m 38 #[.val (.ref a1), .val (.int kk), .val (.int oo), .val (.int nn), .val (.long vz), .second, .val (.int (kk - oo)), .unset, .unset] [(.long ((vz.toUInt64 >>> (((7 : Int32) * (kk - oo)) &&& 0x3f).toInt64.toUInt64).toInt64))]))
      refine own_st (X0.ldc2Long hx hown (mvT hZ (hw _ (List.mem_of_getElem? (i := 19) rfl))) (g := (mkF m 38 #[.val (.ref a1), .val (.int kk), .val (.int oo), .val (.int nn), .val (.long vz), .second, .val (.int (kk - oo)), .unset, .unset] [(.long ((vz.toUInt64 >>> (((7 : Int32) * (kk - oo)) &&& 0x3f).toInt64.toUInt64).toInt64))])) rfl (hb hby d2_38)) ?_
      show OwnG _ _ _ _ _ _ _ (s₁.setTop (mkF m 41 #[.val (.ref a1), .val (.int kk), .val (.int oo), .val (.int nn), .val (.long vz), .second, .val (.int (kk - oo)), .unset, .unset] [(.long (127 : Int64)), (.long ((vz.toUInt64 >>> (((7 : Int32) * (kk - oo)) &&& 0x3f).toInt64.toUInt64).toInt64))]))
      have hs : ((vz.toUInt64 >>> (((7 : Int32) * (kk - oo)) &&& 0x3f).toInt64.toUInt64).toInt64) = own_v vz (k - oz) := own_sh vz u hu (kk - oo) (k - oz) (by omega) (by omega)
      rw [hs]
      show OwnG _ _ _ _ _ _ _ (s₁.setTop (mkF m 41 #[.val (.ref a1), .val (.int kk), .val (.int oo), .val (.int nn), .val (.long vz), .second, .val (.int (kk - oo)), .unset, .unset] [(.long (127 : Int64)), (.long (own_v vz (k - oz)))]))
      refine own_st (fun _ kq_ => XS.land X0.here hx rfl (hb hby d2_41) rfl kq_) ?_
      show OwnG _ _ _ _ _ _ _ (s₁.setTop (mkF m 42 #[.val (.ref a1), .val (.int kk), .val (.int oo), .val (.int nn), .val (.long vz), .second, .val (.int (kk - oo)), .unset, .unset] [(.long ((own_v vz (k - oz)) &&& (127 : Int64)))]))
      refine own_st (fun _ kq_ => XS.l2i X0.here hx rfl (hb hby d2_42) rfl kq_) ?_
      show OwnG _ _ _ _ _ _ _ (s₁.setTop (mkF m 43 #[.val (.ref a1), .val (.int kk), .val (.int oo), .val (.int nn), .val (.long vz), .second, .val (.int (kk - oo)), .unset, .unset] [(.int (((own_v vz (k - oz)) &&& (127 : Int64)).toInt32))]))
      refine own_st (fun _ kq_ => XS.istore X0.here hx rfl (hb hby d2_43) rfl (l' := #[.val (.ref a1), .val (.int kk), .val (.int oo), .val (.int nn), .val (.long vz), .second, .val (.int (kk - oo)), .val (.int (((own_v vz (k - oz)) &&& (127 : Int64)).toInt32)), .unset]) rfl kq_) ?_
      show OwnG _ _ _ _ _ _ _ (s₁.setTop (mkF m 45 #[.val (.ref a1), .val (.int kk), .val (.int oo), .val (.int nn), .val (.long vz), .second, .val (.int (kk - oo)), .val (.int (((own_v vz (k - oz)) &&& (127 : Int64)).toInt32)), .unset] []))
      refine own_st (fun _ kq_ => XS.iload X0.here hx rfl (hb hby d2_45) rfl kq_) ?_
      show OwnG _ _ _ _ _ _ _ (s₁.setTop (mkF m 47 #[.val (.ref a1), .val (.int kk), .val (.int oo), .val (.int nn), .val (.long vz), .second, .val (.int (kk - oo)), .val (.int (((own_v vz (k - oz)) &&& (127 : Int64)).toInt32)), .unset] [(.int (kk - oo))]))
      refine own_st (fun _ kq_ => XS.iloadN X0.here hx rfl (hb hby d2_47) rfl kq_) ?_
      show OwnG _ _ _ _ _ _ _ (s₁.setTop (mkF m 48 #[.val (.ref a1), .val (.int kk), .val (.int oo), .val (.int nn), .val (.long vz), .second, .val (.int (kk - oo)), .val (.int (((own_v vz (k - oz)) &&& (127 : Int64)).toInt32)), .unset] [(.int nn), (.int (kk - oo))]))
      refine own_st (fun _ kq_ => XS.iconst X0.here hx rfl (hb hby d2_48) kq_) ?_
      show OwnG _ _ _ _ _ _ _ (s₁.setTop (mkF m 49 #[.val (.ref a1), .val (.int kk), .val (.int oo), .val (.int nn), .val (.long vz), .second, .val (.int (kk - oo)), .val (.int (((own_v vz (k - oz)) &&& (127 : Int64)).toInt32)), .unset] [(.int (1 : Int32)), (.int nn), (.int (kk - oo))]))
      refine own_st (fun _ kq_ => XS.isub X0.here hx rfl (hb hby d2_49) rfl kq_) ?_
      show OwnG _ _ _ _ _ _ _ (s₁.setTop (mkF m 50 #[.val (.ref a1), .val (.int kk), .val (.int oo), .val (.int nn), .val (.long vz), .second, .val (.int (kk - oo)), .val (.int (((own_v vz (k - oz)) &&& (127 : Int64)).toInt32)), .unset] [(.int (nn - (1 : Int32))), (.int (kk - oo))]))
      have hn1 : (nn - (1 : Int32)).toInt = (N : Int) - 1 := by have h1 := c_isub nn 1; have h2 := rng32 (nn - 1); have h3 : (1 : Int32).toInt = 1 := rfl; omega
      by_cases h50 : (kk - oo) < (nn - (1 : Int32))
      · have h50' := h50
        rw [Int32.lt_iff_toInt_lt] at h50'
        refine own_st (fun _ kq_ => XS.icmpNo X0.here hx rfl (hb hby d2_50) rfl (tlt h50).2.1 kq_) ?_
        show OwnG _ _ _ _ _ _ _ (s₁.setTop (mkF m 53 #[.val (.ref a1), .val (.int kk), .val (.int oo), .val (.int nn), .val (.long vz), .second, .val (.int (kk - oo)), .val (.int (((own_v vz (k - oz)) &&& (127 : Int64)).toInt32)), .unset] []))
        refine own_st (fun _ kq_ => XS.iload X0.here hx rfl (hb hby d2_53) rfl kq_) ?_
        show OwnG _ _ _ _ _ _ _ (s₁.setTop (mkF m 55 #[.val (.ref a1), .val (.int kk), .val (.int oo), .val (.int nn), .val (.long vz), .second, .val (.int (kk - oo)), .val (.int (((own_v vz (k - oz)) &&& (127 : Int64)).toInt32)), .unset] [(.int (((own_v vz (k - oz)) &&& (127 : Int64)).toInt32))]))
        refine own_st (fun _ kq_ => XS.sipush X0.here hx rfl (hb hby d2_55) kq_) ?_
        show OwnG _ _ _ _ _ _ _ (s₁.setTop (mkF m 58 #[.val (.ref a1), .val (.int kk), .val (.int oo), .val (.int nn), .val (.long vz), .second, .val (.int (kk - oo)), .val (.int (((own_v vz (k - oz)) &&& (127 : Int64)).toInt32)), .unset] [(.int (128 : Int32)), (.int (((own_v vz (k - oz)) &&& (127 : Int64)).toInt32))]))
        refine own_st (fun _ kq_ => XS.ior X0.here hx rfl (hb hby d2_58) rfl kq_) ?_
        show OwnG _ _ _ _ _ _ _ (s₁.setTop (mkF m 59 #[.val (.ref a1), .val (.int kk), .val (.int oo), .val (.int nn), .val (.long vz), .second, .val (.int (kk - oo)), .val (.int (((own_v vz (k - oz)) &&& (127 : Int64)).toInt32)), .unset] [(.int ((((own_v vz (k - oz)) &&& (127 : Int64)).toInt32) ||| (128 : Int32)))]))
        refine own_st (fun _ kq_ => XS.goto X0.here hx rfl (pc0 := 59) (pc' := 64) rfl (hb hby d2_59) (by decide) (by decide) kq_) ?_
        show OwnG _ _ _ _ _ _ _ (s₁.setTop (mkF m 64 #[.val (.ref a1), .val (.int kk), .val (.int oo), .val (.int nn), .val (.long vz), .second, .val (.int (kk - oo)), .val (.int (((own_v vz (k - oz)) &&& (127 : Int64)).toInt32)), .unset] [(.int ((((own_v vz (k - oz)) &&& (127 : Int64)).toInt32) ||| (128 : Int32)))]))
        refine own_st (fun _ kq_ => XS.istore X0.here hx rfl (hb hby d2_64) rfl (l' := #[.val (.ref a1), .val (.int kk), .val (.int oo), .val (.int nn), .val (.long vz), .second, .val (.int (kk - oo)), .val (.int (((own_v vz (k - oz)) &&& (127 : Int64)).toInt32)), .val (.int ((((own_v vz (k - oz)) &&& (127 : Int64)).toInt32) ||| (128 : Int32)))]) rfl kq_) ?_
        show OwnG _ _ _ _ _ _ _ (s₁.setTop (mkF m 66 #[.val (.ref a1), .val (.int kk), .val (.int oo), .val (.int nn), .val (.long vz), .second, .val (.int (kk - oo)), .val (.int (((own_v vz (k - oz)) &&& (127 : Int64)).toInt32)), .val (.int ((((own_v vz (k - oz)) &&& (127 : Int64)).toInt32) ||| (128 : Int32)))] []))
        refine own_st (fun _ kq_ => XS.aloadN X0.here hx rfl (hb hby d2_66) rfl rfl kq_) ?_
        show OwnG _ _ _ _ _ _ _ (s₁.setTop (mkF m 67 #[.val (.ref a1), .val (.int kk), .val (.int oo), .val (.int nn), .val (.long vz), .second, .val (.int (kk - oo)), .val (.int (((own_v vz (k - oz)) &&& (127 : Int64)).toInt32)), .val (.int ((((own_v vz (k - oz)) &&& (127 : Int64)).toInt32) ||| (128 : Int32)))] [(.ref a1)]))
        refine own_st (fun _ kq_ => XS.iloadN X0.here hx rfl (hb hby d2_67) rfl kq_) ?_
        show OwnG _ _ _ _ _ _ _ (s₁.setTop (mkF m 68 #[.val (.ref a1), .val (.int kk), .val (.int oo), .val (.int nn), .val (.long vz), .second, .val (.int (kk - oo)), .val (.int (((own_v vz (k - oz)) &&& (127 : Int64)).toInt32)), .val (.int ((((own_v vz (k - oz)) &&& (127 : Int64)).toInt32) ||| (128 : Int32)))] [(.int kk), (.ref a1)]))
        refine own_st (own_bl X0 hx hZ e0 V0 (k) hkk hk (by rw [own_fn, if_pos (by omega), if_pos (by omega)]) (g := (mkF m 68 #[.val (.ref a1), .val (.int kk), .val (.int oo), .val (.int nn), .val (.long vz), .second, .val (.int (kk - oo)), .val (.int (((own_v vz (k - oz)) &&& (127 : Int64)).toInt32)), .val (.int ((((own_v vz (k - oz)) &&& (127 : Int64)).toInt32) ||| (128 : Int32)))] [(.int kk), (.ref a1)])) rfl rfl (hb hby d2_68)) ?_
        show OwnG _ _ _ _ _ _ _ (s₁.setTop (mkF m 69 #[.val (.ref a1), .val (.int kk), .val (.int oo), .val (.int nn), .val (.long vz), .second, .val (.int (kk - oo)), .val (.int (((own_v vz (k - oz)) &&& (127 : Int64)).toInt32)), .val (.int ((((own_v vz (k - oz)) &&& (127 : Int64)).toInt32) ||| (128 : Int32)))] [(.int (own_B vz (k - oz)))]))
        refine own_st (fun _ kq_ => XS.iload X0.here hx rfl (hb hby d2_69) rfl kq_) ?_
        show OwnG _ _ _ _ _ _ _ (s₁.setTop (mkF m 71 #[.val (.ref a1), .val (.int kk), .val (.int oo), .val (.int nn), .val (.long vz), .second, .val (.int (kk - oo)), .val (.int (((own_v vz (k - oz)) &&& (127 : Int64)).toInt32)), .val (.int ((((own_v vz (k - oz)) &&& (127 : Int64)).toInt32) ||| (128 : Int32)))] [(.int ((((own_v vz (k - oz)) &&& (127 : Int64)).toInt32) ||| (128 : Int32))), (.int (own_B vz (k - oz)))]))
        refine own_st (fun _ kq_ => XS.i2b X0.here hx rfl (hb hby d2_71) rfl kq_) ?_
        show OwnG _ _ _ _ _ _ _ (s₁.setTop (mkF m 72 #[.val (.ref a1), .val (.int kk), .val (.int oo), .val (.int nn), .val (.long vz), .second, .val (.int (kk - oo)), .val (.int (((own_v vz (k - oz)) &&& (127 : Int64)).toInt32)), .val (.int ((((own_v vz (k - oz)) &&& (127 : Int64)).toInt32) ||| (128 : Int32)))] [(.int (((((own_v vz (k - oz)) &&& (127 : Int64)).toInt32) ||| (128 : Int32)).toInt8.toInt32)), (.int (own_B vz (k - oz)))]))
        refine own_st (fun _ kq_ => XS.icmpNo X0.here hx rfl (hb hby d2_72) rfl (teq (own_eB vz (k - oz)).symm).2 kq_) ?_
        show OwnG _ _ _ _ _ _ _ (s₁.setTop (mkF m 75 #[.val (.ref a1), .val (.int kk), .val (.int oo), .val (.int nn), .val (.long vz), .second, .val (.int (kk - oo)), .val (.int (((own_v vz (k - oz)) &&& (127 : Int64)).toInt32)), .val (.int ((((own_v vz (k - oz)) &&& (127 : Int64)).toInt32) ||| (128 : Int32)))] []))
        refine own_st (fun _ kq_ => XS.iconst X0.here hx rfl (hb hby d2_75) kq_) ?_
        show OwnG _ _ _ _ _ _ _ (s₁.setTop (mkF m 76 #[.val (.ref a1), .val (.int kk), .val (.int oo), .val (.int nn), .val (.long vz), .second, .val (.int (kk - oo)), .val (.int (((own_v vz (k - oz)) &&& (127 : Int64)).toInt32)), .val (.int ((((own_v vz (k - oz)) &&& (127 : Int64)).toInt32) ||| (128 : Int32)))] [(.int (1 : Int32))]))
        refine own_st (fun _ kq_ => XS.goto X0.here hx rfl (pc0 := 76) (pc' := 80) rfl (hb hby d2_76) (by decide) (by decide) kq_) ?_
        show OwnG _ _ _ _ _ _ _ (s₁.setTop (mkF m 80 #[.val (.ref a1), .val (.int kk), .val (.int oo), .val (.int nn), .val (.long vz), .second, .val (.int (kk - oo)), .val (.int (((own_v vz (k - oz)) &&& (127 : Int64)).toInt32)), .val (.int ((((own_v vz (k - oz)) &&& (127 : Int64)).toInt32) ||| (128 : Int32)))] [(.int (1 : Int32))]))
        exact own_retN X0 hx hrt hlk (t := .boolean) (by simp) (hb hby d2_80) (by decide) (by decide) (by show _ ∧ _; first | (rw [e0]; exact ⟨rfl, N0, rfl⟩) | exact ⟨rfl, N0, rfl⟩)
      · have h50' := h50
        rw [Int32.lt_iff_toInt_lt] at h50'
        refine own_st (fun _ kq_ => XS.icmpYes X0.here hx rfl (pc0 := 50) (pc' := 62) rfl (hb hby d2_50) rfl (flt h50).2.1 (by decide) (by decide) kq_) ?_
        show OwnG _ _ _ _ _ _ _ (s₁.setTop (mkF m 62 #[.val (.ref a1), .val (.int kk), .val (.int oo), .val (.int nn), .val (.long vz), .second, .val (.int (kk - oo)), .val (.int (((own_v vz (k - oz)) &&& (127 : Int64)).toInt32)), .unset] []))
        refine own_st (fun _ kq_ => XS.iload X0.here hx rfl (hb hby d2_62) rfl kq_) ?_
        show OwnG _ _ _ _ _ _ _ (s₁.setTop (mkF m 64 #[.val (.ref a1), .val (.int kk), .val (.int oo), .val (.int nn), .val (.long vz), .second, .val (.int (kk - oo)), .val (.int (((own_v vz (k - oz)) &&& (127 : Int64)).toInt32)), .unset] [(.int (((own_v vz (k - oz)) &&& (127 : Int64)).toInt32))]))
        refine own_st (fun _ kq_ => XS.istore X0.here hx rfl (hb hby d2_64) rfl (l' := #[.val (.ref a1), .val (.int kk), .val (.int oo), .val (.int nn), .val (.long vz), .second, .val (.int (kk - oo)), .val (.int (((own_v vz (k - oz)) &&& (127 : Int64)).toInt32)), .val (.int (((own_v vz (k - oz)) &&& (127 : Int64)).toInt32))]) rfl kq_) ?_
        show OwnG _ _ _ _ _ _ _ (s₁.setTop (mkF m 66 #[.val (.ref a1), .val (.int kk), .val (.int oo), .val (.int nn), .val (.long vz), .second, .val (.int (kk - oo)), .val (.int (((own_v vz (k - oz)) &&& (127 : Int64)).toInt32)), .val (.int (((own_v vz (k - oz)) &&& (127 : Int64)).toInt32))] []))
        refine own_st (fun _ kq_ => XS.aloadN X0.here hx rfl (hb hby d2_66) rfl rfl kq_) ?_
        show OwnG _ _ _ _ _ _ _ (s₁.setTop (mkF m 67 #[.val (.ref a1), .val (.int kk), .val (.int oo), .val (.int nn), .val (.long vz), .second, .val (.int (kk - oo)), .val (.int (((own_v vz (k - oz)) &&& (127 : Int64)).toInt32)), .val (.int (((own_v vz (k - oz)) &&& (127 : Int64)).toInt32))] [(.ref a1)]))
        refine own_st (fun _ kq_ => XS.iloadN X0.here hx rfl (hb hby d2_67) rfl kq_) ?_
        show OwnG _ _ _ _ _ _ _ (s₁.setTop (mkF m 68 #[.val (.ref a1), .val (.int kk), .val (.int oo), .val (.int nn), .val (.long vz), .second, .val (.int (kk - oo)), .val (.int (((own_v vz (k - oz)) &&& (127 : Int64)).toInt32)), .val (.int (((own_v vz (k - oz)) &&& (127 : Int64)).toInt32))] [(.int kk), (.ref a1)]))
        refine own_st (own_bl X0 hx hZ e0 V0 (k) hkk hk (by rw [own_fn, if_pos (by omega), if_neg (by omega)]) (g := (mkF m 68 #[.val (.ref a1), .val (.int kk), .val (.int oo), .val (.int nn), .val (.long vz), .second, .val (.int (kk - oo)), .val (.int (((own_v vz (k - oz)) &&& (127 : Int64)).toInt32)), .val (.int (((own_v vz (k - oz)) &&& (127 : Int64)).toInt32))] [(.int kk), (.ref a1)])) rfl rfl (hb hby d2_68)) ?_
        show OwnG _ _ _ _ _ _ _ (s₁.setTop (mkF m 69 #[.val (.ref a1), .val (.int kk), .val (.int oo), .val (.int nn), .val (.long vz), .second, .val (.int (kk - oo)), .val (.int (((own_v vz (k - oz)) &&& (127 : Int64)).toInt32)), .val (.int (((own_v vz (k - oz)) &&& (127 : Int64)).toInt32))] [(.int (own_E vz (k - oz)))]))
        refine own_st (fun _ kq_ => XS.iload X0.here hx rfl (hb hby d2_69) rfl kq_) ?_
        show OwnG _ _ _ _ _ _ _ (s₁.setTop (mkF m 71 #[.val (.ref a1), .val (.int kk), .val (.int oo), .val (.int nn), .val (.long vz), .second, .val (.int (kk - oo)), .val (.int (((own_v vz (k - oz)) &&& (127 : Int64)).toInt32)), .val (.int (((own_v vz (k - oz)) &&& (127 : Int64)).toInt32))] [(.int (((own_v vz (k - oz)) &&& (127 : Int64)).toInt32)), (.int (own_E vz (k - oz)))]))
        refine own_st (fun _ kq_ => XS.i2b X0.here hx rfl (hb hby d2_71) rfl kq_) ?_
        show OwnG _ _ _ _ _ _ _ (s₁.setTop (mkF m 72 #[.val (.ref a1), .val (.int kk), .val (.int oo), .val (.int nn), .val (.long vz), .second, .val (.int (kk - oo)), .val (.int (((own_v vz (k - oz)) &&& (127 : Int64)).toInt32)), .val (.int (((own_v vz (k - oz)) &&& (127 : Int64)).toInt32))] [(.int ((((own_v vz (k - oz)) &&& (127 : Int64)).toInt32).toInt8.toInt32)), (.int (own_E vz (k - oz)))]))
        refine own_st (fun _ kq_ => XS.icmpNo X0.here hx rfl (hb hby d2_72) rfl (teq (own_eE vz (k - oz) (by rw [own_vi vz u hu]; exact Int.natCast_nonneg _) (own_hi vz u hu N h2 (k - oz) (by omega))).symm).2 kq_) ?_
        show OwnG _ _ _ _ _ _ _ (s₁.setTop (mkF m 75 #[.val (.ref a1), .val (.int kk), .val (.int oo), .val (.int nn), .val (.long vz), .second, .val (.int (kk - oo)), .val (.int (((own_v vz (k - oz)) &&& (127 : Int64)).toInt32)), .val (.int (((own_v vz (k - oz)) &&& (127 : Int64)).toInt32))] []))
        refine own_st (fun _ kq_ => XS.iconst X0.here hx rfl (hb hby d2_75) kq_) ?_
        show OwnG _ _ _ _ _ _ _ (s₁.setTop (mkF m 76 #[.val (.ref a1), .val (.int kk), .val (.int oo), .val (.int nn), .val (.long vz), .second, .val (.int (kk - oo)), .val (.int (((own_v vz (k - oz)) &&& (127 : Int64)).toInt32)), .val (.int (((own_v vz (k - oz)) &&& (127 : Int64)).toInt32))] [(.int (1 : Int32))]))
        refine own_st (fun _ kq_ => XS.goto X0.here hx rfl (pc0 := 76) (pc' := 80) rfl (hb hby d2_76) (by decide) (by decide) kq_) ?_
        show OwnG _ _ _ _ _ _ _ (s₁.setTop (mkF m 80 #[.val (.ref a1), .val (.int kk), .val (.int oo), .val (.int nn), .val (.long vz), .second, .val (.int (kk - oo)), .val (.int (((own_v vz (k - oz)) &&& (127 : Int64)).toInt32)), .val (.int (((own_v vz (k - oz)) &&& (127 : Int64)).toInt32))] [(.int (1 : Int32))]))
        exact own_retN X0 hx hrt hlk (t := .boolean) (by simp) (hb hby d2_80) (by decide) (by decide) (by show _ ∧ _; first | (rw [e0]; exact ⟨rfl, N0, rfl⟩) | exact ⟨rfl, N0, rfl⟩)
    · skip
      refine own_st (fun _ kq_ => XS.icmpNo X0.here hx rfl (hb hby d2_13) rfl (flt h13).1 kq_) ?_
      show OwnG _ _ _ _ _ _ _ (s₁.setTop (mkF m 16 #[.val (.ref a1), .val (.int kk), .val (.int oo), .val (.int nn), .val (.long vz), .second, .val (.int (kk - oo)), .unset, .unset] []))
      have hz : (0 : Int32).toInt = 0 := rfl
      rw [Int32.lt_iff_toInt_lt] at h7 h13
      refine own_st (fun _ kq_ => XS.aloadN X0.here hx rfl (hb hby d2_16) rfl rfl kq_) ?_
      show OwnG _ _ _ _ _ _ _ (s₁.setTop (mkF m 17 #[.val (.ref a1), .val (.int kk), .val (.int oo), .val (.int nn), .val (.long vz), .second, .val (.int (kk - oo)), .unset, .unset] [(.ref a1)]))
      refine own_st (fun _ kq_ => XS.iloadN X0.here hx rfl (hb hby d2_17) rfl kq_) ?_
      show OwnG _ _ _ _ _ _ _ (s₁.setTop (mkF m 18 #[.val (.ref a1), .val (.int kk), .val (.int oo), .val (.int nn), .val (.long vz), .second, .val (.int (kk - oo)), .unset, .unset] [(.int kk), (.ref a1)]))
      refine own_st (own_bl X0 hx hZ e0 V0 (k) hkk hk (by rw [own_fn, if_neg (by omega)]) (g := (mkF m 18 #[.val (.ref a1), .val (.int kk), .val (.int oo), .val (.int nn), .val (.long vz), .second, .val (.int (kk - oo)), .unset, .unset] [(.int kk), (.ref a1)])) rfl rfl (hb hby d2_18)) ?_
      show OwnG _ _ _ _ _ _ _ (s₁.setTop (mkF m 19 #[.val (.ref a1), .val (.int kk), .val (.int oo), .val (.int nn), .val (.long vz), .second, .val (.int (kk - oo)), .unset, .unset] [(.int (-91 : Int32))]))
      refine own_st (fun _ kq_ => XS.bipush X0.here hx rfl (hb hby d2_19) kq_) ?_
      show OwnG _ _ _ _ _ _ _ (s₁.setTop (mkF m 21 #[.val (.ref a1), .val (.int kk), .val (.int oo), .val (.int nn), .val (.long vz), .second, .val (.int (kk - oo)), .unset, .unset] [(.int (-91 : Int32)), (.int (-91 : Int32))]))
      refine own_st (fun _ kq_ => XS.icmpNo X0.here hx rfl (hb hby d2_21) rfl (teq rfl).2 kq_) ?_
      show OwnG _ _ _ _ _ _ _ (s₁.setTop (mkF m 24 #[.val (.ref a1), .val (.int kk), .val (.int oo), .val (.int nn), .val (.long vz), .second, .val (.int (kk - oo)), .unset, .unset] []))
      refine own_st (fun _ kq_ => XS.iconst X0.here hx rfl (hb hby d2_24) kq_) ?_
      show OwnG _ _ _ _ _ _ _ (s₁.setTop (mkF m 25 #[.val (.ref a1), .val (.int kk), .val (.int oo), .val (.int nn), .val (.long vz), .second, .val (.int (kk - oo)), .unset, .unset] [(.int (1 : Int32))]))
      refine own_st (fun _ kq_ => XS.goto X0.here hx rfl (pc0 := 25) (pc' := 29) rfl (hb hby d2_25) (by decide) (by decide) kq_) ?_
      show OwnG _ _ _ _ _ _ _ (s₁.setTop (mkF m 29 #[.val (.ref a1), .val (.int kk), .val (.int oo), .val (.int nn), .val (.long vz), .second, .val (.int (kk - oo)), .unset, .unset] [(.int (1 : Int32))]))
      exact own_retN X0 hx hrt hlk (t := .boolean) (by simp) (hb hby d2_29) (by decide) (by decide) (by show _ ∧ _; first | (rw [e0]; exact ⟨rfl, N0, rfl⟩) | exact ⟨rfl, N0, rfl⟩)
def Q0 (Z : State) (raw : Int64) (sh : Int32) (off : Int32) (h0 : Heap) (n0 : Nat) (v : Option Value) (h : Heap) (L : List Loc) : Prop := v = some (.int 1) ∧ Fr n0 L
set_option maxRecDepth 65536 in
set_option maxHeartbeats 40000000 in
theorem own_b212 {p : Program} {l : Launch} {e : Env} {s : State} {m : MethodId} {args : Array Value} {below : List Frame} {meth : Method} {c : Code} {Z : State} {a0 : Array Value} (hx : p.tables.exec = Jvm.exec) (hZ : Z.Warmed39 s.vm) (hw : ∀ d ∈ tables_1, d.before a0 Z = true) (hby : c.code = code) (hml : c.maxLocals = 10) (hown : s.vm.findClass "com/example/posting/posting/index/EncodingPutNumberPinLaw" = some m.cls) (hrt : meth.sig.returnType = ret) (hlk : meth.locks = false) (raw : Int64) (sh off oo : Int32) (vz : Int64) (u : Nat) (hu : vz.toInt = (u : Int)) (N : Nat) (hN1 : 1 ≤ N) (hN9 : N ≤ 9) (h2 : u < 128 ^ N) (h1 : N = 1 ∨ 128 ^ (N - 1) ≤ u) (oz : Nat) (ho : oz ≤ 3) (hoo : oo.toInt = (oz : Int)) (b : Addr) (n0 : Nat) (gb : n0 ≤ b) {hs0 : Heap} {T0 : State} {h0 : Heap} {locs : List Loc} (X0 : Stand p l e room_1 s m args below meth c T0 locs 1 16) (e0 : T0.heap = h0) (N0 : Fr n0 locs) (Z0 : n0 ≤ h0.size) (V0 : Ary Z h0 b .byte 16 (fun _ => .int (-91))) : OwnG 1 16 (Q0 Z raw sh off hs0 n0) p e below s (T0.setTop (mkF m 212 #[.val (.long raw), .second, .val (.int sh), .val (.int off), .val (.long vz), .second, .val (.int oo), .val (.ref b), .val (.int (Int32.ofNat N)), .unset] [])) := by
  refine own_st (fun _ kq_ => XS.aload X0.here hx rfl (hb hby at_212) rfl rfl kq_) ?_
  show OwnG _ _ _ _ _ _ _ (T0.setTop (mkF m 214 #[.val (.long raw), .second, .val (.int sh), .val (.int off), .val (.long vz), .second, .val (.int oo), .val (.ref b), .val (.int (Int32.ofNat N)), .unset] [(.ref b)]))
  refine own_st (fun _ kq_ => XS.iload X0.here hx rfl (hb hby at_214) rfl kq_) ?_
  show OwnG _ _ _ _ _ _ _ (T0.setTop (mkF m 216 #[.val (.long raw), .second, .val (.int sh), .val (.int off), .val (.long vz), .second, .val (.int oo), .val (.ref b), .val (.int (Int32.ofNat N)), .unset] [(.int oo), (.ref b)]))
  refine own_st (fun _ kq_ => XS.lload X0.here hx rfl (hb hby at_216) rfl kq_) ?_
  show OwnG _ _ _ _ _ _ _ (T0.setTop (mkF m 218 #[.val (.long raw), .second, .val (.int sh), .val (.int off), .val (.long vz), .second, .val (.int oo), .val (.ref b), .val (.int (Int32.ofNat N)), .unset] [(.long vz), (.int oo), (.ref b)]))
  obtain ⟨_, _, ⟨T3, L3, k3, n3⟩, -, X3, ⟨Lc3, hQ3, l3, y3, z3⟩, st3⟩ := Jvm.LawKit.callS X0 hx (y := (⟨"com/example/posting/posting/index/Encoding", "putNumber", "([BIJ)I"⟩ : MethodName)) hown (mvT hZ (hw _ (List.mem_of_getElem? (i := 10) rfl))) (mvT hZ (hw _ (List.mem_of_getElem? (i := 11) rfl))) (mvT hZ (hw _ (List.mem_of_getElem? (i := 12) rfl))) (mvT hZ (hw _ (List.mem_of_getElem? (i := 13) rfl))) (by decide) (backOf (W := 0) (rm1 l Z a0 hw [] b oo vz u N oz h0 n0 Z0 hu hN1 hN9 h2 h1 hoo ho gb V0) hZ (hw _ (List.mem_of_getElem? (i := 13) rfl)) (hw _ (List.mem_of_getElem? (i := 12) rfl)) (by decide) (by decide)) (g := (mkF m 218 #[.val (.long raw), .second, .val (.int sh), .val (.int off), .val (.long vz), .second, .val (.int oo), .val (.ref b), .val (.int (Int32.ofNat N)), .unset] [(.long vz), (.int oo), (.ref b)])) rfl (by rw [hml]; rfl) (argsL := [(.ref b), (.int oo), (.long vz)]) (rest := []) (lenOf (by decide +kernel : parseMethodDescriptor "([BIJ)I" = some ⟨[(.array .byte), .int, .long], some .int⟩) rfl) rfl (by show 2 * 0 + _ ≤ _; exact Nat.le_of_eq rfl) (hb hby at_218) (fun _ _ => ⟨rfl, e0, (by dsimp only [Pt.cells]; decide), (by dsimp only [Pt.slots]; decide)⟩)
  dsimp only [Pt.U, Pt.locs, Pt.cells, Pt.slots] at X3 l3 y3 z3 st3 hQ3
  subst l3 y3 z3
  obtain ⟨rfl, N3q, S3, V3⟩ := hQ3
  have N3 := Fr.app N0 N3q
  refine own_st st3 ?_
  show OwnG _ _ _ _ _ _ _ (T3.setTop (mkF m 221 #[.val (.long raw), .second, .val (.int sh), .val (.int off), .val (.long vz), .second, .val (.int oo), .val (.ref b), .val (.int (Int32.ofNat N)), .unset] [(.int (Int32.ofNat (oz + N)))]))
  refine own_st (fun _ kq_ => XS.istore X3.here hx rfl (hb hby at_221) rfl (l' := #[.val (.long raw), .second, .val (.int sh), .val (.int off), .val (.long vz), .second, .val (.int oo), .val (.ref b), .val (.int (Int32.ofNat N)), .val (.int (Int32.ofNat (oz + N)))]) rfl kq_) ?_
  show OwnG _ _ _ _ _ _ _ (T3.setTop (mkF m 223 #[.val (.long raw), .second, .val (.int sh), .val (.int off), .val (.long vz), .second, .val (.int oo), .val (.ref b), .val (.int (Int32.ofNat N)), .val (.int (Int32.ofNat (oz + N)))] []))
  refine own_st (fun _ kq_ => XS.iload X3.here hx rfl (hb hby at_223) rfl kq_) ?_
  show OwnG _ _ _ _ _ _ _ (T3.setTop (mkF m 225 #[.val (.long raw), .second, .val (.int sh), .val (.int off), .val (.long vz), .second, .val (.int oo), .val (.ref b), .val (.int (Int32.ofNat N)), .val (.int (Int32.ofNat (oz + N)))] [(.int (Int32.ofNat (oz + N)))]))
  refine own_st (fun _ kq_ => XS.iload X3.here hx rfl (hb hby at_225) rfl kq_) ?_
  show OwnG _ _ _ _ _ _ _ (T3.setTop (mkF m 227 #[.val (.long raw), .second, .val (.int sh), .val (.int off), .val (.long vz), .second, .val (.int oo), .val (.ref b), .val (.int (Int32.ofNat N)), .val (.int (Int32.ofNat (oz + N)))] [(.int oo), (.int (Int32.ofNat (oz + N)))]))
  refine own_st (fun _ kq_ => XS.iload X3.here hx rfl (hb hby at_227) rfl kq_) ?_
  show OwnG _ _ _ _ _ _ _ (T3.setTop (mkF m 229 #[.val (.long raw), .second, .val (.int sh), .val (.int off), .val (.long vz), .second, .val (.int oo), .val (.ref b), .val (.int (Int32.ofNat N)), .val (.int (Int32.ofNat (oz + N)))] [(.int (Int32.ofNat N)), (.int oo), (.int (Int32.ofNat (oz + N)))]))
  refine own_st (fun _ kq_ => XS.iadd X3.here hx rfl (hb hby at_229) rfl kq_) ?_
  show OwnG _ _ _ _ _ _ _ (T3.setTop (mkF m 230 #[.val (.long raw), .second, .val (.int sh), .val (.int off), .val (.long vz), .second, .val (.int oo), .val (.ref b), .val (.int (Int32.ofNat N)), .val (.int (Int32.ofNat (oz + N)))] [(.int (oo + (Int32.ofNat N))), (.int (Int32.ofNat (oz + N)))]))
  refine own_st (fun _ kq_ => XS.icmpYes X3.here hx rfl (pc0 := 230) (pc' := 235) rfl (hb hby at_230) rfl (teq (show Int32.ofNat (oz + N) = oo + Int32.ofNat N by rw [own_of oo oz hoo, Int32.ofNat_add])).1 (by decide) (by decide) kq_) ?_
  show OwnG _ _ _ _ _ _ _ (T3.setTop (mkF m 235 #[.val (.long raw), .second, .val (.int sh), .val (.int off), .val (.long vz), .second, .val (.int oo), .val (.ref b), .val (.int (Int32.ofNat N)), .val (.int (Int32.ofNat (oz + N)))] []))
  refine own_st (fun _ kq_ => XS.aload X3.here hx rfl (hb hby at_235) rfl rfl kq_) ?_
  show OwnG _ _ _ _ _ _ _ (T3.setTop (mkF m 237 #[.val (.long raw), .second, .val (.int sh), .val (.int off), .val (.long vz), .second, .val (.int oo), .val (.ref b), .val (.int (Int32.ofNat N)), .val (.int (Int32.ofNat (oz + N)))] [(.ref b)]))
  refine own_st (fun _ kq_ => XS.iconst X3.here hx rfl (hb hby at_237) kq_) ?_
  show OwnG _ _ _ _ _ _ _ (T3.setTop (mkF m 238 #[.val (.long raw), .second, .val (.int sh), .val (.int off), .val (.long vz), .second, .val (.int oo), .val (.ref b), .val (.int (Int32.ofNat N)), .val (.int (Int32.ofNat (oz + N)))] [(.int (0 : Int32)), (.ref b)]))
  refine own_st (fun _ kq_ => XS.iload X3.here hx rfl (hb hby at_238) rfl kq_) ?_
  show OwnG _ _ _ _ _ _ _ (T3.setTop (mkF m 240 #[.val (.long raw), .second, .val (.int sh), .val (.int off), .val (.long vz), .second, .val (.int oo), .val (.ref b), .val (.int (Int32.ofNat N)), .val (.int (Int32.ofNat (oz + N)))] [(.int oo), (.int (0 : Int32)), (.ref b)]))
  refine own_st (fun _ kq_ => XS.iload X3.here hx rfl (hb hby at_240) rfl kq_) ?_
  show OwnG _ _ _ _ _ _ _ (T3.setTop (mkF m 242 #[.val (.long raw), .second, .val (.int sh), .val (.int off), .val (.long vz), .second, .val (.int oo), .val (.ref b), .val (.int (Int32.ofNat N)), .val (.int (Int32.ofNat (oz + N)))] [(.int (Int32.ofNat N)), (.int oo), (.int (0 : Int32)), (.ref b)]))
  refine own_st (fun _ kq_ => XS.lload X3.here hx rfl (hb hby at_242) rfl kq_) ?_
  show OwnG _ _ _ _ _ _ _ (T3.setTop (mkF m 244 #[.val (.long raw), .second, .val (.int sh), .val (.int off), .val (.long vz), .second, .val (.int oo), .val (.ref b), .val (.int (Int32.ofNat N)), .val (.int (Int32.ofNat (oz + N)))] [(.long vz), (.int (Int32.ofNat N)), (.int oo), (.int (0 : Int32)), (.ref b)]))
  obtain ⟨_, _, ⟨T4, L4, k4, n4⟩, -, X4, ⟨Lc4, hQ4, l4, y4, z4⟩, st4⟩ := Jvm.LawKit.callS X3 hx (y := (⟨"com/example/posting/posting/index/EncodingPutNumberPinLaw", "cell", "([BIIIJ)Z"⟩ : MethodName)) hown (mvT hZ (hw _ (List.mem_of_getElem? (i := 15) rfl))) (mvT hZ (hw _ (List.mem_of_getElem? (i := 16) rfl))) (mvT hZ (hw _ (List.mem_of_getElem? (i := 17) rfl))) (mvT hZ (hw _ (List.mem_of_getElem? (i := 18) rfl))) (by decide) (backOf (W := 0) (rm2 l Z a0 hw [] b (0 : Int32) oo (Int32.ofNat N) vz u N oz 0 T3.heap n0 S3 hu hN1 hN9 h2 h1 (by decide) (by decide) hoo ho (own_to N (by omega)) V3) hZ (hw _ (List.mem_of_getElem? (i := 18) rfl)) (hw _ (List.mem_of_getElem? (i := 17) rfl)) (by decide) (by decide)) (g := (mkF m 244 #[.val (.long raw), .second, .val (.int sh), .val (.int off), .val (.long vz), .second, .val (.int oo), .val (.ref b), .val (.int (Int32.ofNat N)), .val (.int (Int32.ofNat (oz + N)))] [(.long vz), (.int (Int32.ofNat N)), (.int oo), (.int (0 : Int32)), (.ref b)])) rfl (by rw [hml]; rfl) (argsL := [(.ref b), (.int (0 : Int32)), (.int oo), (.int (Int32.ofNat N)), (.long vz)]) (rest := []) (lenOf (by decide +kernel : parseMethodDescriptor "([BIIIJ)Z" = some ⟨[(.array .byte), .int, .int, .int, .long], some .boolean⟩) rfl) rfl (by show 2 * 0 + _ ≤ _; exact Nat.le_of_eq rfl) (hb hby at_244) (fun _ _ => ⟨rfl, rfl, (by dsimp only [Pt.cells]; decide), (by dsimp only [Pt.slots]; decide)⟩)
  dsimp only [Pt.U, Pt.locs, Pt.cells, Pt.slots] at X4 l4 y4 z4 st4 hQ4
  subst l4 y4 z4
  obtain ⟨rfl, N4q, E4⟩ := hQ4
  have N4 := Fr.app N3 N4q
  refine own_st st4 ?_
  show OwnG _ _ _ _ _ _ _ (T4.setTop (mkF m 247 #[.val (.long raw), .second, .val (.int sh), .val (.int off), .val (.long vz), .second, .val (.int oo), .val (.ref b), .val (.int (Int32.ofNat N)), .val (.int (Int32.ofNat (oz + N)))] [(.int (1 : Int32))]))
  refine own_st (fun _ kq_ => XS.ifNo X4.here hx rfl (hb hby at_247) rfl ((if0 _ _).trans (feq (by decide : ¬ ((1 : Int32) = (0 : Int32)))).1) kq_) ?_
  show OwnG _ _ _ _ _ _ _ (T4.setTop (mkF m 250 #[.val (.long raw), .second, .val (.int sh), .val (.int off), .val (.long vz), .second, .val (.int oo), .val (.ref b), .val (.int (Int32.ofNat N)), .val (.int (Int32.ofNat (oz + N)))] []))
  refine own_st (fun _ kq_ => XS.aload X4.here hx rfl (hb hby at_250) rfl rfl kq_) ?_
  show OwnG _ _ _ _ _ _ _ (T4.setTop (mkF m 252 #[.val (.long raw), .second, .val (.int sh), .val (.int off), .val (.long vz), .second, .val (.int oo), .val (.ref b), .val (.int (Int32.ofNat N)), .val (.int (Int32.ofNat (oz + N)))] [(.ref b)]))
  refine own_st (fun _ kq_ => XS.iconst X4.here hx rfl (hb hby at_252) kq_) ?_
  show OwnG _ _ _ _ _ _ _ (T4.setTop (mkF m 253 #[.val (.long raw), .second, .val (.int sh), .val (.int off), .val (.long vz), .second, .val (.int oo), .val (.ref b), .val (.int (Int32.ofNat N)), .val (.int (Int32.ofNat (oz + N)))] [(.int (1 : Int32)), (.ref b)]))
  refine own_st (fun _ kq_ => XS.iload X4.here hx rfl (hb hby at_253) rfl kq_) ?_
  show OwnG _ _ _ _ _ _ _ (T4.setTop (mkF m 255 #[.val (.long raw), .second, .val (.int sh), .val (.int off), .val (.long vz), .second, .val (.int oo), .val (.ref b), .val (.int (Int32.ofNat N)), .val (.int (Int32.ofNat (oz + N)))] [(.int oo), (.int (1 : Int32)), (.ref b)]))
  refine own_st (fun _ kq_ => XS.iload X4.here hx rfl (hb hby at_255) rfl kq_) ?_
  show OwnG _ _ _ _ _ _ _ (T4.setTop (mkF m 257 #[.val (.long raw), .second, .val (.int sh), .val (.int off), .val (.long vz), .second, .val (.int oo), .val (.ref b), .val (.int (Int32.ofNat N)), .val (.int (Int32.ofNat (oz + N)))] [(.int (Int32.ofNat N)), (.int oo), (.int (1 : Int32)), (.ref b)]))
  refine own_st (fun _ kq_ => XS.lload X4.here hx rfl (hb hby at_257) rfl kq_) ?_
  show OwnG _ _ _ _ _ _ _ (T4.setTop (mkF m 259 #[.val (.long raw), .second, .val (.int sh), .val (.int off), .val (.long vz), .second, .val (.int oo), .val (.ref b), .val (.int (Int32.ofNat N)), .val (.int (Int32.ofNat (oz + N)))] [(.long vz), (.int (Int32.ofNat N)), (.int oo), (.int (1 : Int32)), (.ref b)]))
  obtain ⟨_, _, ⟨T5, L5, k5, n5⟩, -, X5, ⟨Lc5, hQ5, l5, y5, z5⟩, st5⟩ := Jvm.LawKit.callS X4 hx (y := (⟨"com/example/posting/posting/index/EncodingPutNumberPinLaw", "cell", "([BIIIJ)Z"⟩ : MethodName)) hown (mvT hZ (hw _ (List.mem_of_getElem? (i := 15) rfl))) (mvT hZ (hw _ (List.mem_of_getElem? (i := 16) rfl))) (mvT hZ (hw _ (List.mem_of_getElem? (i := 17) rfl))) (mvT hZ (hw _ (List.mem_of_getElem? (i := 18) rfl))) (by decide) (backOf (W := 0) (rm2 l Z a0 hw [] b (1 : Int32) oo (Int32.ofNat N) vz u N oz 1 T3.heap n0 S3 hu hN1 hN9 h2 h1 (by decide) (by decide) hoo ho (own_to N (by omega)) V3) hZ (hw _ (List.mem_of_getElem? (i := 18) rfl)) (hw _ (List.mem_of_getElem? (i := 17) rfl)) (by decide) (by decide)) (g := (mkF m 259 #[.val (.long raw), .second, .val (.int sh), .val (.int off), .val (.long vz), .second, .val (.int oo), .val (.ref b), .val (.int (Int32.ofNat N)), .val (.int (Int32.ofNat (oz + N)))] [(.long vz), (.int (Int32.ofNat N)), (.int oo), (.int (1 : Int32)), (.ref b)])) rfl (by rw [hml]; rfl) (argsL := [(.ref b), (.int (1 : Int32)), (.int oo), (.int (Int32.ofNat N)), (.long vz)]) (rest := []) (lenOf (by decide +kernel : parseMethodDescriptor "([BIIIJ)Z" = some ⟨[(.array .byte), .int, .int, .int, .long], some .boolean⟩) rfl) rfl (by show 2 * 0 + _ ≤ _; exact Nat.le_of_eq rfl) (hb hby at_259) (fun _ _ => ⟨rfl, E4, (by dsimp only [Pt.cells]; decide), (by dsimp only [Pt.slots]; decide)⟩)
  dsimp only [Pt.U, Pt.locs, Pt.cells, Pt.slots] at X5 l5 y5 z5 st5 hQ5
  subst l5 y5 z5
  obtain ⟨rfl, N5q, E5⟩ := hQ5
  have N5 := Fr.app N4 N5q
  refine own_st st5 ?_
  show OwnG _ _ _ _ _ _ _ (T5.setTop (mkF m 262 #[.val (.long raw), .second, .val (.int sh), .val (.int off), .val (.long vz), .second, .val (.int oo), .val (.ref b), .val (.int (Int32.ofNat N)), .val (.int (Int32.ofNat (oz + N)))] [(.int (1 : Int32))]))
  refine own_st (fun _ kq_ => XS.ifNo X5.here hx rfl (hb hby at_262) rfl ((if0 _ _).trans (feq (by decide : ¬ ((1 : Int32) = (0 : Int32)))).1) kq_) ?_
  show OwnG _ _ _ _ _ _ _ (T5.setTop (mkF m 265 #[.val (.long raw), .second, .val (.int sh), .val (.int off), .val (.long vz), .second, .val (.int oo), .val (.ref b), .val (.int (Int32.ofNat N)), .val (.int (Int32.ofNat (oz + N)))] []))
  refine own_st (fun _ kq_ => XS.aload X5.here hx rfl (hb hby at_265) rfl rfl kq_) ?_
  show OwnG _ _ _ _ _ _ _ (T5.setTop (mkF m 267 #[.val (.long raw), .second, .val (.int sh), .val (.int off), .val (.long vz), .second, .val (.int oo), .val (.ref b), .val (.int (Int32.ofNat N)), .val (.int (Int32.ofNat (oz + N)))] [(.ref b)]))
  refine own_st (fun _ kq_ => XS.iconst X5.here hx rfl (hb hby at_267) kq_) ?_
  show OwnG _ _ _ _ _ _ _ (T5.setTop (mkF m 268 #[.val (.long raw), .second, .val (.int sh), .val (.int off), .val (.long vz), .second, .val (.int oo), .val (.ref b), .val (.int (Int32.ofNat N)), .val (.int (Int32.ofNat (oz + N)))] [(.int (2 : Int32)), (.ref b)]))
  refine own_st (fun _ kq_ => XS.iload X5.here hx rfl (hb hby at_268) rfl kq_) ?_
  show OwnG _ _ _ _ _ _ _ (T5.setTop (mkF m 270 #[.val (.long raw), .second, .val (.int sh), .val (.int off), .val (.long vz), .second, .val (.int oo), .val (.ref b), .val (.int (Int32.ofNat N)), .val (.int (Int32.ofNat (oz + N)))] [(.int oo), (.int (2 : Int32)), (.ref b)]))
  refine own_st (fun _ kq_ => XS.iload X5.here hx rfl (hb hby at_270) rfl kq_) ?_
  show OwnG _ _ _ _ _ _ _ (T5.setTop (mkF m 272 #[.val (.long raw), .second, .val (.int sh), .val (.int off), .val (.long vz), .second, .val (.int oo), .val (.ref b), .val (.int (Int32.ofNat N)), .val (.int (Int32.ofNat (oz + N)))] [(.int (Int32.ofNat N)), (.int oo), (.int (2 : Int32)), (.ref b)]))
  refine own_st (fun _ kq_ => XS.lload X5.here hx rfl (hb hby at_272) rfl kq_) ?_
  show OwnG _ _ _ _ _ _ _ (T5.setTop (mkF m 274 #[.val (.long raw), .second, .val (.int sh), .val (.int off), .val (.long vz), .second, .val (.int oo), .val (.ref b), .val (.int (Int32.ofNat N)), .val (.int (Int32.ofNat (oz + N)))] [(.long vz), (.int (Int32.ofNat N)), (.int oo), (.int (2 : Int32)), (.ref b)]))
  obtain ⟨_, _, ⟨T6, L6, k6, n6⟩, -, X6, ⟨Lc6, hQ6, l6, y6, z6⟩, st6⟩ := Jvm.LawKit.callS X5 hx (y := (⟨"com/example/posting/posting/index/EncodingPutNumberPinLaw", "cell", "([BIIIJ)Z"⟩ : MethodName)) hown (mvT hZ (hw _ (List.mem_of_getElem? (i := 15) rfl))) (mvT hZ (hw _ (List.mem_of_getElem? (i := 16) rfl))) (mvT hZ (hw _ (List.mem_of_getElem? (i := 17) rfl))) (mvT hZ (hw _ (List.mem_of_getElem? (i := 18) rfl))) (by decide) (backOf (W := 0) (rm2 l Z a0 hw [] b (2 : Int32) oo (Int32.ofNat N) vz u N oz 2 T3.heap n0 S3 hu hN1 hN9 h2 h1 (by decide) (by decide) hoo ho (own_to N (by omega)) V3) hZ (hw _ (List.mem_of_getElem? (i := 18) rfl)) (hw _ (List.mem_of_getElem? (i := 17) rfl)) (by decide) (by decide)) (g := (mkF m 274 #[.val (.long raw), .second, .val (.int sh), .val (.int off), .val (.long vz), .second, .val (.int oo), .val (.ref b), .val (.int (Int32.ofNat N)), .val (.int (Int32.ofNat (oz + N)))] [(.long vz), (.int (Int32.ofNat N)), (.int oo), (.int (2 : Int32)), (.ref b)])) rfl (by rw [hml]; rfl) (argsL := [(.ref b), (.int (2 : Int32)), (.int oo), (.int (Int32.ofNat N)), (.long vz)]) (rest := []) (lenOf (by decide +kernel : parseMethodDescriptor "([BIIIJ)Z" = some ⟨[(.array .byte), .int, .int, .int, .long], some .boolean⟩) rfl) rfl (by show 2 * 0 + _ ≤ _; exact Nat.le_of_eq rfl) (hb hby at_274) (fun _ _ => ⟨rfl, E5, (by dsimp only [Pt.cells]; decide), (by dsimp only [Pt.slots]; decide)⟩)
  dsimp only [Pt.U, Pt.locs, Pt.cells, Pt.slots] at X6 l6 y6 z6 st6 hQ6
  subst l6 y6 z6
  obtain ⟨rfl, N6q, E6⟩ := hQ6
  have N6 := Fr.app N5 N6q
  refine own_st st6 ?_
  show OwnG _ _ _ _ _ _ _ (T6.setTop (mkF m 277 #[.val (.long raw), .second, .val (.int sh), .val (.int off), .val (.long vz), .second, .val (.int oo), .val (.ref b), .val (.int (Int32.ofNat N)), .val (.int (Int32.ofNat (oz + N)))] [(.int (1 : Int32))]))
  refine own_st (fun _ kq_ => XS.ifNo X6.here hx rfl (hb hby at_277) rfl ((if0 _ _).trans (feq (by decide : ¬ ((1 : Int32) = (0 : Int32)))).1) kq_) ?_
  show OwnG _ _ _ _ _ _ _ (T6.setTop (mkF m 280 #[.val (.long raw), .second, .val (.int sh), .val (.int off), .val (.long vz), .second, .val (.int oo), .val (.ref b), .val (.int (Int32.ofNat N)), .val (.int (Int32.ofNat (oz + N)))] []))
  refine own_st (fun _ kq_ => XS.aload X6.here hx rfl (hb hby at_280) rfl rfl kq_) ?_
  show OwnG _ _ _ _ _ _ _ (T6.setTop (mkF m 282 #[.val (.long raw), .second, .val (.int sh), .val (.int off), .val (.long vz), .second, .val (.int oo), .val (.ref b), .val (.int (Int32.ofNat N)), .val (.int (Int32.ofNat (oz + N)))] [(.ref b)]))
  refine own_st (fun _ kq_ => XS.iconst X6.here hx rfl (hb hby at_282) kq_) ?_
  show OwnG _ _ _ _ _ _ _ (T6.setTop (mkF m 283 #[.val (.long raw), .second, .val (.int sh), .val (.int off), .val (.long vz), .second, .val (.int oo), .val (.ref b), .val (.int (Int32.ofNat N)), .val (.int (Int32.ofNat (oz + N)))] [(.int (3 : Int32)), (.ref b)]))
  refine own_st (fun _ kq_ => XS.iload X6.here hx rfl (hb hby at_283) rfl kq_) ?_
  show OwnG _ _ _ _ _ _ _ (T6.setTop (mkF m 285 #[.val (.long raw), .second, .val (.int sh), .val (.int off), .val (.long vz), .second, .val (.int oo), .val (.ref b), .val (.int (Int32.ofNat N)), .val (.int (Int32.ofNat (oz + N)))] [(.int oo), (.int (3 : Int32)), (.ref b)]))
  refine own_st (fun _ kq_ => XS.iload X6.here hx rfl (hb hby at_285) rfl kq_) ?_
  show OwnG _ _ _ _ _ _ _ (T6.setTop (mkF m 287 #[.val (.long raw), .second, .val (.int sh), .val (.int off), .val (.long vz), .second, .val (.int oo), .val (.ref b), .val (.int (Int32.ofNat N)), .val (.int (Int32.ofNat (oz + N)))] [(.int (Int32.ofNat N)), (.int oo), (.int (3 : Int32)), (.ref b)]))
  refine own_st (fun _ kq_ => XS.lload X6.here hx rfl (hb hby at_287) rfl kq_) ?_
  show OwnG _ _ _ _ _ _ _ (T6.setTop (mkF m 289 #[.val (.long raw), .second, .val (.int sh), .val (.int off), .val (.long vz), .second, .val (.int oo), .val (.ref b), .val (.int (Int32.ofNat N)), .val (.int (Int32.ofNat (oz + N)))] [(.long vz), (.int (Int32.ofNat N)), (.int oo), (.int (3 : Int32)), (.ref b)]))
  obtain ⟨_, _, ⟨T7, L7, k7, n7⟩, -, X7, ⟨Lc7, hQ7, l7, y7, z7⟩, st7⟩ := Jvm.LawKit.callS X6 hx (y := (⟨"com/example/posting/posting/index/EncodingPutNumberPinLaw", "cell", "([BIIIJ)Z"⟩ : MethodName)) hown (mvT hZ (hw _ (List.mem_of_getElem? (i := 15) rfl))) (mvT hZ (hw _ (List.mem_of_getElem? (i := 16) rfl))) (mvT hZ (hw _ (List.mem_of_getElem? (i := 17) rfl))) (mvT hZ (hw _ (List.mem_of_getElem? (i := 18) rfl))) (by decide) (backOf (W := 0) (rm2 l Z a0 hw [] b (3 : Int32) oo (Int32.ofNat N) vz u N oz 3 T3.heap n0 S3 hu hN1 hN9 h2 h1 (by decide) (by decide) hoo ho (own_to N (by omega)) V3) hZ (hw _ (List.mem_of_getElem? (i := 18) rfl)) (hw _ (List.mem_of_getElem? (i := 17) rfl)) (by decide) (by decide)) (g := (mkF m 289 #[.val (.long raw), .second, .val (.int sh), .val (.int off), .val (.long vz), .second, .val (.int oo), .val (.ref b), .val (.int (Int32.ofNat N)), .val (.int (Int32.ofNat (oz + N)))] [(.long vz), (.int (Int32.ofNat N)), (.int oo), (.int (3 : Int32)), (.ref b)])) rfl (by rw [hml]; rfl) (argsL := [(.ref b), (.int (3 : Int32)), (.int oo), (.int (Int32.ofNat N)), (.long vz)]) (rest := []) (lenOf (by decide +kernel : parseMethodDescriptor "([BIIIJ)Z" = some ⟨[(.array .byte), .int, .int, .int, .long], some .boolean⟩) rfl) rfl (by show 2 * 0 + _ ≤ _; exact Nat.le_of_eq rfl) (hb hby at_289) (fun _ _ => ⟨rfl, E6, (by dsimp only [Pt.cells]; decide), (by dsimp only [Pt.slots]; decide)⟩)
  dsimp only [Pt.U, Pt.locs, Pt.cells, Pt.slots] at X7 l7 y7 z7 st7 hQ7
  subst l7 y7 z7
  obtain ⟨rfl, N7q, E7⟩ := hQ7
  have N7 := Fr.app N6 N7q
  refine own_st st7 ?_
  show OwnG _ _ _ _ _ _ _ (T7.setTop (mkF m 292 #[.val (.long raw), .second, .val (.int sh), .val (.int off), .val (.long vz), .second, .val (.int oo), .val (.ref b), .val (.int (Int32.ofNat N)), .val (.int (Int32.ofNat (oz + N)))] [(.int (1 : Int32))]))
  refine own_st (fun _ kq_ => XS.ifNo X7.here hx rfl (hb hby at_292) rfl ((if0 _ _).trans (feq (by decide : ¬ ((1 : Int32) = (0 : Int32)))).1) kq_) ?_
  show OwnG _ _ _ _ _ _ _ (T7.setTop (mkF m 295 #[.val (.long raw), .second, .val (.int sh), .val (.int off), .val (.long vz), .second, .val (.int oo), .val (.ref b), .val (.int (Int32.ofNat N)), .val (.int (Int32.ofNat (oz + N)))] []))
  refine own_st (fun _ kq_ => XS.aload X7.here hx rfl (hb hby at_295) rfl rfl kq_) ?_
  show OwnG _ _ _ _ _ _ _ (T7.setTop (mkF m 297 #[.val (.long raw), .second, .val (.int sh), .val (.int off), .val (.long vz), .second, .val (.int oo), .val (.ref b), .val (.int (Int32.ofNat N)), .val (.int (Int32.ofNat (oz + N)))] [(.ref b)]))
  refine own_st (fun _ kq_ => XS.iconst X7.here hx rfl (hb hby at_297) kq_) ?_
  show OwnG _ _ _ _ _ _ _ (T7.setTop (mkF m 298 #[.val (.long raw), .second, .val (.int sh), .val (.int off), .val (.long vz), .second, .val (.int oo), .val (.ref b), .val (.int (Int32.ofNat N)), .val (.int (Int32.ofNat (oz + N)))] [(.int (4 : Int32)), (.ref b)]))
  refine own_st (fun _ kq_ => XS.iload X7.here hx rfl (hb hby at_298) rfl kq_) ?_
  show OwnG _ _ _ _ _ _ _ (T7.setTop (mkF m 300 #[.val (.long raw), .second, .val (.int sh), .val (.int off), .val (.long vz), .second, .val (.int oo), .val (.ref b), .val (.int (Int32.ofNat N)), .val (.int (Int32.ofNat (oz + N)))] [(.int oo), (.int (4 : Int32)), (.ref b)]))
  refine own_st (fun _ kq_ => XS.iload X7.here hx rfl (hb hby at_300) rfl kq_) ?_
  show OwnG _ _ _ _ _ _ _ (T7.setTop (mkF m 302 #[.val (.long raw), .second, .val (.int sh), .val (.int off), .val (.long vz), .second, .val (.int oo), .val (.ref b), .val (.int (Int32.ofNat N)), .val (.int (Int32.ofNat (oz + N)))] [(.int (Int32.ofNat N)), (.int oo), (.int (4 : Int32)), (.ref b)]))
  refine own_st (fun _ kq_ => XS.lload X7.here hx rfl (hb hby at_302) rfl kq_) ?_
  show OwnG _ _ _ _ _ _ _ (T7.setTop (mkF m 304 #[.val (.long raw), .second, .val (.int sh), .val (.int off), .val (.long vz), .second, .val (.int oo), .val (.ref b), .val (.int (Int32.ofNat N)), .val (.int (Int32.ofNat (oz + N)))] [(.long vz), (.int (Int32.ofNat N)), (.int oo), (.int (4 : Int32)), (.ref b)]))
  obtain ⟨_, _, ⟨T8, L8, k8, n8⟩, -, X8, ⟨Lc8, hQ8, l8, y8, z8⟩, st8⟩ := Jvm.LawKit.callS X7 hx (y := (⟨"com/example/posting/posting/index/EncodingPutNumberPinLaw", "cell", "([BIIIJ)Z"⟩ : MethodName)) hown (mvT hZ (hw _ (List.mem_of_getElem? (i := 15) rfl))) (mvT hZ (hw _ (List.mem_of_getElem? (i := 16) rfl))) (mvT hZ (hw _ (List.mem_of_getElem? (i := 17) rfl))) (mvT hZ (hw _ (List.mem_of_getElem? (i := 18) rfl))) (by decide) (backOf (W := 0) (rm2 l Z a0 hw [] b (4 : Int32) oo (Int32.ofNat N) vz u N oz 4 T3.heap n0 S3 hu hN1 hN9 h2 h1 (by decide) (by decide) hoo ho (own_to N (by omega)) V3) hZ (hw _ (List.mem_of_getElem? (i := 18) rfl)) (hw _ (List.mem_of_getElem? (i := 17) rfl)) (by decide) (by decide)) (g := (mkF m 304 #[.val (.long raw), .second, .val (.int sh), .val (.int off), .val (.long vz), .second, .val (.int oo), .val (.ref b), .val (.int (Int32.ofNat N)), .val (.int (Int32.ofNat (oz + N)))] [(.long vz), (.int (Int32.ofNat N)), (.int oo), (.int (4 : Int32)), (.ref b)])) rfl (by rw [hml]; rfl) (argsL := [(.ref b), (.int (4 : Int32)), (.int oo), (.int (Int32.ofNat N)), (.long vz)]) (rest := []) (lenOf (by decide +kernel : parseMethodDescriptor "([BIIIJ)Z" = some ⟨[(.array .byte), .int, .int, .int, .long], some .boolean⟩) rfl) rfl (by show 2 * 0 + _ ≤ _; exact Nat.le_of_eq rfl) (hb hby at_304) (fun _ _ => ⟨rfl, E7, (by dsimp only [Pt.cells]; decide), (by dsimp only [Pt.slots]; decide)⟩)
  dsimp only [Pt.U, Pt.locs, Pt.cells, Pt.slots] at X8 l8 y8 z8 st8 hQ8
  subst l8 y8 z8
  obtain ⟨rfl, N8q, E8⟩ := hQ8
  have N8 := Fr.app N7 N8q
  refine own_st st8 ?_
  show OwnG _ _ _ _ _ _ _ (T8.setTop (mkF m 307 #[.val (.long raw), .second, .val (.int sh), .val (.int off), .val (.long vz), .second, .val (.int oo), .val (.ref b), .val (.int (Int32.ofNat N)), .val (.int (Int32.ofNat (oz + N)))] [(.int (1 : Int32))]))
  refine own_st (fun _ kq_ => XS.ifNo X8.here hx rfl (hb hby at_307) rfl ((if0 _ _).trans (feq (by decide : ¬ ((1 : Int32) = (0 : Int32)))).1) kq_) ?_
  show OwnG _ _ _ _ _ _ _ (T8.setTop (mkF m 310 #[.val (.long raw), .second, .val (.int sh), .val (.int off), .val (.long vz), .second, .val (.int oo), .val (.ref b), .val (.int (Int32.ofNat N)), .val (.int (Int32.ofNat (oz + N)))] []))
  refine own_st (fun _ kq_ => XS.aload X8.here hx rfl (hb hby at_310) rfl rfl kq_) ?_
  show OwnG _ _ _ _ _ _ _ (T8.setTop (mkF m 312 #[.val (.long raw), .second, .val (.int sh), .val (.int off), .val (.long vz), .second, .val (.int oo), .val (.ref b), .val (.int (Int32.ofNat N)), .val (.int (Int32.ofNat (oz + N)))] [(.ref b)]))
  refine own_st (fun _ kq_ => XS.iconst X8.here hx rfl (hb hby at_312) kq_) ?_
  show OwnG _ _ _ _ _ _ _ (T8.setTop (mkF m 313 #[.val (.long raw), .second, .val (.int sh), .val (.int off), .val (.long vz), .second, .val (.int oo), .val (.ref b), .val (.int (Int32.ofNat N)), .val (.int (Int32.ofNat (oz + N)))] [(.int (5 : Int32)), (.ref b)]))
  refine own_st (fun _ kq_ => XS.iload X8.here hx rfl (hb hby at_313) rfl kq_) ?_
  show OwnG _ _ _ _ _ _ _ (T8.setTop (mkF m 315 #[.val (.long raw), .second, .val (.int sh), .val (.int off), .val (.long vz), .second, .val (.int oo), .val (.ref b), .val (.int (Int32.ofNat N)), .val (.int (Int32.ofNat (oz + N)))] [(.int oo), (.int (5 : Int32)), (.ref b)]))
  refine own_st (fun _ kq_ => XS.iload X8.here hx rfl (hb hby at_315) rfl kq_) ?_
  show OwnG _ _ _ _ _ _ _ (T8.setTop (mkF m 317 #[.val (.long raw), .second, .val (.int sh), .val (.int off), .val (.long vz), .second, .val (.int oo), .val (.ref b), .val (.int (Int32.ofNat N)), .val (.int (Int32.ofNat (oz + N)))] [(.int (Int32.ofNat N)), (.int oo), (.int (5 : Int32)), (.ref b)]))
  refine own_st (fun _ kq_ => XS.lload X8.here hx rfl (hb hby at_317) rfl kq_) ?_
  show OwnG _ _ _ _ _ _ _ (T8.setTop (mkF m 319 #[.val (.long raw), .second, .val (.int sh), .val (.int off), .val (.long vz), .second, .val (.int oo), .val (.ref b), .val (.int (Int32.ofNat N)), .val (.int (Int32.ofNat (oz + N)))] [(.long vz), (.int (Int32.ofNat N)), (.int oo), (.int (5 : Int32)), (.ref b)]))
  obtain ⟨_, _, ⟨T9, L9, k9, n9⟩, -, X9, ⟨Lc9, hQ9, l9, y9, z9⟩, st9⟩ := Jvm.LawKit.callS X8 hx (y := (⟨"com/example/posting/posting/index/EncodingPutNumberPinLaw", "cell", "([BIIIJ)Z"⟩ : MethodName)) hown (mvT hZ (hw _ (List.mem_of_getElem? (i := 15) rfl))) (mvT hZ (hw _ (List.mem_of_getElem? (i := 16) rfl))) (mvT hZ (hw _ (List.mem_of_getElem? (i := 17) rfl))) (mvT hZ (hw _ (List.mem_of_getElem? (i := 18) rfl))) (by decide) (backOf (W := 0) (rm2 l Z a0 hw [] b (5 : Int32) oo (Int32.ofNat N) vz u N oz 5 T3.heap n0 S3 hu hN1 hN9 h2 h1 (by decide) (by decide) hoo ho (own_to N (by omega)) V3) hZ (hw _ (List.mem_of_getElem? (i := 18) rfl)) (hw _ (List.mem_of_getElem? (i := 17) rfl)) (by decide) (by decide)) (g := (mkF m 319 #[.val (.long raw), .second, .val (.int sh), .val (.int off), .val (.long vz), .second, .val (.int oo), .val (.ref b), .val (.int (Int32.ofNat N)), .val (.int (Int32.ofNat (oz + N)))] [(.long vz), (.int (Int32.ofNat N)), (.int oo), (.int (5 : Int32)), (.ref b)])) rfl (by rw [hml]; rfl) (argsL := [(.ref b), (.int (5 : Int32)), (.int oo), (.int (Int32.ofNat N)), (.long vz)]) (rest := []) (lenOf (by decide +kernel : parseMethodDescriptor "([BIIIJ)Z" = some ⟨[(.array .byte), .int, .int, .int, .long], some .boolean⟩) rfl) rfl (by show 2 * 0 + _ ≤ _; exact Nat.le_of_eq rfl) (hb hby at_319) (fun _ _ => ⟨rfl, E8, (by dsimp only [Pt.cells]; decide), (by dsimp only [Pt.slots]; decide)⟩)
  dsimp only [Pt.U, Pt.locs, Pt.cells, Pt.slots] at X9 l9 y9 z9 st9 hQ9
  subst l9 y9 z9
  obtain ⟨rfl, N9q, E9⟩ := hQ9
  have N9 := Fr.app N8 N9q
  refine own_st st9 ?_
  show OwnG _ _ _ _ _ _ _ (T9.setTop (mkF m 322 #[.val (.long raw), .second, .val (.int sh), .val (.int off), .val (.long vz), .second, .val (.int oo), .val (.ref b), .val (.int (Int32.ofNat N)), .val (.int (Int32.ofNat (oz + N)))] [(.int (1 : Int32))]))
  refine own_st (fun _ kq_ => XS.ifNo X9.here hx rfl (hb hby at_322) rfl ((if0 _ _).trans (feq (by decide : ¬ ((1 : Int32) = (0 : Int32)))).1) kq_) ?_
  show OwnG _ _ _ _ _ _ _ (T9.setTop (mkF m 325 #[.val (.long raw), .second, .val (.int sh), .val (.int off), .val (.long vz), .second, .val (.int oo), .val (.ref b), .val (.int (Int32.ofNat N)), .val (.int (Int32.ofNat (oz + N)))] []))
  refine own_st (fun _ kq_ => XS.aload X9.here hx rfl (hb hby at_325) rfl rfl kq_) ?_
  show OwnG _ _ _ _ _ _ _ (T9.setTop (mkF m 327 #[.val (.long raw), .second, .val (.int sh), .val (.int off), .val (.long vz), .second, .val (.int oo), .val (.ref b), .val (.int (Int32.ofNat N)), .val (.int (Int32.ofNat (oz + N)))] [(.ref b)]))
  refine own_st (fun _ kq_ => XS.bipush X9.here hx rfl (hb hby at_327) kq_) ?_
  show OwnG _ _ _ _ _ _ _ (T9.setTop (mkF m 329 #[.val (.long raw), .second, .val (.int sh), .val (.int off), .val (.long vz), .second, .val (.int oo), .val (.ref b), .val (.int (Int32.ofNat N)), .val (.int (Int32.ofNat (oz + N)))] [(.int (6 : Int32)), (.ref b)]))
  refine own_st (fun _ kq_ => XS.iload X9.here hx rfl (hb hby at_329) rfl kq_) ?_
  show OwnG _ _ _ _ _ _ _ (T9.setTop (mkF m 331 #[.val (.long raw), .second, .val (.int sh), .val (.int off), .val (.long vz), .second, .val (.int oo), .val (.ref b), .val (.int (Int32.ofNat N)), .val (.int (Int32.ofNat (oz + N)))] [(.int oo), (.int (6 : Int32)), (.ref b)]))
  refine own_st (fun _ kq_ => XS.iload X9.here hx rfl (hb hby at_331) rfl kq_) ?_
  show OwnG _ _ _ _ _ _ _ (T9.setTop (mkF m 333 #[.val (.long raw), .second, .val (.int sh), .val (.int off), .val (.long vz), .second, .val (.int oo), .val (.ref b), .val (.int (Int32.ofNat N)), .val (.int (Int32.ofNat (oz + N)))] [(.int (Int32.ofNat N)), (.int oo), (.int (6 : Int32)), (.ref b)]))
  refine own_st (fun _ kq_ => XS.lload X9.here hx rfl (hb hby at_333) rfl kq_) ?_
  show OwnG _ _ _ _ _ _ _ (T9.setTop (mkF m 335 #[.val (.long raw), .second, .val (.int sh), .val (.int off), .val (.long vz), .second, .val (.int oo), .val (.ref b), .val (.int (Int32.ofNat N)), .val (.int (Int32.ofNat (oz + N)))] [(.long vz), (.int (Int32.ofNat N)), (.int oo), (.int (6 : Int32)), (.ref b)]))
  obtain ⟨_, _, ⟨T10, L10, k10, n10⟩, -, X10, ⟨Lc10, hQ10, l10, y10, z10⟩, st10⟩ := Jvm.LawKit.callS X9 hx (y := (⟨"com/example/posting/posting/index/EncodingPutNumberPinLaw", "cell", "([BIIIJ)Z"⟩ : MethodName)) hown (mvT hZ (hw _ (List.mem_of_getElem? (i := 15) rfl))) (mvT hZ (hw _ (List.mem_of_getElem? (i := 16) rfl))) (mvT hZ (hw _ (List.mem_of_getElem? (i := 17) rfl))) (mvT hZ (hw _ (List.mem_of_getElem? (i := 18) rfl))) (by decide) (backOf (W := 0) (rm2 l Z a0 hw [] b (6 : Int32) oo (Int32.ofNat N) vz u N oz 6 T3.heap n0 S3 hu hN1 hN9 h2 h1 (by decide) (by decide) hoo ho (own_to N (by omega)) V3) hZ (hw _ (List.mem_of_getElem? (i := 18) rfl)) (hw _ (List.mem_of_getElem? (i := 17) rfl)) (by decide) (by decide)) (g := (mkF m 335 #[.val (.long raw), .second, .val (.int sh), .val (.int off), .val (.long vz), .second, .val (.int oo), .val (.ref b), .val (.int (Int32.ofNat N)), .val (.int (Int32.ofNat (oz + N)))] [(.long vz), (.int (Int32.ofNat N)), (.int oo), (.int (6 : Int32)), (.ref b)])) rfl (by rw [hml]; rfl) (argsL := [(.ref b), (.int (6 : Int32)), (.int oo), (.int (Int32.ofNat N)), (.long vz)]) (rest := []) (lenOf (by decide +kernel : parseMethodDescriptor "([BIIIJ)Z" = some ⟨[(.array .byte), .int, .int, .int, .long], some .boolean⟩) rfl) rfl (by show 2 * 0 + _ ≤ _; exact Nat.le_of_eq rfl) (hb hby at_335) (fun _ _ => ⟨rfl, E9, (by dsimp only [Pt.cells]; decide), (by dsimp only [Pt.slots]; decide)⟩)
  dsimp only [Pt.U, Pt.locs, Pt.cells, Pt.slots] at X10 l10 y10 z10 st10 hQ10
  subst l10 y10 z10
  obtain ⟨rfl, N10q, E10⟩ := hQ10
  have N10 := Fr.app N9 N10q
  refine own_st st10 ?_
  show OwnG _ _ _ _ _ _ _ (T10.setTop (mkF m 338 #[.val (.long raw), .second, .val (.int sh), .val (.int off), .val (.long vz), .second, .val (.int oo), .val (.ref b), .val (.int (Int32.ofNat N)), .val (.int (Int32.ofNat (oz + N)))] [(.int (1 : Int32))]))
  refine own_st (fun _ kq_ => XS.ifNo X10.here hx rfl (hb hby at_338) rfl ((if0 _ _).trans (feq (by decide : ¬ ((1 : Int32) = (0 : Int32)))).1) kq_) ?_
  show OwnG _ _ _ _ _ _ _ (T10.setTop (mkF m 341 #[.val (.long raw), .second, .val (.int sh), .val (.int off), .val (.long vz), .second, .val (.int oo), .val (.ref b), .val (.int (Int32.ofNat N)), .val (.int (Int32.ofNat (oz + N)))] []))
  refine own_st (fun _ kq_ => XS.aload X10.here hx rfl (hb hby at_341) rfl rfl kq_) ?_
  show OwnG _ _ _ _ _ _ _ (T10.setTop (mkF m 343 #[.val (.long raw), .second, .val (.int sh), .val (.int off), .val (.long vz), .second, .val (.int oo), .val (.ref b), .val (.int (Int32.ofNat N)), .val (.int (Int32.ofNat (oz + N)))] [(.ref b)]))
  refine own_st (fun _ kq_ => XS.bipush X10.here hx rfl (hb hby at_343) kq_) ?_
  show OwnG _ _ _ _ _ _ _ (T10.setTop (mkF m 345 #[.val (.long raw), .second, .val (.int sh), .val (.int off), .val (.long vz), .second, .val (.int oo), .val (.ref b), .val (.int (Int32.ofNat N)), .val (.int (Int32.ofNat (oz + N)))] [(.int (7 : Int32)), (.ref b)]))
  refine own_st (fun _ kq_ => XS.iload X10.here hx rfl (hb hby at_345) rfl kq_) ?_
  show OwnG _ _ _ _ _ _ _ (T10.setTop (mkF m 347 #[.val (.long raw), .second, .val (.int sh), .val (.int off), .val (.long vz), .second, .val (.int oo), .val (.ref b), .val (.int (Int32.ofNat N)), .val (.int (Int32.ofNat (oz + N)))] [(.int oo), (.int (7 : Int32)), (.ref b)]))
  refine own_st (fun _ kq_ => XS.iload X10.here hx rfl (hb hby at_347) rfl kq_) ?_
  show OwnG _ _ _ _ _ _ _ (T10.setTop (mkF m 349 #[.val (.long raw), .second, .val (.int sh), .val (.int off), .val (.long vz), .second, .val (.int oo), .val (.ref b), .val (.int (Int32.ofNat N)), .val (.int (Int32.ofNat (oz + N)))] [(.int (Int32.ofNat N)), (.int oo), (.int (7 : Int32)), (.ref b)]))
  refine own_st (fun _ kq_ => XS.lload X10.here hx rfl (hb hby at_349) rfl kq_) ?_
  show OwnG _ _ _ _ _ _ _ (T10.setTop (mkF m 351 #[.val (.long raw), .second, .val (.int sh), .val (.int off), .val (.long vz), .second, .val (.int oo), .val (.ref b), .val (.int (Int32.ofNat N)), .val (.int (Int32.ofNat (oz + N)))] [(.long vz), (.int (Int32.ofNat N)), (.int oo), (.int (7 : Int32)), (.ref b)]))
  obtain ⟨_, _, ⟨T11, L11, k11, n11⟩, -, X11, ⟨Lc11, hQ11, l11, y11, z11⟩, st11⟩ := Jvm.LawKit.callS X10 hx (y := (⟨"com/example/posting/posting/index/EncodingPutNumberPinLaw", "cell", "([BIIIJ)Z"⟩ : MethodName)) hown (mvT hZ (hw _ (List.mem_of_getElem? (i := 15) rfl))) (mvT hZ (hw _ (List.mem_of_getElem? (i := 16) rfl))) (mvT hZ (hw _ (List.mem_of_getElem? (i := 17) rfl))) (mvT hZ (hw _ (List.mem_of_getElem? (i := 18) rfl))) (by decide) (backOf (W := 0) (rm2 l Z a0 hw [] b (7 : Int32) oo (Int32.ofNat N) vz u N oz 7 T3.heap n0 S3 hu hN1 hN9 h2 h1 (by decide) (by decide) hoo ho (own_to N (by omega)) V3) hZ (hw _ (List.mem_of_getElem? (i := 18) rfl)) (hw _ (List.mem_of_getElem? (i := 17) rfl)) (by decide) (by decide)) (g := (mkF m 351 #[.val (.long raw), .second, .val (.int sh), .val (.int off), .val (.long vz), .second, .val (.int oo), .val (.ref b), .val (.int (Int32.ofNat N)), .val (.int (Int32.ofNat (oz + N)))] [(.long vz), (.int (Int32.ofNat N)), (.int oo), (.int (7 : Int32)), (.ref b)])) rfl (by rw [hml]; rfl) (argsL := [(.ref b), (.int (7 : Int32)), (.int oo), (.int (Int32.ofNat N)), (.long vz)]) (rest := []) (lenOf (by decide +kernel : parseMethodDescriptor "([BIIIJ)Z" = some ⟨[(.array .byte), .int, .int, .int, .long], some .boolean⟩) rfl) rfl (by show 2 * 0 + _ ≤ _; exact Nat.le_of_eq rfl) (hb hby at_351) (fun _ _ => ⟨rfl, E10, (by dsimp only [Pt.cells]; decide), (by dsimp only [Pt.slots]; decide)⟩)
  dsimp only [Pt.U, Pt.locs, Pt.cells, Pt.slots] at X11 l11 y11 z11 st11 hQ11
  subst l11 y11 z11
  obtain ⟨rfl, N11q, E11⟩ := hQ11
  have N11 := Fr.app N10 N11q
  refine own_st st11 ?_
  show OwnG _ _ _ _ _ _ _ (T11.setTop (mkF m 354 #[.val (.long raw), .second, .val (.int sh), .val (.int off), .val (.long vz), .second, .val (.int oo), .val (.ref b), .val (.int (Int32.ofNat N)), .val (.int (Int32.ofNat (oz + N)))] [(.int (1 : Int32))]))
  refine own_st (fun _ kq_ => XS.ifNo X11.here hx rfl (hb hby at_354) rfl ((if0 _ _).trans (feq (by decide : ¬ ((1 : Int32) = (0 : Int32)))).1) kq_) ?_
  show OwnG _ _ _ _ _ _ _ (T11.setTop (mkF m 357 #[.val (.long raw), .second, .val (.int sh), .val (.int off), .val (.long vz), .second, .val (.int oo), .val (.ref b), .val (.int (Int32.ofNat N)), .val (.int (Int32.ofNat (oz + N)))] []))
  refine own_st (fun _ kq_ => XS.aload X11.here hx rfl (hb hby at_357) rfl rfl kq_) ?_
  show OwnG _ _ _ _ _ _ _ (T11.setTop (mkF m 359 #[.val (.long raw), .second, .val (.int sh), .val (.int off), .val (.long vz), .second, .val (.int oo), .val (.ref b), .val (.int (Int32.ofNat N)), .val (.int (Int32.ofNat (oz + N)))] [(.ref b)]))
  refine own_st (fun _ kq_ => XS.bipush X11.here hx rfl (hb hby at_359) kq_) ?_
  show OwnG _ _ _ _ _ _ _ (T11.setTop (mkF m 361 #[.val (.long raw), .second, .val (.int sh), .val (.int off), .val (.long vz), .second, .val (.int oo), .val (.ref b), .val (.int (Int32.ofNat N)), .val (.int (Int32.ofNat (oz + N)))] [(.int (8 : Int32)), (.ref b)]))
  refine own_st (fun _ kq_ => XS.iload X11.here hx rfl (hb hby at_361) rfl kq_) ?_
  show OwnG _ _ _ _ _ _ _ (T11.setTop (mkF m 363 #[.val (.long raw), .second, .val (.int sh), .val (.int off), .val (.long vz), .second, .val (.int oo), .val (.ref b), .val (.int (Int32.ofNat N)), .val (.int (Int32.ofNat (oz + N)))] [(.int oo), (.int (8 : Int32)), (.ref b)]))
  refine own_st (fun _ kq_ => XS.iload X11.here hx rfl (hb hby at_363) rfl kq_) ?_
  show OwnG _ _ _ _ _ _ _ (T11.setTop (mkF m 365 #[.val (.long raw), .second, .val (.int sh), .val (.int off), .val (.long vz), .second, .val (.int oo), .val (.ref b), .val (.int (Int32.ofNat N)), .val (.int (Int32.ofNat (oz + N)))] [(.int (Int32.ofNat N)), (.int oo), (.int (8 : Int32)), (.ref b)]))
  refine own_st (fun _ kq_ => XS.lload X11.here hx rfl (hb hby at_365) rfl kq_) ?_
  show OwnG _ _ _ _ _ _ _ (T11.setTop (mkF m 367 #[.val (.long raw), .second, .val (.int sh), .val (.int off), .val (.long vz), .second, .val (.int oo), .val (.ref b), .val (.int (Int32.ofNat N)), .val (.int (Int32.ofNat (oz + N)))] [(.long vz), (.int (Int32.ofNat N)), (.int oo), (.int (8 : Int32)), (.ref b)]))
  obtain ⟨_, _, ⟨T12, L12, k12, n12⟩, -, X12, ⟨Lc12, hQ12, l12, y12, z12⟩, st12⟩ := Jvm.LawKit.callS X11 hx (y := (⟨"com/example/posting/posting/index/EncodingPutNumberPinLaw", "cell", "([BIIIJ)Z"⟩ : MethodName)) hown (mvT hZ (hw _ (List.mem_of_getElem? (i := 15) rfl))) (mvT hZ (hw _ (List.mem_of_getElem? (i := 16) rfl))) (mvT hZ (hw _ (List.mem_of_getElem? (i := 17) rfl))) (mvT hZ (hw _ (List.mem_of_getElem? (i := 18) rfl))) (by decide) (backOf (W := 0) (rm2 l Z a0 hw [] b (8 : Int32) oo (Int32.ofNat N) vz u N oz 8 T3.heap n0 S3 hu hN1 hN9 h2 h1 (by decide) (by decide) hoo ho (own_to N (by omega)) V3) hZ (hw _ (List.mem_of_getElem? (i := 18) rfl)) (hw _ (List.mem_of_getElem? (i := 17) rfl)) (by decide) (by decide)) (g := (mkF m 367 #[.val (.long raw), .second, .val (.int sh), .val (.int off), .val (.long vz), .second, .val (.int oo), .val (.ref b), .val (.int (Int32.ofNat N)), .val (.int (Int32.ofNat (oz + N)))] [(.long vz), (.int (Int32.ofNat N)), (.int oo), (.int (8 : Int32)), (.ref b)])) rfl (by rw [hml]; rfl) (argsL := [(.ref b), (.int (8 : Int32)), (.int oo), (.int (Int32.ofNat N)), (.long vz)]) (rest := []) (lenOf (by decide +kernel : parseMethodDescriptor "([BIIIJ)Z" = some ⟨[(.array .byte), .int, .int, .int, .long], some .boolean⟩) rfl) rfl (by show 2 * 0 + _ ≤ _; exact Nat.le_of_eq rfl) (hb hby at_367) (fun _ _ => ⟨rfl, E11, (by dsimp only [Pt.cells]; decide), (by dsimp only [Pt.slots]; decide)⟩)
  dsimp only [Pt.U, Pt.locs, Pt.cells, Pt.slots] at X12 l12 y12 z12 st12 hQ12
  subst l12 y12 z12
  obtain ⟨rfl, N12q, E12⟩ := hQ12
  have N12 := Fr.app N11 N12q
  refine own_st st12 ?_
  show OwnG _ _ _ _ _ _ _ (T12.setTop (mkF m 370 #[.val (.long raw), .second, .val (.int sh), .val (.int off), .val (.long vz), .second, .val (.int oo), .val (.ref b), .val (.int (Int32.ofNat N)), .val (.int (Int32.ofNat (oz + N)))] [(.int (1 : Int32))]))
  refine own_st (fun _ kq_ => XS.ifNo X12.here hx rfl (hb hby at_370) rfl ((if0 _ _).trans (feq (by decide : ¬ ((1 : Int32) = (0 : Int32)))).1) kq_) ?_
  show OwnG _ _ _ _ _ _ _ (T12.setTop (mkF m 373 #[.val (.long raw), .second, .val (.int sh), .val (.int off), .val (.long vz), .second, .val (.int oo), .val (.ref b), .val (.int (Int32.ofNat N)), .val (.int (Int32.ofNat (oz + N)))] []))
  refine own_st (fun _ kq_ => XS.aload X12.here hx rfl (hb hby at_373) rfl rfl kq_) ?_
  show OwnG _ _ _ _ _ _ _ (T12.setTop (mkF m 375 #[.val (.long raw), .second, .val (.int sh), .val (.int off), .val (.long vz), .second, .val (.int oo), .val (.ref b), .val (.int (Int32.ofNat N)), .val (.int (Int32.ofNat (oz + N)))] [(.ref b)]))
  refine own_st (fun _ kq_ => XS.bipush X12.here hx rfl (hb hby at_375) kq_) ?_
  show OwnG _ _ _ _ _ _ _ (T12.setTop (mkF m 377 #[.val (.long raw), .second, .val (.int sh), .val (.int off), .val (.long vz), .second, .val (.int oo), .val (.ref b), .val (.int (Int32.ofNat N)), .val (.int (Int32.ofNat (oz + N)))] [(.int (9 : Int32)), (.ref b)]))
  refine own_st (fun _ kq_ => XS.iload X12.here hx rfl (hb hby at_377) rfl kq_) ?_
  show OwnG _ _ _ _ _ _ _ (T12.setTop (mkF m 379 #[.val (.long raw), .second, .val (.int sh), .val (.int off), .val (.long vz), .second, .val (.int oo), .val (.ref b), .val (.int (Int32.ofNat N)), .val (.int (Int32.ofNat (oz + N)))] [(.int oo), (.int (9 : Int32)), (.ref b)]))
  refine own_st (fun _ kq_ => XS.iload X12.here hx rfl (hb hby at_379) rfl kq_) ?_
  show OwnG _ _ _ _ _ _ _ (T12.setTop (mkF m 381 #[.val (.long raw), .second, .val (.int sh), .val (.int off), .val (.long vz), .second, .val (.int oo), .val (.ref b), .val (.int (Int32.ofNat N)), .val (.int (Int32.ofNat (oz + N)))] [(.int (Int32.ofNat N)), (.int oo), (.int (9 : Int32)), (.ref b)]))
  refine own_st (fun _ kq_ => XS.lload X12.here hx rfl (hb hby at_381) rfl kq_) ?_
  show OwnG _ _ _ _ _ _ _ (T12.setTop (mkF m 383 #[.val (.long raw), .second, .val (.int sh), .val (.int off), .val (.long vz), .second, .val (.int oo), .val (.ref b), .val (.int (Int32.ofNat N)), .val (.int (Int32.ofNat (oz + N)))] [(.long vz), (.int (Int32.ofNat N)), (.int oo), (.int (9 : Int32)), (.ref b)]))
  obtain ⟨_, _, ⟨T13, L13, k13, n13⟩, -, X13, ⟨Lc13, hQ13, l13, y13, z13⟩, st13⟩ := Jvm.LawKit.callS X12 hx (y := (⟨"com/example/posting/posting/index/EncodingPutNumberPinLaw", "cell", "([BIIIJ)Z"⟩ : MethodName)) hown (mvT hZ (hw _ (List.mem_of_getElem? (i := 15) rfl))) (mvT hZ (hw _ (List.mem_of_getElem? (i := 16) rfl))) (mvT hZ (hw _ (List.mem_of_getElem? (i := 17) rfl))) (mvT hZ (hw _ (List.mem_of_getElem? (i := 18) rfl))) (by decide) (backOf (W := 0) (rm2 l Z a0 hw [] b (9 : Int32) oo (Int32.ofNat N) vz u N oz 9 T3.heap n0 S3 hu hN1 hN9 h2 h1 (by decide) (by decide) hoo ho (own_to N (by omega)) V3) hZ (hw _ (List.mem_of_getElem? (i := 18) rfl)) (hw _ (List.mem_of_getElem? (i := 17) rfl)) (by decide) (by decide)) (g := (mkF m 383 #[.val (.long raw), .second, .val (.int sh), .val (.int off), .val (.long vz), .second, .val (.int oo), .val (.ref b), .val (.int (Int32.ofNat N)), .val (.int (Int32.ofNat (oz + N)))] [(.long vz), (.int (Int32.ofNat N)), (.int oo), (.int (9 : Int32)), (.ref b)])) rfl (by rw [hml]; rfl) (argsL := [(.ref b), (.int (9 : Int32)), (.int oo), (.int (Int32.ofNat N)), (.long vz)]) (rest := []) (lenOf (by decide +kernel : parseMethodDescriptor "([BIIIJ)Z" = some ⟨[(.array .byte), .int, .int, .int, .long], some .boolean⟩) rfl) rfl (by show 2 * 0 + _ ≤ _; exact Nat.le_of_eq rfl) (hb hby at_383) (fun _ _ => ⟨rfl, E12, (by dsimp only [Pt.cells]; decide), (by dsimp only [Pt.slots]; decide)⟩)
  dsimp only [Pt.U, Pt.locs, Pt.cells, Pt.slots] at X13 l13 y13 z13 st13 hQ13
  subst l13 y13 z13
  obtain ⟨rfl, N13q, E13⟩ := hQ13
  have N13 := Fr.app N12 N13q
  refine own_st st13 ?_
  show OwnG _ _ _ _ _ _ _ (T13.setTop (mkF m 386 #[.val (.long raw), .second, .val (.int sh), .val (.int off), .val (.long vz), .second, .val (.int oo), .val (.ref b), .val (.int (Int32.ofNat N)), .val (.int (Int32.ofNat (oz + N)))] [(.int (1 : Int32))]))
  refine own_st (fun _ kq_ => XS.ifNo X13.here hx rfl (hb hby at_386) rfl ((if0 _ _).trans (feq (by decide : ¬ ((1 : Int32) = (0 : Int32)))).1) kq_) ?_
  show OwnG _ _ _ _ _ _ _ (T13.setTop (mkF m 389 #[.val (.long raw), .second, .val (.int sh), .val (.int off), .val (.long vz), .second, .val (.int oo), .val (.ref b), .val (.int (Int32.ofNat N)), .val (.int (Int32.ofNat (oz + N)))] []))
  refine own_st (fun _ kq_ => XS.aload X13.here hx rfl (hb hby at_389) rfl rfl kq_) ?_
  show OwnG _ _ _ _ _ _ _ (T13.setTop (mkF m 391 #[.val (.long raw), .second, .val (.int sh), .val (.int off), .val (.long vz), .second, .val (.int oo), .val (.ref b), .val (.int (Int32.ofNat N)), .val (.int (Int32.ofNat (oz + N)))] [(.ref b)]))
  refine own_st (fun _ kq_ => XS.bipush X13.here hx rfl (hb hby at_391) kq_) ?_
  show OwnG _ _ _ _ _ _ _ (T13.setTop (mkF m 393 #[.val (.long raw), .second, .val (.int sh), .val (.int off), .val (.long vz), .second, .val (.int oo), .val (.ref b), .val (.int (Int32.ofNat N)), .val (.int (Int32.ofNat (oz + N)))] [(.int (10 : Int32)), (.ref b)]))
  refine own_st (fun _ kq_ => XS.iload X13.here hx rfl (hb hby at_393) rfl kq_) ?_
  show OwnG _ _ _ _ _ _ _ (T13.setTop (mkF m 395 #[.val (.long raw), .second, .val (.int sh), .val (.int off), .val (.long vz), .second, .val (.int oo), .val (.ref b), .val (.int (Int32.ofNat N)), .val (.int (Int32.ofNat (oz + N)))] [(.int oo), (.int (10 : Int32)), (.ref b)]))
  refine own_st (fun _ kq_ => XS.iload X13.here hx rfl (hb hby at_395) rfl kq_) ?_
  show OwnG _ _ _ _ _ _ _ (T13.setTop (mkF m 397 #[.val (.long raw), .second, .val (.int sh), .val (.int off), .val (.long vz), .second, .val (.int oo), .val (.ref b), .val (.int (Int32.ofNat N)), .val (.int (Int32.ofNat (oz + N)))] [(.int (Int32.ofNat N)), (.int oo), (.int (10 : Int32)), (.ref b)]))
  refine own_st (fun _ kq_ => XS.lload X13.here hx rfl (hb hby at_397) rfl kq_) ?_
  show OwnG _ _ _ _ _ _ _ (T13.setTop (mkF m 399 #[.val (.long raw), .second, .val (.int sh), .val (.int off), .val (.long vz), .second, .val (.int oo), .val (.ref b), .val (.int (Int32.ofNat N)), .val (.int (Int32.ofNat (oz + N)))] [(.long vz), (.int (Int32.ofNat N)), (.int oo), (.int (10 : Int32)), (.ref b)]))
  obtain ⟨_, _, ⟨T14, L14, k14, n14⟩, -, X14, ⟨Lc14, hQ14, l14, y14, z14⟩, st14⟩ := Jvm.LawKit.callS X13 hx (y := (⟨"com/example/posting/posting/index/EncodingPutNumberPinLaw", "cell", "([BIIIJ)Z"⟩ : MethodName)) hown (mvT hZ (hw _ (List.mem_of_getElem? (i := 15) rfl))) (mvT hZ (hw _ (List.mem_of_getElem? (i := 16) rfl))) (mvT hZ (hw _ (List.mem_of_getElem? (i := 17) rfl))) (mvT hZ (hw _ (List.mem_of_getElem? (i := 18) rfl))) (by decide) (backOf (W := 0) (rm2 l Z a0 hw [] b (10 : Int32) oo (Int32.ofNat N) vz u N oz 10 T3.heap n0 S3 hu hN1 hN9 h2 h1 (by decide) (by decide) hoo ho (own_to N (by omega)) V3) hZ (hw _ (List.mem_of_getElem? (i := 18) rfl)) (hw _ (List.mem_of_getElem? (i := 17) rfl)) (by decide) (by decide)) (g := (mkF m 399 #[.val (.long raw), .second, .val (.int sh), .val (.int off), .val (.long vz), .second, .val (.int oo), .val (.ref b), .val (.int (Int32.ofNat N)), .val (.int (Int32.ofNat (oz + N)))] [(.long vz), (.int (Int32.ofNat N)), (.int oo), (.int (10 : Int32)), (.ref b)])) rfl (by rw [hml]; rfl) (argsL := [(.ref b), (.int (10 : Int32)), (.int oo), (.int (Int32.ofNat N)), (.long vz)]) (rest := []) (lenOf (by decide +kernel : parseMethodDescriptor "([BIIIJ)Z" = some ⟨[(.array .byte), .int, .int, .int, .long], some .boolean⟩) rfl) rfl (by show 2 * 0 + _ ≤ _; exact Nat.le_of_eq rfl) (hb hby at_399) (fun _ _ => ⟨rfl, E13, (by dsimp only [Pt.cells]; decide), (by dsimp only [Pt.slots]; decide)⟩)
  dsimp only [Pt.U, Pt.locs, Pt.cells, Pt.slots] at X14 l14 y14 z14 st14 hQ14
  subst l14 y14 z14
  obtain ⟨rfl, N14q, E14⟩ := hQ14
  have N14 := Fr.app N13 N14q
  refine own_st st14 ?_
  show OwnG _ _ _ _ _ _ _ (T14.setTop (mkF m 402 #[.val (.long raw), .second, .val (.int sh), .val (.int off), .val (.long vz), .second, .val (.int oo), .val (.ref b), .val (.int (Int32.ofNat N)), .val (.int (Int32.ofNat (oz + N)))] [(.int (1 : Int32))]))
  refine own_st (fun _ kq_ => XS.ifNo X14.here hx rfl (hb hby at_402) rfl ((if0 _ _).trans (feq (by decide : ¬ ((1 : Int32) = (0 : Int32)))).1) kq_) ?_
  show OwnG _ _ _ _ _ _ _ (T14.setTop (mkF m 405 #[.val (.long raw), .second, .val (.int sh), .val (.int off), .val (.long vz), .second, .val (.int oo), .val (.ref b), .val (.int (Int32.ofNat N)), .val (.int (Int32.ofNat (oz + N)))] []))
  refine own_st (fun _ kq_ => XS.aload X14.here hx rfl (hb hby at_405) rfl rfl kq_) ?_
  show OwnG _ _ _ _ _ _ _ (T14.setTop (mkF m 407 #[.val (.long raw), .second, .val (.int sh), .val (.int off), .val (.long vz), .second, .val (.int oo), .val (.ref b), .val (.int (Int32.ofNat N)), .val (.int (Int32.ofNat (oz + N)))] [(.ref b)]))
  refine own_st (fun _ kq_ => XS.bipush X14.here hx rfl (hb hby at_407) kq_) ?_
  show OwnG _ _ _ _ _ _ _ (T14.setTop (mkF m 409 #[.val (.long raw), .second, .val (.int sh), .val (.int off), .val (.long vz), .second, .val (.int oo), .val (.ref b), .val (.int (Int32.ofNat N)), .val (.int (Int32.ofNat (oz + N)))] [(.int (11 : Int32)), (.ref b)]))
  refine own_st (fun _ kq_ => XS.iload X14.here hx rfl (hb hby at_409) rfl kq_) ?_
  show OwnG _ _ _ _ _ _ _ (T14.setTop (mkF m 411 #[.val (.long raw), .second, .val (.int sh), .val (.int off), .val (.long vz), .second, .val (.int oo), .val (.ref b), .val (.int (Int32.ofNat N)), .val (.int (Int32.ofNat (oz + N)))] [(.int oo), (.int (11 : Int32)), (.ref b)]))
  refine own_st (fun _ kq_ => XS.iload X14.here hx rfl (hb hby at_411) rfl kq_) ?_
  show OwnG _ _ _ _ _ _ _ (T14.setTop (mkF m 413 #[.val (.long raw), .second, .val (.int sh), .val (.int off), .val (.long vz), .second, .val (.int oo), .val (.ref b), .val (.int (Int32.ofNat N)), .val (.int (Int32.ofNat (oz + N)))] [(.int (Int32.ofNat N)), (.int oo), (.int (11 : Int32)), (.ref b)]))
  refine own_st (fun _ kq_ => XS.lload X14.here hx rfl (hb hby at_413) rfl kq_) ?_
  show OwnG _ _ _ _ _ _ _ (T14.setTop (mkF m 415 #[.val (.long raw), .second, .val (.int sh), .val (.int off), .val (.long vz), .second, .val (.int oo), .val (.ref b), .val (.int (Int32.ofNat N)), .val (.int (Int32.ofNat (oz + N)))] [(.long vz), (.int (Int32.ofNat N)), (.int oo), (.int (11 : Int32)), (.ref b)]))
  obtain ⟨_, _, ⟨T15, L15, k15, n15⟩, -, X15, ⟨Lc15, hQ15, l15, y15, z15⟩, st15⟩ := Jvm.LawKit.callS X14 hx (y := (⟨"com/example/posting/posting/index/EncodingPutNumberPinLaw", "cell", "([BIIIJ)Z"⟩ : MethodName)) hown (mvT hZ (hw _ (List.mem_of_getElem? (i := 15) rfl))) (mvT hZ (hw _ (List.mem_of_getElem? (i := 16) rfl))) (mvT hZ (hw _ (List.mem_of_getElem? (i := 17) rfl))) (mvT hZ (hw _ (List.mem_of_getElem? (i := 18) rfl))) (by decide) (backOf (W := 0) (rm2 l Z a0 hw [] b (11 : Int32) oo (Int32.ofNat N) vz u N oz 11 T3.heap n0 S3 hu hN1 hN9 h2 h1 (by decide) (by decide) hoo ho (own_to N (by omega)) V3) hZ (hw _ (List.mem_of_getElem? (i := 18) rfl)) (hw _ (List.mem_of_getElem? (i := 17) rfl)) (by decide) (by decide)) (g := (mkF m 415 #[.val (.long raw), .second, .val (.int sh), .val (.int off), .val (.long vz), .second, .val (.int oo), .val (.ref b), .val (.int (Int32.ofNat N)), .val (.int (Int32.ofNat (oz + N)))] [(.long vz), (.int (Int32.ofNat N)), (.int oo), (.int (11 : Int32)), (.ref b)])) rfl (by rw [hml]; rfl) (argsL := [(.ref b), (.int (11 : Int32)), (.int oo), (.int (Int32.ofNat N)), (.long vz)]) (rest := []) (lenOf (by decide +kernel : parseMethodDescriptor "([BIIIJ)Z" = some ⟨[(.array .byte), .int, .int, .int, .long], some .boolean⟩) rfl) rfl (by show 2 * 0 + _ ≤ _; exact Nat.le_of_eq rfl) (hb hby at_415) (fun _ _ => ⟨rfl, E14, (by dsimp only [Pt.cells]; decide), (by dsimp only [Pt.slots]; decide)⟩)
  dsimp only [Pt.U, Pt.locs, Pt.cells, Pt.slots] at X15 l15 y15 z15 st15 hQ15
  subst l15 y15 z15
  obtain ⟨rfl, N15q, E15⟩ := hQ15
  have N15 := Fr.app N14 N15q
  refine own_st st15 ?_
  show OwnG _ _ _ _ _ _ _ (T15.setTop (mkF m 418 #[.val (.long raw), .second, .val (.int sh), .val (.int off), .val (.long vz), .second, .val (.int oo), .val (.ref b), .val (.int (Int32.ofNat N)), .val (.int (Int32.ofNat (oz + N)))] [(.int (1 : Int32))]))
  refine own_st (fun _ kq_ => XS.ifNo X15.here hx rfl (hb hby at_418) rfl ((if0 _ _).trans (feq (by decide : ¬ ((1 : Int32) = (0 : Int32)))).1) kq_) ?_
  show OwnG _ _ _ _ _ _ _ (T15.setTop (mkF m 421 #[.val (.long raw), .second, .val (.int sh), .val (.int off), .val (.long vz), .second, .val (.int oo), .val (.ref b), .val (.int (Int32.ofNat N)), .val (.int (Int32.ofNat (oz + N)))] []))
  refine own_st (fun _ kq_ => XS.aload X15.here hx rfl (hb hby at_421) rfl rfl kq_) ?_
  show OwnG _ _ _ _ _ _ _ (T15.setTop (mkF m 423 #[.val (.long raw), .second, .val (.int sh), .val (.int off), .val (.long vz), .second, .val (.int oo), .val (.ref b), .val (.int (Int32.ofNat N)), .val (.int (Int32.ofNat (oz + N)))] [(.ref b)]))
  refine own_st (fun _ kq_ => XS.bipush X15.here hx rfl (hb hby at_423) kq_) ?_
  show OwnG _ _ _ _ _ _ _ (T15.setTop (mkF m 425 #[.val (.long raw), .second, .val (.int sh), .val (.int off), .val (.long vz), .second, .val (.int oo), .val (.ref b), .val (.int (Int32.ofNat N)), .val (.int (Int32.ofNat (oz + N)))] [(.int (12 : Int32)), (.ref b)]))
  refine own_st (fun _ kq_ => XS.iload X15.here hx rfl (hb hby at_425) rfl kq_) ?_
  show OwnG _ _ _ _ _ _ _ (T15.setTop (mkF m 427 #[.val (.long raw), .second, .val (.int sh), .val (.int off), .val (.long vz), .second, .val (.int oo), .val (.ref b), .val (.int (Int32.ofNat N)), .val (.int (Int32.ofNat (oz + N)))] [(.int oo), (.int (12 : Int32)), (.ref b)]))
  refine own_st (fun _ kq_ => XS.iload X15.here hx rfl (hb hby at_427) rfl kq_) ?_
  show OwnG _ _ _ _ _ _ _ (T15.setTop (mkF m 429 #[.val (.long raw), .second, .val (.int sh), .val (.int off), .val (.long vz), .second, .val (.int oo), .val (.ref b), .val (.int (Int32.ofNat N)), .val (.int (Int32.ofNat (oz + N)))] [(.int (Int32.ofNat N)), (.int oo), (.int (12 : Int32)), (.ref b)]))
  refine own_st (fun _ kq_ => XS.lload X15.here hx rfl (hb hby at_429) rfl kq_) ?_
  show OwnG _ _ _ _ _ _ _ (T15.setTop (mkF m 431 #[.val (.long raw), .second, .val (.int sh), .val (.int off), .val (.long vz), .second, .val (.int oo), .val (.ref b), .val (.int (Int32.ofNat N)), .val (.int (Int32.ofNat (oz + N)))] [(.long vz), (.int (Int32.ofNat N)), (.int oo), (.int (12 : Int32)), (.ref b)]))
  obtain ⟨_, _, ⟨T16, L16, k16, n16⟩, -, X16, ⟨Lc16, hQ16, l16, y16, z16⟩, st16⟩ := Jvm.LawKit.callS X15 hx (y := (⟨"com/example/posting/posting/index/EncodingPutNumberPinLaw", "cell", "([BIIIJ)Z"⟩ : MethodName)) hown (mvT hZ (hw _ (List.mem_of_getElem? (i := 15) rfl))) (mvT hZ (hw _ (List.mem_of_getElem? (i := 16) rfl))) (mvT hZ (hw _ (List.mem_of_getElem? (i := 17) rfl))) (mvT hZ (hw _ (List.mem_of_getElem? (i := 18) rfl))) (by decide) (backOf (W := 0) (rm2 l Z a0 hw [] b (12 : Int32) oo (Int32.ofNat N) vz u N oz 12 T3.heap n0 S3 hu hN1 hN9 h2 h1 (by decide) (by decide) hoo ho (own_to N (by omega)) V3) hZ (hw _ (List.mem_of_getElem? (i := 18) rfl)) (hw _ (List.mem_of_getElem? (i := 17) rfl)) (by decide) (by decide)) (g := (mkF m 431 #[.val (.long raw), .second, .val (.int sh), .val (.int off), .val (.long vz), .second, .val (.int oo), .val (.ref b), .val (.int (Int32.ofNat N)), .val (.int (Int32.ofNat (oz + N)))] [(.long vz), (.int (Int32.ofNat N)), (.int oo), (.int (12 : Int32)), (.ref b)])) rfl (by rw [hml]; rfl) (argsL := [(.ref b), (.int (12 : Int32)), (.int oo), (.int (Int32.ofNat N)), (.long vz)]) (rest := []) (lenOf (by decide +kernel : parseMethodDescriptor "([BIIIJ)Z" = some ⟨[(.array .byte), .int, .int, .int, .long], some .boolean⟩) rfl) rfl (by show 2 * 0 + _ ≤ _; exact Nat.le_of_eq rfl) (hb hby at_431) (fun _ _ => ⟨rfl, E15, (by dsimp only [Pt.cells]; decide), (by dsimp only [Pt.slots]; decide)⟩)
  dsimp only [Pt.U, Pt.locs, Pt.cells, Pt.slots] at X16 l16 y16 z16 st16 hQ16
  subst l16 y16 z16
  obtain ⟨rfl, N16q, E16⟩ := hQ16
  have N16 := Fr.app N15 N16q
  refine own_st st16 ?_
  show OwnG _ _ _ _ _ _ _ (T16.setTop (mkF m 434 #[.val (.long raw), .second, .val (.int sh), .val (.int off), .val (.long vz), .second, .val (.int oo), .val (.ref b), .val (.int (Int32.ofNat N)), .val (.int (Int32.ofNat (oz + N)))] [(.int (1 : Int32))]))
  refine own_st (fun _ kq_ => XS.ifNo X16.here hx rfl (hb hby at_434) rfl ((if0 _ _).trans (feq (by decide : ¬ ((1 : Int32) = (0 : Int32)))).1) kq_) ?_
  show OwnG _ _ _ _ _ _ _ (T16.setTop (mkF m 437 #[.val (.long raw), .second, .val (.int sh), .val (.int off), .val (.long vz), .second, .val (.int oo), .val (.ref b), .val (.int (Int32.ofNat N)), .val (.int (Int32.ofNat (oz + N)))] []))
  refine own_st (fun _ kq_ => XS.aload X16.here hx rfl (hb hby at_437) rfl rfl kq_) ?_
  show OwnG _ _ _ _ _ _ _ (T16.setTop (mkF m 439 #[.val (.long raw), .second, .val (.int sh), .val (.int off), .val (.long vz), .second, .val (.int oo), .val (.ref b), .val (.int (Int32.ofNat N)), .val (.int (Int32.ofNat (oz + N)))] [(.ref b)]))
  refine own_st (fun _ kq_ => XS.bipush X16.here hx rfl (hb hby at_439) kq_) ?_
  show OwnG _ _ _ _ _ _ _ (T16.setTop (mkF m 441 #[.val (.long raw), .second, .val (.int sh), .val (.int off), .val (.long vz), .second, .val (.int oo), .val (.ref b), .val (.int (Int32.ofNat N)), .val (.int (Int32.ofNat (oz + N)))] [(.int (13 : Int32)), (.ref b)]))
  refine own_st (fun _ kq_ => XS.iload X16.here hx rfl (hb hby at_441) rfl kq_) ?_
  show OwnG _ _ _ _ _ _ _ (T16.setTop (mkF m 443 #[.val (.long raw), .second, .val (.int sh), .val (.int off), .val (.long vz), .second, .val (.int oo), .val (.ref b), .val (.int (Int32.ofNat N)), .val (.int (Int32.ofNat (oz + N)))] [(.int oo), (.int (13 : Int32)), (.ref b)]))
  refine own_st (fun _ kq_ => XS.iload X16.here hx rfl (hb hby at_443) rfl kq_) ?_
  show OwnG _ _ _ _ _ _ _ (T16.setTop (mkF m 445 #[.val (.long raw), .second, .val (.int sh), .val (.int off), .val (.long vz), .second, .val (.int oo), .val (.ref b), .val (.int (Int32.ofNat N)), .val (.int (Int32.ofNat (oz + N)))] [(.int (Int32.ofNat N)), (.int oo), (.int (13 : Int32)), (.ref b)]))
  refine own_st (fun _ kq_ => XS.lload X16.here hx rfl (hb hby at_445) rfl kq_) ?_
  show OwnG _ _ _ _ _ _ _ (T16.setTop (mkF m 447 #[.val (.long raw), .second, .val (.int sh), .val (.int off), .val (.long vz), .second, .val (.int oo), .val (.ref b), .val (.int (Int32.ofNat N)), .val (.int (Int32.ofNat (oz + N)))] [(.long vz), (.int (Int32.ofNat N)), (.int oo), (.int (13 : Int32)), (.ref b)]))
  obtain ⟨_, _, ⟨T17, L17, k17, n17⟩, -, X17, ⟨Lc17, hQ17, l17, y17, z17⟩, st17⟩ := Jvm.LawKit.callS X16 hx (y := (⟨"com/example/posting/posting/index/EncodingPutNumberPinLaw", "cell", "([BIIIJ)Z"⟩ : MethodName)) hown (mvT hZ (hw _ (List.mem_of_getElem? (i := 15) rfl))) (mvT hZ (hw _ (List.mem_of_getElem? (i := 16) rfl))) (mvT hZ (hw _ (List.mem_of_getElem? (i := 17) rfl))) (mvT hZ (hw _ (List.mem_of_getElem? (i := 18) rfl))) (by decide) (backOf (W := 0) (rm2 l Z a0 hw [] b (13 : Int32) oo (Int32.ofNat N) vz u N oz 13 T3.heap n0 S3 hu hN1 hN9 h2 h1 (by decide) (by decide) hoo ho (own_to N (by omega)) V3) hZ (hw _ (List.mem_of_getElem? (i := 18) rfl)) (hw _ (List.mem_of_getElem? (i := 17) rfl)) (by decide) (by decide)) (g := (mkF m 447 #[.val (.long raw), .second, .val (.int sh), .val (.int off), .val (.long vz), .second, .val (.int oo), .val (.ref b), .val (.int (Int32.ofNat N)), .val (.int (Int32.ofNat (oz + N)))] [(.long vz), (.int (Int32.ofNat N)), (.int oo), (.int (13 : Int32)), (.ref b)])) rfl (by rw [hml]; rfl) (argsL := [(.ref b), (.int (13 : Int32)), (.int oo), (.int (Int32.ofNat N)), (.long vz)]) (rest := []) (lenOf (by decide +kernel : parseMethodDescriptor "([BIIIJ)Z" = some ⟨[(.array .byte), .int, .int, .int, .long], some .boolean⟩) rfl) rfl (by show 2 * 0 + _ ≤ _; exact Nat.le_of_eq rfl) (hb hby at_447) (fun _ _ => ⟨rfl, E16, (by dsimp only [Pt.cells]; decide), (by dsimp only [Pt.slots]; decide)⟩)
  dsimp only [Pt.U, Pt.locs, Pt.cells, Pt.slots] at X17 l17 y17 z17 st17 hQ17
  subst l17 y17 z17
  obtain ⟨rfl, N17q, E17⟩ := hQ17
  have N17 := Fr.app N16 N17q
  refine own_st st17 ?_
  show OwnG _ _ _ _ _ _ _ (T17.setTop (mkF m 450 #[.val (.long raw), .second, .val (.int sh), .val (.int off), .val (.long vz), .second, .val (.int oo), .val (.ref b), .val (.int (Int32.ofNat N)), .val (.int (Int32.ofNat (oz + N)))] [(.int (1 : Int32))]))
  refine own_st (fun _ kq_ => XS.ifNo X17.here hx rfl (hb hby at_450) rfl ((if0 _ _).trans (feq (by decide : ¬ ((1 : Int32) = (0 : Int32)))).1) kq_) ?_
  show OwnG _ _ _ _ _ _ _ (T17.setTop (mkF m 453 #[.val (.long raw), .second, .val (.int sh), .val (.int off), .val (.long vz), .second, .val (.int oo), .val (.ref b), .val (.int (Int32.ofNat N)), .val (.int (Int32.ofNat (oz + N)))] []))
  refine own_st (fun _ kq_ => XS.aload X17.here hx rfl (hb hby at_453) rfl rfl kq_) ?_
  show OwnG _ _ _ _ _ _ _ (T17.setTop (mkF m 455 #[.val (.long raw), .second, .val (.int sh), .val (.int off), .val (.long vz), .second, .val (.int oo), .val (.ref b), .val (.int (Int32.ofNat N)), .val (.int (Int32.ofNat (oz + N)))] [(.ref b)]))
  refine own_st (fun _ kq_ => XS.bipush X17.here hx rfl (hb hby at_455) kq_) ?_
  show OwnG _ _ _ _ _ _ _ (T17.setTop (mkF m 457 #[.val (.long raw), .second, .val (.int sh), .val (.int off), .val (.long vz), .second, .val (.int oo), .val (.ref b), .val (.int (Int32.ofNat N)), .val (.int (Int32.ofNat (oz + N)))] [(.int (14 : Int32)), (.ref b)]))
  refine own_st (fun _ kq_ => XS.iload X17.here hx rfl (hb hby at_457) rfl kq_) ?_
  show OwnG _ _ _ _ _ _ _ (T17.setTop (mkF m 459 #[.val (.long raw), .second, .val (.int sh), .val (.int off), .val (.long vz), .second, .val (.int oo), .val (.ref b), .val (.int (Int32.ofNat N)), .val (.int (Int32.ofNat (oz + N)))] [(.int oo), (.int (14 : Int32)), (.ref b)]))
  refine own_st (fun _ kq_ => XS.iload X17.here hx rfl (hb hby at_459) rfl kq_) ?_
  show OwnG _ _ _ _ _ _ _ (T17.setTop (mkF m 461 #[.val (.long raw), .second, .val (.int sh), .val (.int off), .val (.long vz), .second, .val (.int oo), .val (.ref b), .val (.int (Int32.ofNat N)), .val (.int (Int32.ofNat (oz + N)))] [(.int (Int32.ofNat N)), (.int oo), (.int (14 : Int32)), (.ref b)]))
  refine own_st (fun _ kq_ => XS.lload X17.here hx rfl (hb hby at_461) rfl kq_) ?_
  show OwnG _ _ _ _ _ _ _ (T17.setTop (mkF m 463 #[.val (.long raw), .second, .val (.int sh), .val (.int off), .val (.long vz), .second, .val (.int oo), .val (.ref b), .val (.int (Int32.ofNat N)), .val (.int (Int32.ofNat (oz + N)))] [(.long vz), (.int (Int32.ofNat N)), (.int oo), (.int (14 : Int32)), (.ref b)]))
  obtain ⟨_, _, ⟨T18, L18, k18, n18⟩, -, X18, ⟨Lc18, hQ18, l18, y18, z18⟩, st18⟩ := Jvm.LawKit.callS X17 hx (y := (⟨"com/example/posting/posting/index/EncodingPutNumberPinLaw", "cell", "([BIIIJ)Z"⟩ : MethodName)) hown (mvT hZ (hw _ (List.mem_of_getElem? (i := 15) rfl))) (mvT hZ (hw _ (List.mem_of_getElem? (i := 16) rfl))) (mvT hZ (hw _ (List.mem_of_getElem? (i := 17) rfl))) (mvT hZ (hw _ (List.mem_of_getElem? (i := 18) rfl))) (by decide) (backOf (W := 0) (rm2 l Z a0 hw [] b (14 : Int32) oo (Int32.ofNat N) vz u N oz 14 T3.heap n0 S3 hu hN1 hN9 h2 h1 (by decide) (by decide) hoo ho (own_to N (by omega)) V3) hZ (hw _ (List.mem_of_getElem? (i := 18) rfl)) (hw _ (List.mem_of_getElem? (i := 17) rfl)) (by decide) (by decide)) (g := (mkF m 463 #[.val (.long raw), .second, .val (.int sh), .val (.int off), .val (.long vz), .second, .val (.int oo), .val (.ref b), .val (.int (Int32.ofNat N)), .val (.int (Int32.ofNat (oz + N)))] [(.long vz), (.int (Int32.ofNat N)), (.int oo), (.int (14 : Int32)), (.ref b)])) rfl (by rw [hml]; rfl) (argsL := [(.ref b), (.int (14 : Int32)), (.int oo), (.int (Int32.ofNat N)), (.long vz)]) (rest := []) (lenOf (by decide +kernel : parseMethodDescriptor "([BIIIJ)Z" = some ⟨[(.array .byte), .int, .int, .int, .long], some .boolean⟩) rfl) rfl (by show 2 * 0 + _ ≤ _; exact Nat.le_of_eq rfl) (hb hby at_463) (fun _ _ => ⟨rfl, E17, (by dsimp only [Pt.cells]; decide), (by dsimp only [Pt.slots]; decide)⟩)
  dsimp only [Pt.U, Pt.locs, Pt.cells, Pt.slots] at X18 l18 y18 z18 st18 hQ18
  subst l18 y18 z18
  obtain ⟨rfl, N18q, E18⟩ := hQ18
  have N18 := Fr.app N17 N18q
  refine own_st st18 ?_
  show OwnG _ _ _ _ _ _ _ (T18.setTop (mkF m 466 #[.val (.long raw), .second, .val (.int sh), .val (.int off), .val (.long vz), .second, .val (.int oo), .val (.ref b), .val (.int (Int32.ofNat N)), .val (.int (Int32.ofNat (oz + N)))] [(.int (1 : Int32))]))
  refine own_st (fun _ kq_ => XS.ifNo X18.here hx rfl (hb hby at_466) rfl ((if0 _ _).trans (feq (by decide : ¬ ((1 : Int32) = (0 : Int32)))).1) kq_) ?_
  show OwnG _ _ _ _ _ _ _ (T18.setTop (mkF m 469 #[.val (.long raw), .second, .val (.int sh), .val (.int off), .val (.long vz), .second, .val (.int oo), .val (.ref b), .val (.int (Int32.ofNat N)), .val (.int (Int32.ofNat (oz + N)))] []))
  refine own_st (fun _ kq_ => XS.aload X18.here hx rfl (hb hby at_469) rfl rfl kq_) ?_
  show OwnG _ _ _ _ _ _ _ (T18.setTop (mkF m 471 #[.val (.long raw), .second, .val (.int sh), .val (.int off), .val (.long vz), .second, .val (.int oo), .val (.ref b), .val (.int (Int32.ofNat N)), .val (.int (Int32.ofNat (oz + N)))] [(.ref b)]))
  refine own_st (fun _ kq_ => XS.bipush X18.here hx rfl (hb hby at_471) kq_) ?_
  show OwnG _ _ _ _ _ _ _ (T18.setTop (mkF m 473 #[.val (.long raw), .second, .val (.int sh), .val (.int off), .val (.long vz), .second, .val (.int oo), .val (.ref b), .val (.int (Int32.ofNat N)), .val (.int (Int32.ofNat (oz + N)))] [(.int (15 : Int32)), (.ref b)]))
  refine own_st (fun _ kq_ => XS.iload X18.here hx rfl (hb hby at_473) rfl kq_) ?_
  show OwnG _ _ _ _ _ _ _ (T18.setTop (mkF m 475 #[.val (.long raw), .second, .val (.int sh), .val (.int off), .val (.long vz), .second, .val (.int oo), .val (.ref b), .val (.int (Int32.ofNat N)), .val (.int (Int32.ofNat (oz + N)))] [(.int oo), (.int (15 : Int32)), (.ref b)]))
  refine own_st (fun _ kq_ => XS.iload X18.here hx rfl (hb hby at_475) rfl kq_) ?_
  show OwnG _ _ _ _ _ _ _ (T18.setTop (mkF m 477 #[.val (.long raw), .second, .val (.int sh), .val (.int off), .val (.long vz), .second, .val (.int oo), .val (.ref b), .val (.int (Int32.ofNat N)), .val (.int (Int32.ofNat (oz + N)))] [(.int (Int32.ofNat N)), (.int oo), (.int (15 : Int32)), (.ref b)]))
  refine own_st (fun _ kq_ => XS.lload X18.here hx rfl (hb hby at_477) rfl kq_) ?_
  show OwnG _ _ _ _ _ _ _ (T18.setTop (mkF m 479 #[.val (.long raw), .second, .val (.int sh), .val (.int off), .val (.long vz), .second, .val (.int oo), .val (.ref b), .val (.int (Int32.ofNat N)), .val (.int (Int32.ofNat (oz + N)))] [(.long vz), (.int (Int32.ofNat N)), (.int oo), (.int (15 : Int32)), (.ref b)]))
  obtain ⟨_, _, ⟨T19, L19, k19, n19⟩, -, X19, ⟨Lc19, hQ19, l19, y19, z19⟩, st19⟩ := Jvm.LawKit.callS X18 hx (y := (⟨"com/example/posting/posting/index/EncodingPutNumberPinLaw", "cell", "([BIIIJ)Z"⟩ : MethodName)) hown (mvT hZ (hw _ (List.mem_of_getElem? (i := 15) rfl))) (mvT hZ (hw _ (List.mem_of_getElem? (i := 16) rfl))) (mvT hZ (hw _ (List.mem_of_getElem? (i := 17) rfl))) (mvT hZ (hw _ (List.mem_of_getElem? (i := 18) rfl))) (by decide) (backOf (W := 0) (rm2 l Z a0 hw [] b (15 : Int32) oo (Int32.ofNat N) vz u N oz 15 T3.heap n0 S3 hu hN1 hN9 h2 h1 (by decide) (by decide) hoo ho (own_to N (by omega)) V3) hZ (hw _ (List.mem_of_getElem? (i := 18) rfl)) (hw _ (List.mem_of_getElem? (i := 17) rfl)) (by decide) (by decide)) (g := (mkF m 479 #[.val (.long raw), .second, .val (.int sh), .val (.int off), .val (.long vz), .second, .val (.int oo), .val (.ref b), .val (.int (Int32.ofNat N)), .val (.int (Int32.ofNat (oz + N)))] [(.long vz), (.int (Int32.ofNat N)), (.int oo), (.int (15 : Int32)), (.ref b)])) rfl (by rw [hml]; rfl) (argsL := [(.ref b), (.int (15 : Int32)), (.int oo), (.int (Int32.ofNat N)), (.long vz)]) (rest := []) (lenOf (by decide +kernel : parseMethodDescriptor "([BIIIJ)Z" = some ⟨[(.array .byte), .int, .int, .int, .long], some .boolean⟩) rfl) rfl (by show 2 * 0 + _ ≤ _; exact Nat.le_of_eq rfl) (hb hby at_479) (fun _ _ => ⟨rfl, E18, (by dsimp only [Pt.cells]; decide), (by dsimp only [Pt.slots]; decide)⟩)
  dsimp only [Pt.U, Pt.locs, Pt.cells, Pt.slots] at X19 l19 y19 z19 st19 hQ19
  subst l19 y19 z19
  obtain ⟨rfl, N19q, E19⟩ := hQ19
  have N19 := Fr.app N18 N19q
  refine own_st st19 ?_
  show OwnG _ _ _ _ _ _ _ (T19.setTop (mkF m 482 #[.val (.long raw), .second, .val (.int sh), .val (.int off), .val (.long vz), .second, .val (.int oo), .val (.ref b), .val (.int (Int32.ofNat N)), .val (.int (Int32.ofNat (oz + N)))] [(.int (1 : Int32))]))
  refine own_st (fun _ kq_ => XS.ifNo X19.here hx rfl (hb hby at_482) rfl ((if0 _ _).trans (feq (by decide : ¬ ((1 : Int32) = (0 : Int32)))).1) kq_) ?_
  show OwnG _ _ _ _ _ _ _ (T19.setTop (mkF m 485 #[.val (.long raw), .second, .val (.int sh), .val (.int off), .val (.long vz), .second, .val (.int oo), .val (.ref b), .val (.int (Int32.ofNat N)), .val (.int (Int32.ofNat (oz + N)))] []))
  refine own_st (fun _ kq_ => XS.iconst X19.here hx rfl (hb hby at_485) kq_) ?_
  show OwnG _ _ _ _ _ _ _ (T19.setTop (mkF m 486 #[.val (.long raw), .second, .val (.int sh), .val (.int off), .val (.long vz), .second, .val (.int oo), .val (.ref b), .val (.int (Int32.ofNat N)), .val (.int (Int32.ofNat (oz + N)))] [(.int (1 : Int32))]))
  refine own_st (fun _ kq_ => XS.goto X19.here hx rfl (pc0 := 486) (pc' := 490) rfl (hb hby at_486) (by decide) (by decide) kq_) ?_
  show OwnG _ _ _ _ _ _ _ (T19.setTop (mkF m 490 #[.val (.long raw), .second, .val (.int sh), .val (.int off), .val (.long vz), .second, .val (.int oo), .val (.ref b), .val (.int (Int32.ofNat N)), .val (.int (Int32.ofNat (oz + N)))] [(.int (1 : Int32))]))
  exact own_retN X19 hx hrt hlk (t := .boolean) (by simp) (hb hby at_490) (by decide) (by decide) (by show _ ∧ _; first | (rw [E19]; exact ⟨rfl, N19⟩) | exact ⟨rfl, N19⟩)
set_option maxRecDepth 65536 in
set_option maxHeartbeats 40000000 in
theorem own_b200 {p : Program} {l : Launch} {e : Env} {s : State} {m : MethodId} {args : Array Value} {below : List Frame} {meth : Method} {c : Code} {Z : State} {a0 : Array Value} (hx : p.tables.exec = Jvm.exec) (hZ : Z.Warmed39 s.vm) (hw : ∀ d ∈ tables_1, d.before a0 Z = true) (hby : c.code = code) (hml : c.maxLocals = 10) (hown : s.vm.findClass "com/example/posting/posting/index/EncodingPutNumberPinLaw" = some m.cls) (hrt : meth.sig.returnType = ret) (hlk : meth.locks = false) (raw : Int64) (sh off oo : Int32) (vz : Int64) (u : Nat) (hu : vz.toInt = (u : Int)) (N : Nat) (hN1 : 1 ≤ N) (hN9 : N ≤ 9) (h2 : u < 128 ^ N) (h1 : N = 1 ∨ 128 ^ (N - 1) ≤ u) (oz : Nat) (ho : oz ≤ 3) (hoo : oo.toInt = (oz : Int)) (b : Addr) (n0 : Nat) (gb : n0 ≤ b) {hs0 : Heap} {T0 : State} {h0 : Heap} {locs : List Loc} (X0 : Stand p l e room_1 s m args below meth c T0 locs 1 16) (e0 : T0.heap = h0) (N0 : Fr n0 locs) (Z0 : n0 ≤ h0.size) (V0 : Ary Z h0 b .byte 16 (fun _ => .int (-91))) : OwnG 1 16 (Q0 Z raw sh off hs0 n0) p e below s (T0.setTop (mkF m 200 #[.val (.long raw), .second, .val (.int sh), .val (.int off), .val (.long vz), .second, .val (.int oo), .val (.ref b), .val (.int (Int32.ofNat (min N 8))), .unset] [])) := by
  refine own_st (fun _ kq_ => XS.lload X0.here hx rfl (hb hby at_200) rfl kq_) ?_
  show OwnG _ _ _ _ _ _ _ (T0.setTop (mkF m 202 #[.val (.long raw), .second, .val (.int sh), .val (.int off), .val (.long vz), .second, .val (.int oo), .val (.ref b), .val (.int (Int32.ofNat (min N 8))), .unset] [(.long vz)]))
  refine own_st (X0.ldc2Long hx hown (mvT hZ (hw _ (List.mem_of_getElem? (i := 9) rfl))) (g := (mkF m 202 #[.val (.long raw), .second, .val (.int sh), .val (.int off), .val (.long vz), .second, .val (.int oo), .val (.ref b), .val (.int (Int32.ofNat (min N 8))), .unset] [(.long vz)])) rfl (hb hby at_202)) ?_
  show OwnG _ _ _ _ _ _ _ (T0.setTop (mkF m 205 #[.val (.long raw), .second, .val (.int sh), .val (.int off), .val (.long vz), .second, .val (.int oo), .val (.ref b), .val (.int (Int32.ofNat (min N 8))), .unset] [(.long (72057594037927936 : Int64)), (.long vz)]))
  refine own_st (fun _ kq_ => XS.lcmp X0.here hx rfl (hb hby at_205) rfl kq_) ?_
  show OwnG _ _ _ _ _ _ _ (T0.setTop (mkF m 206 #[.val (.long raw), .second, .val (.int sh), .val (.int off), .val (.long vz), .second, .val (.int oo), .val (.ref b), .val (.int (Int32.ofNat (min N 8))), .unset] [(.int (lcmpW vz (72057594037927936 : Int64)))]))
  have hc := own_cmp vz u hu N h2 h1 8 (by decide) (72057594037927936 : Int64) (by decide)
  by_cases hj : N ≤ 8
  · skip
    refine own_st (fun _ kq_ => XS.ifYes X0.here hx rfl (pc0 := 206) (pc' := 212) rfl (hb hby at_206) rfl ((if0 _ _).trans (tlt ((lw_lt _ _).mpr (hc.1 hj))).1) (by decide) (by decide) kq_) ?_
    show OwnG _ _ _ _ _ _ _ (T0.setTop (mkF m 212 #[.val (.long raw), .second, .val (.int sh), .val (.int off), .val (.long vz), .second, .val (.int oo), .val (.ref b), .val (.int (Int32.ofNat (min N 8))), .unset] []))
    have e9 : min N 8 = N := by omega
    rw [e9]
    exact own_b212 hx hZ hw hby hml hown hrt hlk raw sh off oo vz u hu N hN1 hN9 h2 h1 oz ho hoo b n0 gb X0 e0 N0 Z0 V0
  · skip
    refine own_st (fun _ kq_ => XS.ifNo X0.here hx rfl (hb hby at_206) rfl ((if0 _ _).trans (flt (fun q => hc.2 (by omega) ((lw_lt _ _).mp q))).1) kq_) ?_
    show OwnG _ _ _ _ _ _ _ (T0.setTop (mkF m 209 #[.val (.long raw), .second, .val (.int sh), .val (.int off), .val (.long vz), .second, .val (.int oo), .val (.ref b), .val (.int (Int32.ofNat (min N 8))), .unset] []))
    refine own_st (fun _ kq_ => XS.iinc X0.here hx rfl (hb hby at_209) rfl (l' := #[.val (.long raw), .second, .val (.int sh), .val (.int off), .val (.long vz), .second, .val (.int oo), .val (.ref b), .val (.int ((Int32.ofNat (min N 8)) + (1 : Int32))), .unset]) rfl kq_) ?_
    show OwnG _ _ _ _ _ _ _ (T0.setTop (mkF m 212 #[.val (.long raw), .second, .val (.int sh), .val (.int off), .val (.long vz), .second, .val (.int oo), .val (.ref b), .val (.int ((Int32.ofNat (min N 8)) + (1 : Int32))), .unset] []))
    have e9 : Int32.ofNat (min N 8) + (1 : Int32) = (Int32.ofNat N) := by rw [own_one]; congr 1; omega
    rw [e9]
    exact own_b212 hx hZ hw hby hml hown hrt hlk raw sh off oo vz u hu N hN1 hN9 h2 h1 oz ho hoo b n0 gb X0 e0 N0 Z0 V0
set_option maxRecDepth 65536 in
set_option maxHeartbeats 40000000 in
theorem own_b188 {p : Program} {l : Launch} {e : Env} {s : State} {m : MethodId} {args : Array Value} {below : List Frame} {meth : Method} {c : Code} {Z : State} {a0 : Array Value} (hx : p.tables.exec = Jvm.exec) (hZ : Z.Warmed39 s.vm) (hw : ∀ d ∈ tables_1, d.before a0 Z = true) (hby : c.code = code) (hml : c.maxLocals = 10) (hown : s.vm.findClass "com/example/posting/posting/index/EncodingPutNumberPinLaw" = some m.cls) (hrt : meth.sig.returnType = ret) (hlk : meth.locks = false) (raw : Int64) (sh off oo : Int32) (vz : Int64) (u : Nat) (hu : vz.toInt = (u : Int)) (N : Nat) (hN1 : 1 ≤ N) (hN9 : N ≤ 9) (h2 : u < 128 ^ N) (h1 : N = 1 ∨ 128 ^ (N - 1) ≤ u) (oz : Nat) (ho : oz ≤ 3) (hoo : oo.toInt = (oz : Int)) (b : Addr) (n0 : Nat) (gb : n0 ≤ b) {hs0 : Heap} {T0 : State} {h0 : Heap} {locs : List Loc} (X0 : Stand p l e room_1 s m args below meth c T0 locs 1 16) (e0 : T0.heap = h0) (N0 : Fr n0 locs) (Z0 : n0 ≤ h0.size) (V0 : Ary Z h0 b .byte 16 (fun _ => .int (-91))) : OwnG 1 16 (Q0 Z raw sh off hs0 n0) p e below s (T0.setTop (mkF m 188 #[.val (.long raw), .second, .val (.int sh), .val (.int off), .val (.long vz), .second, .val (.int oo), .val (.ref b), .val (.int (Int32.ofNat (min N 7))), .unset] [])) := by
  refine own_st (fun _ kq_ => XS.lload X0.here hx rfl (hb hby at_188) rfl kq_) ?_
  show OwnG _ _ _ _ _ _ _ (T0.setTop (mkF m 190 #[.val (.long raw), .second, .val (.int sh), .val (.int off), .val (.long vz), .second, .val (.int oo), .val (.ref b), .val (.int (Int32.ofNat (min N 7))), .unset] [(.long vz)]))
  refine own_st (X0.ldc2Long hx hown (mvT hZ (hw _ (List.mem_of_getElem? (i := 8) rfl))) (g := (mkF m 190 #[.val (.long raw), .second, .val (.int sh), .val (.int off), .val (.long vz), .second, .val (.int oo), .val (.ref b), .val (.int (Int32.ofNat (min N 7))), .unset] [(.long vz)])) rfl (hb hby at_190)) ?_
  show OwnG _ _ _ _ _ _ _ (T0.setTop (mkF m 193 #[.val (.long raw), .second, .val (.int sh), .val (.int off), .val (.long vz), .second, .val (.int oo), .val (.ref b), .val (.int (Int32.ofNat (min N 7))), .unset] [(.long (562949953421312 : Int64)), (.long vz)]))
  refine own_st (fun _ kq_ => XS.lcmp X0.here hx rfl (hb hby at_193) rfl kq_) ?_
  show OwnG _ _ _ _ _ _ _ (T0.setTop (mkF m 194 #[.val (.long raw), .second, .val (.int sh), .val (.int off), .val (.long vz), .second, .val (.int oo), .val (.ref b), .val (.int (Int32.ofNat (min N 7))), .unset] [(.int (lcmpW vz (562949953421312 : Int64)))]))
  have hc := own_cmp vz u hu N h2 h1 7 (by decide) (562949953421312 : Int64) (by decide)
  by_cases hj : N ≤ 7
  · skip
    refine own_st (fun _ kq_ => XS.ifYes X0.here hx rfl (pc0 := 194) (pc' := 200) rfl (hb hby at_194) rfl ((if0 _ _).trans (tlt ((lw_lt _ _).mpr (hc.1 hj))).1) (by decide) (by decide) kq_) ?_
    show OwnG _ _ _ _ _ _ _ (T0.setTop (mkF m 200 #[.val (.long raw), .second, .val (.int sh), .val (.int off), .val (.long vz), .second, .val (.int oo), .val (.ref b), .val (.int (Int32.ofNat (min N 7))), .unset] []))
    have e9 : min N 7 = min N 8 := by omega
    rw [e9]
    exact own_b200 hx hZ hw hby hml hown hrt hlk raw sh off oo vz u hu N hN1 hN9 h2 h1 oz ho hoo b n0 gb X0 e0 N0 Z0 V0
  · skip
    refine own_st (fun _ kq_ => XS.ifNo X0.here hx rfl (hb hby at_194) rfl ((if0 _ _).trans (flt (fun q => hc.2 (by omega) ((lw_lt _ _).mp q))).1) kq_) ?_
    show OwnG _ _ _ _ _ _ _ (T0.setTop (mkF m 197 #[.val (.long raw), .second, .val (.int sh), .val (.int off), .val (.long vz), .second, .val (.int oo), .val (.ref b), .val (.int (Int32.ofNat (min N 7))), .unset] []))
    refine own_st (fun _ kq_ => XS.iinc X0.here hx rfl (hb hby at_197) rfl (l' := #[.val (.long raw), .second, .val (.int sh), .val (.int off), .val (.long vz), .second, .val (.int oo), .val (.ref b), .val (.int ((Int32.ofNat (min N 7)) + (1 : Int32))), .unset]) rfl kq_) ?_
    show OwnG _ _ _ _ _ _ _ (T0.setTop (mkF m 200 #[.val (.long raw), .second, .val (.int sh), .val (.int off), .val (.long vz), .second, .val (.int oo), .val (.ref b), .val (.int ((Int32.ofNat (min N 7)) + (1 : Int32))), .unset] []))
    have e9 : Int32.ofNat (min N 7) + (1 : Int32) = Int32.ofNat (min N 8) := by rw [own_one]; congr 1; omega
    rw [e9]
    exact own_b200 hx hZ hw hby hml hown hrt hlk raw sh off oo vz u hu N hN1 hN9 h2 h1 oz ho hoo b n0 gb X0 e0 N0 Z0 V0
set_option maxRecDepth 65536 in
set_option maxHeartbeats 40000000 in
theorem own_b176 {p : Program} {l : Launch} {e : Env} {s : State} {m : MethodId} {args : Array Value} {below : List Frame} {meth : Method} {c : Code} {Z : State} {a0 : Array Value} (hx : p.tables.exec = Jvm.exec) (hZ : Z.Warmed39 s.vm) (hw : ∀ d ∈ tables_1, d.before a0 Z = true) (hby : c.code = code) (hml : c.maxLocals = 10) (hown : s.vm.findClass "com/example/posting/posting/index/EncodingPutNumberPinLaw" = some m.cls) (hrt : meth.sig.returnType = ret) (hlk : meth.locks = false) (raw : Int64) (sh off oo : Int32) (vz : Int64) (u : Nat) (hu : vz.toInt = (u : Int)) (N : Nat) (hN1 : 1 ≤ N) (hN9 : N ≤ 9) (h2 : u < 128 ^ N) (h1 : N = 1 ∨ 128 ^ (N - 1) ≤ u) (oz : Nat) (ho : oz ≤ 3) (hoo : oo.toInt = (oz : Int)) (b : Addr) (n0 : Nat) (gb : n0 ≤ b) {hs0 : Heap} {T0 : State} {h0 : Heap} {locs : List Loc} (X0 : Stand p l e room_1 s m args below meth c T0 locs 1 16) (e0 : T0.heap = h0) (N0 : Fr n0 locs) (Z0 : n0 ≤ h0.size) (V0 : Ary Z h0 b .byte 16 (fun _ => .int (-91))) : OwnG 1 16 (Q0 Z raw sh off hs0 n0) p e below s (T0.setTop (mkF m 176 #[.val (.long raw), .second, .val (.int sh), .val (.int off), .val (.long vz), .second, .val (.int oo), .val (.ref b), .val (.int (Int32.ofNat (min N 6))), .unset] [])) := by
  refine own_st (fun _ kq_ => XS.lload X0.here hx rfl (hb hby at_176) rfl kq_) ?_
  show OwnG _ _ _ _ _ _ _ (T0.setTop (mkF m 178 #[.val (.long raw), .second, .val (.int sh), .val (.int off), .val (.long vz), .second, .val (.int oo), .val (.ref b), .val (.int (Int32.ofNat (min N 6))), .unset] [(.long vz)]))
  refine own_st (X0.ldc2Long hx hown (mvT hZ (hw _ (List.mem_of_getElem? (i := 7) rfl))) (g := (mkF m 178 #[.val (.long raw), .second, .val (.int sh), .val (.int off), .val (.long vz), .second, .val (.int oo), .val (.ref b), .val (.int (Int32.ofNat (min N 6))), .unset] [(.long vz)])) rfl (hb hby at_178)) ?_
  show OwnG _ _ _ _ _ _ _ (T0.setTop (mkF m 181 #[.val (.long raw), .second, .val (.int sh), .val (.int off), .val (.long vz), .second, .val (.int oo), .val (.ref b), .val (.int (Int32.ofNat (min N 6))), .unset] [(.long (4398046511104 : Int64)), (.long vz)]))
  refine own_st (fun _ kq_ => XS.lcmp X0.here hx rfl (hb hby at_181) rfl kq_) ?_
  show OwnG _ _ _ _ _ _ _ (T0.setTop (mkF m 182 #[.val (.long raw), .second, .val (.int sh), .val (.int off), .val (.long vz), .second, .val (.int oo), .val (.ref b), .val (.int (Int32.ofNat (min N 6))), .unset] [(.int (lcmpW vz (4398046511104 : Int64)))]))
  have hc := own_cmp vz u hu N h2 h1 6 (by decide) (4398046511104 : Int64) (by decide)
  by_cases hj : N ≤ 6
  · skip
    refine own_st (fun _ kq_ => XS.ifYes X0.here hx rfl (pc0 := 182) (pc' := 188) rfl (hb hby at_182) rfl ((if0 _ _).trans (tlt ((lw_lt _ _).mpr (hc.1 hj))).1) (by decide) (by decide) kq_) ?_
    show OwnG _ _ _ _ _ _ _ (T0.setTop (mkF m 188 #[.val (.long raw), .second, .val (.int sh), .val (.int off), .val (.long vz), .second, .val (.int oo), .val (.ref b), .val (.int (Int32.ofNat (min N 6))), .unset] []))
    have e9 : min N 6 = min N 7 := by omega
    rw [e9]
    exact own_b188 hx hZ hw hby hml hown hrt hlk raw sh off oo vz u hu N hN1 hN9 h2 h1 oz ho hoo b n0 gb X0 e0 N0 Z0 V0
  · skip
    refine own_st (fun _ kq_ => XS.ifNo X0.here hx rfl (hb hby at_182) rfl ((if0 _ _).trans (flt (fun q => hc.2 (by omega) ((lw_lt _ _).mp q))).1) kq_) ?_
    show OwnG _ _ _ _ _ _ _ (T0.setTop (mkF m 185 #[.val (.long raw), .second, .val (.int sh), .val (.int off), .val (.long vz), .second, .val (.int oo), .val (.ref b), .val (.int (Int32.ofNat (min N 6))), .unset] []))
    refine own_st (fun _ kq_ => XS.iinc X0.here hx rfl (hb hby at_185) rfl (l' := #[.val (.long raw), .second, .val (.int sh), .val (.int off), .val (.long vz), .second, .val (.int oo), .val (.ref b), .val (.int ((Int32.ofNat (min N 6)) + (1 : Int32))), .unset]) rfl kq_) ?_
    show OwnG _ _ _ _ _ _ _ (T0.setTop (mkF m 188 #[.val (.long raw), .second, .val (.int sh), .val (.int off), .val (.long vz), .second, .val (.int oo), .val (.ref b), .val (.int ((Int32.ofNat (min N 6)) + (1 : Int32))), .unset] []))
    have e9 : Int32.ofNat (min N 6) + (1 : Int32) = Int32.ofNat (min N 7) := by rw [own_one]; congr 1; omega
    rw [e9]
    exact own_b188 hx hZ hw hby hml hown hrt hlk raw sh off oo vz u hu N hN1 hN9 h2 h1 oz ho hoo b n0 gb X0 e0 N0 Z0 V0
set_option maxRecDepth 65536 in
set_option maxHeartbeats 40000000 in
theorem own_b164 {p : Program} {l : Launch} {e : Env} {s : State} {m : MethodId} {args : Array Value} {below : List Frame} {meth : Method} {c : Code} {Z : State} {a0 : Array Value} (hx : p.tables.exec = Jvm.exec) (hZ : Z.Warmed39 s.vm) (hw : ∀ d ∈ tables_1, d.before a0 Z = true) (hby : c.code = code) (hml : c.maxLocals = 10) (hown : s.vm.findClass "com/example/posting/posting/index/EncodingPutNumberPinLaw" = some m.cls) (hrt : meth.sig.returnType = ret) (hlk : meth.locks = false) (raw : Int64) (sh off oo : Int32) (vz : Int64) (u : Nat) (hu : vz.toInt = (u : Int)) (N : Nat) (hN1 : 1 ≤ N) (hN9 : N ≤ 9) (h2 : u < 128 ^ N) (h1 : N = 1 ∨ 128 ^ (N - 1) ≤ u) (oz : Nat) (ho : oz ≤ 3) (hoo : oo.toInt = (oz : Int)) (b : Addr) (n0 : Nat) (gb : n0 ≤ b) {hs0 : Heap} {T0 : State} {h0 : Heap} {locs : List Loc} (X0 : Stand p l e room_1 s m args below meth c T0 locs 1 16) (e0 : T0.heap = h0) (N0 : Fr n0 locs) (Z0 : n0 ≤ h0.size) (V0 : Ary Z h0 b .byte 16 (fun _ => .int (-91))) : OwnG 1 16 (Q0 Z raw sh off hs0 n0) p e below s (T0.setTop (mkF m 164 #[.val (.long raw), .second, .val (.int sh), .val (.int off), .val (.long vz), .second, .val (.int oo), .val (.ref b), .val (.int (Int32.ofNat (min N 5))), .unset] [])) := by
  refine own_st (fun _ kq_ => XS.lload X0.here hx rfl (hb hby at_164) rfl kq_) ?_
  show OwnG _ _ _ _ _ _ _ (T0.setTop (mkF m 166 #[.val (.long raw), .second, .val (.int sh), .val (.int off), .val (.long vz), .second, .val (.int oo), .val (.ref b), .val (.int (Int32.ofNat (min N 5))), .unset] [(.long vz)]))
  refine own_st (X0.ldc2Long hx hown (mvT hZ (hw _ (List.mem_of_getElem? (i := 6) rfl))) (g := (mkF m 166 #[.val (.long raw), .second, .val (.int sh), .val (.int off), .val (.long vz), .second, .val (.int oo), .val (.ref b), .val (.int (Int32.ofNat (min N 5))), .unset] [(.long vz)])) rfl (hb hby at_166)) ?_
  show OwnG _ _ _ _ _ _ _ (T0.setTop (mkF m 169 #[.val (.long raw), .second, .val (.int sh), .val (.int off), .val (.long vz), .second, .val (.int oo), .val (.ref b), .val (.int (Int32.ofNat (min N 5))), .unset] [(.long (34359738368 : Int64)), (.long vz)]))
  refine own_st (fun _ kq_ => XS.lcmp X0.here hx rfl (hb hby at_169) rfl kq_) ?_
  show OwnG _ _ _ _ _ _ _ (T0.setTop (mkF m 170 #[.val (.long raw), .second, .val (.int sh), .val (.int off), .val (.long vz), .second, .val (.int oo), .val (.ref b), .val (.int (Int32.ofNat (min N 5))), .unset] [(.int (lcmpW vz (34359738368 : Int64)))]))
  have hc := own_cmp vz u hu N h2 h1 5 (by decide) (34359738368 : Int64) (by decide)
  by_cases hj : N ≤ 5
  · skip
    refine own_st (fun _ kq_ => XS.ifYes X0.here hx rfl (pc0 := 170) (pc' := 176) rfl (hb hby at_170) rfl ((if0 _ _).trans (tlt ((lw_lt _ _).mpr (hc.1 hj))).1) (by decide) (by decide) kq_) ?_
    show OwnG _ _ _ _ _ _ _ (T0.setTop (mkF m 176 #[.val (.long raw), .second, .val (.int sh), .val (.int off), .val (.long vz), .second, .val (.int oo), .val (.ref b), .val (.int (Int32.ofNat (min N 5))), .unset] []))
    have e9 : min N 5 = min N 6 := by omega
    rw [e9]
    exact own_b176 hx hZ hw hby hml hown hrt hlk raw sh off oo vz u hu N hN1 hN9 h2 h1 oz ho hoo b n0 gb X0 e0 N0 Z0 V0
  · skip
    refine own_st (fun _ kq_ => XS.ifNo X0.here hx rfl (hb hby at_170) rfl ((if0 _ _).trans (flt (fun q => hc.2 (by omega) ((lw_lt _ _).mp q))).1) kq_) ?_
    show OwnG _ _ _ _ _ _ _ (T0.setTop (mkF m 173 #[.val (.long raw), .second, .val (.int sh), .val (.int off), .val (.long vz), .second, .val (.int oo), .val (.ref b), .val (.int (Int32.ofNat (min N 5))), .unset] []))
    refine own_st (fun _ kq_ => XS.iinc X0.here hx rfl (hb hby at_173) rfl (l' := #[.val (.long raw), .second, .val (.int sh), .val (.int off), .val (.long vz), .second, .val (.int oo), .val (.ref b), .val (.int ((Int32.ofNat (min N 5)) + (1 : Int32))), .unset]) rfl kq_) ?_
    show OwnG _ _ _ _ _ _ _ (T0.setTop (mkF m 176 #[.val (.long raw), .second, .val (.int sh), .val (.int off), .val (.long vz), .second, .val (.int oo), .val (.ref b), .val (.int ((Int32.ofNat (min N 5)) + (1 : Int32))), .unset] []))
    have e9 : Int32.ofNat (min N 5) + (1 : Int32) = Int32.ofNat (min N 6) := by rw [own_one]; congr 1; omega
    rw [e9]
    exact own_b176 hx hZ hw hby hml hown hrt hlk raw sh off oo vz u hu N hN1 hN9 h2 h1 oz ho hoo b n0 gb X0 e0 N0 Z0 V0
set_option maxRecDepth 65536 in
set_option maxHeartbeats 40000000 in
theorem own_b152 {p : Program} {l : Launch} {e : Env} {s : State} {m : MethodId} {args : Array Value} {below : List Frame} {meth : Method} {c : Code} {Z : State} {a0 : Array Value} (hx : p.tables.exec = Jvm.exec) (hZ : Z.Warmed39 s.vm) (hw : ∀ d ∈ tables_1, d.before a0 Z = true) (hby : c.code = code) (hml : c.maxLocals = 10) (hown : s.vm.findClass "com/example/posting/posting/index/EncodingPutNumberPinLaw" = some m.cls) (hrt : meth.sig.returnType = ret) (hlk : meth.locks = false) (raw : Int64) (sh off oo : Int32) (vz : Int64) (u : Nat) (hu : vz.toInt = (u : Int)) (N : Nat) (hN1 : 1 ≤ N) (hN9 : N ≤ 9) (h2 : u < 128 ^ N) (h1 : N = 1 ∨ 128 ^ (N - 1) ≤ u) (oz : Nat) (ho : oz ≤ 3) (hoo : oo.toInt = (oz : Int)) (b : Addr) (n0 : Nat) (gb : n0 ≤ b) {hs0 : Heap} {T0 : State} {h0 : Heap} {locs : List Loc} (X0 : Stand p l e room_1 s m args below meth c T0 locs 1 16) (e0 : T0.heap = h0) (N0 : Fr n0 locs) (Z0 : n0 ≤ h0.size) (V0 : Ary Z h0 b .byte 16 (fun _ => .int (-91))) : OwnG 1 16 (Q0 Z raw sh off hs0 n0) p e below s (T0.setTop (mkF m 152 #[.val (.long raw), .second, .val (.int sh), .val (.int off), .val (.long vz), .second, .val (.int oo), .val (.ref b), .val (.int (Int32.ofNat (min N 4))), .unset] [])) := by
  refine own_st (fun _ kq_ => XS.lload X0.here hx rfl (hb hby at_152) rfl kq_) ?_
  show OwnG _ _ _ _ _ _ _ (T0.setTop (mkF m 154 #[.val (.long raw), .second, .val (.int sh), .val (.int off), .val (.long vz), .second, .val (.int oo), .val (.ref b), .val (.int (Int32.ofNat (min N 4))), .unset] [(.long vz)]))
  refine own_st (X0.ldc2Long hx hown (mvT hZ (hw _ (List.mem_of_getElem? (i := 5) rfl))) (g := (mkF m 154 #[.val (.long raw), .second, .val (.int sh), .val (.int off), .val (.long vz), .second, .val (.int oo), .val (.ref b), .val (.int (Int32.ofNat (min N 4))), .unset] [(.long vz)])) rfl (hb hby at_154)) ?_
  show OwnG _ _ _ _ _ _ _ (T0.setTop (mkF m 157 #[.val (.long raw), .second, .val (.int sh), .val (.int off), .val (.long vz), .second, .val (.int oo), .val (.ref b), .val (.int (Int32.ofNat (min N 4))), .unset] [(.long (268435456 : Int64)), (.long vz)]))
  refine own_st (fun _ kq_ => XS.lcmp X0.here hx rfl (hb hby at_157) rfl kq_) ?_
  show OwnG _ _ _ _ _ _ _ (T0.setTop (mkF m 158 #[.val (.long raw), .second, .val (.int sh), .val (.int off), .val (.long vz), .second, .val (.int oo), .val (.ref b), .val (.int (Int32.ofNat (min N 4))), .unset] [(.int (lcmpW vz (268435456 : Int64)))]))
  have hc := own_cmp vz u hu N h2 h1 4 (by decide) (268435456 : Int64) (by decide)
  by_cases hj : N ≤ 4
  · skip
    refine own_st (fun _ kq_ => XS.ifYes X0.here hx rfl (pc0 := 158) (pc' := 164) rfl (hb hby at_158) rfl ((if0 _ _).trans (tlt ((lw_lt _ _).mpr (hc.1 hj))).1) (by decide) (by decide) kq_) ?_
    show OwnG _ _ _ _ _ _ _ (T0.setTop (mkF m 164 #[.val (.long raw), .second, .val (.int sh), .val (.int off), .val (.long vz), .second, .val (.int oo), .val (.ref b), .val (.int (Int32.ofNat (min N 4))), .unset] []))
    have e9 : min N 4 = min N 5 := by omega
    rw [e9]
    exact own_b164 hx hZ hw hby hml hown hrt hlk raw sh off oo vz u hu N hN1 hN9 h2 h1 oz ho hoo b n0 gb X0 e0 N0 Z0 V0
  · skip
    refine own_st (fun _ kq_ => XS.ifNo X0.here hx rfl (hb hby at_158) rfl ((if0 _ _).trans (flt (fun q => hc.2 (by omega) ((lw_lt _ _).mp q))).1) kq_) ?_
    show OwnG _ _ _ _ _ _ _ (T0.setTop (mkF m 161 #[.val (.long raw), .second, .val (.int sh), .val (.int off), .val (.long vz), .second, .val (.int oo), .val (.ref b), .val (.int (Int32.ofNat (min N 4))), .unset] []))
    refine own_st (fun _ kq_ => XS.iinc X0.here hx rfl (hb hby at_161) rfl (l' := #[.val (.long raw), .second, .val (.int sh), .val (.int off), .val (.long vz), .second, .val (.int oo), .val (.ref b), .val (.int ((Int32.ofNat (min N 4)) + (1 : Int32))), .unset]) rfl kq_) ?_
    show OwnG _ _ _ _ _ _ _ (T0.setTop (mkF m 164 #[.val (.long raw), .second, .val (.int sh), .val (.int off), .val (.long vz), .second, .val (.int oo), .val (.ref b), .val (.int ((Int32.ofNat (min N 4)) + (1 : Int32))), .unset] []))
    have e9 : Int32.ofNat (min N 4) + (1 : Int32) = Int32.ofNat (min N 5) := by rw [own_one]; congr 1; omega
    rw [e9]
    exact own_b164 hx hZ hw hby hml hown hrt hlk raw sh off oo vz u hu N hN1 hN9 h2 h1 oz ho hoo b n0 gb X0 e0 N0 Z0 V0
set_option maxRecDepth 65536 in
set_option maxHeartbeats 40000000 in
theorem own_b140 {p : Program} {l : Launch} {e : Env} {s : State} {m : MethodId} {args : Array Value} {below : List Frame} {meth : Method} {c : Code} {Z : State} {a0 : Array Value} (hx : p.tables.exec = Jvm.exec) (hZ : Z.Warmed39 s.vm) (hw : ∀ d ∈ tables_1, d.before a0 Z = true) (hby : c.code = code) (hml : c.maxLocals = 10) (hown : s.vm.findClass "com/example/posting/posting/index/EncodingPutNumberPinLaw" = some m.cls) (hrt : meth.sig.returnType = ret) (hlk : meth.locks = false) (raw : Int64) (sh off oo : Int32) (vz : Int64) (u : Nat) (hu : vz.toInt = (u : Int)) (N : Nat) (hN1 : 1 ≤ N) (hN9 : N ≤ 9) (h2 : u < 128 ^ N) (h1 : N = 1 ∨ 128 ^ (N - 1) ≤ u) (oz : Nat) (ho : oz ≤ 3) (hoo : oo.toInt = (oz : Int)) (b : Addr) (n0 : Nat) (gb : n0 ≤ b) {hs0 : Heap} {T0 : State} {h0 : Heap} {locs : List Loc} (X0 : Stand p l e room_1 s m args below meth c T0 locs 1 16) (e0 : T0.heap = h0) (N0 : Fr n0 locs) (Z0 : n0 ≤ h0.size) (V0 : Ary Z h0 b .byte 16 (fun _ => .int (-91))) : OwnG 1 16 (Q0 Z raw sh off hs0 n0) p e below s (T0.setTop (mkF m 140 #[.val (.long raw), .second, .val (.int sh), .val (.int off), .val (.long vz), .second, .val (.int oo), .val (.ref b), .val (.int (Int32.ofNat (min N 3))), .unset] [])) := by
  refine own_st (fun _ kq_ => XS.lload X0.here hx rfl (hb hby at_140) rfl kq_) ?_
  show OwnG _ _ _ _ _ _ _ (T0.setTop (mkF m 142 #[.val (.long raw), .second, .val (.int sh), .val (.int off), .val (.long vz), .second, .val (.int oo), .val (.ref b), .val (.int (Int32.ofNat (min N 3))), .unset] [(.long vz)]))
  refine own_st (X0.ldc2Long hx hown (mvT hZ (hw _ (List.mem_of_getElem? (i := 4) rfl))) (g := (mkF m 142 #[.val (.long raw), .second, .val (.int sh), .val (.int off), .val (.long vz), .second, .val (.int oo), .val (.ref b), .val (.int (Int32.ofNat (min N 3))), .unset] [(.long vz)])) rfl (hb hby at_142)) ?_
  show OwnG _ _ _ _ _ _ _ (T0.setTop (mkF m 145 #[.val (.long raw), .second, .val (.int sh), .val (.int off), .val (.long vz), .second, .val (.int oo), .val (.ref b), .val (.int (Int32.ofNat (min N 3))), .unset] [(.long (2097152 : Int64)), (.long vz)]))
  refine own_st (fun _ kq_ => XS.lcmp X0.here hx rfl (hb hby at_145) rfl kq_) ?_
  show OwnG _ _ _ _ _ _ _ (T0.setTop (mkF m 146 #[.val (.long raw), .second, .val (.int sh), .val (.int off), .val (.long vz), .second, .val (.int oo), .val (.ref b), .val (.int (Int32.ofNat (min N 3))), .unset] [(.int (lcmpW vz (2097152 : Int64)))]))
  have hc := own_cmp vz u hu N h2 h1 3 (by decide) (2097152 : Int64) (by decide)
  by_cases hj : N ≤ 3
  · skip
    refine own_st (fun _ kq_ => XS.ifYes X0.here hx rfl (pc0 := 146) (pc' := 152) rfl (hb hby at_146) rfl ((if0 _ _).trans (tlt ((lw_lt _ _).mpr (hc.1 hj))).1) (by decide) (by decide) kq_) ?_
    show OwnG _ _ _ _ _ _ _ (T0.setTop (mkF m 152 #[.val (.long raw), .second, .val (.int sh), .val (.int off), .val (.long vz), .second, .val (.int oo), .val (.ref b), .val (.int (Int32.ofNat (min N 3))), .unset] []))
    have e9 : min N 3 = min N 4 := by omega
    rw [e9]
    exact own_b152 hx hZ hw hby hml hown hrt hlk raw sh off oo vz u hu N hN1 hN9 h2 h1 oz ho hoo b n0 gb X0 e0 N0 Z0 V0
  · skip
    refine own_st (fun _ kq_ => XS.ifNo X0.here hx rfl (hb hby at_146) rfl ((if0 _ _).trans (flt (fun q => hc.2 (by omega) ((lw_lt _ _).mp q))).1) kq_) ?_
    show OwnG _ _ _ _ _ _ _ (T0.setTop (mkF m 149 #[.val (.long raw), .second, .val (.int sh), .val (.int off), .val (.long vz), .second, .val (.int oo), .val (.ref b), .val (.int (Int32.ofNat (min N 3))), .unset] []))
    refine own_st (fun _ kq_ => XS.iinc X0.here hx rfl (hb hby at_149) rfl (l' := #[.val (.long raw), .second, .val (.int sh), .val (.int off), .val (.long vz), .second, .val (.int oo), .val (.ref b), .val (.int ((Int32.ofNat (min N 3)) + (1 : Int32))), .unset]) rfl kq_) ?_
    show OwnG _ _ _ _ _ _ _ (T0.setTop (mkF m 152 #[.val (.long raw), .second, .val (.int sh), .val (.int off), .val (.long vz), .second, .val (.int oo), .val (.ref b), .val (.int ((Int32.ofNat (min N 3)) + (1 : Int32))), .unset] []))
    have e9 : Int32.ofNat (min N 3) + (1 : Int32) = Int32.ofNat (min N 4) := by rw [own_one]; congr 1; omega
    rw [e9]
    exact own_b152 hx hZ hw hby hml hown hrt hlk raw sh off oo vz u hu N hN1 hN9 h2 h1 oz ho hoo b n0 gb X0 e0 N0 Z0 V0
set_option maxRecDepth 65536 in
set_option maxHeartbeats 40000000 in
theorem own_b128 {p : Program} {l : Launch} {e : Env} {s : State} {m : MethodId} {args : Array Value} {below : List Frame} {meth : Method} {c : Code} {Z : State} {a0 : Array Value} (hx : p.tables.exec = Jvm.exec) (hZ : Z.Warmed39 s.vm) (hw : ∀ d ∈ tables_1, d.before a0 Z = true) (hby : c.code = code) (hml : c.maxLocals = 10) (hown : s.vm.findClass "com/example/posting/posting/index/EncodingPutNumberPinLaw" = some m.cls) (hrt : meth.sig.returnType = ret) (hlk : meth.locks = false) (raw : Int64) (sh off oo : Int32) (vz : Int64) (u : Nat) (hu : vz.toInt = (u : Int)) (N : Nat) (hN1 : 1 ≤ N) (hN9 : N ≤ 9) (h2 : u < 128 ^ N) (h1 : N = 1 ∨ 128 ^ (N - 1) ≤ u) (oz : Nat) (ho : oz ≤ 3) (hoo : oo.toInt = (oz : Int)) (b : Addr) (n0 : Nat) (gb : n0 ≤ b) {hs0 : Heap} {T0 : State} {h0 : Heap} {locs : List Loc} (X0 : Stand p l e room_1 s m args below meth c T0 locs 1 16) (e0 : T0.heap = h0) (N0 : Fr n0 locs) (Z0 : n0 ≤ h0.size) (V0 : Ary Z h0 b .byte 16 (fun _ => .int (-91))) : OwnG 1 16 (Q0 Z raw sh off hs0 n0) p e below s (T0.setTop (mkF m 128 #[.val (.long raw), .second, .val (.int sh), .val (.int off), .val (.long vz), .second, .val (.int oo), .val (.ref b), .val (.int (Int32.ofNat (min N 2))), .unset] [])) := by
  refine own_st (fun _ kq_ => XS.lload X0.here hx rfl (hb hby at_128) rfl kq_) ?_
  show OwnG _ _ _ _ _ _ _ (T0.setTop (mkF m 130 #[.val (.long raw), .second, .val (.int sh), .val (.int off), .val (.long vz), .second, .val (.int oo), .val (.ref b), .val (.int (Int32.ofNat (min N 2))), .unset] [(.long vz)]))
  refine own_st (X0.ldc2Long hx hown (mvT hZ (hw _ (List.mem_of_getElem? (i := 3) rfl))) (g := (mkF m 130 #[.val (.long raw), .second, .val (.int sh), .val (.int off), .val (.long vz), .second, .val (.int oo), .val (.ref b), .val (.int (Int32.ofNat (min N 2))), .unset] [(.long vz)])) rfl (hb hby at_130)) ?_
  show OwnG _ _ _ _ _ _ _ (T0.setTop (mkF m 133 #[.val (.long raw), .second, .val (.int sh), .val (.int off), .val (.long vz), .second, .val (.int oo), .val (.ref b), .val (.int (Int32.ofNat (min N 2))), .unset] [(.long (16384 : Int64)), (.long vz)]))
  refine own_st (fun _ kq_ => XS.lcmp X0.here hx rfl (hb hby at_133) rfl kq_) ?_
  show OwnG _ _ _ _ _ _ _ (T0.setTop (mkF m 134 #[.val (.long raw), .second, .val (.int sh), .val (.int off), .val (.long vz), .second, .val (.int oo), .val (.ref b), .val (.int (Int32.ofNat (min N 2))), .unset] [(.int (lcmpW vz (16384 : Int64)))]))
  have hc := own_cmp vz u hu N h2 h1 2 (by decide) (16384 : Int64) (by decide)
  by_cases hj : N ≤ 2
  · skip
    refine own_st (fun _ kq_ => XS.ifYes X0.here hx rfl (pc0 := 134) (pc' := 140) rfl (hb hby at_134) rfl ((if0 _ _).trans (tlt ((lw_lt _ _).mpr (hc.1 hj))).1) (by decide) (by decide) kq_) ?_
    show OwnG _ _ _ _ _ _ _ (T0.setTop (mkF m 140 #[.val (.long raw), .second, .val (.int sh), .val (.int off), .val (.long vz), .second, .val (.int oo), .val (.ref b), .val (.int (Int32.ofNat (min N 2))), .unset] []))
    have e9 : min N 2 = min N 3 := by omega
    rw [e9]
    exact own_b140 hx hZ hw hby hml hown hrt hlk raw sh off oo vz u hu N hN1 hN9 h2 h1 oz ho hoo b n0 gb X0 e0 N0 Z0 V0
  · skip
    refine own_st (fun _ kq_ => XS.ifNo X0.here hx rfl (hb hby at_134) rfl ((if0 _ _).trans (flt (fun q => hc.2 (by omega) ((lw_lt _ _).mp q))).1) kq_) ?_
    show OwnG _ _ _ _ _ _ _ (T0.setTop (mkF m 137 #[.val (.long raw), .second, .val (.int sh), .val (.int off), .val (.long vz), .second, .val (.int oo), .val (.ref b), .val (.int (Int32.ofNat (min N 2))), .unset] []))
    refine own_st (fun _ kq_ => XS.iinc X0.here hx rfl (hb hby at_137) rfl (l' := #[.val (.long raw), .second, .val (.int sh), .val (.int off), .val (.long vz), .second, .val (.int oo), .val (.ref b), .val (.int ((Int32.ofNat (min N 2)) + (1 : Int32))), .unset]) rfl kq_) ?_
    show OwnG _ _ _ _ _ _ _ (T0.setTop (mkF m 140 #[.val (.long raw), .second, .val (.int sh), .val (.int off), .val (.long vz), .second, .val (.int oo), .val (.ref b), .val (.int ((Int32.ofNat (min N 2)) + (1 : Int32))), .unset] []))
    have e9 : Int32.ofNat (min N 2) + (1 : Int32) = Int32.ofNat (min N 3) := by rw [own_one]; congr 1; omega
    rw [e9]
    exact own_b140 hx hZ hw hby hml hown hrt hlk raw sh off oo vz u hu N hN1 hN9 h2 h1 oz ho hoo b n0 gb X0 e0 N0 Z0 V0
set_option maxRecDepth 65536 in
set_option maxHeartbeats 40000000 in
theorem own_b116 {p : Program} {l : Launch} {e : Env} {s : State} {m : MethodId} {args : Array Value} {below : List Frame} {meth : Method} {c : Code} {Z : State} {a0 : Array Value} (hx : p.tables.exec = Jvm.exec) (hZ : Z.Warmed39 s.vm) (hw : ∀ d ∈ tables_1, d.before a0 Z = true) (hby : c.code = code) (hml : c.maxLocals = 10) (hown : s.vm.findClass "com/example/posting/posting/index/EncodingPutNumberPinLaw" = some m.cls) (hrt : meth.sig.returnType = ret) (hlk : meth.locks = false) (raw : Int64) (sh off oo : Int32) (vz : Int64) (u : Nat) (hu : vz.toInt = (u : Int)) (N : Nat) (hN1 : 1 ≤ N) (hN9 : N ≤ 9) (h2 : u < 128 ^ N) (h1 : N = 1 ∨ 128 ^ (N - 1) ≤ u) (oz : Nat) (ho : oz ≤ 3) (hoo : oo.toInt = (oz : Int)) (b : Addr) (n0 : Nat) (gb : n0 ≤ b) {hs0 : Heap} {T0 : State} {h0 : Heap} {locs : List Loc} (X0 : Stand p l e room_1 s m args below meth c T0 locs 1 16) (e0 : T0.heap = h0) (N0 : Fr n0 locs) (Z0 : n0 ≤ h0.size) (V0 : Ary Z h0 b .byte 16 (fun _ => .int (-91))) : OwnG 1 16 (Q0 Z raw sh off hs0 n0) p e below s (T0.setTop (mkF m 116 #[.val (.long raw), .second, .val (.int sh), .val (.int off), .val (.long vz), .second, .val (.int oo), .val (.ref b), .val (.int (Int32.ofNat (min N 1))), .unset] [])) := by
  refine own_st (fun _ kq_ => XS.lload X0.here hx rfl (hb hby at_116) rfl kq_) ?_
  show OwnG _ _ _ _ _ _ _ (T0.setTop (mkF m 118 #[.val (.long raw), .second, .val (.int sh), .val (.int off), .val (.long vz), .second, .val (.int oo), .val (.ref b), .val (.int (Int32.ofNat (min N 1))), .unset] [(.long vz)]))
  refine own_st (X0.ldc2Long hx hown (mvT hZ (hw _ (List.mem_of_getElem? (i := 2) rfl))) (g := (mkF m 118 #[.val (.long raw), .second, .val (.int sh), .val (.int off), .val (.long vz), .second, .val (.int oo), .val (.ref b), .val (.int (Int32.ofNat (min N 1))), .unset] [(.long vz)])) rfl (hb hby at_118)) ?_
  show OwnG _ _ _ _ _ _ _ (T0.setTop (mkF m 121 #[.val (.long raw), .second, .val (.int sh), .val (.int off), .val (.long vz), .second, .val (.int oo), .val (.ref b), .val (.int (Int32.ofNat (min N 1))), .unset] [(.long (128 : Int64)), (.long vz)]))
  refine own_st (fun _ kq_ => XS.lcmp X0.here hx rfl (hb hby at_121) rfl kq_) ?_
  show OwnG _ _ _ _ _ _ _ (T0.setTop (mkF m 122 #[.val (.long raw), .second, .val (.int sh), .val (.int off), .val (.long vz), .second, .val (.int oo), .val (.ref b), .val (.int (Int32.ofNat (min N 1))), .unset] [(.int (lcmpW vz (128 : Int64)))]))
  have hc := own_cmp vz u hu N h2 h1 1 (by decide) (128 : Int64) (by decide)
  by_cases hj : N ≤ 1
  · skip
    refine own_st (fun _ kq_ => XS.ifYes X0.here hx rfl (pc0 := 122) (pc' := 128) rfl (hb hby at_122) rfl ((if0 _ _).trans (tlt ((lw_lt _ _).mpr (hc.1 hj))).1) (by decide) (by decide) kq_) ?_
    show OwnG _ _ _ _ _ _ _ (T0.setTop (mkF m 128 #[.val (.long raw), .second, .val (.int sh), .val (.int off), .val (.long vz), .second, .val (.int oo), .val (.ref b), .val (.int (Int32.ofNat (min N 1))), .unset] []))
    have e9 : min N 1 = min N 2 := by omega
    rw [e9]
    exact own_b128 hx hZ hw hby hml hown hrt hlk raw sh off oo vz u hu N hN1 hN9 h2 h1 oz ho hoo b n0 gb X0 e0 N0 Z0 V0
  · skip
    refine own_st (fun _ kq_ => XS.ifNo X0.here hx rfl (hb hby at_122) rfl ((if0 _ _).trans (flt (fun q => hc.2 (by omega) ((lw_lt _ _).mp q))).1) kq_) ?_
    show OwnG _ _ _ _ _ _ _ (T0.setTop (mkF m 125 #[.val (.long raw), .second, .val (.int sh), .val (.int off), .val (.long vz), .second, .val (.int oo), .val (.ref b), .val (.int (Int32.ofNat (min N 1))), .unset] []))
    refine own_st (fun _ kq_ => XS.iinc X0.here hx rfl (hb hby at_125) rfl (l' := #[.val (.long raw), .second, .val (.int sh), .val (.int off), .val (.long vz), .second, .val (.int oo), .val (.ref b), .val (.int ((Int32.ofNat (min N 1)) + (1 : Int32))), .unset]) rfl kq_) ?_
    show OwnG _ _ _ _ _ _ _ (T0.setTop (mkF m 128 #[.val (.long raw), .second, .val (.int sh), .val (.int off), .val (.long vz), .second, .val (.int oo), .val (.ref b), .val (.int ((Int32.ofNat (min N 1)) + (1 : Int32))), .unset] []))
    have e9 : Int32.ofNat (min N 1) + (1 : Int32) = Int32.ofNat (min N 2) := by rw [own_one]; congr 1; omega
    rw [e9]
    exact own_b128 hx hZ hw hby hml hown hrt hlk raw sh off oo vz u hu N hN1 hN9 h2 h1 oz ho hoo b n0 gb X0 e0 N0 Z0 V0
theorem pn_0 : plainFor x = true := by first | exact plainFor_of_name (by first | (simp [plainName, overriddenIn]; done) | decide +kernel) | decide +kernel
theorem ef_0 (m : MethodId) (x0 : Int64) (x1 : Int32) (x2 : Int32) : entryFrame m #[(.long x0), (.int x1), (.int x2)] maxLocals = mkF m 0 #[.val (.long x0), .second, .val (.int x1), .val (.int x2), .unset, .unset, .unset, .unset, .unset, .unset] [] := by first | (simp [entryFrame, mkF, argsToLocals, Value.category, maxLocals]; done) | rfl
set_option maxRecDepth 65536 in
set_option maxHeartbeats 40000000 in
theorem rm0 (l : Launch) (Z : State) (a0 : Array Value) (hw : ∀ d ∈ tables_1, d.before a0 Z = true) (ws : List Jvm.Cond) (raw : Int64) (sh : Int32) (off : Int32) (h0 : Heap) (n0 : Nat) (Z0 : n0 ≤ h0.size)  :
    MetFree l x (head1 (Jvm.Cond.code x code maxLocals ret :: ws) room_1) (fun a U => a = #[(.long raw), (.int sh), (.int off)] ∧ Z.Warmed39 U.vm ∧ U.heap = h0) (fun _ _ _ _ _ => True) (fun _ U o U' => ∃ v L, o = .returned v ∧ Q0 Z raw sh off h0 n0 v U'.heap L ∧ FrameEnd U o U' L 1 16) := by
  refine MetFree.of_bodySF pn_0 hisR ?_
  intro p e s m args below meth c s₁ Bd hml0 hP hK
  obtain ⟨rfl, hZ, hh⟩ := hP
  have hx := Bd.exec
  have hby := Bd.bytes
  have hml : c.maxLocals = 10 := hml0
  have hown : s.vm.findClass "com/example/posting/posting/index/EncodingPutNumberPinLaw" = some m.cls := findClass_of_methodNamed Bd.named
  have hnm := (name_of_methodNamed Bd.named Bd.method).1
  have hrt := Bd.returns
  have hlk : meth.locks = false := BodyLoose.notSynchronized Bd
  have X0 : Stand p l e room_1 s m #[(.long raw), (.int sh), (.int off)] below meth c s₁ [] 0 0 := Stand.of_body Bd
  have e0 : s₁.heap = h0 := by rw [← hh, Bd.state]; rfl
  have N0 := Fr.nil n0
  show OwnG 1 16 (Q0 Z raw sh off h0 n0) p e below s (s₁.setTop (entryFrame m #[(.long raw), (.int sh), (.int off)] maxLocals))
  refine own_st (σ' := s₁.setTop (mkF m 0 #[.val (.long raw), .second, .val (.int sh), .val (.int off), .unset, .unset, .unset, .unset, .unset, .unset] [])) (fun _ kq_ => castTop (ef_0 m raw sh off) kq_) ?_
  show OwnG _ _ _ _ _ _ _ (s₁.setTop (mkF m 0 #[.val (.long raw), .second, .val (.int sh), .val (.int off), .unset, .unset, .unset, .unset, .unset, .unset] []))
  refine own_st (fun _ kq_ => XS.lloadN X0.here hx rfl (hb hby at_0) rfl kq_) ?_
  show OwnG _ _ _ _ _ _ _ (s₁.setTop (mkF m 1 #[.val (.long raw), .second, .val (.int sh), .val (.int off), .unset, .unset, .unset, .unset, .unset, .unset] [(.long raw)]))
  refine own_st (X0.ldc2Long hx hown (mvT hZ (hw _ (List.mem_of_getElem? (i := 0) rfl))) (g := (mkF m 1 #[.val (.long raw), .second, .val (.int sh), .val (.int off), .unset, .unset, .unset, .unset, .unset, .unset] [(.long raw)])) rfl (hb hby at_1)) ?_
  show OwnG _ _ _ _ _ _ _ (s₁.setTop (mkF m 4 #[.val (.long raw), .second, .val (.int sh), .val (.int off), .unset, .unset, .unset, .unset, .unset, .unset] [(.long (9223372036854775807 : Int64)), (.long raw)]))
  refine own_st (fun _ kq_ => XS.land X0.here hx rfl (hb hby at_4) rfl kq_) ?_
  show OwnG _ _ _ _ _ _ _ (s₁.setTop (mkF m 5 #[.val (.long raw), .second, .val (.int sh), .val (.int off), .unset, .unset, .unset, .unset, .unset, .unset] [(.long (raw &&& (9223372036854775807 : Int64)))]))
  refine own_st (fun _ kq_ => XS.iloadN X0.here hx rfl (hb hby at_5) rfl kq_) ?_
  show OwnG _ _ _ _ _ _ _ (s₁.setTop (mkF m 6 #[.val (.long raw), .second, .val (.int sh), .val (.int off), .unset, .unset, .unset, .unset, .unset, .unset] [(.int sh), (.long (raw &&& (9223372036854775807 : Int64)))]))
  refine own_st (fun _ kq_ => XS.bipush X0.here hx rfl (hb hby at_6) kq_) ?_
  show OwnG _ _ _ _ _ _ _ (s₁.setTop (mkF m 8 #[.val (.long raw), .second, .val (.int sh), .val (.int off), .unset, .unset, .unset, .unset, .unset, .unset] [(.int (63 : Int32)), (.int sh), (.long (raw &&& (9223372036854775807 : Int64)))]))
  refine own_st (fun _ kq_ => XS.iand X0.here hx rfl (hb hby at_8) rfl kq_) ?_
  show OwnG _ _ _ _ _ _ _ (s₁.setTop (mkF m 9 #[.val (.long raw), .second, .val (.int sh), .val (.int off), .unset, .unset, .unset, .unset, .unset, .unset] [(.int (sh &&& (63 : Int32))), (.long (raw &&& (9223372036854775807 : Int64)))]))
  refine own_st (fun _ kq_ => XS.lushr X0.here hx rfl (hb hby at_9) rfl kq_) ?_
  show OwnG _ _ _ _ _ _ _ (s₁.setTop (mkF m 10 #[.val (.long raw), .second, .val (.int sh), .val (.int off), .unset, .unset, .unset, .unset, .unset, .unset] [(.long (((raw &&& (9223372036854775807 : Int64)).toUInt64 >>> ((sh &&& (63 : Int32)) &&& 0x3f).toInt64.toUInt64).toInt64))]))
  refine own_st (fun _ kq_ => XS.lstore X0.here hx rfl (hb hby at_10) rfl (l' := #[.val (.long raw), .second, .val (.int sh), .val (.int off), .val (.long (((raw &&& (9223372036854775807 : Int64)).toUInt64 >>> ((sh &&& (63 : Int32)) &&& 0x3f).toInt64.toUInt64).toInt64)), .second, .unset, .unset, .unset, .unset]) rfl kq_) ?_
  show OwnG _ _ _ _ _ _ _ (s₁.setTop (mkF m 12 #[.val (.long raw), .second, .val (.int sh), .val (.int off), .val (.long (((raw &&& (9223372036854775807 : Int64)).toUInt64 >>> ((sh &&& (63 : Int32)) &&& 0x3f).toInt64.toUInt64).toInt64)), .second, .unset, .unset, .unset, .unset] []))
  refine own_st (fun _ kq_ => XS.iloadN X0.here hx rfl (hb hby at_12) rfl kq_) ?_
  show OwnG _ _ _ _ _ _ _ (s₁.setTop (mkF m 13 #[.val (.long raw), .second, .val (.int sh), .val (.int off), .val (.long (((raw &&& (9223372036854775807 : Int64)).toUInt64 >>> ((sh &&& (63 : Int32)) &&& 0x3f).toInt64.toUInt64).toInt64)), .second, .unset, .unset, .unset, .unset] [(.int off)]))
  refine own_st (fun _ kq_ => XS.iconst X0.here hx rfl (hb hby at_13) kq_) ?_
  show OwnG _ _ _ _ _ _ _ (s₁.setTop (mkF m 14 #[.val (.long raw), .second, .val (.int sh), .val (.int off), .val (.long (((raw &&& (9223372036854775807 : Int64)).toUInt64 >>> ((sh &&& (63 : Int32)) &&& 0x3f).toInt64.toUInt64).toInt64)), .second, .unset, .unset, .unset, .unset] [(.int (3 : Int32)), (.int off)]))
  refine own_st (fun _ kq_ => XS.iand X0.here hx rfl (hb hby at_14) rfl kq_) ?_
  show OwnG _ _ _ _ _ _ _ (s₁.setTop (mkF m 15 #[.val (.long raw), .second, .val (.int sh), .val (.int off), .val (.long (((raw &&& (9223372036854775807 : Int64)).toUInt64 >>> ((sh &&& (63 : Int32)) &&& 0x3f).toInt64.toUInt64).toInt64)), .second, .unset, .unset, .unset, .unset] [(.int (off &&& (3 : Int32)))]))
  refine own_st (fun _ kq_ => XS.istore X0.here hx rfl (hb hby at_15) rfl (l' := #[.val (.long raw), .second, .val (.int sh), .val (.int off), .val (.long (((raw &&& (9223372036854775807 : Int64)).toUInt64 >>> ((sh &&& (63 : Int32)) &&& 0x3f).toInt64.toUInt64).toInt64)), .second, .val (.int (off &&& (3 : Int32))), .unset, .unset, .unset]) rfl kq_) ?_
  show OwnG _ _ _ _ _ _ _ (s₁.setTop (mkF m 17 #[.val (.long raw), .second, .val (.int sh), .val (.int off), .val (.long (((raw &&& (9223372036854775807 : Int64)).toUInt64 >>> ((sh &&& (63 : Int32)) &&& 0x3f).toInt64.toUInt64).toInt64)), .second, .val (.int (off &&& (3 : Int32))), .unset, .unset, .unset] []))
  obtain ⟨u, hu9, hu⟩ := own_nn raw sh
  obtain ⟨oz, ho, hoo⟩ := own_off off
  obtain ⟨N, hN1, hN9, h2, h1⟩ := own_N u hu9
  generalize (((raw &&& (9223372036854775807 : Int64)).toUInt64 >>> ((sh &&& (63 : Int32)) &&& 0x3f).toInt64.toUInt64).toInt64) = vz at *
  generalize (off &&& (3 : Int32)) = oo at *
  show OwnG _ _ _ _ _ _ _ (s₁.setTop (mkF m 17 #[.val (.long raw), .second, .val (.int sh), .val (.int off), .val (.long vz), .second, .val (.int oo), .unset, .unset, .unset] []))
  refine own_st (fun _ kq_ => XS.bipush X0.here hx rfl (hb hby at_17) kq_) ?_
  show OwnG _ _ _ _ _ _ _ (s₁.setTop (mkF m 19 #[.val (.long raw), .second, .val (.int sh), .val (.int off), .val (.long vz), .second, .val (.int oo), .unset, .unset, .unset] [(.int (16 : Int32))]))
  obtain ⟨T20, h20, X20, e20, E20, V20, st20⟩ := own_new X0 hx hZ (hw _ (List.mem_of_getElem? (i := 1) rfl)) e0 (g := (mkF m 19 #[.val (.long raw), .second, .val (.int sh), .val (.int off), .val (.long vz), .second, .val (.int oo), .unset, .unset, .unset] [(.int (16 : Int32))])) rfl (hb hby at_19) rfl (16) (by decide) (cap := 16) (Nat.le_refl _) (by decide) (by decide) (by decide)
  obtain ⟨b20, g20⟩ : ∃ z, z = h0.size := ⟨_, rfl⟩
  rw [← g20] at V20 st20
  refine own_st st20 ?_
  show OwnG _ _ _ _ _ _ _ (T20.setTop (mkF m 21 #[.val (.long raw), .second, .val (.int sh), .val (.int off), .val (.long vz), .second, .val (.int oo), .unset, .unset, .unset] [(.ref b20)]))
  have gb : n0 ≤ b20 := Nat.le_trans Z0 (Nat.le_of_eq g20.symm)
  have S20 : n0 ≤ h20.size := Nat.le_trans Z0 E20.1
  refine own_st (fun _ kq_ => XS.dup X20.here hx rfl (hb hby at_21) rfl rfl kq_) ?_
  show OwnG _ _ _ _ _ _ _ (T20.setTop (mkF m 22 #[.val (.long raw), .second, .val (.int sh), .val (.int off), .val (.long vz), .second, .val (.int oo), .unset, .unset, .unset] [(.ref b20), (.ref b20)]))
  refine own_st (fun _ kq_ => XS.iconst X20.here hx rfl (hb hby at_22) kq_) ?_
  show OwnG _ _ _ _ _ _ _ (T20.setTop (mkF m 23 #[.val (.long raw), .second, .val (.int sh), .val (.int off), .val (.long vz), .second, .val (.int oo), .unset, .unset, .unset] [(.int (0 : Int32)), (.ref b20), (.ref b20)]))
  refine own_st (fun _ kq_ => XS.bipush X20.here hx rfl (hb hby at_23) kq_) ?_
  show OwnG _ _ _ _ _ _ _ (T20.setTop (mkF m 25 #[.val (.long raw), .second, .val (.int sh), .val (.int off), .val (.long vz), .second, .val (.int oo), .unset, .unset, .unset] [(.int (-91 : Int32)), (.int (0 : Int32)), (.ref b20), (.ref b20)]))
  obtain ⟨T21, h21, X21, e21, W21, V21, st21⟩ := own_sB X20 hx hZ e20 V20 (0) (by decide) (by decide) (g := (mkF m 25 #[.val (.long raw), .second, .val (.int sh), .val (.int off), .val (.long vz), .second, .val (.int oo), .unset, .unset, .unset] [(.int (-91 : Int32)), (.int (0 : Int32)), (.ref b20), (.ref b20)])) rfl rfl (hb hby at_25)
  have N21 := Fr.snoc X21 N0 gb
  refine own_st st21 ?_
  show OwnG _ _ _ _ _ _ _ (T21.setTop (mkF m 26 #[.val (.long raw), .second, .val (.int sh), .val (.int off), .val (.long vz), .second, .val (.int oo), .unset, .unset, .unset] [(.ref b20)]))
  refine own_st (fun _ kq_ => XS.dup X21.here hx rfl (hb hby at_26) rfl rfl kq_) ?_
  show OwnG _ _ _ _ _ _ _ (T21.setTop (mkF m 27 #[.val (.long raw), .second, .val (.int sh), .val (.int off), .val (.long vz), .second, .val (.int oo), .unset, .unset, .unset] [(.ref b20), (.ref b20)]))
  refine own_st (fun _ kq_ => XS.iconst X21.here hx rfl (hb hby at_27) kq_) ?_
  show OwnG _ _ _ _ _ _ _ (T21.setTop (mkF m 28 #[.val (.long raw), .second, .val (.int sh), .val (.int off), .val (.long vz), .second, .val (.int oo), .unset, .unset, .unset] [(.int (1 : Int32)), (.ref b20), (.ref b20)]))
  refine own_st (fun _ kq_ => XS.bipush X21.here hx rfl (hb hby at_28) kq_) ?_
  show OwnG _ _ _ _ _ _ _ (T21.setTop (mkF m 30 #[.val (.long raw), .second, .val (.int sh), .val (.int off), .val (.long vz), .second, .val (.int oo), .unset, .unset, .unset] [(.int (-91 : Int32)), (.int (1 : Int32)), (.ref b20), (.ref b20)]))
  obtain ⟨T22, h22, X22, e22, W22, V22, st22⟩ := own_sB X21 hx hZ e21 V21 (1) (by decide) (by decide) (g := (mkF m 30 #[.val (.long raw), .second, .val (.int sh), .val (.int off), .val (.long vz), .second, .val (.int oo), .unset, .unset, .unset] [(.int (-91 : Int32)), (.int (1 : Int32)), (.ref b20), (.ref b20)])) rfl rfl (hb hby at_30)
  have N22 := Fr.snoc X22 N21 gb
  refine own_st st22 ?_
  show OwnG _ _ _ _ _ _ _ (T22.setTop (mkF m 31 #[.val (.long raw), .second, .val (.int sh), .val (.int off), .val (.long vz), .second, .val (.int oo), .unset, .unset, .unset] [(.ref b20)]))
  refine own_st (fun _ kq_ => XS.dup X22.here hx rfl (hb hby at_31) rfl rfl kq_) ?_
  show OwnG _ _ _ _ _ _ _ (T22.setTop (mkF m 32 #[.val (.long raw), .second, .val (.int sh), .val (.int off), .val (.long vz), .second, .val (.int oo), .unset, .unset, .unset] [(.ref b20), (.ref b20)]))
  refine own_st (fun _ kq_ => XS.iconst X22.here hx rfl (hb hby at_32) kq_) ?_
  show OwnG _ _ _ _ _ _ _ (T22.setTop (mkF m 33 #[.val (.long raw), .second, .val (.int sh), .val (.int off), .val (.long vz), .second, .val (.int oo), .unset, .unset, .unset] [(.int (2 : Int32)), (.ref b20), (.ref b20)]))
  refine own_st (fun _ kq_ => XS.bipush X22.here hx rfl (hb hby at_33) kq_) ?_
  show OwnG _ _ _ _ _ _ _ (T22.setTop (mkF m 35 #[.val (.long raw), .second, .val (.int sh), .val (.int off), .val (.long vz), .second, .val (.int oo), .unset, .unset, .unset] [(.int (-91 : Int32)), (.int (2 : Int32)), (.ref b20), (.ref b20)]))
  obtain ⟨T23, h23, X23, e23, W23, V23, st23⟩ := own_sB X22 hx hZ e22 V22 (2) (by decide) (by decide) (g := (mkF m 35 #[.val (.long raw), .second, .val (.int sh), .val (.int off), .val (.long vz), .second, .val (.int oo), .unset, .unset, .unset] [(.int (-91 : Int32)), (.int (2 : Int32)), (.ref b20), (.ref b20)])) rfl rfl (hb hby at_35)
  have N23 := Fr.snoc X23 N22 gb
  refine own_st st23 ?_
  show OwnG _ _ _ _ _ _ _ (T23.setTop (mkF m 36 #[.val (.long raw), .second, .val (.int sh), .val (.int off), .val (.long vz), .second, .val (.int oo), .unset, .unset, .unset] [(.ref b20)]))
  refine own_st (fun _ kq_ => XS.dup X23.here hx rfl (hb hby at_36) rfl rfl kq_) ?_
  show OwnG _ _ _ _ _ _ _ (T23.setTop (mkF m 37 #[.val (.long raw), .second, .val (.int sh), .val (.int off), .val (.long vz), .second, .val (.int oo), .unset, .unset, .unset] [(.ref b20), (.ref b20)]))
  refine own_st (fun _ kq_ => XS.iconst X23.here hx rfl (hb hby at_37) kq_) ?_
  show OwnG _ _ _ _ _ _ _ (T23.setTop (mkF m 38 #[.val (.long raw), .second, .val (.int sh), .val (.int off), .val (.long vz), .second, .val (.int oo), .unset, .unset, .unset] [(.int (3 : Int32)), (.ref b20), (.ref b20)]))
  refine own_st (fun _ kq_ => XS.bipush X23.here hx rfl (hb hby at_38) kq_) ?_
  show OwnG _ _ _ _ _ _ _ (T23.setTop (mkF m 40 #[.val (.long raw), .second, .val (.int sh), .val (.int off), .val (.long vz), .second, .val (.int oo), .unset, .unset, .unset] [(.int (-91 : Int32)), (.int (3 : Int32)), (.ref b20), (.ref b20)]))
  obtain ⟨T24, h24, X24, e24, W24, V24, st24⟩ := own_sB X23 hx hZ e23 V23 (3) (by decide) (by decide) (g := (mkF m 40 #[.val (.long raw), .second, .val (.int sh), .val (.int off), .val (.long vz), .second, .val (.int oo), .unset, .unset, .unset] [(.int (-91 : Int32)), (.int (3 : Int32)), (.ref b20), (.ref b20)])) rfl rfl (hb hby at_40)
  have N24 := Fr.snoc X24 N23 gb
  refine own_st st24 ?_
  show OwnG _ _ _ _ _ _ _ (T24.setTop (mkF m 41 #[.val (.long raw), .second, .val (.int sh), .val (.int off), .val (.long vz), .second, .val (.int oo), .unset, .unset, .unset] [(.ref b20)]))
  refine own_st (fun _ kq_ => XS.dup X24.here hx rfl (hb hby at_41) rfl rfl kq_) ?_
  show OwnG _ _ _ _ _ _ _ (T24.setTop (mkF m 42 #[.val (.long raw), .second, .val (.int sh), .val (.int off), .val (.long vz), .second, .val (.int oo), .unset, .unset, .unset] [(.ref b20), (.ref b20)]))
  refine own_st (fun _ kq_ => XS.iconst X24.here hx rfl (hb hby at_42) kq_) ?_
  show OwnG _ _ _ _ _ _ _ (T24.setTop (mkF m 43 #[.val (.long raw), .second, .val (.int sh), .val (.int off), .val (.long vz), .second, .val (.int oo), .unset, .unset, .unset] [(.int (4 : Int32)), (.ref b20), (.ref b20)]))
  refine own_st (fun _ kq_ => XS.bipush X24.here hx rfl (hb hby at_43) kq_) ?_
  show OwnG _ _ _ _ _ _ _ (T24.setTop (mkF m 45 #[.val (.long raw), .second, .val (.int sh), .val (.int off), .val (.long vz), .second, .val (.int oo), .unset, .unset, .unset] [(.int (-91 : Int32)), (.int (4 : Int32)), (.ref b20), (.ref b20)]))
  obtain ⟨T25, h25, X25, e25, W25, V25, st25⟩ := own_sB X24 hx hZ e24 V24 (4) (by decide) (by decide) (g := (mkF m 45 #[.val (.long raw), .second, .val (.int sh), .val (.int off), .val (.long vz), .second, .val (.int oo), .unset, .unset, .unset] [(.int (-91 : Int32)), (.int (4 : Int32)), (.ref b20), (.ref b20)])) rfl rfl (hb hby at_45)
  have N25 := Fr.snoc X25 N24 gb
  refine own_st st25 ?_
  show OwnG _ _ _ _ _ _ _ (T25.setTop (mkF m 46 #[.val (.long raw), .second, .val (.int sh), .val (.int off), .val (.long vz), .second, .val (.int oo), .unset, .unset, .unset] [(.ref b20)]))
  refine own_st (fun _ kq_ => XS.dup X25.here hx rfl (hb hby at_46) rfl rfl kq_) ?_
  show OwnG _ _ _ _ _ _ _ (T25.setTop (mkF m 47 #[.val (.long raw), .second, .val (.int sh), .val (.int off), .val (.long vz), .second, .val (.int oo), .unset, .unset, .unset] [(.ref b20), (.ref b20)]))
  refine own_st (fun _ kq_ => XS.iconst X25.here hx rfl (hb hby at_47) kq_) ?_
  show OwnG _ _ _ _ _ _ _ (T25.setTop (mkF m 48 #[.val (.long raw), .second, .val (.int sh), .val (.int off), .val (.long vz), .second, .val (.int oo), .unset, .unset, .unset] [(.int (5 : Int32)), (.ref b20), (.ref b20)]))
  refine own_st (fun _ kq_ => XS.bipush X25.here hx rfl (hb hby at_48) kq_) ?_
  show OwnG _ _ _ _ _ _ _ (T25.setTop (mkF m 50 #[.val (.long raw), .second, .val (.int sh), .val (.int off), .val (.long vz), .second, .val (.int oo), .unset, .unset, .unset] [(.int (-91 : Int32)), (.int (5 : Int32)), (.ref b20), (.ref b20)]))
  obtain ⟨T26, h26, X26, e26, W26, V26, st26⟩ := own_sB X25 hx hZ e25 V25 (5) (by decide) (by decide) (g := (mkF m 50 #[.val (.long raw), .second, .val (.int sh), .val (.int off), .val (.long vz), .second, .val (.int oo), .unset, .unset, .unset] [(.int (-91 : Int32)), (.int (5 : Int32)), (.ref b20), (.ref b20)])) rfl rfl (hb hby at_50)
  have N26 := Fr.snoc X26 N25 gb
  refine own_st st26 ?_
  show OwnG _ _ _ _ _ _ _ (T26.setTop (mkF m 51 #[.val (.long raw), .second, .val (.int sh), .val (.int off), .val (.long vz), .second, .val (.int oo), .unset, .unset, .unset] [(.ref b20)]))
  refine own_st (fun _ kq_ => XS.dup X26.here hx rfl (hb hby at_51) rfl rfl kq_) ?_
  show OwnG _ _ _ _ _ _ _ (T26.setTop (mkF m 52 #[.val (.long raw), .second, .val (.int sh), .val (.int off), .val (.long vz), .second, .val (.int oo), .unset, .unset, .unset] [(.ref b20), (.ref b20)]))
  refine own_st (fun _ kq_ => XS.bipush X26.here hx rfl (hb hby at_52) kq_) ?_
  show OwnG _ _ _ _ _ _ _ (T26.setTop (mkF m 54 #[.val (.long raw), .second, .val (.int sh), .val (.int off), .val (.long vz), .second, .val (.int oo), .unset, .unset, .unset] [(.int (6 : Int32)), (.ref b20), (.ref b20)]))
  refine own_st (fun _ kq_ => XS.bipush X26.here hx rfl (hb hby at_54) kq_) ?_
  show OwnG _ _ _ _ _ _ _ (T26.setTop (mkF m 56 #[.val (.long raw), .second, .val (.int sh), .val (.int off), .val (.long vz), .second, .val (.int oo), .unset, .unset, .unset] [(.int (-91 : Int32)), (.int (6 : Int32)), (.ref b20), (.ref b20)]))
  obtain ⟨T27, h27, X27, e27, W27, V27, st27⟩ := own_sB X26 hx hZ e26 V26 (6) (by decide) (by decide) (g := (mkF m 56 #[.val (.long raw), .second, .val (.int sh), .val (.int off), .val (.long vz), .second, .val (.int oo), .unset, .unset, .unset] [(.int (-91 : Int32)), (.int (6 : Int32)), (.ref b20), (.ref b20)])) rfl rfl (hb hby at_56)
  have N27 := Fr.snoc X27 N26 gb
  refine own_st st27 ?_
  show OwnG _ _ _ _ _ _ _ (T27.setTop (mkF m 57 #[.val (.long raw), .second, .val (.int sh), .val (.int off), .val (.long vz), .second, .val (.int oo), .unset, .unset, .unset] [(.ref b20)]))
  refine own_st (fun _ kq_ => XS.dup X27.here hx rfl (hb hby at_57) rfl rfl kq_) ?_
  show OwnG _ _ _ _ _ _ _ (T27.setTop (mkF m 58 #[.val (.long raw), .second, .val (.int sh), .val (.int off), .val (.long vz), .second, .val (.int oo), .unset, .unset, .unset] [(.ref b20), (.ref b20)]))
  refine own_st (fun _ kq_ => XS.bipush X27.here hx rfl (hb hby at_58) kq_) ?_
  show OwnG _ _ _ _ _ _ _ (T27.setTop (mkF m 60 #[.val (.long raw), .second, .val (.int sh), .val (.int off), .val (.long vz), .second, .val (.int oo), .unset, .unset, .unset] [(.int (7 : Int32)), (.ref b20), (.ref b20)]))
  refine own_st (fun _ kq_ => XS.bipush X27.here hx rfl (hb hby at_60) kq_) ?_
  show OwnG _ _ _ _ _ _ _ (T27.setTop (mkF m 62 #[.val (.long raw), .second, .val (.int sh), .val (.int off), .val (.long vz), .second, .val (.int oo), .unset, .unset, .unset] [(.int (-91 : Int32)), (.int (7 : Int32)), (.ref b20), (.ref b20)]))
  obtain ⟨T28, h28, X28, e28, W28, V28, st28⟩ := own_sB X27 hx hZ e27 V27 (7) (by decide) (by decide) (g := (mkF m 62 #[.val (.long raw), .second, .val (.int sh), .val (.int off), .val (.long vz), .second, .val (.int oo), .unset, .unset, .unset] [(.int (-91 : Int32)), (.int (7 : Int32)), (.ref b20), (.ref b20)])) rfl rfl (hb hby at_62)
  have N28 := Fr.snoc X28 N27 gb
  refine own_st st28 ?_
  show OwnG _ _ _ _ _ _ _ (T28.setTop (mkF m 63 #[.val (.long raw), .second, .val (.int sh), .val (.int off), .val (.long vz), .second, .val (.int oo), .unset, .unset, .unset] [(.ref b20)]))
  refine own_st (fun _ kq_ => XS.dup X28.here hx rfl (hb hby at_63) rfl rfl kq_) ?_
  show OwnG _ _ _ _ _ _ _ (T28.setTop (mkF m 64 #[.val (.long raw), .second, .val (.int sh), .val (.int off), .val (.long vz), .second, .val (.int oo), .unset, .unset, .unset] [(.ref b20), (.ref b20)]))
  refine own_st (fun _ kq_ => XS.bipush X28.here hx rfl (hb hby at_64) kq_) ?_
  show OwnG _ _ _ _ _ _ _ (T28.setTop (mkF m 66 #[.val (.long raw), .second, .val (.int sh), .val (.int off), .val (.long vz), .second, .val (.int oo), .unset, .unset, .unset] [(.int (8 : Int32)), (.ref b20), (.ref b20)]))
  refine own_st (fun _ kq_ => XS.bipush X28.here hx rfl (hb hby at_66) kq_) ?_
  show OwnG _ _ _ _ _ _ _ (T28.setTop (mkF m 68 #[.val (.long raw), .second, .val (.int sh), .val (.int off), .val (.long vz), .second, .val (.int oo), .unset, .unset, .unset] [(.int (-91 : Int32)), (.int (8 : Int32)), (.ref b20), (.ref b20)]))
  obtain ⟨T29, h29, X29, e29, W29, V29, st29⟩ := own_sB X28 hx hZ e28 V28 (8) (by decide) (by decide) (g := (mkF m 68 #[.val (.long raw), .second, .val (.int sh), .val (.int off), .val (.long vz), .second, .val (.int oo), .unset, .unset, .unset] [(.int (-91 : Int32)), (.int (8 : Int32)), (.ref b20), (.ref b20)])) rfl rfl (hb hby at_68)
  have N29 := Fr.snoc X29 N28 gb
  refine own_st st29 ?_
  show OwnG _ _ _ _ _ _ _ (T29.setTop (mkF m 69 #[.val (.long raw), .second, .val (.int sh), .val (.int off), .val (.long vz), .second, .val (.int oo), .unset, .unset, .unset] [(.ref b20)]))
  refine own_st (fun _ kq_ => XS.dup X29.here hx rfl (hb hby at_69) rfl rfl kq_) ?_
  show OwnG _ _ _ _ _ _ _ (T29.setTop (mkF m 70 #[.val (.long raw), .second, .val (.int sh), .val (.int off), .val (.long vz), .second, .val (.int oo), .unset, .unset, .unset] [(.ref b20), (.ref b20)]))
  refine own_st (fun _ kq_ => XS.bipush X29.here hx rfl (hb hby at_70) kq_) ?_
  show OwnG _ _ _ _ _ _ _ (T29.setTop (mkF m 72 #[.val (.long raw), .second, .val (.int sh), .val (.int off), .val (.long vz), .second, .val (.int oo), .unset, .unset, .unset] [(.int (9 : Int32)), (.ref b20), (.ref b20)]))
  refine own_st (fun _ kq_ => XS.bipush X29.here hx rfl (hb hby at_72) kq_) ?_
  show OwnG _ _ _ _ _ _ _ (T29.setTop (mkF m 74 #[.val (.long raw), .second, .val (.int sh), .val (.int off), .val (.long vz), .second, .val (.int oo), .unset, .unset, .unset] [(.int (-91 : Int32)), (.int (9 : Int32)), (.ref b20), (.ref b20)]))
  obtain ⟨T30, h30, X30, e30, W30, V30, st30⟩ := own_sB X29 hx hZ e29 V29 (9) (by decide) (by decide) (g := (mkF m 74 #[.val (.long raw), .second, .val (.int sh), .val (.int off), .val (.long vz), .second, .val (.int oo), .unset, .unset, .unset] [(.int (-91 : Int32)), (.int (9 : Int32)), (.ref b20), (.ref b20)])) rfl rfl (hb hby at_74)
  have N30 := Fr.snoc X30 N29 gb
  refine own_st st30 ?_
  show OwnG _ _ _ _ _ _ _ (T30.setTop (mkF m 75 #[.val (.long raw), .second, .val (.int sh), .val (.int off), .val (.long vz), .second, .val (.int oo), .unset, .unset, .unset] [(.ref b20)]))
  refine own_st (fun _ kq_ => XS.dup X30.here hx rfl (hb hby at_75) rfl rfl kq_) ?_
  show OwnG _ _ _ _ _ _ _ (T30.setTop (mkF m 76 #[.val (.long raw), .second, .val (.int sh), .val (.int off), .val (.long vz), .second, .val (.int oo), .unset, .unset, .unset] [(.ref b20), (.ref b20)]))
  refine own_st (fun _ kq_ => XS.bipush X30.here hx rfl (hb hby at_76) kq_) ?_
  show OwnG _ _ _ _ _ _ _ (T30.setTop (mkF m 78 #[.val (.long raw), .second, .val (.int sh), .val (.int off), .val (.long vz), .second, .val (.int oo), .unset, .unset, .unset] [(.int (10 : Int32)), (.ref b20), (.ref b20)]))
  refine own_st (fun _ kq_ => XS.bipush X30.here hx rfl (hb hby at_78) kq_) ?_
  show OwnG _ _ _ _ _ _ _ (T30.setTop (mkF m 80 #[.val (.long raw), .second, .val (.int sh), .val (.int off), .val (.long vz), .second, .val (.int oo), .unset, .unset, .unset] [(.int (-91 : Int32)), (.int (10 : Int32)), (.ref b20), (.ref b20)]))
  obtain ⟨T31, h31, X31, e31, W31, V31, st31⟩ := own_sB X30 hx hZ e30 V30 (10) (by decide) (by decide) (g := (mkF m 80 #[.val (.long raw), .second, .val (.int sh), .val (.int off), .val (.long vz), .second, .val (.int oo), .unset, .unset, .unset] [(.int (-91 : Int32)), (.int (10 : Int32)), (.ref b20), (.ref b20)])) rfl rfl (hb hby at_80)
  have N31 := Fr.snoc X31 N30 gb
  refine own_st st31 ?_
  show OwnG _ _ _ _ _ _ _ (T31.setTop (mkF m 81 #[.val (.long raw), .second, .val (.int sh), .val (.int off), .val (.long vz), .second, .val (.int oo), .unset, .unset, .unset] [(.ref b20)]))
  refine own_st (fun _ kq_ => XS.dup X31.here hx rfl (hb hby at_81) rfl rfl kq_) ?_
  show OwnG _ _ _ _ _ _ _ (T31.setTop (mkF m 82 #[.val (.long raw), .second, .val (.int sh), .val (.int off), .val (.long vz), .second, .val (.int oo), .unset, .unset, .unset] [(.ref b20), (.ref b20)]))
  refine own_st (fun _ kq_ => XS.bipush X31.here hx rfl (hb hby at_82) kq_) ?_
  show OwnG _ _ _ _ _ _ _ (T31.setTop (mkF m 84 #[.val (.long raw), .second, .val (.int sh), .val (.int off), .val (.long vz), .second, .val (.int oo), .unset, .unset, .unset] [(.int (11 : Int32)), (.ref b20), (.ref b20)]))
  refine own_st (fun _ kq_ => XS.bipush X31.here hx rfl (hb hby at_84) kq_) ?_
  show OwnG _ _ _ _ _ _ _ (T31.setTop (mkF m 86 #[.val (.long raw), .second, .val (.int sh), .val (.int off), .val (.long vz), .second, .val (.int oo), .unset, .unset, .unset] [(.int (-91 : Int32)), (.int (11 : Int32)), (.ref b20), (.ref b20)]))
  obtain ⟨T32, h32, X32, e32, W32, V32, st32⟩ := own_sB X31 hx hZ e31 V31 (11) (by decide) (by decide) (g := (mkF m 86 #[.val (.long raw), .second, .val (.int sh), .val (.int off), .val (.long vz), .second, .val (.int oo), .unset, .unset, .unset] [(.int (-91 : Int32)), (.int (11 : Int32)), (.ref b20), (.ref b20)])) rfl rfl (hb hby at_86)
  have N32 := Fr.snoc X32 N31 gb
  refine own_st st32 ?_
  show OwnG _ _ _ _ _ _ _ (T32.setTop (mkF m 87 #[.val (.long raw), .second, .val (.int sh), .val (.int off), .val (.long vz), .second, .val (.int oo), .unset, .unset, .unset] [(.ref b20)]))
  refine own_st (fun _ kq_ => XS.dup X32.here hx rfl (hb hby at_87) rfl rfl kq_) ?_
  show OwnG _ _ _ _ _ _ _ (T32.setTop (mkF m 88 #[.val (.long raw), .second, .val (.int sh), .val (.int off), .val (.long vz), .second, .val (.int oo), .unset, .unset, .unset] [(.ref b20), (.ref b20)]))
  refine own_st (fun _ kq_ => XS.bipush X32.here hx rfl (hb hby at_88) kq_) ?_
  show OwnG _ _ _ _ _ _ _ (T32.setTop (mkF m 90 #[.val (.long raw), .second, .val (.int sh), .val (.int off), .val (.long vz), .second, .val (.int oo), .unset, .unset, .unset] [(.int (12 : Int32)), (.ref b20), (.ref b20)]))
  refine own_st (fun _ kq_ => XS.bipush X32.here hx rfl (hb hby at_90) kq_) ?_
  show OwnG _ _ _ _ _ _ _ (T32.setTop (mkF m 92 #[.val (.long raw), .second, .val (.int sh), .val (.int off), .val (.long vz), .second, .val (.int oo), .unset, .unset, .unset] [(.int (-91 : Int32)), (.int (12 : Int32)), (.ref b20), (.ref b20)]))
  obtain ⟨T33, h33, X33, e33, W33, V33, st33⟩ := own_sB X32 hx hZ e32 V32 (12) (by decide) (by decide) (g := (mkF m 92 #[.val (.long raw), .second, .val (.int sh), .val (.int off), .val (.long vz), .second, .val (.int oo), .unset, .unset, .unset] [(.int (-91 : Int32)), (.int (12 : Int32)), (.ref b20), (.ref b20)])) rfl rfl (hb hby at_92)
  have N33 := Fr.snoc X33 N32 gb
  refine own_st st33 ?_
  show OwnG _ _ _ _ _ _ _ (T33.setTop (mkF m 93 #[.val (.long raw), .second, .val (.int sh), .val (.int off), .val (.long vz), .second, .val (.int oo), .unset, .unset, .unset] [(.ref b20)]))
  refine own_st (fun _ kq_ => XS.dup X33.here hx rfl (hb hby at_93) rfl rfl kq_) ?_
  show OwnG _ _ _ _ _ _ _ (T33.setTop (mkF m 94 #[.val (.long raw), .second, .val (.int sh), .val (.int off), .val (.long vz), .second, .val (.int oo), .unset, .unset, .unset] [(.ref b20), (.ref b20)]))
  refine own_st (fun _ kq_ => XS.bipush X33.here hx rfl (hb hby at_94) kq_) ?_
  show OwnG _ _ _ _ _ _ _ (T33.setTop (mkF m 96 #[.val (.long raw), .second, .val (.int sh), .val (.int off), .val (.long vz), .second, .val (.int oo), .unset, .unset, .unset] [(.int (13 : Int32)), (.ref b20), (.ref b20)]))
  refine own_st (fun _ kq_ => XS.bipush X33.here hx rfl (hb hby at_96) kq_) ?_
  show OwnG _ _ _ _ _ _ _ (T33.setTop (mkF m 98 #[.val (.long raw), .second, .val (.int sh), .val (.int off), .val (.long vz), .second, .val (.int oo), .unset, .unset, .unset] [(.int (-91 : Int32)), (.int (13 : Int32)), (.ref b20), (.ref b20)]))
  obtain ⟨T34, h34, X34, e34, W34, V34, st34⟩ := own_sB X33 hx hZ e33 V33 (13) (by decide) (by decide) (g := (mkF m 98 #[.val (.long raw), .second, .val (.int sh), .val (.int off), .val (.long vz), .second, .val (.int oo), .unset, .unset, .unset] [(.int (-91 : Int32)), (.int (13 : Int32)), (.ref b20), (.ref b20)])) rfl rfl (hb hby at_98)
  have N34 := Fr.snoc X34 N33 gb
  refine own_st st34 ?_
  show OwnG _ _ _ _ _ _ _ (T34.setTop (mkF m 99 #[.val (.long raw), .second, .val (.int sh), .val (.int off), .val (.long vz), .second, .val (.int oo), .unset, .unset, .unset] [(.ref b20)]))
  refine own_st (fun _ kq_ => XS.dup X34.here hx rfl (hb hby at_99) rfl rfl kq_) ?_
  show OwnG _ _ _ _ _ _ _ (T34.setTop (mkF m 100 #[.val (.long raw), .second, .val (.int sh), .val (.int off), .val (.long vz), .second, .val (.int oo), .unset, .unset, .unset] [(.ref b20), (.ref b20)]))
  refine own_st (fun _ kq_ => XS.bipush X34.here hx rfl (hb hby at_100) kq_) ?_
  show OwnG _ _ _ _ _ _ _ (T34.setTop (mkF m 102 #[.val (.long raw), .second, .val (.int sh), .val (.int off), .val (.long vz), .second, .val (.int oo), .unset, .unset, .unset] [(.int (14 : Int32)), (.ref b20), (.ref b20)]))
  refine own_st (fun _ kq_ => XS.bipush X34.here hx rfl (hb hby at_102) kq_) ?_
  show OwnG _ _ _ _ _ _ _ (T34.setTop (mkF m 104 #[.val (.long raw), .second, .val (.int sh), .val (.int off), .val (.long vz), .second, .val (.int oo), .unset, .unset, .unset] [(.int (-91 : Int32)), (.int (14 : Int32)), (.ref b20), (.ref b20)]))
  obtain ⟨T35, h35, X35, e35, W35, V35, st35⟩ := own_sB X34 hx hZ e34 V34 (14) (by decide) (by decide) (g := (mkF m 104 #[.val (.long raw), .second, .val (.int sh), .val (.int off), .val (.long vz), .second, .val (.int oo), .unset, .unset, .unset] [(.int (-91 : Int32)), (.int (14 : Int32)), (.ref b20), (.ref b20)])) rfl rfl (hb hby at_104)
  have N35 := Fr.snoc X35 N34 gb
  refine own_st st35 ?_
  show OwnG _ _ _ _ _ _ _ (T35.setTop (mkF m 105 #[.val (.long raw), .second, .val (.int sh), .val (.int off), .val (.long vz), .second, .val (.int oo), .unset, .unset, .unset] [(.ref b20)]))
  refine own_st (fun _ kq_ => XS.dup X35.here hx rfl (hb hby at_105) rfl rfl kq_) ?_
  show OwnG _ _ _ _ _ _ _ (T35.setTop (mkF m 106 #[.val (.long raw), .second, .val (.int sh), .val (.int off), .val (.long vz), .second, .val (.int oo), .unset, .unset, .unset] [(.ref b20), (.ref b20)]))
  refine own_st (fun _ kq_ => XS.bipush X35.here hx rfl (hb hby at_106) kq_) ?_
  show OwnG _ _ _ _ _ _ _ (T35.setTop (mkF m 108 #[.val (.long raw), .second, .val (.int sh), .val (.int off), .val (.long vz), .second, .val (.int oo), .unset, .unset, .unset] [(.int (15 : Int32)), (.ref b20), (.ref b20)]))
  refine own_st (fun _ kq_ => XS.bipush X35.here hx rfl (hb hby at_108) kq_) ?_
  show OwnG _ _ _ _ _ _ _ (T35.setTop (mkF m 110 #[.val (.long raw), .second, .val (.int sh), .val (.int off), .val (.long vz), .second, .val (.int oo), .unset, .unset, .unset] [(.int (-91 : Int32)), (.int (15 : Int32)), (.ref b20), (.ref b20)]))
  obtain ⟨T36, h36, X36, e36, W36, V36, st36⟩ := own_sB X35 hx hZ e35 V35 (15) (by decide) (by decide) (g := (mkF m 110 #[.val (.long raw), .second, .val (.int sh), .val (.int off), .val (.long vz), .second, .val (.int oo), .unset, .unset, .unset] [(.int (-91 : Int32)), (.int (15 : Int32)), (.ref b20), (.ref b20)])) rfl rfl (hb hby at_110)
  have N36 := Fr.snoc X36 N35 gb
  refine own_st st36 ?_
  show OwnG _ _ _ _ _ _ _ (T36.setTop (mkF m 111 #[.val (.long raw), .second, .val (.int sh), .val (.int off), .val (.long vz), .second, .val (.int oo), .unset, .unset, .unset] [(.ref b20)]))
  have VV : Ary Z h36 b20 .byte 16 (fun _ => .int (-91)) := by
    refine V36.cong fun j hj => ?_
    have hj2 : j = 0 ∨ j = 1 ∨ j = 2 ∨ j = 3 ∨ j = 4 ∨ j = 5 ∨ j = 6 ∨ j = 7 ∨ j = 8 ∨ j = 9 ∨ j = 10 ∨ j = 11 ∨ j = 12 ∨ j = 13 ∨ j = 14 ∨ j = 15 := by omega
    rcases hj2 with rfl | rfl | rfl | rfl | rfl | rfl | rfl | rfl | rfl | rfl | rfl | rfl | rfl | rfl | rfl | rfl
    · rfl
    · rfl
    · rfl
    · rfl
    · rfl
    · rfl
    · rfl
    · rfl
    · rfl
    · rfl
    · rfl
    · rfl
    · rfl
    · rfl
    · rfl
    · rfl
  refine own_st (fun _ kq_ => XS.astore X36.here hx rfl (hb hby at_111) rfl rfl (l' := #[.val (.long raw), .second, .val (.int sh), .val (.int off), .val (.long vz), .second, .val (.int oo), .val (.ref b20), .unset, .unset]) rfl kq_) ?_
  show OwnG _ _ _ _ _ _ _ (T36.setTop (mkF m 113 #[.val (.long raw), .second, .val (.int sh), .val (.int off), .val (.long vz), .second, .val (.int oo), .val (.ref b20), .unset, .unset] []))
  refine own_st (fun _ kq_ => XS.iconst X36.here hx rfl (hb hby at_113) kq_) ?_
  show OwnG _ _ _ _ _ _ _ (T36.setTop (mkF m 114 #[.val (.long raw), .second, .val (.int sh), .val (.int off), .val (.long vz), .second, .val (.int oo), .val (.ref b20), .unset, .unset] [(.int (1 : Int32))]))
  refine own_st (fun _ kq_ => XS.istore X36.here hx rfl (hb hby at_114) rfl (l' := #[.val (.long raw), .second, .val (.int sh), .val (.int off), .val (.long vz), .second, .val (.int oo), .val (.ref b20), .val (.int (1 : Int32)), .unset]) rfl kq_) ?_
  show OwnG _ _ _ _ _ _ _ (T36.setTop (mkF m 116 #[.val (.long raw), .second, .val (.int sh), .val (.int off), .val (.long vz), .second, .val (.int oo), .val (.ref b20), .val (.int (1 : Int32)), .unset] []))
  have e1 : (1 : Int32) = Int32.ofNat (min N 1) := by rw [show min N 1 = 1 by omega]; rfl
  have e2 : (mkF m 116 #[.val (.long raw), .second, .val (.int sh), .val (.int off), .val (.long vz), .second, .val (.int oo), .val (.ref b20), .val (.int (1 : Int32)), .unset] []) = (mkF m 116 #[.val (.long raw), .second, .val (.int sh), .val (.int off), .val (.long vz), .second, .val (.int oo), .val (.ref b20), .val (.int (Int32.ofNat (min N 1))), .unset] []) := by rw [← e1]
  rw [e2]
  exact own_b116 hx hZ hw hby hml hown hrt hlk raw sh off oo vz u hu N hN1 hN9 h2 h1 oz ho hoo b20 n0 gb X36 e36 N36 (by rw [W36.size, W35.size, W34.size, W33.size, W32.size, W31.size, W30.size, W29.size, W28.size, W27.size, W26.size, W25.size, W24.size, W23.size, W22.size, W21.size]; exact S20) VV
set_option maxRecDepth 65536 in
set_option maxHeartbeats 40000000 in
theorem comes_1 {Post : Tables → Env → Array Value → State → Outcome → State → Prop} (hpost : ∀ tb e args s v u, (limb_1_1.after args s (.returned v) u = true ∧ limb_1_2.after args s (.returned v) u = true ∧ True) → FrameEnd s (.returned v) u (Jvm.fieldLocs frame_1_writes args s ++ Jvm.arrayLocs frame_1_arrays args s ++ Jvm.staticLocs frame_1_statics s) 16 128 → Post tb e args s (.returned v) u) :
    ArmFor flags0 classFile x code maxLocals ret World_1 tables_1 room_1 Calls_1 rest_1 Pre_1 Post := by
  intro l hfl _ _ p e ha hc hk s m args below hf hA hF happ hP
  obtain ⟨hcalls, hrest, hpre⟩ := hP
  obtain ⟨-, -, -, hnamed, -, -, -, hat⟩ := (Spec.applies_iff hf).mp happ
  obtain ⟨hg, hn⟩ := and_e (Cond.before_iff.mp (show (Jvm.Cond.and given_1 narrow_1).before args s = true from hpre))
  obtain ⟨gc, r0⟩ := and_e hg
  obtain ⟨g0, r1⟩ := and_e r0
  obtain ⟨g1, r2⟩ := and_e r1
  obtain ⟨w0, w1, w2, rfl⟩ : ∃ w0 w1 w2 : Value, args = #[w0, w1, w2] := by
    have hs : args.size = 3 := by simpa [Cond.value, given_1] using gc
    obtain ⟨L⟩ := args
    match L, hs with
    | [w0, w1, w2], _ => exact ⟨w0, w1, w2, rfl⟩
  have hw := fun d (hd : d ∈ tables_1) => atoms_spec (ws := Jvm.Cond.code x code maxLocals ret :: tables_1) hat d (List.mem_cons_of_mem _ hd)
  obtain ⟨i0, ei0⟩ := isL_v g0
  obtain rfl : w0 = (.long i0) := Option.some.inj ei0
  obtain ⟨i1, ei1⟩ := is_v g1
  obtain rfl : w1 = (.int i1) := Option.some.inj ei1
  obtain ⟨i2, ei2⟩ := is_v r2
  obtain rfl : w2 = (.int i2) := Option.some.inj ei2
  obtain ⟨n, o, h1, h2, h3, _, L, rfl, ⟨rfl, N⟩, hq⟩ := rm0 l s _ hw tables_1 i0 i1 i2 s.heap s.heap.size (Nat.le_refl _) p e ha hc hk s m _ below hf ((Spec.applies_iff_loose hf).mp happ).1 ⟨rfl, State.Warmed39.refl s, rfl⟩ trivial
  refine ⟨n, _, h1, h2, h3, hpost _ _ _ _ _ _ ⟨Cond.after_iff.mpr rfl, Cond.after_iff.mpr (eq_i res_at (Term.int_eval (1)) rfl), trivial⟩ ⟨hq.1, hq.2.1, (hq.2.2.sift fun y hy => Or.inr (N y hy)).mono (by decide) (by decide)⟩⟩
theorem main_1_1 : Claimed_1_1 := comes_1 fun _ _ _ _ _ _ h hF => ⟨h.1, hF⟩
theorem main_1_2 : Claimed_1_2 := comes_1 fun _ _ _ _ _ _ h hF => ⟨h.2.1, hF⟩
end Jvm.Pilot.@@N@@
namespace Jvm.Pilot.@@N@@
open Jvm Jvm.ClassFile Sem Op Lib Jvm.Free Jvm.Stand Jvm.Pilot.@@N@@.Jvm.D
/-! MADE BY PROGRAM (witnessworld.py) out of the Statement's table words and the real class files: 9 classes; the members and pool entries that the words name. The judged class is class 1, her method 1. -/
namespace start1
open Jvm.ClassFile
def u (s : String) : CpInfo := .utf8 (stringToUtf16 s)
/-- a pool by its gaps: so many unusable entries, then the entry; so many at the end -/
def gap : Nat → List CpInfo → List CpInfo
  | 0, r => r
  | n + 1, r => .unusable :: gap n r
def poolList (es : List (Nat × CpInfo)) (last : Nat) : List CpInfo := es.foldr (fun e r => gap e.1 (e.2 :: r)) (gap last [])
def pool (es : List (Nat × CpInfo)) (last : Nat) : Array CpInfo := ⟨poolList es last⟩
def fileOf (pool : Array CpInfo) (this : Nat) (attrs : Array Attribute := #[]) (ms : Array MethodInfo := #[]) (fl : Nat := 33) (sup : Nat := 0) (ifs : Array Nat := #[]) (fds : Array FieldInfo := #[]) : ClassFile where
  minorVersion := 0
  majorVersion := 65
  constantPool := pool
  accessFlags := fl
  thisClass := this
  superClass := sup
  interfaces := ifs
  fields := fds
  methods := ms
  attributes := attrs
def plain (name : String) (sup : Option ClassId) : Class where
  name := name
  kind := .ordinary
  loader := none
  accessFlags := 33
  super := sup
  interfaces := #[]
  cf := none
  fields := #[]
  methods := #[]
  instanceTypes := #[]
  staticTypes := #[]
  resolved := #[]
  callSites := []
  init := .initialized
  statics := none
  mirror := none

def pool0 : Array CpInfo := pool [(5, u "<init>"), (0, u "()V"), (1, .class_ 10), (1, u "java/lang/Object")] 113

def k0m0 : Method := { name := "<init>", desc := "()V", sig := { parameters := [], returnType := none }, accessFlags := 1, code := none }
/-- java/lang/Object -/
def k0 : Class := { plain "java/lang/Object" none with
  accessFlags := 33
  interfaces := #[]
  cf := some (fileOf pool0 8 #[] #[{ accessFlags := 1, nameIndex := 5, descriptorIndex := 6, attributes := #[] }] 33 0 #[] #[])
  fields := #[]
  methods := #[k0m0]
  instanceTypes := #[]
  staticTypes := #[]
  resolved := Array.replicate 124 none
  statics := none }

def pool1 : Array CpInfo := pool [(2, .class_ 4), (1, u "java/lang/Object"), (0, u "<init>"), (0, u "()V"), (2, .long 9223372036854775807), (1, .long 128), (1, .long 16384), (1, .long 2097152), (1, .long 268435456), (1, .long 34359738368), (1, .long 4398046511104), (1, .long 562949953421312), (1, .long 72057594037927936), (1, .methodref 28 29), (0, .class_ 30), (0, .nameAndType 31 32), (0, u "com/example/posting/posting/index/Encoding"), (0, u "putNumber"), (0, u "([BIJ)I"), (0, .methodref 34 35), (0, .class_ 36), (0, .nameAndType 37 38), (0, u "com/example/posting/posting/index/EncodingPutNumberPinLaw"), (0, u "cell"), (0, u "([BIIIJ)Z"), (0, .long 127), (3, u "law"), (0, u "(JII)Z")] 5

def k1m0 : Method := { name := "<init>", desc := "()V", sig := { parameters := [], returnType := none }, accessFlags := 2, code := none }
def k1c1 : Code := { maxStack := 6, maxLocals := 10, code := code, exceptionTable := #[], attributes := #[] }
def k1m1 : Method := { name := "law", desc := "(JII)Z", sig := { parameters := [.long, .int, .int], returnType := some .boolean }, accessFlags := 9, code := some k1c1 }
def k1c2 : Code := { maxStack := 4, maxLocals := 9, code := method_3_code, exceptionTable := #[], attributes := #[] }
def k1m2 : Method := { name := "cell", desc := "([BIIIJ)Z", sig := { parameters := [(.array .byte), .int, .int, .int, .long], returnType := some .boolean }, accessFlags := 10, code := some k1c2 }
/-- com/example/posting/posting/index/EncodingPutNumberPinLaw -/
def k1 : Class := { plain "com/example/posting/posting/index/EncodingPutNumberPinLaw" (some 0) with
  accessFlags := 49
  interfaces := #[]
  cf := some (fileOf pool1 34 #[] #[{ accessFlags := 2, nameIndex := 5, descriptorIndex := 6, attributes := #[] }, { accessFlags := 9, nameIndex := 43, descriptorIndex := 44, attributes := #[] }, { accessFlags := 10, nameIndex := 37, descriptorIndex := 38, attributes := #[] }] 49 2 #[] #[])
  fields := #[]
  methods := #[k1m0, k1m1, k1m2]
  instanceTypes := #[]
  staticTypes := #[]
  resolved := Array.replicate 50 none
  statics := none }

def pool2 : Array CpInfo := pool [(2, .class_ 4), (1, u "java/lang/Object"), (0, u "<init>"), (0, u "()V"), (0, .class_ 8), (0, u "com/example/posting/posting/index/Encoding"), (2, u "putNumber"), (0, u "([BIJ)I"), (15, .long 128), (1, .long 127), (50, u "MAX_NUMBER_BYTES"), (0, u "I"), (2, u "MAX_POSTING_BYTES")] 37

def k2m0 : Method := { name := "<init>", desc := "()V", sig := { parameters := [], returnType := none }, accessFlags := 2, code := none }
def k2c1 : Code := { maxStack := 6, maxLocals := 7, code := prog_72_method_3_code, exceptionTable := #[], attributes := #[] }
def k2m1 : Method := { name := "putNumber", desc := "([BIJ)I", sig := { parameters := [(.array .byte), .int, .long], returnType := some .int }, accessFlags := 8, code := some k2c1 }
/-- com/example/posting/posting/index/Encoding -/
def k2 : Class := { plain "com/example/posting/posting/index/Encoding" (some 0) with
  accessFlags := 48
  interfaces := #[]
  cf := some (fileOf pool2 7 #[] #[{ accessFlags := 2, nameIndex := 5, descriptorIndex := 6, attributes := #[] }, { accessFlags := 8, nameIndex := 11, descriptorIndex := 12, attributes := #[] }] 48 2 #[] #[{ accessFlags := 24, nameIndex := 81, descriptorIndex := 82, attributes := #[] }, { accessFlags := 24, nameIndex := 85, descriptorIndex := 82, attributes := #[] }])
  fields := #[{ name := "MAX_NUMBER_BYTES", type := .int, accessFlags := 24, slot := 0, constantValue := 0 }, { name := "MAX_POSTING_BYTES", type := .int, accessFlags := 24, slot := 1, constantValue := 0 }]
  methods := #[k2m0, k2m1]
  instanceTypes := #[]
  staticTypes := #[.int, .int]
  resolved := Array.replicate 123 none
  statics := none }

def pool3 : Array CpInfo := pool [(1, u "java/lang/Cloneable"), (0, .class_ 1), (0, u "java/lang/Object"), (0, .class_ 3)] 3

/-- java/lang/Cloneable -/
def k3 : Class := { plain "java/lang/Cloneable" (some 0) with
  accessFlags := 1537
  interfaces := #[]
  cf := some (fileOf pool3 2 #[] #[] 1537 4 #[] #[])
  fields := #[]
  methods := #[]
  instanceTypes := #[]
  staticTypes := #[]
  resolved := Array.replicate 8 none
  statics := none }

def pool4 : Array CpInfo := pool [(1, u "java/io/Serializable"), (0, .class_ 1), (0, u "java/lang/Object"), (0, .class_ 3)] 3

/-- java/io/Serializable -/
def k4 : Class := { plain "java/io/Serializable" (some 0) with
  accessFlags := 1537
  interfaces := #[]
  cf := some (fileOf pool4 2 #[] #[] 1537 4 #[] #[])
  fields := #[]
  methods := #[]
  instanceTypes := #[]
  staticTypes := #[]
  resolved := Array.replicate 8 none
  statics := none }

/-- the primitive byte -/
def k5 : Class := { plain "byte" none with kind := .primitive 'B', accessFlags := 0x411 }
/-- [B -/
def k6 : Class := { plain "[B" (some 0) with kind := .array 5 .byte, interfaces := #[3, 4], accessFlags := 1041 }

/-- the primitive int -/
def k7 : Class := { plain "int" none with kind := .primitive 'I', accessFlags := 0x411 }
/-- [I -/
def k8 : Class := { plain "[I" (some 0) with kind := .array 7 .int, interfaces := #[3, 4], accessFlags := 1041 }

def heap : Heap := #[]
def classes : Array Class := #[k0, k1, k2, k3, k4, k5, k6, k7, k8]
def interned : List (Array UInt16 × Addr) := []
def slotsUsed : Nat := 0
def theMethod : MethodId := ⟨1, 1⟩
def args0 : Array Value := #[.long 300, .int 0, .int 1]
def aboutOver (below : List Frame) : State where
  vm := { classes := classes, interned := interned.toArray }
  heap := heap
  slotsUsed := slotsUsed
  threads := #[{ frames := .invoking theMethod args0 :: below }]
def below0 : List Frame := [.native { method := ⟨0, 0⟩, args := #[] }]
def about1 : State := aboutOver below0
def p0 : Program := .bare "" "" ""
def e0 : Env := launch0.env 0 0 0
theorem w_frames : about1.frames = Frame.invoking theMethod args0 :: below0 := rfl
set_option maxRecDepth 65536 in
theorem w_args : argsFit about1.vm theMethod args0 = true := by decide +kernel
set_option maxRecDepth 65536 in
theorem w_heap : heapFits about1 = true := by decide +kernel
set_option maxRecDepth 65536 in
theorem w_runnable : about1.curStatus? = some .runnable := by decide +kernel
set_option maxRecDepth 65536 in
theorem w_alone : about1.alone = true := by decide +kernel
set_option maxRecDepth 65536 in
theorem w_named : about1.methodNamed? x = some theMethod := by decide +kernel
set_option maxRecDepth 65536 in
theorem w_hears : about1.hears theMethod below0 = true := by decide +kernel
set_option maxRecDepth 65536 in
theorem w_ripe : about1.ripe theMethod args0 below0 = true := by decide +kernel
theorem w_running : about1.status = .running := rfl
set_option maxRecDepth 65536 in
theorem w_room : about1.hasRoom e0.platform room_1 = true :=
  launch0.hasRoom_least _ room_1 (by decide +kernel) (by decide +kernel) (by decide +kernel) (by decide +kernel) (by decide +kernel) (by decide +kernel)
theorem allAtoms_all (ts : List Jvm.Cond) (a : Array Jvm.Value) (st : Jvm.State) : (allAtoms ts).before a st = ts.all (fun c => c.before a st) := by
  induction ts with
  | nil => rfl
  | cons c t ih =>
    show (Jvm.Cond.and c (allAtoms t)).before a st = _
    rw [Jvm.Cond.before_and, ih, List.all_cons]
def words1 : List Jvm.Cond := Jvm.Cond.code x code maxLocals ret :: tables_1
/-- a 'code' word, met by the world's own term for the bytes: nothing is compared byte by byte -/
theorem code_word {y : MethodName} {bytes : ByteArray} {mx : Nat} {rt : Option FieldType} {a : Array Value} {s : State} {m : MethodId} {meth : Method} {c : Code} (h1 : s.methodNamed? y = some m) (h2 : s.vm.method? m = some meth) (h3 : meth.code = some c) (h4 : c.code = bytes)
    (h5 : (c.maxLocals == mx && c.exceptionTable.isEmpty && decide (c.maxStack ≤ mostOperands) && decide (meth.sig.returnType = rt) && !meth.locks && decide (parseMethodDescriptor y.desc = some meth.sig)) = true) : (Jvm.Cond.code y bytes mx rt).before a s = true := by
  simp only [Bool.and_eq_true, beq_iff_eq, Bool.not_eq_true', decide_eq_true_eq] at h5
  obtain ⟨⟨⟨⟨⟨g1, g2⟩, g3⟩, g4⟩, g5⟩, g6⟩ := h5
  simp [Cond.before, Cond.holds, Cond.value, h1, h2, h3, h4, g1, g2, g3, g4, g5, g6]
def isCode : Jvm.Cond → Bool
  | .code _ _ _ _ => true
  | _ => false
theorem all_split {L : List Jvm.Cond} {P : Jvm.Cond → Bool} (h1 : L.all (fun c => isCode c || P c) = true) (h2 : ∀ c ∈ L.filter isCode, P c = true) : L.all P = true := by
  refine List.all_eq_true.mpr fun c hc => ?_
  have h := List.all_eq_true.mp h1 c hc
  rcases Bool.eq_false_or_eq_true (isCode c) with hi | hi
  · exact h2 c (List.mem_filter.mpr ⟨hc, hi⟩)
  · simpa [hi] using h
set_option maxRecDepth 65536 in
theorem w_c0 : (Jvm.Cond.code x code maxLocals ret).before args0 about1 = true := code_word (m := ⟨1, 1⟩) (meth := k1m1) (c := k1c1) (by decide +kernel) rfl rfl rfl (by decide +kernel)
set_option maxRecDepth 65536 in
theorem w_c1 : (Jvm.Cond.code ({ cls := "com/example/posting/posting/index/Encoding", name := "putNumber", desc := "([BIJ)I" } : Jvm.MethodName) prog_72_method_3_code (7 : Nat) (Option.some Jvm.ClassFile.FieldType.int)).before args0 about1 = true := code_word (m := ⟨2, 1⟩) (meth := k2m1) (c := k2c1) (by decide +kernel) rfl rfl rfl (by decide +kernel)
set_option maxRecDepth 65536 in
theorem w_c2 : (Jvm.Cond.code ({ cls := "com/example/posting/posting/index/EncodingPutNumberPinLaw", name := "cell", desc := "([BIIIJ)Z" } : Jvm.MethodName) method_3_code (9 : Nat) (Option.some Jvm.ClassFile.FieldType.boolean)).before args0 about1 = true := code_word (m := ⟨1, 2⟩) (meth := k1m2) (c := k1c2) (by decide +kernel) rfl rfl rfl (by decide +kernel)
def codes1 : List Jvm.Cond := [Jvm.Cond.code x code maxLocals ret, Jvm.Cond.code ({ cls := "com/example/posting/posting/index/Encoding", name := "putNumber", desc := "([BIJ)I" } : Jvm.MethodName) prog_72_method_3_code (7 : Nat) (Option.some Jvm.ClassFile.FieldType.int), Jvm.Cond.code ({ cls := "com/example/posting/posting/index/EncodingPutNumberPinLaw", name := "cell", desc := "([BIIIJ)Z" } : Jvm.MethodName) method_3_code (9 : Nat) (Option.some Jvm.ClassFile.FieldType.boolean)]
set_option maxRecDepth 65536 in
theorem codes_eq : words1.filter isCode = codes1 := rfl
theorem w_codes : ∀ c ∈ words1.filter isCode, c.before args0 about1 = true := by
  rw [codes_eq]
  intro c hc
  simp only [codes1, List.mem_cons, List.not_mem_nil, or_false] at hc
  rcases hc with rfl | rfl | rfl
  · exact w_c0
  · exact w_c1
  · exact w_c2
set_option maxRecDepth 65536 in
theorem w_t1 : words1.all (fun c => isCode c || c.before args0 about1) = true := by decide +kernel
theorem w_tables : (allAtoms (Jvm.Cond.code x code maxLocals ret :: tables_1)).before args0 about1 = true := by
  rw [allAtoms_all]
  show words1.all (fun c => c.before args0 about1) = true
  refine all_split ?_ w_codes
  rw [w_t1]
set_option maxRecDepth 65536 in
theorem w_case : (Jvm.Cond.and given_1 narrow_1).before args0 about1 = true := by decide +kernel
theorem w_applies : (headSpec (Jvm.Cond.code x code maxLocals ret :: tables_1) room_1).applies x e0.platform about1 = true :=
  (Spec.applies_iff w_frames).mpr ⟨w_running, w_runnable, w_alone, w_named, w_hears, w_ripe, w_room, w_tables⟩
theorem atStart : AtStart classFile x code maxLocals ret World_1 tables_1 room_1 Calls_1 rest_1 Pre_1 launch0 p0 e0 about1 theMethod args0 below0 :=
  ⟨lists_1, trivial, launch0.admits_env _ _ _, launch0.least_env, fairChoices_fair.cas, fairChoices_fair.clock, w_frames, w_args, w_heap, w_applies, trivial, trivial, w_case⟩
end start1
theorem witness_1 : WitnessClaimed_1 := ⟨start1.p0, start1.e0, start1.about1, start1.theMethod, start1.args0, start1.below0, start1.atStart⟩
end Jvm.Pilot.@@N@@
