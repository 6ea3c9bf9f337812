import JvmDerived
import JvmDerived.Pilot.@@N@@Statement
import JvmDerived.Pilot.@@N@@Code
set_option linter.unusedVariables false
set_option linter.unusedSimpArgs false
namespace Jvm.Pilot.@@N@@
open Jvm Jvm.ClassFile Sem Op Lib Jvm.Free Jvm.Stand Jvm.LawKit Jvm.RoadKit Bundle Jvm.Pilot.@@N@@.Jvm.D
/-- from the state σ the run comes to an end that Q allows -/
def OwnG (rc rs : Nat) (Q : Option Value → Heap → List Loc → Prop) (p : Program) (e : Env) (below : List Frame) (s σ : State) : Prop :=
  ∃ s₂ o, Steps p.tables e below σ s₂ ∧ s₂.status = .running ∧ Ended s₂ below o ∧ ∃ v L, o = .returned v ∧ Q v s₂.heap L ∧ FrameEnd s o s₂ L rc rs
section Own
variable {p : Program} {l : Launch} {e : Env} {R : Room} {s : State} {m : MethodId} {args : Array Value} {below : List Frame} {meth : Method} {c : Code} {T σ σ' : State} {locs : List Loc} {cells slots rc rs : Nat} {Q : Option Value → Heap → List Loc → Prop}
theorem own_st (h : ∀ target, Steps p.tables e below σ' target → Steps p.tables e below σ target) (g : OwnG rc rs Q p e below s σ') : OwnG rc rs Q p e below s σ := by
  obtain ⟨s₂, o, h1, r⟩ := g; exact ⟨s₂, o, h _ h1, r⟩
theorem own_go (h : Steps p.tables e below σ σ') (g : OwnG rc rs Q p e below s σ') : OwnG rc rs Q p e below s σ := by
  obtain ⟨s₂, o, h1, r⟩ := g; exact ⟨s₂, o, h.trans h1, r⟩
theorem own_retN (X : Stand p l e R s m args below meth c T locs cells slots) (hx : p.tables.exec = Jvm.exec) {pc : Nat} {Ls : Array Slot} {z : Int32} {rest : List Value} {t : FieldType} (hret : meth.sig.returnType = some t) (hlk : meth.locks = false) (ht : t = .boolean ∨ t = .byte ∨ t = .char ∨ t = .short)
    (hd : decode c.code pc = .ok (.ireturn, 1)) (hc : cells ≤ rc) (hs : slots ≤ rs) (hQ : Q (some (.int (nar t z))) T.heap locs) : OwnG rc rs Q p e below s (T.setTop (mkF m pc Ls (.int z :: rest))) := by
  obtain ⟨fs, hr, hrun, hended, hW, hsame⟩ := X.leave (v := some (.int (nar t z))) (fun h => by rw [hret] at h; cases h) hlk
  exact ⟨_, _, retN X hx hret ht hd hr, hrun, hended, _, _, rfl, hQ, ⟨_, rfl⟩, hW, hsame.mono hc hs⟩
theorem own_retI (X : Stand p l e R s m args below meth c T locs cells slots) (hx : p.tables.exec = Jvm.exec) {pc : Nat} {Ls : Array Slot} {z : Int32} {rest : List Value} (hret : meth.sig.returnType = some .int) (hlk : meth.locks = false)
    (hd : decode c.code pc = .ok (.ireturn, 1)) (hc : cells ≤ rc) (hs : slots ≤ rs) (hQ : Q (some (.int z)) T.heap locs) : OwnG rc rs Q p e below s (T.setTop (mkF m pc Ls (.int z :: rest))) := by
  obtain ⟨fs, hr, hrun, hended, hW, hsame⟩ := X.leave (v := some (.int z)) (fun h => by rw [hret] at h; cases h) hlk
  exact ⟨_, _, retOut X hx hret rfl (Or.inl ⟨rfl, Or.inl rfl, _, rfl⟩) hd hr, hrun, hended, _, _, rfl, hQ, ⟨_, rfl⟩, hW, hsame.mono hc hs⟩
theorem own_retJ (X : Stand p l e R s m args below meth c T locs cells slots) (hx : p.tables.exec = Jvm.exec) {pc : Nat} {Ls : Array Slot} {z : Int64} {rest : List Value} (hret : meth.sig.returnType = some .long) (hlk : meth.locks = false)
    (hd : decode c.code pc = .ok (.lreturn, 1)) (hc : cells ≤ rc) (hs : slots ≤ rs) (hQ : Q (some (.long z)) T.heap locs) : OwnG rc rs Q p e below s (T.setTop (mkF m pc Ls (.long z :: rest))) := by
  obtain ⟨fs, hr, hrun, hended, hW, hsame⟩ := X.leave (v := some (.long z)) (fun h => by rw [hret] at h; cases h) hlk
  exact ⟨_, _, retOut X hx hret rfl (Or.inr (Or.inl ⟨rfl, rfl, _, rfl⟩)) hd hr, hrun, hended, _, _, rfl, hQ, ⟨_, rfl⟩, hW, hsame.mono hc hs⟩
theorem own_retA (X : Stand p l e R s m args below meth c T locs cells slots) (hx : p.tables.exec = Jvm.exec) {pc : Nat} {Ls : Array Slot} {a : Addr} {rest : List Value} {t : FieldType} (hret : meth.sig.returnType = some t) (hlk : meth.locks = false) (ht : t.isReference = true)
    (hd : decode c.code pc = .ok (.areturn, 1)) (hc : cells ≤ rc) (hs : slots ≤ rs) (hQ : Q (some (.ref a)) T.heap locs) : OwnG rc rs Q p e below s (T.setTop (mkF m pc Ls (.ref a :: rest))) := by
  obtain ⟨fs, hr, hrun, hended, hW, hsame⟩ := X.leave (v := some (.ref a)) (fun h => by rw [hret] at h; cases h) hlk
  exact ⟨_, _, retOut X hx hret (by cases t <;> first | rfl | cases ht) (Or.inr (Or.inr (Or.inr (Or.inr ⟨rfl, ht, rfl⟩)))) hd hr, hrun, hended, _, _, rfl, hQ, ⟨_, rfl⟩, hW, hsame.mono hc hs⟩
theorem own_retV (X : Stand p l e R s m args below meth c T locs cells slots) (hx : p.tables.exec = Jvm.exec) {pc : Nat} {Ls : Array Slot} (hret : meth.sig.returnType = none) (hlk : meth.locks = false)
    (hd : decode c.code pc = .ok (.return_, 1)) (hc : cells ≤ rc) (hs : slots ≤ rs) (hQ : Q none T.heap locs) : OwnG rc rs Q p e below s (T.setTop (mkF m pc Ls [])) := by
  obtain ⟨fs, hr, hrun, hended, hW, hsame⟩ := X.leave (v := none) (fun _ => rfl) hlk
  exact ⟨_, _, X.returnOut hx hret hd hr, hrun, hended, _, _, rfl, hQ, ⟨_, rfl⟩, hW, hsame.mono hc hs⟩
end Own
/-! arrays, by a function that says what each place holds -/
def Ary (Z : State) (h : Heap) (a : Addr) (ty : FieldType) (n : Nat) (f : Nat → Value) : Prop :=
  ∃ cl : Cell, Arr Z h a cl ty ∧ cl.slots.size = n ∧ n < 2147483648 ∧ (∀ j, j < n → cl.slots[j]? = some (f j)) ∧ ∀ j, j < n → fits ty (f j) = true
def own_up (f : Nat → Value) (i : Nat) (v : Value) : Nat → Value := fun j => if j = i then v else f j
section Arrays
variable {p : Program} {l : Launch} {e : Env} {R : Room} {s : State} {m : MethodId} {args : Array Value} {below : List Frame} {meth : Method} {c : Code} {T : State} {locs : List Loc} {cells slots : Nat} {Z : State} {h h' : Heap} {a b : Addr} {ty : FieldType} {n : Nat} {f f' : Nat → Value} {ws : List Addr} {sl : Nat} {v : Value}
theorem Ary.lt (A : Ary Z h a ty n f) : a < h.size := by obtain ⟨cl, A1, -⟩ := A; exact A1.lt
theorem Ary.ext (A : Ary Z h a ty n f) (E : Ext h h') : Ary Z h' a ty n f := by obtain ⟨cl, A1, r⟩ := A; exact ⟨cl, A1.ext E, r⟩
theorem Ary.other (A : Ary Z h a ty n f) (W : Wr h h' b sl v) (q : a ≠ b) : Ary Z h' a ty n f := by obtain ⟨cl, A1, r⟩ := A; exact ⟨cl, A1.other W q, r⟩
theorem Ary.keep (A : Ary Z h a ty n f) (K : Keep h h' ws) (q : a ∉ ws) : Ary Z h' a ty n f := by obtain ⟨cl, A1, r⟩ := A; exact ⟨cl, ⟨K.2.1 a cl A1.1 q, A1.2⟩, r⟩
theorem Ary.cong (A : Ary Z h a ty n f) (q : ∀ j, j < n → f j = f' j) : Ary Z h a ty n f' := by
  obtain ⟨cl, A1, r1, r2, r3, r4⟩ := A
  exact ⟨cl, A1, r1, r2, fun j hj => by rw [← q j hj]; exact r3 j hj, fun j hj => by rw [← q j hj]; exact r4 j hj⟩
theorem own_clamp {j : Int32} {i : Nat} (hj : j.toInt = (i : Int)) : j.toNatClampNeg = i ∧ ¬ j < 0 := by
  refine ⟨by rw [Int32.toNatClampNeg, hj]; rfl, ?_⟩
  rw [Int32.lt_iff_toInt_lt, hj]; have : (0 : Int32).toInt = 0 := rfl; omega
theorem own_in {cl : Cell} {j : Int32} {i : Nat} (hj : j.toInt = (i : Int)) (hs : cl.slots.size = n) (hi : i < n) : ¬ (j < 0 ∨ cl.slots.size ≤ j.toNatClampNeg) := by
  obtain ⟨h1, h2⟩ := own_clamp hj
  rintro (q | q)
  · exact h2 q
  · rw [h1, hs] at q; omega
theorem own_bl (X : Stand p l e R s m args below meth c T locs cells slots) (hx : p.tables.exec = Jvm.exec) (hZ : Z.Warmed39 s.vm) (eT : T.heap = h) (A : Ary Z h a .byte n f) {j : Int32} (i : Nat) (hj : j.toInt = (i : Int)) (hi : i < n) (hv : f i = v)
    {g : JFrame} (hg : g.method = m) {rest : List Value} (hs : g.stack = .int j :: .ref a :: rest) (hd : decode c.code g.pc = .ok (.baload, 1)) :
    ∀ target, Steps p.tables e below (T.setTop { g with pc := g.pc + 1, stack := v :: rest }) target → Steps p.tables e below (T.setTop g) target := by
  obtain ⟨cl, A1, r1, r2, r3, r4⟩ := A
  exact X.baloadBytes hx (by rw [eT]; exact A1.1) (State.isArrayOf_alike hZ.alike A1.2.1) A1.2.2 (own_in hj r1 hi) (by rw [(own_clamp hj).1, ← hv]; exact r3 i hi) hg hs hd
theorem own_il (X : Stand p l e R s m args below meth c T locs cells slots) (hx : p.tables.exec = Jvm.exec) (hZ : Z.Warmed39 s.vm) (eT : T.heap = h) (A : Ary Z h a .int n f) {j : Int32} (i : Nat) (hj : j.toInt = (i : Int)) (hi : i < n) (hv : f i = v)
    {g : JFrame} (hg : g.method = m) {rest : List Value} (hs : g.stack = .int j :: .ref a :: rest) (hd : decode c.code g.pc = .ok (.iaload, 1)) :
    ∀ target, Steps p.tables e below (T.setTop { g with pc := g.pc + 1, stack := v :: rest }) target → Steps p.tables e below (T.setTop g) target := by
  obtain ⟨cl, A1, r1, r2, r3, r4⟩ := A
  exact X.iaload hx (by rw [eT]; exact A1.1) (State.isArrayOf_alike hZ.alike A1.2.1) A1.2.2 (own_in hj r1 hi) (by rw [(own_clamp hj).1, ← hv]; exact r3 i hi) hg hs hd
theorem own_len (X : Stand p l e R s m args below meth c T locs cells slots) (hx : p.tables.exec = Jvm.exec) (hZ : Z.Warmed39 s.vm) (eT : T.heap = h) (A : Ary Z h a ty n f) {z : Int32} (hz : z = Int32.ofNat n)
    {g : JFrame} (hg : g.method = m) {rest : List Value} (hs : g.stack = .ref a :: rest) (hd : decode c.code g.pc = .ok (.arraylength, 1)) :
    ∀ target, Steps p.tables e below (T.setTop { g with pc := g.pc + 1, stack := .int z :: rest }) target → Steps p.tables e below (T.setTop g) target := by
  obtain ⟨cl, A1, r1, r2, r3, r4⟩ := A
  intro target k
  refine X.arraylength hx (by rw [eT]; exact A1.1) (State.isArrayOf_alike hZ.alike A1.2.1) hg hs hd target ?_
  rw [r1]; rw [hz] at k; exact k
theorem Ary.wr (A : Ary Z h a ty n f) {i : Nat} (hi : i < n) (W : Wr h h' a i v) (hf : fits ty v = true) : Ary Z h' a ty n (own_up f i v) := by
  obtain ⟨cl, A1, r1, r2, r3, r4⟩ := A
  refine ⟨_, A1.same W, by rw [sz_set]; exact r1, r2, fun j hj => ?_, fun j hj => ?_⟩
  · by_cases q : j = i
    · subst q; simp [own_up, Cell.setSlot, r1, hi]
    · simp only [own_up, if_neg q, Cell.setSlot]; rw [Array.getElem?_setIfInBounds_ne (Ne.symm q)]; exact r3 j hj
  · by_cases q : j = i
    · subst q; simp only [own_up, if_true]; exact hf
    · simp only [own_up, if_neg q]; exact r4 j hj
theorem own_sB (X : Stand p l e R s m args below meth c T locs cells slots) (hx : p.tables.exec = Jvm.exec) (hZ : Z.Warmed39 s.vm) (eT : T.heap = h) (A : Ary Z h a .byte n f) {j x : Int32} (i : Nat) (hj : j.toInt = (i : Int)) (hi : i < n)
    {g : JFrame} (hg : g.method = m) {rest : List Value} (hs : g.stack = .int x :: .int j :: .ref a :: rest) (hd : decode c.code g.pc = .ok (.bastore, 1)) :
    ∃ T' h', Stand p l e R s m args below meth c T' (locs ++ [⟨a, i⟩]) cells slots ∧ T'.heap = h' ∧ Wr h h' a i (.int (x.toInt8.toInt32)) ∧ Ary Z h' a .byte n (own_up f i (.int (x.toInt8.toInt32))) ∧ ∀ target, Steps p.tables e below (T'.setTop { g with pc := g.pc + 1, stack := rest }) target → Steps p.tables e below (T.setTop g) target := by
  obtain ⟨cl, A1, r1, r⟩ := A
  obtain ⟨T', h', X', e', W, st⟩ := stB X hx hZ eT A1 (own_in hj r1 hi) hg hs hd
  rw [(own_clamp hj).1] at X' W
  exact ⟨T', h', X', e', W, Ary.wr ⟨cl, A1, r1, r⟩ hi W (fits_nar_byte x), st⟩
theorem own_sZ (X : Stand p l e R s m args below meth c T locs cells slots) (hx : p.tables.exec = Jvm.exec) (hZ : Z.Warmed39 s.vm) (eT : T.heap = h) (A : Ary Z h a .boolean n f) {j x : Int32} (i : Nat) (hj : j.toInt = (i : Int)) (hi : i < n)
    {g : JFrame} (hg : g.method = m) {rest : List Value} (hs : g.stack = .int x :: .int j :: .ref a :: rest) (hd : decode c.code g.pc = .ok (.bastore, 1)) :
    ∃ T' h', Stand p l e R s m args below meth c T' (locs ++ [⟨a, i⟩]) cells slots ∧ T'.heap = h' ∧ Wr h h' a i (.int (nar .boolean x)) ∧ Ary Z h' a .boolean n (own_up f i (.int (nar .boolean x))) ∧ ∀ target, Steps p.tables e below (T'.setTop { g with pc := g.pc + 1, stack := rest }) target → Steps p.tables e below (T.setTop g) target := by
  obtain ⟨cl, A1, r1, r⟩ := A
  obtain ⟨T', h', X', e', W, st⟩ := stZ X hx hZ eT A1 (own_in hj r1 hi) hg hs hd
  rw [(own_clamp hj).1] at X' W
  exact ⟨T', h', X', e', W, Ary.wr ⟨cl, A1, r1, r⟩ hi W (fits_nar_bool x), st⟩
theorem own_sI (X : Stand p l e R s m args below meth c T locs cells slots) (hx : p.tables.exec = Jvm.exec) (hZ : Z.Warmed39 s.vm) (eT : T.heap = h) (A : Ary Z h a .int n f) {j x : Int32} (i : Nat) (hj : j.toInt = (i : Int)) (hi : i < n)
    {g : JFrame} (hg : g.method = m) {rest : List Value} (hs : g.stack = .int x :: .int j :: .ref a :: rest) (hd : decode c.code g.pc = .ok (.iastore, 1)) :
    ∃ T' h', Stand p l e R s m args below meth c T' (locs ++ [⟨a, i⟩]) cells slots ∧ T'.heap = h' ∧ Wr h h' a i (.int x) ∧ Ary Z h' a .int n (own_up f i (.int x)) ∧ ∀ target, Steps p.tables e below (T'.setTop { g with pc := g.pc + 1, stack := rest }) target → Steps p.tables e below (T.setTop g) target := by
  obtain ⟨cl, A1, r1, r⟩ := A
  obtain ⟨T', h', X', e', W, st⟩ := stI X hx hZ eT A1 (own_in hj r1 hi) hg hs hd
  rw [(own_clamp hj).1] at X' W
  exact ⟨T', h', X', e', W, Ary.wr ⟨cl, A1, r1, r⟩ hi W rfl, st⟩
theorem own_new (X : Stand p l e R s m args below meth c T locs cells slots) (hx : p.tables.exec = Jvm.exec) (hZ : Z.Warmed39 s.vm) {a0 : Array Value} {aty : ArrayType} (w : (Cond.arrayClass (newarray.typeOf aty)).before a0 Z = true) (eT : T.heap = h) {g : JFrame} (hg : g.method = m) (hd : decode c.code g.pc = .ok (.newarray aty, 2)) {z : Int32} {rest : List Value} (hs : g.stack = .int z :: rest)
    (k : Nat) (hk : z.toInt = (k : Int)) {cap : Nat} (hcap : k ≤ cap) (hb : cap * 8 ≤ 536870912) (hc : cells + 1 ≤ R.cells) (hl : slots + cap ≤ R.slots) :
    ∃ T' h', Stand p l e R s m args below meth c T' locs (cells + 1) (slots + cap) ∧ T'.heap = h' ∧ Ext h h' ∧ Ary Z h' h.size (newarray.typeOf aty) k (fun _ => defaultValue (newarray.typeOf aty)) ∧
      ∀ target, Steps p.tables e below (T'.setTop { g with pc := g.pc + 2, stack := .ref h.size :: rest }) target → Steps p.tables e below (T.setTop g) target := by
  obtain ⟨h1, h2⟩ := own_clamp hk
  obtain ⟨T', h', cA, X', e', E, A, st⟩ := newP X hx hZ w eT hg hd hs h2 (cap := cap) (by rw [h1]; exact hcap) hb hc hl
  refine ⟨T', h', X', e', E, ⟨_, A, by rw [sz_new, h1], by have := rng32 z; omega, fun j hj => ?_, fun j _ => by cases aty <;> rfl⟩, st⟩
  simp [newA, h1, hj]
end Arrays

def own_byte (x y : Int64) : Nat → Int32
  | 0 => ((x.toInt32).toInt8.toInt32)
  | 1 => ((((x.toUInt64 >>> ((8 : Int32) &&& 0x3f).toInt64.toUInt64).toInt64).toInt32).toInt8.toInt32)
  | 2 => ((((x.toUInt64 >>> ((16 : Int32) &&& 0x3f).toInt64.toUInt64).toInt64).toInt32).toInt8.toInt32)
  | 3 => ((((x.toUInt64 >>> ((24 : Int32) &&& 0x3f).toInt64.toUInt64).toInt64).toInt32).toInt8.toInt32)
  | 4 => ((((x.toUInt64 >>> ((32 : Int32) &&& 0x3f).toInt64.toUInt64).toInt64).toInt32).toInt8.toInt32)
  | 5 => ((((x.toUInt64 >>> ((40 : Int32) &&& 0x3f).toInt64.toUInt64).toInt64).toInt32).toInt8.toInt32)
  | 6 => ((((x.toUInt64 >>> ((48 : Int32) &&& 0x3f).toInt64.toUInt64).toInt64).toInt32).toInt8.toInt32)
  | 7 => ((((x.toUInt64 >>> ((56 : Int32) &&& 0x3f).toInt64.toUInt64).toInt64).toInt32).toInt8.toInt32)
  | 8 => ((y.toInt32).toInt8.toInt32)
  | 9 => ((((y.toUInt64 >>> ((8 : Int32) &&& 0x3f).toInt64.toUInt64).toInt64).toInt32).toInt8.toInt32)
  | 10 => ((((y.toUInt64 >>> ((16 : Int32) &&& 0x3f).toInt64.toUInt64).toInt64).toInt32).toInt8.toInt32)
  | 11 => ((((y.toUInt64 >>> ((24 : Int32) &&& 0x3f).toInt64.toUInt64).toInt64).toInt32).toInt8.toInt32)
  | 12 => ((((y.toUInt64 >>> ((32 : Int32) &&& 0x3f).toInt64.toUInt64).toInt64).toInt32).toInt8.toInt32)
  | 13 => ((((y.toUInt64 >>> ((40 : Int32) &&& 0x3f).toInt64.toUInt64).toInt64).toInt32).toInt8.toInt32)
  | 14 => ((((y.toUInt64 >>> ((48 : Int32) &&& 0x3f).toInt64.toUInt64).toInt64).toInt32).toInt8.toInt32)
  | _ => ((((y.toUInt64 >>> ((56 : Int32) &&& 0x3f).toInt64.toUInt64).toInt64).toInt32).toInt8.toInt32)
theorem own_by (z : Int32) : z.toInt8.toInt32.toInt8.toInt32 = z.toInt8.toInt32 := by simp
def own_acc (B : Nat → Int32) (t : Nat) : Nat → Int64 → Int64
  | 0, V => V
  | r + 1, V => own_acc B t r ((V <<< ((8 : Int32) &&& 0x3f).toInt64) ||| ((B (t + r) &&& (255 : Int32)).toInt64))
def own_vb (x y : Int64) (k : Nat) : Bool := if k < 64 then x.toBitVec.getLsbD k else y.toBitVec.getLsbD (k - 64)
def own_low (x y : Int64) (t : Nat) (lo : Int64) : Prop := ∀ i, i < 64 → lo.toBitVec.getLsbD i = own_vb x y (8 * t + i)
theorem own_dec (i : Int32) (h : -2147483648 < i.toInt) : (i + (-1 : Int32)).toInt = i.toInt - 1 := by
  have h1 := c_iadd i (-1); have h2 := rng32 (i + (-1)); have h3 := rng32 i; have h4 : (-1 : Int32).toInt = -1 := rfl; omega
theorem own_start (t wd : Nat) (ht : t ≤ 8) (hwd : wd ≤ 8) : ((Int32.ofNat t + Int32.ofNat wd) - (1 : Int32)).toInt = (t : Int) + wd - 1 := by
  have h : ∀ t : Fin 9, ∀ wd : Fin 9, ((Int32.ofNat t.val + Int32.ofNat wd.val) - (1 : Int32)).toInt = (t.val : Int) + wd.val - 1 := by decide +kernel
  exact h ⟨t, by omega⟩ ⟨wd, by omega⟩
theorem own_mod9 (a : Int32) : ∃ t : Nat, t ≤ 8 ∧ ((a &&& (2147483647 : Int32)) % (9 : Int32)) = Int32.ofNat t := by
  have h0 : 0 ≤ (a &&& (2147483647 : Int32)).toInt := (c_andS a 2147483647).2.2 (by decide)
  have h1 := (c_irem (a &&& (2147483647 : Int32)) 9 9 rfl).1 h0
  refine ⟨((a &&& (2147483647 : Int32)) % (9 : Int32)).toInt.toNat, by omega, Int32.toInt_inj.mp ?_⟩
  rw [Int32.toInt_ofNat_of_lt (by omega)]; omega
theorem own_shr (x : Int64) (n : UInt64) (k : Nat) (hn : n.toNat = k) (hk : k < 64) (i : Nat) : ((x.toUInt64 >>> n).toInt64).toBitVec.getLsbD i = x.toBitVec.getLsbD (k + i) := by
  show (x.toUInt64 >>> n).toBitVec.getLsbD i = _
  rw [UInt64.toBitVec_shiftRight]
  have : (n.toBitVec % 64).toNat = k := by
    rw [BitVec.toNat_umod]; show n.toNat % 64 = k; omega
  rw [BitVec.ushiftRight_eq', this, BitVec.getLsbD_ushiftRight]; rfl
theorem own_shl (y n : Int64) (k : Nat) (hn : (n.toBitVec.smod 64).toNat = k) (i : Nat) : (y <<< n).toBitVec.getLsbD i = (decide (i < 64) && !decide (i < k) && y.toBitVec.getLsbD (i - k)) := by
  rw [Int64.toBitVec_shiftLeft, BitVec.shiftLeft_eq', hn, BitVec.getLsbD_shiftLeft]
theorem own_lo8 (z : Int32) (i : Nat) : ((z.toInt8.toInt32 &&& (255 : Int32)).toInt64).toBitVec.getLsbD i = (decide (i < 8) && z.toBitVec.getLsbD i) := by
  have hb : ∀ i : Fin 32, (255#32).getLsbD i.val = decide (i.val < 8) := by decide
  have e : (z.toInt8.toInt32 &&& (255 : Int32)).toBitVec = (z.toBitVec.setWidth 8).setWidth 32 := by
    apply BitVec.eq_of_getLsbD_eq
    intro i hi
    have h1 := hb ⟨i, hi⟩
    simp only at h1
    show (((z.toBitVec.signExtend 8).signExtend 32) &&& 255#32).getLsbD i = _
    rw [BitVec.getLsbD_and, h1, BitVec.getLsbD_signExtend, BitVec.signExtend_eq_setWidth_of_le _ (by decide : 8 ≤ 32), BitVec.getLsbD_setWidth, BitVec.getLsbD_setWidth, BitVec.getLsbD_setWidth]
    generalize z.toBitVec.getLsbD i = q
    by_cases h8 : i < 8
    · simp [h8, hi]
    · simp [h8]
  show ((z.toInt8.toInt32 &&& (255 : Int32)).toBitVec.signExtend 64).getLsbD i = _
  rw [e]
  have hm : ((z.toBitVec.setWidth 8).setWidth 32).msb = false := by
    rw [BitVec.msb_setWidth]; simp
  rw [BitVec.signExtend_eq_setWidth_of_msb_false hm, BitVec.getLsbD_setWidth, BitVec.getLsbD_setWidth, BitVec.getLsbD_setWidth]
  by_cases h8 : i < 8
  · simp [h8, show i < 64 by omega, show i < 32 by omega]
  · simp [h8]
theorem own_l2i (w : Int64) (i : Nat) (hi : i < 8) : (w.toInt32).toBitVec.getLsbD i = w.toBitVec.getLsbD i := by
  show (w.toBitVec.signExtend 32).getLsbD i = _
  rw [BitVec.signExtend_eq_setWidth_of_le _ (by omega), BitVec.getLsbD_setWidth]; simp; omega
theorem own_bx (x : Int64) (n : UInt64) (k : Nat) (hn : n.toNat = k) (hk : k < 64) (i : Nat) : ((((x.toUInt64 >>> n).toInt64).toInt32.toInt8.toInt32 &&& (255 : Int32)).toInt64).toBitVec.getLsbD i = (decide (i < 8) && x.toBitVec.getLsbD (k + i)) := by
  rw [own_lo8]
  by_cases h8 : i < 8
  · rw [own_l2i _ _ h8, own_shr x n k hn hk]
  · simp [h8]
theorem own_b0 (x : Int64) (i : Nat) : ((x.toInt32.toInt8.toInt32 &&& (255 : Int32)).toInt64).toBitVec.getLsbD i = (decide (i < 8) && x.toBitVec.getLsbD (0 + i)) := by
  rw [own_lo8]
  by_cases h8 : i < 8
  · rw [own_l2i _ _ h8, Nat.zero_add]
  · simp [h8]
theorem own_vx (x y : Int64) (b : Bool) (j i : Nat) (hj : j < 8) (h : b = (decide (i < 8) && x.toBitVec.getLsbD (8 * j + i))) : b = (decide (i < 8) && own_vb x y (8 * j + i)) := by
  rw [h]
  by_cases h8 : i < 8
  · rw [own_vb, if_pos (by omega)]
  · simp [h8]
theorem own_vy (x y : Int64) (b : Bool) (j i : Nat) (hj : j < 8) (h : b = (decide (i < 8) && y.toBitVec.getLsbD (8 * j + i))) : b = (decide (i < 8) && own_vb x y (8 * (j + 8) + i)) := by
  rw [h]
  by_cases h8 : i < 8
  · rw [own_vb, if_neg (by omega), show 8 * (j + 8) + i - 64 = 8 * j + i by omega]
  · simp [h8]
theorem own_bit (x y : Int64) (j : Nat) (hj : j < 16) (i : Nat) : ((own_byte x y j &&& (255 : Int32)).toInt64).toBitVec.getLsbD i = (decide (i < 8) && own_vb x y (8 * j + i)) := by
  have hj2 : j = 0 ∨ j = 1 ∨ j = 2 ∨ j = 3 ∨ j = 4 ∨ j = 5 ∨ j = 6 ∨ j = 7 ∨ j = 8 ∨ j = 9 ∨ j = 10 ∨ j = 11 ∨ j = 12 ∨ j = 13 ∨ j = 14 ∨ j = 15 := by omega
  rcases hj2 with rfl | rfl | rfl | rfl | rfl | rfl | rfl | rfl | rfl | rfl | rfl | rfl | rfl | rfl | rfl | rfl
  · exact own_vx x y _ 0 i (by omega) (own_b0 x i)
  · exact own_vx x y _ 1 i (by omega) (own_bx x _ 8 (by decide) (by omega) i)
  · exact own_vx x y _ 2 i (by omega) (own_bx x _ 16 (by decide) (by omega) i)
  · exact own_vx x y _ 3 i (by omega) (own_bx x _ 24 (by decide) (by omega) i)
  · exact own_vx x y _ 4 i (by omega) (own_bx x _ 32 (by decide) (by omega) i)
  · exact own_vx x y _ 5 i (by omega) (own_bx x _ 40 (by decide) (by omega) i)
  · exact own_vx x y _ 6 i (by omega) (own_bx x _ 48 (by decide) (by omega) i)
  · exact own_vx x y _ 7 i (by omega) (own_bx x _ 56 (by decide) (by omega) i)
  · exact own_vy x y _ 0 i (by omega) (own_b0 y i)
  · exact own_vy x y _ 1 i (by omega) (own_bx y _ 8 (by decide) (by omega) i)
  · exact own_vy x y _ 2 i (by omega) (own_bx y _ 16 (by decide) (by omega) i)
  · exact own_vy x y _ 3 i (by omega) (own_bx y _ 24 (by decide) (by omega) i)
  · exact own_vy x y _ 4 i (by omega) (own_bx y _ 32 (by decide) (by omega) i)
  · exact own_vy x y _ 5 i (by omega) (own_bx y _ 40 (by decide) (by omega) i)
  · exact own_vy x y _ 6 i (by omega) (own_bx y _ 48 (by decide) (by omega) i)
  · exact own_vy x y _ 7 i (by omega) (own_bx y _ 56 (by decide) (by omega) i)
theorem own_accb (x y : Int64) (t : Nat) (ht : t ≤ 8) (i : Nat) (hi : i < 64) : ∀ (r : Nat) (V : Int64), r ≤ 8 → (own_acc (own_byte x y) t r V).toBitVec.getLsbD i = if i < 8 * r then own_vb x y (8 * t + i) else V.toBitVec.getLsbD (i - 8 * r) := by
  intro r
  induction r with
  | zero => intro V _; simp [own_acc]
  | succ r ih =>
    intro V hr
    rw [own_acc, ih _ (by omega)]
    by_cases h1 : i < 8 * r
    · rw [if_pos h1, if_pos (by omega)]
    · rw [if_neg h1, Int64.toBitVec_or, BitVec.getLsbD_or, own_bit x y (t + r) (by omega), own_shl V _ 8 (by decide)]
      by_cases h2 : i < 8 * (r + 1)
      · rw [if_pos h2]
        have e1 : i - 8 * r < 8 := by omega
        have e2 : 8 * (t + r) + (i - 8 * r) = 8 * t + i := by omega
        simp [e1, e2]
      · rw [if_neg h2]
        have e1 : ¬ i - 8 * r < 8 := by omega
        have e2 : i - 8 * r - 8 = i - 8 * (r + 1) := by omega
        have e3 : i - 8 * r < 64 := by omega
        simp [e1, e2, e3]
theorem own_nat (n k : Nat) (hn : n < 16) (hk : k < 16) (h : Int32.ofNat n = Int32.ofNat k) : n = k := by
  have := congrArg Int32.toInt h
  rw [Int32.toInt_ofNat_of_lt (by omega), Int32.toInt_ofNat_of_lt (by omega)] at this; omega
theorem own_ex0 (x y : Int64) (t wd : Nat) (hwd : wd ≤ 8) (h : Int32.ofNat wd = (0 : Int32)) : own_acc (own_byte x y) t wd 0 = (0 : Int64) := by
  have : wd = 0 := own_nat wd 0 (by omega) (by omega) h
  subst this; rfl
theorem own_ex8 (x y : Int64) (t wd : Nat) (lo : Int64) (ht : t ≤ 8) (hwd : wd ≤ 8) (h : Int32.ofNat wd = (8 : Int32)) (hlo : own_low x y t lo) : own_acc (own_byte x y) t wd 0 = lo := by
  have : wd = 8 := own_nat wd 8 (by omega) (by omega) h
  subst this
  apply Int64.toBitVec_inj.mp
  apply BitVec.eq_of_getLsbD_eq
  intro i hi
  rw [own_accb x y t ht i hi 8 0 (by omega), if_pos (by omega), hlo i hi]
theorem own_mask : ∀ wd : Fin 9, ∀ i : Fin 64, 0 < wd.val → wd.val < 8 → (((1 : Int64) <<< (((8 : Int32) * (Int32.ofNat wd.val)) &&& 0x3f).toInt64) - (1 : Int64)).toBitVec.getLsbD i.val = decide (i.val < 8 * wd.val) := by decide +kernel
theorem own_exm (x y : Int64) (t wd : Nat) (lo : Int64) (ht : t ≤ 8) (hwd : wd ≤ 8) (h0 : ¬ Int32.ofNat wd = (0 : Int32)) (h8 : ¬ Int32.ofNat wd = (8 : Int32)) (hlo : own_low x y t lo) :
    own_acc (own_byte x y) t wd 0 = (lo &&& (((1 : Int64) <<< (((8 : Int32) * (Int32.ofNat wd)) &&& 0x3f).toInt64) - (1 : Int64))) := by
  have n0 : wd ≠ 0 := fun q => h0 (by rw [q]; rfl)
  have n8 : wd ≠ 8 := fun q => h8 (by rw [q]; rfl)
  apply Int64.toBitVec_inj.mp
  apply BitVec.eq_of_getLsbD_eq
  intro i hi
  have hm := own_mask ⟨wd, by omega⟩ ⟨i, hi⟩ (by show 0 < wd; omega) (by show wd < 8; omega)
  simp only at hm
  rw [own_accb x y t ht i hi wd 0 (by omega), Int64.toBitVec_and, BitVec.getLsbD_and, hm, hlo i hi]
  by_cases h : i < 8 * wd
  · simp [h]
  · simp [h]
theorem own_low0 (x y : Int64) (t : Nat) (ht : t ≤ 8) (h : Int32.ofNat t = (0 : Int32)) : own_low x y t x := by
  have : t = 0 := own_nat t 0 (by omega) (by omega) h
  subst this; intro i hi; rw [own_vb, if_pos (by omega)]; simp
theorem own_low8 (x y : Int64) (t : Nat) (ht : t ≤ 8) (h : Int32.ofNat t = (8 : Int32)) : own_low x y t y := by
  have : t = 8 := own_nat t 8 (by omega) (by omega) h
  subst this; intro i hi; rw [own_vb, if_neg (by omega)]; congr 1; omega
theorem own_amt : ∀ t : Fin 9, 0 < t.val → t.val < 8 → ((((8 : Int32) * (Int32.ofNat t.val)) &&& 0x3f).toInt64.toUInt64).toNat = 8 * t.val ∧ (((((64 : Int32) - ((8 : Int32) * (Int32.ofNat t.val))) &&& 0x3f).toInt64).toBitVec.smod 64).toNat = 64 - 8 * t.val := by decide +kernel
theorem own_lowm (x y : Int64) (t : Nat) (ht : t ≤ 8) (h0 : ¬ Int32.ofNat t = (0 : Int32)) (h8 : ¬ Int32.ofNat t = (8 : Int32)) :
    own_low x y t (((x.toUInt64 >>> (((8 : Int32) * (Int32.ofNat t)) &&& 0x3f).toInt64.toUInt64).toInt64) ||| (y <<< (((64 : Int32) - ((8 : Int32) * (Int32.ofNat t))) &&& 0x3f).toInt64)) := by
  have n0 : t ≠ 0 := fun q => h0 (by rw [q]; rfl)
  have n8 : t ≠ 8 := fun q => h8 (by rw [q]; rfl)
  obtain ⟨e1, e2⟩ := own_amt ⟨t, by omega⟩ (by show 0 < t; omega) (by show t < 8; omega)
  simp only at e1 e2
  intro i hi
  rw [Int64.toBitVec_or, BitVec.getLsbD_or, own_shr x _ (8 * t) e1 (by omega), own_shl y _ (64 - 8 * t) e2, own_vb]
  by_cases h : 8 * t + i < 64
  · rw [if_pos h]; simp [hi, show i < 64 - 8 * t by omega]
  · rw [if_neg h, BitVec.getLsbD_of_ge x.toBitVec (8 * t + i) (by omega)]
    simp [hi, show ¬ i < 64 - 8 * t by omega, show i - (64 - 8 * t) = 8 * t + i - 64 by omega]

theorem d1_0 : decode method_2_code 0 = .ok (.bipush 16, 2) := by decide +kernel
theorem d1_2 : decode method_2_code 2 = .ok (.newarray .byte, 2) := by decide +kernel
theorem d1_4 : decode method_2_code 4 = .ok (.astore 4, 2) := by decide +kernel
theorem d1_6 : decode method_2_code 6 = .ok (.aload 4, 2) := by decide +kernel
theorem d1_8 : decode method_2_code 8 = .ok (.iconst 0, 1) := by decide +kernel
theorem d1_9 : decode method_2_code 9 = .ok (.lload_n 0, 1) := by decide +kernel
theorem d1_10 : decode method_2_code 10 = .ok (.l2i, 1) := by decide +kernel
theorem d1_11 : decode method_2_code 11 = .ok (.i2b, 1) := by decide +kernel
theorem d1_12 : decode method_2_code 12 = .ok (.bastore, 1) := by decide +kernel
theorem d1_13 : decode method_2_code 13 = .ok (.aload 4, 2) := by decide +kernel
theorem d1_15 : decode method_2_code 15 = .ok (.iconst 1, 1) := by decide +kernel
theorem d1_16 : decode method_2_code 16 = .ok (.lload_n 0, 1) := by decide +kernel
theorem d1_17 : decode method_2_code 17 = .ok (.bipush 8, 2) := by decide +kernel
theorem d1_19 : decode method_2_code 19 = .ok (.lushr, 1) := by decide +kernel
theorem d1_20 : decode method_2_code 20 = .ok (.l2i, 1) := by decide +kernel
theorem d1_21 : decode method_2_code 21 = .ok (.i2b, 1) := by decide +kernel
theorem d1_22 : decode method_2_code 22 = .ok (.bastore, 1) := by decide +kernel
theorem d1_23 : decode method_2_code 23 = .ok (.aload 4, 2) := by decide +kernel
theorem d1_25 : decode method_2_code 25 = .ok (.iconst 2, 1) := by decide +kernel
theorem d1_26 : decode method_2_code 26 = .ok (.lload_n 0, 1) := by decide +kernel
theorem d1_27 : decode method_2_code 27 = .ok (.bipush 16, 2) := by decide +kernel
theorem d1_29 : decode method_2_code 29 = .ok (.lushr, 1) := by decide +kernel
theorem d1_30 : decode method_2_code 30 = .ok (.l2i, 1) := by decide +kernel
theorem d1_31 : decode method_2_code 31 = .ok (.i2b, 1) := by decide +kernel
theorem d1_32 : decode method_2_code 32 = .ok (.bastore, 1) := by decide +kernel
theorem d1_33 : decode method_2_code 33 = .ok (.aload 4, 2) := by decide +kernel
theorem d1_35 : decode method_2_code 35 = .ok (.iconst 3, 1) := by decide +kernel
theorem d1_36 : decode method_2_code 36 = .ok (.lload_n 0, 1) := by decide +kernel
theorem d1_37 : decode method_2_code 37 = .ok (.bipush 24, 2) := by decide +kernel
theorem d1_39 : decode method_2_code 39 = .ok (.lushr, 1) := by decide +kernel
theorem d1_40 : decode method_2_code 40 = .ok (.l2i, 1) := by decide +kernel
theorem d1_41 : decode method_2_code 41 = .ok (.i2b, 1) := by decide +kernel
theorem d1_42 : decode method_2_code 42 = .ok (.bastore, 1) := by decide +kernel
theorem d1_43 : decode method_2_code 43 = .ok (.aload 4, 2) := by decide +kernel
theorem d1_45 : decode method_2_code 45 = .ok (.iconst 4, 1) := by decide +kernel
theorem d1_46 : decode method_2_code 46 = .ok (.lload_n 0, 1) := by decide +kernel
theorem d1_47 : decode method_2_code 47 = .ok (.bipush 32, 2) := by decide +kernel
theorem d1_49 : decode method_2_code 49 = .ok (.lushr, 1) := by decide +kernel
theorem d1_50 : decode method_2_code 50 = .ok (.l2i, 1) := by decide +kernel
theorem d1_51 : decode method_2_code 51 = .ok (.i2b, 1) := by decide +kernel
theorem d1_52 : decode method_2_code 52 = .ok (.bastore, 1) := by decide +kernel
theorem d1_53 : decode method_2_code 53 = .ok (.aload 4, 2) := by decide +kernel
theorem d1_55 : decode method_2_code 55 = .ok (.iconst 5, 1) := by decide +kernel
theorem d1_56 : decode method_2_code 56 = .ok (.lload_n 0, 1) := by decide +kernel
theorem d1_57 : decode method_2_code 57 = .ok (.bipush 40, 2) := by decide +kernel
theorem d1_59 : decode method_2_code 59 = .ok (.lushr, 1) := by decide +kernel
theorem d1_60 : decode method_2_code 60 = .ok (.l2i, 1) := by decide +kernel
theorem d1_61 : decode method_2_code 61 = .ok (.i2b, 1) := by decide +kernel
theorem d1_62 : decode method_2_code 62 = .ok (.bastore, 1) := by decide +kernel
theorem d1_63 : decode method_2_code 63 = .ok (.aload 4, 2) := by decide +kernel
theorem d1_65 : decode method_2_code 65 = .ok (.bipush 6, 2) := by decide +kernel
theorem d1_67 : decode method_2_code 67 = .ok (.lload_n 0, 1) := by decide +kernel
theorem d1_68 : decode method_2_code 68 = .ok (.bipush 48, 2) := by decide +kernel
theorem d1_70 : decode method_2_code 70 = .ok (.lushr, 1) := by decide +kernel
theorem d1_71 : decode method_2_code 71 = .ok (.l2i, 1) := by decide +kernel
theorem d1_72 : decode method_2_code 72 = .ok (.i2b, 1) := by decide +kernel
theorem d1_73 : decode method_2_code 73 = .ok (.bastore, 1) := by decide +kernel
theorem d1_74 : decode method_2_code 74 = .ok (.aload 4, 2) := by decide +kernel
theorem d1_76 : decode method_2_code 76 = .ok (.bipush 7, 2) := by decide +kernel
theorem d1_78 : decode method_2_code 78 = .ok (.lload_n 0, 1) := by decide +kernel
theorem d1_79 : decode method_2_code 79 = .ok (.bipush 56, 2) := by decide +kernel
theorem d1_81 : decode method_2_code 81 = .ok (.lushr, 1) := by decide +kernel
theorem d1_82 : decode method_2_code 82 = .ok (.l2i, 1) := by decide +kernel
theorem d1_83 : decode method_2_code 83 = .ok (.i2b, 1) := by decide +kernel
theorem d1_84 : decode method_2_code 84 = .ok (.bastore, 1) := by decide +kernel
theorem d1_85 : decode method_2_code 85 = .ok (.aload 4, 2) := by decide +kernel
theorem d1_87 : decode method_2_code 87 = .ok (.bipush 8, 2) := by decide +kernel
theorem d1_89 : decode method_2_code 89 = .ok (.lload_n 2, 1) := by decide +kernel
theorem d1_90 : decode method_2_code 90 = .ok (.l2i, 1) := by decide +kernel
theorem d1_91 : decode method_2_code 91 = .ok (.i2b, 1) := by decide +kernel
theorem d1_92 : decode method_2_code 92 = .ok (.bastore, 1) := by decide +kernel
theorem d1_93 : decode method_2_code 93 = .ok (.aload 4, 2) := by decide +kernel
theorem d1_95 : decode method_2_code 95 = .ok (.bipush 9, 2) := by decide +kernel
theorem d1_97 : decode method_2_code 97 = .ok (.lload_n 2, 1) := by decide +kernel
theorem d1_98 : decode method_2_code 98 = .ok (.bipush 8, 2) := by decide +kernel
theorem d1_100 : decode method_2_code 100 = .ok (.lushr, 1) := by decide +kernel
theorem d1_101 : decode method_2_code 101 = .ok (.l2i, 1) := by decide +kernel
theorem d1_102 : decode method_2_code 102 = .ok (.i2b, 1) := by decide +kernel
theorem d1_103 : decode method_2_code 103 = .ok (.bastore, 1) := by decide +kernel
theorem d1_104 : decode method_2_code 104 = .ok (.aload 4, 2) := by decide +kernel
theorem d1_106 : decode method_2_code 106 = .ok (.bipush 10, 2) := by decide +kernel
theorem d1_108 : decode method_2_code 108 = .ok (.lload_n 2, 1) := by decide +kernel
theorem d1_109 : decode method_2_code 109 = .ok (.bipush 16, 2) := by decide +kernel
theorem d1_111 : decode method_2_code 111 = .ok (.lushr, 1) := by decide +kernel
theorem d1_112 : decode method_2_code 112 = .ok (.l2i, 1) := by decide +kernel
theorem d1_113 : decode method_2_code 113 = .ok (.i2b, 1) := by decide +kernel
theorem d1_114 : decode method_2_code 114 = .ok (.bastore, 1) := by decide +kernel
theorem d1_115 : decode method_2_code 115 = .ok (.aload 4, 2) := by decide +kernel
theorem d1_117 : decode method_2_code 117 = .ok (.bipush 11, 2) := by decide +kernel
theorem d1_119 : decode method_2_code 119 = .ok (.lload_n 2, 1) := by decide +kernel
theorem d1_120 : decode method_2_code 120 = .ok (.bipush 24, 2) := by decide +kernel
theorem d1_122 : decode method_2_code 122 = .ok (.lushr, 1) := by decide +kernel
theorem d1_123 : decode method_2_code 123 = .ok (.l2i, 1) := by decide +kernel
theorem d1_124 : decode method_2_code 124 = .ok (.i2b, 1) := by decide +kernel
theorem d1_125 : decode method_2_code 125 = .ok (.bastore, 1) := by decide +kernel
theorem d1_126 : decode method_2_code 126 = .ok (.aload 4, 2) := by decide +kernel
theorem d1_128 : decode method_2_code 128 = .ok (.bipush 12, 2) := by decide +kernel
theorem d1_130 : decode method_2_code 130 = .ok (.lload_n 2, 1) := by decide +kernel
theorem d1_131 : decode method_2_code 131 = .ok (.bipush 32, 2) := by decide +kernel
theorem d1_133 : decode method_2_code 133 = .ok (.lushr, 1) := by decide +kernel
theorem d1_134 : decode method_2_code 134 = .ok (.l2i, 1) := by decide +kernel
theorem d1_135 : decode method_2_code 135 = .ok (.i2b, 1) := by decide +kernel
theorem d1_136 : decode method_2_code 136 = .ok (.bastore, 1) := by decide +kernel
theorem d1_137 : decode method_2_code 137 = .ok (.aload 4, 2) := by decide +kernel
theorem d1_139 : decode method_2_code 139 = .ok (.bipush 13, 2) := by decide +kernel
theorem d1_141 : decode method_2_code 141 = .ok (.lload_n 2, 1) := by decide +kernel
theorem d1_142 : decode method_2_code 142 = .ok (.bipush 40, 2) := by decide +kernel
theorem d1_144 : decode method_2_code 144 = .ok (.lushr, 1) := by decide +kernel
theorem d1_145 : decode method_2_code 145 = .ok (.l2i, 1) := by decide +kernel
theorem d1_146 : decode method_2_code 146 = .ok (.i2b, 1) := by decide +kernel
theorem d1_147 : decode method_2_code 147 = .ok (.bastore, 1) := by decide +kernel
theorem d1_148 : decode method_2_code 148 = .ok (.aload 4, 2) := by decide +kernel
theorem d1_150 : decode method_2_code 150 = .ok (.bipush 14, 2) := by decide +kernel
theorem d1_152 : decode method_2_code 152 = .ok (.lload_n 2, 1) := by decide +kernel
theorem d1_153 : decode method_2_code 153 = .ok (.bipush 48, 2) := by decide +kernel
theorem d1_155 : decode method_2_code 155 = .ok (.lushr, 1) := by decide +kernel
theorem d1_156 : decode method_2_code 156 = .ok (.l2i, 1) := by decide +kernel
theorem d1_157 : decode method_2_code 157 = .ok (.i2b, 1) := by decide +kernel
theorem d1_158 : decode method_2_code 158 = .ok (.bastore, 1) := by decide +kernel
theorem d1_159 : decode method_2_code 159 = .ok (.aload 4, 2) := by decide +kernel
theorem d1_161 : decode method_2_code 161 = .ok (.bipush 15, 2) := by decide +kernel
theorem d1_163 : decode method_2_code 163 = .ok (.lload_n 2, 1) := by decide +kernel
theorem d1_164 : decode method_2_code 164 = .ok (.bipush 56, 2) := by decide +kernel
theorem d1_166 : decode method_2_code 166 = .ok (.lushr, 1) := by decide +kernel
theorem d1_167 : decode method_2_code 167 = .ok (.l2i, 1) := by decide +kernel
theorem d1_168 : decode method_2_code 168 = .ok (.i2b, 1) := by decide +kernel
theorem d1_169 : decode method_2_code 169 = .ok (.bastore, 1) := by decide +kernel
theorem d1_170 : decode method_2_code 170 = .ok (.aload 4, 2) := by decide +kernel
theorem d1_172 : decode method_2_code 172 = .ok (.areturn, 1) := by decide +kernel
theorem pn_1 : plainFor (⟨"com/example/beaconwire/beaconwire/BytesLittleEndianPinLaw", "fill", "(JJ)[B"⟩ : MethodName) = true := by first | exact plainFor_of_name (by first | (simp [plainName, overriddenIn]; done) | decide +kernel) | decide +kernel
theorem ef_1 (m : MethodId) (x0 : Int64) (x1 : Int64) : entryFrame m #[(.long x0), (.long x1)] 5 = mkF m 0 #[.val (.long x0), .second, .val (.long x1), .second, .unset] [] := by first | (simp [entryFrame, mkF, argsToLocals, Value.category]; done) | rfl
def Q1 (Z : State) (x : Int64) (y : Int64) (h0 : Heap) (n0 : Nat) (v : Option Value) (h : Heap) (L : List Loc) : Prop := v = some (.ref h0.size) ∧ Fr n0 L ∧ n0 ≤ h.size ∧ Ary Z h h0.size .byte 16 (fun j => .int (own_byte x y j))
set_option maxRecDepth 65536 in
set_option maxHeartbeats 40000000 in
theorem rm1 (l : Launch) (Z : State) (a0 : Array Value) (hw : ∀ d ∈ tables_1, d.before a0 Z = true) (ws : List Jvm.Cond) (x : Int64) (y : Int64) (h0 : Heap) (n0 : Nat) (Z0 : n0 ≤ h0.size)  :
    MetFree l (⟨"com/example/beaconwire/beaconwire/BytesLittleEndianPinLaw", "fill", "(JJ)[B"⟩ : MethodName) (head1 (Jvm.Cond.code (⟨"com/example/beaconwire/beaconwire/BytesLittleEndianPinLaw", "fill", "(JJ)[B"⟩ : MethodName) method_2_code 5 (some (.array .byte)) :: ws) ({ frames := 0, cells := 1, slots := 16, locals := 0 } : Room)) (fun a U => a = #[(.long x), (.long y)] ∧ Z.Warmed39 U.vm ∧ U.heap = h0) (fun _ _ _ _ _ => True) (fun _ U o U' => ∃ v L, o = .returned v ∧ Q1 Z x y h0 n0 v U'.heap L ∧ FrameEnd U o U' L ({ frames := 0, cells := 1, slots := 16, locals := 0 } : Room).cells ({ frames := 0, cells := 1, slots := 16, locals := 0 } : Room).slots) := by
  refine MetFree.of_bodySF pn_1 hisR ?_
  intro p e s m args below meth c s₁ Bd hml0 hP hK
  obtain ⟨rfl, hZ, hh⟩ := hP
  have hx := Bd.exec
  have hby := Bd.bytes
  have hml : c.maxLocals = 5 := hml0
  have hown : s.vm.findClass "com/example/beaconwire/beaconwire/BytesLittleEndianPinLaw" = some m.cls := findClass_of_methodNamed Bd.named
  have hnm := (name_of_methodNamed Bd.named Bd.method).1
  have hrt := Bd.returns
  have hlk : meth.locks = false := BodyLoose.notSynchronized Bd
  have X0 : Stand p l e ({ frames := 0, cells := 1, slots := 16, locals := 0 } : Room) s m #[(.long x), (.long y)] below meth c s₁ [] 0 0 := Stand.of_body Bd
  have e0 : s₁.heap = h0 := by rw [← hh, Bd.state]; rfl
  have N0 := Fr.nil n0
  show OwnG ({ frames := 0, cells := 1, slots := 16, locals := 0 } : Room).cells ({ frames := 0, cells := 1, slots := 16, locals := 0 } : Room).slots (Q1 Z x y h0 n0) p e below s (s₁.setTop (entryFrame m #[(.long x), (.long y)] 5))
  refine own_st (σ' := s₁.setTop (mkF m 0 #[.val (.long x), .second, .val (.long y), .second, .unset] [])) (fun _ kq_ => castTop (ef_1 m x y) kq_) ?_
  show OwnG _ _ _ _ _ _ _ (s₁.setTop (mkF m 0 #[.val (.long x), .second, .val (.long y), .second, .unset] []))
  refine own_st (fun _ kq_ => XS.bipush X0.here hx rfl (hb hby d1_0) kq_) ?_
  show OwnG _ _ _ _ _ _ _ (s₁.setTop (mkF m 2 #[.val (.long x), .second, .val (.long y), .second, .unset] [(.int (16 : Int32))]))
  obtain ⟨T1, h1, X1, e1, E1, V1, st1⟩ := own_new X0 hx hZ (hw _ (List.mem_of_getElem? (i := 5) rfl)) e0 (g := (mkF m 2 #[.val (.long x), .second, .val (.long y), .second, .unset] [(.int (16 : Int32))])) rfl (hb hby d1_2) rfl (16) (by decide) (cap := 16) (Nat.le_refl _) (by decide) (by decide) (by decide)
  obtain ⟨b1, g1⟩ : ∃ z, z = h0.size := ⟨_, rfl⟩
  rw [← g1] at V1 st1
  refine own_st st1 ?_
  show OwnG _ _ _ _ _ _ _ (T1.setTop (mkF m 4 #[.val (.long x), .second, .val (.long y), .second, .unset] [(.ref b1)]))
  have gb : n0 ≤ b1 := Nat.le_trans Z0 (Nat.le_of_eq g1.symm)
  have S1 : n0 ≤ h1.size := Nat.le_trans Z0 E1.1
  refine own_st (fun _ kq_ => XS.astore X1.here hx rfl (hb hby d1_4) rfl rfl (l' := #[.val (.long x), .second, .val (.long y), .second, .val (.ref b1)]) rfl kq_) ?_
  show OwnG _ _ _ _ _ _ _ (T1.setTop (mkF m 6 #[.val (.long x), .second, .val (.long y), .second, .val (.ref b1)] []))
  refine own_st (fun _ kq_ => XS.aload X1.here hx rfl (hb hby d1_6) rfl rfl kq_) ?_
  show OwnG _ _ _ _ _ _ _ (T1.setTop (mkF m 8 #[.val (.long x), .second, .val (.long y), .second, .val (.ref b1)] [(.ref b1)]))
  refine own_st (fun _ kq_ => XS.iconst X1.here hx rfl (hb hby d1_8) kq_) ?_
  show OwnG _ _ _ _ _ _ _ (T1.setTop (mkF m 9 #[.val (.long x), .second, .val (.long y), .second, .val (.ref b1)] [(.int (0 : Int32)), (.ref b1)]))
  refine own_st (fun _ kq_ => XS.lloadN X1.here hx rfl (hb hby d1_9) rfl kq_) ?_
  show OwnG _ _ _ _ _ _ _ (T1.setTop (mkF m 10 #[.val (.long x), .second, .val (.long y), .second, .val (.ref b1)] [(.long x), (.int (0 : Int32)), (.ref b1)]))
  refine own_st (fun _ kq_ => XS.l2i X1.here hx rfl (hb hby d1_10) rfl kq_) ?_
  show OwnG _ _ _ _ _ _ _ (T1.setTop (mkF m 11 #[.val (.long x), .second, .val (.long y), .second, .val (.ref b1)] [(.int (x.toInt32)), (.int (0 : Int32)), (.ref b1)]))
  refine own_st (fun _ kq_ => XS.i2b X1.here hx rfl (hb hby d1_11) rfl kq_) ?_
  show OwnG _ _ _ _ _ _ _ (T1.setTop (mkF m 12 #[.val (.long x), .second, .val (.long y), .second, .val (.ref b1)] [(.int ((x.toInt32).toInt8.toInt32)), (.int (0 : Int32)), (.ref b1)]))
  obtain ⟨T2, h2, X2, e2, W2, V2, st2⟩ := own_sB X1 hx hZ e1 V1 (0) (by decide) (by decide) (g := (mkF m 12 #[.val (.long x), .second, .val (.long y), .second, .val (.ref b1)] [(.int ((x.toInt32).toInt8.toInt32)), (.int (0 : Int32)), (.ref b1)])) rfl rfl (hb hby d1_12)
  have N2 := Fr.snoc X2 N0 gb
  refine own_st st2 ?_
  show OwnG _ _ _ _ _ _ _ (T2.setTop (mkF m 13 #[.val (.long x), .second, .val (.long y), .second, .val (.ref b1)] []))
  refine own_st (fun _ kq_ => XS.aload X2.here hx rfl (hb hby d1_13) rfl rfl kq_) ?_
  show OwnG _ _ _ _ _ _ _ (T2.setTop (mkF m 15 #[.val (.long x), .second, .val (.long y), .second, .val (.ref b1)] [(.ref b1)]))
  refine own_st (fun _ kq_ => XS.iconst X2.here hx rfl (hb hby d1_15) kq_) ?_
  show OwnG _ _ _ _ _ _ _ (T2.setTop (mkF m 16 #[.val (.long x), .second, .val (.long y), .second, .val (.ref b1)] [(.int (1 : Int32)), (.ref b1)]))
  refine own_st (fun _ kq_ => XS.lloadN X2.here hx rfl (hb hby d1_16) rfl kq_) ?_
  show OwnG _ _ _ _ _ _ _ (T2.setTop (mkF m 17 #[.val (.long x), .second, .val (.long y), .second, .val (.ref b1)] [(.long x), (.int (1 : Int32)), (.ref b1)]))
  refine own_st (fun _ kq_ => XS.bipush X2.here hx rfl (hb hby d1_17) kq_) ?_
  show OwnG _ _ _ _ _ _ _ (T2.setTop (mkF m 19 #[.val (.long x), .second, .val (.long y), .second, .val (.ref b1)] [(.int (8 : Int32)), (.long x), (.int (1 : Int32)), (.ref b1)]))
  refine own_st (fun _ kq_ => XS.lushr X2.here hx rfl (hb hby d1_19) rfl kq_) ?_
  show OwnG _ _ _ _ _ _ _ (T2.setTop (mkF m 20 #[.val (.long x), .second, .val (.long y), .second, .val (.ref b1)] [(.long ((x.toUInt64 >>> ((8 : Int32) &&& 0x3f).toInt64.toUInt64).toInt64)), (.int (1 : Int32)), (.ref b1)]))
  refine own_st (fun _ kq_ => XS.l2i X2.here hx rfl (hb hby d1_20) rfl kq_) ?_
  show OwnG _ _ _ _ _ _ _ (T2.setTop (mkF m 21 #[.val (.long x), .second, .val (.long y), .second, .val (.ref b1)] [(.int (((x.toUInt64 >>> ((8 : Int32) &&& 0x3f).toInt64.toUInt64).toInt64).toInt32)), (.int (1 : Int32)), (.ref b1)]))
  refine own_st (fun _ kq_ => XS.i2b X2.here hx rfl (hb hby d1_21) rfl kq_) ?_
  show OwnG _ _ _ _ _ _ _ (T2.setTop (mkF m 22 #[.val (.long x), .second, .val (.long y), .second, .val (.ref b1)] [(.int ((((x.toUInt64 >>> ((8 : Int32) &&& 0x3f).toInt64.toUInt64).toInt64).toInt32).toInt8.toInt32)), (.int (1 : Int32)), (.ref b1)]))
  obtain ⟨T3, h3, X3, e3, W3, V3, st3⟩ := own_sB X2 hx hZ e2 V2 (1) (by decide) (by decide) (g := (mkF m 22 #[.val (.long x), .second, .val (.long y), .second, .val (.ref b1)] [(.int ((((x.toUInt64 >>> ((8 : Int32) &&& 0x3f).toInt64.toUInt64).toInt64).toInt32).toInt8.toInt32)), (.int (1 : Int32)), (.ref b1)])) rfl rfl (hb hby d1_22)
  have N3 := Fr.snoc X3 N2 gb
  refine own_st st3 ?_
  show OwnG _ _ _ _ _ _ _ (T3.setTop (mkF m 23 #[.val (.long x), .second, .val (.long y), .second, .val (.ref b1)] []))
  refine own_st (fun _ kq_ => XS.aload X3.here hx rfl (hb hby d1_23) rfl rfl kq_) ?_
  show OwnG _ _ _ _ _ _ _ (T3.setTop (mkF m 25 #[.val (.long x), .second, .val (.long y), .second, .val (.ref b1)] [(.ref b1)]))
  refine own_st (fun _ kq_ => XS.iconst X3.here hx rfl (hb hby d1_25) kq_) ?_
  show OwnG _ _ _ _ _ _ _ (T3.setTop (mkF m 26 #[.val (.long x), .second, .val (.long y), .second, .val (.ref b1)] [(.int (2 : Int32)), (.ref b1)]))
  refine own_st (fun _ kq_ => XS.lloadN X3.here hx rfl (hb hby d1_26) rfl kq_) ?_
  show OwnG _ _ _ _ _ _ _ (T3.setTop (mkF m 27 #[.val (.long x), .second, .val (.long y), .second, .val (.ref b1)] [(.long x), (.int (2 : Int32)), (.ref b1)]))
  refine own_st (fun _ kq_ => XS.bipush X3.here hx rfl (hb hby d1_27) kq_) ?_
  show OwnG _ _ _ _ _ _ _ (T3.setTop (mkF m 29 #[.val (.long x), .second, .val (.long y), .second, .val (.ref b1)] [(.int (16 : Int32)), (.long x), (.int (2 : Int32)), (.ref b1)]))
  refine own_st (fun _ kq_ => XS.lushr X3.here hx rfl (hb hby d1_29) rfl kq_) ?_
  show OwnG _ _ _ _ _ _ _ (T3.setTop (mkF m 30 #[.val (.long x), .second, .val (.long y), .second, .val (.ref b1)] [(.long ((x.toUInt64 >>> ((16 : Int32) &&& 0x3f).toInt64.toUInt64).toInt64)), (.int (2 : Int32)), (.ref b1)]))
  refine own_st (fun _ kq_ => XS.l2i X3.here hx rfl (hb hby d1_30) rfl kq_) ?_
  show OwnG _ _ _ _ _ _ _ (T3.setTop (mkF m 31 #[.val (.long x), .second, .val (.long y), .second, .val (.ref b1)] [(.int (((x.toUInt64 >>> ((16 : Int32) &&& 0x3f).toInt64.toUInt64).toInt64).toInt32)), (.int (2 : Int32)), (.ref b1)]))
  refine own_st (fun _ kq_ => XS.i2b X3.here hx rfl (hb hby d1_31) rfl kq_) ?_
  show OwnG _ _ _ _ _ _ _ (T3.setTop (mkF m 32 #[.val (.long x), .second, .val (.long y), .second, .val (.ref b1)] [(.int ((((x.toUInt64 >>> ((16 : Int32) &&& 0x3f).toInt64.toUInt64).toInt64).toInt32).toInt8.toInt32)), (.int (2 : Int32)), (.ref b1)]))
  obtain ⟨T4, h4, X4, e4, W4, V4, st4⟩ := own_sB X3 hx hZ e3 V3 (2) (by decide) (by decide) (g := (mkF m 32 #[.val (.long x), .second, .val (.long y), .second, .val (.ref b1)] [(.int ((((x.toUInt64 >>> ((16 : Int32) &&& 0x3f).toInt64.toUInt64).toInt64).toInt32).toInt8.toInt32)), (.int (2 : Int32)), (.ref b1)])) rfl rfl (hb hby d1_32)
  have N4 := Fr.snoc X4 N3 gb
  refine own_st st4 ?_
  show OwnG _ _ _ _ _ _ _ (T4.setTop (mkF m 33 #[.val (.long x), .second, .val (.long y), .second, .val (.ref b1)] []))
  refine own_st (fun _ kq_ => XS.aload X4.here hx rfl (hb hby d1_33) rfl rfl kq_) ?_
  show OwnG _ _ _ _ _ _ _ (T4.setTop (mkF m 35 #[.val (.long x), .second, .val (.long y), .second, .val (.ref b1)] [(.ref b1)]))
  refine own_st (fun _ kq_ => XS.iconst X4.here hx rfl (hb hby d1_35) kq_) ?_
  show OwnG _ _ _ _ _ _ _ (T4.setTop (mkF m 36 #[.val (.long x), .second, .val (.long y), .second, .val (.ref b1)] [(.int (3 : Int32)), (.ref b1)]))
  refine own_st (fun _ kq_ => XS.lloadN X4.here hx rfl (hb hby d1_36) rfl kq_) ?_
  show OwnG _ _ _ _ _ _ _ (T4.setTop (mkF m 37 #[.val (.long x), .second, .val (.long y), .second, .val (.ref b1)] [(.long x), (.int (3 : Int32)), (.ref b1)]))
  refine own_st (fun _ kq_ => XS.bipush X4.here hx rfl (hb hby d1_37) kq_) ?_
  show OwnG _ _ _ _ _ _ _ (T4.setTop (mkF m 39 #[.val (.long x), .second, .val (.long y), .second, .val (.ref b1)] [(.int (24 : Int32)), (.long x), (.int (3 : Int32)), (.ref b1)]))
  refine own_st (fun _ kq_ => XS.lushr X4.here hx rfl (hb hby d1_39) rfl kq_) ?_
  show OwnG _ _ _ _ _ _ _ (T4.setTop (mkF m 40 #[.val (.long x), .second, .val (.long y), .second, .val (.ref b1)] [(.long ((x.toUInt64 >>> ((24 : Int32) &&& 0x3f).toInt64.toUInt64).toInt64)), (.int (3 : Int32)), (.ref b1)]))
  refine own_st (fun _ kq_ => XS.l2i X4.here hx rfl (hb hby d1_40) rfl kq_) ?_
  show OwnG _ _ _ _ _ _ _ (T4.setTop (mkF m 41 #[.val (.long x), .second, .val (.long y), .second, .val (.ref b1)] [(.int (((x.toUInt64 >>> ((24 : Int32) &&& 0x3f).toInt64.toUInt64).toInt64).toInt32)), (.int (3 : Int32)), (.ref b1)]))
  refine own_st (fun _ kq_ => XS.i2b X4.here hx rfl (hb hby d1_41) rfl kq_) ?_
  show OwnG _ _ _ _ _ _ _ (T4.setTop (mkF m 42 #[.val (.long x), .second, .val (.long y), .second, .val (.ref b1)] [(.int ((((x.toUInt64 >>> ((24 : Int32) &&& 0x3f).toInt64.toUInt64).toInt64).toInt32).toInt8.toInt32)), (.int (3 : Int32)), (.ref b1)]))
  obtain ⟨T5, h5, X5, e5, W5, V5, st5⟩ := own_sB X4 hx hZ e4 V4 (3) (by decide) (by decide) (g := (mkF m 42 #[.val (.long x), .second, .val (.long y), .second, .val (.ref b1)] [(.int ((((x.toUInt64 >>> ((24 : Int32) &&& 0x3f).toInt64.toUInt64).toInt64).toInt32).toInt8.toInt32)), (.int (3 : Int32)), (.ref b1)])) rfl rfl (hb hby d1_42)
  have N5 := Fr.snoc X5 N4 gb
  refine own_st st5 ?_
  show OwnG _ _ _ _ _ _ _ (T5.setTop (mkF m 43 #[.val (.long x), .second, .val (.long y), .second, .val (.ref b1)] []))
  refine own_st (fun _ kq_ => XS.aload X5.here hx rfl (hb hby d1_43) rfl rfl kq_) ?_
  show OwnG _ _ _ _ _ _ _ (T5.setTop (mkF m 45 #[.val (.long x), .second, .val (.long y), .second, .val (.ref b1)] [(.ref b1)]))
  refine own_st (fun _ kq_ => XS.iconst X5.here hx rfl (hb hby d1_45) kq_) ?_
  show OwnG _ _ _ _ _ _ _ (T5.setTop (mkF m 46 #[.val (.long x), .second, .val (.long y), .second, .val (.ref b1)] [(.int (4 : Int32)), (.ref b1)]))
  refine own_st (fun _ kq_ => XS.lloadN X5.here hx rfl (hb hby d1_46) rfl kq_) ?_
  show OwnG _ _ _ _ _ _ _ (T5.setTop (mkF m 47 #[.val (.long x), .second, .val (.long y), .second, .val (.ref b1)] [(.long x), (.int (4 : Int32)), (.ref b1)]))
  refine own_st (fun _ kq_ => XS.bipush X5.here hx rfl (hb hby d1_47) kq_) ?_
  show OwnG _ _ _ _ _ _ _ (T5.setTop (mkF m 49 #[.val (.long x), .second, .val (.long y), .second, .val (.ref b1)] [(.int (32 : Int32)), (.long x), (.int (4 : Int32)), (.ref b1)]))
  refine own_st (fun _ kq_ => XS.lushr X5.here hx rfl (hb hby d1_49) rfl kq_) ?_
  show OwnG _ _ _ _ _ _ _ (T5.setTop (mkF m 50 #[.val (.long x), .second, .val (.long y), .second, .val (.ref b1)] [(.long ((x.toUInt64 >>> ((32 : Int32) &&& 0x3f).toInt64.toUInt64).toInt64)), (.int (4 : Int32)), (.ref b1)]))
  refine own_st (fun _ kq_ => XS.l2i X5.here hx rfl (hb hby d1_50) rfl kq_) ?_
  show OwnG _ _ _ _ _ _ _ (T5.setTop (mkF m 51 #[.val (.long x), .second, .val (.long y), .second, .val (.ref b1)] [(.int (((x.toUInt64 >>> ((32 : Int32) &&& 0x3f).toInt64.toUInt64).toInt64).toInt32)), (.int (4 : Int32)), (.ref b1)]))
  refine own_st (fun _ kq_ => XS.i2b X5.here hx rfl (hb hby d1_51) rfl kq_) ?_
  show OwnG _ _ _ _ _ _ _ (T5.setTop (mkF m 52 #[.val (.long x), .second, .val (.long y), .second, .val (.ref b1)] [(.int ((((x.toUInt64 >>> ((32 : Int32) &&& 0x3f).toInt64.toUInt64).toInt64).toInt32).toInt8.toInt32)), (.int (4 : Int32)), (.ref b1)]))
  obtain ⟨T6, h6, X6, e6, W6, V6, st6⟩ := own_sB X5 hx hZ e5 V5 (4) (by decide) (by decide) (g := (mkF m 52 #[.val (.long x), .second, .val (.long y), .second, .val (.ref b1)] [(.int ((((x.toUInt64 >>> ((32 : Int32) &&& 0x3f).toInt64.toUInt64).toInt64).toInt32).toInt8.toInt32)), (.int (4 : Int32)), (.ref b1)])) rfl rfl (hb hby d1_52)
  have N6 := Fr.snoc X6 N5 gb
  refine own_st st6 ?_
  show OwnG _ _ _ _ _ _ _ (T6.setTop (mkF m 53 #[.val (.long x), .second, .val (.long y), .second, .val (.ref b1)] []))
  refine own_st (fun _ kq_ => XS.aload X6.here hx rfl (hb hby d1_53) rfl rfl kq_) ?_
  show OwnG _ _ _ _ _ _ _ (T6.setTop (mkF m 55 #[.val (.long x), .second, .val (.long y), .second, .val (.ref b1)] [(.ref b1)]))
  refine own_st (fun _ kq_ => XS.iconst X6.here hx rfl (hb hby d1_55) kq_) ?_
  show OwnG _ _ _ _ _ _ _ (T6.setTop (mkF m 56 #[.val (.long x), .second, .val (.long y), .second, .val (.ref b1)] [(.int (5 : Int32)), (.ref b1)]))
  refine own_st (fun _ kq_ => XS.lloadN X6.here hx rfl (hb hby d1_56) rfl kq_) ?_
  show OwnG _ _ _ _ _ _ _ (T6.setTop (mkF m 57 #[.val (.long x), .second, .val (.long y), .second, .val (.ref b1)] [(.long x), (.int (5 : Int32)), (.ref b1)]))
  refine own_st (fun _ kq_ => XS.bipush X6.here hx rfl (hb hby d1_57) kq_) ?_
  show OwnG _ _ _ _ _ _ _ (T6.setTop (mkF m 59 #[.val (.long x), .second, .val (.long y), .second, .val (.ref b1)] [(.int (40 : Int32)), (.long x), (.int (5 : Int32)), (.ref b1)]))
  refine own_st (fun _ kq_ => XS.lushr X6.here hx rfl (hb hby d1_59) rfl kq_) ?_
  show OwnG _ _ _ _ _ _ _ (T6.setTop (mkF m 60 #[.val (.long x), .second, .val (.long y), .second, .val (.ref b1)] [(.long ((x.toUInt64 >>> ((40 : Int32) &&& 0x3f).toInt64.toUInt64).toInt64)), (.int (5 : Int32)), (.ref b1)]))
  refine own_st (fun _ kq_ => XS.l2i X6.here hx rfl (hb hby d1_60) rfl kq_) ?_
  show OwnG _ _ _ _ _ _ _ (T6.setTop (mkF m 61 #[.val (.long x), .second, .val (.long y), .second, .val (.ref b1)] [(.int (((x.toUInt64 >>> ((40 : Int32) &&& 0x3f).toInt64.toUInt64).toInt64).toInt32)), (.int (5 : Int32)), (.ref b1)]))
  refine own_st (fun _ kq_ => XS.i2b X6.here hx rfl (hb hby d1_61) rfl kq_) ?_
  show OwnG _ _ _ _ _ _ _ (T6.setTop (mkF m 62 #[.val (.long x), .second, .val (.long y), .second, .val (.ref b1)] [(.int ((((x.toUInt64 >>> ((40 : Int32) &&& 0x3f).toInt64.toUInt64).toInt64).toInt32).toInt8.toInt32)), (.int (5 : Int32)), (.ref b1)]))
  obtain ⟨T7, h7, X7, e7, W7, V7, st7⟩ := own_sB X6 hx hZ e6 V6 (5) (by decide) (by decide) (g := (mkF m 62 #[.val (.long x), .second, .val (.long y), .second, .val (.ref b1)] [(.int ((((x.toUInt64 >>> ((40 : Int32) &&& 0x3f).toInt64.toUInt64).toInt64).toInt32).toInt8.toInt32)), (.int (5 : Int32)), (.ref b1)])) rfl rfl (hb hby d1_62)
  have N7 := Fr.snoc X7 N6 gb
  refine own_st st7 ?_
  show OwnG _ _ _ _ _ _ _ (T7.setTop (mkF m 63 #[.val (.long x), .second, .val (.long y), .second, .val (.ref b1)] []))
  refine own_st (fun _ kq_ => XS.aload X7.here hx rfl (hb hby d1_63) rfl rfl kq_) ?_
  show OwnG _ _ _ _ _ _ _ (T7.setTop (mkF m 65 #[.val (.long x), .second, .val (.long y), .second, .val (.ref b1)] [(.ref b1)]))
  refine own_st (fun _ kq_ => XS.bipush X7.here hx rfl (hb hby d1_65) kq_) ?_
  show OwnG _ _ _ _ _ _ _ (T7.setTop (mkF m 67 #[.val (.long x), .second, .val (.long y), .second, .val (.ref b1)] [(.int (6 : Int32)), (.ref b1)]))
  refine own_st (fun _ kq_ => XS.lloadN X7.here hx rfl (hb hby d1_67) rfl kq_) ?_
  show OwnG _ _ _ _ _ _ _ (T7.setTop (mkF m 68 #[.val (.long x), .second, .val (.long y), .second, .val (.ref b1)] [(.long x), (.int (6 : Int32)), (.ref b1)]))
  refine own_st (fun _ kq_ => XS.bipush X7.here hx rfl (hb hby d1_68) kq_) ?_
  show OwnG _ _ _ _ _ _ _ (T7.setTop (mkF m 70 #[.val (.long x), .second, .val (.long y), .second, .val (.ref b1)] [(.int (48 : Int32)), (.long x), (.int (6 : Int32)), (.ref b1)]))
  refine own_st (fun _ kq_ => XS.lushr X7.here hx rfl (hb hby d1_70) rfl kq_) ?_
  show OwnG _ _ _ _ _ _ _ (T7.setTop (mkF m 71 #[.val (.long x), .second, .val (.long y), .second, .val (.ref b1)] [(.long ((x.toUInt64 >>> ((48 : Int32) &&& 0x3f).toInt64.toUInt64).toInt64)), (.int (6 : Int32)), (.ref b1)]))
  refine own_st (fun _ kq_ => XS.l2i X7.here hx rfl (hb hby d1_71) rfl kq_) ?_
  show OwnG _ _ _ _ _ _ _ (T7.setTop (mkF m 72 #[.val (.long x), .second, .val (.long y), .second, .val (.ref b1)] [(.int (((x.toUInt64 >>> ((48 : Int32) &&& 0x3f).toInt64.toUInt64).toInt64).toInt32)), (.int (6 : Int32)), (.ref b1)]))
  refine own_st (fun _ kq_ => XS.i2b X7.here hx rfl (hb hby d1_72) rfl kq_) ?_
  show OwnG _ _ _ _ _ _ _ (T7.setTop (mkF m 73 #[.val (.long x), .second, .val (.long y), .second, .val (.ref b1)] [(.int ((((x.toUInt64 >>> ((48 : Int32) &&& 0x3f).toInt64.toUInt64).toInt64).toInt32).toInt8.toInt32)), (.int (6 : Int32)), (.ref b1)]))
  obtain ⟨T8, h8, X8, e8, W8, V8, st8⟩ := own_sB X7 hx hZ e7 V7 (6) (by decide) (by decide) (g := (mkF m 73 #[.val (.long x), .second, .val (.long y), .second, .val (.ref b1)] [(.int ((((x.toUInt64 >>> ((48 : Int32) &&& 0x3f).toInt64.toUInt64).toInt64).toInt32).toInt8.toInt32)), (.int (6 : Int32)), (.ref b1)])) rfl rfl (hb hby d1_73)
  have N8 := Fr.snoc X8 N7 gb
  refine own_st st8 ?_
  show OwnG _ _ _ _ _ _ _ (T8.setTop (mkF m 74 #[.val (.long x), .second, .val (.long y), .second, .val (.ref b1)] []))
  refine own_st (fun _ kq_ => XS.aload X8.here hx rfl (hb hby d1_74) rfl rfl kq_) ?_
  show OwnG _ _ _ _ _ _ _ (T8.setTop (mkF m 76 #[.val (.long x), .second, .val (.long y), .second, .val (.ref b1)] [(.ref b1)]))
  refine own_st (fun _ kq_ => XS.bipush X8.here hx rfl (hb hby d1_76) kq_) ?_
  show OwnG _ _ _ _ _ _ _ (T8.setTop (mkF m 78 #[.val (.long x), .second, .val (.long y), .second, .val (.ref b1)] [(.int (7 : Int32)), (.ref b1)]))
  refine own_st (fun _ kq_ => XS.lloadN X8.here hx rfl (hb hby d1_78) rfl kq_) ?_
  show OwnG _ _ _ _ _ _ _ (T8.setTop (mkF m 79 #[.val (.long x), .second, .val (.long y), .second, .val (.ref b1)] [(.long x), (.int (7 : Int32)), (.ref b1)]))
  refine own_st (fun _ kq_ => XS.bipush X8.here hx rfl (hb hby d1_79) kq_) ?_
  show OwnG _ _ _ _ _ _ _ (T8.setTop (mkF m 81 #[.val (.long x), .second, .val (.long y), .second, .val (.ref b1)] [(.int (56 : Int32)), (.long x), (.int (7 : Int32)), (.ref b1)]))
  refine own_st (fun _ kq_ => XS.lushr X8.here hx rfl (hb hby d1_81) rfl kq_) ?_
  show OwnG _ _ _ _ _ _ _ (T8.setTop (mkF m 82 #[.val (.long x), .second, .val (.long y), .second, .val (.ref b1)] [(.long ((x.toUInt64 >>> ((56 : Int32) &&& 0x3f).toInt64.toUInt64).toInt64)), (.int (7 : Int32)), (.ref b1)]))
  refine own_st (fun _ kq_ => XS.l2i X8.here hx rfl (hb hby d1_82) rfl kq_) ?_
  show OwnG _ _ _ _ _ _ _ (T8.setTop (mkF m 83 #[.val (.long x), .second, .val (.long y), .second, .val (.ref b1)] [(.int (((x.toUInt64 >>> ((56 : Int32) &&& 0x3f).toInt64.toUInt64).toInt64).toInt32)), (.int (7 : Int32)), (.ref b1)]))
  refine own_st (fun _ kq_ => XS.i2b X8.here hx rfl (hb hby d1_83) rfl kq_) ?_
  show OwnG _ _ _ _ _ _ _ (T8.setTop (mkF m 84 #[.val (.long x), .second, .val (.long y), .second, .val (.ref b1)] [(.int ((((x.toUInt64 >>> ((56 : Int32) &&& 0x3f).toInt64.toUInt64).toInt64).toInt32).toInt8.toInt32)), (.int (7 : Int32)), (.ref b1)]))
  obtain ⟨T9, h9, X9, e9, W9, V9, st9⟩ := own_sB X8 hx hZ e8 V8 (7) (by decide) (by decide) (g := (mkF m 84 #[.val (.long x), .second, .val (.long y), .second, .val (.ref b1)] [(.int ((((x.toUInt64 >>> ((56 : Int32) &&& 0x3f).toInt64.toUInt64).toInt64).toInt32).toInt8.toInt32)), (.int (7 : Int32)), (.ref b1)])) rfl rfl (hb hby d1_84)
  have N9 := Fr.snoc X9 N8 gb
  refine own_st st9 ?_
  show OwnG _ _ _ _ _ _ _ (T9.setTop (mkF m 85 #[.val (.long x), .second, .val (.long y), .second, .val (.ref b1)] []))
  refine own_st (fun _ kq_ => XS.aload X9.here hx rfl (hb hby d1_85) rfl rfl kq_) ?_
  show OwnG _ _ _ _ _ _ _ (T9.setTop (mkF m 87 #[.val (.long x), .second, .val (.long y), .second, .val (.ref b1)] [(.ref b1)]))
  refine own_st (fun _ kq_ => XS.bipush X9.here hx rfl (hb hby d1_87) kq_) ?_
  show OwnG _ _ _ _ _ _ _ (T9.setTop (mkF m 89 #[.val (.long x), .second, .val (.long y), .second, .val (.ref b1)] [(.int (8 : Int32)), (.ref b1)]))
  refine own_st (fun _ kq_ => XS.lloadN X9.here hx rfl (hb hby d1_89) rfl kq_) ?_
  show OwnG _ _ _ _ _ _ _ (T9.setTop (mkF m 90 #[.val (.long x), .second, .val (.long y), .second, .val (.ref b1)] [(.long y), (.int (8 : Int32)), (.ref b1)]))
  refine own_st (fun _ kq_ => XS.l2i X9.here hx rfl (hb hby d1_90) rfl kq_) ?_
  show OwnG _ _ _ _ _ _ _ (T9.setTop (mkF m 91 #[.val (.long x), .second, .val (.long y), .second, .val (.ref b1)] [(.int (y.toInt32)), (.int (8 : Int32)), (.ref b1)]))
  refine own_st (fun _ kq_ => XS.i2b X9.here hx rfl (hb hby d1_91) rfl kq_) ?_
  show OwnG _ _ _ _ _ _ _ (T9.setTop (mkF m 92 #[.val (.long x), .second, .val (.long y), .second, .val (.ref b1)] [(.int ((y.toInt32).toInt8.toInt32)), (.int (8 : Int32)), (.ref b1)]))
  obtain ⟨T10, h10, X10, e10, W10, V10, st10⟩ := own_sB X9 hx hZ e9 V9 (8) (by decide) (by decide) (g := (mkF m 92 #[.val (.long x), .second, .val (.long y), .second, .val (.ref b1)] [(.int ((y.toInt32).toInt8.toInt32)), (.int (8 : Int32)), (.ref b1)])) rfl rfl (hb hby d1_92)
  have N10 := Fr.snoc X10 N9 gb
  refine own_st st10 ?_
  show OwnG _ _ _ _ _ _ _ (T10.setTop (mkF m 93 #[.val (.long x), .second, .val (.long y), .second, .val (.ref b1)] []))
  refine own_st (fun _ kq_ => XS.aload X10.here hx rfl (hb hby d1_93) rfl rfl kq_) ?_
  show OwnG _ _ _ _ _ _ _ (T10.setTop (mkF m 95 #[.val (.long x), .second, .val (.long y), .second, .val (.ref b1)] [(.ref b1)]))
  refine own_st (fun _ kq_ => XS.bipush X10.here hx rfl (hb hby d1_95) kq_) ?_
  show OwnG _ _ _ _ _ _ _ (T10.setTop (mkF m 97 #[.val (.long x), .second, .val (.long y), .second, .val (.ref b1)] [(.int (9 : Int32)), (.ref b1)]))
  refine own_st (fun _ kq_ => XS.lloadN X10.here hx rfl (hb hby d1_97) rfl kq_) ?_
  show OwnG _ _ _ _ _ _ _ (T10.setTop (mkF m 98 #[.val (.long x), .second, .val (.long y), .second, .val (.ref b1)] [(.long y), (.int (9 : Int32)), (.ref b1)]))
  refine own_st (fun _ kq_ => XS.bipush X10.here hx rfl (hb hby d1_98) kq_) ?_
  show OwnG _ _ _ _ _ _ _ (T10.setTop (mkF m 100 #[.val (.long x), .second, .val (.long y), .second, .val (.ref b1)] [(.int (8 : Int32)), (.long y), (.int (9 : Int32)), (.ref b1)]))
  refine own_st (fun _ kq_ => XS.lushr X10.here hx rfl (hb hby d1_100) rfl kq_) ?_
  show OwnG _ _ _ _ _ _ _ (T10.setTop (mkF m 101 #[.val (.long x), .second, .val (.long y), .second, .val (.ref b1)] [(.long ((y.toUInt64 >>> ((8 : Int32) &&& 0x3f).toInt64.toUInt64).toInt64)), (.int (9 : Int32)), (.ref b1)]))
  refine own_st (fun _ kq_ => XS.l2i X10.here hx rfl (hb hby d1_101) rfl kq_) ?_
  show OwnG _ _ _ _ _ _ _ (T10.setTop (mkF m 102 #[.val (.long x), .second, .val (.long y), .second, .val (.ref b1)] [(.int (((y.toUInt64 >>> ((8 : Int32) &&& 0x3f).toInt64.toUInt64).toInt64).toInt32)), (.int (9 : Int32)), (.ref b1)]))
  refine own_st (fun _ kq_ => XS.i2b X10.here hx rfl (hb hby d1_102) rfl kq_) ?_
  show OwnG _ _ _ _ _ _ _ (T10.setTop (mkF m 103 #[.val (.long x), .second, .val (.long y), .second, .val (.ref b1)] [(.int ((((y.toUInt64 >>> ((8 : Int32) &&& 0x3f).toInt64.toUInt64).toInt64).toInt32).toInt8.toInt32)), (.int (9 : Int32)), (.ref b1)]))
  obtain ⟨T11, h11, X11, e11, W11, V11, st11⟩ := own_sB X10 hx hZ e10 V10 (9) (by decide) (by decide) (g := (mkF m 103 #[.val (.long x), .second, .val (.long y), .second, .val (.ref b1)] [(.int ((((y.toUInt64 >>> ((8 : Int32) &&& 0x3f).toInt64.toUInt64).toInt64).toInt32).toInt8.toInt32)), (.int (9 : Int32)), (.ref b1)])) rfl rfl (hb hby d1_103)
  have N11 := Fr.snoc X11 N10 gb
  refine own_st st11 ?_
  show OwnG _ _ _ _ _ _ _ (T11.setTop (mkF m 104 #[.val (.long x), .second, .val (.long y), .second, .val (.ref b1)] []))
  refine own_st (fun _ kq_ => XS.aload X11.here hx rfl (hb hby d1_104) rfl rfl kq_) ?_
  show OwnG _ _ _ _ _ _ _ (T11.setTop (mkF m 106 #[.val (.long x), .second, .val (.long y), .second, .val (.ref b1)] [(.ref b1)]))
  refine own_st (fun _ kq_ => XS.bipush X11.here hx rfl (hb hby d1_106) kq_) ?_
  show OwnG _ _ _ _ _ _ _ (T11.setTop (mkF m 108 #[.val (.long x), .second, .val (.long y), .second, .val (.ref b1)] [(.int (10 : Int32)), (.ref b1)]))
  refine own_st (fun _ kq_ => XS.lloadN X11.here hx rfl (hb hby d1_108) rfl kq_) ?_
  show OwnG _ _ _ _ _ _ _ (T11.setTop (mkF m 109 #[.val (.long x), .second, .val (.long y), .second, .val (.ref b1)] [(.long y), (.int (10 : Int32)), (.ref b1)]))
  refine own_st (fun _ kq_ => XS.bipush X11.here hx rfl (hb hby d1_109) kq_) ?_
  show OwnG _ _ _ _ _ _ _ (T11.setTop (mkF m 111 #[.val (.long x), .second, .val (.long y), .second, .val (.ref b1)] [(.int (16 : Int32)), (.long y), (.int (10 : Int32)), (.ref b1)]))
  refine own_st (fun _ kq_ => XS.lushr X11.here hx rfl (hb hby d1_111) rfl kq_) ?_
  show OwnG _ _ _ _ _ _ _ (T11.setTop (mkF m 112 #[.val (.long x), .second, .val (.long y), .second, .val (.ref b1)] [(.long ((y.toUInt64 >>> ((16 : Int32) &&& 0x3f).toInt64.toUInt64).toInt64)), (.int (10 : Int32)), (.ref b1)]))
  refine own_st (fun _ kq_ => XS.l2i X11.here hx rfl (hb hby d1_112) rfl kq_) ?_
  show OwnG _ _ _ _ _ _ _ (T11.setTop (mkF m 113 #[.val (.long x), .second, .val (.long y), .second, .val (.ref b1)] [(.int (((y.toUInt64 >>> ((16 : Int32) &&& 0x3f).toInt64.toUInt64).toInt64).toInt32)), (.int (10 : Int32)), (.ref b1)]))
  refine own_st (fun _ kq_ => XS.i2b X11.here hx rfl (hb hby d1_113) rfl kq_) ?_
  show OwnG _ _ _ _ _ _ _ (T11.setTop (mkF m 114 #[.val (.long x), .second, .val (.long y), .second, .val (.ref b1)] [(.int ((((y.toUInt64 >>> ((16 : Int32) &&& 0x3f).toInt64.toUInt64).toInt64).toInt32).toInt8.toInt32)), (.int (10 : Int32)), (.ref b1)]))
  obtain ⟨T12, h12, X12, e12, W12, V12, st12⟩ := own_sB X11 hx hZ e11 V11 (10) (by decide) (by decide) (g := (mkF m 114 #[.val (.long x), .second, .val (.long y), .second, .val (.ref b1)] [(.int ((((y.toUInt64 >>> ((16 : Int32) &&& 0x3f).toInt64.toUInt64).toInt64).toInt32).toInt8.toInt32)), (.int (10 : Int32)), (.ref b1)])) rfl rfl (hb hby d1_114)
  have N12 := Fr.snoc X12 N11 gb
  refine own_st st12 ?_
  show OwnG _ _ _ _ _ _ _ (T12.setTop (mkF m 115 #[.val (.long x), .second, .val (.long y), .second, .val (.ref b1)] []))
  refine own_st (fun _ kq_ => XS.aload X12.here hx rfl (hb hby d1_115) rfl rfl kq_) ?_
  show OwnG _ _ _ _ _ _ _ (T12.setTop (mkF m 117 #[.val (.long x), .second, .val (.long y), .second, .val (.ref b1)] [(.ref b1)]))
  refine own_st (fun _ kq_ => XS.bipush X12.here hx rfl (hb hby d1_117) kq_) ?_
  show OwnG _ _ _ _ _ _ _ (T12.setTop (mkF m 119 #[.val (.long x), .second, .val (.long y), .second, .val (.ref b1)] [(.int (11 : Int32)), (.ref b1)]))
  refine own_st (fun _ kq_ => XS.lloadN X12.here hx rfl (hb hby d1_119) rfl kq_) ?_
  show OwnG _ _ _ _ _ _ _ (T12.setTop (mkF m 120 #[.val (.long x), .second, .val (.long y), .second, .val (.ref b1)] [(.long y), (.int (11 : Int32)), (.ref b1)]))
  refine own_st (fun _ kq_ => XS.bipush X12.here hx rfl (hb hby d1_120) kq_) ?_
  show OwnG _ _ _ _ _ _ _ (T12.setTop (mkF m 122 #[.val (.long x), .second, .val (.long y), .second, .val (.ref b1)] [(.int (24 : Int32)), (.long y), (.int (11 : Int32)), (.ref b1)]))
  refine own_st (fun _ kq_ => XS.lushr X12.here hx rfl (hb hby d1_122) rfl kq_) ?_
  show OwnG _ _ _ _ _ _ _ (T12.setTop (mkF m 123 #[.val (.long x), .second, .val (.long y), .second, .val (.ref b1)] [(.long ((y.toUInt64 >>> ((24 : Int32) &&& 0x3f).toInt64.toUInt64).toInt64)), (.int (11 : Int32)), (.ref b1)]))
  refine own_st (fun _ kq_ => XS.l2i X12.here hx rfl (hb hby d1_123) rfl kq_) ?_
  show OwnG _ _ _ _ _ _ _ (T12.setTop (mkF m 124 #[.val (.long x), .second, .val (.long y), .second, .val (.ref b1)] [(.int (((y.toUInt64 >>> ((24 : Int32) &&& 0x3f).toInt64.toUInt64).toInt64).toInt32)), (.int (11 : Int32)), (.ref b1)]))
  refine own_st (fun _ kq_ => XS.i2b X12.here hx rfl (hb hby d1_124) rfl kq_) ?_
  show OwnG _ _ _ _ _ _ _ (T12.setTop (mkF m 125 #[.val (.long x), .second, .val (.long y), .second, .val (.ref b1)] [(.int ((((y.toUInt64 >>> ((24 : Int32) &&& 0x3f).toInt64.toUInt64).toInt64).toInt32).toInt8.toInt32)), (.int (11 : Int32)), (.ref b1)]))
  obtain ⟨T13, h13, X13, e13, W13, V13, st13⟩ := own_sB X12 hx hZ e12 V12 (11) (by decide) (by decide) (g := (mkF m 125 #[.val (.long x), .second, .val (.long y), .second, .val (.ref b1)] [(.int ((((y.toUInt64 >>> ((24 : Int32) &&& 0x3f).toInt64.toUInt64).toInt64).toInt32).toInt8.toInt32)), (.int (11 : Int32)), (.ref b1)])) rfl rfl (hb hby d1_125)
  have N13 := Fr.snoc X13 N12 gb
  refine own_st st13 ?_
  show OwnG _ _ _ _ _ _ _ (T13.setTop (mkF m 126 #[.val (.long x), .second, .val (.long y), .second, .val (.ref b1)] []))
  refine own_st (fun _ kq_ => XS.aload X13.here hx rfl (hb hby d1_126) rfl rfl kq_) ?_
  show OwnG _ _ _ _ _ _ _ (T13.setTop (mkF m 128 #[.val (.long x), .second, .val (.long y), .second, .val (.ref b1)] [(.ref b1)]))
  refine own_st (fun _ kq_ => XS.bipush X13.here hx rfl (hb hby d1_128) kq_) ?_
  show OwnG _ _ _ _ _ _ _ (T13.setTop (mkF m 130 #[.val (.long x), .second, .val (.long y), .second, .val (.ref b1)] [(.int (12 : Int32)), (.ref b1)]))
  refine own_st (fun _ kq_ => XS.lloadN X13.here hx rfl (hb hby d1_130) rfl kq_) ?_
  show OwnG _ _ _ _ _ _ _ (T13.setTop (mkF m 131 #[.val (.long x), .second, .val (.long y), .second, .val (.ref b1)] [(.long y), (.int (12 : Int32)), (.ref b1)]))
  refine own_st (fun _ kq_ => XS.bipush X13.here hx rfl (hb hby d1_131) kq_) ?_
  show OwnG _ _ _ _ _ _ _ (T13.setTop (mkF m 133 #[.val (.long x), .second, .val (.long y), .second, .val (.ref b1)] [(.int (32 : Int32)), (.long y), (.int (12 : Int32)), (.ref b1)]))
  refine own_st (fun _ kq_ => XS.lushr X13.here hx rfl (hb hby d1_133) rfl kq_) ?_
  show OwnG _ _ _ _ _ _ _ (T13.setTop (mkF m 134 #[.val (.long x), .second, .val (.long y), .second, .val (.ref b1)] [(.long ((y.toUInt64 >>> ((32 : Int32) &&& 0x3f).toInt64.toUInt64).toInt64)), (.int (12 : Int32)), (.ref b1)]))
  refine own_st (fun _ kq_ => XS.l2i X13.here hx rfl (hb hby d1_134) rfl kq_) ?_
  show OwnG _ _ _ _ _ _ _ (T13.setTop (mkF m 135 #[.val (.long x), .second, .val (.long y), .second, .val (.ref b1)] [(.int (((y.toUInt64 >>> ((32 : Int32) &&& 0x3f).toInt64.toUInt64).toInt64).toInt32)), (.int (12 : Int32)), (.ref b1)]))
  refine own_st (fun _ kq_ => XS.i2b X13.here hx rfl (hb hby d1_135) rfl kq_) ?_
  show OwnG _ _ _ _ _ _ _ (T13.setTop (mkF m 136 #[.val (.long x), .second, .val (.long y), .second, .val (.ref b1)] [(.int ((((y.toUInt64 >>> ((32 : Int32) &&& 0x3f).toInt64.toUInt64).toInt64).toInt32).toInt8.toInt32)), (.int (12 : Int32)), (.ref b1)]))
  obtain ⟨T14, h14, X14, e14, W14, V14, st14⟩ := own_sB X13 hx hZ e13 V13 (12) (by decide) (by decide) (g := (mkF m 136 #[.val (.long x), .second, .val (.long y), .second, .val (.ref b1)] [(.int ((((y.toUInt64 >>> ((32 : Int32) &&& 0x3f).toInt64.toUInt64).toInt64).toInt32).toInt8.toInt32)), (.int (12 : Int32)), (.ref b1)])) rfl rfl (hb hby d1_136)
  have N14 := Fr.snoc X14 N13 gb
  refine own_st st14 ?_
  show OwnG _ _ _ _ _ _ _ (T14.setTop (mkF m 137 #[.val (.long x), .second, .val (.long y), .second, .val (.ref b1)] []))
  refine own_st (fun _ kq_ => XS.aload X14.here hx rfl (hb hby d1_137) rfl rfl kq_) ?_
  show OwnG _ _ _ _ _ _ _ (T14.setTop (mkF m 139 #[.val (.long x), .second, .val (.long y), .second, .val (.ref b1)] [(.ref b1)]))
  refine own_st (fun _ kq_ => XS.bipush X14.here hx rfl (hb hby d1_139) kq_) ?_
  show OwnG _ _ _ _ _ _ _ (T14.setTop (mkF m 141 #[.val (.long x), .second, .val (.long y), .second, .val (.ref b1)] [(.int (13 : Int32)), (.ref b1)]))
  refine own_st (fun _ kq_ => XS.lloadN X14.here hx rfl (hb hby d1_141) rfl kq_) ?_
  show OwnG _ _ _ _ _ _ _ (T14.setTop (mkF m 142 #[.val (.long x), .second, .val (.long y), .second, .val (.ref b1)] [(.long y), (.int (13 : Int32)), (.ref b1)]))
  refine own_st (fun _ kq_ => XS.bipush X14.here hx rfl (hb hby d1_142) kq_) ?_
  show OwnG _ _ _ _ _ _ _ (T14.setTop (mkF m 144 #[.val (.long x), .second, .val (.long y), .second, .val (.ref b1)] [(.int (40 : Int32)), (.long y), (.int (13 : Int32)), (.ref b1)]))
  refine own_st (fun _ kq_ => XS.lushr X14.here hx rfl (hb hby d1_144) rfl kq_) ?_
  show OwnG _ _ _ _ _ _ _ (T14.setTop (mkF m 145 #[.val (.long x), .second, .val (.long y), .second, .val (.ref b1)] [(.long ((y.toUInt64 >>> ((40 : Int32) &&& 0x3f).toInt64.toUInt64).toInt64)), (.int (13 : Int32)), (.ref b1)]))
  refine own_st (fun _ kq_ => XS.l2i X14.here hx rfl (hb hby d1_145) rfl kq_) ?_
  show OwnG _ _ _ _ _ _ _ (T14.setTop (mkF m 146 #[.val (.long x), .second, .val (.long y), .second, .val (.ref b1)] [(.int (((y.toUInt64 >>> ((40 : Int32) &&& 0x3f).toInt64.toUInt64).toInt64).toInt32)), (.int (13 : Int32)), (.ref b1)]))
  refine own_st (fun _ kq_ => XS.i2b X14.here hx rfl (hb hby d1_146) rfl kq_) ?_
  show OwnG _ _ _ _ _ _ _ (T14.setTop (mkF m 147 #[.val (.long x), .second, .val (.long y), .second, .val (.ref b1)] [(.int ((((y.toUInt64 >>> ((40 : Int32) &&& 0x3f).toInt64.toUInt64).toInt64).toInt32).toInt8.toInt32)), (.int (13 : Int32)), (.ref b1)]))
  obtain ⟨T15, h15, X15, e15, W15, V15, st15⟩ := own_sB X14 hx hZ e14 V14 (13) (by decide) (by decide) (g := (mkF m 147 #[.val (.long x), .second, .val (.long y), .second, .val (.ref b1)] [(.int ((((y.toUInt64 >>> ((40 : Int32) &&& 0x3f).toInt64.toUInt64).toInt64).toInt32).toInt8.toInt32)), (.int (13 : Int32)), (.ref b1)])) rfl rfl (hb hby d1_147)
  have N15 := Fr.snoc X15 N14 gb
  refine own_st st15 ?_
  show OwnG _ _ _ _ _ _ _ (T15.setTop (mkF m 148 #[.val (.long x), .second, .val (.long y), .second, .val (.ref b1)] []))
  refine own_st (fun _ kq_ => XS.aload X15.here hx rfl (hb hby d1_148) rfl rfl kq_) ?_
  show OwnG _ _ _ _ _ _ _ (T15.setTop (mkF m 150 #[.val (.long x), .second, .val (.long y), .second, .val (.ref b1)] [(.ref b1)]))
  refine own_st (fun _ kq_ => XS.bipush X15.here hx rfl (hb hby d1_150) kq_) ?_
  show OwnG _ _ _ _ _ _ _ (T15.setTop (mkF m 152 #[.val (.long x), .second, .val (.long y), .second, .val (.ref b1)] [(.int (14 : Int32)), (.ref b1)]))
  refine own_st (fun _ kq_ => XS.lloadN X15.here hx rfl (hb hby d1_152) rfl kq_) ?_
  show OwnG _ _ _ _ _ _ _ (T15.setTop (mkF m 153 #[.val (.long x), .second, .val (.long y), .second, .val (.ref b1)] [(.long y), (.int (14 : Int32)), (.ref b1)]))
  refine own_st (fun _ kq_ => XS.bipush X15.here hx rfl (hb hby d1_153) kq_) ?_
  show OwnG _ _ _ _ _ _ _ (T15.setTop (mkF m 155 #[.val (.long x), .second, .val (.long y), .second, .val (.ref b1)] [(.int (48 : Int32)), (.long y), (.int (14 : Int32)), (.ref b1)]))
  refine own_st (fun _ kq_ => XS.lushr X15.here hx rfl (hb hby d1_155) rfl kq_) ?_
  show OwnG _ _ _ _ _ _ _ (T15.setTop (mkF m 156 #[.val (.long x), .second, .val (.long y), .second, .val (.ref b1)] [(.long ((y.toUInt64 >>> ((48 : Int32) &&& 0x3f).toInt64.toUInt64).toInt64)), (.int (14 : Int32)), (.ref b1)]))
  refine own_st (fun _ kq_ => XS.l2i X15.here hx rfl (hb hby d1_156) rfl kq_) ?_
  show OwnG _ _ _ _ _ _ _ (T15.setTop (mkF m 157 #[.val (.long x), .second, .val (.long y), .second, .val (.ref b1)] [(.int (((y.toUInt64 >>> ((48 : Int32) &&& 0x3f).toInt64.toUInt64).toInt64).toInt32)), (.int (14 : Int32)), (.ref b1)]))
  refine own_st (fun _ kq_ => XS.i2b X15.here hx rfl (hb hby d1_157) rfl kq_) ?_
  show OwnG _ _ _ _ _ _ _ (T15.setTop (mkF m 158 #[.val (.long x), .second, .val (.long y), .second, .val (.ref b1)] [(.int ((((y.toUInt64 >>> ((48 : Int32) &&& 0x3f).toInt64.toUInt64).toInt64).toInt32).toInt8.toInt32)), (.int (14 : Int32)), (.ref b1)]))
  obtain ⟨T16, h16, X16, e16, W16, V16, st16⟩ := own_sB X15 hx hZ e15 V15 (14) (by decide) (by decide) (g := (mkF m 158 #[.val (.long x), .second, .val (.long y), .second, .val (.ref b1)] [(.int ((((y.toUInt64 >>> ((48 : Int32) &&& 0x3f).toInt64.toUInt64).toInt64).toInt32).toInt8.toInt32)), (.int (14 : Int32)), (.ref b1)])) rfl rfl (hb hby d1_158)
  have N16 := Fr.snoc X16 N15 gb
  refine own_st st16 ?_
  show OwnG _ _ _ _ _ _ _ (T16.setTop (mkF m 159 #[.val (.long x), .second, .val (.long y), .second, .val (.ref b1)] []))
  refine own_st (fun _ kq_ => XS.aload X16.here hx rfl (hb hby d1_159) rfl rfl kq_) ?_
  show OwnG _ _ _ _ _ _ _ (T16.setTop (mkF m 161 #[.val (.long x), .second, .val (.long y), .second, .val (.ref b1)] [(.ref b1)]))
  refine own_st (fun _ kq_ => XS.bipush X16.here hx rfl (hb hby d1_161) kq_) ?_
  show OwnG _ _ _ _ _ _ _ (T16.setTop (mkF m 163 #[.val (.long x), .second, .val (.long y), .second, .val (.ref b1)] [(.int (15 : Int32)), (.ref b1)]))
  refine own_st (fun _ kq_ => XS.lloadN X16.here hx rfl (hb hby d1_163) rfl kq_) ?_
  show OwnG _ _ _ _ _ _ _ (T16.setTop (mkF m 164 #[.val (.long x), .second, .val (.long y), .second, .val (.ref b1)] [(.long y), (.int (15 : Int32)), (.ref b1)]))
  refine own_st (fun _ kq_ => XS.bipush X16.here hx rfl (hb hby d1_164) kq_) ?_
  show OwnG _ _ _ _ _ _ _ (T16.setTop (mkF m 166 #[.val (.long x), .second, .val (.long y), .second, .val (.ref b1)] [(.int (56 : Int32)), (.long y), (.int (15 : Int32)), (.ref b1)]))
  refine own_st (fun _ kq_ => XS.lushr X16.here hx rfl (hb hby d1_166) rfl kq_) ?_
  show OwnG _ _ _ _ _ _ _ (T16.setTop (mkF m 167 #[.val (.long x), .second, .val (.long y), .second, .val (.ref b1)] [(.long ((y.toUInt64 >>> ((56 : Int32) &&& 0x3f).toInt64.toUInt64).toInt64)), (.int (15 : Int32)), (.ref b1)]))
  refine own_st (fun _ kq_ => XS.l2i X16.here hx rfl (hb hby d1_167) rfl kq_) ?_
  show OwnG _ _ _ _ _ _ _ (T16.setTop (mkF m 168 #[.val (.long x), .second, .val (.long y), .second, .val (.ref b1)] [(.int (((y.toUInt64 >>> ((56 : Int32) &&& 0x3f).toInt64.toUInt64).toInt64).toInt32)), (.int (15 : Int32)), (.ref b1)]))
  refine own_st (fun _ kq_ => XS.i2b X16.here hx rfl (hb hby d1_168) rfl kq_) ?_
  show OwnG _ _ _ _ _ _ _ (T16.setTop (mkF m 169 #[.val (.long x), .second, .val (.long y), .second, .val (.ref b1)] [(.int ((((y.toUInt64 >>> ((56 : Int32) &&& 0x3f).toInt64.toUInt64).toInt64).toInt32).toInt8.toInt32)), (.int (15 : Int32)), (.ref b1)]))
  obtain ⟨T17, h17, X17, e17, W17, V17, st17⟩ := own_sB X16 hx hZ e16 V16 (15) (by decide) (by decide) (g := (mkF m 169 #[.val (.long x), .second, .val (.long y), .second, .val (.ref b1)] [(.int ((((y.toUInt64 >>> ((56 : Int32) &&& 0x3f).toInt64.toUInt64).toInt64).toInt32).toInt8.toInt32)), (.int (15 : Int32)), (.ref b1)])) rfl rfl (hb hby d1_169)
  have N17 := Fr.snoc X17 N16 gb
  refine own_st st17 ?_
  show OwnG _ _ _ _ _ _ _ (T17.setTop (mkF m 170 #[.val (.long x), .second, .val (.long y), .second, .val (.ref b1)] []))
  refine own_st (fun _ kq_ => XS.aload X17.here hx rfl (hb hby d1_170) rfl rfl kq_) ?_
  show OwnG _ _ _ _ _ _ _ (T17.setTop (mkF m 172 #[.val (.long x), .second, .val (.long y), .second, .val (.ref b1)] [(.ref b1)]))
  have VV : Ary Z h17 b1 .byte 16 (fun j => .int (own_byte x y j)) := by
    refine V17.cong fun j hj => ?_
    have hj2 : j = 0 ∨ j = 1 ∨ j = 2 ∨ j = 3 ∨ j = 4 ∨ j = 5 ∨ j = 6 ∨ j = 7 ∨ j = 8 ∨ j = 9 ∨ j = 10 ∨ j = 11 ∨ j = 12 ∨ j = 13 ∨ j = 14 ∨ j = 15 := by omega
    rcases hj2 with rfl | rfl | rfl | rfl | rfl | rfl | rfl | rfl | rfl | rfl | rfl | rfl | rfl | rfl | rfl | rfl
    · exact congrArg Value.int (own_by _)
    · exact congrArg Value.int (own_by _)
    · exact congrArg Value.int (own_by _)
    · exact congrArg Value.int (own_by _)
    · exact congrArg Value.int (own_by _)
    · exact congrArg Value.int (own_by _)
    · exact congrArg Value.int (own_by _)
    · exact congrArg Value.int (own_by _)
    · exact congrArg Value.int (own_by _)
    · exact congrArg Value.int (own_by _)
    · exact congrArg Value.int (own_by _)
    · exact congrArg Value.int (own_by _)
    · exact congrArg Value.int (own_by _)
    · exact congrArg Value.int (own_by _)
    · exact congrArg Value.int (own_by _)
    · exact congrArg Value.int (own_by _)
  rw [g1] at VV
  rw [g1]
  show OwnG _ _ _ _ _ _ _ (T17.setTop (mkF m 172 #[.val (.long x), .second, .val (.long y), .second, .val (.ref h0.size)] [(.ref h0.size)]))
  exact own_retA X17 hx hrt hlk rfl (hb hby d1_172) (by decide) (by decide) (by show _ ∧ _; first | (rw [e17]; exact ⟨rfl, N17, by rw [W17.size, W16.size, W15.size, W14.size, W13.size, W12.size, W11.size, W10.size, W9.size, W8.size, W7.size, W6.size, W5.size, W4.size, W3.size, W2.size]; exact S1, VV⟩) | exact ⟨rfl, N17, by rw [W17.size, W16.size, W15.size, W14.size, W13.size, W12.size, W11.size, W10.size, W9.size, W8.size, W7.size, W6.size, W5.size, W4.size, W3.size, W2.size]; exact S1, VV⟩)
theorem d2_0 : decode prog_9_method_3_code 0 = .ok (.lconst 0, 1) := by decide +kernel
theorem d2_1 : decode prog_9_method_3_code 1 = .ok (.lstore_n 3, 1) := by decide +kernel
theorem d2_2 : decode prog_9_method_3_code 2 = .ok (.iload_n 1, 1) := by decide +kernel
theorem d2_3 : decode prog_9_method_3_code 3 = .ok (.iload_n 2, 1) := by decide +kernel
theorem d2_4 : decode prog_9_method_3_code 4 = .ok (.iadd, 1) := by decide +kernel
theorem d2_5 : decode prog_9_method_3_code 5 = .ok (.iconst 1, 1) := by decide +kernel
theorem d2_6 : decode prog_9_method_3_code 6 = .ok (.isub, 1) := by decide +kernel
theorem d2_7 : decode prog_9_method_3_code 7 = .ok (.istore 5, 2) := by decide +kernel
theorem d2_9 : decode prog_9_method_3_code 9 = .ok (.iload 5, 2) := by decide +kernel
theorem d2_11 : decode prog_9_method_3_code 11 = .ok (.iload_n 1, 1) := by decide +kernel
theorem d2_12 : decode prog_9_method_3_code 12 = .ok (.if_icmp .lt 24, 3) := by decide +kernel
theorem d2_15 : decode prog_9_method_3_code 15 = .ok (.lload_n 3, 1) := by decide +kernel
theorem d2_16 : decode prog_9_method_3_code 16 = .ok (.bipush 8, 2) := by decide +kernel
theorem d2_18 : decode prog_9_method_3_code 18 = .ok (.lshl, 1) := by decide +kernel
theorem d2_19 : decode prog_9_method_3_code 19 = .ok (.aload_n 0, 1) := by decide +kernel
theorem d2_20 : decode prog_9_method_3_code 20 = .ok (.iload 5, 2) := by decide +kernel
theorem d2_22 : decode prog_9_method_3_code 22 = .ok (.baload, 1) := by decide +kernel
theorem d2_23 : decode prog_9_method_3_code 23 = .ok (.sipush 255, 3) := by decide +kernel
theorem d2_26 : decode prog_9_method_3_code 26 = .ok (.iand, 1) := by decide +kernel
theorem d2_27 : decode prog_9_method_3_code 27 = .ok (.i2l, 1) := by decide +kernel
theorem d2_28 : decode prog_9_method_3_code 28 = .ok (.lor, 1) := by decide +kernel
theorem d2_29 : decode prog_9_method_3_code 29 = .ok (.lstore_n 3, 1) := by decide +kernel
theorem d2_30 : decode prog_9_method_3_code 30 = .ok (.iinc 5 (-1), 3) := by decide +kernel
theorem d2_33 : decode prog_9_method_3_code 33 = .ok (.goto (-24), 3) := by decide +kernel
theorem d2_36 : decode prog_9_method_3_code 36 = .ok (.lload_n 3, 1) := by decide +kernel
theorem d2_37 : decode prog_9_method_3_code 37 = .ok (.lreturn, 1) := by decide +kernel
def Q2 (Z : State) (a1 : Addr) (t : Nat) (wd : Nat) (x : Int64) (y : Int64) (h0 : Heap) (n0 : Nat) (v : Option Value) (h : Heap) (L : List Loc) : Prop := v = some (.long (own_acc (own_byte x y) t wd 0)) ∧ Fr n0 L ∧ h = h0
set_option maxRecDepth 65536 in
set_option maxHeartbeats 40000000 in
theorem own_loop {p : Program} {l : Launch} {e : Env} {s : State} {m : MethodId} {args : Array Value} {below : List Frame} {meth : Method} {c : Code} {Z : State} {a0 : Array Value} (hx : p.tables.exec = Jvm.exec) (hZ : Z.Warmed39 s.vm) (hw : ∀ d ∈ tables_1, d.before a0 Z = true) (hby : c.code = prog_9_method_3_code) (hml : c.maxLocals = 6) (hown : s.vm.findClass "com/example/beaconwire/beaconwire/Bytes" = some m.cls) (hrt : meth.sig.returnType = some .long) (hlk : meth.locks = false) (a1 : Addr) (t wd : Nat) (ht : t ≤ 8) (hwd : wd ≤ 8) (x y : Int64) (n0 : Nat) {hs : Heap} {T0 : State} {h0 : Heap} {locs : List Loc} (X0 : Stand p l e ({ frames := 0, cells := 0, slots := 0, locals := 0 } : Room) s m args below meth c T0 locs 0 0) (e0 : T0.heap = h0) (hh : h0 = hs) (N0 : Fr n0 locs) (V0 : Ary Z h0 a1 .byte 16 (fun j => .int (own_byte x y j))) : ∀ (r : Nat) (V : Int64) (i : Int32), r ≤ wd → i.toInt = (t : Int) + r - 1 → own_acc (own_byte x y) t r V = own_acc (own_byte x y) t wd 0 → OwnG 0 0 (Q2 Z a1 t wd x y hs n0) p e below s (T0.setTop (mkF m 9 #[.val (.ref a1), .val (.int (Int32.ofNat t)), .val (.int (Int32.ofNat wd)), .val (.long V), .second, .val (.int i)] [])) := by
  have ht2 : (Int32.ofNat t).toInt = (t : Int) := Int32.toInt_ofNat_of_lt (by omega)
  intro r
  induction r with
  | zero =>
    intro V i hr hi hacc
    show OwnG _ _ _ _ _ _ _ (T0.setTop (mkF m 9 #[.val (.ref a1), .val (.int (Int32.ofNat t)), .val (.int (Int32.ofNat wd)), .val (.long V), .second, .val (.int i)] []))
    refine own_st (fun _ kq_ => XS.iload X0.here hx rfl (hb hby d2_9) rfl kq_) ?_
    show OwnG _ _ _ _ _ _ _ (T0.setTop (mkF m 11 #[.val (.ref a1), .val (.int (Int32.ofNat t)), .val (.int (Int32.ofNat wd)), .val (.long V), .second, .val (.int i)] [(.int i)]))
    refine own_st (fun _ kq_ => XS.iloadN X0.here hx rfl (hb hby d2_11) rfl kq_) ?_
    show OwnG _ _ _ _ _ _ _ (T0.setTop (mkF m 12 #[.val (.ref a1), .val (.int (Int32.ofNat t)), .val (.int (Int32.ofNat wd)), .val (.long V), .second, .val (.int i)] [(.int (Int32.ofNat t)), (.int i)]))
    refine own_st (fun _ kq_ => XS.icmpYes X0.here hx rfl (pc0 := 12) (pc' := 36) rfl (hb hby d2_12) rfl (tlt (by rw [Int32.lt_iff_toInt_lt]; omega)).1 (by decide) (by decide) kq_) ?_
    show OwnG _ _ _ _ _ _ _ (T0.setTop (mkF m 36 #[.val (.ref a1), .val (.int (Int32.ofNat t)), .val (.int (Int32.ofNat wd)), .val (.long V), .second, .val (.int i)] []))
    refine own_st (fun _ kq_ => XS.lloadN X0.here hx rfl (hb hby d2_36) rfl kq_) ?_
    show OwnG _ _ _ _ _ _ _ (T0.setTop (mkF m 37 #[.val (.ref a1), .val (.int (Int32.ofNat t)), .val (.int (Int32.ofNat wd)), .val (.long V), .second, .val (.int i)] [(.long V)]))
    exact own_retJ X0 hx hrt hlk (hb hby d2_37) (by decide) (by decide) (by show _ ∧ _; first | (rw [e0]; exact ⟨congrArg (fun z => some (Value.long z)) hacc, N0, hh⟩) | exact ⟨congrArg (fun z => some (Value.long z)) hacc, N0, hh⟩)
  | succ r ih =>
    intro V i hr hi hacc
    show OwnG _ _ _ _ _ _ _ (T0.setTop (mkF m 9 #[.val (.ref a1), .val (.int (Int32.ofNat t)), .val (.int (Int32.ofNat wd)), .val (.long V), .second, .val (.int i)] []))
    refine own_st (fun _ kq_ => XS.iload X0.here hx rfl (hb hby d2_9) rfl kq_) ?_
    show OwnG _ _ _ _ _ _ _ (T0.setTop (mkF m 11 #[.val (.ref a1), .val (.int (Int32.ofNat t)), .val (.int (Int32.ofNat wd)), .val (.long V), .second, .val (.int i)] [(.int i)]))
    refine own_st (fun _ kq_ => XS.iloadN X0.here hx rfl (hb hby d2_11) rfl kq_) ?_
    show OwnG _ _ _ _ _ _ _ (T0.setTop (mkF m 12 #[.val (.ref a1), .val (.int (Int32.ofNat t)), .val (.int (Int32.ofNat wd)), .val (.long V), .second, .val (.int i)] [(.int (Int32.ofNat t)), (.int i)]))
    refine own_st (fun _ kq_ => XS.icmpNo X0.here hx rfl (hb hby d2_12) rfl (flt (by rw [Int32.lt_iff_toInt_lt]; omega)).1 kq_) ?_
    show OwnG _ _ _ _ _ _ _ (T0.setTop (mkF m 15 #[.val (.ref a1), .val (.int (Int32.ofNat t)), .val (.int (Int32.ofNat wd)), .val (.long V), .second, .val (.int i)] []))
    refine own_st (fun _ kq_ => XS.lloadN X0.here hx rfl (hb hby d2_15) rfl kq_) ?_
    show OwnG _ _ _ _ _ _ _ (T0.setTop (mkF m 16 #[.val (.ref a1), .val (.int (Int32.ofNat t)), .val (.int (Int32.ofNat wd)), .val (.long V), .second, .val (.int i)] [(.long V)]))
    refine own_st (fun _ kq_ => XS.bipush X0.here hx rfl (hb hby d2_16) kq_) ?_
    show OwnG _ _ _ _ _ _ _ (T0.setTop (mkF m 18 #[.val (.ref a1), .val (.int (Int32.ofNat t)), .val (.int (Int32.ofNat wd)), .val (.long V), .second, .val (.int i)] [(.int (8 : Int32)), (.long V)]))
    refine own_st (fun _ kq_ => XS.lshl X0.here hx rfl (hb hby d2_18) rfl kq_) ?_
    show OwnG _ _ _ _ _ _ _ (T0.setTop (mkF m 19 #[.val (.ref a1), .val (.int (Int32.ofNat t)), .val (.int (Int32.ofNat wd)), .val (.long V), .second, .val (.int i)] [(.long (V <<< ((8 : Int32) &&& 0x3f).toInt64))]))
    refine own_st (fun _ kq_ => XS.aloadN X0.here hx rfl (hb hby d2_19) rfl rfl kq_) ?_
    show OwnG _ _ _ _ _ _ _ (T0.setTop (mkF m 20 #[.val (.ref a1), .val (.int (Int32.ofNat t)), .val (.int (Int32.ofNat wd)), .val (.long V), .second, .val (.int i)] [(.ref a1), (.long (V <<< ((8 : Int32) &&& 0x3f).toInt64))]))
    refine own_st (fun _ kq_ => XS.iload X0.here hx rfl (hb hby d2_20) rfl kq_) ?_
    show OwnG _ _ _ _ _ _ _ (T0.setTop (mkF m 22 #[.val (.ref a1), .val (.int (Int32.ofNat t)), .val (.int (Int32.ofNat wd)), .val (.long V), .second, .val (.int i)] [(.int i), (.ref a1), (.long (V <<< ((8 : Int32) &&& 0x3f).toInt64))]))
    refine own_st (own_bl X0 hx hZ e0 V0 (t + r) (by omega) (by omega) rfl (g := (mkF m 22 #[.val (.ref a1), .val (.int (Int32.ofNat t)), .val (.int (Int32.ofNat wd)), .val (.long V), .second, .val (.int i)] [(.int i), (.ref a1), (.long (V <<< ((8 : Int32) &&& 0x3f).toInt64))])) rfl rfl (hb hby d2_22)) ?_
    show OwnG _ _ _ _ _ _ _ (T0.setTop (mkF m 23 #[.val (.ref a1), .val (.int (Int32.ofNat t)), .val (.int (Int32.ofNat wd)), .val (.long V), .second, .val (.int i)] [(.int (own_byte x y (t + r))), (.long (V <<< ((8 : Int32) &&& 0x3f).toInt64))]))
    refine own_st (fun _ kq_ => XS.sipush X0.here hx rfl (hb hby d2_23) kq_) ?_
    show OwnG _ _ _ _ _ _ _ (T0.setTop (mkF m 26 #[.val (.ref a1), .val (.int (Int32.ofNat t)), .val (.int (Int32.ofNat wd)), .val (.long V), .second, .val (.int i)] [(.int (255 : Int32)), (.int (own_byte x y (t + r))), (.long (V <<< ((8 : Int32) &&& 0x3f).toInt64))]))
    refine own_st (fun _ kq_ => XS.iand X0.here hx rfl (hb hby d2_26) rfl kq_) ?_
    show OwnG _ _ _ _ _ _ _ (T0.setTop (mkF m 27 #[.val (.ref a1), .val (.int (Int32.ofNat t)), .val (.int (Int32.ofNat wd)), .val (.long V), .second, .val (.int i)] [(.int ((own_byte x y (t + r)) &&& (255 : Int32))), (.long (V <<< ((8 : Int32) &&& 0x3f).toInt64))]))
    refine own_st (fun _ kq_ => XS.i2l X0.here hx rfl (hb hby d2_27) rfl kq_) ?_
    show OwnG _ _ _ _ _ _ _ (T0.setTop (mkF m 28 #[.val (.ref a1), .val (.int (Int32.ofNat t)), .val (.int (Int32.ofNat wd)), .val (.long V), .second, .val (.int i)] [(.long (((own_byte x y (t + r)) &&& (255 : Int32)).toInt64)), (.long (V <<< ((8 : Int32) &&& 0x3f).toInt64))]))
    refine own_st (fun _ kq_ => XS.lor X0.here hx rfl (hb hby d2_28) rfl kq_) ?_
    show OwnG _ _ _ _ _ _ _ (T0.setTop (mkF m 29 #[.val (.ref a1), .val (.int (Int32.ofNat t)), .val (.int (Int32.ofNat wd)), .val (.long V), .second, .val (.int i)] [(.long ((V <<< ((8 : Int32) &&& 0x3f).toInt64) ||| (((own_byte x y (t + r)) &&& (255 : Int32)).toInt64)))]))
    refine own_st (fun _ kq_ => XS.lstoreN X0.here hx rfl (hb hby d2_29) rfl (l' := #[.val (.ref a1), .val (.int (Int32.ofNat t)), .val (.int (Int32.ofNat wd)), .val (.long ((V <<< ((8 : Int32) &&& 0x3f).toInt64) ||| (((own_byte x y (t + r)) &&& (255 : Int32)).toInt64))), .second, .val (.int i)]) rfl kq_) ?_
    show OwnG _ _ _ _ _ _ _ (T0.setTop (mkF m 30 #[.val (.ref a1), .val (.int (Int32.ofNat t)), .val (.int (Int32.ofNat wd)), .val (.long ((V <<< ((8 : Int32) &&& 0x3f).toInt64) ||| (((own_byte x y (t + r)) &&& (255 : Int32)).toInt64))), .second, .val (.int i)] []))
    refine own_st (fun _ kq_ => XS.iinc X0.here hx rfl (hb hby d2_30) rfl (l' := #[.val (.ref a1), .val (.int (Int32.ofNat t)), .val (.int (Int32.ofNat wd)), .val (.long ((V <<< ((8 : Int32) &&& 0x3f).toInt64) ||| (((own_byte x y (t + r)) &&& (255 : Int32)).toInt64))), .second, .val (.int (i + (-1 : Int32)))]) rfl kq_) ?_
    show OwnG _ _ _ _ _ _ _ (T0.setTop (mkF m 33 #[.val (.ref a1), .val (.int (Int32.ofNat t)), .val (.int (Int32.ofNat wd)), .val (.long ((V <<< ((8 : Int32) &&& 0x3f).toInt64) ||| (((own_byte x y (t + r)) &&& (255 : Int32)).toInt64))), .second, .val (.int (i + (-1 : Int32)))] []))
    refine own_st (fun _ kq_ => XS.goto X0.here hx rfl (pc0 := 33) (pc' := 9) rfl (hb hby d2_33) (by decide) (by decide) kq_) ?_
    show OwnG _ _ _ _ _ _ _ (T0.setTop (mkF m 9 #[.val (.ref a1), .val (.int (Int32.ofNat t)), .val (.int (Int32.ofNat wd)), .val (.long ((V <<< ((8 : Int32) &&& 0x3f).toInt64) ||| (((own_byte x y (t + r)) &&& (255 : Int32)).toInt64))), .second, .val (.int (i + (-1 : Int32)))] []))
    exact ih _ _ (by omega) (by rw [own_dec i (by omega)]; omega) hacc
theorem pn_2 : plainFor (⟨"com/example/beaconwire/beaconwire/Bytes", "littleEndian", "([BII)J"⟩ : MethodName) = true := by first | exact plainFor_of_name (by first | (simp [plainName, overriddenIn]; done) | decide +kernel) | decide +kernel
theorem ef_2 (m : MethodId) (x0 : Addr) (x1 : Int32) (x2 : Int32) : entryFrame m #[(.ref x0), (.int x1), (.int x2)] 6 = mkF m 0 #[.val (.ref x0), .val (.int x1), .val (.int x2), .unset, .unset, .unset] [] := by first | (simp [entryFrame, mkF, argsToLocals, Value.category]; done) | rfl
set_option maxRecDepth 65536 in
set_option maxHeartbeats 40000000 in
theorem rm2 (l : Launch) (Z : State) (a0 : Array Value) (hw : ∀ d ∈ tables_1, d.before a0 Z = true) (ws : List Jvm.Cond) (a1 : Addr) (t : Nat) (wd : Nat) (x : Int64) (y : Int64) (h0 : Heap) (n0 : Nat) (Z0 : n0 ≤ h0.size) (ht : t ≤ 8) (hwd : wd ≤ 8) (V0 : Ary Z h0 a1 .byte 16 (fun j => .int (own_byte x y j))) :
    MetFree l (⟨"com/example/beaconwire/beaconwire/Bytes", "littleEndian", "([BII)J"⟩ : MethodName) (head1 (Jvm.Cond.code (⟨"com/example/beaconwire/beaconwire/Bytes", "littleEndian", "([BII)J"⟩ : MethodName) prog_9_method_3_code 6 (some .long) :: ws) ({ frames := 0, cells := 0, slots := 0, locals := 0 } : Room)) (fun a U => a = #[(.ref a1), (.int (Int32.ofNat t)), (.int (Int32.ofNat wd))] ∧ Z.Warmed39 U.vm ∧ U.heap = h0) (fun _ _ _ _ _ => True) (fun _ U o U' => ∃ v L, o = .returned v ∧ Q2 Z a1 t wd x y h0 n0 v U'.heap L ∧ FrameEnd U o U' L ({ frames := 0, cells := 0, slots := 0, locals := 0 } : Room).cells ({ frames := 0, cells := 0, slots := 0, locals := 0 } : Room).slots) := by
  refine MetFree.of_bodySF pn_2 hisR ?_
  intro p e s m args below meth c s₁ Bd hml0 hP hK
  obtain ⟨rfl, hZ, hh⟩ := hP
  have hx := Bd.exec
  have hby := Bd.bytes
  have hml : c.maxLocals = 6 := hml0
  have hown : s.vm.findClass "com/example/beaconwire/beaconwire/Bytes" = some m.cls := findClass_of_methodNamed Bd.named
  have hnm := (name_of_methodNamed Bd.named Bd.method).1
  have hrt := Bd.returns
  have hlk : meth.locks = false := BodyLoose.notSynchronized Bd
  have X0 : Stand p l e ({ frames := 0, cells := 0, slots := 0, locals := 0 } : Room) s m #[(.ref a1), (.int (Int32.ofNat t)), (.int (Int32.ofNat wd))] below meth c s₁ [] 0 0 := Stand.of_body Bd
  have e0 : s₁.heap = h0 := by rw [← hh, Bd.state]; rfl
  have N0 := Fr.nil n0
  show OwnG ({ frames := 0, cells := 0, slots := 0, locals := 0 } : Room).cells ({ frames := 0, cells := 0, slots := 0, locals := 0 } : Room).slots (Q2 Z a1 t wd x y h0 n0) p e below s (s₁.setTop (entryFrame m #[(.ref a1), (.int (Int32.ofNat t)), (.int (Int32.ofNat wd))] 6))
  refine own_st (σ' := s₁.setTop (mkF m 0 #[.val (.ref a1), .val (.int (Int32.ofNat t)), .val (.int (Int32.ofNat wd)), .unset, .unset, .unset] [])) (fun _ kq_ => castTop (ef_2 m a1 (Int32.ofNat t) (Int32.ofNat wd)) kq_) ?_
  show OwnG _ _ _ _ _ _ _ (s₁.setTop (mkF m 0 #[.val (.ref a1), .val (.int (Int32.ofNat t)), .val (.int (Int32.ofNat wd)), .unset, .unset, .unset] []))
  refine own_st (fun _ kq_ => XS.lconst X0.here hx rfl (hb hby d2_0) kq_) ?_
  show OwnG _ _ _ _ _ _ _ (s₁.setTop (mkF m 1 #[.val (.ref a1), .val (.int (Int32.ofNat t)), .val (.int (Int32.ofNat wd)), .unset, .unset, .unset] [(.long (0 : Int64))]))
  refine own_st (fun _ kq_ => XS.lstoreN X0.here hx rfl (hb hby d2_1) rfl (l' := #[.val (.ref a1), .val (.int (Int32.ofNat t)), .val (.int (Int32.ofNat wd)), .val (.long (0 : Int64)), .second, .unset]) rfl kq_) ?_
  show OwnG _ _ _ _ _ _ _ (s₁.setTop (mkF m 2 #[.val (.ref a1), .val (.int (Int32.ofNat t)), .val (.int (Int32.ofNat wd)), .val (.long (0 : Int64)), .second, .unset] []))
  refine own_st (fun _ kq_ => XS.iloadN X0.here hx rfl (hb hby d2_2) rfl kq_) ?_
  show OwnG _ _ _ _ _ _ _ (s₁.setTop (mkF m 3 #[.val (.ref a1), .val (.int (Int32.ofNat t)), .val (.int (Int32.ofNat wd)), .val (.long (0 : Int64)), .second, .unset] [(.int (Int32.ofNat t))]))
  refine own_st (fun _ kq_ => XS.iloadN X0.here hx rfl (hb hby d2_3) rfl kq_) ?_
  show OwnG _ _ _ _ _ _ _ (s₁.setTop (mkF m 4 #[.val (.ref a1), .val (.int (Int32.ofNat t)), .val (.int (Int32.ofNat wd)), .val (.long (0 : Int64)), .second, .unset] [(.int (Int32.ofNat wd)), (.int (Int32.ofNat t))]))
  refine own_st (fun _ kq_ => XS.iadd X0.here hx rfl (hb hby d2_4) rfl kq_) ?_
  show OwnG _ _ _ _ _ _ _ (s₁.setTop (mkF m 5 #[.val (.ref a1), .val (.int (Int32.ofNat t)), .val (.int (Int32.ofNat wd)), .val (.long (0 : Int64)), .second, .unset] [(.int ((Int32.ofNat t) + (Int32.ofNat wd)))]))
  refine own_st (fun _ kq_ => XS.iconst X0.here hx rfl (hb hby d2_5) kq_) ?_
  show OwnG _ _ _ _ _ _ _ (s₁.setTop (mkF m 6 #[.val (.ref a1), .val (.int (Int32.ofNat t)), .val (.int (Int32.ofNat wd)), .val (.long (0 : Int64)), .second, .unset] [(.int (1 : Int32)), (.int ((Int32.ofNat t) + (Int32.ofNat wd)))]))
  refine own_st (fun _ kq_ => XS.isub X0.here hx rfl (hb hby d2_6) rfl kq_) ?_
  show OwnG _ _ _ _ _ _ _ (s₁.setTop (mkF m 7 #[.val (.ref a1), .val (.int (Int32.ofNat t)), .val (.int (Int32.ofNat wd)), .val (.long (0 : Int64)), .second, .unset] [(.int (((Int32.ofNat t) + (Int32.ofNat wd)) - (1 : Int32)))]))
  refine own_st (fun _ kq_ => XS.istore X0.here hx rfl (hb hby d2_7) rfl (l' := #[.val (.ref a1), .val (.int (Int32.ofNat t)), .val (.int (Int32.ofNat wd)), .val (.long (0 : Int64)), .second, .val (.int (((Int32.ofNat t) + (Int32.ofNat wd)) - (1 : Int32)))]) rfl kq_) ?_
  show OwnG _ _ _ _ _ _ _ (s₁.setTop (mkF m 9 #[.val (.ref a1), .val (.int (Int32.ofNat t)), .val (.int (Int32.ofNat wd)), .val (.long (0 : Int64)), .second, .val (.int (((Int32.ofNat t) + (Int32.ofNat wd)) - (1 : Int32)))] []))
  exact own_loop hx hZ hw hby hml hown hrt hlk a1 t wd ht hwd x y n0 X0 e0 rfl N0 V0 wd 0 _ (Nat.le_refl _) (own_start t wd ht hwd) rfl
def Q0 (Z : State) (x : Int64) (y : Int64) (a : Int32) (w : Int32) (h0 : Heap) (n0 : Nat) (v : Option Value) (h : Heap) (L : List Loc) : Prop := v = some (.int 1) ∧ Fr n0 L
set_option maxRecDepth 65536 in
set_option maxHeartbeats 40000000 in
theorem own_b110 {p : Program} {l : Launch} {e : Env} {s : State} {m : MethodId} {args : Array Value} {below : List Frame} {meth : Method} {c : Code} {Z : State} {a0 : Array Value} (hx : p.tables.exec = Jvm.exec) (hZ : Z.Warmed39 s.vm) (hw : ∀ d ∈ tables_1, d.before a0 Z = true) (hby : c.code = code) (hml : c.maxLocals = 13) (hown : s.vm.findClass "com/example/beaconwire/beaconwire/BytesLittleEndianPinLaw" = some m.cls) (hrt : meth.sig.returnType = ret) (hlk : meth.locks = false) (x y : Int64) (a w : Int32) (t wd : Nat) (ht : t ≤ 8) (hwd : wd ≤ 8) (b : Addr) (n0 : Nat) {hs0 : Heap} (lo ex : Int64) {T0 : State} {h0 : Heap} {locs : List Loc} (X0 : Stand p l e room_1 s m args below meth c T0 locs 1 16) (e0 : T0.heap = h0) (N0 : Fr n0 locs) (Z0 : n0 ≤ h0.size) (V0 : Ary Z h0 b .byte 16 (fun j => .int (own_byte x y j))) (hex : own_acc (own_byte x y) t wd 0 = ex) : OwnG 1 16 (Q0 Z x y a w hs0 n0) p e below s (T0.setTop (mkF m 110 #[.val (.long x), .second, .val (.long y), .second, .val (.int a), .val (.int w), .val (.int (Int32.ofNat t)), .val (.int (Int32.ofNat wd)), .val (.ref b), .val (.long lo), .second, .val (.long ex), .second] [])) := by
  refine own_st (fun _ kq_ => XS.aload X0.here hx rfl (hb hby at_110) rfl rfl kq_) ?_
  show OwnG _ _ _ _ _ _ _ (T0.setTop (mkF m 112 #[.val (.long x), .second, .val (.long y), .second, .val (.int a), .val (.int w), .val (.int (Int32.ofNat t)), .val (.int (Int32.ofNat wd)), .val (.ref b), .val (.long lo), .second, .val (.long ex), .second] [(.ref b)]))
  refine own_st (fun _ kq_ => XS.iload X0.here hx rfl (hb hby at_112) rfl kq_) ?_
  show OwnG _ _ _ _ _ _ _ (T0.setTop (mkF m 114 #[.val (.long x), .second, .val (.long y), .second, .val (.int a), .val (.int w), .val (.int (Int32.ofNat t)), .val (.int (Int32.ofNat wd)), .val (.ref b), .val (.long lo), .second, .val (.long ex), .second] [(.int (Int32.ofNat t)), (.ref b)]))
  refine own_st (fun _ kq_ => XS.iload X0.here hx rfl (hb hby at_114) rfl kq_) ?_
  show OwnG _ _ _ _ _ _ _ (T0.setTop (mkF m 116 #[.val (.long x), .second, .val (.long y), .second, .val (.int a), .val (.int w), .val (.int (Int32.ofNat t)), .val (.int (Int32.ofNat wd)), .val (.ref b), .val (.long lo), .second, .val (.long ex), .second] [(.int (Int32.ofNat wd)), (.int (Int32.ofNat t)), (.ref b)]))
  obtain ⟨_, _, ⟨T18, L18, k18, n18⟩, -, X18, ⟨Lc18, hQ18, l18, y18, z18⟩, st18⟩ := Jvm.LawKit.callS X0 hx (y := (⟨"com/example/beaconwire/beaconwire/Bytes", "littleEndian", "([BII)J"⟩ : MethodName)) hown (mvT hZ (hw _ (List.mem_of_getElem? (i := 6) rfl))) (mvT hZ (hw _ (List.mem_of_getElem? (i := 7) rfl))) (mvT hZ (hw _ (List.mem_of_getElem? (i := 8) rfl))) (mvT hZ (hw _ (List.mem_of_getElem? (i := 9) rfl))) (by decide) (backOf (W := 0) (rm2 l Z a0 hw [] b t wd x y h0 n0 Z0 ht hwd V0) hZ (hw _ (List.mem_of_getElem? (i := 9) rfl)) (hw _ (List.mem_of_getElem? (i := 8) rfl)) (by decide) (by decide)) (g := (mkF m 116 #[.val (.long x), .second, .val (.long y), .second, .val (.int a), .val (.int w), .val (.int (Int32.ofNat t)), .val (.int (Int32.ofNat wd)), .val (.ref b), .val (.long lo), .second, .val (.long ex), .second] [(.int (Int32.ofNat wd)), (.int (Int32.ofNat t)), (.ref b)])) rfl (by rw [hml]; rfl) (argsL := [(.ref b), (.int (Int32.ofNat t)), (.int (Int32.ofNat wd))]) (rest := []) (lenOf (by decide +kernel : parseMethodDescriptor "([BII)J" = some ⟨[(.array .byte), .int, .int], some .long⟩) rfl) rfl (by show 2 * 0 + _ ≤ _; exact Nat.le_of_eq rfl) (hb hby at_116) (fun _ _ => ⟨rfl, e0, (by dsimp only [Pt.cells]; decide), (by dsimp only [Pt.slots]; decide)⟩)
  dsimp only [Pt.U, Pt.locs, Pt.cells, Pt.slots] at X18 l18 y18 z18 st18 hQ18
  subst l18 y18 z18
  obtain ⟨rfl, N18q, E18⟩ := hQ18
  have N18 := Fr.app N0 N18q
  refine own_st st18 ?_
  show OwnG _ _ _ _ _ _ _ (T18.setTop (mkF m 119 #[.val (.long x), .second, .val (.long y), .second, .val (.int a), .val (.int w), .val (.int (Int32.ofNat t)), .val (.int (Int32.ofNat wd)), .val (.ref b), .val (.long lo), .second, .val (.long ex), .second] [(.long (own_acc (own_byte x y) t wd 0))]))
  refine own_st (fun _ kq_ => XS.lload X18.here hx rfl (hb hby at_119) rfl kq_) ?_
  show OwnG _ _ _ _ _ _ _ (T18.setTop (mkF m 121 #[.val (.long x), .second, .val (.long y), .second, .val (.int a), .val (.int w), .val (.int (Int32.ofNat t)), .val (.int (Int32.ofNat wd)), .val (.ref b), .val (.long lo), .second, .val (.long ex), .second] [(.long ex), (.long (own_acc (own_byte x y) t wd 0))]))
  refine own_st (fun _ kq_ => XS.lcmp X18.here hx rfl (hb hby at_121) rfl kq_) ?_
  show OwnG _ _ _ _ _ _ _ (T18.setTop (mkF m 122 #[.val (.long x), .second, .val (.long y), .second, .val (.int a), .val (.int w), .val (.int (Int32.ofNat t)), .val (.int (Int32.ofNat wd)), .val (.ref b), .val (.long lo), .second, .val (.long ex), .second] [(.int (lcmpW (own_acc (own_byte x y) t wd 0) ex))]))
  refine own_st (fun _ kq_ => XS.ifNo X18.here hx rfl (hb hby at_122) rfl ((if0 _ _).trans (teq ((lw_eq _ _).mpr hex)).2) kq_) ?_
  show OwnG _ _ _ _ _ _ _ (T18.setTop (mkF m 125 #[.val (.long x), .second, .val (.long y), .second, .val (.int a), .val (.int w), .val (.int (Int32.ofNat t)), .val (.int (Int32.ofNat wd)), .val (.ref b), .val (.long lo), .second, .val (.long ex), .second] []))
  refine own_st (fun _ kq_ => XS.iconst X18.here hx rfl (hb hby at_125) kq_) ?_
  show OwnG _ _ _ _ _ _ _ (T18.setTop (mkF m 126 #[.val (.long x), .second, .val (.long y), .second, .val (.int a), .val (.int w), .val (.int (Int32.ofNat t)), .val (.int (Int32.ofNat wd)), .val (.ref b), .val (.long lo), .second, .val (.long ex), .second] [(.int (1 : Int32))]))
  refine own_st (fun _ kq_ => XS.goto X18.here hx rfl (pc0 := 126) (pc' := 130) rfl (hb hby at_126) (by decide) (by decide) kq_) ?_
  show OwnG _ _ _ _ _ _ _ (T18.setTop (mkF m 130 #[.val (.long x), .second, .val (.long y), .second, .val (.int a), .val (.int w), .val (.int (Int32.ofNat t)), .val (.int (Int32.ofNat wd)), .val (.ref b), .val (.long lo), .second, .val (.long ex), .second] [(.int (1 : Int32))]))
  exact own_retN X18 hx hrt hlk (t := .boolean) (by simp) (hb hby at_130) (by decide) (by decide) (by show _ ∧ _; exact ⟨rfl, N18⟩)
set_option maxRecDepth 65536 in
set_option maxHeartbeats 40000000 in
theorem own_b71 {p : Program} {l : Launch} {e : Env} {s : State} {m : MethodId} {args : Array Value} {below : List Frame} {meth : Method} {c : Code} {Z : State} {a0 : Array Value} (hx : p.tables.exec = Jvm.exec) (hZ : Z.Warmed39 s.vm) (hw : ∀ d ∈ tables_1, d.before a0 Z = true) (hby : c.code = code) (hml : c.maxLocals = 13) (hown : s.vm.findClass "com/example/beaconwire/beaconwire/BytesLittleEndianPinLaw" = some m.cls) (hrt : meth.sig.returnType = ret) (hlk : meth.locks = false) (x y : Int64) (a w : Int32) (t wd : Nat) (ht : t ≤ 8) (hwd : wd ≤ 8) (b : Addr) (n0 : Nat) {hs0 : Heap} (lo : Int64) {T0 : State} {h0 : Heap} {locs : List Loc} (X0 : Stand p l e room_1 s m args below meth c T0 locs 1 16) (e0 : T0.heap = h0) (N0 : Fr n0 locs) (Z0 : n0 ≤ h0.size) (V0 : Ary Z h0 b .byte 16 (fun j => .int (own_byte x y j))) (hlo : own_low x y t lo) : OwnG 1 16 (Q0 Z x y a w hs0 n0) p e below s (T0.setTop (mkF m 71 #[.val (.long x), .second, .val (.long y), .second, .val (.int a), .val (.int w), .val (.int (Int32.ofNat t)), .val (.int (Int32.ofNat wd)), .val (.ref b), .val (.long lo), .second, .unset, .unset] [])) := by
  refine own_st (fun _ kq_ => XS.iload X0.here hx rfl (hb hby at_71) rfl kq_) ?_
  show OwnG _ _ _ _ _ _ _ (T0.setTop (mkF m 73 #[.val (.long x), .second, .val (.long y), .second, .val (.int a), .val (.int w), .val (.int (Int32.ofNat t)), .val (.int (Int32.ofNat wd)), .val (.ref b), .val (.long lo), .second, .unset, .unset] [(.int (Int32.ofNat wd))]))
  by_cases h73 : (Int32.ofNat wd) = (0 : Int32)
  · skip
    refine own_st (fun _ kq_ => XS.ifNo X0.here hx rfl (hb hby at_73) rfl ((if0 _ _).trans (teq h73).2) kq_) ?_
    show OwnG _ _ _ _ _ _ _ (T0.setTop (mkF m 76 #[.val (.long x), .second, .val (.long y), .second, .val (.int a), .val (.int w), .val (.int (Int32.ofNat t)), .val (.int (Int32.ofNat wd)), .val (.ref b), .val (.long lo), .second, .unset, .unset] []))
    refine own_st (fun _ kq_ => XS.lconst X0.here hx rfl (hb hby at_76) kq_) ?_
    show OwnG _ _ _ _ _ _ _ (T0.setTop (mkF m 77 #[.val (.long x), .second, .val (.long y), .second, .val (.int a), .val (.int w), .val (.int (Int32.ofNat t)), .val (.int (Int32.ofNat wd)), .val (.ref b), .val (.long lo), .second, .unset, .unset] [(.long (0 : Int64))]))
    refine own_st (fun _ kq_ => XS.lstore X0.here hx rfl (hb hby at_77) rfl (l' := #[.val (.long x), .second, .val (.long y), .second, .val (.int a), .val (.int w), .val (.int (Int32.ofNat t)), .val (.int (Int32.ofNat wd)), .val (.ref b), .val (.long lo), .second, .val (.long (0 : Int64)), .second]) rfl kq_) ?_
    show OwnG _ _ _ _ _ _ _ (T0.setTop (mkF m 79 #[.val (.long x), .second, .val (.long y), .second, .val (.int a), .val (.int w), .val (.int (Int32.ofNat t)), .val (.int (Int32.ofNat wd)), .val (.ref b), .val (.long lo), .second, .val (.long (0 : Int64)), .second] []))
    refine own_st (fun _ kq_ => XS.goto X0.here hx rfl (pc0 := 79) (pc' := 110) rfl (hb hby at_79) (by decide) (by decide) kq_) ?_
    show OwnG _ _ _ _ _ _ _ (T0.setTop (mkF m 110 #[.val (.long x), .second, .val (.long y), .second, .val (.int a), .val (.int w), .val (.int (Int32.ofNat t)), .val (.int (Int32.ofNat wd)), .val (.ref b), .val (.long lo), .second, .val (.long (0 : Int64)), .second] []))
    exact own_b110 hx hZ hw hby hml hown hrt hlk x y a w t wd ht hwd b n0 lo _ X0 e0 N0 Z0 V0 (own_ex0 x y t wd hwd h73)
  · skip
    refine own_st (fun _ kq_ => XS.ifYes X0.here hx rfl (pc0 := 73) (pc' := 82) rfl (hb hby at_73) rfl ((if0 _ _).trans (feq h73).2) (by decide) (by decide) kq_) ?_
    show OwnG _ _ _ _ _ _ _ (T0.setTop (mkF m 82 #[.val (.long x), .second, .val (.long y), .second, .val (.int a), .val (.int w), .val (.int (Int32.ofNat t)), .val (.int (Int32.ofNat wd)), .val (.ref b), .val (.long lo), .second, .unset, .unset] []))
    refine own_st (fun _ kq_ => XS.iload X0.here hx rfl (hb hby at_82) rfl kq_) ?_
    show OwnG _ _ _ _ _ _ _ (T0.setTop (mkF m 84 #[.val (.long x), .second, .val (.long y), .second, .val (.int a), .val (.int w), .val (.int (Int32.ofNat t)), .val (.int (Int32.ofNat wd)), .val (.ref b), .val (.long lo), .second, .unset, .unset] [(.int (Int32.ofNat wd))]))
    refine own_st (fun _ kq_ => XS.bipush X0.here hx rfl (hb hby at_84) kq_) ?_
    show OwnG _ _ _ _ _ _ _ (T0.setTop (mkF m 86 #[.val (.long x), .second, .val (.long y), .second, .val (.int a), .val (.int w), .val (.int (Int32.ofNat t)), .val (.int (Int32.ofNat wd)), .val (.ref b), .val (.long lo), .second, .unset, .unset] [(.int (8 : Int32)), (.int (Int32.ofNat wd))]))
    by_cases h86 : (Int32.ofNat wd) = (8 : Int32)
    · skip
      refine own_st (fun _ kq_ => XS.icmpNo X0.here hx rfl (hb hby at_86) rfl (teq h86).2 kq_) ?_
      show OwnG _ _ _ _ _ _ _ (T0.setTop (mkF m 89 #[.val (.long x), .second, .val (.long y), .second, .val (.int a), .val (.int w), .val (.int (Int32.ofNat t)), .val (.int (Int32.ofNat wd)), .val (.ref b), .val (.long lo), .second, .unset, .unset] []))
      refine own_st (fun _ kq_ => XS.lload X0.here hx rfl (hb hby at_89) rfl kq_) ?_
      show OwnG _ _ _ _ _ _ _ (T0.setTop (mkF m 91 #[.val (.long x), .second, .val (.long y), .second, .val (.int a), .val (.int w), .val (.int (Int32.ofNat t)), .val (.int (Int32.ofNat wd)), .val (.ref b), .val (.long lo), .second, .unset, .unset] [(.long lo)]))
      refine own_st (fun _ kq_ => XS.lstore X0.here hx rfl (hb hby at_91) rfl (l' := #[.val (.long x), .second, .val (.long y), .second, .val (.int a), .val (.int w), .val (.int (Int32.ofNat t)), .val (.int (Int32.ofNat wd)), .val (.ref b), .val (.long lo), .second, .val (.long lo), .second]) rfl kq_) ?_
      show OwnG _ _ _ _ _ _ _ (T0.setTop (mkF m 93 #[.val (.long x), .second, .val (.long y), .second, .val (.int a), .val (.int w), .val (.int (Int32.ofNat t)), .val (.int (Int32.ofNat wd)), .val (.ref b), .val (.long lo), .second, .val (.long lo), .second] []))
      refine own_st (fun _ kq_ => XS.goto X0.here hx rfl (pc0 := 93) (pc' := 110) rfl (hb hby at_93) (by decide) (by decide) kq_) ?_
      show OwnG _ _ _ _ _ _ _ (T0.setTop (mkF m 110 #[.val (.long x), .second, .val (.long y), .second, .val (.int a), .val (.int w), .val (.int (Int32.ofNat t)), .val (.int (Int32.ofNat wd)), .val (.ref b), .val (.long lo), .second, .val (.long lo), .second] []))
      exact own_b110 hx hZ hw hby hml hown hrt hlk x y a w t wd ht hwd b n0 lo _ X0 e0 N0 Z0 V0 (own_ex8 x y t wd lo ht hwd h86 hlo)
    · skip
      refine own_st (fun _ kq_ => XS.icmpYes X0.here hx rfl (pc0 := 86) (pc' := 96) rfl (hb hby at_86) rfl (feq h86).2 (by decide) (by decide) kq_) ?_
      show OwnG _ _ _ _ _ _ _ (T0.setTop (mkF m 96 #[.val (.long x), .second, .val (.long y), .second, .val (.int a), .val (.int w), .val (.int (Int32.ofNat t)), .val (.int (Int32.ofNat wd)), .val (.ref b), .val (.long lo), .second, .unset, .unset] []))
      refine own_st (fun _ kq_ => XS.lload X0.here hx rfl (hb hby at_96) rfl kq_) ?_
      show OwnG _ _ _ _ _ _ _ (T0.setTop (mkF m 98 #[.val (.long x), .second, .val (.long y), .second, .val (.int a), .val (.int w), .val (.int (Int32.ofNat t)), .val (.int (Int32.ofNat wd)), .val (.ref b), .val (.long lo), .second, .unset, .unset] [(.long lo)]))
      refine own_st (fun _ kq_ => XS.lconst X0.here hx rfl (hb hby at_98) kq_) ?_
      show OwnG _ _ _ _ _ _ _ (T0.setTop (mkF m 99 #[.val (.long x), .second, .val (.long y), .second, .val (.int a), .val (.int w), .val (.int (Int32.ofNat t)), .val (.int (Int32.ofNat wd)), .val (.ref b), .val (.long lo), .second, .unset, .unset] [(.long (1 : Int64)), (.long lo)]))
      refine own_st (fun _ kq_ => XS.bipush X0.here hx rfl (hb hby at_99) kq_) ?_
      show OwnG _ _ _ _ _ _ _ (T0.setTop (mkF m 101 #[.val (.long x), .second, .val (.long y), .second, .val (.int a), .val (.int w), .val (.int (Int32.ofNat t)), .val (.int (Int32.ofNat wd)), .val (.ref b), .val (.long lo), .second, .unset, .unset] [(.int (8 : Int32)), (.long (1 : Int64)), (.long lo)]))
      refine own_st (fun _ kq_ => XS.iload X0.here hx rfl (hb hby at_101) rfl kq_) ?_
      show OwnG _ _ _ _ _ _ _ (T0.setTop (mkF m 103 #[.val (.long x), .second, .val (.long y), .second, .val (.int a), .val (.int w), .val (.int (Int32.ofNat t)), .val (.int (Int32.ofNat wd)), .val (.ref b), .val (.long lo), .second, .unset, .unset] [(.int (Int32.ofNat wd)), (.int (8 : Int32)), (.long (1 : Int64)), (.long lo)]))
      refine own_st (fun _ kq_ => XS.imul X0.here hx rfl (hb hby at_103) rfl kq_) ?_
      show OwnG _ _ _ _ _ _ _ (T0.setTop (mkF m 104 #[.val (.long x), .second, .val (.long y), .second, .val (.int a), .val (.int w), .val (.int (Int32.ofNat t)), .val (.int (Int32.ofNat wd)), .val (.ref b), .val (.long lo), .second, .unset, .unset] [(.int ((8 : Int32) * (Int32.ofNat wd))), (.long (1 : Int64)), (.long lo)]))
      refine own_st (fun _ kq_ => XS.lshl X0.here hx rfl (hb hby at_104) rfl kq_) ?_
      show OwnG _ _ _ _ _ _ _ (T0.setTop (mkF m 105 #[.val (.long x), .second, .val (.long y), .second, .val (.int a), .val (.int w), .val (.int (Int32.ofNat t)), .val (.int (Int32.ofNat wd)), .val (.ref b), .val (.long lo), .second, .unset, .unset] [(.long ((1 : Int64) <<< (((8 : Int32) * (Int32.ofNat wd)) &&& 0x3f).toInt64)), (.long lo)]))
      refine own_st (fun _ kq_ => XS.lconst X0.here hx rfl (hb hby at_105) kq_) ?_
      show OwnG _ _ _ _ _ _ _ (T0.setTop (mkF m 106 #[.val (.long x), .second, .val (.long y), .second, .val (.int a), .val (.int w), .val (.int (Int32.ofNat t)), .val (.int (Int32.ofNat wd)), .val (.ref b), .val (.long lo), .second, .unset, .unset] [(.long (1 : Int64)), (.long ((1 : Int64) <<< (((8 : Int32) * (Int32.ofNat wd)) &&& 0x3f).toInt64)), (.long lo)]))
      refine own_st (fun _ kq_ => XS.lsub X0.here hx rfl (hb hby at_106) rfl kq_) ?_
      show OwnG _ _ _ _ _ _ _ (T0.setTop (mkF m 107 #[.val (.long x), .second, .val (.long y), .second, .val (.int a), .val (.int w), .val (.int (Int32.ofNat t)), .val (.int (Int32.ofNat wd)), .val (.ref b), .val (.long lo), .second, .unset, .unset] [(.long (((1 : Int64) <<< (((8 : Int32) * (Int32.ofNat wd)) &&& 0x3f).toInt64) - (1 : Int64))), (.long lo)]))
      refine own_st (fun _ kq_ => XS.land X0.here hx rfl (hb hby at_107) rfl kq_) ?_
      show OwnG _ _ _ _ _ _ _ (T0.setTop (mkF m 108 #[.val (.long x), .second, .val (.long y), .second, .val (.int a), .val (.int w), .val (.int (Int32.ofNat t)), .val (.int (Int32.ofNat wd)), .val (.ref b), .val (.long lo), .second, .unset, .unset] [(.long (lo &&& (((1 : Int64) <<< (((8 : Int32) * (Int32.ofNat wd)) &&& 0x3f).toInt64) - (1 : Int64))))]))
      refine own_st (fun _ kq_ => XS.lstore X0.here hx rfl (hb hby at_108) rfl (l' := #[.val (.long x), .second, .val (.long y), .second, .val (.int a), .val (.int w), .val (.int (Int32.ofNat t)), .val (.int (Int32.ofNat wd)), .val (.ref b), .val (.long lo), .second, .val (.long (lo &&& (((1 : Int64) <<< (((8 : Int32) * (Int32.ofNat wd)) &&& 0x3f).toInt64) - (1 : Int64)))), .second]) rfl kq_) ?_
      show OwnG _ _ _ _ _ _ _ (T0.setTop (mkF m 110 #[.val (.long x), .second, .val (.long y), .second, .val (.int a), .val (.int w), .val (.int (Int32.ofNat t)), .val (.int (Int32.ofNat wd)), .val (.ref b), .val (.long lo), .second, .val (.long (lo &&& (((1 : Int64) <<< (((8 : Int32) * (Int32.ofNat wd)) &&& 0x3f).toInt64) - (1 : Int64)))), .second] []))
      exact own_b110 hx hZ hw hby hml hown hrt hlk x y a w t wd ht hwd b n0 lo _ X0 e0 N0 Z0 V0 (own_exm x y t wd lo ht hwd h73 h86 hlo)
theorem pn_0 : plainFor x = true := by first | exact plainFor_of_name (by first | (simp [plainName, overriddenIn]; done) | decide +kernel) | decide +kernel
theorem ef_0 (m : MethodId) (x0 : Int64) (x1 : Int64) (x2 : Int32) (x3 : Int32) : entryFrame m #[(.long x0), (.long x1), (.int x2), (.int x3)] maxLocals = mkF m 0 #[.val (.long x0), .second, .val (.long x1), .second, .val (.int x2), .val (.int x3), .unset, .unset, .unset, .unset, .unset, .unset, .unset] [] := by first | (simp [entryFrame, mkF, argsToLocals, Value.category, maxLocals]; done) | rfl
set_option maxRecDepth 65536 in
set_option maxHeartbeats 40000000 in
theorem rm0 (l : Launch) (Z : State) (a0 : Array Value) (hw : ∀ d ∈ tables_1, d.before a0 Z = true) (ws : List Jvm.Cond) (xx : Int64) (y : Int64) (aa : Int32) (w : Int32) (h0 : Heap) (n0 : Nat) (Z0 : n0 ≤ h0.size)  :
    MetFree l x (head1 (Jvm.Cond.code x code maxLocals ret :: ws) room_1) (fun a U => a = #[(.long xx), (.long y), (.int aa), (.int w)] ∧ Z.Warmed39 U.vm ∧ U.heap = h0) (fun _ _ _ _ _ => True) (fun _ U o U' => ∃ v L, o = .returned v ∧ Q0 Z xx y aa w h0 n0 v U'.heap L ∧ FrameEnd U o U' L 1 16) := by
  refine MetFree.of_bodySF pn_0 hisR ?_
  intro p e s m args below meth c s₁ Bd hml0 hP hK
  obtain ⟨rfl, hZ, hh⟩ := hP
  have hx := Bd.exec
  have hby := Bd.bytes
  have hml : c.maxLocals = 13 := hml0
  have hown : s.vm.findClass "com/example/beaconwire/beaconwire/BytesLittleEndianPinLaw" = some m.cls := findClass_of_methodNamed Bd.named
  have hnm := (name_of_methodNamed Bd.named Bd.method).1
  have hrt := Bd.returns
  have hlk : meth.locks = false := BodyLoose.notSynchronized Bd
  have X0 : Stand p l e room_1 s m #[(.long xx), (.long y), (.int aa), (.int w)] below meth c s₁ [] 0 0 := Stand.of_body Bd
  have e0 : s₁.heap = h0 := by rw [← hh, Bd.state]; rfl
  have N0 := Fr.nil n0
  show OwnG 1 16 (Q0 Z xx y aa w h0 n0) p e below s (s₁.setTop (entryFrame m #[(.long xx), (.long y), (.int aa), (.int w)] maxLocals))
  refine own_st (σ' := s₁.setTop (mkF m 0 #[.val (.long xx), .second, .val (.long y), .second, .val (.int aa), .val (.int w), .unset, .unset, .unset, .unset, .unset, .unset, .unset] [])) (fun _ kq_ => castTop (ef_0 m xx y aa w) kq_) ?_
  show OwnG _ _ _ _ _ _ _ (s₁.setTop (mkF m 0 #[.val (.long xx), .second, .val (.long y), .second, .val (.int aa), .val (.int w), .unset, .unset, .unset, .unset, .unset, .unset, .unset] []))
  refine own_st (fun _ kq_ => XS.iload X0.here hx rfl (hb hby at_0) rfl kq_) ?_
  show OwnG _ _ _ _ _ _ _ (s₁.setTop (mkF m 2 #[.val (.long xx), .second, .val (.long y), .second, .val (.int aa), .val (.int w), .unset, .unset, .unset, .unset, .unset, .unset, .unset] [(.int aa)]))
  refine own_st (X0.ldcInt hx hown (mvT hZ (hw _ (List.mem_of_getElem? (i := 0) rfl))) (g := (mkF m 2 #[.val (.long xx), .second, .val (.long y), .second, .val (.int aa), .val (.int w), .unset, .unset, .unset, .unset, .unset, .unset, .unset] [(.int aa)])) rfl (hb hby at_2)) ?_
  show OwnG _ _ _ _ _ _ _ (s₁.setTop (mkF m 4 #[.val (.long xx), .second, .val (.long y), .second, .val (.int aa), .val (.int w), .unset, .unset, .unset, .unset, .unset, .unset, .unset] [(.int (2147483647 : Int32)), (.int aa)]))
  refine own_st (fun _ kq_ => XS.iand X0.here hx rfl (hb hby at_4) rfl kq_) ?_
  show OwnG _ _ _ _ _ _ _ (s₁.setTop (mkF m 5 #[.val (.long xx), .second, .val (.long y), .second, .val (.int aa), .val (.int w), .unset, .unset, .unset, .unset, .unset, .unset, .unset] [(.int (aa &&& (2147483647 : Int32)))]))
  refine own_st (fun _ kq_ => XS.bipush X0.here hx rfl (hb hby at_5) kq_) ?_
  show OwnG _ _ _ _ _ _ _ (s₁.setTop (mkF m 7 #[.val (.long xx), .second, .val (.long y), .second, .val (.int aa), .val (.int w), .unset, .unset, .unset, .unset, .unset, .unset, .unset] [(.int (9 : Int32)), (.int (aa &&& (2147483647 : Int32)))]))
  refine own_st (fun _ kq_ => iremM X0 hx rfl (hb hby at_7) rfl (by decide) kq_) ?_
  show OwnG _ _ _ _ _ _ _ (s₁.setTop (mkF m 8 #[.val (.long xx), .second, .val (.long y), .second, .val (.int aa), .val (.int w), .unset, .unset, .unset, .unset, .unset, .unset, .unset] [(.int ((aa &&& (2147483647 : Int32)) % (9 : Int32)))]))
  refine own_st (fun _ kq_ => XS.istore X0.here hx rfl (hb hby at_8) rfl (l' := #[.val (.long xx), .second, .val (.long y), .second, .val (.int aa), .val (.int w), .val (.int ((aa &&& (2147483647 : Int32)) % (9 : Int32))), .unset, .unset, .unset, .unset, .unset, .unset]) rfl kq_) ?_
  show OwnG _ _ _ _ _ _ _ (s₁.setTop (mkF m 10 #[.val (.long xx), .second, .val (.long y), .second, .val (.int aa), .val (.int w), .val (.int ((aa &&& (2147483647 : Int32)) % (9 : Int32))), .unset, .unset, .unset, .unset, .unset, .unset] []))
  refine own_st (fun _ kq_ => XS.iload X0.here hx rfl (hb hby at_10) rfl kq_) ?_
  show OwnG _ _ _ _ _ _ _ (s₁.setTop (mkF m 12 #[.val (.long xx), .second, .val (.long y), .second, .val (.int aa), .val (.int w), .val (.int ((aa &&& (2147483647 : Int32)) % (9 : Int32))), .unset, .unset, .unset, .unset, .unset, .unset] [(.int w)]))
  refine own_st (X0.ldcInt hx hown (mvT hZ (hw _ (List.mem_of_getElem? (i := 0) rfl))) (g := (mkF m 12 #[.val (.long xx), .second, .val (.long y), .second, .val (.int aa), .val (.int w), .val (.int ((aa &&& (2147483647 : Int32)) % (9 : Int32))), .unset, .unset, .unset, .unset, .unset, .unset] [(.int w)])) rfl (hb hby at_12)) ?_
  show OwnG _ _ _ _ _ _ _ (s₁.setTop (mkF m 14 #[.val (.long xx), .second, .val (.long y), .second, .val (.int aa), .val (.int w), .val (.int ((aa &&& (2147483647 : Int32)) % (9 : Int32))), .unset, .unset, .unset, .unset, .unset, .unset] [(.int (2147483647 : Int32)), (.int w)]))
  refine own_st (fun _ kq_ => XS.iand X0.here hx rfl (hb hby at_14) rfl kq_) ?_
  show OwnG _ _ _ _ _ _ _ (s₁.setTop (mkF m 15 #[.val (.long xx), .second, .val (.long y), .second, .val (.int aa), .val (.int w), .val (.int ((aa &&& (2147483647 : Int32)) % (9 : Int32))), .unset, .unset, .unset, .unset, .unset, .unset] [(.int (w &&& (2147483647 : Int32)))]))
  refine own_st (fun _ kq_ => XS.bipush X0.here hx rfl (hb hby at_15) kq_) ?_
  show OwnG _ _ _ _ _ _ _ (s₁.setTop (mkF m 17 #[.val (.long xx), .second, .val (.long y), .second, .val (.int aa), .val (.int w), .val (.int ((aa &&& (2147483647 : Int32)) % (9 : Int32))), .unset, .unset, .unset, .unset, .unset, .unset] [(.int (9 : Int32)), (.int (w &&& (2147483647 : Int32)))]))
  refine own_st (fun _ kq_ => iremM X0 hx rfl (hb hby at_17) rfl (by decide) kq_) ?_
  show OwnG _ _ _ _ _ _ _ (s₁.setTop (mkF m 18 #[.val (.long xx), .second, .val (.long y), .second, .val (.int aa), .val (.int w), .val (.int ((aa &&& (2147483647 : Int32)) % (9 : Int32))), .unset, .unset, .unset, .unset, .unset, .unset] [(.int ((w &&& (2147483647 : Int32)) % (9 : Int32)))]))
  refine own_st (fun _ kq_ => XS.istore X0.here hx rfl (hb hby at_18) rfl (l' := #[.val (.long xx), .second, .val (.long y), .second, .val (.int aa), .val (.int w), .val (.int ((aa &&& (2147483647 : Int32)) % (9 : Int32))), .val (.int ((w &&& (2147483647 : Int32)) % (9 : Int32))), .unset, .unset, .unset, .unset, .unset]) rfl kq_) ?_
  show OwnG _ _ _ _ _ _ _ (s₁.setTop (mkF m 20 #[.val (.long xx), .second, .val (.long y), .second, .val (.int aa), .val (.int w), .val (.int ((aa &&& (2147483647 : Int32)) % (9 : Int32))), .val (.int ((w &&& (2147483647 : Int32)) % (9 : Int32))), .unset, .unset, .unset, .unset, .unset] []))
  obtain ⟨t, ht, et⟩ := own_mod9 aa
  obtain ⟨wd, hwd, ew⟩ := own_mod9 w
  rw [et, ew]
  show OwnG _ _ _ _ _ _ _ (s₁.setTop (mkF m 20 #[.val (.long xx), .second, .val (.long y), .second, .val (.int aa), .val (.int w), .val (.int (Int32.ofNat t)), .val (.int (Int32.ofNat wd)), .unset, .unset, .unset, .unset, .unset] []))
  refine own_st (fun _ kq_ => XS.lloadN X0.here hx rfl (hb hby at_20) rfl kq_) ?_
  show OwnG _ _ _ _ _ _ _ (s₁.setTop (mkF m 21 #[.val (.long xx), .second, .val (.long y), .second, .val (.int aa), .val (.int w), .val (.int (Int32.ofNat t)), .val (.int (Int32.ofNat wd)), .unset, .unset, .unset, .unset, .unset] [(.long xx)]))
  refine own_st (fun _ kq_ => XS.lloadN X0.here hx rfl (hb hby at_21) rfl kq_) ?_
  show OwnG _ _ _ _ _ _ _ (s₁.setTop (mkF m 22 #[.val (.long xx), .second, .val (.long y), .second, .val (.int aa), .val (.int w), .val (.int (Int32.ofNat t)), .val (.int (Int32.ofNat wd)), .unset, .unset, .unset, .unset, .unset] [(.long y), (.long xx)]))
  obtain ⟨_, _, ⟨T19, L19, k19, n19⟩, -, X19, ⟨Lc19, hQ19, l19, y19, z19⟩, st19⟩ := Jvm.LawKit.callS X0 hx (y := (⟨"com/example/beaconwire/beaconwire/BytesLittleEndianPinLaw", "fill", "(JJ)[B"⟩ : MethodName)) hown (mvT hZ (hw _ (List.mem_of_getElem? (i := 1) rfl))) (mvT hZ (hw _ (List.mem_of_getElem? (i := 2) rfl))) (mvT hZ (hw _ (List.mem_of_getElem? (i := 3) rfl))) (mvT hZ (hw _ (List.mem_of_getElem? (i := 4) rfl))) (by decide) (backOf (W := 0) (rm1 l Z a0 hw [] xx y h0 n0 Z0) hZ (hw _ (List.mem_of_getElem? (i := 4) rfl)) (hw _ (List.mem_of_getElem? (i := 3) rfl)) (by decide) (by decide)) (g := (mkF m 22 #[.val (.long xx), .second, .val (.long y), .second, .val (.int aa), .val (.int w), .val (.int (Int32.ofNat t)), .val (.int (Int32.ofNat wd)), .unset, .unset, .unset, .unset, .unset] [(.long y), (.long xx)])) rfl (by rw [hml]; rfl) (argsL := [(.long xx), (.long y)]) (rest := []) (lenOf (by decide +kernel : parseMethodDescriptor "(JJ)[B" = some ⟨[.long, .long], some (.array .byte)⟩) rfl) rfl (by show 2 * 0 + _ ≤ _; exact Nat.le_of_eq rfl) (hb hby at_22) (fun _ _ => ⟨rfl, e0, (by dsimp only [Pt.cells]; decide), (by dsimp only [Pt.slots]; decide)⟩)
  dsimp only [Pt.U, Pt.locs, Pt.cells, Pt.slots] at X19 l19 y19 z19 st19 hQ19
  subst l19 y19 z19
  obtain ⟨rfl, N19q, S19, V19⟩ := hQ19
  have N19 := Fr.app N0 N19q
  refine own_st st19 ?_
  show OwnG _ _ _ _ _ _ _ (T19.setTop (mkF m 25 #[.val (.long xx), .second, .val (.long y), .second, .val (.int aa), .val (.int w), .val (.int (Int32.ofNat t)), .val (.int (Int32.ofNat wd)), .unset, .unset, .unset, .unset, .unset] [(.ref h0.size)]))
  refine own_st (fun _ kq_ => XS.astore X19.here hx rfl (hb hby at_25) rfl rfl (l' := #[.val (.long xx), .second, .val (.long y), .second, .val (.int aa), .val (.int w), .val (.int (Int32.ofNat t)), .val (.int (Int32.ofNat wd)), .val (.ref h0.size), .unset, .unset, .unset, .unset]) rfl kq_) ?_
  show OwnG _ _ _ _ _ _ _ (T19.setTop (mkF m 27 #[.val (.long xx), .second, .val (.long y), .second, .val (.int aa), .val (.int w), .val (.int (Int32.ofNat t)), .val (.int (Int32.ofNat wd)), .val (.ref h0.size), .unset, .unset, .unset, .unset] []))
  refine own_st (fun _ kq_ => XS.iload X19.here hx rfl (hb hby at_27) rfl kq_) ?_
  show OwnG _ _ _ _ _ _ _ (T19.setTop (mkF m 29 #[.val (.long xx), .second, .val (.long y), .second, .val (.int aa), .val (.int w), .val (.int (Int32.ofNat t)), .val (.int (Int32.ofNat wd)), .val (.ref h0.size), .unset, .unset, .unset, .unset] [(.int (Int32.ofNat t))]))
  by_cases h29 : (Int32.ofNat t) = (0 : Int32)
  · skip
    refine own_st (fun _ kq_ => XS.ifNo X19.here hx rfl (hb hby at_29) rfl ((if0 _ _).trans (teq h29).2) kq_) ?_
    show OwnG _ _ _ _ _ _ _ (T19.setTop (mkF m 32 #[.val (.long xx), .second, .val (.long y), .second, .val (.int aa), .val (.int w), .val (.int (Int32.ofNat t)), .val (.int (Int32.ofNat wd)), .val (.ref h0.size), .unset, .unset, .unset, .unset] []))
    refine own_st (fun _ kq_ => XS.lloadN X19.here hx rfl (hb hby at_32) rfl kq_) ?_
    show OwnG _ _ _ _ _ _ _ (T19.setTop (mkF m 33 #[.val (.long xx), .second, .val (.long y), .second, .val (.int aa), .val (.int w), .val (.int (Int32.ofNat t)), .val (.int (Int32.ofNat wd)), .val (.ref h0.size), .unset, .unset, .unset, .unset] [(.long xx)]))
    refine own_st (fun _ kq_ => XS.lstore X19.here hx rfl (hb hby at_33) rfl (l' := #[.val (.long xx), .second, .val (.long y), .second, .val (.int aa), .val (.int w), .val (.int (Int32.ofNat t)), .val (.int (Int32.ofNat wd)), .val (.ref h0.size), .val (.long xx), .second, .unset, .unset]) rfl kq_) ?_
    show OwnG _ _ _ _ _ _ _ (T19.setTop (mkF m 35 #[.val (.long xx), .second, .val (.long y), .second, .val (.int aa), .val (.int w), .val (.int (Int32.ofNat t)), .val (.int (Int32.ofNat wd)), .val (.ref h0.size), .val (.long xx), .second, .unset, .unset] []))
    refine own_st (fun _ kq_ => XS.goto X19.here hx rfl (pc0 := 35) (pc' := 71) rfl (hb hby at_35) (by decide) (by decide) kq_) ?_
    show OwnG _ _ _ _ _ _ _ (T19.setTop (mkF m 71 #[.val (.long xx), .second, .val (.long y), .second, .val (.int aa), .val (.int w), .val (.int (Int32.ofNat t)), .val (.int (Int32.ofNat wd)), .val (.ref h0.size), .val (.long xx), .second, .unset, .unset] []))
    exact own_b71 hx hZ hw hby hml hown hrt hlk xx y aa w t wd ht hwd h0.size n0 _ X19 rfl N19 S19 V19 (own_low0 xx y t ht h29)
  · skip
    refine own_st (fun _ kq_ => XS.ifYes X19.here hx rfl (pc0 := 29) (pc' := 38) rfl (hb hby at_29) rfl ((if0 _ _).trans (feq h29).2) (by decide) (by decide) kq_) ?_
    show OwnG _ _ _ _ _ _ _ (T19.setTop (mkF m 38 #[.val (.long xx), .second, .val (.long y), .second, .val (.int aa), .val (.int w), .val (.int (Int32.ofNat t)), .val (.int (Int32.ofNat wd)), .val (.ref h0.size), .unset, .unset, .unset, .unset] []))
    refine own_st (fun _ kq_ => XS.iload X19.here hx rfl (hb hby at_38) rfl kq_) ?_
    show OwnG _ _ _ _ _ _ _ (T19.setTop (mkF m 40 #[.val (.long xx), .second, .val (.long y), .second, .val (.int aa), .val (.int w), .val (.int (Int32.ofNat t)), .val (.int (Int32.ofNat wd)), .val (.ref h0.size), .unset, .unset, .unset, .unset] [(.int (Int32.ofNat t))]))
    refine own_st (fun _ kq_ => XS.bipush X19.here hx rfl (hb hby at_40) kq_) ?_
    show OwnG _ _ _ _ _ _ _ (T19.setTop (mkF m 42 #[.val (.long xx), .second, .val (.long y), .second, .val (.int aa), .val (.int w), .val (.int (Int32.ofNat t)), .val (.int (Int32.ofNat wd)), .val (.ref h0.size), .unset, .unset, .unset, .unset] [(.int (8 : Int32)), (.int (Int32.ofNat t))]))
    by_cases h42 : (Int32.ofNat t) = (8 : Int32)
    · skip
      refine own_st (fun _ kq_ => XS.icmpNo X19.here hx rfl (hb hby at_42) rfl (teq h42).2 kq_) ?_
      show OwnG _ _ _ _ _ _ _ (T19.setTop (mkF m 45 #[.val (.long xx), .second, .val (.long y), .second, .val (.int aa), .val (.int w), .val (.int (Int32.ofNat t)), .val (.int (Int32.ofNat wd)), .val (.ref h0.size), .unset, .unset, .unset, .unset] []))
      refine own_st (fun _ kq_ => XS.lloadN X19.here hx rfl (hb hby at_45) rfl kq_) ?_
      show OwnG _ _ _ _ _ _ _ (T19.setTop (mkF m 46 #[.val (.long xx), .second, .val (.long y), .second, .val (.int aa), .val (.int w), .val (.int (Int32.ofNat t)), .val (.int (Int32.ofNat wd)), .val (.ref h0.size), .unset, .unset, .unset, .unset] [(.long y)]))
      refine own_st (fun _ kq_ => XS.lstore X19.here hx rfl (hb hby at_46) rfl (l' := #[.val (.long xx), .second, .val (.long y), .second, .val (.int aa), .val (.int w), .val (.int (Int32.ofNat t)), .val (.int (Int32.ofNat wd)), .val (.ref h0.size), .val (.long y), .second, .unset, .unset]) rfl kq_) ?_
      show OwnG _ _ _ _ _ _ _ (T19.setTop (mkF m 48 #[.val (.long xx), .second, .val (.long y), .second, .val (.int aa), .val (.int w), .val (.int (Int32.ofNat t)), .val (.int (Int32.ofNat wd)), .val (.ref h0.size), .val (.long y), .second, .unset, .unset] []))
      refine own_st (fun _ kq_ => XS.goto X19.here hx rfl (pc0 := 48) (pc' := 71) rfl (hb hby at_48) (by decide) (by decide) kq_) ?_
      show OwnG _ _ _ _ _ _ _ (T19.setTop (mkF m 71 #[.val (.long xx), .second, .val (.long y), .second, .val (.int aa), .val (.int w), .val (.int (Int32.ofNat t)), .val (.int (Int32.ofNat wd)), .val (.ref h0.size), .val (.long y), .second, .unset, .unset] []))
      exact own_b71 hx hZ hw hby hml hown hrt hlk xx y aa w t wd ht hwd h0.size n0 _ X19 rfl N19 S19 V19 (own_low8 xx y t ht h42)
    · skip
      refine own_st (fun _ kq_ => XS.icmpYes X19.here hx rfl (pc0 := 42) (pc' := 51) rfl (hb hby at_42) rfl (feq h42).2 (by decide) (by decide) kq_) ?_
      show OwnG _ _ _ _ _ _ _ (T19.setTop (mkF m 51 #[.val (.long xx), .second, .val (.long y), .second, .val (.int aa), .val (.int w), .val (.int (Int32.ofNat t)), .val (.int (Int32.ofNat wd)), .val (.ref h0.size), .unset, .unset, .unset, .unset] []))
      refine own_st (fun _ kq_ => XS.lloadN X19.here hx rfl (hb hby at_51) rfl kq_) ?_
      show OwnG _ _ _ _ _ _ _ (T19.setTop (mkF m 52 #[.val (.long xx), .second, .val (.long y), .second, .val (.int aa), .val (.int w), .val (.int (Int32.ofNat t)), .val (.int (Int32.ofNat wd)), .val (.ref h0.size), .unset, .unset, .unset, .unset] [(.long xx)]))
      refine own_st (fun _ kq_ => XS.bipush X19.here hx rfl (hb hby at_52) kq_) ?_
      show OwnG _ _ _ _ _ _ _ (T19.setTop (mkF m 54 #[.val (.long xx), .second, .val (.long y), .second, .val (.int aa), .val (.int w), .val (.int (Int32.ofNat t)), .val (.int (Int32.ofNat wd)), .val (.ref h0.size), .unset, .unset, .unset, .unset] [(.int (8 : Int32)), (.long xx)]))
      refine own_st (fun _ kq_ => XS.iload X19.here hx rfl (hb hby at_54) rfl kq_) ?_
      show OwnG _ _ _ _ _ _ _ (T19.setTop (mkF m 56 #[.val (.long xx), .second, .val (.long y), .second, .val (.int aa), .val (.int w), .val (.int (Int32.ofNat t)), .val (.int (Int32.ofNat wd)), .val (.ref h0.size), .unset, .unset, .unset, .unset] [(.int (Int32.ofNat t)), (.int (8 : Int32)), (.long xx)]))
      refine own_st (fun _ kq_ => XS.imul X19.here hx rfl (hb hby at_56) rfl kq_) ?_
      show OwnG _ _ _ _ _ _ _ (T19.setTop (mkF m 57 #[.val (.long xx), .second, .val (.long y), .second, .val (.int aa), .val (.int w), .val (.int (Int32.ofNat t)), .val (.int (Int32.ofNat wd)), .val (.ref h0.size), .unset, .unset, .unset, .unset] [(.int ((8 : Int32) * (Int32.ofNat t))), (.long xx)]))
      refine own_st (fun _ kq_ => XS.lushr X19.here hx rfl (hb hby at_57) rfl kq_) ?_
      show OwnG _ _ _ _ _ _ _ (T19.setTop (mkF m 58 #[.val (.long xx), .second, .val (.long y), .second, .val (.int aa), .val (.int w), .val (.int (Int32.ofNat t)), .val (.int (Int32.ofNat wd)), .val (.ref h0.size), .unset, .unset, .unset, .unset] [(.long ((xx.toUInt64 >>> (((8 : Int32) * (Int32.ofNat t)) &&& 0x3f).toInt64.toUInt64).toInt64))]))
      refine own_st (fun _ kq_ => XS.lloadN X19.here hx rfl (hb hby at_58) rfl kq_) ?_
      show OwnG _ _ _ _ _ _ _ (T19.setTop (mkF m 59 #[.val (.long xx), .second, .val (.long y), .second, .val (.int aa), .val (.int w), .val (.int (Int32.ofNat t)), .val (.int (Int32.ofNat wd)), .val (.ref h0.size), .unset, .unset, .unset, .unset] [(.long y), (.long ((xx.toUInt64 >>> (((8 : Int32) * (Int32.ofNat t)) &&& 0x3f).toInt64.toUInt64).toInt64))]))
      refine own_st (fun _ kq_ => XS.bipush X19.here hx rfl (hb hby at_59) kq_) ?_
      show OwnG _ _ _ _ _ _ _ (T19.setTop (mkF m 61 #[.val (.long xx), .second, .val (.long y), .second, .val (.int aa), .val (.int w), .val (.int (Int32.ofNat t)), .val (.int (Int32.ofNat wd)), .val (.ref h0.size), .unset, .unset, .unset, .unset] [(.int (64 : Int32)), (.long y), (.long ((xx.toUInt64 >>> (((8 : Int32) * (Int32.ofNat t)) &&& 0x3f).toInt64.toUInt64).toInt64))]))
      refine own_st (fun _ kq_ => XS.bipush X19.here hx rfl (hb hby at_61) kq_) ?_
      show OwnG _ _ _ _ _ _ _ (T19.setTop (mkF m 63 #[.val (.long xx), .second, .val (.long y), .second, .val (.int aa), .val (.int w), .val (.int (Int32.ofNat t)), .val (.int (Int32.ofNat wd)), .val (.ref h0.size), .unset, .unset, .unset, .unset] [(.int (8 : Int32)), (.int (64 : Int32)), (.long y), (.long ((xx.toUInt64 >>> (((8 : Int32) * (Int32.ofNat t)) &&& 0x3f).toInt64.toUInt64).toInt64))]))
      refine own_st (fun _ kq_ => XS.iload X19.here hx rfl (hb hby at_63) rfl kq_) ?_
      show OwnG _ _ _ _ _ _ _ (T19.setTop (mkF m 65 #[.val (.long xx), .second, .val (.long y), .second, .val (.int aa), .val (.int w), .val (.int (Int32.ofNat t)), .val (.int (Int32.ofNat wd)), .val (.ref h0.size), .unset, .unset, .unset, .unset] [(.int (Int32.ofNat t)), (.int (8 : Int32)), (.int (64 : Int32)), (.long y), (.long ((xx.toUInt64 >>> (((8 : Int32) * (Int32.ofNat t)) &&& 0x3f).toInt64.toUInt64).toInt64))]))
      refine own_st (fun _ kq_ => XS.imul X19.here hx rfl (hb hby at_65) rfl kq_) ?_
      show OwnG _ _ _ _ _ _ _ (T19.setTop (mkF m 66 #[.val (.long xx), .second, .val (.long y), .second, .val (.int aa), .val (.int w), .val (.int (Int32.ofNat t)), .val (.int (Int32.ofNat wd)), .val (.ref h0.size), .unset, .unset, .unset, .unset] [(.int ((8 : Int32) * (Int32.ofNat t))), (.int (64 : Int32)), (.long y), (.long ((xx.toUInt64 >>> (((8 : Int32) * (Int32.ofNat t)) &&& 0x3f).toInt64.toUInt64).toInt64))]))
      refine own_st (fun _ kq_ => XS.isub X19.here hx rfl (hb hby at_66) rfl kq_) ?_
      show OwnG _ _ _ _ _ _ _ (T19.setTop (mkF m 67 #[.val (.long xx), .second, .val (.long y), .second, .val (.int aa), .val (.int w), .val (.int (Int32.ofNat t)), .val (.int (Int32.ofNat wd)), .val (.ref h0.size), .unset, .unset, .unset, .unset] [(.int ((64 : Int32) - ((8 : Int32) * (Int32.ofNat t)))), (.long y), (.long ((xx.toUInt64 >>> (((8 : Int32) * (Int32.ofNat t)) &&& 0x3f).toInt64.toUInt64).toInt64))]))
      refine own_st (fun _ kq_ => XS.lshl X19.here hx rfl (hb hby at_67) rfl kq_) ?_
      show OwnG _ _ _ _ _ _ _ (T19.setTop (mkF m 68 #[.val (.long xx), .second, .val (.long y), .second, .val (.int aa), .val (.int w), .val (.int (Int32.ofNat t)), .val (.int (Int32.ofNat wd)), .val (.ref h0.size), .unset, .unset, .unset, .unset] [(.long (y <<< (((64 : Int32) - ((8 : Int32) * (Int32.ofNat t))) &&& 0x3f).toInt64)), (.long ((xx.toUInt64 >>> (((8 : Int32) * (Int32.ofNat t)) &&& 0x3f).toInt64.toUInt64).toInt64))]))
      refine own_st (fun _ kq_ => XS.lor X19.here hx rfl (hb hby at_68) rfl kq_) ?_
      show OwnG _ _ _ _ _ _ _ (T19.setTop (mkF m 69 #[.val (.long xx), .second, .val (.long y), .second, .val (.int aa), .val (.int w), .val (.int (Int32.ofNat t)), .val (.int (Int32.ofNat wd)), .val (.ref h0.size), .unset, .unset, .unset, .unset] [(.long (((xx.toUInt64 >>> (((8 : Int32) * (Int32.ofNat t)) &&& 0x3f).toInt64.toUInt64).toInt64) ||| (y <<< (((64 : Int32) - ((8 : Int32) * (Int32.ofNat t))) &&& 0x3f).toInt64)))]))
      refine own_st (fun _ kq_ => XS.lstore X19.here hx rfl (hb hby at_69) rfl (l' := #[.val (.long xx), .second, .val (.long y), .second, .val (.int aa), .val (.int w), .val (.int (Int32.ofNat t)), .val (.int (Int32.ofNat wd)), .val (.ref h0.size), .val (.long (((xx.toUInt64 >>> (((8 : Int32) * (Int32.ofNat t)) &&& 0x3f).toInt64.toUInt64).toInt64) ||| (y <<< (((64 : Int32) - ((8 : Int32) * (Int32.ofNat t))) &&& 0x3f).toInt64))), .second, .unset, .unset]) rfl kq_) ?_
      show OwnG _ _ _ _ _ _ _ (T19.setTop (mkF m 71 #[.val (.long xx), .second, .val (.long y), .second, .val (.int aa), .val (.int w), .val (.int (Int32.ofNat t)), .val (.int (Int32.ofNat wd)), .val (.ref h0.size), .val (.long (((xx.toUInt64 >>> (((8 : Int32) * (Int32.ofNat t)) &&& 0x3f).toInt64.toUInt64).toInt64) ||| (y <<< (((64 : Int32) - ((8 : Int32) * (Int32.ofNat t))) &&& 0x3f).toInt64))), .second, .unset, .unset] []))
      exact own_b71 hx hZ hw hby hml hown hrt hlk xx y aa w t wd ht hwd h0.size n0 _ X19 rfl N19 S19 V19 (own_lowm xx y t ht h29 h42)
set_option maxRecDepth 65536 in
set_option maxHeartbeats 40000000 in
theorem comes_1 {Post : Tables → Env → Array Value → State → Outcome → State → Prop} (hpost : ∀ tb e args s v u, (limb_1_1.after args s (.returned v) u = true ∧ limb_1_2.after args s (.returned v) u = true ∧ True) → FrameEnd s (.returned v) u (Jvm.fieldLocs frame_1_writes args s ++ Jvm.arrayLocs frame_1_arrays args s ++ Jvm.staticLocs frame_1_statics s) 16 128 → Post tb e args s (.returned v) u) :
    ArmFor flags0 classFile x code maxLocals ret World_1 tables_1 room_1 Calls_1 rest_1 Pre_1 Post := by
  intro l hfl _ _ p e ha hc hk s m args below hf hA hF happ hP
  obtain ⟨hcalls, hrest, hpre⟩ := hP
  obtain ⟨-, -, -, hnamed, -, -, -, hat⟩ := (Spec.applies_iff hf).mp happ
  obtain ⟨hg, hn⟩ := and_e (Cond.before_iff.mp (show (Jvm.Cond.and given_1 narrow_1).before args s = true from hpre))
  obtain ⟨gc, r0⟩ := and_e hg
  obtain ⟨g0, r1⟩ := and_e r0
  obtain ⟨g1, r2⟩ := and_e r1
  obtain ⟨g2, r3⟩ := and_e r2
  obtain ⟨w0, w1, w2, w3, rfl⟩ : ∃ w0 w1 w2 w3 : Value, args = #[w0, w1, w2, w3] := by
    have hs : args.size = 4 := by simpa [Cond.value, given_1] using gc
    obtain ⟨L⟩ := args
    match L, hs with
    | [w0, w1, w2, w3], _ => exact ⟨w0, w1, w2, w3, rfl⟩
  have hw := fun d (hd : d ∈ tables_1) => atoms_spec (ws := Jvm.Cond.code x code maxLocals ret :: tables_1) hat d (List.mem_cons_of_mem _ hd)
  obtain ⟨i0, ei0⟩ := isL_v g0
  obtain rfl : w0 = (.long i0) := Option.some.inj ei0
  obtain ⟨i1, ei1⟩ := isL_v g1
  obtain rfl : w1 = (.long i1) := Option.some.inj ei1
  obtain ⟨i2, ei2⟩ := is_v g2
  obtain rfl : w2 = (.int i2) := Option.some.inj ei2
  obtain ⟨i3, ei3⟩ := is_v r3
  obtain rfl : w3 = (.int i3) := Option.some.inj ei3
  obtain ⟨n, o, h1, h2, h3, _, L, rfl, ⟨rfl, N⟩, hq⟩ := rm0 l s _ hw tables_1 i0 i1 i2 i3 s.heap s.heap.size (Nat.le_refl _) p e ha hc hk s m _ below hf ((Spec.applies_iff_loose hf).mp happ).1 ⟨rfl, State.Warmed39.refl s, rfl⟩ trivial
  refine ⟨n, _, h1, h2, h3, hpost _ _ _ _ _ _ ⟨Cond.after_iff.mpr rfl, Cond.after_iff.mpr (eq_i res_at (Term.int_eval (1)) rfl), trivial⟩ ⟨hq.1, hq.2.1, (hq.2.2.sift fun y hy => Or.inr (N y hy)).mono (by decide) (by decide)⟩⟩
theorem main_1_1 : Claimed_1_1 := comes_1 fun _ _ _ _ _ _ h hF => ⟨h.1, hF⟩
theorem main_1_2 : Claimed_1_2 := comes_1 fun _ _ _ _ _ _ h hF => ⟨h.2.1, hF⟩
end Jvm.Pilot.@@N@@
namespace Jvm.Pilot.@@N@@
open Jvm Jvm.ClassFile Sem Op Lib Jvm.Free Jvm.Stand Jvm.Pilot.@@N@@.Jvm.D
/-! MADE BY PROGRAM (witnessworld.py) out of the Statement's table words and the real class files: 9 classes; the members and pool entries that the words name. The judged class is class 1, her method 2. -/
namespace start1
open Jvm.ClassFile
def u (s : String) : CpInfo := .utf8 (stringToUtf16 s)
/-- a pool by its gaps: so many unusable entries, then the entry; so many at the end -/
def gap : Nat → List CpInfo → List CpInfo
  | 0, r => r
  | n + 1, r => .unusable :: gap n r
def poolList (es : List (Nat × CpInfo)) (last : Nat) : List CpInfo := es.foldr (fun e r => gap e.1 (e.2 :: r)) (gap last [])
def pool (es : List (Nat × CpInfo)) (last : Nat) : Array CpInfo := ⟨poolList es last⟩
def fileOf (pool : Array CpInfo) (this : Nat) (attrs : Array Attribute := #[]) (ms : Array MethodInfo := #[]) (fl : Nat := 33) (sup : Nat := 0) (ifs : Array Nat := #[]) (fds : Array FieldInfo := #[]) : ClassFile where
  minorVersion := 0
  majorVersion := 65
  constantPool := pool
  accessFlags := fl
  thisClass := this
  superClass := sup
  interfaces := ifs
  fields := fds
  methods := ms
  attributes := attrs
def plain (name : String) (sup : Option ClassId) : Class where
  name := name
  kind := .ordinary
  loader := none
  accessFlags := 33
  super := sup
  interfaces := #[]
  cf := none
  fields := #[]
  methods := #[]
  instanceTypes := #[]
  staticTypes := #[]
  resolved := #[]
  callSites := []
  init := .initialized
  statics := none
  mirror := none

def pool0 : Array CpInfo := pool [(5, u "<init>"), (0, u "()V"), (1, .class_ 10), (1, u "java/lang/Object")] 113

def k0m0 : Method := { name := "<init>", desc := "()V", sig := { parameters := [], returnType := none }, accessFlags := 1, code := none }
/-- java/lang/Object -/
def k0 : Class := { plain "java/lang/Object" none with
  accessFlags := 33
  interfaces := #[]
  cf := some (fileOf pool0 8 #[] #[{ accessFlags := 1, nameIndex := 5, descriptorIndex := 6, attributes := #[] }] 33 0 #[] #[])
  fields := #[]
  methods := #[k0m0]
  instanceTypes := #[]
  staticTypes := #[]
  resolved := Array.replicate 124 none
  statics := none }

def pool1 : Array CpInfo := pool [(2, .class_ 4), (1, u "java/lang/Object"), (0, u "<init>"), (0, u "()V"), (0, .integer 2147483647), (0, .methodref 9 10), (0, .class_ 11), (0, .nameAndType 12 13), (0, u "com/example/beaconwire/beaconwire/BytesLittleEndianPinLaw"), (0, u "fill"), (0, u "(JJ)[B"), (0, .methodref 15 16), (0, .class_ 17), (0, .nameAndType 18 19), (0, u "com/example/beaconwire/beaconwire/Bytes"), (0, u "littleEndian"), (0, u "([BII)J"), (2, u "law"), (0, u "(JJII)Z")] 5

def k1m0 : Method := { name := "<init>", desc := "()V", sig := { parameters := [], returnType := none }, accessFlags := 2, code := none }
def k1c1 : Code := { maxStack := 5, maxLocals := 5, code := method_2_code, exceptionTable := #[], attributes := #[] }
def k1m1 : Method := { name := "fill", desc := "(JJ)[B", sig := { parameters := [.long, .long], returnType := some (.array .byte) }, accessFlags := 10, code := some k1c1 }
def k1c2 : Code := { maxStack := 7, maxLocals := 13, code := code, exceptionTable := #[], attributes := #[] }
def k1m2 : Method := { name := "law", desc := "(JJII)Z", sig := { parameters := [.long, .long, .int, .int], returnType := some .boolean }, accessFlags := 9, code := some k1c2 }
/-- com/example/beaconwire/beaconwire/BytesLittleEndianPinLaw -/
def k1 : Class := { plain "com/example/beaconwire/beaconwire/BytesLittleEndianPinLaw" (some 0) with
  accessFlags := 49
  interfaces := #[]
  cf := some (fileOf pool1 9 #[] #[{ accessFlags := 2, nameIndex := 5, descriptorIndex := 6, attributes := #[] }, { accessFlags := 10, nameIndex := 12, descriptorIndex := 13, attributes := #[] }, { accessFlags := 9, nameIndex := 22, descriptorIndex := 23, attributes := #[] }] 49 2 #[] #[])
  fields := #[]
  methods := #[k1m0, k1m1, k1m2]
  instanceTypes := #[]
  staticTypes := #[]
  resolved := Array.replicate 29 none
  statics := none }

def pool2 : Array CpInfo := pool [(2, .class_ 4), (1, u "java/lang/Object"), (0, u "<init>"), (0, u "()V"), (0, .class_ 8), (0, u "com/example/beaconwire/beaconwire/Bytes"), (3, u "([BII)J"), (1, u "littleEndian")] 5

def k2m0 : Method := { name := "<init>", desc := "()V", sig := { parameters := [], returnType := none }, accessFlags := 2, code := none }
def k2c1 : Code := { maxStack := 4, maxLocals := 6, code := prog_9_method_3_code, exceptionTable := #[], attributes := #[] }
def k2m1 : Method := { name := "littleEndian", desc := "([BII)J", sig := { parameters := [(.array .byte), .int, .int], returnType := some .long }, accessFlags := 8, code := some k2c1 }
/-- com/example/beaconwire/beaconwire/Bytes -/
def k2 : Class := { plain "com/example/beaconwire/beaconwire/Bytes" (some 0) with
  accessFlags := 48
  interfaces := #[]
  cf := some (fileOf pool2 7 #[] #[{ accessFlags := 2, nameIndex := 5, descriptorIndex := 6, attributes := #[] }, { accessFlags := 8, nameIndex := 14, descriptorIndex := 12, attributes := #[] }] 48 2 #[] #[])
  fields := #[]
  methods := #[k2m0, k2m1]
  instanceTypes := #[]
  staticTypes := #[]
  resolved := Array.replicate 20 none
  statics := none }

def pool3 : Array CpInfo := pool [(1, u "java/lang/Cloneable"), (0, .class_ 1), (0, u "java/lang/Object"), (0, .class_ 3)] 3

/-- java/lang/Cloneable -/
def k3 : Class := { plain "java/lang/Cloneable" (some 0) with
  accessFlags := 1537
  interfaces := #[]
  cf := some (fileOf pool3 2 #[] #[] 1537 4 #[] #[])
  fields := #[]
  methods := #[]
  instanceTypes := #[]
  staticTypes := #[]
  resolved := Array.replicate 8 none
  statics := none }

def pool4 : Array CpInfo := pool [(1, u "java/io/Serializable"), (0, .class_ 1), (0, u "java/lang/Object"), (0, .class_ 3)] 3

/-- java/io/Serializable -/
def k4 : Class := { plain "java/io/Serializable" (some 0) with
  accessFlags := 1537
  interfaces := #[]
  cf := some (fileOf pool4 2 #[] #[] 1537 4 #[] #[])
  fields := #[]
  methods := #[]
  instanceTypes := #[]
  staticTypes := #[]
  resolved := Array.replicate 8 none
  statics := none }

/-- the primitive byte -/
def k5 : Class := { plain "byte" none with kind := .primitive 'B', accessFlags := 0x411 }
/-- [B -/
def k6 : Class := { plain "[B" (some 0) with kind := .array 5 .byte, interfaces := #[3, 4], accessFlags := 1041 }

/-- the primitive int -/
def k7 : Class := { plain "int" none with kind := .primitive 'I', accessFlags := 0x411 }
/-- [I -/
def k8 : Class := { plain "[I" (some 0) with kind := .array 7 .int, interfaces := #[3, 4], accessFlags := 1041 }

def heap : Heap := #[]
def classes : Array Class := #[k0, k1, k2, k3, k4, k5, k6, k7, k8]
def interned : List (Array UInt16 × Addr) := []
def slotsUsed : Nat := 0
def theMethod : MethodId := ⟨1, 2⟩
def args0 : Array Value := #[.long 3, .long 2, .int 5, .int 7]
def aboutOver (below : List Frame) : State where
  vm := { classes := classes, interned := interned.toArray }
  heap := heap
  slotsUsed := slotsUsed
  threads := #[{ frames := .invoking theMethod args0 :: below }]
def below0 : List Frame := [.native { method := ⟨0, 0⟩, args := #[] }]
def about1 : State := aboutOver below0
def p0 : Program := .bare "" "" ""
def e0 : Env := launch0.env 0 0 0
theorem w_frames : about1.frames = Frame.invoking theMethod args0 :: below0 := rfl
set_option maxRecDepth 65536 in
theorem w_args : argsFit about1.vm theMethod args0 = true := by decide +kernel
set_option maxRecDepth 65536 in
theorem w_heap : heapFits about1 = true := by decide +kernel
set_option maxRecDepth 65536 in
theorem w_runnable : about1.curStatus? = some .runnable := by decide +kernel
set_option maxRecDepth 65536 in
theorem w_alone : about1.alone = true := by decide +kernel
set_option maxRecDepth 65536 in
theorem w_named : about1.methodNamed? x = some theMethod := by decide +kernel
set_option maxRecDepth 65536 in
theorem w_hears : about1.hears theMethod below0 = true := by decide +kernel
set_option maxRecDepth 65536 in
theorem w_ripe : about1.ripe theMethod args0 below0 = true := by decide +kernel
theorem w_running : about1.status = .running := rfl
set_option maxRecDepth 65536 in
theorem w_room : about1.hasRoom e0.platform room_1 = true :=
  launch0.hasRoom_least _ room_1 (by decide +kernel) (by decide +kernel) (by decide +kernel) (by decide +kernel) (by decide +kernel) (by decide +kernel)
theorem allAtoms_all (ts : List Jvm.Cond) (a : Array Jvm.Value) (st : Jvm.State) : (allAtoms ts).before a st = ts.all (fun c => c.before a st) := by
  induction ts with
  | nil => rfl
  | cons c t ih =>
    show (Jvm.Cond.and c (allAtoms t)).before a st = _
    rw [Jvm.Cond.before_and, ih, List.all_cons]
def words1 : List Jvm.Cond := Jvm.Cond.code x code maxLocals ret :: tables_1
/-- a 'code' word, met by the world's own term for the bytes: nothing is compared byte by byte -/
theorem code_word {y : MethodName} {bytes : ByteArray} {mx : Nat} {rt : Option FieldType} {a : Array Value} {s : State} {m : MethodId} {meth : Method} {c : Code} (h1 : s.methodNamed? y = some m) (h2 : s.vm.method? m = some meth) (h3 : meth.code = some c) (h4 : c.code = bytes)
    (h5 : (c.maxLocals == mx && c.exceptionTable.isEmpty && decide (c.maxStack ≤ mostOperands) && decide (meth.sig.returnType = rt) && !meth.locks && decide (parseMethodDescriptor y.desc = some meth.sig)) = true) : (Jvm.Cond.code y bytes mx rt).before a s = true := by
  simp only [Bool.and_eq_true, beq_iff_eq, Bool.not_eq_true', decide_eq_true_eq] at h5
  obtain ⟨⟨⟨⟨⟨g1, g2⟩, g3⟩, g4⟩, g5⟩, g6⟩ := h5
  simp [Cond.before, Cond.holds, Cond.value, h1, h2, h3, h4, g1, g2, g3, g4, g5, g6]
def isCode : Jvm.Cond → Bool
  | .code _ _ _ _ => true
  | _ => false
theorem all_split {L : List Jvm.Cond} {P : Jvm.Cond → Bool} (h1 : L.all (fun c => isCode c || P c) = true) (h2 : ∀ c ∈ L.filter isCode, P c = true) : L.all P = true := by
  refine List.all_eq_true.mpr fun c hc => ?_
  have h := List.all_eq_true.mp h1 c hc
  rcases Bool.eq_false_or_eq_true (isCode c) with hi | hi
  · exact h2 c (List.mem_filter.mpr ⟨hc, hi⟩)
  · simpa [hi] using h
set_option maxRecDepth 65536 in
theorem w_c0 : (Jvm.Cond.code x code maxLocals ret).before args0 about1 = true := code_word (m := ⟨1, 2⟩) (meth := k1m2) (c := k1c2) (by decide +kernel) rfl rfl rfl (by decide +kernel)
set_option maxRecDepth 65536 in
theorem w_c1 : (Jvm.Cond.code ({ cls := "com/example/beaconwire/beaconwire/BytesLittleEndianPinLaw", name := "fill", desc := "(JJ)[B" } : Jvm.MethodName) method_2_code (5 : Nat) (Option.some (Jvm.ClassFile.FieldType.array Jvm.ClassFile.FieldType.byte))).before args0 about1 = true := code_word (m := ⟨1, 1⟩) (meth := k1m1) (c := k1c1) (by decide +kernel) rfl rfl rfl (by decide +kernel)
set_option maxRecDepth 65536 in
theorem w_c2 : (Jvm.Cond.code ({ cls := "com/example/beaconwire/beaconwire/Bytes", name := "littleEndian", desc := "([BII)J" } : Jvm.MethodName) prog_9_method_3_code (6 : Nat) (Option.some Jvm.ClassFile.FieldType.long)).before args0 about1 = true := code_word (m := ⟨2, 1⟩) (meth := k2m1) (c := k2c1) (by decide +kernel) rfl rfl rfl (by decide +kernel)
def codes1 : List Jvm.Cond := [Jvm.Cond.code x code maxLocals ret, Jvm.Cond.code ({ cls := "com/example/beaconwire/beaconwire/BytesLittleEndianPinLaw", name := "fill", desc := "(JJ)[B" } : Jvm.MethodName) method_2_code (5 : Nat) (Option.some (Jvm.ClassFile.FieldType.array Jvm.ClassFile.FieldType.byte)), Jvm.Cond.code ({ cls := "com/example/beaconwire/beaconwire/Bytes", name := "littleEndian", desc := "([BII)J" } : Jvm.MethodName) prog_9_method_3_code (6 : Nat) (Option.some Jvm.ClassFile.FieldType.long)]
set_option maxRecDepth 65536 in
theorem codes_eq : words1.filter isCode = codes1 := rfl
theorem w_codes : ∀ c ∈ words1.filter isCode, c.before args0 about1 = true := by
  rw [codes_eq]
  intro c hc
  simp only [codes1, List.mem_cons, List.not_mem_nil, or_false] at hc
  rcases hc with rfl | rfl | rfl
  · exact w_c0
  · exact w_c1
  · exact w_c2
set_option maxRecDepth 65536 in
theorem w_t1 : words1.all (fun c => isCode c || c.before args0 about1) = true := by decide +kernel
theorem w_tables : (allAtoms (Jvm.Cond.code x code maxLocals ret :: tables_1)).before args0 about1 = true := by
  rw [allAtoms_all]
  show words1.all (fun c => c.before args0 about1) = true
  refine all_split ?_ w_codes
  rw [w_t1]
set_option maxRecDepth 65536 in
theorem w_case : (Jvm.Cond.and given_1 narrow_1).before args0 about1 = true := by decide +kernel
theorem w_applies : (headSpec (Jvm.Cond.code x code maxLocals ret :: tables_1) room_1).applies x e0.platform about1 = true :=
  (Spec.applies_iff w_frames).mpr ⟨w_running, w_runnable, w_alone, w_named, w_hears, w_ripe, w_room, w_tables⟩
theorem atStart : AtStart classFile x code maxLocals ret World_1 tables_1 room_1 Calls_1 rest_1 Pre_1 launch0 p0 e0 about1 theMethod args0 below0 :=
  ⟨lists_1, trivial, launch0.admits_env _ _ _, launch0.least_env, fairChoices_fair.cas, fairChoices_fair.clock, w_frames, w_args, w_heap, w_applies, trivial, trivial, w_case⟩
end start1
theorem witness_1 : WitnessClaimed_1 := ⟨start1.p0, start1.e0, start1.about1, start1.theMethod, start1.args0, start1.below0, start1.atStart⟩
end Jvm.Pilot.@@N@@
