import JvmDerived
import JvmDerived.Pilot.@@N@@Statement
import JvmDerived.Pilot.@@N@@Code
set_option linter.unusedVariables false
set_option linter.unusedSimpArgs false
namespace Jvm.Pilot.@@N@@
open Jvm Jvm.ClassFile Sem Op Lib Jvm.Free Jvm.Stand Jvm.LawKit Jvm.RoadKit Bundle Jvm.Pilot.@@N@@.Jvm.D
/-- from the state σ the run comes to an end that Q allows -/
def OwnG (rc rs : Nat) (Q : Option Value → Heap → List Loc → Prop) (p : Program) (e : Env) (below : List Frame) (s σ : State) : Prop :=
  ∃ s₂ o, Steps p.tables e below σ s₂ ∧ s₂.status = .running ∧ Ended s₂ below o ∧ ∃ v L, o = .returned v ∧ Q v s₂.heap L ∧ FrameEnd s o s₂ L rc rs
section Own
variable {p : Program} {l : Launch} {e : Env} {R : Room} {s : State} {m : MethodId} {args : Array Value} {below : List Frame} {meth : Method} {c : Code} {T σ σ' : State} {locs : List Loc} {cells slots rc rs : Nat} {Q : Option Value → Heap → List Loc → Prop}
theorem own_st (h : ∀ target, Steps p.tables e below σ' target → Steps p.tables e below σ target) (g : OwnG rc rs Q p e below s σ') : OwnG rc rs Q p e below s σ := by
  obtain ⟨s₂, o, h1, r⟩ := g; exact ⟨s₂, o, h _ h1, r⟩
theorem own_go (h : Steps p.tables e below σ σ') (g : OwnG rc rs Q p e below s σ') : OwnG rc rs Q p e below s σ := by
  obtain ⟨s₂, o, h1, r⟩ := g; exact ⟨s₂, o, h.trans h1, r⟩
theorem own_retN (X : Stand p l e R s m args below meth c T locs cells slots) (hx : p.tables.exec = Jvm.exec) {pc : Nat} {Ls : Array Slot} {z : Int32} {rest : List Value} {t : FieldType} (hret : meth.sig.returnType = some t) (hlk : meth.locks = false) (ht : t = .boolean ∨ t = .byte ∨ t = .char ∨ t = .short)
    (hd : decode c.code pc = .ok (.ireturn, 1)) (hc : cells ≤ rc) (hs : slots ≤ rs) (hQ : Q (some (.int (nar t z))) T.heap locs) : OwnG rc rs Q p e below s (T.setTop (mkF m pc Ls (.int z :: rest))) := by
  obtain ⟨fs, hr, hrun, hended, hW, hsame⟩ := X.leave (v := some (.int (nar t z))) (fun h => by rw [hret] at h; cases h) hlk
  exact ⟨_, _, retN X hx hret ht hd hr, hrun, hended, _, _, rfl, hQ, ⟨_, rfl⟩, hW, hsame.mono hc hs⟩
theorem own_retI (X : Stand p l e R s m args below meth c T locs cells slots) (hx : p.tables.exec = Jvm.exec) {pc : Nat} {Ls : Array Slot} {z : Int32} {rest : List Value} (hret : meth.sig.returnType = some .int) (hlk : meth.locks = false)
    (hd : decode c.code pc = .ok (.ireturn, 1)) (hc : cells ≤ rc) (hs : slots ≤ rs) (hQ : Q (some (.int z)) T.heap locs) : OwnG rc rs Q p e below s (T.setTop (mkF m pc Ls (.int z :: rest))) := by
  obtain ⟨fs, hr, hrun, hended, hW, hsame⟩ := X.leave (v := some (.int z)) (fun h => by rw [hret] at h; cases h) hlk
  exact ⟨_, _, retOut X hx hret rfl (Or.inl ⟨rfl, Or.inl rfl, _, rfl⟩) hd hr, hrun, hended, _, _, rfl, hQ, ⟨_, rfl⟩, hW, hsame.mono hc hs⟩
theorem own_retJ (X : Stand p l e R s m args below meth c T locs cells slots) (hx : p.tables.exec = Jvm.exec) {pc : Nat} {Ls : Array Slot} {z : Int64} {rest : List Value} (hret : meth.sig.returnType = some .long) (hlk : meth.locks = false)
    (hd : decode c.code pc = .ok (.lreturn, 1)) (hc : cells ≤ rc) (hs : slots ≤ rs) (hQ : Q (some (.long z)) T.heap locs) : OwnG rc rs Q p e below s (T.setTop (mkF m pc Ls (.long z :: rest))) := by
  obtain ⟨fs, hr, hrun, hended, hW, hsame⟩ := X.leave (v := some (.long z)) (fun h => by rw [hret] at h; cases h) hlk
  exact ⟨_, _, retOut X hx hret rfl (Or.inr (Or.inl ⟨rfl, rfl, _, rfl⟩)) hd hr, hrun, hended, _, _, rfl, hQ, ⟨_, rfl⟩, hW, hsame.mono hc hs⟩
theorem own_retA (X : Stand p l e R s m args below meth c T locs cells slots) (hx : p.tables.exec = Jvm.exec) {pc : Nat} {Ls : Array Slot} {a : Addr} {rest : List Value} {t : FieldType} (hret : meth.sig.returnType = some t) (hlk : meth.locks = false) (ht : t.isReference = true)
    (hd : decode c.code pc = .ok (.areturn, 1)) (hc : cells ≤ rc) (hs : slots ≤ rs) (hQ : Q (some (.ref a)) T.heap locs) : OwnG rc rs Q p e below s (T.setTop (mkF m pc Ls (.ref a :: rest))) := by
  obtain ⟨fs, hr, hrun, hended, hW, hsame⟩ := X.leave (v := some (.ref a)) (fun h => by rw [hret] at h; cases h) hlk
  exact ⟨_, _, retOut X hx hret (by cases t <;> first | rfl | cases ht) (Or.inr (Or.inr (Or.inr (Or.inr ⟨rfl, ht, rfl⟩)))) hd hr, hrun, hended, _, _, rfl, hQ, ⟨_, rfl⟩, hW, hsame.mono hc hs⟩
theorem own_retV (X : Stand p l e R s m args below meth c T locs cells slots) (hx : p.tables.exec = Jvm.exec) {pc : Nat} {Ls : Array Slot} (hret : meth.sig.returnType = none) (hlk : meth.locks = false)
    (hd : decode c.code pc = .ok (.return_, 1)) (hc : cells ≤ rc) (hs : slots ≤ rs) (hQ : Q none T.heap locs) : OwnG rc rs Q p e below s (T.setTop (mkF m pc Ls [])) := by
  obtain ⟨fs, hr, hrun, hended, hW, hsame⟩ := X.leave (v := none) (fun _ => rfl) hlk
  exact ⟨_, _, X.returnOut hx hret hd hr, hrun, hended, _, _, rfl, hQ, ⟨_, rfl⟩, hW, hsame.mono hc hs⟩
end Own
/-! arrays, by a function that says what each place holds -/
def Ary (Z : State) (h : Heap) (a : Addr) (ty : FieldType) (n : Nat) (f : Nat → Value) : Prop :=
  ∃ cl : Cell, Arr Z h a cl ty ∧ cl.slots.size = n ∧ n < 2147483648 ∧ (∀ j, j < n → cl.slots[j]? = some (f j)) ∧ ∀ j, j < n → fits ty (f j) = true
def own_up (f : Nat → Value) (i : Nat) (v : Value) : Nat → Value := fun j => if j = i then v else f j
section Arrays
variable {p : Program} {l : Launch} {e : Env} {R : Room} {s : State} {m : MethodId} {args : Array Value} {below : List Frame} {meth : Method} {c : Code} {T : State} {locs : List Loc} {cells slots : Nat} {Z : State} {h h' : Heap} {a b : Addr} {ty : FieldType} {n : Nat} {f f' : Nat → Value} {ws : List Addr} {sl : Nat} {v : Value}
theorem Ary.lt (A : Ary Z h a ty n f) : a < h.size := by obtain ⟨cl, A1, -⟩ := A; exact A1.lt
theorem Ary.ext (A : Ary Z h a ty n f) (E : Ext h h') : Ary Z h' a ty n f := by obtain ⟨cl, A1, r⟩ := A; exact ⟨cl, A1.ext E, r⟩
theorem Ary.other (A : Ary Z h a ty n f) (W : Wr h h' b sl v) (q : a ≠ b) : Ary Z h' a ty n f := by obtain ⟨cl, A1, r⟩ := A; exact ⟨cl, A1.other W q, r⟩
theorem Ary.keep (A : Ary Z h a ty n f) (K : Keep h h' ws) (q : a ∉ ws) : Ary Z h' a ty n f := by obtain ⟨cl, A1, r⟩ := A; exact ⟨cl, ⟨K.2.1 a cl A1.1 q, A1.2⟩, r⟩
theorem Ary.cong (A : Ary Z h a ty n f) (q : ∀ j, j < n → f j = f' j) : Ary Z h a ty n f' := by
  obtain ⟨cl, A1, r1, r2, r3, r4⟩ := A
  exact ⟨cl, A1, r1, r2, fun j hj => by rw [← q j hj]; exact r3 j hj, fun j hj => by rw [← q j hj]; exact r4 j hj⟩
theorem own_clamp {j : Int32} {i : Nat} (hj : j.toInt = (i : Int)) : j.toNatClampNeg = i ∧ ¬ j < 0 := by
  refine ⟨by rw [Int32.toNatClampNeg, hj]; rfl, ?_⟩
  rw [Int32.lt_iff_toInt_lt, hj]; have : (0 : Int32).toInt = 0 := rfl; omega
theorem own_in {cl : Cell} {j : Int32} {i : Nat} (hj : j.toInt = (i : Int)) (hs : cl.slots.size = n) (hi : i < n) : ¬ (j < 0 ∨ cl.slots.size ≤ j.toNatClampNeg) := by
  obtain ⟨h1, h2⟩ := own_clamp hj
  rintro (q | q)
  · exact h2 q
  · rw [h1, hs] at q; omega
theorem own_bl (X : Stand p l e R s m args below meth c T locs cells slots) (hx : p.tables.exec = Jvm.exec) (hZ : Z.Warmed39 s.vm) (eT : T.heap = h) (A : Ary Z h a .byte n f) {j : Int32} (i : Nat) (hj : j.toInt = (i : Int)) (hi : i < n) (hv : f i = v)
    {g : JFrame} (hg : g.method = m) {rest : List Value} (hs : g.stack = .int j :: .ref a :: rest) (hd : decode c.code g.pc = .ok (.baload, 1)) :
    ∀ target, Steps p.tables e below (T.setTop { g with pc := g.pc + 1, stack := v :: rest }) target → Steps p.tables e below (T.setTop g) target := by
  obtain ⟨cl, A1, r1, r2, r3, r4⟩ := A
  exact X.baloadBytes hx (by rw [eT]; exact A1.1) (State.isArrayOf_alike hZ.alike A1.2.1) A1.2.2 (own_in hj r1 hi) (by rw [(own_clamp hj).1, ← hv]; exact r3 i hi) hg hs hd
theorem own_il (X : Stand p l e R s m args below meth c T locs cells slots) (hx : p.tables.exec = Jvm.exec) (hZ : Z.Warmed39 s.vm) (eT : T.heap = h) (A : Ary Z h a .int n f) {j : Int32} (i : Nat) (hj : j.toInt = (i : Int)) (hi : i < n) (hv : f i = v)
    {g : JFrame} (hg : g.method = m) {rest : List Value} (hs : g.stack = .int j :: .ref a :: rest) (hd : decode c.code g.pc = .ok (.iaload, 1)) :
    ∀ target, Steps p.tables e below (T.setTop { g with pc := g.pc + 1, stack := v :: rest }) target → Steps p.tables e below (T.setTop g) target := by
  obtain ⟨cl, A1, r1, r2, r3, r4⟩ := A
  exact X.iaload hx (by rw [eT]; exact A1.1) (State.isArrayOf_alike hZ.alike A1.2.1) A1.2.2 (own_in hj r1 hi) (by rw [(own_clamp hj).1, ← hv]; exact r3 i hi) hg hs hd
theorem own_len (X : Stand p l e R s m args below meth c T locs cells slots) (hx : p.tables.exec = Jvm.exec) (hZ : Z.Warmed39 s.vm) (eT : T.heap = h) (A : Ary Z h a ty n f) {z : Int32} (hz : z = Int32.ofNat n)
    {g : JFrame} (hg : g.method = m) {rest : List Value} (hs : g.stack = .ref a :: rest) (hd : decode c.code g.pc = .ok (.arraylength, 1)) :
    ∀ target, Steps p.tables e below (T.setTop { g with pc := g.pc + 1, stack := .int z :: rest }) target → Steps p.tables e below (T.setTop g) target := by
  obtain ⟨cl, A1, r1, r2, r3, r4⟩ := A
  intro target k
  refine X.arraylength hx (by rw [eT]; exact A1.1) (State.isArrayOf_alike hZ.alike A1.2.1) hg hs hd target ?_
  rw [r1]; rw [hz] at k; exact k
theorem Ary.wr (A : Ary Z h a ty n f) {i : Nat} (hi : i < n) (W : Wr h h' a i v) (hf : fits ty v = true) : Ary Z h' a ty n (own_up f i v) := by
  obtain ⟨cl, A1, r1, r2, r3, r4⟩ := A
  refine ⟨_, A1.same W, by rw [sz_set]; exact r1, r2, fun j hj => ?_, fun j hj => ?_⟩
  · by_cases q : j = i
    · subst q; simp [own_up, Cell.setSlot, r1, hi]
    · simp only [own_up, if_neg q, Cell.setSlot]; rw [Array.getElem?_setIfInBounds_ne (Ne.symm q)]; exact r3 j hj
  · by_cases q : j = i
    · subst q; simp only [own_up, if_true]; exact hf
    · simp only [own_up, if_neg q]; exact r4 j hj
theorem own_sB (X : Stand p l e R s m args below meth c T locs cells slots) (hx : p.tables.exec = Jvm.exec) (hZ : Z.Warmed39 s.vm) (eT : T.heap = h) (A : Ary Z h a .byte n f) {j x : Int32} (i : Nat) (hj : j.toInt = (i : Int)) (hi : i < n)
    {g : JFrame} (hg : g.method = m) {rest : List Value} (hs : g.stack = .int x :: .int j :: .ref a :: rest) (hd : decode c.code g.pc = .ok (.bastore, 1)) :
    ∃ T' h', Stand p l e R s m args below meth c T' (locs ++ [⟨a, i⟩]) cells slots ∧ T'.heap = h' ∧ Wr h h' a i (.int (x.toInt8.toInt32)) ∧ Ary Z h' a .byte n (own_up f i (.int (x.toInt8.toInt32))) ∧ ∀ target, Steps p.tables e below (T'.setTop { g with pc := g.pc + 1, stack := rest }) target → Steps p.tables e below (T.setTop g) target := by
  obtain ⟨cl, A1, r1, r⟩ := A
  obtain ⟨T', h', X', e', W, st⟩ := stB X hx hZ eT A1 (own_in hj r1 hi) hg hs hd
  rw [(own_clamp hj).1] at X' W
  exact ⟨T', h', X', e', W, Ary.wr ⟨cl, A1, r1, r⟩ hi W (fits_nar_byte x), st⟩
theorem own_sZ (X : Stand p l e R s m args below meth c T locs cells slots) (hx : p.tables.exec = Jvm.exec) (hZ : Z.Warmed39 s.vm) (eT : T.heap = h) (A : Ary Z h a .boolean n f) {j x : Int32} (i : Nat) (hj : j.toInt = (i : Int)) (hi : i < n)
    {g : JFrame} (hg : g.method = m) {rest : List Value} (hs : g.stack = .int x :: .int j :: .ref a :: rest) (hd : decode c.code g.pc = .ok (.bastore, 1)) :
    ∃ T' h', Stand p l e R s m args below meth c T' (locs ++ [⟨a, i⟩]) cells slots ∧ T'.heap = h' ∧ Wr h h' a i (.int (nar .boolean x)) ∧ Ary Z h' a .boolean n (own_up f i (.int (nar .boolean x))) ∧ ∀ target, Steps p.tables e below (T'.setTop { g with pc := g.pc + 1, stack := rest }) target → Steps p.tables e below (T.setTop g) target := by
  obtain ⟨cl, A1, r1, r⟩ := A
  obtain ⟨T', h', X', e', W, st⟩ := stZ X hx hZ eT A1 (own_in hj r1 hi) hg hs hd
  rw [(own_clamp hj).1] at X' W
  exact ⟨T', h', X', e', W, Ary.wr ⟨cl, A1, r1, r⟩ hi W (fits_nar_bool x), st⟩
theorem own_sI (X : Stand p l e R s m args below meth c T locs cells slots) (hx : p.tables.exec = Jvm.exec) (hZ : Z.Warmed39 s.vm) (eT : T.heap = h) (A : Ary Z h a .int n f) {j x : Int32} (i : Nat) (hj : j.toInt = (i : Int)) (hi : i < n)
    {g : JFrame} (hg : g.method = m) {rest : List Value} (hs : g.stack = .int x :: .int j :: .ref a :: rest) (hd : decode c.code g.pc = .ok (.iastore, 1)) :
    ∃ T' h', Stand p l e R s m args below meth c T' (locs ++ [⟨a, i⟩]) cells slots ∧ T'.heap = h' ∧ Wr h h' a i (.int x) ∧ Ary Z h' a .int n (own_up f i (.int x)) ∧ ∀ target, Steps p.tables e below (T'.setTop { g with pc := g.pc + 1, stack := rest }) target → Steps p.tables e below (T.setTop g) target := by
  obtain ⟨cl, A1, r1, r⟩ := A
  obtain ⟨T', h', X', e', W, st⟩ := stI X hx hZ eT A1 (own_in hj r1 hi) hg hs hd
  rw [(own_clamp hj).1] at X' W
  exact ⟨T', h', X', e', W, Ary.wr ⟨cl, A1, r1, r⟩ hi W rfl, st⟩
theorem own_new (X : Stand p l e R s m args below meth c T locs cells slots) (hx : p.tables.exec = Jvm.exec) (hZ : Z.Warmed39 s.vm) {a0 : Array Value} {aty : ArrayType} (w : (Cond.arrayClass (newarray.typeOf aty)).before a0 Z = true) (eT : T.heap = h) {g : JFrame} (hg : g.method = m) (hd : decode c.code g.pc = .ok (.newarray aty, 2)) {z : Int32} {rest : List Value} (hs : g.stack = .int z :: rest)
    (k : Nat) (hk : z.toInt = (k : Int)) {cap : Nat} (hcap : k ≤ cap) (hb : cap * 8 ≤ 536870912) (hc : cells + 1 ≤ R.cells) (hl : slots + cap ≤ R.slots) :
    ∃ T' h', Stand p l e R s m args below meth c T' locs (cells + 1) (slots + cap) ∧ T'.heap = h' ∧ Ext h h' ∧ Ary Z h' h.size (newarray.typeOf aty) k (fun _ => defaultValue (newarray.typeOf aty)) ∧
      ∀ target, Steps p.tables e below (T'.setTop { g with pc := g.pc + 2, stack := .ref h.size :: rest }) target → Steps p.tables e below (T.setTop g) target := by
  obtain ⟨h1, h2⟩ := own_clamp hk
  obtain ⟨T', h', cA, X', e', E, A, st⟩ := newP X hx hZ w eT hg hd hs h2 (cap := cap) (by rw [h1]; exact hcap) hb hc hl
  refine ⟨T', h', X', e', E, ⟨_, A, by rw [sz_new, h1], by have := rng32 z; omega, fun j hj => ?_, fun j _ => by cases aty <;> rfl⟩, st⟩
  simp [newA, h1, hj]
end Arrays

section Copies
variable {p : Program} {l : Launch} {e : Env} {R : Room} {s : State} {m : MethodId} {args : Array Value} {below : List Frame} {meth : Method} {c : Code} {T : State} {locs : List Loc} {cells slots : Nat} {Z : State} {h h' : Heap} {a b : Addr} {ty : FieldType} {n n' : Nat} {f f' : Nat → Value} {v : Value}
theorem own_sel {args : Array Value} {y : MethodName} {n : Nat} (hins : (Cond.instantiable y.cls n).before args s = true) (hpriv : s.PrivateAt y) (hinst : (Cond.instanceMethod y).before args s = true) (hy : y.cls ≠ "java/lang/invoke/MethodHandle" ∧ y.cls ≠ "java/lang/invoke/VarHandle") : (Cond.selects y.cls y y).before args s = true := by
  obtain ⟨c, k, hc, hk, -, hniab, -, -⟩ := Cond.instantiable_spec hins
  exact selects_self_of_private hc hk (Bool.or_eq_false_iff.mp hniab).1 hpriv hinst hy
end Copies

def nmOf : Nat → String
  | 0 => "sources" | 1 => "attributes" | 2 => "targets" | 3 => "nextOut" | 4 => "nextIn" | 5 => "roles" | 6 => "firstOut" | 7 => "lastRole" | 8 => "firstFeature" | 9 => "lastFeature" | 10 => "firstIn" | 11 => "lastIn" | 12 => "count" | _ => "features"
def dsOf : Nat → String
  | 0 => "[I" | 1 => "[I" | 2 => "[I" | 3 => "[I" | 4 => "[I" | 5 => "[Z" | 6 => "[I" | 7 => "[I" | 8 => "[I" | 9 => "[I" | 10 => "[I" | 11 => "[I" | 12 => "I" | _ => "Z"
def tdOf : Nat → FieldType
  | 0 => .array .int | 1 => .array .int | 2 => .array .int | 3 => .array .int | 4 => .array .int | 5 => .array .boolean | 6 => .array .int | 7 => .array .int | 8 => .array .int | 9 => .array .int | 10 => .array .int | 11 => .array .int | 12 => .int | _ => .boolean
def tyOf : Nat → FieldType
  | 5 => .boolean | _ => .int
def szOf : Nat → Nat
  | 0 => 8 | 1 => 8 | 2 => 8 | 3 => 8 | 4 => 8 | 5 => 8 | _ => 4
theorem own_names : ∀ i j : Fin 14, i ≠ j → nmOf i.val ≠ nmOf j.val := by decide +kernel
theorem own_parse : ∀ i : Fin 14, parseFieldDescriptor (dsOf i.val) = some (tdOf i.val) := by decide +kernel
theorem own_laid {Z : State} {a0 : Array Value} (hw : ∀ d ∈ tables_1, d.before a0 Z = true) (i : Nat) (hi : i < 14) : Laid Z a0 "com/example/triptych/triptych/reasoning/Links" "com/example/triptych/triptych/reasoning/Links" (nmOf i) (dsOf i) := by
  match i, hi with
  | 0, _ => exact Or.inl (hw _ (List.mem_of_getElem? (i := 11) rfl))
  | 1, _ => exact Or.inl (hw _ (List.mem_of_getElem? (i := 13) rfl))
  | 2, _ => exact Or.inl (hw _ (List.mem_of_getElem? (i := 15) rfl))
  | 3, _ => exact Or.inl (hw _ (List.mem_of_getElem? (i := 17) rfl))
  | 4, _ => exact Or.inl (hw _ (List.mem_of_getElem? (i := 19) rfl))
  | 5, _ => exact Or.inl (hw _ (List.mem_of_getElem? (i := 22) rfl))
  | 6, _ => exact Or.inl (hw _ (List.mem_of_getElem? (i := 24) rfl))
  | 7, _ => exact Or.inl (hw _ (List.mem_of_getElem? (i := 26) rfl))
  | 8, _ => exact Or.inl (hw _ (List.mem_of_getElem? (i := 28) rfl))
  | 9, _ => exact Or.inl (hw _ (List.mem_of_getElem? (i := 30) rfl))
  | 10, _ => exact Or.inl (hw _ (List.mem_of_getElem? (i := 32) rfl))
  | 11, _ => exact Or.inl (hw _ (List.mem_of_getElem? (i := 34) rfl))
  | 12, _ => exact Or.inl (hw _ (List.mem_of_getElem? (i := 50) rfl))
  | 13, _ => exact Or.inl (hw _ (List.mem_of_getElem? (i := 74) rfl))
theorem own_slots {Z : State} {a0 : Array Value} (hw : ∀ d ∈ tables_1, d.before a0 Z = true) (i j : Nat) (hi : i < 14) (hj : j < 14) (ne : i ≠ j) : Jvm.RoadKit.slotOf Z "com/example/triptych/triptych/reasoning/Links" (nmOf i) (dsOf i) ≠ Jvm.RoadKit.slotOf Z "com/example/triptych/triptych/reasoning/Links" (nmOf j) (dsOf j) :=
  slot_ne (own_laid hw i hi) (own_laid hw j hj) (own_names ⟨i, hi⟩ ⟨j, hj⟩ (fun q => ne (congrArg Fin.val q))) (own_parse ⟨i, hi⟩) (own_parse ⟨j, hj⟩)
/-- while the constructor runs: t arrays are made -/
def PL (n0 : Nat) (Z : State) (h : Heap) (a : Addr) (A : Nat → Addr) (t : Nat) : Prop :=
  Exa Z h a "com/example/triptych/triptych/reasoning/Links" ∧ (∀ i, i < t → Fld Z h a "com/example/triptych/triptych/reasoning/Links" (nmOf i) (dsOf i) (.ref (A i)) ∧ Ary Z h (A i) (tyOf i) (szOf i) (fun _ => .int 0) ∧ a ≠ A i ∧ n0 ≤ A i) ∧ (∀ i, t ≤ i → i < 12 → Fld Z h a "com/example/triptych/triptych/reasoning/Links" (nmOf i) (dsOf i) .null) ∧
    Fld Z h a "com/example/triptych/triptych/reasoning/Links" (nmOf 12) (dsOf 12) (.int 0) ∧ Fld Z h a "com/example/triptych/triptych/reasoning/Links" (nmOf 13) (dsOf 13) (.int 0) ∧ ∀ i j, i < t → j < t → A i = A j → i = j
theorem PL.step {n0 : Nat} {Z : State} {a0 : Array Value} (hw : ∀ d ∈ tables_1, d.before a0 Z = true) {h h1 h2 : Heap} {a b : Addr} {A : Nat → Addr} {t : Nat} (P : PL n0 Z h a A t) (ht : t < 12) (E : Ext h h1) (V : Ary Z h1 b (tyOf t) (szOf t) (fun _ => .int 0)) (hb : b = h.size) (W : Wr h1 h2 a (Jvm.RoadKit.slotOf Z "com/example/triptych/triptych/reasoning/Links" (nmOf t) (dsOf t)) (.ref b)) (hn : n0 ≤ h.size) :
    PL n0 Z h2 a (fun i => if i = t then b else A i) (t + 1) := by
  obtain ⟨P1, P2, P3, P4, P5, P6⟩ := P
  have hab : a ≠ b := Nat.ne_of_lt (Nat.lt_of_lt_of_le P1.lt (Nat.le_of_eq hb.symm))
  have hAb : ∀ i, i < t → A i ≠ b := fun i hi => Nat.ne_of_lt (Nat.lt_of_lt_of_le (P2 i hi).2.1.lt (Nat.le_of_eq hb.symm))
  refine ⟨(P1.ext E).wr W, fun i hi => ?_, fun i h1 h2 => ?_, ?_, ?_, fun i j hi hj q => ?_⟩
  · by_cases q : i = t
    · subst q
      simp only [if_true]
      exact ⟨((P3 i (Nat.le_refl _) ht).ext E).same W, V.other W (Ne.symm hab), hab, by rw [hb]; exact hn⟩
    · simp only [if_neg q]
      have hi' : i < t := by omega
      obtain ⟨q1, q2, q3, q4⟩ := P2 i hi'
      exact ⟨(q1.ext E).other W (Or.inr (own_slots hw i t (by omega) (by omega) q)), (q2.ext E).other W (Ne.symm q3), q3, q4⟩
  · exact ((P3 i (by omega) h2).ext E).other W (Or.inr (own_slots hw i t (by omega) (by omega) (by omega)))
  · exact (P4.ext E).other W (Or.inr (own_slots hw 12 t (by omega) (by omega) (by omega)))
  · exact (P5.ext E).other W (Or.inr (own_slots hw 13 t (by omega) (by omega) (by omega)))
  · by_cases q1 : i = t
    · by_cases q2 : j = t
      · rw [q1, q2]
      · simp only [if_pos q1, if_neg q2] at q
        exact absurd q.symm (hAb j (by omega))
    · by_cases q2 : j = t
      · simp only [if_neg q1, if_pos q2] at q
        exact absurd q (hAb i (by omega))
      · simp only [if_neg q1, if_neg q2] at q
        exact P6 i j (by omega) (by omega) q
/-- the store: its arrays at A 0 .. A 11; F i j: what place j of array i holds; cz: the count -/
def LK (n0 : Nat) (Z : State) (h : Heap) (a : Addr) (A : Nat → Addr) (F : Nat → Nat → Int32) (cz : Nat) (ft : Int32) : Prop :=
  Exa Z h a "com/example/triptych/triptych/reasoning/Links" ∧ (∀ i, i < 12 → Fld Z h a "com/example/triptych/triptych/reasoning/Links" (nmOf i) (dsOf i) (.ref (A i))) ∧ (∀ i, i < 12 → Ary Z h (A i) (tyOf i) (szOf i) (fun j => .int (F i j))) ∧
    Fld Z h a "com/example/triptych/triptych/reasoning/Links" (nmOf 12) (dsOf 12) (.int (Int32.ofNat cz)) ∧ Fld Z h a "com/example/triptych/triptych/reasoning/Links" (nmOf 13) (dsOf 13) (.int ft) ∧ (∀ i j, i < 12 → j < 12 → A i = A j → i = j) ∧ (∀ i, i < 12 → a ≠ A i) ∧ ∀ i, i < 12 → n0 ≤ A i
theorem PL.done {n0 : Nat} {Z : State} {h : Heap} {a : Addr} {A : Nat → Addr} (P : PL n0 Z h a A 12) : LK n0 Z h a A (fun _ _ => 0) 0 0 :=
  ⟨P.1, fun i hi => (P.2.1 i hi).1, fun i hi => (P.2.1 i hi).2.1, P.2.2.2.1, P.2.2.2.2.1, P.2.2.2.2.2, fun i hi => (P.2.1 i hi).2.2.1, fun i hi => (P.2.1 i hi).2.2.2⟩
def own_u2 (F : Nat → Nat → Int32) (i p : Nat) (z : Int32) : Nat → Nat → Int32 := fun i' j => if i' = i then (if j = p then z else F i' j) else F i' j
theorem own_u2_eq (F : Nat → Nat → Int32) (i p : Nat) (z : Int32) : own_u2 F i p z i p = z := by simp [own_u2]
theorem own_u2_ne (F : Nat → Nat → Int32) (i p : Nat) (z : Int32) (i' j : Nat) (h : i' ≠ i) : own_u2 F i p z i' j = F i' j := by simp [own_u2, h]
theorem own_u2_np (F : Nat → Nat → Int32) (i p : Nat) (z : Int32) (i' j : Nat) (h : j ≠ p) : own_u2 F i p z i' j = F i' j := by simp [own_u2, h]
theorem LK.sto {n0 : Nat} {Z : State} {h h' : Heap} {a : Addr} {A : Nat → Addr} {F : Nat → Nat → Int32} {cz : Nat} {ft : Int32} (I : LK n0 Z h a A F cz ft) (i p : Nat) (z : Int32) (hi : i < 12) (hp : p < szOf i) (hf : fits (tyOf i) (.int z) = true) (W : Wr h h' (A i) p (.int z)) : LK n0 Z h' a A (own_u2 F i p z) cz ft := by
  obtain ⟨I1, I2, I3, I4, I5, I6, I7, I8⟩ := I
  have hne := I7 i hi
  refine ⟨I1.wr W, fun j hj => (I2 j hj).other W (Or.inl hne), fun j hj => ?_, I4.other W (Or.inl hne), I5.other W (Or.inl hne), I6, I7, I8⟩
  by_cases q : j = i
  · subst q
    refine ((I3 j hj).wr hp W hf).cong fun k _ => ?_
    by_cases r : k = p
    · subst r; rw [own_up, if_pos rfl, own_u2_eq]
    · rw [own_up, if_neg r, own_u2_np _ _ _ _ _ _ r]
  · refine ((I3 j hj).other W (fun r => q (I6 j i hj hi r))).cong fun k _ => ?_
    rw [own_u2_ne _ _ _ _ _ _ q]
theorem LK.cnt {n0 : Nat} {Z : State} {a0 : Array Value} (hw : ∀ d ∈ tables_1, d.before a0 Z = true) {h h' : Heap} {a : Addr} {A : Nat → Addr} {F : Nat → Nat → Int32} {cz cz' : Nat} {ft : Int32} (I : LK n0 Z h a A F cz ft) (W : Wr h h' a (Jvm.RoadKit.slotOf Z "com/example/triptych/triptych/reasoning/Links" (nmOf 12) (dsOf 12)) (.int (Int32.ofNat cz'))) : LK n0 Z h' a A F cz' ft := by
  obtain ⟨I1, I2, I3, I4, I5, I6, I7, I8⟩ := I
  exact ⟨I1.wr W, fun j hj => (I2 j hj).other W (Or.inr (own_slots hw j 12 (by omega) (by omega) (by omega))), fun j hj => (I3 j hj).other W (Ne.symm (I7 j hj)), I4.same W, I5.other W (Or.inr (own_slots hw 13 12 (by omega) (by omega) (by omega))), I6, I7, I8⟩
theorem LK.fea {n0 : Nat} {Z : State} {a0 : Array Value} (hw : ∀ d ∈ tables_1, d.before a0 Z = true) {h h' : Heap} {a : Addr} {A : Nat → Addr} {F : Nat → Nat → Int32} {cz : Nat} {ft z : Int32} (I : LK n0 Z h a A F cz ft) (W : Wr h h' a (Jvm.RoadKit.slotOf Z "com/example/triptych/triptych/reasoning/Links" (nmOf 13) (dsOf 13)) (.int z)) : LK n0 Z h' a A F cz z := by
  obtain ⟨I1, I2, I3, I4, I5, I6, I7, I8⟩ := I
  exact ⟨I1.wr W, fun j hj => (I2 j hj).other W (Or.inr (own_slots hw j 13 (by omega) (by omega) (by omega))), fun j hj => (I3 j hj).other W (Ne.symm (I7 j hj)), I4.other W (Or.inr (own_slots hw 12 13 (by omega) (by omega) (by omega))), I5.same W, I6, I7, I8⟩
/-- what the methods do to F -/
def own_ao (F : Nat → Nat → Int32) (k : Nat) : Nat → Nat → Int32 := own_u2 (own_u2 (own_u2 (own_u2 (own_u2 (own_u2 F 6 k (-1)) 7 k (-1)) 8 k (-1)) 9 k (-1)) 10 k (-1)) 11 k (-1)
def own_nl (F : Nat → Nat → Int32) (c : Nat) (s f t : Int32) : Nat → Nat → Int32 := own_u2 (own_u2 (own_u2 F 0 c s) 1 c f) 2 c t
def own_app (F : Nat → Nat → Int32) (fs ls k d : Nat) (z : Int32) : Option Nat → Nat → Nat → Int32
  | none => own_u2 (own_u2 (own_u2 F 3 d (-1)) fs k z) ls k z
  | some d' => own_u2 (own_u2 (own_u2 F 3 d (-1)) 3 d' z) ls k z
def own_hl (F : Nat → Nat → Int32) (ls k : Nat) : Option Nat → Prop
  | none => F ls k = -1
  | some d' => d' < 8 ∧ (F ls k).toInt = (d' : Int)
def own_ar (F : Nat → Nat → Int32) (s c : Nat) (sz cz f t : Int32) : Nat → Nat → Int32 := own_app (own_u2 (own_nl F c sz f t) 5 c 1) 6 7 s c cz none
def own_af (F : Nat → Nat → Int32) (s c : Nat) (sz cz f t : Int32) (o : Option Nat) : Nat → Nat → Int32 := own_app (own_u2 (own_u2 (own_nl F c sz f t) 5 c 0) 0 c sz) 8 9 s c cz o
/-- the chain of links from i on: their attributes and targets -/
def Ch (F : Nat → Nat → Int32) : Int32 → List (Int32 × Int32) → Prop
  | i, [] => i = -1
  | i, q :: r => ∃ d : Nat, d < 8 ∧ i.toInt = (d : Int) ∧ F 1 d = q.1 ∧ F 2 d = q.2 ∧ Ch F (F 3 d) r
def own_lk : List (Int32 × Int32) → Int32 → Int32
  | [], _ => -1
  | q :: r, f => if q.1 = f then q.2 else own_lk r f
theorem own_to (k : Nat) (h : k < 100000) : (Int32.ofNat k).toInt = (k : Int) := Int32.toInt_ofNat_of_lt (by omega)
theorem own_one (i : Nat) : Int32.ofNat i + (1 : Int32) = Int32.ofNat (i + 1) := (Int32.ofNat_add i 1).symm
theorem own_q (mo : Int32) : ∃ k : Nat, k < 3 ∧ ((mo &&& (3 : Int32)) % (3 : Int32)).toInt = (k : Int) := by
  have h0 : 0 ≤ (mo &&& (3 : Int32)).toInt := (c_andS mo 3).2.2 (by decide)
  have h1 := (c_irem (mo &&& (3 : Int32)) 3 3 rfl).1 h0
  exact ⟨((mo &&& (3 : Int32)) % (3 : Int32)).toInt.toNat, by omega, by omega⟩

theorem d1_0 : decode prog_220_method_1_code 0 = .ok (.aload_n 0, 1) := by decide +kernel
theorem d1_1 : decode prog_220_method_1_code 1 = .ok (.invokespecial 1, 3) := by decide +kernel
theorem d1_4 : decode prog_220_method_1_code 4 = .ok (.aload_n 0, 1) := by decide +kernel
theorem d1_5 : decode prog_220_method_1_code 5 = .ok (.bipush 8, 2) := by decide +kernel
theorem d1_7 : decode prog_220_method_1_code 7 = .ok (.newarray .int, 2) := by decide +kernel
theorem d1_9 : decode prog_220_method_1_code 9 = .ok (.putfield 7, 3) := by decide +kernel
theorem d1_12 : decode prog_220_method_1_code 12 = .ok (.aload_n 0, 1) := by decide +kernel
theorem d1_13 : decode prog_220_method_1_code 13 = .ok (.bipush 8, 2) := by decide +kernel
theorem d1_15 : decode prog_220_method_1_code 15 = .ok (.newarray .int, 2) := by decide +kernel
theorem d1_17 : decode prog_220_method_1_code 17 = .ok (.putfield 13, 3) := by decide +kernel
theorem d1_20 : decode prog_220_method_1_code 20 = .ok (.aload_n 0, 1) := by decide +kernel
theorem d1_21 : decode prog_220_method_1_code 21 = .ok (.bipush 8, 2) := by decide +kernel
theorem d1_23 : decode prog_220_method_1_code 23 = .ok (.newarray .int, 2) := by decide +kernel
theorem d1_25 : decode prog_220_method_1_code 25 = .ok (.putfield 16, 3) := by decide +kernel
theorem d1_28 : decode prog_220_method_1_code 28 = .ok (.aload_n 0, 1) := by decide +kernel
theorem d1_29 : decode prog_220_method_1_code 29 = .ok (.bipush 8, 2) := by decide +kernel
theorem d1_31 : decode prog_220_method_1_code 31 = .ok (.newarray .int, 2) := by decide +kernel
theorem d1_33 : decode prog_220_method_1_code 33 = .ok (.putfield 19, 3) := by decide +kernel
theorem d1_36 : decode prog_220_method_1_code 36 = .ok (.aload_n 0, 1) := by decide +kernel
theorem d1_37 : decode prog_220_method_1_code 37 = .ok (.bipush 8, 2) := by decide +kernel
theorem d1_39 : decode prog_220_method_1_code 39 = .ok (.newarray .int, 2) := by decide +kernel
theorem d1_41 : decode prog_220_method_1_code 41 = .ok (.putfield 22, 3) := by decide +kernel
theorem d1_44 : decode prog_220_method_1_code 44 = .ok (.aload_n 0, 1) := by decide +kernel
theorem d1_45 : decode prog_220_method_1_code 45 = .ok (.bipush 8, 2) := by decide +kernel
theorem d1_47 : decode prog_220_method_1_code 47 = .ok (.newarray .boolean, 2) := by decide +kernel
theorem d1_49 : decode prog_220_method_1_code 49 = .ok (.putfield 25, 3) := by decide +kernel
theorem d1_52 : decode prog_220_method_1_code 52 = .ok (.aload_n 0, 1) := by decide +kernel
theorem d1_53 : decode prog_220_method_1_code 53 = .ok (.iconst 4, 1) := by decide +kernel
theorem d1_54 : decode prog_220_method_1_code 54 = .ok (.newarray .int, 2) := by decide +kernel
theorem d1_56 : decode prog_220_method_1_code 56 = .ok (.putfield 29, 3) := by decide +kernel
theorem d1_59 : decode prog_220_method_1_code 59 = .ok (.aload_n 0, 1) := by decide +kernel
theorem d1_60 : decode prog_220_method_1_code 60 = .ok (.iconst 4, 1) := by decide +kernel
theorem d1_61 : decode prog_220_method_1_code 61 = .ok (.newarray .int, 2) := by decide +kernel
theorem d1_63 : decode prog_220_method_1_code 63 = .ok (.putfield 32, 3) := by decide +kernel
theorem d1_66 : decode prog_220_method_1_code 66 = .ok (.aload_n 0, 1) := by decide +kernel
theorem d1_67 : decode prog_220_method_1_code 67 = .ok (.iconst 4, 1) := by decide +kernel
theorem d1_68 : decode prog_220_method_1_code 68 = .ok (.newarray .int, 2) := by decide +kernel
theorem d1_70 : decode prog_220_method_1_code 70 = .ok (.putfield 35, 3) := by decide +kernel
theorem d1_73 : decode prog_220_method_1_code 73 = .ok (.aload_n 0, 1) := by decide +kernel
theorem d1_74 : decode prog_220_method_1_code 74 = .ok (.iconst 4, 1) := by decide +kernel
theorem d1_75 : decode prog_220_method_1_code 75 = .ok (.newarray .int, 2) := by decide +kernel
theorem d1_77 : decode prog_220_method_1_code 77 = .ok (.putfield 38, 3) := by decide +kernel
theorem d1_80 : decode prog_220_method_1_code 80 = .ok (.aload_n 0, 1) := by decide +kernel
theorem d1_81 : decode prog_220_method_1_code 81 = .ok (.iconst 4, 1) := by decide +kernel
theorem d1_82 : decode prog_220_method_1_code 82 = .ok (.newarray .int, 2) := by decide +kernel
theorem d1_84 : decode prog_220_method_1_code 84 = .ok (.putfield 41, 3) := by decide +kernel
theorem d1_87 : decode prog_220_method_1_code 87 = .ok (.aload_n 0, 1) := by decide +kernel
theorem d1_88 : decode prog_220_method_1_code 88 = .ok (.iconst 4, 1) := by decide +kernel
theorem d1_89 : decode prog_220_method_1_code 89 = .ok (.newarray .int, 2) := by decide +kernel
theorem d1_91 : decode prog_220_method_1_code 91 = .ok (.putfield 44, 3) := by decide +kernel
theorem d1_94 : decode prog_220_method_1_code 94 = .ok (.return_, 1) := by decide +kernel
theorem pn_1 : plainFor (⟨"com/example/triptych/triptych/reasoning/Links", "<init>", "()V"⟩ : MethodName) = true := by first | exact plainFor_of_name (by first | (simp [plainName, overriddenIn]; done) | decide +kernel) | decide +kernel
theorem ef_1 (m : MethodId) (x0 : Addr) : entryFrame m #[(.ref x0)] 1 = mkF m 0 #[.val (.ref x0)] [] := by first | (simp [entryFrame, mkF, argsToLocals, Value.category]; done) | rfl
def Q1 (Z : State) (a1 : Addr) (A : Nat → Addr) (h0 : Heap) (n0 : Nat) (v : Option Value) (h : Heap) (L : List Loc) : Prop := v = none ∧ Fr n0 L ∧ n0 ≤ h.size ∧ ∃ A', LK n0 Z h a1 A' (fun _ _ => 0) 0 0
set_option maxRecDepth 65536 in
set_option maxHeartbeats 40000000 in
theorem rm1 (l : Launch) (Z : State) (a0 : Array Value) (hw : ∀ d ∈ tables_1, d.before a0 Z = true) (ws : List Jvm.Cond) (a1 : Addr) (A : Nat → Addr) (h0 : Heap) (n0 : Nat) (Z0 : n0 ≤ h0.size) (P0 : PL n0 Z h0 a1 A 0) (ga : n0 ≤ a1) :
    MetFree l (⟨"com/example/triptych/triptych/reasoning/Links", "<init>", "()V"⟩ : MethodName) (head1 (Jvm.Cond.code (⟨"com/example/triptych/triptych/reasoning/Links", "<init>", "()V"⟩ : MethodName) prog_220_method_1_code 1 none :: ws) ({ frames := 1, cells := 12, slots := 72, locals := 12 } : Room)) (fun a U => a = #[(.ref a1)] ∧ Z.Warmed39 U.vm ∧ U.heap = h0) (fun _ _ _ _ _ => True) (fun _ U o U' => ∃ v L, o = .returned v ∧ Q1 Z a1 A h0 n0 v U'.heap L ∧ FrameEnd U o U' L ({ frames := 1, cells := 12, slots := 72, locals := 12 } : Room).cells ({ frames := 1, cells := 12, slots := 72, locals := 12 } : Room).slots) := by
  refine MetFree.of_bodySF pn_1 hisR ?_
  intro p e s m args below meth c s₁ Bd hml0 hP hK
  obtain ⟨rfl, hZ, hh⟩ := hP
  have hx := Bd.exec
  have hby := Bd.bytes
  have hml : c.maxLocals = 1 := hml0
  have hown : s.vm.findClass "com/example/triptych/triptych/reasoning/Links" = some m.cls := findClass_of_methodNamed Bd.named
  have hnm := (name_of_methodNamed Bd.named Bd.method).1
  have hrt := Bd.returns
  have hlk : meth.locks = false := BodyLoose.notSynchronized Bd
  have X0 : Stand p l e ({ frames := 1, cells := 12, slots := 72, locals := 12 } : Room) s m #[(.ref a1)] below meth c s₁ [] 0 0 := Stand.of_body Bd
  have e0 : s₁.heap = h0 := by rw [← hh, Bd.state]; rfl
  have N0 := Fr.nil n0
  show OwnG ({ frames := 1, cells := 12, slots := 72, locals := 12 } : Room).cells ({ frames := 1, cells := 12, slots := 72, locals := 12 } : Room).slots (Q1 Z a1 A h0 n0) p e below s (s₁.setTop (entryFrame m #[(.ref a1)] 1))
  refine own_st (σ' := s₁.setTop (mkF m 0 #[.val (.ref a1)] [])) (fun _ kq_ => castTop (ef_1 m a1) kq_) ?_
  show OwnG _ _ _ _ _ _ _ (s₁.setTop (mkF m 0 #[.val (.ref a1)] []))
  refine own_st (fun _ kq_ => XS.aloadN X0.here hx rfl (hb hby d1_0) rfl rfl kq_) ?_
  show OwnG _ _ _ _ _ _ _ (s₁.setTop (mkF m 1 #[.val (.ref a1)] [(.ref a1)]))
  obtain ⟨T1, X1, e1, st1⟩ := initO X0 hx hZ hown (hw _ (List.mem_of_getElem? (i := 6) rfl)) (hw _ (List.mem_of_getElem? (i := 7) rfl)) (hw _ (List.mem_of_getElem? (i := 8) rfl)) e0 (g := (mkF m 1 #[.val (.ref a1)] [(.ref a1)])) rfl (by rw [hml]; rfl) rfl (hb hby d1_1) (by decide) (W := 0) (by show 2 * 0 + _ ≤ _; exact Nat.le_of_eq rfl) (by decide)
  refine own_st st1 ?_
  show OwnG _ _ _ _ _ _ _ (T1.setTop (mkF m 4 #[.val (.ref a1)] []))
  refine own_st (fun _ kq_ => XS.aloadN X1.here hx rfl (hb hby d1_4) rfl rfl kq_) ?_
  show OwnG _ _ _ _ _ _ _ (T1.setTop (mkF m 5 #[.val (.ref a1)] [(.ref a1)]))
  refine own_st (fun _ kq_ => XS.bipush X1.here hx rfl (hb hby d1_5) kq_) ?_
  show OwnG _ _ _ _ _ _ _ (T1.setTop (mkF m 7 #[.val (.ref a1)] [(.int (8 : Int32)), (.ref a1)]))
  obtain ⟨T2, h2, X2, e2, E2, V2, st2⟩ := own_new X1 hx hZ (hw _ (List.mem_of_getElem? (i := 9) rfl)) e1 (g := (mkF m 7 #[.val (.ref a1)] [(.int (8 : Int32)), (.ref a1)])) rfl (hb hby d1_7) rfl (8) (by decide) (cap := 8) (Nat.le_refl _) (by decide) (by decide) (by decide)
  obtain ⟨b2, g2⟩ : ∃ z, z = h0.size := ⟨_, rfl⟩
  rw [← g2] at V2 st2
  refine own_st st2 ?_
  show OwnG _ _ _ _ _ _ _ (T2.setTop (mkF m 9 #[.val (.ref a1)] [(.ref b2), (.ref a1)]))
  obtain ⟨T3, h3, X3, e3, W3, st3⟩ := putF X2 hx hZ hown (host := "") (Or.inl (hw _ (List.mem_of_getElem? (i := 10) rfl))) Via.refl e2 ((P0.2.2.1 0 (by decide) (by decide)).ext E2) (P0.1.ext E2) (Or.inl (hw _ (List.mem_of_getElem? (i := 11) rfl))) (hw _ (List.mem_of_getElem? (i := 1) rfl)) (ty := (.array .int)) (by decide) rfl rfl (g := (mkF m 9 #[.val (.ref a1)] [(.ref b2), (.ref a1)])) rfl rfl (hb hby d1_9)
  have N3 := Fr.snoc X3 N0 ga
  refine own_st st3 ?_
  show OwnG _ _ _ _ _ _ _ (T3.setTop (mkF m 12 #[.val (.ref a1)] []))
  have P3 := PL.step hw P0 (t := 0) (by decide) E2 V2 g2 W3 Z0
  have S3 : n0 ≤ h3.size := by rw [W3.size]; exact Nat.le_trans Z0 E2.1
  refine own_st (fun _ kq_ => XS.aloadN X3.here hx rfl (hb hby d1_12) rfl rfl kq_) ?_
  show OwnG _ _ _ _ _ _ _ (T3.setTop (mkF m 13 #[.val (.ref a1)] [(.ref a1)]))
  refine own_st (fun _ kq_ => XS.bipush X3.here hx rfl (hb hby d1_13) kq_) ?_
  show OwnG _ _ _ _ _ _ _ (T3.setTop (mkF m 15 #[.val (.ref a1)] [(.int (8 : Int32)), (.ref a1)]))
  obtain ⟨T4, h4, X4, e4, E4, V4, st4⟩ := own_new X3 hx hZ (hw _ (List.mem_of_getElem? (i := 9) rfl)) e3 (g := (mkF m 15 #[.val (.ref a1)] [(.int (8 : Int32)), (.ref a1)])) rfl (hb hby d1_15) rfl (8) (by decide) (cap := 8) (Nat.le_refl _) (by decide) (by decide) (by decide)
  obtain ⟨b4, g4⟩ : ∃ z, z = h3.size := ⟨_, rfl⟩
  rw [← g4] at V4 st4
  refine own_st st4 ?_
  show OwnG _ _ _ _ _ _ _ (T4.setTop (mkF m 17 #[.val (.ref a1)] [(.ref b4), (.ref a1)]))
  obtain ⟨T5, h5, X5, e5, W5, st5⟩ := putF X4 hx hZ hown (host := "") (Or.inl (hw _ (List.mem_of_getElem? (i := 12) rfl))) Via.refl e4 ((P3.2.2.1 1 (by decide) (by decide)).ext E4) (P3.1.ext E4) (Or.inl (hw _ (List.mem_of_getElem? (i := 13) rfl))) (hw _ (List.mem_of_getElem? (i := 1) rfl)) (ty := (.array .int)) (by decide) rfl rfl (g := (mkF m 17 #[.val (.ref a1)] [(.ref b4), (.ref a1)])) rfl rfl (hb hby d1_17)
  have N5 := Fr.snoc X5 N3 ga
  refine own_st st5 ?_
  show OwnG _ _ _ _ _ _ _ (T5.setTop (mkF m 20 #[.val (.ref a1)] []))
  have P5 := PL.step hw P3 (t := 1) (by decide) E4 V4 g4 W5 S3
  have S5 : n0 ≤ h5.size := by rw [W5.size]; exact Nat.le_trans S3 E4.1
  refine own_st (fun _ kq_ => XS.aloadN X5.here hx rfl (hb hby d1_20) rfl rfl kq_) ?_
  show OwnG _ _ _ _ _ _ _ (T5.setTop (mkF m 21 #[.val (.ref a1)] [(.ref a1)]))
  refine own_st (fun _ kq_ => XS.bipush X5.here hx rfl (hb hby d1_21) kq_) ?_
  show OwnG _ _ _ _ _ _ _ (T5.setTop (mkF m 23 #[.val (.ref a1)] [(.int (8 : Int32)), (.ref a1)]))
  obtain ⟨T6, h6, X6, e6, E6, V6, st6⟩ := own_new X5 hx hZ (hw _ (List.mem_of_getElem? (i := 9) rfl)) e5 (g := (mkF m 23 #[.val (.ref a1)] [(.int (8 : Int32)), (.ref a1)])) rfl (hb hby d1_23) rfl (8) (by decide) (cap := 8) (Nat.le_refl _) (by decide) (by decide) (by decide)
  obtain ⟨b6, g6⟩ : ∃ z, z = h5.size := ⟨_, rfl⟩
  rw [← g6] at V6 st6
  refine own_st st6 ?_
  show OwnG _ _ _ _ _ _ _ (T6.setTop (mkF m 25 #[.val (.ref a1)] [(.ref b6), (.ref a1)]))
  obtain ⟨T7, h7, X7, e7, W7, st7⟩ := putF X6 hx hZ hown (host := "") (Or.inl (hw _ (List.mem_of_getElem? (i := 14) rfl))) Via.refl e6 ((P5.2.2.1 2 (by decide) (by decide)).ext E6) (P5.1.ext E6) (Or.inl (hw _ (List.mem_of_getElem? (i := 15) rfl))) (hw _ (List.mem_of_getElem? (i := 1) rfl)) (ty := (.array .int)) (by decide) rfl rfl (g := (mkF m 25 #[.val (.ref a1)] [(.ref b6), (.ref a1)])) rfl rfl (hb hby d1_25)
  have N7 := Fr.snoc X7 N5 ga
  refine own_st st7 ?_
  show OwnG _ _ _ _ _ _ _ (T7.setTop (mkF m 28 #[.val (.ref a1)] []))
  have P7 := PL.step hw P5 (t := 2) (by decide) E6 V6 g6 W7 S5
  have S7 : n0 ≤ h7.size := by rw [W7.size]; exact Nat.le_trans S5 E6.1
  refine own_st (fun _ kq_ => XS.aloadN X7.here hx rfl (hb hby d1_28) rfl rfl kq_) ?_
  show OwnG _ _ _ _ _ _ _ (T7.setTop (mkF m 29 #[.val (.ref a1)] [(.ref a1)]))
  refine own_st (fun _ kq_ => XS.bipush X7.here hx rfl (hb hby d1_29) kq_) ?_
  show OwnG _ _ _ _ _ _ _ (T7.setTop (mkF m 31 #[.val (.ref a1)] [(.int (8 : Int32)), (.ref a1)]))
  obtain ⟨T8, h8, X8, e8, E8, V8, st8⟩ := own_new X7 hx hZ (hw _ (List.mem_of_getElem? (i := 9) rfl)) e7 (g := (mkF m 31 #[.val (.ref a1)] [(.int (8 : Int32)), (.ref a1)])) rfl (hb hby d1_31) rfl (8) (by decide) (cap := 8) (Nat.le_refl _) (by decide) (by decide) (by decide)
  obtain ⟨b8, g8⟩ : ∃ z, z = h7.size := ⟨_, rfl⟩
  rw [← g8] at V8 st8
  refine own_st st8 ?_
  show OwnG _ _ _ _ _ _ _ (T8.setTop (mkF m 33 #[.val (.ref a1)] [(.ref b8), (.ref a1)]))
  obtain ⟨T9, h9, X9, e9, W9, st9⟩ := putF X8 hx hZ hown (host := "") (Or.inl (hw _ (List.mem_of_getElem? (i := 16) rfl))) Via.refl e8 ((P7.2.2.1 3 (by decide) (by decide)).ext E8) (P7.1.ext E8) (Or.inl (hw _ (List.mem_of_getElem? (i := 17) rfl))) (hw _ (List.mem_of_getElem? (i := 1) rfl)) (ty := (.array .int)) (by decide) rfl rfl (g := (mkF m 33 #[.val (.ref a1)] [(.ref b8), (.ref a1)])) rfl rfl (hb hby d1_33)
  have N9 := Fr.snoc X9 N7 ga
  refine own_st st9 ?_
  show OwnG _ _ _ _ _ _ _ (T9.setTop (mkF m 36 #[.val (.ref a1)] []))
  have P9 := PL.step hw P7 (t := 3) (by decide) E8 V8 g8 W9 S7
  have S9 : n0 ≤ h9.size := by rw [W9.size]; exact Nat.le_trans S7 E8.1
  refine own_st (fun _ kq_ => XS.aloadN X9.here hx rfl (hb hby d1_36) rfl rfl kq_) ?_
  show OwnG _ _ _ _ _ _ _ (T9.setTop (mkF m 37 #[.val (.ref a1)] [(.ref a1)]))
  refine own_st (fun _ kq_ => XS.bipush X9.here hx rfl (hb hby d1_37) kq_) ?_
  show OwnG _ _ _ _ _ _ _ (T9.setTop (mkF m 39 #[.val (.ref a1)] [(.int (8 : Int32)), (.ref a1)]))
  obtain ⟨T10, h10, X10, e10, E10, V10, st10⟩ := own_new X9 hx hZ (hw _ (List.mem_of_getElem? (i := 9) rfl)) e9 (g := (mkF m 39 #[.val (.ref a1)] [(.int (8 : Int32)), (.ref a1)])) rfl (hb hby d1_39) rfl (8) (by decide) (cap := 8) (Nat.le_refl _) (by decide) (by decide) (by decide)
  obtain ⟨b10, g10⟩ : ∃ z, z = h9.size := ⟨_, rfl⟩
  rw [← g10] at V10 st10
  refine own_st st10 ?_
  show OwnG _ _ _ _ _ _ _ (T10.setTop (mkF m 41 #[.val (.ref a1)] [(.ref b10), (.ref a1)]))
  obtain ⟨T11, h11, X11, e11, W11, st11⟩ := putF X10 hx hZ hown (host := "") (Or.inl (hw _ (List.mem_of_getElem? (i := 18) rfl))) Via.refl e10 ((P9.2.2.1 4 (by decide) (by decide)).ext E10) (P9.1.ext E10) (Or.inl (hw _ (List.mem_of_getElem? (i := 19) rfl))) (hw _ (List.mem_of_getElem? (i := 1) rfl)) (ty := (.array .int)) (by decide) rfl rfl (g := (mkF m 41 #[.val (.ref a1)] [(.ref b10), (.ref a1)])) rfl rfl (hb hby d1_41)
  have N11 := Fr.snoc X11 N9 ga
  refine own_st st11 ?_
  show OwnG _ _ _ _ _ _ _ (T11.setTop (mkF m 44 #[.val (.ref a1)] []))
  have P11 := PL.step hw P9 (t := 4) (by decide) E10 V10 g10 W11 S9
  have S11 : n0 ≤ h11.size := by rw [W11.size]; exact Nat.le_trans S9 E10.1
  refine own_st (fun _ kq_ => XS.aloadN X11.here hx rfl (hb hby d1_44) rfl rfl kq_) ?_
  show OwnG _ _ _ _ _ _ _ (T11.setTop (mkF m 45 #[.val (.ref a1)] [(.ref a1)]))
  refine own_st (fun _ kq_ => XS.bipush X11.here hx rfl (hb hby d1_45) kq_) ?_
  show OwnG _ _ _ _ _ _ _ (T11.setTop (mkF m 47 #[.val (.ref a1)] [(.int (8 : Int32)), (.ref a1)]))
  obtain ⟨T12, h12, X12, e12, E12, V12, st12⟩ := own_new X11 hx hZ (hw _ (List.mem_of_getElem? (i := 20) rfl)) e11 (g := (mkF m 47 #[.val (.ref a1)] [(.int (8 : Int32)), (.ref a1)])) rfl (hb hby d1_47) rfl (8) (by decide) (cap := 8) (Nat.le_refl _) (by decide) (by decide) (by decide)
  obtain ⟨b12, g12⟩ : ∃ z, z = h11.size := ⟨_, rfl⟩
  rw [← g12] at V12 st12
  refine own_st st12 ?_
  show OwnG _ _ _ _ _ _ _ (T12.setTop (mkF m 49 #[.val (.ref a1)] [(.ref b12), (.ref a1)]))
  obtain ⟨T13, h13, X13, e13, W13, st13⟩ := putF X12 hx hZ hown (host := "") (Or.inl (hw _ (List.mem_of_getElem? (i := 21) rfl))) Via.refl e12 ((P11.2.2.1 5 (by decide) (by decide)).ext E12) (P11.1.ext E12) (Or.inl (hw _ (List.mem_of_getElem? (i := 22) rfl))) (hw _ (List.mem_of_getElem? (i := 1) rfl)) (ty := (.array .boolean)) (by decide) rfl rfl (g := (mkF m 49 #[.val (.ref a1)] [(.ref b12), (.ref a1)])) rfl rfl (hb hby d1_49)
  have N13 := Fr.snoc X13 N11 ga
  refine own_st st13 ?_
  show OwnG _ _ _ _ _ _ _ (T13.setTop (mkF m 52 #[.val (.ref a1)] []))
  have P13 := PL.step hw P11 (t := 5) (by decide) E12 V12 g12 W13 S11
  have S13 : n0 ≤ h13.size := by rw [W13.size]; exact Nat.le_trans S11 E12.1
  refine own_st (fun _ kq_ => XS.aloadN X13.here hx rfl (hb hby d1_52) rfl rfl kq_) ?_
  show OwnG _ _ _ _ _ _ _ (T13.setTop (mkF m 53 #[.val (.ref a1)] [(.ref a1)]))
  refine own_st (fun _ kq_ => XS.iconst X13.here hx rfl (hb hby d1_53) kq_) ?_
  show OwnG _ _ _ _ _ _ _ (T13.setTop (mkF m 54 #[.val (.ref a1)] [(.int (4 : Int32)), (.ref a1)]))
  obtain ⟨T14, h14, X14, e14, E14, V14, st14⟩ := own_new X13 hx hZ (hw _ (List.mem_of_getElem? (i := 9) rfl)) e13 (g := (mkF m 54 #[.val (.ref a1)] [(.int (4 : Int32)), (.ref a1)])) rfl (hb hby d1_54) rfl (4) (by decide) (cap := 4) (Nat.le_refl _) (by decide) (by decide) (by decide)
  obtain ⟨b14, g14⟩ : ∃ z, z = h13.size := ⟨_, rfl⟩
  rw [← g14] at V14 st14
  refine own_st st14 ?_
  show OwnG _ _ _ _ _ _ _ (T14.setTop (mkF m 56 #[.val (.ref a1)] [(.ref b14), (.ref a1)]))
  obtain ⟨T15, h15, X15, e15, W15, st15⟩ := putF X14 hx hZ hown (host := "") (Or.inl (hw _ (List.mem_of_getElem? (i := 23) rfl))) Via.refl e14 ((P13.2.2.1 6 (by decide) (by decide)).ext E14) (P13.1.ext E14) (Or.inl (hw _ (List.mem_of_getElem? (i := 24) rfl))) (hw _ (List.mem_of_getElem? (i := 1) rfl)) (ty := (.array .int)) (by decide) rfl rfl (g := (mkF m 56 #[.val (.ref a1)] [(.ref b14), (.ref a1)])) rfl rfl (hb hby d1_56)
  have N15 := Fr.snoc X15 N13 ga
  refine own_st st15 ?_
  show OwnG _ _ _ _ _ _ _ (T15.setTop (mkF m 59 #[.val (.ref a1)] []))
  have P15 := PL.step hw P13 (t := 6) (by decide) E14 V14 g14 W15 S13
  have S15 : n0 ≤ h15.size := by rw [W15.size]; exact Nat.le_trans S13 E14.1
  refine own_st (fun _ kq_ => XS.aloadN X15.here hx rfl (hb hby d1_59) rfl rfl kq_) ?_
  show OwnG _ _ _ _ _ _ _ (T15.setTop (mkF m 60 #[.val (.ref a1)] [(.ref a1)]))
  refine own_st (fun _ kq_ => XS.iconst X15.here hx rfl (hb hby d1_60) kq_) ?_
  show OwnG _ _ _ _ _ _ _ (T15.setTop (mkF m 61 #[.val (.ref a1)] [(.int (4 : Int32)), (.ref a1)]))
  obtain ⟨T16, h16, X16, e16, E16, V16, st16⟩ := own_new X15 hx hZ (hw _ (List.mem_of_getElem? (i := 9) rfl)) e15 (g := (mkF m 61 #[.val (.ref a1)] [(.int (4 : Int32)), (.ref a1)])) rfl (hb hby d1_61) rfl (4) (by decide) (cap := 4) (Nat.le_refl _) (by decide) (by decide) (by decide)
  obtain ⟨b16, g16⟩ : ∃ z, z = h15.size := ⟨_, rfl⟩
  rw [← g16] at V16 st16
  refine own_st st16 ?_
  show OwnG _ _ _ _ _ _ _ (T16.setTop (mkF m 63 #[.val (.ref a1)] [(.ref b16), (.ref a1)]))
  obtain ⟨T17, h17, X17, e17, W17, st17⟩ := putF X16 hx hZ hown (host := "") (Or.inl (hw _ (List.mem_of_getElem? (i := 25) rfl))) Via.refl e16 ((P15.2.2.1 7 (by decide) (by decide)).ext E16) (P15.1.ext E16) (Or.inl (hw _ (List.mem_of_getElem? (i := 26) rfl))) (hw _ (List.mem_of_getElem? (i := 1) rfl)) (ty := (.array .int)) (by decide) rfl rfl (g := (mkF m 63 #[.val (.ref a1)] [(.ref b16), (.ref a1)])) rfl rfl (hb hby d1_63)
  have N17 := Fr.snoc X17 N15 ga
  refine own_st st17 ?_
  show OwnG _ _ _ _ _ _ _ (T17.setTop (mkF m 66 #[.val (.ref a1)] []))
  have P17 := PL.step hw P15 (t := 7) (by decide) E16 V16 g16 W17 S15
  have S17 : n0 ≤ h17.size := by rw [W17.size]; exact Nat.le_trans S15 E16.1
  refine own_st (fun _ kq_ => XS.aloadN X17.here hx rfl (hb hby d1_66) rfl rfl kq_) ?_
  show OwnG _ _ _ _ _ _ _ (T17.setTop (mkF m 67 #[.val (.ref a1)] [(.ref a1)]))
  refine own_st (fun _ kq_ => XS.iconst X17.here hx rfl (hb hby d1_67) kq_) ?_
  show OwnG _ _ _ _ _ _ _ (T17.setTop (mkF m 68 #[.val (.ref a1)] [(.int (4 : Int32)), (.ref a1)]))
  obtain ⟨T18, h18, X18, e18, E18, V18, st18⟩ := own_new X17 hx hZ (hw _ (List.mem_of_getElem? (i := 9) rfl)) e17 (g := (mkF m 68 #[.val (.ref a1)] [(.int (4 : Int32)), (.ref a1)])) rfl (hb hby d1_68) rfl (4) (by decide) (cap := 4) (Nat.le_refl _) (by decide) (by decide) (by decide)
  obtain ⟨b18, g18⟩ : ∃ z, z = h17.size := ⟨_, rfl⟩
  rw [← g18] at V18 st18
  refine own_st st18 ?_
  show OwnG _ _ _ _ _ _ _ (T18.setTop (mkF m 70 #[.val (.ref a1)] [(.ref b18), (.ref a1)]))
  obtain ⟨T19, h19, X19, e19, W19, st19⟩ := putF X18 hx hZ hown (host := "") (Or.inl (hw _ (List.mem_of_getElem? (i := 27) rfl))) Via.refl e18 ((P17.2.2.1 8 (by decide) (by decide)).ext E18) (P17.1.ext E18) (Or.inl (hw _ (List.mem_of_getElem? (i := 28) rfl))) (hw _ (List.mem_of_getElem? (i := 1) rfl)) (ty := (.array .int)) (by decide) rfl rfl (g := (mkF m 70 #[.val (.ref a1)] [(.ref b18), (.ref a1)])) rfl rfl (hb hby d1_70)
  have N19 := Fr.snoc X19 N17 ga
  refine own_st st19 ?_
  show OwnG _ _ _ _ _ _ _ (T19.setTop (mkF m 73 #[.val (.ref a1)] []))
  have P19 := PL.step hw P17 (t := 8) (by decide) E18 V18 g18 W19 S17
  have S19 : n0 ≤ h19.size := by rw [W19.size]; exact Nat.le_trans S17 E18.1
  refine own_st (fun _ kq_ => XS.aloadN X19.here hx rfl (hb hby d1_73) rfl rfl kq_) ?_
  show OwnG _ _ _ _ _ _ _ (T19.setTop (mkF m 74 #[.val (.ref a1)] [(.ref a1)]))
  refine own_st (fun _ kq_ => XS.iconst X19.here hx rfl (hb hby d1_74) kq_) ?_
  show OwnG _ _ _ _ _ _ _ (T19.setTop (mkF m 75 #[.val (.ref a1)] [(.int (4 : Int32)), (.ref a1)]))
  obtain ⟨T20, h20, X20, e20, E20, V20, st20⟩ := own_new X19 hx hZ (hw _ (List.mem_of_getElem? (i := 9) rfl)) e19 (g := (mkF m 75 #[.val (.ref a1)] [(.int (4 : Int32)), (.ref a1)])) rfl (hb hby d1_75) rfl (4) (by decide) (cap := 4) (Nat.le_refl _) (by decide) (by decide) (by decide)
  obtain ⟨b20, g20⟩ : ∃ z, z = h19.size := ⟨_, rfl⟩
  rw [← g20] at V20 st20
  refine own_st st20 ?_
  show OwnG _ _ _ _ _ _ _ (T20.setTop (mkF m 77 #[.val (.ref a1)] [(.ref b20), (.ref a1)]))
  obtain ⟨T21, h21, X21, e21, W21, st21⟩ := putF X20 hx hZ hown (host := "") (Or.inl (hw _ (List.mem_of_getElem? (i := 29) rfl))) Via.refl e20 ((P19.2.2.1 9 (by decide) (by decide)).ext E20) (P19.1.ext E20) (Or.inl (hw _ (List.mem_of_getElem? (i := 30) rfl))) (hw _ (List.mem_of_getElem? (i := 1) rfl)) (ty := (.array .int)) (by decide) rfl rfl (g := (mkF m 77 #[.val (.ref a1)] [(.ref b20), (.ref a1)])) rfl rfl (hb hby d1_77)
  have N21 := Fr.snoc X21 N19 ga
  refine own_st st21 ?_
  show OwnG _ _ _ _ _ _ _ (T21.setTop (mkF m 80 #[.val (.ref a1)] []))
  have P21 := PL.step hw P19 (t := 9) (by decide) E20 V20 g20 W21 S19
  have S21 : n0 ≤ h21.size := by rw [W21.size]; exact Nat.le_trans S19 E20.1
  refine own_st (fun _ kq_ => XS.aloadN X21.here hx rfl (hb hby d1_80) rfl rfl kq_) ?_
  show OwnG _ _ _ _ _ _ _ (T21.setTop (mkF m 81 #[.val (.ref a1)] [(.ref a1)]))
  refine own_st (fun _ kq_ => XS.iconst X21.here hx rfl (hb hby d1_81) kq_) ?_
  show OwnG _ _ _ _ _ _ _ (T21.setTop (mkF m 82 #[.val (.ref a1)] [(.int (4 : Int32)), (.ref a1)]))
  obtain ⟨T22, h22, X22, e22, E22, V22, st22⟩ := own_new X21 hx hZ (hw _ (List.mem_of_getElem? (i := 9) rfl)) e21 (g := (mkF m 82 #[.val (.ref a1)] [(.int (4 : Int32)), (.ref a1)])) rfl (hb hby d1_82) rfl (4) (by decide) (cap := 4) (Nat.le_refl _) (by decide) (by decide) (by decide)
  obtain ⟨b22, g22⟩ : ∃ z, z = h21.size := ⟨_, rfl⟩
  rw [← g22] at V22 st22
  refine own_st st22 ?_
  show OwnG _ _ _ _ _ _ _ (T22.setTop (mkF m 84 #[.val (.ref a1)] [(.ref b22), (.ref a1)]))
  obtain ⟨T23, h23, X23, e23, W23, st23⟩ := putF X22 hx hZ hown (host := "") (Or.inl (hw _ (List.mem_of_getElem? (i := 31) rfl))) Via.refl e22 ((P21.2.2.1 10 (by decide) (by decide)).ext E22) (P21.1.ext E22) (Or.inl (hw _ (List.mem_of_getElem? (i := 32) rfl))) (hw _ (List.mem_of_getElem? (i := 1) rfl)) (ty := (.array .int)) (by decide) rfl rfl (g := (mkF m 84 #[.val (.ref a1)] [(.ref b22), (.ref a1)])) rfl rfl (hb hby d1_84)
  have N23 := Fr.snoc X23 N21 ga
  refine own_st st23 ?_
  show OwnG _ _ _ _ _ _ _ (T23.setTop (mkF m 87 #[.val (.ref a1)] []))
  have P23 := PL.step hw P21 (t := 10) (by decide) E22 V22 g22 W23 S21
  have S23 : n0 ≤ h23.size := by rw [W23.size]; exact Nat.le_trans S21 E22.1
  refine own_st (fun _ kq_ => XS.aloadN X23.here hx rfl (hb hby d1_87) rfl rfl kq_) ?_
  show OwnG _ _ _ _ _ _ _ (T23.setTop (mkF m 88 #[.val (.ref a1)] [(.ref a1)]))
  refine own_st (fun _ kq_ => XS.iconst X23.here hx rfl (hb hby d1_88) kq_) ?_
  show OwnG _ _ _ _ _ _ _ (T23.setTop (mkF m 89 #[.val (.ref a1)] [(.int (4 : Int32)), (.ref a1)]))
  obtain ⟨T24, h24, X24, e24, E24, V24, st24⟩ := own_new X23 hx hZ (hw _ (List.mem_of_getElem? (i := 9) rfl)) e23 (g := (mkF m 89 #[.val (.ref a1)] [(.int (4 : Int32)), (.ref a1)])) rfl (hb hby d1_89) rfl (4) (by decide) (cap := 4) (Nat.le_refl _) (by decide) (by decide) (by decide)
  obtain ⟨b24, g24⟩ : ∃ z, z = h23.size := ⟨_, rfl⟩
  rw [← g24] at V24 st24
  refine own_st st24 ?_
  show OwnG _ _ _ _ _ _ _ (T24.setTop (mkF m 91 #[.val (.ref a1)] [(.ref b24), (.ref a1)]))
  obtain ⟨T25, h25, X25, e25, W25, st25⟩ := putF X24 hx hZ hown (host := "") (Or.inl (hw _ (List.mem_of_getElem? (i := 33) rfl))) Via.refl e24 ((P23.2.2.1 11 (by decide) (by decide)).ext E24) (P23.1.ext E24) (Or.inl (hw _ (List.mem_of_getElem? (i := 34) rfl))) (hw _ (List.mem_of_getElem? (i := 1) rfl)) (ty := (.array .int)) (by decide) rfl rfl (g := (mkF m 91 #[.val (.ref a1)] [(.ref b24), (.ref a1)])) rfl rfl (hb hby d1_91)
  have N25 := Fr.snoc X25 N23 ga
  refine own_st st25 ?_
  show OwnG _ _ _ _ _ _ _ (T25.setTop (mkF m 94 #[.val (.ref a1)] []))
  have P25 := PL.step hw P23 (t := 11) (by decide) E24 V24 g24 W25 S23
  have S25 : n0 ≤ h25.size := by rw [W25.size]; exact Nat.le_trans S23 E24.1
  exact own_retV X25 hx hrt hlk (hb hby d1_94) (by decide) (by decide) (by show _ ∧ _; first | (rw [e25]; exact ⟨rfl, N25, S25, _, PL.done P25⟩) | exact ⟨rfl, N25, S25, _, PL.done P25⟩)
theorem d3_0 : decode prog_220_method_3_code 0 = .ok (.iload_n 1, 1) := by decide +kernel
theorem d3_1 : decode prog_220_method_3_code 1 = .ok (.aload_n 0, 1) := by decide +kernel
theorem d3_2 : decode prog_220_method_3_code 2 = .ok (.getfield 29, 3) := by decide +kernel
theorem d3_5 : decode prog_220_method_3_code 5 = .ok (.arraylength, 1) := by decide +kernel
theorem d3_6 : decode prog_220_method_3_code 6 = .ok (.if_icmp .ne 7, 3) := by decide +kernel
theorem d3_9 : decode prog_220_method_3_code 9 = .ok (.aload_n 0, 1) := by decide +kernel
theorem d3_10 : decode prog_220_method_3_code 10 = .ok (.invokevirtual 55, 3) := by decide +kernel
theorem d3_13 : decode prog_220_method_3_code 13 = .ok (.aload_n 0, 1) := by decide +kernel
theorem d3_14 : decode prog_220_method_3_code 14 = .ok (.getfield 29, 3) := by decide +kernel
theorem d3_17 : decode prog_220_method_3_code 17 = .ok (.iload_n 1, 1) := by decide +kernel
theorem d3_18 : decode prog_220_method_3_code 18 = .ok (.iconst (-1), 1) := by decide +kernel
theorem d3_19 : decode prog_220_method_3_code 19 = .ok (.iastore, 1) := by decide +kernel
theorem d3_20 : decode prog_220_method_3_code 20 = .ok (.aload_n 0, 1) := by decide +kernel
theorem d3_21 : decode prog_220_method_3_code 21 = .ok (.getfield 32, 3) := by decide +kernel
theorem d3_24 : decode prog_220_method_3_code 24 = .ok (.iload_n 1, 1) := by decide +kernel
theorem d3_25 : decode prog_220_method_3_code 25 = .ok (.iconst (-1), 1) := by decide +kernel
theorem d3_26 : decode prog_220_method_3_code 26 = .ok (.iastore, 1) := by decide +kernel
theorem d3_27 : decode prog_220_method_3_code 27 = .ok (.aload_n 0, 1) := by decide +kernel
theorem d3_28 : decode prog_220_method_3_code 28 = .ok (.getfield 35, 3) := by decide +kernel
theorem d3_31 : decode prog_220_method_3_code 31 = .ok (.iload_n 1, 1) := by decide +kernel
theorem d3_32 : decode prog_220_method_3_code 32 = .ok (.iconst (-1), 1) := by decide +kernel
theorem d3_33 : decode prog_220_method_3_code 33 = .ok (.iastore, 1) := by decide +kernel
theorem d3_34 : decode prog_220_method_3_code 34 = .ok (.aload_n 0, 1) := by decide +kernel
theorem d3_35 : decode prog_220_method_3_code 35 = .ok (.getfield 38, 3) := by decide +kernel
theorem d3_38 : decode prog_220_method_3_code 38 = .ok (.iload_n 1, 1) := by decide +kernel
theorem d3_39 : decode prog_220_method_3_code 39 = .ok (.iconst (-1), 1) := by decide +kernel
theorem d3_40 : decode prog_220_method_3_code 40 = .ok (.iastore, 1) := by decide +kernel
theorem d3_41 : decode prog_220_method_3_code 41 = .ok (.aload_n 0, 1) := by decide +kernel
theorem d3_42 : decode prog_220_method_3_code 42 = .ok (.getfield 41, 3) := by decide +kernel
theorem d3_45 : decode prog_220_method_3_code 45 = .ok (.iload_n 1, 1) := by decide +kernel
theorem d3_46 : decode prog_220_method_3_code 46 = .ok (.iconst (-1), 1) := by decide +kernel
theorem d3_47 : decode prog_220_method_3_code 47 = .ok (.iastore, 1) := by decide +kernel
theorem d3_48 : decode prog_220_method_3_code 48 = .ok (.aload_n 0, 1) := by decide +kernel
theorem d3_49 : decode prog_220_method_3_code 49 = .ok (.getfield 44, 3) := by decide +kernel
theorem d3_52 : decode prog_220_method_3_code 52 = .ok (.iload_n 1, 1) := by decide +kernel
theorem d3_53 : decode prog_220_method_3_code 53 = .ok (.iconst (-1), 1) := by decide +kernel
theorem d3_54 : decode prog_220_method_3_code 54 = .ok (.iastore, 1) := by decide +kernel
theorem d3_55 : decode prog_220_method_3_code 55 = .ok (.return_, 1) := by decide +kernel
theorem pn_3 : plainFor (⟨"com/example/triptych/triptych/reasoning/Links", "addObject", "(I)V"⟩ : MethodName) = true := by first | exact plainFor_of_name (by first | (simp [plainName, overriddenIn]; done) | decide +kernel) | decide +kernel
theorem ef_3 (m : MethodId) (x0 : Addr) (x1 : Int32) : entryFrame m #[(.ref x0), (.int x1)] 2 = mkF m 0 #[.val (.ref x0), .val (.int x1)] [] := by first | (simp [entryFrame, mkF, argsToLocals, Value.category]; done) | rfl
def Q3 (Z : State) (a1 : Addr) (A : Nat → Addr) (F : Nat → Nat → Int32) (cz : Nat) (ft : Int32) (kI : Int32) (kz : Nat) (h0 : Heap) (n0 : Nat) (v : Option Value) (h : Heap) (L : List Loc) : Prop := v = none ∧ Fr n0 L ∧ n0 ≤ h.size ∧ LK n0 Z h a1 A (own_ao F kz) cz ft
set_option maxRecDepth 65536 in
set_option maxHeartbeats 40000000 in
theorem rm3 (l : Launch) (Z : State) (a0 : Array Value) (hw : ∀ d ∈ tables_1, d.before a0 Z = true) (ws : List Jvm.Cond) (a1 : Addr) (A : Nat → Addr) (F : Nat → Nat → Int32) (cz : Nat) (ft : Int32) (kI : Int32) (kz : Nat) (h0 : Heap) (n0 : Nat) (Z0 : n0 ≤ h0.size) (hk : kI.toInt = (kz : Int)) (hk3 : kz < 3) (I0 : LK n0 Z h0 a1 A F cz ft) :
    MetFree l (⟨"com/example/triptych/triptych/reasoning/Links", "addObject", "(I)V"⟩ : MethodName) (head1 (Jvm.Cond.code (⟨"com/example/triptych/triptych/reasoning/Links", "addObject", "(I)V"⟩ : MethodName) prog_220_method_3_code 2 none :: ws) ({ frames := 0, cells := 0, slots := 0, locals := 0 } : Room)) (fun a U => a = #[(.ref a1), (.int kI)] ∧ Z.Warmed39 U.vm ∧ U.heap = h0) (fun _ _ _ _ _ => True) (fun _ U o U' => ∃ v L, o = .returned v ∧ Q3 Z a1 A F cz ft kI kz h0 n0 v U'.heap L ∧ FrameEnd U o U' L ({ frames := 0, cells := 0, slots := 0, locals := 0 } : Room).cells ({ frames := 0, cells := 0, slots := 0, locals := 0 } : Room).slots) := by
  refine MetFree.of_bodySF pn_3 hisR ?_
  intro p e s m args below meth c s₁ Bd hml0 hP hK
  obtain ⟨rfl, hZ, hh⟩ := hP
  have hx := Bd.exec
  have hby := Bd.bytes
  have hml : c.maxLocals = 2 := hml0
  have hown : s.vm.findClass "com/example/triptych/triptych/reasoning/Links" = some m.cls := findClass_of_methodNamed Bd.named
  have hnm := (name_of_methodNamed Bd.named Bd.method).1
  have hrt := Bd.returns
  have hlk : meth.locks = false := BodyLoose.notSynchronized Bd
  have X0 : Stand p l e ({ frames := 0, cells := 0, slots := 0, locals := 0 } : Room) s m #[(.ref a1), (.int kI)] below meth c s₁ [] 0 0 := Stand.of_body Bd
  have e0 : s₁.heap = h0 := by rw [← hh, Bd.state]; rfl
  have N0 := Fr.nil n0
  show OwnG ({ frames := 0, cells := 0, slots := 0, locals := 0 } : Room).cells ({ frames := 0, cells := 0, slots := 0, locals := 0 } : Room).slots (Q3 Z a1 A F cz ft kI kz h0 n0) p e below s (s₁.setTop (entryFrame m #[(.ref a1), (.int kI)] 2))
  refine own_st (σ' := s₁.setTop (mkF m 0 #[.val (.ref a1), .val (.int kI)] [])) (fun _ kq_ => castTop (ef_3 m a1 kI) kq_) ?_
  show OwnG _ _ _ _ _ _ _ (s₁.setTop (mkF m 0 #[.val (.ref a1), .val (.int kI)] []))
  refine own_st (fun _ kq_ => XS.iloadN X0.here hx rfl (hb hby d3_0) rfl kq_) ?_
  show OwnG _ _ _ _ _ _ _ (s₁.setTop (mkF m 1 #[.val (.ref a1), .val (.int kI)] [(.int kI)]))
  refine own_st (fun _ kq_ => XS.aloadN X0.here hx rfl (hb hby d3_1) rfl rfl kq_) ?_
  show OwnG _ _ _ _ _ _ _ (s₁.setTop (mkF m 2 #[.val (.ref a1), .val (.int kI)] [(.ref a1), (.int kI)]))
  obtain ⟨T26, X26, e26, st26⟩ := getF X0 hx hZ hown (host := "") (Or.inl (hw _ (List.mem_of_getElem? (i := 23) rfl))) Via.refl e0 (I0.2.1 6 (by decide)) (g := (mkF m 2 #[.val (.ref a1), .val (.int kI)] [(.ref a1), (.int kI)])) rfl rfl (hb hby d3_2)
  refine own_st st26 ?_
  show OwnG _ _ _ _ _ _ _ (T26.setTop (mkF m 5 #[.val (.ref a1), .val (.int kI)] [(.ref (A 6)), (.int kI)]))
  refine own_st (own_len X26 hx hZ e26 (I0.2.2.1 6 (by decide)) (z := (4 : Int32)) rfl (g := (mkF m 5 #[.val (.ref a1), .val (.int kI)] [(.ref (A 6)), (.int kI)])) rfl rfl (hb hby d3_5)) ?_
  show OwnG _ _ _ _ _ _ _ (T26.setTop (mkF m 6 #[.val (.ref a1), .val (.int kI)] [(.int (4 : Int32)), (.int kI)]))
  refine own_st (fun _ kq_ => XS.icmpYes X26.here hx rfl (pc0 := 6) (pc' := 13) rfl (hb hby d3_6) rfl (feq (fun q => by rw [q] at hk; have : (4 : Int32).toInt = 4 := rfl; omega)).2 (by decide) (by decide) kq_) ?_
  show OwnG _ _ _ _ _ _ _ (T26.setTop (mkF m 13 #[.val (.ref a1), .val (.int kI)] []))
  refine own_st (fun _ kq_ => XS.aloadN X26.here hx rfl (hb hby d3_13) rfl rfl kq_) ?_
  show OwnG _ _ _ _ _ _ _ (T26.setTop (mkF m 14 #[.val (.ref a1), .val (.int kI)] [(.ref a1)]))
  obtain ⟨T27, X27, e27, st27⟩ := getF X26 hx hZ hown (host := "") (Or.inl (hw _ (List.mem_of_getElem? (i := 23) rfl))) Via.refl e26 (I0.2.1 6 (by decide)) (g := (mkF m 14 #[.val (.ref a1), .val (.int kI)] [(.ref a1)])) rfl rfl (hb hby d3_14)
  refine own_st st27 ?_
  show OwnG _ _ _ _ _ _ _ (T27.setTop (mkF m 17 #[.val (.ref a1), .val (.int kI)] [(.ref (A 6))]))
  refine own_st (fun _ kq_ => XS.iloadN X27.here hx rfl (hb hby d3_17) rfl kq_) ?_
  show OwnG _ _ _ _ _ _ _ (T27.setTop (mkF m 18 #[.val (.ref a1), .val (.int kI)] [(.int kI), (.ref (A 6))]))
  refine own_st (fun _ kq_ => XS.iconst X27.here hx rfl (hb hby d3_18) kq_) ?_
  show OwnG _ _ _ _ _ _ _ (T27.setTop (mkF m 19 #[.val (.ref a1), .val (.int kI)] [(.int (-1 : Int32)), (.int kI), (.ref (A 6))]))
  obtain ⟨T28, h28, X28, e28, W28, V28, st28⟩ := own_sI X27 hx hZ e27 (I0.2.2.1 6 (by decide)) (kz) hk (by show kz < 4; omega) (g := (mkF m 19 #[.val (.ref a1), .val (.int kI)] [(.int (-1 : Int32)), (.int kI), (.ref (A 6))])) rfl rfl (hb hby d3_19)
  have N28 := Fr.snoc X28 N0 (I0.2.2.2.2.2.2.2 6 (by decide))
  refine own_st st28 ?_
  show OwnG _ _ _ _ _ _ _ (T28.setTop (mkF m 20 #[.val (.ref a1), .val (.int kI)] []))
  have I28 : LK n0 Z h28 a1 A (own_u2 F 6 kz (-1)) cz ft := I0.sto 6 kz (-1) (by decide) (by show kz < 4; omega) rfl W28
  have S28 : n0 ≤ h28.size := by rw [W28.size]; exact Z0
  refine own_st (fun _ kq_ => XS.aloadN X28.here hx rfl (hb hby d3_20) rfl rfl kq_) ?_
  show OwnG _ _ _ _ _ _ _ (T28.setTop (mkF m 21 #[.val (.ref a1), .val (.int kI)] [(.ref a1)]))
  obtain ⟨T29, X29, e29, st29⟩ := getF X28 hx hZ hown (host := "") (Or.inl (hw _ (List.mem_of_getElem? (i := 25) rfl))) Via.refl e28 (I28.2.1 7 (by decide)) (g := (mkF m 21 #[.val (.ref a1), .val (.int kI)] [(.ref a1)])) rfl rfl (hb hby d3_21)
  refine own_st st29 ?_
  show OwnG _ _ _ _ _ _ _ (T29.setTop (mkF m 24 #[.val (.ref a1), .val (.int kI)] [(.ref (A 7))]))
  refine own_st (fun _ kq_ => XS.iloadN X29.here hx rfl (hb hby d3_24) rfl kq_) ?_
  show OwnG _ _ _ _ _ _ _ (T29.setTop (mkF m 25 #[.val (.ref a1), .val (.int kI)] [(.int kI), (.ref (A 7))]))
  refine own_st (fun _ kq_ => XS.iconst X29.here hx rfl (hb hby d3_25) kq_) ?_
  show OwnG _ _ _ _ _ _ _ (T29.setTop (mkF m 26 #[.val (.ref a1), .val (.int kI)] [(.int (-1 : Int32)), (.int kI), (.ref (A 7))]))
  obtain ⟨T30, h30, X30, e30, W30, V30, st30⟩ := own_sI X29 hx hZ e29 (I28.2.2.1 7 (by decide)) (kz) hk (by show kz < 4; omega) (g := (mkF m 26 #[.val (.ref a1), .val (.int kI)] [(.int (-1 : Int32)), (.int kI), (.ref (A 7))])) rfl rfl (hb hby d3_26)
  have N30 := Fr.snoc X30 N28 (I28.2.2.2.2.2.2.2 7 (by decide))
  refine own_st st30 ?_
  show OwnG _ _ _ _ _ _ _ (T30.setTop (mkF m 27 #[.val (.ref a1), .val (.int kI)] []))
  have I30 : LK n0 Z h30 a1 A (own_u2 (own_u2 F 6 kz (-1)) 7 kz (-1)) cz ft := I28.sto 7 kz (-1) (by decide) (by show kz < 4; omega) rfl W30
  have S30 : n0 ≤ h30.size := by rw [W30.size]; exact S28
  refine own_st (fun _ kq_ => XS.aloadN X30.here hx rfl (hb hby d3_27) rfl rfl kq_) ?_
  show OwnG _ _ _ _ _ _ _ (T30.setTop (mkF m 28 #[.val (.ref a1), .val (.int kI)] [(.ref a1)]))
  obtain ⟨T31, X31, e31, st31⟩ := getF X30 hx hZ hown (host := "") (Or.inl (hw _ (List.mem_of_getElem? (i := 27) rfl))) Via.refl e30 (I30.2.1 8 (by decide)) (g := (mkF m 28 #[.val (.ref a1), .val (.int kI)] [(.ref a1)])) rfl rfl (hb hby d3_28)
  refine own_st st31 ?_
  show OwnG _ _ _ _ _ _ _ (T31.setTop (mkF m 31 #[.val (.ref a1), .val (.int kI)] [(.ref (A 8))]))
  refine own_st (fun _ kq_ => XS.iloadN X31.here hx rfl (hb hby d3_31) rfl kq_) ?_
  show OwnG _ _ _ _ _ _ _ (T31.setTop (mkF m 32 #[.val (.ref a1), .val (.int kI)] [(.int kI), (.ref (A 8))]))
  refine own_st (fun _ kq_ => XS.iconst X31.here hx rfl (hb hby d3_32) kq_) ?_
  show OwnG _ _ _ _ _ _ _ (T31.setTop (mkF m 33 #[.val (.ref a1), .val (.int kI)] [(.int (-1 : Int32)), (.int kI), (.ref (A 8))]))
  obtain ⟨T32, h32, X32, e32, W32, V32, st32⟩ := own_sI X31 hx hZ e31 (I30.2.2.1 8 (by decide)) (kz) hk (by show kz < 4; omega) (g := (mkF m 33 #[.val (.ref a1), .val (.int kI)] [(.int (-1 : Int32)), (.int kI), (.ref (A 8))])) rfl rfl (hb hby d3_33)
  have N32 := Fr.snoc X32 N30 (I30.2.2.2.2.2.2.2 8 (by decide))
  refine own_st st32 ?_
  show OwnG _ _ _ _ _ _ _ (T32.setTop (mkF m 34 #[.val (.ref a1), .val (.int kI)] []))
  have I32 : LK n0 Z h32 a1 A (own_u2 (own_u2 (own_u2 F 6 kz (-1)) 7 kz (-1)) 8 kz (-1)) cz ft := I30.sto 8 kz (-1) (by decide) (by show kz < 4; omega) rfl W32
  have S32 : n0 ≤ h32.size := by rw [W32.size]; exact S30
  refine own_st (fun _ kq_ => XS.aloadN X32.here hx rfl (hb hby d3_34) rfl rfl kq_) ?_
  show OwnG _ _ _ _ _ _ _ (T32.setTop (mkF m 35 #[.val (.ref a1), .val (.int kI)] [(.ref a1)]))
  obtain ⟨T33, X33, e33, st33⟩ := getF X32 hx hZ hown (host := "") (Or.inl (hw _ (List.mem_of_getElem? (i := 29) rfl))) Via.refl e32 (I32.2.1 9 (by decide)) (g := (mkF m 35 #[.val (.ref a1), .val (.int kI)] [(.ref a1)])) rfl rfl (hb hby d3_35)
  refine own_st st33 ?_
  show OwnG _ _ _ _ _ _ _ (T33.setTop (mkF m 38 #[.val (.ref a1), .val (.int kI)] [(.ref (A 9))]))
  refine own_st (fun _ kq_ => XS.iloadN X33.here hx rfl (hb hby d3_38) rfl kq_) ?_
  show OwnG _ _ _ _ _ _ _ (T33.setTop (mkF m 39 #[.val (.ref a1), .val (.int kI)] [(.int kI), (.ref (A 9))]))
  refine own_st (fun _ kq_ => XS.iconst X33.here hx rfl (hb hby d3_39) kq_) ?_
  show OwnG _ _ _ _ _ _ _ (T33.setTop (mkF m 40 #[.val (.ref a1), .val (.int kI)] [(.int (-1 : Int32)), (.int kI), (.ref (A 9))]))
  obtain ⟨T34, h34, X34, e34, W34, V34, st34⟩ := own_sI X33 hx hZ e33 (I32.2.2.1 9 (by decide)) (kz) hk (by show kz < 4; omega) (g := (mkF m 40 #[.val (.ref a1), .val (.int kI)] [(.int (-1 : Int32)), (.int kI), (.ref (A 9))])) rfl rfl (hb hby d3_40)
  have N34 := Fr.snoc X34 N32 (I32.2.2.2.2.2.2.2 9 (by decide))
  refine own_st st34 ?_
  show OwnG _ _ _ _ _ _ _ (T34.setTop (mkF m 41 #[.val (.ref a1), .val (.int kI)] []))
  have I34 : LK n0 Z h34 a1 A (own_u2 (own_u2 (own_u2 (own_u2 F 6 kz (-1)) 7 kz (-1)) 8 kz (-1)) 9 kz (-1)) cz ft := I32.sto 9 kz (-1) (by decide) (by show kz < 4; omega) rfl W34
  have S34 : n0 ≤ h34.size := by rw [W34.size]; exact S32
  refine own_st (fun _ kq_ => XS.aloadN X34.here hx rfl (hb hby d3_41) rfl rfl kq_) ?_
  show OwnG _ _ _ _ _ _ _ (T34.setTop (mkF m 42 #[.val (.ref a1), .val (.int kI)] [(.ref a1)]))
  obtain ⟨T35, X35, e35, st35⟩ := getF X34 hx hZ hown (host := "") (Or.inl (hw _ (List.mem_of_getElem? (i := 31) rfl))) Via.refl e34 (I34.2.1 10 (by decide)) (g := (mkF m 42 #[.val (.ref a1), .val (.int kI)] [(.ref a1)])) rfl rfl (hb hby d3_42)
  refine own_st st35 ?_
  show OwnG _ _ _ _ _ _ _ (T35.setTop (mkF m 45 #[.val (.ref a1), .val (.int kI)] [(.ref (A 10))]))
  refine own_st (fun _ kq_ => XS.iloadN X35.here hx rfl (hb hby d3_45) rfl kq_) ?_
  show OwnG _ _ _ _ _ _ _ (T35.setTop (mkF m 46 #[.val (.ref a1), .val (.int kI)] [(.int kI), (.ref (A 10))]))
  refine own_st (fun _ kq_ => XS.iconst X35.here hx rfl (hb hby d3_46) kq_) ?_
  show OwnG _ _ _ _ _ _ _ (T35.setTop (mkF m 47 #[.val (.ref a1), .val (.int kI)] [(.int (-1 : Int32)), (.int kI), (.ref (A 10))]))
  obtain ⟨T36, h36, X36, e36, W36, V36, st36⟩ := own_sI X35 hx hZ e35 (I34.2.2.1 10 (by decide)) (kz) hk (by show kz < 4; omega) (g := (mkF m 47 #[.val (.ref a1), .val (.int kI)] [(.int (-1 : Int32)), (.int kI), (.ref (A 10))])) rfl rfl (hb hby d3_47)
  have N36 := Fr.snoc X36 N34 (I34.2.2.2.2.2.2.2 10 (by decide))
  refine own_st st36 ?_
  show OwnG _ _ _ _ _ _ _ (T36.setTop (mkF m 48 #[.val (.ref a1), .val (.int kI)] []))
  have I36 : LK n0 Z h36 a1 A (own_u2 (own_u2 (own_u2 (own_u2 (own_u2 F 6 kz (-1)) 7 kz (-1)) 8 kz (-1)) 9 kz (-1)) 10 kz (-1)) cz ft := I34.sto 10 kz (-1) (by decide) (by show kz < 4; omega) rfl W36
  have S36 : n0 ≤ h36.size := by rw [W36.size]; exact S34
  refine own_st (fun _ kq_ => XS.aloadN X36.here hx rfl (hb hby d3_48) rfl rfl kq_) ?_
  show OwnG _ _ _ _ _ _ _ (T36.setTop (mkF m 49 #[.val (.ref a1), .val (.int kI)] [(.ref a1)]))
  obtain ⟨T37, X37, e37, st37⟩ := getF X36 hx hZ hown (host := "") (Or.inl (hw _ (List.mem_of_getElem? (i := 33) rfl))) Via.refl e36 (I36.2.1 11 (by decide)) (g := (mkF m 49 #[.val (.ref a1), .val (.int kI)] [(.ref a1)])) rfl rfl (hb hby d3_49)
  refine own_st st37 ?_
  show OwnG _ _ _ _ _ _ _ (T37.setTop (mkF m 52 #[.val (.ref a1), .val (.int kI)] [(.ref (A 11))]))
  refine own_st (fun _ kq_ => XS.iloadN X37.here hx rfl (hb hby d3_52) rfl kq_) ?_
  show OwnG _ _ _ _ _ _ _ (T37.setTop (mkF m 53 #[.val (.ref a1), .val (.int kI)] [(.int kI), (.ref (A 11))]))
  refine own_st (fun _ kq_ => XS.iconst X37.here hx rfl (hb hby d3_53) kq_) ?_
  show OwnG _ _ _ _ _ _ _ (T37.setTop (mkF m 54 #[.val (.ref a1), .val (.int kI)] [(.int (-1 : Int32)), (.int kI), (.ref (A 11))]))
  obtain ⟨T38, h38, X38, e38, W38, V38, st38⟩ := own_sI X37 hx hZ e37 (I36.2.2.1 11 (by decide)) (kz) hk (by show kz < 4; omega) (g := (mkF m 54 #[.val (.ref a1), .val (.int kI)] [(.int (-1 : Int32)), (.int kI), (.ref (A 11))])) rfl rfl (hb hby d3_54)
  have N38 := Fr.snoc X38 N36 (I36.2.2.2.2.2.2.2 11 (by decide))
  refine own_st st38 ?_
  show OwnG _ _ _ _ _ _ _ (T38.setTop (mkF m 55 #[.val (.ref a1), .val (.int kI)] []))
  have I38 : LK n0 Z h38 a1 A (own_u2 (own_u2 (own_u2 (own_u2 (own_u2 (own_u2 F 6 kz (-1)) 7 kz (-1)) 8 kz (-1)) 9 kz (-1)) 10 kz (-1)) 11 kz (-1)) cz ft := I36.sto 11 kz (-1) (by decide) (by show kz < 4; omega) rfl W38
  have S38 : n0 ≤ h38.size := by rw [W38.size]; exact S36
  exact own_retV X38 hx hrt hlk (hb hby d3_55) (by decide) (by decide) (by show _ ∧ _; first | (rw [e38]; exact ⟨rfl, N38, S38, I38⟩) | exact ⟨rfl, N38, S38, I38⟩)
theorem d5_0 : decode prog_220_method_20_code 0 = .ok (.aload_n 0, 1) := by decide +kernel
theorem d5_1 : decode prog_220_method_20_code 1 = .ok (.getfield 47, 3) := by decide +kernel
theorem d5_4 : decode prog_220_method_20_code 4 = .ok (.aload_n 0, 1) := by decide +kernel
theorem d5_5 : decode prog_220_method_20_code 5 = .ok (.getfield 7, 3) := by decide +kernel
theorem d5_8 : decode prog_220_method_20_code 8 = .ok (.arraylength, 1) := by decide +kernel
theorem d5_9 : decode prog_220_method_20_code 9 = .ok (.if_icmp .ne 7, 3) := by decide +kernel
theorem d5_12 : decode prog_220_method_20_code 12 = .ok (.aload_n 0, 1) := by decide +kernel
theorem d5_13 : decode prog_220_method_20_code 13 = .ok (.invokevirtual 99, 3) := by decide +kernel
theorem d5_16 : decode prog_220_method_20_code 16 = .ok (.aload_n 0, 1) := by decide +kernel
theorem d5_17 : decode prog_220_method_20_code 17 = .ok (.getfield 7, 3) := by decide +kernel
theorem d5_20 : decode prog_220_method_20_code 20 = .ok (.aload_n 0, 1) := by decide +kernel
theorem d5_21 : decode prog_220_method_20_code 21 = .ok (.getfield 47, 3) := by decide +kernel
theorem d5_24 : decode prog_220_method_20_code 24 = .ok (.iload_n 1, 1) := by decide +kernel
theorem d5_25 : decode prog_220_method_20_code 25 = .ok (.iastore, 1) := by decide +kernel
theorem d5_26 : decode prog_220_method_20_code 26 = .ok (.aload_n 0, 1) := by decide +kernel
theorem d5_27 : decode prog_220_method_20_code 27 = .ok (.getfield 13, 3) := by decide +kernel
theorem d5_30 : decode prog_220_method_20_code 30 = .ok (.aload_n 0, 1) := by decide +kernel
theorem d5_31 : decode prog_220_method_20_code 31 = .ok (.getfield 47, 3) := by decide +kernel
theorem d5_34 : decode prog_220_method_20_code 34 = .ok (.iload_n 2, 1) := by decide +kernel
theorem d5_35 : decode prog_220_method_20_code 35 = .ok (.iastore, 1) := by decide +kernel
theorem d5_36 : decode prog_220_method_20_code 36 = .ok (.aload_n 0, 1) := by decide +kernel
theorem d5_37 : decode prog_220_method_20_code 37 = .ok (.getfield 16, 3) := by decide +kernel
theorem d5_40 : decode prog_220_method_20_code 40 = .ok (.aload_n 0, 1) := by decide +kernel
theorem d5_41 : decode prog_220_method_20_code 41 = .ok (.getfield 47, 3) := by decide +kernel
theorem d5_44 : decode prog_220_method_20_code 44 = .ok (.iload_n 3, 1) := by decide +kernel
theorem d5_45 : decode prog_220_method_20_code 45 = .ok (.iastore, 1) := by decide +kernel
theorem d5_46 : decode prog_220_method_20_code 46 = .ok (.aload_n 0, 1) := by decide +kernel
theorem d5_47 : decode prog_220_method_20_code 47 = .ok (.dup, 1) := by decide +kernel
theorem d5_48 : decode prog_220_method_20_code 48 = .ok (.getfield 47, 3) := by decide +kernel
theorem d5_51 : decode prog_220_method_20_code 51 = .ok (.dup_x1, 1) := by decide +kernel
theorem d5_52 : decode prog_220_method_20_code 52 = .ok (.iconst 1, 1) := by decide +kernel
theorem d5_53 : decode prog_220_method_20_code 53 = .ok (.iadd, 1) := by decide +kernel
theorem d5_54 : decode prog_220_method_20_code 54 = .ok (.putfield 47, 3) := by decide +kernel
theorem d5_57 : decode prog_220_method_20_code 57 = .ok (.ireturn, 1) := by decide +kernel
theorem pn_20 : plainFor (⟨"com/example/triptych/triptych/reasoning/Links", "newLink", "(III)I"⟩ : MethodName) = true := by first | exact plainFor_of_name (by first | (simp [plainName, overriddenIn]; done) | decide +kernel) | decide +kernel
theorem ef_20 (m : MethodId) (x0 : Addr) (x1 : Int32) (x2 : Int32) (x3 : Int32) : entryFrame m #[(.ref x0), (.int x1), (.int x2), (.int x3)] 4 = mkF m 0 #[.val (.ref x0), .val (.int x1), .val (.int x2), .val (.int x3)] [] := by first | (simp [entryFrame, mkF, argsToLocals, Value.category]; done) | rfl
def Q20 (Z : State) (a1 : Addr) (A : Nat → Addr) (F : Nat → Nat → Int32) (cz : Nat) (ft : Int32) (sI : Int32) (fI : Int32) (tI : Int32) (h0 : Heap) (n0 : Nat) (v : Option Value) (h : Heap) (L : List Loc) : Prop := v = some (.int (Int32.ofNat cz)) ∧ Fr n0 L ∧ n0 ≤ h.size ∧ LK n0 Z h a1 A (own_nl F cz sI fI tI) (cz + 1) ft
set_option maxRecDepth 65536 in
set_option maxHeartbeats 40000000 in
theorem rm20 (l : Launch) (Z : State) (a0 : Array Value) (hw : ∀ d ∈ tables_1, d.before a0 Z = true) (ws : List Jvm.Cond) (a1 : Addr) (A : Nat → Addr) (F : Nat → Nat → Int32) (cz : Nat) (ft : Int32) (sI : Int32) (fI : Int32) (tI : Int32) (h0 : Heap) (n0 : Nat) (Z0 : n0 ≤ h0.size) (hc : cz < 8) (I0 : LK n0 Z h0 a1 A F cz ft) (ga : n0 ≤ a1) :
    MetFree l (⟨"com/example/triptych/triptych/reasoning/Links", "newLink", "(III)I"⟩ : MethodName) (head1 (Jvm.Cond.code (⟨"com/example/triptych/triptych/reasoning/Links", "newLink", "(III)I"⟩ : MethodName) prog_220_method_20_code 4 (some .int) :: ws) ({ frames := 0, cells := 0, slots := 0, locals := 0 } : Room)) (fun a U => a = #[(.ref a1), (.int sI), (.int fI), (.int tI)] ∧ Z.Warmed39 U.vm ∧ U.heap = h0) (fun _ _ _ _ _ => True) (fun _ U o U' => ∃ v L, o = .returned v ∧ Q20 Z a1 A F cz ft sI fI tI h0 n0 v U'.heap L ∧ FrameEnd U o U' L ({ frames := 0, cells := 0, slots := 0, locals := 0 } : Room).cells ({ frames := 0, cells := 0, slots := 0, locals := 0 } : Room).slots) := by
  refine MetFree.of_bodySF pn_20 hisR ?_
  intro p e s m args below meth c s₁ Bd hml0 hP hK
  obtain ⟨rfl, hZ, hh⟩ := hP
  have hx := Bd.exec
  have hby := Bd.bytes
  have hml : c.maxLocals = 4 := hml0
  have hown : s.vm.findClass "com/example/triptych/triptych/reasoning/Links" = some m.cls := findClass_of_methodNamed Bd.named
  have hnm := (name_of_methodNamed Bd.named Bd.method).1
  have hrt := Bd.returns
  have hlk : meth.locks = false := BodyLoose.notSynchronized Bd
  have X0 : Stand p l e ({ frames := 0, cells := 0, slots := 0, locals := 0 } : Room) s m #[(.ref a1), (.int sI), (.int fI), (.int tI)] below meth c s₁ [] 0 0 := Stand.of_body Bd
  have e0 : s₁.heap = h0 := by rw [← hh, Bd.state]; rfl
  have N0 := Fr.nil n0
  show OwnG ({ frames := 0, cells := 0, slots := 0, locals := 0 } : Room).cells ({ frames := 0, cells := 0, slots := 0, locals := 0 } : Room).slots (Q20 Z a1 A F cz ft sI fI tI h0 n0) p e below s (s₁.setTop (entryFrame m #[(.ref a1), (.int sI), (.int fI), (.int tI)] 4))
  refine own_st (σ' := s₁.setTop (mkF m 0 #[.val (.ref a1), .val (.int sI), .val (.int fI), .val (.int tI)] [])) (fun _ kq_ => castTop (ef_20 m a1 sI fI tI) kq_) ?_
  show OwnG _ _ _ _ _ _ _ (s₁.setTop (mkF m 0 #[.val (.ref a1), .val (.int sI), .val (.int fI), .val (.int tI)] []))
  have hci := own_to cz (by omega)
  refine own_st (fun _ kq_ => XS.aloadN X0.here hx rfl (hb hby d5_0) rfl rfl kq_) ?_
  show OwnG _ _ _ _ _ _ _ (s₁.setTop (mkF m 1 #[.val (.ref a1), .val (.int sI), .val (.int fI), .val (.int tI)] [(.ref a1)]))
  obtain ⟨T39, X39, e39, st39⟩ := getF X0 hx hZ hown (host := "") (Or.inl (hw _ (List.mem_of_getElem? (i := 49) rfl))) Via.refl e0 I0.2.2.2.1 (g := (mkF m 1 #[.val (.ref a1), .val (.int sI), .val (.int fI), .val (.int tI)] [(.ref a1)])) rfl rfl (hb hby d5_1)
  refine own_st st39 ?_
  show OwnG _ _ _ _ _ _ _ (T39.setTop (mkF m 4 #[.val (.ref a1), .val (.int sI), .val (.int fI), .val (.int tI)] [(.int (Int32.ofNat cz))]))
  refine own_st (fun _ kq_ => XS.aloadN X39.here hx rfl (hb hby d5_4) rfl rfl kq_) ?_
  show OwnG _ _ _ _ _ _ _ (T39.setTop (mkF m 5 #[.val (.ref a1), .val (.int sI), .val (.int fI), .val (.int tI)] [(.ref a1), (.int (Int32.ofNat cz))]))
  obtain ⟨T40, X40, e40, st40⟩ := getF X39 hx hZ hown (host := "") (Or.inl (hw _ (List.mem_of_getElem? (i := 10) rfl))) Via.refl e39 (I0.2.1 0 (by decide)) (g := (mkF m 5 #[.val (.ref a1), .val (.int sI), .val (.int fI), .val (.int tI)] [(.ref a1), (.int (Int32.ofNat cz))])) rfl rfl (hb hby d5_5)
  refine own_st st40 ?_
  show OwnG _ _ _ _ _ _ _ (T40.setTop (mkF m 8 #[.val (.ref a1), .val (.int sI), .val (.int fI), .val (.int tI)] [(.ref (A 0)), (.int (Int32.ofNat cz))]))
  refine own_st (own_len X40 hx hZ e40 (I0.2.2.1 0 (by decide)) (z := (8 : Int32)) rfl (g := (mkF m 8 #[.val (.ref a1), .val (.int sI), .val (.int fI), .val (.int tI)] [(.ref (A 0)), (.int (Int32.ofNat cz))])) rfl rfl (hb hby d5_8)) ?_
  show OwnG _ _ _ _ _ _ _ (T40.setTop (mkF m 9 #[.val (.ref a1), .val (.int sI), .val (.int fI), .val (.int tI)] [(.int (8 : Int32)), (.int (Int32.ofNat cz))]))
  refine own_st (fun _ kq_ => XS.icmpYes X40.here hx rfl (pc0 := 9) (pc' := 16) rfl (hb hby d5_9) rfl (feq (fun q => by rw [q] at hci; have : (8 : Int32).toInt = 8 := rfl; omega)).2 (by decide) (by decide) kq_) ?_
  show OwnG _ _ _ _ _ _ _ (T40.setTop (mkF m 16 #[.val (.ref a1), .val (.int sI), .val (.int fI), .val (.int tI)] []))
  refine own_st (fun _ kq_ => XS.aloadN X40.here hx rfl (hb hby d5_16) rfl rfl kq_) ?_
  show OwnG _ _ _ _ _ _ _ (T40.setTop (mkF m 17 #[.val (.ref a1), .val (.int sI), .val (.int fI), .val (.int tI)] [(.ref a1)]))
  obtain ⟨T41, X41, e41, st41⟩ := getF X40 hx hZ hown (host := "") (Or.inl (hw _ (List.mem_of_getElem? (i := 10) rfl))) Via.refl e40 (I0.2.1 0 (by decide)) (g := (mkF m 17 #[.val (.ref a1), .val (.int sI), .val (.int fI), .val (.int tI)] [(.ref a1)])) rfl rfl (hb hby d5_17)
  refine own_st st41 ?_
  show OwnG _ _ _ _ _ _ _ (T41.setTop (mkF m 20 #[.val (.ref a1), .val (.int sI), .val (.int fI), .val (.int tI)] [(.ref (A 0))]))
  refine own_st (fun _ kq_ => XS.aloadN X41.here hx rfl (hb hby d5_20) rfl rfl kq_) ?_
  show OwnG _ _ _ _ _ _ _ (T41.setTop (mkF m 21 #[.val (.ref a1), .val (.int sI), .val (.int fI), .val (.int tI)] [(.ref a1), (.ref (A 0))]))
  obtain ⟨T42, X42, e42, st42⟩ := getF X41 hx hZ hown (host := "") (Or.inl (hw _ (List.mem_of_getElem? (i := 49) rfl))) Via.refl e41 I0.2.2.2.1 (g := (mkF m 21 #[.val (.ref a1), .val (.int sI), .val (.int fI), .val (.int tI)] [(.ref a1), (.ref (A 0))])) rfl rfl (hb hby d5_21)
  refine own_st st42 ?_
  show OwnG _ _ _ _ _ _ _ (T42.setTop (mkF m 24 #[.val (.ref a1), .val (.int sI), .val (.int fI), .val (.int tI)] [(.int (Int32.ofNat cz)), (.ref (A 0))]))
  refine own_st (fun _ kq_ => XS.iloadN X42.here hx rfl (hb hby d5_24) rfl kq_) ?_
  show OwnG _ _ _ _ _ _ _ (T42.setTop (mkF m 25 #[.val (.ref a1), .val (.int sI), .val (.int fI), .val (.int tI)] [(.int sI), (.int (Int32.ofNat cz)), (.ref (A 0))]))
  obtain ⟨T43, h43, X43, e43, W43, V43, st43⟩ := own_sI X42 hx hZ e42 (I0.2.2.1 0 (by decide)) (cz) hci (by show cz < 8; omega) (g := (mkF m 25 #[.val (.ref a1), .val (.int sI), .val (.int fI), .val (.int tI)] [(.int sI), (.int (Int32.ofNat cz)), (.ref (A 0))])) rfl rfl (hb hby d5_25)
  have N43 := Fr.snoc X43 N0 (I0.2.2.2.2.2.2.2 0 (by decide))
  refine own_st st43 ?_
  show OwnG _ _ _ _ _ _ _ (T43.setTop (mkF m 26 #[.val (.ref a1), .val (.int sI), .val (.int fI), .val (.int tI)] []))
  have I43 : LK n0 Z h43 a1 A (own_u2 F 0 cz sI) cz ft := I0.sto 0 cz sI (by decide) (by show cz < 8; omega) rfl W43
  have S43 : n0 ≤ h43.size := by rw [W43.size]; exact Z0
  refine own_st (fun _ kq_ => XS.aloadN X43.here hx rfl (hb hby d5_26) rfl rfl kq_) ?_
  show OwnG _ _ _ _ _ _ _ (T43.setTop (mkF m 27 #[.val (.ref a1), .val (.int sI), .val (.int fI), .val (.int tI)] [(.ref a1)]))
  obtain ⟨T44, X44, e44, st44⟩ := getF X43 hx hZ hown (host := "") (Or.inl (hw _ (List.mem_of_getElem? (i := 12) rfl))) Via.refl e43 (I43.2.1 1 (by decide)) (g := (mkF m 27 #[.val (.ref a1), .val (.int sI), .val (.int fI), .val (.int tI)] [(.ref a1)])) rfl rfl (hb hby d5_27)
  refine own_st st44 ?_
  show OwnG _ _ _ _ _ _ _ (T44.setTop (mkF m 30 #[.val (.ref a1), .val (.int sI), .val (.int fI), .val (.int tI)] [(.ref (A 1))]))
  refine own_st (fun _ kq_ => XS.aloadN X44.here hx rfl (hb hby d5_30) rfl rfl kq_) ?_
  show OwnG _ _ _ _ _ _ _ (T44.setTop (mkF m 31 #[.val (.ref a1), .val (.int sI), .val (.int fI), .val (.int tI)] [(.ref a1), (.ref (A 1))]))
  obtain ⟨T45, X45, e45, st45⟩ := getF X44 hx hZ hown (host := "") (Or.inl (hw _ (List.mem_of_getElem? (i := 49) rfl))) Via.refl e44 I43.2.2.2.1 (g := (mkF m 31 #[.val (.ref a1), .val (.int sI), .val (.int fI), .val (.int tI)] [(.ref a1), (.ref (A 1))])) rfl rfl (hb hby d5_31)
  refine own_st st45 ?_
  show OwnG _ _ _ _ _ _ _ (T45.setTop (mkF m 34 #[.val (.ref a1), .val (.int sI), .val (.int fI), .val (.int tI)] [(.int (Int32.ofNat cz)), (.ref (A 1))]))
  refine own_st (fun _ kq_ => XS.iloadN X45.here hx rfl (hb hby d5_34) rfl kq_) ?_
  show OwnG _ _ _ _ _ _ _ (T45.setTop (mkF m 35 #[.val (.ref a1), .val (.int sI), .val (.int fI), .val (.int tI)] [(.int fI), (.int (Int32.ofNat cz)), (.ref (A 1))]))
  obtain ⟨T46, h46, X46, e46, W46, V46, st46⟩ := own_sI X45 hx hZ e45 (I43.2.2.1 1 (by decide)) (cz) hci (by show cz < 8; omega) (g := (mkF m 35 #[.val (.ref a1), .val (.int sI), .val (.int fI), .val (.int tI)] [(.int fI), (.int (Int32.ofNat cz)), (.ref (A 1))])) rfl rfl (hb hby d5_35)
  have N46 := Fr.snoc X46 N43 (I43.2.2.2.2.2.2.2 1 (by decide))
  refine own_st st46 ?_
  show OwnG _ _ _ _ _ _ _ (T46.setTop (mkF m 36 #[.val (.ref a1), .val (.int sI), .val (.int fI), .val (.int tI)] []))
  have I46 : LK n0 Z h46 a1 A (own_u2 (own_u2 F 0 cz sI) 1 cz fI) cz ft := I43.sto 1 cz fI (by decide) (by show cz < 8; omega) rfl W46
  have S46 : n0 ≤ h46.size := by rw [W46.size]; exact S43
  refine own_st (fun _ kq_ => XS.aloadN X46.here hx rfl (hb hby d5_36) rfl rfl kq_) ?_
  show OwnG _ _ _ _ _ _ _ (T46.setTop (mkF m 37 #[.val (.ref a1), .val (.int sI), .val (.int fI), .val (.int tI)] [(.ref a1)]))
  obtain ⟨T47, X47, e47, st47⟩ := getF X46 hx hZ hown (host := "") (Or.inl (hw _ (List.mem_of_getElem? (i := 14) rfl))) Via.refl e46 (I46.2.1 2 (by decide)) (g := (mkF m 37 #[.val (.ref a1), .val (.int sI), .val (.int fI), .val (.int tI)] [(.ref a1)])) rfl rfl (hb hby d5_37)
  refine own_st st47 ?_
  show OwnG _ _ _ _ _ _ _ (T47.setTop (mkF m 40 #[.val (.ref a1), .val (.int sI), .val (.int fI), .val (.int tI)] [(.ref (A 2))]))
  refine own_st (fun _ kq_ => XS.aloadN X47.here hx rfl (hb hby d5_40) rfl rfl kq_) ?_
  show OwnG _ _ _ _ _ _ _ (T47.setTop (mkF m 41 #[.val (.ref a1), .val (.int sI), .val (.int fI), .val (.int tI)] [(.ref a1), (.ref (A 2))]))
  obtain ⟨T48, X48, e48, st48⟩ := getF X47 hx hZ hown (host := "") (Or.inl (hw _ (List.mem_of_getElem? (i := 49) rfl))) Via.refl e47 I46.2.2.2.1 (g := (mkF m 41 #[.val (.ref a1), .val (.int sI), .val (.int fI), .val (.int tI)] [(.ref a1), (.ref (A 2))])) rfl rfl (hb hby d5_41)
  refine own_st st48 ?_
  show OwnG _ _ _ _ _ _ _ (T48.setTop (mkF m 44 #[.val (.ref a1), .val (.int sI), .val (.int fI), .val (.int tI)] [(.int (Int32.ofNat cz)), (.ref (A 2))]))
  refine own_st (fun _ kq_ => XS.iloadN X48.here hx rfl (hb hby d5_44) rfl kq_) ?_
  show OwnG _ _ _ _ _ _ _ (T48.setTop (mkF m 45 #[.val (.ref a1), .val (.int sI), .val (.int fI), .val (.int tI)] [(.int tI), (.int (Int32.ofNat cz)), (.ref (A 2))]))
  obtain ⟨T49, h49, X49, e49, W49, V49, st49⟩ := own_sI X48 hx hZ e48 (I46.2.2.1 2 (by decide)) (cz) hci (by show cz < 8; omega) (g := (mkF m 45 #[.val (.ref a1), .val (.int sI), .val (.int fI), .val (.int tI)] [(.int tI), (.int (Int32.ofNat cz)), (.ref (A 2))])) rfl rfl (hb hby d5_45)
  have N49 := Fr.snoc X49 N46 (I46.2.2.2.2.2.2.2 2 (by decide))
  refine own_st st49 ?_
  show OwnG _ _ _ _ _ _ _ (T49.setTop (mkF m 46 #[.val (.ref a1), .val (.int sI), .val (.int fI), .val (.int tI)] []))
  have I49 : LK n0 Z h49 a1 A (own_u2 (own_u2 (own_u2 F 0 cz sI) 1 cz fI) 2 cz tI) cz ft := I46.sto 2 cz tI (by decide) (by show cz < 8; omega) rfl W49
  have S49 : n0 ≤ h49.size := by rw [W49.size]; exact S46
  refine own_st (fun _ kq_ => XS.aloadN X49.here hx rfl (hb hby d5_46) rfl rfl kq_) ?_
  show OwnG _ _ _ _ _ _ _ (T49.setTop (mkF m 47 #[.val (.ref a1), .val (.int sI), .val (.int fI), .val (.int tI)] [(.ref a1)]))
  refine own_st (fun _ kq_ => XS.dup X49.here hx rfl (hb hby d5_47) rfl rfl kq_) ?_
  show OwnG _ _ _ _ _ _ _ (T49.setTop (mkF m 48 #[.val (.ref a1), .val (.int sI), .val (.int fI), .val (.int tI)] [(.ref a1), (.ref a1)]))
  obtain ⟨T50, X50, e50, st50⟩ := getF X49 hx hZ hown (host := "") (Or.inl (hw _ (List.mem_of_getElem? (i := 49) rfl))) Via.refl e49 I49.2.2.2.1 (g := (mkF m 48 #[.val (.ref a1), .val (.int sI), .val (.int fI), .val (.int tI)] [(.ref a1), (.ref a1)])) rfl rfl (hb hby d5_48)
  refine own_st st50 ?_
  show OwnG _ _ _ _ _ _ _ (T50.setTop (mkF m 51 #[.val (.ref a1), .val (.int sI), .val (.int fI), .val (.int tI)] [(.int (Int32.ofNat cz)), (.ref a1)]))
  refine own_st (fun _ kq_ => XS.dupX1 X50.here hx rfl (hb hby d5_51) rfl rfl rfl kq_) ?_
  show OwnG _ _ _ _ _ _ _ (T50.setTop (mkF m 52 #[.val (.ref a1), .val (.int sI), .val (.int fI), .val (.int tI)] [(.int (Int32.ofNat cz)), (.ref a1), (.int (Int32.ofNat cz))]))
  refine own_st (fun _ kq_ => XS.iconst X50.here hx rfl (hb hby d5_52) kq_) ?_
  show OwnG _ _ _ _ _ _ _ (T50.setTop (mkF m 53 #[.val (.ref a1), .val (.int sI), .val (.int fI), .val (.int tI)] [(.int (1 : Int32)), (.int (Int32.ofNat cz)), (.ref a1), (.int (Int32.ofNat cz))]))
  refine own_st (fun _ kq_ => XS.iadd X50.here hx rfl (hb hby d5_53) rfl kq_) ?_
  show OwnG _ _ _ _ _ _ _ (T50.setTop (mkF m 54 #[.val (.ref a1), .val (.int sI), .val (.int fI), .val (.int tI)] [(.int ((Int32.ofNat cz) + (1 : Int32))), (.ref a1), (.int (Int32.ofNat cz))]))
  rw [own_one]
  show OwnG _ _ _ _ _ _ _ (T50.setTop (mkF m 54 #[.val (.ref a1), .val (.int sI), .val (.int fI), .val (.int tI)] [(.int (Int32.ofNat (cz + 1))), (.ref a1), (.int (Int32.ofNat cz))]))
  obtain ⟨T51, h51, X51, e51, W51, st51⟩ := putF X50 hx hZ hown (host := "") (Or.inl (hw _ (List.mem_of_getElem? (i := 49) rfl))) Via.refl e50 I49.2.2.2.1 I49.1 (Or.inl (hw _ (List.mem_of_getElem? (i := 50) rfl))) (hw _ (List.mem_of_getElem? (i := 1) rfl)) (ty := .int) (by decide) rfl rfl (g := (mkF m 54 #[.val (.ref a1), .val (.int sI), .val (.int fI), .val (.int tI)] [(.int (Int32.ofNat (cz + 1))), (.ref a1), (.int (Int32.ofNat cz))])) rfl rfl (hb hby d5_54)
  have N51 := Fr.snoc X51 N49 ga
  refine own_st st51 ?_
  show OwnG _ _ _ _ _ _ _ (T51.setTop (mkF m 57 #[.val (.ref a1), .val (.int sI), .val (.int fI), .val (.int tI)] [(.int (Int32.ofNat cz))]))
  have J51 := LK.cnt hw (cz' := cz + 1) I49 W51
  exact own_retI X51 hx hrt hlk (hb hby d5_57) (by decide) (by decide) (by show _ ∧ _; first | (rw [e51]; exact ⟨rfl, N51, by rw [W51.size]; exact S49, J51⟩) | exact ⟨rfl, N51, by rw [W51.size]; exact S49, J51⟩)
theorem d7_0 : decode prog_220_method_13_code 0 = .ok (.aload_n 0, 1) := by decide +kernel
theorem d7_1 : decode prog_220_method_13_code 1 = .ok (.getfield 29, 3) := by decide +kernel
theorem d7_4 : decode prog_220_method_13_code 4 = .ok (.iload_n 1, 1) := by decide +kernel
theorem d7_5 : decode prog_220_method_13_code 5 = .ok (.iaload, 1) := by decide +kernel
theorem d7_6 : decode prog_220_method_13_code 6 = .ok (.istore 4, 2) := by decide +kernel
theorem d7_8 : decode prog_220_method_13_code 8 = .ok (.iload 4, 2) := by decide +kernel
theorem d7_10 : decode prog_220_method_13_code 10 = .ok (.iconst (-1), 1) := by decide +kernel
theorem d7_11 : decode prog_220_method_13_code 11 = .ok (.if_icmp .eq 39, 3) := by decide +kernel
theorem d7_14 : decode prog_220_method_13_code 14 = .ok (.aload_n 0, 1) := by decide +kernel
theorem d7_15 : decode prog_220_method_13_code 15 = .ok (.getfield 13, 3) := by decide +kernel
theorem d7_18 : decode prog_220_method_13_code 18 = .ok (.iload 4, 2) := by decide +kernel
theorem d7_20 : decode prog_220_method_13_code 20 = .ok (.iaload, 1) := by decide +kernel
theorem d7_21 : decode prog_220_method_13_code 21 = .ok (.iload_n 2, 1) := by decide +kernel
theorem d7_22 : decode prog_220_method_13_code 22 = .ok (.if_icmp .ne 16, 3) := by decide +kernel
theorem d7_25 : decode prog_220_method_13_code 25 = .ok (.aload_n 0, 1) := by decide +kernel
theorem d7_26 : decode prog_220_method_13_code 26 = .ok (.getfield 16, 3) := by decide +kernel
theorem d7_29 : decode prog_220_method_13_code 29 = .ok (.iload 4, 2) := by decide +kernel
theorem d7_31 : decode prog_220_method_13_code 31 = .ok (.iaload, 1) := by decide +kernel
theorem d7_32 : decode prog_220_method_13_code 32 = .ok (.iload_n 3, 1) := by decide +kernel
theorem d7_33 : decode prog_220_method_13_code 33 = .ok (.if_icmp .ne 5, 3) := by decide +kernel
theorem d7_36 : decode prog_220_method_13_code 36 = .ok (.iconst 1, 1) := by decide +kernel
theorem d7_37 : decode prog_220_method_13_code 37 = .ok (.ireturn, 1) := by decide +kernel
theorem d7_38 : decode prog_220_method_13_code 38 = .ok (.aload_n 0, 1) := by decide +kernel
theorem d7_39 : decode prog_220_method_13_code 39 = .ok (.getfield 19, 3) := by decide +kernel
theorem d7_42 : decode prog_220_method_13_code 42 = .ok (.iload 4, 2) := by decide +kernel
theorem d7_44 : decode prog_220_method_13_code 44 = .ok (.iaload, 1) := by decide +kernel
theorem d7_45 : decode prog_220_method_13_code 45 = .ok (.istore 4, 2) := by decide +kernel
theorem d7_47 : decode prog_220_method_13_code 47 = .ok (.goto (-39), 3) := by decide +kernel
theorem d7_50 : decode prog_220_method_13_code 50 = .ok (.iconst 0, 1) := by decide +kernel
theorem d7_51 : decode prog_220_method_13_code 51 = .ok (.ireturn, 1) := by decide +kernel
theorem pn_13 : plainFor (⟨"com/example/triptych/triptych/reasoning/Links", "leadsTo", "(III)Z"⟩ : MethodName) = true := by first | exact plainFor_of_name (by first | (simp [plainName, overriddenIn]; done) | decide +kernel) | decide +kernel
theorem ef_13 (m : MethodId) (x0 : Addr) (x1 : Int32) (x2 : Int32) (x3 : Int32) : entryFrame m #[(.ref x0), (.int x1), (.int x2), (.int x3)] 5 = mkF m 0 #[.val (.ref x0), .val (.int x1), .val (.int x2), .val (.int x3), .unset] [] := by first | (simp [entryFrame, mkF, argsToLocals, Value.category]; done) | rfl
def Q13 (Z : State) (a1 : Addr) (A : Nat → Addr) (F : Nat → Nat → Int32) (cz : Nat) (ft : Int32) (sI : Int32) (fI : Int32) (tI : Int32) (sz : Nat) (h0 : Heap) (n0 : Nat) (v : Option Value) (h : Heap) (L : List Loc) : Prop := v = some (.int 0) ∧ Fr n0 L ∧ h = h0
set_option maxRecDepth 65536 in
set_option maxHeartbeats 40000000 in
theorem rm13 (l : Launch) (Z : State) (a0 : Array Value) (hw : ∀ d ∈ tables_1, d.before a0 Z = true) (ws : List Jvm.Cond) (a1 : Addr) (A : Nat → Addr) (F : Nat → Nat → Int32) (cz : Nat) (ft : Int32) (sI : Int32) (fI : Int32) (tI : Int32) (sz : Nat) (h0 : Heap) (n0 : Nat) (Z0 : n0 ≤ h0.size) (hs : sI.toInt = (sz : Int)) (hs4 : sz < 4) (h6 : F 6 sz = -1) (I0 : LK n0 Z h0 a1 A F cz ft) :
    MetFree l (⟨"com/example/triptych/triptych/reasoning/Links", "leadsTo", "(III)Z"⟩ : MethodName) (head1 (Jvm.Cond.code (⟨"com/example/triptych/triptych/reasoning/Links", "leadsTo", "(III)Z"⟩ : MethodName) prog_220_method_13_code 5 (some .boolean) :: ws) ({ frames := 0, cells := 0, slots := 0, locals := 0 } : Room)) (fun a U => a = #[(.ref a1), (.int sI), (.int fI), (.int tI)] ∧ Z.Warmed39 U.vm ∧ U.heap = h0) (fun _ _ _ _ _ => True) (fun _ U o U' => ∃ v L, o = .returned v ∧ Q13 Z a1 A F cz ft sI fI tI sz h0 n0 v U'.heap L ∧ FrameEnd U o U' L ({ frames := 0, cells := 0, slots := 0, locals := 0 } : Room).cells ({ frames := 0, cells := 0, slots := 0, locals := 0 } : Room).slots) := by
  refine MetFree.of_bodySF pn_13 hisR ?_
  intro p e s m args below meth c s₁ Bd hml0 hP hK
  obtain ⟨rfl, hZ, hh⟩ := hP
  have hx := Bd.exec
  have hby := Bd.bytes
  have hml : c.maxLocals = 5 := hml0
  have hown : s.vm.findClass "com/example/triptych/triptych/reasoning/Links" = some m.cls := findClass_of_methodNamed Bd.named
  have hnm := (name_of_methodNamed Bd.named Bd.method).1
  have hrt := Bd.returns
  have hlk : meth.locks = false := BodyLoose.notSynchronized Bd
  have X0 : Stand p l e ({ frames := 0, cells := 0, slots := 0, locals := 0 } : Room) s m #[(.ref a1), (.int sI), (.int fI), (.int tI)] below meth c s₁ [] 0 0 := Stand.of_body Bd
  have e0 : s₁.heap = h0 := by rw [← hh, Bd.state]; rfl
  have N0 := Fr.nil n0
  show OwnG ({ frames := 0, cells := 0, slots := 0, locals := 0 } : Room).cells ({ frames := 0, cells := 0, slots := 0, locals := 0 } : Room).slots (Q13 Z a1 A F cz ft sI fI tI sz h0 n0) p e below s (s₁.setTop (entryFrame m #[(.ref a1), (.int sI), (.int fI), (.int tI)] 5))
  refine own_st (σ' := s₁.setTop (mkF m 0 #[.val (.ref a1), .val (.int sI), .val (.int fI), .val (.int tI), .unset] [])) (fun _ kq_ => castTop (ef_13 m a1 sI fI tI) kq_) ?_
  show OwnG _ _ _ _ _ _ _ (s₁.setTop (mkF m 0 #[.val (.ref a1), .val (.int sI), .val (.int fI), .val (.int tI), .unset] []))
  refine own_st (fun _ kq_ => XS.aloadN X0.here hx rfl (hb hby d7_0) rfl rfl kq_) ?_
  show OwnG _ _ _ _ _ _ _ (s₁.setTop (mkF m 1 #[.val (.ref a1), .val (.int sI), .val (.int fI), .val (.int tI), .unset] [(.ref a1)]))
  obtain ⟨T52, X52, e52, st52⟩ := getF X0 hx hZ hown (host := "") (Or.inl (hw _ (List.mem_of_getElem? (i := 23) rfl))) Via.refl e0 (I0.2.1 6 (by decide)) (g := (mkF m 1 #[.val (.ref a1), .val (.int sI), .val (.int fI), .val (.int tI), .unset] [(.ref a1)])) rfl rfl (hb hby d7_1)
  refine own_st st52 ?_
  show OwnG _ _ _ _ _ _ _ (T52.setTop (mkF m 4 #[.val (.ref a1), .val (.int sI), .val (.int fI), .val (.int tI), .unset] [(.ref (A 6))]))
  refine own_st (fun _ kq_ => XS.iloadN X52.here hx rfl (hb hby d7_4) rfl kq_) ?_
  show OwnG _ _ _ _ _ _ _ (T52.setTop (mkF m 5 #[.val (.ref a1), .val (.int sI), .val (.int fI), .val (.int tI), .unset] [(.int sI), (.ref (A 6))]))
  refine own_st (own_il X52 hx hZ e52 (I0.2.2.1 6 (by decide)) (sz) hs (by show sz < 4; omega) (congrArg Value.int h6) (g := (mkF m 5 #[.val (.ref a1), .val (.int sI), .val (.int fI), .val (.int tI), .unset] [(.int sI), (.ref (A 6))])) rfl rfl (hb hby d7_5)) ?_
  show OwnG _ _ _ _ _ _ _ (T52.setTop (mkF m 6 #[.val (.ref a1), .val (.int sI), .val (.int fI), .val (.int tI), .unset] [(.int (-1 : Int32))]))
  refine own_st (fun _ kq_ => XS.istore X52.here hx rfl (hb hby d7_6) rfl (l' := #[.val (.ref a1), .val (.int sI), .val (.int fI), .val (.int tI), .val (.int (-1 : Int32))]) rfl kq_) ?_
  show OwnG _ _ _ _ _ _ _ (T52.setTop (mkF m 8 #[.val (.ref a1), .val (.int sI), .val (.int fI), .val (.int tI), .val (.int (-1 : Int32))] []))
  refine own_st (fun _ kq_ => XS.iload X52.here hx rfl (hb hby d7_8) rfl kq_) ?_
  show OwnG _ _ _ _ _ _ _ (T52.setTop (mkF m 10 #[.val (.ref a1), .val (.int sI), .val (.int fI), .val (.int tI), .val (.int (-1 : Int32))] [(.int (-1 : Int32))]))
  refine own_st (fun _ kq_ => XS.iconst X52.here hx rfl (hb hby d7_10) kq_) ?_
  show OwnG _ _ _ _ _ _ _ (T52.setTop (mkF m 11 #[.val (.ref a1), .val (.int sI), .val (.int fI), .val (.int tI), .val (.int (-1 : Int32))] [(.int (-1 : Int32)), (.int (-1 : Int32))]))
  refine own_st (fun _ kq_ => XS.icmpYes X52.here hx rfl (pc0 := 11) (pc' := 50) rfl (hb hby d7_11) rfl (teq rfl).1 (by decide) (by decide) kq_) ?_
  show OwnG _ _ _ _ _ _ _ (T52.setTop (mkF m 50 #[.val (.ref a1), .val (.int sI), .val (.int fI), .val (.int tI), .val (.int (-1 : Int32))] []))
  refine own_st (fun _ kq_ => XS.iconst X52.here hx rfl (hb hby d7_50) kq_) ?_
  show OwnG _ _ _ _ _ _ _ (T52.setTop (mkF m 51 #[.val (.ref a1), .val (.int sI), .val (.int fI), .val (.int tI), .val (.int (-1 : Int32))] [(.int (0 : Int32))]))
  exact own_retN X52 hx hrt hlk (t := .boolean) (by simp) (hb hby d7_51) (by decide) (by decide) (by show _ ∧ _; first | (rw [e52]; exact ⟨rfl, N0, rfl⟩) | exact ⟨rfl, N0, rfl⟩)
theorem d8_0 : decode prog_220_method_23_code 0 = .ok (.aload_n 0, 1) := by decide +kernel
theorem d8_1 : decode prog_220_method_23_code 1 = .ok (.iload 4, 2) := by decide +kernel
theorem d8_3 : decode prog_220_method_23_code 3 = .ok (.iconst (-1), 1) := by decide +kernel
theorem d8_4 : decode prog_220_method_23_code 4 = .ok (.iastore, 1) := by decide +kernel
theorem d8_5 : decode prog_220_method_23_code 5 = .ok (.aload_n 2, 1) := by decide +kernel
theorem d8_6 : decode prog_220_method_23_code 6 = .ok (.iload_n 3, 1) := by decide +kernel
theorem d8_7 : decode prog_220_method_23_code 7 = .ok (.iaload, 1) := by decide +kernel
theorem d8_8 : decode prog_220_method_23_code 8 = .ok (.iconst (-1), 1) := by decide +kernel
theorem d8_9 : decode prog_220_method_23_code 9 = .ok (.if_icmp .ne 11, 3) := by decide +kernel
theorem d8_12 : decode prog_220_method_23_code 12 = .ok (.aload_n 1, 1) := by decide +kernel
theorem d8_13 : decode prog_220_method_23_code 13 = .ok (.iload_n 3, 1) := by decide +kernel
theorem d8_14 : decode prog_220_method_23_code 14 = .ok (.iload 4, 2) := by decide +kernel
theorem d8_16 : decode prog_220_method_23_code 16 = .ok (.iastore, 1) := by decide +kernel
theorem d8_17 : decode prog_220_method_23_code 17 = .ok (.goto 10, 3) := by decide +kernel
theorem d8_20 : decode prog_220_method_23_code 20 = .ok (.aload_n 0, 1) := by decide +kernel
theorem d8_21 : decode prog_220_method_23_code 21 = .ok (.aload_n 2, 1) := by decide +kernel
theorem d8_22 : decode prog_220_method_23_code 22 = .ok (.iload_n 3, 1) := by decide +kernel
theorem d8_23 : decode prog_220_method_23_code 23 = .ok (.iaload, 1) := by decide +kernel
theorem d8_24 : decode prog_220_method_23_code 24 = .ok (.iload 4, 2) := by decide +kernel
theorem d8_26 : decode prog_220_method_23_code 26 = .ok (.iastore, 1) := by decide +kernel
theorem d8_27 : decode prog_220_method_23_code 27 = .ok (.aload_n 2, 1) := by decide +kernel
theorem d8_28 : decode prog_220_method_23_code 28 = .ok (.iload_n 3, 1) := by decide +kernel
theorem d8_29 : decode prog_220_method_23_code 29 = .ok (.iload 4, 2) := by decide +kernel
theorem d8_31 : decode prog_220_method_23_code 31 = .ok (.iastore, 1) := by decide +kernel
theorem d8_32 : decode prog_220_method_23_code 32 = .ok (.return_, 1) := by decide +kernel
theorem pn_23a : plainFor (⟨"com/example/triptych/triptych/reasoning/Links", "append", "([I[I[III)V"⟩ : MethodName) = true := by first | exact plainFor_of_name (by first | (simp [plainName, overriddenIn]; done) | decide +kernel) | decide +kernel
theorem ef_23a (m : MethodId) (x0 : Addr) (x1 : Addr) (x2 : Addr) (x3 : Int32) (x4 : Int32) : entryFrame m #[(.ref x0), (.ref x1), (.ref x2), (.int x3), (.int x4)] 5 = mkF m 0 #[.val (.ref x0), .val (.ref x1), .val (.ref x2), .val (.int x3), .val (.int x4)] [] := by first | (simp [entryFrame, mkF, argsToLocals, Value.category]; done) | rfl
def Q23a (Z : State) (a1 : Addr) (A : Nat → Addr) (F : Nat → Nat → Int32) (cz : Nat) (ft : Int32) (kI : Int32) (dI : Int32) (kz : Nat) (dz : Nat) (oz : Option Nat) (h0 : Heap) (n0 : Nat) (v : Option Value) (h : Heap) (L : List Loc) : Prop := v = none ∧ Fr n0 L ∧ n0 ≤ h.size ∧ LK n0 Z h a1 A (own_app F 6 7 kz dz dI oz) cz ft
set_option maxRecDepth 65536 in
set_option maxHeartbeats 40000000 in
theorem rm23a (l : Launch) (Z : State) (a0 : Array Value) (hw : ∀ d ∈ tables_1, d.before a0 Z = true) (ws : List Jvm.Cond) (a1 : Addr) (A : Nat → Addr) (F : Nat → Nat → Int32) (cz : Nat) (ft : Int32) (kI : Int32) (dI : Int32) (kz : Nat) (dz : Nat) (oz : Option Nat) (h0 : Heap) (n0 : Nat) (Z0 : n0 ≤ h0.size) (hk : kI.toInt = (kz : Int)) (hk4 : kz < 4) (hd : dI.toInt = (dz : Int)) (hd8 : dz < 8) (hl : own_hl F 7 kz oz) (I0 : LK n0 Z h0 a1 A F cz ft) :
    MetFree l (⟨"com/example/triptych/triptych/reasoning/Links", "append", "([I[I[III)V"⟩ : MethodName) (head1 (Jvm.Cond.code (⟨"com/example/triptych/triptych/reasoning/Links", "append", "([I[I[III)V"⟩ : MethodName) prog_220_method_23_code 5 none :: ws) ({ frames := 0, cells := 0, slots := 0, locals := 0 } : Room)) (fun a U => a = #[(.ref (A 3)), (.ref (A 6)), (.ref (A 7)), (.int kI), (.int dI)] ∧ Z.Warmed39 U.vm ∧ U.heap = h0) (fun _ _ _ _ _ => True) (fun _ U o U' => ∃ v L, o = .returned v ∧ Q23a Z a1 A F cz ft kI dI kz dz oz h0 n0 v U'.heap L ∧ FrameEnd U o U' L ({ frames := 0, cells := 0, slots := 0, locals := 0 } : Room).cells ({ frames := 0, cells := 0, slots := 0, locals := 0 } : Room).slots) := by
  refine MetFree.of_bodySF pn_23a hisR ?_
  intro p e s m args below meth c s₁ Bd hml0 hP hK
  obtain ⟨rfl, hZ, hh⟩ := hP
  have hx := Bd.exec
  have hby := Bd.bytes
  have hml : c.maxLocals = 5 := hml0
  have hown : s.vm.findClass "com/example/triptych/triptych/reasoning/Links" = some m.cls := findClass_of_methodNamed Bd.named
  have hnm := (name_of_methodNamed Bd.named Bd.method).1
  have hrt := Bd.returns
  have hlk : meth.locks = false := BodyLoose.notSynchronized Bd
  have X0 : Stand p l e ({ frames := 0, cells := 0, slots := 0, locals := 0 } : Room) s m #[(.ref (A 3)), (.ref (A 6)), (.ref (A 7)), (.int kI), (.int dI)] below meth c s₁ [] 0 0 := Stand.of_body Bd
  have e0 : s₁.heap = h0 := by rw [← hh, Bd.state]; rfl
  have N0 := Fr.nil n0
  show OwnG ({ frames := 0, cells := 0, slots := 0, locals := 0 } : Room).cells ({ frames := 0, cells := 0, slots := 0, locals := 0 } : Room).slots (Q23a Z a1 A F cz ft kI dI kz dz oz h0 n0) p e below s (s₁.setTop (entryFrame m #[(.ref (A 3)), (.ref (A 6)), (.ref (A 7)), (.int kI), (.int dI)] 5))
  refine own_st (σ' := s₁.setTop (mkF m 0 #[.val (.ref (A 3)), .val (.ref (A 6)), .val (.ref (A 7)), .val (.int kI), .val (.int dI)] [])) (fun _ kq_ => castTop (ef_23a m (A 3) (A 6) (A 7) kI dI) kq_) ?_
  show OwnG _ _ _ _ _ _ _ (s₁.setTop (mkF m 0 #[.val (.ref (A 3)), .val (.ref (A 6)), .val (.ref (A 7)), .val (.int kI), .val (.int dI)] []))
  refine own_st (fun _ kq_ => XS.aloadN X0.here hx rfl (hb hby d8_0) rfl rfl kq_) ?_
  show OwnG _ _ _ _ _ _ _ (s₁.setTop (mkF m 1 #[.val (.ref (A 3)), .val (.ref (A 6)), .val (.ref (A 7)), .val (.int kI), .val (.int dI)] [(.ref (A 3))]))
  refine own_st (fun _ kq_ => XS.iload X0.here hx rfl (hb hby d8_1) rfl kq_) ?_
  show OwnG _ _ _ _ _ _ _ (s₁.setTop (mkF m 3 #[.val (.ref (A 3)), .val (.ref (A 6)), .val (.ref (A 7)), .val (.int kI), .val (.int dI)] [(.int dI), (.ref (A 3))]))
  refine own_st (fun _ kq_ => XS.iconst X0.here hx rfl (hb hby d8_3) kq_) ?_
  show OwnG _ _ _ _ _ _ _ (s₁.setTop (mkF m 4 #[.val (.ref (A 3)), .val (.ref (A 6)), .val (.ref (A 7)), .val (.int kI), .val (.int dI)] [(.int (-1 : Int32)), (.int dI), (.ref (A 3))]))
  obtain ⟨T53, h53, X53, e53, W53, V53, st53⟩ := own_sI X0 hx hZ e0 (I0.2.2.1 3 (by decide)) (dz) hd (by show dz < 8; omega) (g := (mkF m 4 #[.val (.ref (A 3)), .val (.ref (A 6)), .val (.ref (A 7)), .val (.int kI), .val (.int dI)] [(.int (-1 : Int32)), (.int dI), (.ref (A 3))])) rfl rfl (hb hby d8_4)
  have N53 := Fr.snoc X53 N0 (I0.2.2.2.2.2.2.2 3 (by decide))
  refine own_st st53 ?_
  show OwnG _ _ _ _ _ _ _ (T53.setTop (mkF m 5 #[.val (.ref (A 3)), .val (.ref (A 6)), .val (.ref (A 7)), .val (.int kI), .val (.int dI)] []))
  have I53 : LK n0 Z h53 a1 A (own_u2 F 3 dz (-1)) cz ft := I0.sto 3 dz (-1) (by decide) (by show dz < 8; omega) rfl W53
  have S53 : n0 ≤ h53.size := by rw [W53.size]; exact Z0
  refine own_st (fun _ kq_ => XS.aloadN X53.here hx rfl (hb hby d8_5) rfl rfl kq_) ?_
  show OwnG _ _ _ _ _ _ _ (T53.setTop (mkF m 6 #[.val (.ref (A 3)), .val (.ref (A 6)), .val (.ref (A 7)), .val (.int kI), .val (.int dI)] [(.ref (A 7))]))
  refine own_st (fun _ kq_ => XS.iloadN X53.here hx rfl (hb hby d8_6) rfl kq_) ?_
  show OwnG _ _ _ _ _ _ _ (T53.setTop (mkF m 7 #[.val (.ref (A 3)), .val (.ref (A 6)), .val (.ref (A 7)), .val (.int kI), .val (.int dI)] [(.int kI), (.ref (A 7))]))
  refine own_st (own_il X53 hx hZ e53 (I53.2.2.1 7 (by decide)) (kz) hk (by show kz < 4; omega) (congrArg Value.int (own_u2_ne F 3 dz (-1) 7 kz (by decide))) (g := (mkF m 7 #[.val (.ref (A 3)), .val (.ref (A 6)), .val (.ref (A 7)), .val (.int kI), .val (.int dI)] [(.int kI), (.ref (A 7))])) rfl rfl (hb hby d8_7)) ?_
  show OwnG _ _ _ _ _ _ _ (T53.setTop (mkF m 8 #[.val (.ref (A 3)), .val (.ref (A 6)), .val (.ref (A 7)), .val (.int kI), .val (.int dI)] [(.int (F 7 kz))]))
  refine own_st (fun _ kq_ => XS.iconst X53.here hx rfl (hb hby d8_8) kq_) ?_
  show OwnG _ _ _ _ _ _ _ (T53.setTop (mkF m 9 #[.val (.ref (A 3)), .val (.ref (A 6)), .val (.ref (A 7)), .val (.int kI), .val (.int dI)] [(.int (-1 : Int32)), (.int (F 7 kz))]))
  cases oz with
  | none =>
    have hq : F 7 kz = -1 := hl
    refine own_st (fun _ kq_ => XS.icmpNo X53.here hx rfl (hb hby d8_9) rfl (teq hq).2 kq_) ?_
    show OwnG _ _ _ _ _ _ _ (T53.setTop (mkF m 12 #[.val (.ref (A 3)), .val (.ref (A 6)), .val (.ref (A 7)), .val (.int kI), .val (.int dI)] []))
    refine own_st (fun _ kq_ => XS.aloadN X53.here hx rfl (hb hby d8_12) rfl rfl kq_) ?_
    show OwnG _ _ _ _ _ _ _ (T53.setTop (mkF m 13 #[.val (.ref (A 3)), .val (.ref (A 6)), .val (.ref (A 7)), .val (.int kI), .val (.int dI)] [(.ref (A 6))]))
    refine own_st (fun _ kq_ => XS.iloadN X53.here hx rfl (hb hby d8_13) rfl kq_) ?_
    show OwnG _ _ _ _ _ _ _ (T53.setTop (mkF m 14 #[.val (.ref (A 3)), .val (.ref (A 6)), .val (.ref (A 7)), .val (.int kI), .val (.int dI)] [(.int kI), (.ref (A 6))]))
    refine own_st (fun _ kq_ => XS.iload X53.here hx rfl (hb hby d8_14) rfl kq_) ?_
    show OwnG _ _ _ _ _ _ _ (T53.setTop (mkF m 16 #[.val (.ref (A 3)), .val (.ref (A 6)), .val (.ref (A 7)), .val (.int kI), .val (.int dI)] [(.int dI), (.int kI), (.ref (A 6))]))
    obtain ⟨T54, h54, X54, e54, W54, V54, st54⟩ := own_sI X53 hx hZ e53 (I53.2.2.1 6 (by decide)) (kz) hk (by show kz < 4; omega) (g := (mkF m 16 #[.val (.ref (A 3)), .val (.ref (A 6)), .val (.ref (A 7)), .val (.int kI), .val (.int dI)] [(.int dI), (.int kI), (.ref (A 6))])) rfl rfl (hb hby d8_16)
    have N54 := Fr.snoc X54 N53 (I53.2.2.2.2.2.2.2 6 (by decide))
    refine own_st st54 ?_
    show OwnG _ _ _ _ _ _ _ (T54.setTop (mkF m 17 #[.val (.ref (A 3)), .val (.ref (A 6)), .val (.ref (A 7)), .val (.int kI), .val (.int dI)] []))
    have I54 : LK n0 Z h54 a1 A (own_u2 (own_u2 F 3 dz (-1)) 6 kz dI) cz ft := I53.sto 6 kz dI (by decide) (by show kz < 4; omega) rfl W54
    have S54 : n0 ≤ h54.size := by rw [W54.size]; exact S53
    refine own_st (fun _ kq_ => XS.goto X54.here hx rfl (pc0 := 17) (pc' := 27) rfl (hb hby d8_17) (by decide) (by decide) kq_) ?_
    show OwnG _ _ _ _ _ _ _ (T54.setTop (mkF m 27 #[.val (.ref (A 3)), .val (.ref (A 6)), .val (.ref (A 7)), .val (.int kI), .val (.int dI)] []))
    refine own_st (fun _ kq_ => XS.aloadN X54.here hx rfl (hb hby d8_27) rfl rfl kq_) ?_
    show OwnG _ _ _ _ _ _ _ (T54.setTop (mkF m 28 #[.val (.ref (A 3)), .val (.ref (A 6)), .val (.ref (A 7)), .val (.int kI), .val (.int dI)] [(.ref (A 7))]))
    refine own_st (fun _ kq_ => XS.iloadN X54.here hx rfl (hb hby d8_28) rfl kq_) ?_
    show OwnG _ _ _ _ _ _ _ (T54.setTop (mkF m 29 #[.val (.ref (A 3)), .val (.ref (A 6)), .val (.ref (A 7)), .val (.int kI), .val (.int dI)] [(.int kI), (.ref (A 7))]))
    refine own_st (fun _ kq_ => XS.iload X54.here hx rfl (hb hby d8_29) rfl kq_) ?_
    show OwnG _ _ _ _ _ _ _ (T54.setTop (mkF m 31 #[.val (.ref (A 3)), .val (.ref (A 6)), .val (.ref (A 7)), .val (.int kI), .val (.int dI)] [(.int dI), (.int kI), (.ref (A 7))]))
    obtain ⟨T55, h55, X55, e55, W55, V55, st55⟩ := own_sI X54 hx hZ e54 (I54.2.2.1 7 (by decide)) (kz) hk (by show kz < 4; omega) (g := (mkF m 31 #[.val (.ref (A 3)), .val (.ref (A 6)), .val (.ref (A 7)), .val (.int kI), .val (.int dI)] [(.int dI), (.int kI), (.ref (A 7))])) rfl rfl (hb hby d8_31)
    have N55 := Fr.snoc X55 N54 (I54.2.2.2.2.2.2.2 7 (by decide))
    refine own_st st55 ?_
    show OwnG _ _ _ _ _ _ _ (T55.setTop (mkF m 32 #[.val (.ref (A 3)), .val (.ref (A 6)), .val (.ref (A 7)), .val (.int kI), .val (.int dI)] []))
    have I55 : LK n0 Z h55 a1 A (own_u2 (own_u2 (own_u2 F 3 dz (-1)) 6 kz dI) 7 kz dI) cz ft := I54.sto 7 kz dI (by decide) (by show kz < 4; omega) rfl W55
    have S55 : n0 ≤ h55.size := by rw [W55.size]; exact S54
    exact own_retV X55 hx hrt hlk (hb hby d8_32) (by decide) (by decide) (by show _ ∧ _; first | (rw [e55]; exact ⟨rfl, N55, S55, I55⟩) | exact ⟨rfl, N55, S55, I55⟩)
  | some d2 =>
    obtain ⟨hd2, hq⟩ := hl
    refine own_st (fun _ kq_ => XS.icmpYes X53.here hx rfl (pc0 := 9) (pc' := 20) rfl (hb hby d8_9) rfl (feq (fun q => by rw [q] at hq; have : (-1 : Int32).toInt = -1 := rfl; omega)).2 (by decide) (by decide) kq_) ?_
    show OwnG _ _ _ _ _ _ _ (T53.setTop (mkF m 20 #[.val (.ref (A 3)), .val (.ref (A 6)), .val (.ref (A 7)), .val (.int kI), .val (.int dI)] []))
    refine own_st (fun _ kq_ => XS.aloadN X53.here hx rfl (hb hby d8_20) rfl rfl kq_) ?_
    show OwnG _ _ _ _ _ _ _ (T53.setTop (mkF m 21 #[.val (.ref (A 3)), .val (.ref (A 6)), .val (.ref (A 7)), .val (.int kI), .val (.int dI)] [(.ref (A 3))]))
    refine own_st (fun _ kq_ => XS.aloadN X53.here hx rfl (hb hby d8_21) rfl rfl kq_) ?_
    show OwnG _ _ _ _ _ _ _ (T53.setTop (mkF m 22 #[.val (.ref (A 3)), .val (.ref (A 6)), .val (.ref (A 7)), .val (.int kI), .val (.int dI)] [(.ref (A 7)), (.ref (A 3))]))
    refine own_st (fun _ kq_ => XS.iloadN X53.here hx rfl (hb hby d8_22) rfl kq_) ?_
    show OwnG _ _ _ _ _ _ _ (T53.setTop (mkF m 23 #[.val (.ref (A 3)), .val (.ref (A 6)), .val (.ref (A 7)), .val (.int kI), .val (.int dI)] [(.int kI), (.ref (A 7)), (.ref (A 3))]))
    refine own_st (own_il X53 hx hZ e53 (I53.2.2.1 7 (by decide)) (kz) hk (by show kz < 4; omega) (congrArg Value.int (own_u2_ne F 3 dz (-1) 7 kz (by decide))) (g := (mkF m 23 #[.val (.ref (A 3)), .val (.ref (A 6)), .val (.ref (A 7)), .val (.int kI), .val (.int dI)] [(.int kI), (.ref (A 7)), (.ref (A 3))])) rfl rfl (hb hby d8_23)) ?_
    show OwnG _ _ _ _ _ _ _ (T53.setTop (mkF m 24 #[.val (.ref (A 3)), .val (.ref (A 6)), .val (.ref (A 7)), .val (.int kI), .val (.int dI)] [(.int (F 7 kz)), (.ref (A 3))]))
    refine own_st (fun _ kq_ => XS.iload X53.here hx rfl (hb hby d8_24) rfl kq_) ?_
    show OwnG _ _ _ _ _ _ _ (T53.setTop (mkF m 26 #[.val (.ref (A 3)), .val (.ref (A 6)), .val (.ref (A 7)), .val (.int kI), .val (.int dI)] [(.int dI), (.int (F 7 kz)), (.ref (A 3))]))
    obtain ⟨T56, h56, X56, e56, W56, V56, st56⟩ := own_sI X53 hx hZ e53 (I53.2.2.1 3 (by decide)) (d2) hq (by show d2 < 8; omega) (g := (mkF m 26 #[.val (.ref (A 3)), .val (.ref (A 6)), .val (.ref (A 7)), .val (.int kI), .val (.int dI)] [(.int dI), (.int (F 7 kz)), (.ref (A 3))])) rfl rfl (hb hby d8_26)
    have N56 := Fr.snoc X56 N53 (I53.2.2.2.2.2.2.2 3 (by decide))
    refine own_st st56 ?_
    show OwnG _ _ _ _ _ _ _ (T56.setTop (mkF m 27 #[.val (.ref (A 3)), .val (.ref (A 6)), .val (.ref (A 7)), .val (.int kI), .val (.int dI)] []))
    have I56 : LK n0 Z h56 a1 A (own_u2 (own_u2 F 3 dz (-1)) 3 d2 dI) cz ft := I53.sto 3 d2 dI (by decide) (by show d2 < 8; omega) rfl W56
    have S56 : n0 ≤ h56.size := by rw [W56.size]; exact S53
    refine own_st (fun _ kq_ => XS.aloadN X56.here hx rfl (hb hby d8_27) rfl rfl kq_) ?_
    show OwnG _ _ _ _ _ _ _ (T56.setTop (mkF m 28 #[.val (.ref (A 3)), .val (.ref (A 6)), .val (.ref (A 7)), .val (.int kI), .val (.int dI)] [(.ref (A 7))]))
    refine own_st (fun _ kq_ => XS.iloadN X56.here hx rfl (hb hby d8_28) rfl kq_) ?_
    show OwnG _ _ _ _ _ _ _ (T56.setTop (mkF m 29 #[.val (.ref (A 3)), .val (.ref (A 6)), .val (.ref (A 7)), .val (.int kI), .val (.int dI)] [(.int kI), (.ref (A 7))]))
    refine own_st (fun _ kq_ => XS.iload X56.here hx rfl (hb hby d8_29) rfl kq_) ?_
    show OwnG _ _ _ _ _ _ _ (T56.setTop (mkF m 31 #[.val (.ref (A 3)), .val (.ref (A 6)), .val (.ref (A 7)), .val (.int kI), .val (.int dI)] [(.int dI), (.int kI), (.ref (A 7))]))
    obtain ⟨T57, h57, X57, e57, W57, V57, st57⟩ := own_sI X56 hx hZ e56 (I56.2.2.1 7 (by decide)) (kz) hk (by show kz < 4; omega) (g := (mkF m 31 #[.val (.ref (A 3)), .val (.ref (A 6)), .val (.ref (A 7)), .val (.int kI), .val (.int dI)] [(.int dI), (.int kI), (.ref (A 7))])) rfl rfl (hb hby d8_31)
    have N57 := Fr.snoc X57 N56 (I56.2.2.2.2.2.2.2 7 (by decide))
    refine own_st st57 ?_
    show OwnG _ _ _ _ _ _ _ (T57.setTop (mkF m 32 #[.val (.ref (A 3)), .val (.ref (A 6)), .val (.ref (A 7)), .val (.int kI), .val (.int dI)] []))
    have I57 : LK n0 Z h57 a1 A (own_u2 (own_u2 (own_u2 F 3 dz (-1)) 3 d2 dI) 7 kz dI) cz ft := I56.sto 7 kz dI (by decide) (by show kz < 4; omega) rfl W57
    have S57 : n0 ≤ h57.size := by rw [W57.size]; exact S56
    exact own_retV X57 hx hrt hlk (hb hby d8_32) (by decide) (by decide) (by show _ ∧ _; first | (rw [e57]; exact ⟨rfl, N57, S57, I57⟩) | exact ⟨rfl, N57, S57, I57⟩)
theorem pn_23b : plainFor (⟨"com/example/triptych/triptych/reasoning/Links", "append", "([I[I[III)V"⟩ : MethodName) = true := by first | exact plainFor_of_name (by first | (simp [plainName, overriddenIn]; done) | decide +kernel) | decide +kernel
theorem ef_23b (m : MethodId) (x0 : Addr) (x1 : Addr) (x2 : Addr) (x3 : Int32) (x4 : Int32) : entryFrame m #[(.ref x0), (.ref x1), (.ref x2), (.int x3), (.int x4)] 5 = mkF m 0 #[.val (.ref x0), .val (.ref x1), .val (.ref x2), .val (.int x3), .val (.int x4)] [] := by first | (simp [entryFrame, mkF, argsToLocals, Value.category]; done) | rfl
def Q23b (Z : State) (a1 : Addr) (A : Nat → Addr) (F : Nat → Nat → Int32) (cz : Nat) (ft : Int32) (kI : Int32) (dI : Int32) (kz : Nat) (dz : Nat) (oz : Option Nat) (h0 : Heap) (n0 : Nat) (v : Option Value) (h : Heap) (L : List Loc) : Prop := v = none ∧ Fr n0 L ∧ n0 ≤ h.size ∧ LK n0 Z h a1 A (own_app F 8 9 kz dz dI oz) cz ft
set_option maxRecDepth 65536 in
set_option maxHeartbeats 40000000 in
theorem rm23b (l : Launch) (Z : State) (a0 : Array Value) (hw : ∀ d ∈ tables_1, d.before a0 Z = true) (ws : List Jvm.Cond) (a1 : Addr) (A : Nat → Addr) (F : Nat → Nat → Int32) (cz : Nat) (ft : Int32) (kI : Int32) (dI : Int32) (kz : Nat) (dz : Nat) (oz : Option Nat) (h0 : Heap) (n0 : Nat) (Z0 : n0 ≤ h0.size) (hk : kI.toInt = (kz : Int)) (hk4 : kz < 4) (hd : dI.toInt = (dz : Int)) (hd8 : dz < 8) (hl : own_hl F 9 kz oz) (I0 : LK n0 Z h0 a1 A F cz ft) :
    MetFree l (⟨"com/example/triptych/triptych/reasoning/Links", "append", "([I[I[III)V"⟩ : MethodName) (head1 (Jvm.Cond.code (⟨"com/example/triptych/triptych/reasoning/Links", "append", "([I[I[III)V"⟩ : MethodName) prog_220_method_23_code 5 none :: ws) ({ frames := 0, cells := 0, slots := 0, locals := 0 } : Room)) (fun a U => a = #[(.ref (A 3)), (.ref (A 8)), (.ref (A 9)), (.int kI), (.int dI)] ∧ Z.Warmed39 U.vm ∧ U.heap = h0) (fun _ _ _ _ _ => True) (fun _ U o U' => ∃ v L, o = .returned v ∧ Q23b Z a1 A F cz ft kI dI kz dz oz h0 n0 v U'.heap L ∧ FrameEnd U o U' L ({ frames := 0, cells := 0, slots := 0, locals := 0 } : Room).cells ({ frames := 0, cells := 0, slots := 0, locals := 0 } : Room).slots) := by
  refine MetFree.of_bodySF pn_23b hisR ?_
  intro p e s m args below meth c s₁ Bd hml0 hP hK
  obtain ⟨rfl, hZ, hh⟩ := hP
  have hx := Bd.exec
  have hby := Bd.bytes
  have hml : c.maxLocals = 5 := hml0
  have hown : s.vm.findClass "com/example/triptych/triptych/reasoning/Links" = some m.cls := findClass_of_methodNamed Bd.named
  have hnm := (name_of_methodNamed Bd.named Bd.method).1
  have hrt := Bd.returns
  have hlk : meth.locks = false := BodyLoose.notSynchronized Bd
  have X0 : Stand p l e ({ frames := 0, cells := 0, slots := 0, locals := 0 } : Room) s m #[(.ref (A 3)), (.ref (A 8)), (.ref (A 9)), (.int kI), (.int dI)] below meth c s₁ [] 0 0 := Stand.of_body Bd
  have e0 : s₁.heap = h0 := by rw [← hh, Bd.state]; rfl
  have N0 := Fr.nil n0
  show OwnG ({ frames := 0, cells := 0, slots := 0, locals := 0 } : Room).cells ({ frames := 0, cells := 0, slots := 0, locals := 0 } : Room).slots (Q23b Z a1 A F cz ft kI dI kz dz oz h0 n0) p e below s (s₁.setTop (entryFrame m #[(.ref (A 3)), (.ref (A 8)), (.ref (A 9)), (.int kI), (.int dI)] 5))
  refine own_st (σ' := s₁.setTop (mkF m 0 #[.val (.ref (A 3)), .val (.ref (A 8)), .val (.ref (A 9)), .val (.int kI), .val (.int dI)] [])) (fun _ kq_ => castTop (ef_23b m (A 3) (A 8) (A 9) kI dI) kq_) ?_
  show OwnG _ _ _ _ _ _ _ (s₁.setTop (mkF m 0 #[.val (.ref (A 3)), .val (.ref (A 8)), .val (.ref (A 9)), .val (.int kI), .val (.int dI)] []))
  refine own_st (fun _ kq_ => XS.aloadN X0.here hx rfl (hb hby d8_0) rfl rfl kq_) ?_
  show OwnG _ _ _ _ _ _ _ (s₁.setTop (mkF m 1 #[.val (.ref (A 3)), .val (.ref (A 8)), .val (.ref (A 9)), .val (.int kI), .val (.int dI)] [(.ref (A 3))]))
  refine own_st (fun _ kq_ => XS.iload X0.here hx rfl (hb hby d8_1) rfl kq_) ?_
  show OwnG _ _ _ _ _ _ _ (s₁.setTop (mkF m 3 #[.val (.ref (A 3)), .val (.ref (A 8)), .val (.ref (A 9)), .val (.int kI), .val (.int dI)] [(.int dI), (.ref (A 3))]))
  refine own_st (fun _ kq_ => XS.iconst X0.here hx rfl (hb hby d8_3) kq_) ?_
  show OwnG _ _ _ _ _ _ _ (s₁.setTop (mkF m 4 #[.val (.ref (A 3)), .val (.ref (A 8)), .val (.ref (A 9)), .val (.int kI), .val (.int dI)] [(.int (-1 : Int32)), (.int dI), (.ref (A 3))]))
  obtain ⟨T58, h58, X58, e58, W58, V58, st58⟩ := own_sI X0 hx hZ e0 (I0.2.2.1 3 (by decide)) (dz) hd (by show dz < 8; omega) (g := (mkF m 4 #[.val (.ref (A 3)), .val (.ref (A 8)), .val (.ref (A 9)), .val (.int kI), .val (.int dI)] [(.int (-1 : Int32)), (.int dI), (.ref (A 3))])) rfl rfl (hb hby d8_4)
  have N58 := Fr.snoc X58 N0 (I0.2.2.2.2.2.2.2 3 (by decide))
  refine own_st st58 ?_
  show OwnG _ _ _ _ _ _ _ (T58.setTop (mkF m 5 #[.val (.ref (A 3)), .val (.ref (A 8)), .val (.ref (A 9)), .val (.int kI), .val (.int dI)] []))
  have I58 : LK n0 Z h58 a1 A (own_u2 F 3 dz (-1)) cz ft := I0.sto 3 dz (-1) (by decide) (by show dz < 8; omega) rfl W58
  have S58 : n0 ≤ h58.size := by rw [W58.size]; exact Z0
  refine own_st (fun _ kq_ => XS.aloadN X58.here hx rfl (hb hby d8_5) rfl rfl kq_) ?_
  show OwnG _ _ _ _ _ _ _ (T58.setTop (mkF m 6 #[.val (.ref (A 3)), .val (.ref (A 8)), .val (.ref (A 9)), .val (.int kI), .val (.int dI)] [(.ref (A 9))]))
  refine own_st (fun _ kq_ => XS.iloadN X58.here hx rfl (hb hby d8_6) rfl kq_) ?_
  show OwnG _ _ _ _ _ _ _ (T58.setTop (mkF m 7 #[.val (.ref (A 3)), .val (.ref (A 8)), .val (.ref (A 9)), .val (.int kI), .val (.int dI)] [(.int kI), (.ref (A 9))]))
  refine own_st (own_il X58 hx hZ e58 (I58.2.2.1 9 (by decide)) (kz) hk (by show kz < 4; omega) (congrArg Value.int (own_u2_ne F 3 dz (-1) 9 kz (by decide))) (g := (mkF m 7 #[.val (.ref (A 3)), .val (.ref (A 8)), .val (.ref (A 9)), .val (.int kI), .val (.int dI)] [(.int kI), (.ref (A 9))])) rfl rfl (hb hby d8_7)) ?_
  show OwnG _ _ _ _ _ _ _ (T58.setTop (mkF m 8 #[.val (.ref (A 3)), .val (.ref (A 8)), .val (.ref (A 9)), .val (.int kI), .val (.int dI)] [(.int (F 9 kz))]))
  refine own_st (fun _ kq_ => XS.iconst X58.here hx rfl (hb hby d8_8) kq_) ?_
  show OwnG _ _ _ _ _ _ _ (T58.setTop (mkF m 9 #[.val (.ref (A 3)), .val (.ref (A 8)), .val (.ref (A 9)), .val (.int kI), .val (.int dI)] [(.int (-1 : Int32)), (.int (F 9 kz))]))
  cases oz with
  | none =>
    have hq : F 9 kz = -1 := hl
    refine own_st (fun _ kq_ => XS.icmpNo X58.here hx rfl (hb hby d8_9) rfl (teq hq).2 kq_) ?_
    show OwnG _ _ _ _ _ _ _ (T58.setTop (mkF m 12 #[.val (.ref (A 3)), .val (.ref (A 8)), .val (.ref (A 9)), .val (.int kI), .val (.int dI)] []))
    refine own_st (fun _ kq_ => XS.aloadN X58.here hx rfl (hb hby d8_12) rfl rfl kq_) ?_
    show OwnG _ _ _ _ _ _ _ (T58.setTop (mkF m 13 #[.val (.ref (A 3)), .val (.ref (A 8)), .val (.ref (A 9)), .val (.int kI), .val (.int dI)] [(.ref (A 8))]))
    refine own_st (fun _ kq_ => XS.iloadN X58.here hx rfl (hb hby d8_13) rfl kq_) ?_
    show OwnG _ _ _ _ _ _ _ (T58.setTop (mkF m 14 #[.val (.ref (A 3)), .val (.ref (A 8)), .val (.ref (A 9)), .val (.int kI), .val (.int dI)] [(.int kI), (.ref (A 8))]))
    refine own_st (fun _ kq_ => XS.iload X58.here hx rfl (hb hby d8_14) rfl kq_) ?_
    show OwnG _ _ _ _ _ _ _ (T58.setTop (mkF m 16 #[.val (.ref (A 3)), .val (.ref (A 8)), .val (.ref (A 9)), .val (.int kI), .val (.int dI)] [(.int dI), (.int kI), (.ref (A 8))]))
    obtain ⟨T59, h59, X59, e59, W59, V59, st59⟩ := own_sI X58 hx hZ e58 (I58.2.2.1 8 (by decide)) (kz) hk (by show kz < 4; omega) (g := (mkF m 16 #[.val (.ref (A 3)), .val (.ref (A 8)), .val (.ref (A 9)), .val (.int kI), .val (.int dI)] [(.int dI), (.int kI), (.ref (A 8))])) rfl rfl (hb hby d8_16)
    have N59 := Fr.snoc X59 N58 (I58.2.2.2.2.2.2.2 8 (by decide))
    refine own_st st59 ?_
    show OwnG _ _ _ _ _ _ _ (T59.setTop (mkF m 17 #[.val (.ref (A 3)), .val (.ref (A 8)), .val (.ref (A 9)), .val (.int kI), .val (.int dI)] []))
    have I59 : LK n0 Z h59 a1 A (own_u2 (own_u2 F 3 dz (-1)) 8 kz dI) cz ft := I58.sto 8 kz dI (by decide) (by show kz < 4; omega) rfl W59
    have S59 : n0 ≤ h59.size := by rw [W59.size]; exact S58
    refine own_st (fun _ kq_ => XS.goto X59.here hx rfl (pc0 := 17) (pc' := 27) rfl (hb hby d8_17) (by decide) (by decide) kq_) ?_
    show OwnG _ _ _ _ _ _ _ (T59.setTop (mkF m 27 #[.val (.ref (A 3)), .val (.ref (A 8)), .val (.ref (A 9)), .val (.int kI), .val (.int dI)] []))
    refine own_st (fun _ kq_ => XS.aloadN X59.here hx rfl (hb hby d8_27) rfl rfl kq_) ?_
    show OwnG _ _ _ _ _ _ _ (T59.setTop (mkF m 28 #[.val (.ref (A 3)), .val (.ref (A 8)), .val (.ref (A 9)), .val (.int kI), .val (.int dI)] [(.ref (A 9))]))
    refine own_st (fun _ kq_ => XS.iloadN X59.here hx rfl (hb hby d8_28) rfl kq_) ?_
    show OwnG _ _ _ _ _ _ _ (T59.setTop (mkF m 29 #[.val (.ref (A 3)), .val (.ref (A 8)), .val (.ref (A 9)), .val (.int kI), .val (.int dI)] [(.int kI), (.ref (A 9))]))
    refine own_st (fun _ kq_ => XS.iload X59.here hx rfl (hb hby d8_29) rfl kq_) ?_
    show OwnG _ _ _ _ _ _ _ (T59.setTop (mkF m 31 #[.val (.ref (A 3)), .val (.ref (A 8)), .val (.ref (A 9)), .val (.int kI), .val (.int dI)] [(.int dI), (.int kI), (.ref (A 9))]))
    obtain ⟨T60, h60, X60, e60, W60, V60, st60⟩ := own_sI X59 hx hZ e59 (I59.2.2.1 9 (by decide)) (kz) hk (by show kz < 4; omega) (g := (mkF m 31 #[.val (.ref (A 3)), .val (.ref (A 8)), .val (.ref (A 9)), .val (.int kI), .val (.int dI)] [(.int dI), (.int kI), (.ref (A 9))])) rfl rfl (hb hby d8_31)
    have N60 := Fr.snoc X60 N59 (I59.2.2.2.2.2.2.2 9 (by decide))
    refine own_st st60 ?_
    show OwnG _ _ _ _ _ _ _ (T60.setTop (mkF m 32 #[.val (.ref (A 3)), .val (.ref (A 8)), .val (.ref (A 9)), .val (.int kI), .val (.int dI)] []))
    have I60 : LK n0 Z h60 a1 A (own_u2 (own_u2 (own_u2 F 3 dz (-1)) 8 kz dI) 9 kz dI) cz ft := I59.sto 9 kz dI (by decide) (by show kz < 4; omega) rfl W60
    have S60 : n0 ≤ h60.size := by rw [W60.size]; exact S59
    exact own_retV X60 hx hrt hlk (hb hby d8_32) (by decide) (by decide) (by show _ ∧ _; first | (rw [e60]; exact ⟨rfl, N60, S60, I60⟩) | exact ⟨rfl, N60, S60, I60⟩)
  | some d2 =>
    obtain ⟨hd2, hq⟩ := hl
    refine own_st (fun _ kq_ => XS.icmpYes X58.here hx rfl (pc0 := 9) (pc' := 20) rfl (hb hby d8_9) rfl (feq (fun q => by rw [q] at hq; have : (-1 : Int32).toInt = -1 := rfl; omega)).2 (by decide) (by decide) kq_) ?_
    show OwnG _ _ _ _ _ _ _ (T58.setTop (mkF m 20 #[.val (.ref (A 3)), .val (.ref (A 8)), .val (.ref (A 9)), .val (.int kI), .val (.int dI)] []))
    refine own_st (fun _ kq_ => XS.aloadN X58.here hx rfl (hb hby d8_20) rfl rfl kq_) ?_
    show OwnG _ _ _ _ _ _ _ (T58.setTop (mkF m 21 #[.val (.ref (A 3)), .val (.ref (A 8)), .val (.ref (A 9)), .val (.int kI), .val (.int dI)] [(.ref (A 3))]))
    refine own_st (fun _ kq_ => XS.aloadN X58.here hx rfl (hb hby d8_21) rfl rfl kq_) ?_
    show OwnG _ _ _ _ _ _ _ (T58.setTop (mkF m 22 #[.val (.ref (A 3)), .val (.ref (A 8)), .val (.ref (A 9)), .val (.int kI), .val (.int dI)] [(.ref (A 9)), (.ref (A 3))]))
    refine own_st (fun _ kq_ => XS.iloadN X58.here hx rfl (hb hby d8_22) rfl kq_) ?_
    show OwnG _ _ _ _ _ _ _ (T58.setTop (mkF m 23 #[.val (.ref (A 3)), .val (.ref (A 8)), .val (.ref (A 9)), .val (.int kI), .val (.int dI)] [(.int kI), (.ref (A 9)), (.ref (A 3))]))
    refine own_st (own_il X58 hx hZ e58 (I58.2.2.1 9 (by decide)) (kz) hk (by show kz < 4; omega) (congrArg Value.int (own_u2_ne F 3 dz (-1) 9 kz (by decide))) (g := (mkF m 23 #[.val (.ref (A 3)), .val (.ref (A 8)), .val (.ref (A 9)), .val (.int kI), .val (.int dI)] [(.int kI), (.ref (A 9)), (.ref (A 3))])) rfl rfl (hb hby d8_23)) ?_
    show OwnG _ _ _ _ _ _ _ (T58.setTop (mkF m 24 #[.val (.ref (A 3)), .val (.ref (A 8)), .val (.ref (A 9)), .val (.int kI), .val (.int dI)] [(.int (F 9 kz)), (.ref (A 3))]))
    refine own_st (fun _ kq_ => XS.iload X58.here hx rfl (hb hby d8_24) rfl kq_) ?_
    show OwnG _ _ _ _ _ _ _ (T58.setTop (mkF m 26 #[.val (.ref (A 3)), .val (.ref (A 8)), .val (.ref (A 9)), .val (.int kI), .val (.int dI)] [(.int dI), (.int (F 9 kz)), (.ref (A 3))]))
    obtain ⟨T61, h61, X61, e61, W61, V61, st61⟩ := own_sI X58 hx hZ e58 (I58.2.2.1 3 (by decide)) (d2) hq (by show d2 < 8; omega) (g := (mkF m 26 #[.val (.ref (A 3)), .val (.ref (A 8)), .val (.ref (A 9)), .val (.int kI), .val (.int dI)] [(.int dI), (.int (F 9 kz)), (.ref (A 3))])) rfl rfl (hb hby d8_26)
    have N61 := Fr.snoc X61 N58 (I58.2.2.2.2.2.2.2 3 (by decide))
    refine own_st st61 ?_
    show OwnG _ _ _ _ _ _ _ (T61.setTop (mkF m 27 #[.val (.ref (A 3)), .val (.ref (A 8)), .val (.ref (A 9)), .val (.int kI), .val (.int dI)] []))
    have I61 : LK n0 Z h61 a1 A (own_u2 (own_u2 F 3 dz (-1)) 3 d2 dI) cz ft := I58.sto 3 d2 dI (by decide) (by show d2 < 8; omega) rfl W61
    have S61 : n0 ≤ h61.size := by rw [W61.size]; exact S58
    refine own_st (fun _ kq_ => XS.aloadN X61.here hx rfl (hb hby d8_27) rfl rfl kq_) ?_
    show OwnG _ _ _ _ _ _ _ (T61.setTop (mkF m 28 #[.val (.ref (A 3)), .val (.ref (A 8)), .val (.ref (A 9)), .val (.int kI), .val (.int dI)] [(.ref (A 9))]))
    refine own_st (fun _ kq_ => XS.iloadN X61.here hx rfl (hb hby d8_28) rfl kq_) ?_
    show OwnG _ _ _ _ _ _ _ (T61.setTop (mkF m 29 #[.val (.ref (A 3)), .val (.ref (A 8)), .val (.ref (A 9)), .val (.int kI), .val (.int dI)] [(.int kI), (.ref (A 9))]))
    refine own_st (fun _ kq_ => XS.iload X61.here hx rfl (hb hby d8_29) rfl kq_) ?_
    show OwnG _ _ _ _ _ _ _ (T61.setTop (mkF m 31 #[.val (.ref (A 3)), .val (.ref (A 8)), .val (.ref (A 9)), .val (.int kI), .val (.int dI)] [(.int dI), (.int kI), (.ref (A 9))]))
    obtain ⟨T62, h62, X62, e62, W62, V62, st62⟩ := own_sI X61 hx hZ e61 (I61.2.2.1 9 (by decide)) (kz) hk (by show kz < 4; omega) (g := (mkF m 31 #[.val (.ref (A 3)), .val (.ref (A 8)), .val (.ref (A 9)), .val (.int kI), .val (.int dI)] [(.int dI), (.int kI), (.ref (A 9))])) rfl rfl (hb hby d8_31)
    have N62 := Fr.snoc X62 N61 (I61.2.2.2.2.2.2.2 9 (by decide))
    refine own_st st62 ?_
    show OwnG _ _ _ _ _ _ _ (T62.setTop (mkF m 32 #[.val (.ref (A 3)), .val (.ref (A 8)), .val (.ref (A 9)), .val (.int kI), .val (.int dI)] []))
    have I62 : LK n0 Z h62 a1 A (own_u2 (own_u2 (own_u2 F 3 dz (-1)) 3 d2 dI) 9 kz dI) cz ft := I61.sto 9 kz dI (by decide) (by show kz < 4; omega) rfl W62
    have S62 : n0 ≤ h62.size := by rw [W62.size]; exact S61
    exact own_retV X62 hx hrt hlk (hb hby d8_32) (by decide) (by decide) (by show _ ∧ _; first | (rw [e62]; exact ⟨rfl, N62, S62, I62⟩) | exact ⟨rfl, N62, S62, I62⟩)
theorem d6_0 : decode prog_220_method_12_code 0 = .ok (.aload_n 0, 1) := by decide +kernel
theorem d6_1 : decode prog_220_method_12_code 1 = .ok (.getfield 7, 3) := by decide +kernel
theorem d6_4 : decode prog_220_method_12_code 4 = .ok (.iload_n 1, 1) := by decide +kernel
theorem d6_5 : decode prog_220_method_12_code 5 = .ok (.iaload, 1) := by decide +kernel
theorem d6_6 : decode prog_220_method_12_code 6 = .ok (.istore_n 2, 1) := by decide +kernel
theorem d6_7 : decode prog_220_method_12_code 7 = .ok (.aload_n 0, 1) := by decide +kernel
theorem d6_8 : decode prog_220_method_12_code 8 = .ok (.iload_n 2, 1) := by decide +kernel
theorem d6_9 : decode prog_220_method_12_code 9 = .ok (.aload_n 0, 1) := by decide +kernel
theorem d6_10 : decode prog_220_method_12_code 10 = .ok (.getfield 13, 3) := by decide +kernel
theorem d6_13 : decode prog_220_method_12_code 13 = .ok (.iload_n 1, 1) := by decide +kernel
theorem d6_14 : decode prog_220_method_12_code 14 = .ok (.iaload, 1) := by decide +kernel
theorem d6_15 : decode prog_220_method_12_code 15 = .ok (.aload_n 0, 1) := by decide +kernel
theorem d6_16 : decode prog_220_method_12_code 16 = .ok (.getfield 16, 3) := by decide +kernel
theorem d6_19 : decode prog_220_method_12_code 19 = .ok (.iload_n 1, 1) := by decide +kernel
theorem d6_20 : decode prog_220_method_12_code 20 = .ok (.iaload, 1) := by decide +kernel
theorem d6_21 : decode prog_220_method_12_code 21 = .ok (.invokevirtual 80, 3) := by decide +kernel
theorem d6_24 : decode prog_220_method_12_code 24 = .ok (.ifCond .eq 11, 3) := by decide +kernel
theorem d6_27 : decode prog_220_method_12_code 27 = .ok (.aload_n 0, 1) := by decide +kernel
theorem d6_28 : decode prog_220_method_12_code 28 = .ok (.getfield 25, 3) := by decide +kernel
theorem d6_31 : decode prog_220_method_12_code 31 = .ok (.iload_n 1, 1) := by decide +kernel
theorem d6_32 : decode prog_220_method_12_code 32 = .ok (.iconst 0, 1) := by decide +kernel
theorem d6_33 : decode prog_220_method_12_code 33 = .ok (.bastore, 1) := by decide +kernel
theorem d6_34 : decode prog_220_method_12_code 34 = .ok (.return_, 1) := by decide +kernel
theorem d6_35 : decode prog_220_method_12_code 35 = .ok (.aload_n 0, 1) := by decide +kernel
theorem d6_36 : decode prog_220_method_12_code 36 = .ok (.getfield 19, 3) := by decide +kernel
theorem d6_39 : decode prog_220_method_12_code 39 = .ok (.aload_n 0, 1) := by decide +kernel
theorem d6_40 : decode prog_220_method_12_code 40 = .ok (.getfield 29, 3) := by decide +kernel
theorem d6_43 : decode prog_220_method_12_code 43 = .ok (.aload_n 0, 1) := by decide +kernel
theorem d6_44 : decode prog_220_method_12_code 44 = .ok (.getfield 32, 3) := by decide +kernel
theorem d6_47 : decode prog_220_method_12_code 47 = .ok (.iload_n 2, 1) := by decide +kernel
theorem d6_48 : decode prog_220_method_12_code 48 = .ok (.iload_n 1, 1) := by decide +kernel
theorem d6_49 : decode prog_220_method_12_code 49 = .ok (.invokestatic 84, 3) := by decide +kernel
theorem d6_52 : decode prog_220_method_12_code 52 = .ok (.return_, 1) := by decide +kernel
theorem pn_12 : plainFor (⟨"com/example/triptych/triptych/reasoning/Links", "chainRole", "(I)V"⟩ : MethodName) = true := by first | exact plainFor_of_name (by first | (simp [plainName, overriddenIn]; done) | decide +kernel) | decide +kernel
theorem ef_12 (m : MethodId) (x0 : Addr) (x1 : Int32) : entryFrame m #[(.ref x0), (.int x1)] 3 = mkF m 0 #[.val (.ref x0), .val (.int x1), .unset] [] := by first | (simp [entryFrame, mkF, argsToLocals, Value.category]; done) | rfl
def Q12 (Z : State) (a1 : Addr) (A : Nat → Addr) (F : Nat → Nat → Int32) (cz : Nat) (ft : Int32) (dI : Int32) (dz : Nat) (sz : Nat) (h0 : Heap) (n0 : Nat) (v : Option Value) (h : Heap) (L : List Loc) : Prop := v = none ∧ Fr n0 L ∧ n0 ≤ h.size ∧ LK n0 Z h a1 A (own_app F 6 7 sz dz dI none) cz ft
set_option maxRecDepth 65536 in
set_option maxHeartbeats 40000000 in
theorem rm12 (l : Launch) (Z : State) (a0 : Array Value) (hw : ∀ d ∈ tables_1, d.before a0 Z = true) (ws : List Jvm.Cond) (a1 : Addr) (A : Nat → Addr) (F : Nat → Nat → Int32) (cz : Nat) (ft : Int32) (dI : Int32) (dz : Nat) (sz : Nat) (h0 : Heap) (n0 : Nat) (Z0 : n0 ≤ h0.size) (hd : dI.toInt = (dz : Int)) (hd8 : dz < 8) (hs : (F 0 dz).toInt = (sz : Int)) (hs4 : sz < 4) (h6 : F 6 sz = -1) (h7 : F 7 sz = -1) (I0 : LK n0 Z h0 a1 A F cz ft) :
    MetFree l (⟨"com/example/triptych/triptych/reasoning/Links", "chainRole", "(I)V"⟩ : MethodName) (head1 (Jvm.Cond.code (⟨"com/example/triptych/triptych/reasoning/Links", "chainRole", "(I)V"⟩ : MethodName) prog_220_method_12_code 3 none :: ws) ({ frames := 1, cells := 0, slots := 0, locals := 16 } : Room)) (fun a U => a = #[(.ref a1), (.int dI)] ∧ Z.Warmed39 U.vm ∧ U.heap = h0) (fun _ _ _ _ _ => True) (fun _ U o U' => ∃ v L, o = .returned v ∧ Q12 Z a1 A F cz ft dI dz sz h0 n0 v U'.heap L ∧ FrameEnd U o U' L ({ frames := 1, cells := 0, slots := 0, locals := 16 } : Room).cells ({ frames := 1, cells := 0, slots := 0, locals := 16 } : Room).slots) := by
  refine MetFree.of_bodySF pn_12 hisR ?_
  intro p e s m args below meth c s₁ Bd hml0 hP hK
  obtain ⟨rfl, hZ, hh⟩ := hP
  have hx := Bd.exec
  have hby := Bd.bytes
  have hml : c.maxLocals = 3 := hml0
  have hown : s.vm.findClass "com/example/triptych/triptych/reasoning/Links" = some m.cls := findClass_of_methodNamed Bd.named
  have hnm := (name_of_methodNamed Bd.named Bd.method).1
  have hrt := Bd.returns
  have hlk : meth.locks = false := BodyLoose.notSynchronized Bd
  have X0 : Stand p l e ({ frames := 1, cells := 0, slots := 0, locals := 16 } : Room) s m #[(.ref a1), (.int dI)] below meth c s₁ [] 0 0 := Stand.of_body Bd
  have e0 : s₁.heap = h0 := by rw [← hh, Bd.state]; rfl
  have N0 := Fr.nil n0
  show OwnG ({ frames := 1, cells := 0, slots := 0, locals := 16 } : Room).cells ({ frames := 1, cells := 0, slots := 0, locals := 16 } : Room).slots (Q12 Z a1 A F cz ft dI dz sz h0 n0) p e below s (s₁.setTop (entryFrame m #[(.ref a1), (.int dI)] 3))
  refine own_st (σ' := s₁.setTop (mkF m 0 #[.val (.ref a1), .val (.int dI), .unset] [])) (fun _ kq_ => castTop (ef_12 m a1 dI) kq_) ?_
  show OwnG _ _ _ _ _ _ _ (s₁.setTop (mkF m 0 #[.val (.ref a1), .val (.int dI), .unset] []))
  refine own_st (fun _ kq_ => XS.aloadN X0.here hx rfl (hb hby d6_0) rfl rfl kq_) ?_
  show OwnG _ _ _ _ _ _ _ (s₁.setTop (mkF m 1 #[.val (.ref a1), .val (.int dI), .unset] [(.ref a1)]))
  obtain ⟨T63, X63, e63, st63⟩ := getF X0 hx hZ hown (host := "") (Or.inl (hw _ (List.mem_of_getElem? (i := 10) rfl))) Via.refl e0 (I0.2.1 0 (by decide)) (g := (mkF m 1 #[.val (.ref a1), .val (.int dI), .unset] [(.ref a1)])) rfl rfl (hb hby d6_1)
  refine own_st st63 ?_
  show OwnG _ _ _ _ _ _ _ (T63.setTop (mkF m 4 #[.val (.ref a1), .val (.int dI), .unset] [(.ref (A 0))]))
  refine own_st (fun _ kq_ => XS.iloadN X63.here hx rfl (hb hby d6_4) rfl kq_) ?_
  show OwnG _ _ _ _ _ _ _ (T63.setTop (mkF m 5 #[.val (.ref a1), .val (.int dI), .unset] [(.int dI), (.ref (A 0))]))
  refine own_st (own_il X63 hx hZ e63 (I0.2.2.1 0 (by decide)) (dz) hd (by show dz < 8; omega) rfl (g := (mkF m 5 #[.val (.ref a1), .val (.int dI), .unset] [(.int dI), (.ref (A 0))])) rfl rfl (hb hby d6_5)) ?_
  show OwnG _ _ _ _ _ _ _ (T63.setTop (mkF m 6 #[.val (.ref a1), .val (.int dI), .unset] [(.int (F 0 dz))]))
  refine own_st (fun _ kq_ => XS.istoreN X63.here hx rfl (hb hby d6_6) rfl (l' := #[.val (.ref a1), .val (.int dI), .val (.int (F 0 dz))]) rfl kq_) ?_
  show OwnG _ _ _ _ _ _ _ (T63.setTop (mkF m 7 #[.val (.ref a1), .val (.int dI), .val (.int (F 0 dz))] []))
  refine own_st (fun _ kq_ => XS.aloadN X63.here hx rfl (hb hby d6_7) rfl rfl kq_) ?_
  show OwnG _ _ _ _ _ _ _ (T63.setTop (mkF m 8 #[.val (.ref a1), .val (.int dI), .val (.int (F 0 dz))] [(.ref a1)]))
  refine own_st (fun _ kq_ => XS.iloadN X63.here hx rfl (hb hby d6_8) rfl kq_) ?_
  show OwnG _ _ _ _ _ _ _ (T63.setTop (mkF m 9 #[.val (.ref a1), .val (.int dI), .val (.int (F 0 dz))] [(.int (F 0 dz)), (.ref a1)]))
  refine own_st (fun _ kq_ => XS.aloadN X63.here hx rfl (hb hby d6_9) rfl rfl kq_) ?_
  show OwnG _ _ _ _ _ _ _ (T63.setTop (mkF m 10 #[.val (.ref a1), .val (.int dI), .val (.int (F 0 dz))] [(.ref a1), (.int (F 0 dz)), (.ref a1)]))
  obtain ⟨T64, X64, e64, st64⟩ := getF X63 hx hZ hown (host := "") (Or.inl (hw _ (List.mem_of_getElem? (i := 12) rfl))) Via.refl e63 (I0.2.1 1 (by decide)) (g := (mkF m 10 #[.val (.ref a1), .val (.int dI), .val (.int (F 0 dz))] [(.ref a1), (.int (F 0 dz)), (.ref a1)])) rfl rfl (hb hby d6_10)
  refine own_st st64 ?_
  show OwnG _ _ _ _ _ _ _ (T64.setTop (mkF m 13 #[.val (.ref a1), .val (.int dI), .val (.int (F 0 dz))] [(.ref (A 1)), (.int (F 0 dz)), (.ref a1)]))
  refine own_st (fun _ kq_ => XS.iloadN X64.here hx rfl (hb hby d6_13) rfl kq_) ?_
  show OwnG _ _ _ _ _ _ _ (T64.setTop (mkF m 14 #[.val (.ref a1), .val (.int dI), .val (.int (F 0 dz))] [(.int dI), (.ref (A 1)), (.int (F 0 dz)), (.ref a1)]))
  refine own_st (own_il X64 hx hZ e64 (I0.2.2.1 1 (by decide)) (dz) hd (by show dz < 8; omega) rfl (g := (mkF m 14 #[.val (.ref a1), .val (.int dI), .val (.int (F 0 dz))] [(.int dI), (.ref (A 1)), (.int (F 0 dz)), (.ref a1)])) rfl rfl (hb hby d6_14)) ?_
  show OwnG _ _ _ _ _ _ _ (T64.setTop (mkF m 15 #[.val (.ref a1), .val (.int dI), .val (.int (F 0 dz))] [(.int (F 1 dz)), (.int (F 0 dz)), (.ref a1)]))
  refine own_st (fun _ kq_ => XS.aloadN X64.here hx rfl (hb hby d6_15) rfl rfl kq_) ?_
  show OwnG _ _ _ _ _ _ _ (T64.setTop (mkF m 16 #[.val (.ref a1), .val (.int dI), .val (.int (F 0 dz))] [(.ref a1), (.int (F 1 dz)), (.int (F 0 dz)), (.ref a1)]))
  obtain ⟨T65, X65, e65, st65⟩ := getF X64 hx hZ hown (host := "") (Or.inl (hw _ (List.mem_of_getElem? (i := 14) rfl))) Via.refl e64 (I0.2.1 2 (by decide)) (g := (mkF m 16 #[.val (.ref a1), .val (.int dI), .val (.int (F 0 dz))] [(.ref a1), (.int (F 1 dz)), (.int (F 0 dz)), (.ref a1)])) rfl rfl (hb hby d6_16)
  refine own_st st65 ?_
  show OwnG _ _ _ _ _ _ _ (T65.setTop (mkF m 19 #[.val (.ref a1), .val (.int dI), .val (.int (F 0 dz))] [(.ref (A 2)), (.int (F 1 dz)), (.int (F 0 dz)), (.ref a1)]))
  refine own_st (fun _ kq_ => XS.iloadN X65.here hx rfl (hb hby d6_19) rfl kq_) ?_
  show OwnG _ _ _ _ _ _ _ (T65.setTop (mkF m 20 #[.val (.ref a1), .val (.int dI), .val (.int (F 0 dz))] [(.int dI), (.ref (A 2)), (.int (F 1 dz)), (.int (F 0 dz)), (.ref a1)]))
  refine own_st (own_il X65 hx hZ e65 (I0.2.2.1 2 (by decide)) (dz) hd (by show dz < 8; omega) rfl (g := (mkF m 20 #[.val (.ref a1), .val (.int dI), .val (.int (F 0 dz))] [(.int dI), (.ref (A 2)), (.int (F 1 dz)), (.int (F 0 dz)), (.ref a1)])) rfl rfl (hb hby d6_20)) ?_
  show OwnG _ _ _ _ _ _ _ (T65.setTop (mkF m 21 #[.val (.ref a1), .val (.int dI), .val (.int (F 0 dz))] [(.int (F 2 dz)), (.int (F 1 dz)), (.int (F 0 dz)), (.ref a1)]))
  obtain ⟨cq66, kq66, q66a, q66b, q66c⟩ := isOf hZ e65 I0.1
  obtain ⟨_, _, ⟨T66, L66, k66, n66⟩, -, X66, ⟨Lc66, hQ66, l66, y66, z66⟩, st66⟩ := X65.virtualBack hx (y := (⟨"com/example/triptych/triptych/reasoning/Links", "leadsTo", "(III)Z"⟩ : MethodName)) (z := (⟨"com/example/triptych/triptych/reasoning/Links", "leadsTo", "(III)Z"⟩ : MethodName)) hown (mvT hZ (hw _ (List.mem_of_getElem? (i := 55) rfl))) (mvT hZ (hw _ (List.mem_of_getElem? (i := 56) rfl))) (notFace_of_selects (args := #[]) (mvT hZ (hw _ (List.mem_of_getElem? (i := 58) rfl)))) (mvT hZ (hw _ (List.mem_of_getElem? (i := 58) rfl))) (mvT hZ (hw _ (List.mem_of_getElem? (i := 57) rfl))) (by decide) (backOf (W := 0) (rm13 l Z a0 hw [] a1 A F cz ft (F 0 dz) (F 1 dz) (F 2 dz) sz h0 n0 Z0 hs hs4 h6 I0) hZ (hw _ (List.mem_of_getElem? (i := 59) rfl)) (hw _ (List.mem_of_getElem? (i := 2) rfl)) (by decide) (by decide)) q66a q66c (g := (mkF m 21 #[.val (.ref a1), .val (.int dI), .val (.int (F 0 dz))] [(.int (F 2 dz)), (.int (F 1 dz)), (.int (F 0 dz)), (.ref a1)])) rfl (by rw [hml]; rfl) (Steps.refl _) (argsL := [(.int (F 0 dz)), (.int (F 1 dz)), (.int (F 2 dz))]) (rest := []) (lenOf (by decide +kernel : parseMethodDescriptor "(III)Z" = some ⟨[.int, .int, .int], some .boolean⟩) rfl) rfl (by show 2 * 0 + _ ≤ _; exact Nat.le_of_eq rfl) (hb hby d6_21) (fun _ _ => ⟨rfl, e65, (by dsimp only [Pt.cells]; decide), (by dsimp only [Pt.slots]; decide)⟩)
  dsimp only [Pt.U, Pt.locs, Pt.cells, Pt.slots] at X66 l66 y66 z66 st66 hQ66
  subst l66 y66 z66
  obtain ⟨rfl, N66q, E66⟩ := hQ66
  have N66 := Fr.app N0 N66q
  refine own_go st66 ?_
  show OwnG _ _ _ _ _ _ _ (T66.setTop (mkF m 24 #[.val (.ref a1), .val (.int dI), .val (.int (F 0 dz))] [(.int (0 : Int32))]))
  refine own_st (fun _ kq_ => XS.ifYes X66.here hx rfl (pc0 := 24) (pc' := 35) rfl (hb hby d6_24) rfl ((if0 _ _).trans (teq rfl).1) (by decide) (by decide) kq_) ?_
  show OwnG _ _ _ _ _ _ _ (T66.setTop (mkF m 35 #[.val (.ref a1), .val (.int dI), .val (.int (F 0 dz))] []))
  refine own_st (fun _ kq_ => XS.aloadN X66.here hx rfl (hb hby d6_35) rfl rfl kq_) ?_
  show OwnG _ _ _ _ _ _ _ (T66.setTop (mkF m 36 #[.val (.ref a1), .val (.int dI), .val (.int (F 0 dz))] [(.ref a1)]))
  obtain ⟨T67, X67, e67, st67⟩ := getF X66 hx hZ hown (host := "") (Or.inl (hw _ (List.mem_of_getElem? (i := 16) rfl))) Via.refl E66 (I0.2.1 3 (by decide)) (g := (mkF m 36 #[.val (.ref a1), .val (.int dI), .val (.int (F 0 dz))] [(.ref a1)])) rfl rfl (hb hby d6_36)
  refine own_st st67 ?_
  show OwnG _ _ _ _ _ _ _ (T67.setTop (mkF m 39 #[.val (.ref a1), .val (.int dI), .val (.int (F 0 dz))] [(.ref (A 3))]))
  refine own_st (fun _ kq_ => XS.aloadN X67.here hx rfl (hb hby d6_39) rfl rfl kq_) ?_
  show OwnG _ _ _ _ _ _ _ (T67.setTop (mkF m 40 #[.val (.ref a1), .val (.int dI), .val (.int (F 0 dz))] [(.ref a1), (.ref (A 3))]))
  obtain ⟨T68, X68, e68, st68⟩ := getF X67 hx hZ hown (host := "") (Or.inl (hw _ (List.mem_of_getElem? (i := 23) rfl))) Via.refl e67 (I0.2.1 6 (by decide)) (g := (mkF m 40 #[.val (.ref a1), .val (.int dI), .val (.int (F 0 dz))] [(.ref a1), (.ref (A 3))])) rfl rfl (hb hby d6_40)
  refine own_st st68 ?_
  show OwnG _ _ _ _ _ _ _ (T68.setTop (mkF m 43 #[.val (.ref a1), .val (.int dI), .val (.int (F 0 dz))] [(.ref (A 6)), (.ref (A 3))]))
  refine own_st (fun _ kq_ => XS.aloadN X68.here hx rfl (hb hby d6_43) rfl rfl kq_) ?_
  show OwnG _ _ _ _ _ _ _ (T68.setTop (mkF m 44 #[.val (.ref a1), .val (.int dI), .val (.int (F 0 dz))] [(.ref a1), (.ref (A 6)), (.ref (A 3))]))
  obtain ⟨T69, X69, e69, st69⟩ := getF X68 hx hZ hown (host := "") (Or.inl (hw _ (List.mem_of_getElem? (i := 25) rfl))) Via.refl e68 (I0.2.1 7 (by decide)) (g := (mkF m 44 #[.val (.ref a1), .val (.int dI), .val (.int (F 0 dz))] [(.ref a1), (.ref (A 6)), (.ref (A 3))])) rfl rfl (hb hby d6_44)
  refine own_st st69 ?_
  show OwnG _ _ _ _ _ _ _ (T69.setTop (mkF m 47 #[.val (.ref a1), .val (.int dI), .val (.int (F 0 dz))] [(.ref (A 7)), (.ref (A 6)), (.ref (A 3))]))
  refine own_st (fun _ kq_ => XS.iloadN X69.here hx rfl (hb hby d6_47) rfl kq_) ?_
  show OwnG _ _ _ _ _ _ _ (T69.setTop (mkF m 48 #[.val (.ref a1), .val (.int dI), .val (.int (F 0 dz))] [(.int (F 0 dz)), (.ref (A 7)), (.ref (A 6)), (.ref (A 3))]))
  refine own_st (fun _ kq_ => XS.iloadN X69.here hx rfl (hb hby d6_48) rfl kq_) ?_
  show OwnG _ _ _ _ _ _ _ (T69.setTop (mkF m 49 #[.val (.ref a1), .val (.int dI), .val (.int (F 0 dz))] [(.int dI), (.int (F 0 dz)), (.ref (A 7)), (.ref (A 6)), (.ref (A 3))]))
  obtain ⟨_, _, ⟨T70, L70, k70, n70⟩, -, X70, ⟨Lc70, hQ70, l70, y70, z70⟩, st70⟩ := Jvm.LawKit.callS X69 hx (y := (⟨"com/example/triptych/triptych/reasoning/Links", "append", "([I[I[III)V"⟩ : MethodName)) hown (mvT hZ (hw _ (List.mem_of_getElem? (i := 60) rfl))) (mvT hZ (hw _ (List.mem_of_getElem? (i := 61) rfl))) (mvT hZ (hw _ (List.mem_of_getElem? (i := 2) rfl))) (mvT hZ (hw _ (List.mem_of_getElem? (i := 62) rfl))) (by decide) (backOf (W := 0) (rm23a l Z a0 hw [] a1 A F cz ft (F 0 dz) dI sz dz none h0 n0 Z0 hs hs4 hd hd8 h7 I0) hZ (hw _ (List.mem_of_getElem? (i := 62) rfl)) (hw _ (List.mem_of_getElem? (i := 2) rfl)) (by decide) (by decide)) (g := (mkF m 49 #[.val (.ref a1), .val (.int dI), .val (.int (F 0 dz))] [(.int dI), (.int (F 0 dz)), (.ref (A 7)), (.ref (A 6)), (.ref (A 3))])) rfl (by rw [hml]; rfl) (argsL := [(.ref (A 3)), (.ref (A 6)), (.ref (A 7)), (.int (F 0 dz)), (.int dI)]) (rest := []) (lenOf (by decide +kernel : parseMethodDescriptor "([I[I[III)V" = some ⟨[(.array .int), (.array .int), (.array .int), .int, .int], none⟩) rfl) rfl (by show 2 * 0 + _ ≤ _; exact Nat.le_of_eq rfl) (hb hby d6_49) (fun _ _ => ⟨rfl, e69, (by dsimp only [Pt.cells]; decide), (by dsimp only [Pt.slots]; decide)⟩)
  dsimp only [Pt.U, Pt.locs, Pt.cells, Pt.slots] at X70 l70 y70 z70 st70 hQ70
  subst l70 y70 z70
  obtain ⟨rfl, N70q, S70, I70⟩ := hQ70
  have N70 := Fr.app N66 N70q
  refine own_st st70 ?_
  show OwnG _ _ _ _ _ _ _ (T70.setTop (mkF m 52 #[.val (.ref a1), .val (.int dI), .val (.int (F 0 dz))] []))
  exact own_retV X70 hx hrt hlk (hb hby d6_52) (by decide) (by decide) (by show _ ∧ _; exact ⟨rfl, N70, S70, I70⟩)
theorem d4_0 : decode prog_220_method_5_code 0 = .ok (.aload_n 0, 1) := by decide +kernel
theorem d4_1 : decode prog_220_method_5_code 1 = .ok (.iload_n 1, 1) := by decide +kernel
theorem d4_2 : decode prog_220_method_5_code 2 = .ok (.iload_n 2, 1) := by decide +kernel
theorem d4_3 : decode prog_220_method_5_code 3 = .ok (.iload_n 3, 1) := by decide +kernel
theorem d4_4 : decode prog_220_method_5_code 4 = .ok (.invokevirtual 64, 3) := by decide +kernel
theorem d4_7 : decode prog_220_method_5_code 7 = .ok (.istore 4, 2) := by decide +kernel
theorem d4_9 : decode prog_220_method_5_code 9 = .ok (.aload_n 0, 1) := by decide +kernel
theorem d4_10 : decode prog_220_method_5_code 10 = .ok (.getfield 25, 3) := by decide +kernel
theorem d4_13 : decode prog_220_method_5_code 13 = .ok (.iload 4, 2) := by decide +kernel
theorem d4_15 : decode prog_220_method_5_code 15 = .ok (.iconst 1, 1) := by decide +kernel
theorem d4_16 : decode prog_220_method_5_code 16 = .ok (.bastore, 1) := by decide +kernel
theorem d4_17 : decode prog_220_method_5_code 17 = .ok (.aload_n 0, 1) := by decide +kernel
theorem d4_18 : decode prog_220_method_5_code 18 = .ok (.iload 4, 2) := by decide +kernel
theorem d4_20 : decode prog_220_method_5_code 20 = .ok (.invokevirtual 68, 3) := by decide +kernel
theorem d4_23 : decode prog_220_method_5_code 23 = .ok (.return_, 1) := by decide +kernel
theorem pn_5 : plainFor (⟨"com/example/triptych/triptych/reasoning/Links", "addRole", "(III)V"⟩ : MethodName) = true := by first | exact plainFor_of_name (by first | (simp [plainName, overriddenIn]; done) | decide +kernel) | decide +kernel
theorem ef_5 (m : MethodId) (x0 : Addr) (x1 : Int32) (x2 : Int32) (x3 : Int32) : entryFrame m #[(.ref x0), (.int x1), (.int x2), (.int x3)] 5 = mkF m 0 #[.val (.ref x0), .val (.int x1), .val (.int x2), .val (.int x3), .unset] [] := by first | (simp [entryFrame, mkF, argsToLocals, Value.category]; done) | rfl
def Q5 (Z : State) (a1 : Addr) (A : Nat → Addr) (F : Nat → Nat → Int32) (cz : Nat) (ft : Int32) (sI : Int32) (fI : Int32) (tI : Int32) (sz : Nat) (h0 : Heap) (n0 : Nat) (v : Option Value) (h : Heap) (L : List Loc) : Prop := v = none ∧ Fr n0 L ∧ n0 ≤ h.size ∧ LK n0 Z h a1 A (own_ar F sz cz sI (Int32.ofNat cz) fI tI) (cz + 1) ft
set_option maxRecDepth 65536 in
set_option maxHeartbeats 40000000 in
theorem rm5 (l : Launch) (Z : State) (a0 : Array Value) (hw : ∀ d ∈ tables_1, d.before a0 Z = true) (ws : List Jvm.Cond) (a1 : Addr) (A : Nat → Addr) (F : Nat → Nat → Int32) (cz : Nat) (ft : Int32) (sI : Int32) (fI : Int32) (tI : Int32) (sz : Nat) (h0 : Heap) (n0 : Nat) (Z0 : n0 ≤ h0.size) (hc : cz < 8) (hs : sI.toInt = (sz : Int)) (hs4 : sz < 4) (h6 : F 6 sz = -1) (h7 : F 7 sz = -1) (I0 : LK n0 Z h0 a1 A F cz ft) (ga : n0 ≤ a1) :
    MetFree l (⟨"com/example/triptych/triptych/reasoning/Links", "addRole", "(III)V"⟩ : MethodName) (head1 (Jvm.Cond.code (⟨"com/example/triptych/triptych/reasoning/Links", "addRole", "(III)V"⟩ : MethodName) prog_220_method_5_code 5 none :: ws) ({ frames := 2, cells := 0, slots := 0, locals := 30 } : Room)) (fun a U => a = #[(.ref a1), (.int sI), (.int fI), (.int tI)] ∧ Z.Warmed39 U.vm ∧ U.heap = h0) (fun _ _ _ _ _ => True) (fun _ U o U' => ∃ v L, o = .returned v ∧ Q5 Z a1 A F cz ft sI fI tI sz h0 n0 v U'.heap L ∧ FrameEnd U o U' L ({ frames := 2, cells := 0, slots := 0, locals := 30 } : Room).cells ({ frames := 2, cells := 0, slots := 0, locals := 30 } : Room).slots) := by
  refine MetFree.of_bodySF pn_5 hisR ?_
  intro p e s m args below meth c s₁ Bd hml0 hP hK
  obtain ⟨rfl, hZ, hh⟩ := hP
  have hx := Bd.exec
  have hby := Bd.bytes
  have hml : c.maxLocals = 5 := hml0
  have hown : s.vm.findClass "com/example/triptych/triptych/reasoning/Links" = some m.cls := findClass_of_methodNamed Bd.named
  have hnm := (name_of_methodNamed Bd.named Bd.method).1
  have hrt := Bd.returns
  have hlk : meth.locks = false := BodyLoose.notSynchronized Bd
  have X0 : Stand p l e ({ frames := 2, cells := 0, slots := 0, locals := 30 } : Room) s m #[(.ref a1), (.int sI), (.int fI), (.int tI)] below meth c s₁ [] 0 0 := Stand.of_body Bd
  have e0 : s₁.heap = h0 := by rw [← hh, Bd.state]; rfl
  have N0 := Fr.nil n0
  show OwnG ({ frames := 2, cells := 0, slots := 0, locals := 30 } : Room).cells ({ frames := 2, cells := 0, slots := 0, locals := 30 } : Room).slots (Q5 Z a1 A F cz ft sI fI tI sz h0 n0) p e below s (s₁.setTop (entryFrame m #[(.ref a1), (.int sI), (.int fI), (.int tI)] 5))
  refine own_st (σ' := s₁.setTop (mkF m 0 #[.val (.ref a1), .val (.int sI), .val (.int fI), .val (.int tI), .unset] [])) (fun _ kq_ => castTop (ef_5 m a1 sI fI tI) kq_) ?_
  show OwnG _ _ _ _ _ _ _ (s₁.setTop (mkF m 0 #[.val (.ref a1), .val (.int sI), .val (.int fI), .val (.int tI), .unset] []))
  have hci := own_to cz (by omega)
  refine own_st (fun _ kq_ => XS.aloadN X0.here hx rfl (hb hby d4_0) rfl rfl kq_) ?_
  show OwnG _ _ _ _ _ _ _ (s₁.setTop (mkF m 1 #[.val (.ref a1), .val (.int sI), .val (.int fI), .val (.int tI), .unset] [(.ref a1)]))
  refine own_st (fun _ kq_ => XS.iloadN X0.here hx rfl (hb hby d4_1) rfl kq_) ?_
  show OwnG _ _ _ _ _ _ _ (s₁.setTop (mkF m 2 #[.val (.ref a1), .val (.int sI), .val (.int fI), .val (.int tI), .unset] [(.int sI), (.ref a1)]))
  refine own_st (fun _ kq_ => XS.iloadN X0.here hx rfl (hb hby d4_2) rfl kq_) ?_
  show OwnG _ _ _ _ _ _ _ (s₁.setTop (mkF m 3 #[.val (.ref a1), .val (.int sI), .val (.int fI), .val (.int tI), .unset] [(.int fI), (.int sI), (.ref a1)]))
  refine own_st (fun _ kq_ => XS.iloadN X0.here hx rfl (hb hby d4_3) rfl kq_) ?_
  show OwnG _ _ _ _ _ _ _ (s₁.setTop (mkF m 4 #[.val (.ref a1), .val (.int sI), .val (.int fI), .val (.int tI), .unset] [(.int tI), (.int fI), (.int sI), (.ref a1)]))
  obtain ⟨cq71, q71, q71'⟩ := I0.1.cell
  obtain ⟨_, _, ⟨T71, L71, k71, n71⟩, -, X71, ⟨Lc71, hQ71, l71, y71, z71⟩, st71⟩ := X0.privateBack hx (y := (⟨"com/example/triptych/triptych/reasoning/Links", "newLink", "(III)I"⟩ : MethodName)) hown (mvT hZ (hw _ (List.mem_of_getElem? (i := 45) rfl))) (mvT hZ (hw _ (List.mem_of_getElem? (i := 46) rfl))) (own_sel (y := (⟨"com/example/triptych/triptych/reasoning/Links", "newLink", "(III)I"⟩ : MethodName)) (mvT hZ (hw _ (List.mem_of_getElem? (i := 1) rfl))) (Cond.privateMethod_at (mvP hZ (hw _ (List.mem_of_getElem? (i := 47) rfl)) (args := #[]))) (mvT hZ (hw _ (List.mem_of_getElem? (i := 46) rfl))) (by decide)) (Cond.privateMethod_at (mvP hZ (hw _ (List.mem_of_getElem? (i := 47) rfl)) (args := #[]))) (mvT hZ (hw _ (List.mem_of_getElem? (i := 48) rfl))) (by decide) (backOf (W := 0) (rm20 l Z a0 hw [] a1 A F cz ft sI fI tI h0 n0 Z0 hc I0 ga) hZ (hw _ (List.mem_of_getElem? (i := 48) rfl)) (hw _ (List.mem_of_getElem? (i := 2) rfl)) (by decide) (by decide)) (g := (mkF m 4 #[.val (.ref a1), .val (.int sI), .val (.int fI), .val (.int tI), .unset] [(.int tI), (.int fI), (.int sI), (.ref a1)])) rfl (by rw [hml]; rfl) (Steps.refl _) (a := a1) (by rw [e0]; exact q71) q71' (argsL := [(.int sI), (.int fI), (.int tI)]) (rest := []) (lenOf (by decide +kernel : parseMethodDescriptor "(III)I" = some ⟨[.int, .int, .int], some .int⟩) rfl) rfl (by show 2 * 0 + _ ≤ _; exact Nat.le_of_eq rfl) (hb hby d4_4) (fun _ _ => ⟨rfl, e0, (by dsimp only [Pt.cells]; decide), (by dsimp only [Pt.slots]; decide)⟩)
  dsimp only [Pt.U, Pt.locs, Pt.cells, Pt.slots] at X71 l71 y71 z71 st71 hQ71
  subst l71 y71 z71
  obtain ⟨rfl, N71q, S71, I71⟩ := hQ71
  have N71 := Fr.app N0 N71q
  refine own_go st71 ?_
  show OwnG _ _ _ _ _ _ _ (T71.setTop (mkF m 7 #[.val (.ref a1), .val (.int sI), .val (.int fI), .val (.int tI), .unset] [(.int (Int32.ofNat cz))]))
  refine own_st (fun _ kq_ => XS.istore X71.here hx rfl (hb hby d4_7) rfl (l' := #[.val (.ref a1), .val (.int sI), .val (.int fI), .val (.int tI), .val (.int (Int32.ofNat cz))]) rfl kq_) ?_
  show OwnG _ _ _ _ _ _ _ (T71.setTop (mkF m 9 #[.val (.ref a1), .val (.int sI), .val (.int fI), .val (.int tI), .val (.int (Int32.ofNat cz))] []))
  refine own_st (fun _ kq_ => XS.aloadN X71.here hx rfl (hb hby d4_9) rfl rfl kq_) ?_
  show OwnG _ _ _ _ _ _ _ (T71.setTop (mkF m 10 #[.val (.ref a1), .val (.int sI), .val (.int fI), .val (.int tI), .val (.int (Int32.ofNat cz))] [(.ref a1)]))
  obtain ⟨T72, X72, e72, st72⟩ := getF X71 hx hZ hown (host := "") (Or.inl (hw _ (List.mem_of_getElem? (i := 21) rfl))) Via.refl rfl (I71.2.1 5 (by decide)) (g := (mkF m 10 #[.val (.ref a1), .val (.int sI), .val (.int fI), .val (.int tI), .val (.int (Int32.ofNat cz))] [(.ref a1)])) rfl rfl (hb hby d4_10)
  refine own_st st72 ?_
  show OwnG _ _ _ _ _ _ _ (T72.setTop (mkF m 13 #[.val (.ref a1), .val (.int sI), .val (.int fI), .val (.int tI), .val (.int (Int32.ofNat cz))] [(.ref (A 5))]))
  refine own_st (fun _ kq_ => XS.iload X72.here hx rfl (hb hby d4_13) rfl kq_) ?_
  show OwnG _ _ _ _ _ _ _ (T72.setTop (mkF m 15 #[.val (.ref a1), .val (.int sI), .val (.int fI), .val (.int tI), .val (.int (Int32.ofNat cz))] [(.int (Int32.ofNat cz)), (.ref (A 5))]))
  refine own_st (fun _ kq_ => XS.iconst X72.here hx rfl (hb hby d4_15) kq_) ?_
  show OwnG _ _ _ _ _ _ _ (T72.setTop (mkF m 16 #[.val (.ref a1), .val (.int sI), .val (.int fI), .val (.int tI), .val (.int (Int32.ofNat cz))] [(.int (1 : Int32)), (.int (Int32.ofNat cz)), (.ref (A 5))]))
  obtain ⟨T73, h73, X73, e73, W73, V73, st73⟩ := own_sZ X72 hx hZ e72 (I71.2.2.1 5 (by decide)) (cz) hci (by show cz < 8; omega) (g := (mkF m 16 #[.val (.ref a1), .val (.int sI), .val (.int fI), .val (.int tI), .val (.int (Int32.ofNat cz))] [(.int (1 : Int32)), (.int (Int32.ofNat cz)), (.ref (A 5))])) rfl rfl (hb hby d4_16)
  have N73 := Fr.snoc X73 N71 (I71.2.2.2.2.2.2.2 5 (by decide))
  refine own_st st73 ?_
  show OwnG _ _ _ _ _ _ _ (T73.setTop (mkF m 17 #[.val (.ref a1), .val (.int sI), .val (.int fI), .val (.int tI), .val (.int (Int32.ofNat cz))] []))
  have I73 : LK n0 Z h73 a1 A (own_u2 (own_nl F cz sI fI tI) 5 cz 1) (cz + 1) ft := I71.sto 5 cz 1 (by decide) (by show cz < 8; omega) rfl W73
  have S73 : n0 ≤ h73.size := by rw [W73.size]; exact S71
  refine own_st (fun _ kq_ => XS.aloadN X73.here hx rfl (hb hby d4_17) rfl rfl kq_) ?_
  show OwnG _ _ _ _ _ _ _ (T73.setTop (mkF m 18 #[.val (.ref a1), .val (.int sI), .val (.int fI), .val (.int tI), .val (.int (Int32.ofNat cz))] [(.ref a1)]))
  refine own_st (fun _ kq_ => XS.iload X73.here hx rfl (hb hby d4_18) rfl kq_) ?_
  show OwnG _ _ _ _ _ _ _ (T73.setTop (mkF m 20 #[.val (.ref a1), .val (.int sI), .val (.int fI), .val (.int tI), .val (.int (Int32.ofNat cz))] [(.int (Int32.ofNat cz)), (.ref a1)]))
  obtain ⟨cq74, q74, q74'⟩ := I73.1.cell
  obtain ⟨_, _, ⟨T74, L74, k74, n74⟩, -, X74, ⟨Lc74, hQ74, l74, y74, z74⟩, st74⟩ := X73.privateBack hx (y := (⟨"com/example/triptych/triptych/reasoning/Links", "chainRole", "(I)V"⟩ : MethodName)) hown (mvT hZ (hw _ (List.mem_of_getElem? (i := 51) rfl))) (mvT hZ (hw _ (List.mem_of_getElem? (i := 52) rfl))) (own_sel (y := (⟨"com/example/triptych/triptych/reasoning/Links", "chainRole", "(I)V"⟩ : MethodName)) (mvT hZ (hw _ (List.mem_of_getElem? (i := 1) rfl))) (Cond.privateMethod_at (mvP hZ (hw _ (List.mem_of_getElem? (i := 53) rfl)) (args := #[]))) (mvT hZ (hw _ (List.mem_of_getElem? (i := 52) rfl))) (by decide)) (Cond.privateMethod_at (mvP hZ (hw _ (List.mem_of_getElem? (i := 53) rfl)) (args := #[]))) (mvT hZ (hw _ (List.mem_of_getElem? (i := 54) rfl))) (by decide) (backOf (W := 0) (rm12 l Z a0 hw [] a1 A (own_u2 (own_nl F cz sI fI tI) 5 cz 1) (cz + 1) ft (Int32.ofNat cz) cz sz h73 n0 S73 hci hc (by simp only [own_nl, own_u2]; simp; exact hs) hs4 h6 h7 I73) hZ (hw _ (List.mem_of_getElem? (i := 54) rfl)) (hw _ (List.mem_of_getElem? (i := 2) rfl)) (by decide) (by decide)) (g := (mkF m 20 #[.val (.ref a1), .val (.int sI), .val (.int fI), .val (.int tI), .val (.int (Int32.ofNat cz))] [(.int (Int32.ofNat cz)), (.ref a1)])) rfl (by rw [hml]; rfl) (Steps.refl _) (a := a1) (by rw [e73]; exact q74) q74' (argsL := [(.int (Int32.ofNat cz))]) (rest := []) (lenOf (by decide +kernel : parseMethodDescriptor "(I)V" = some ⟨[.int], none⟩) rfl) rfl (by show 2 * 0 + _ ≤ _; exact Nat.le_of_eq rfl) (hb hby d4_20) (fun _ _ => ⟨rfl, e73, (by dsimp only [Pt.cells]; decide), (by dsimp only [Pt.slots]; decide)⟩)
  dsimp only [Pt.U, Pt.locs, Pt.cells, Pt.slots] at X74 l74 y74 z74 st74 hQ74
  subst l74 y74 z74
  obtain ⟨rfl, N74q, S74, I74⟩ := hQ74
  have N74 := Fr.app N73 N74q
  refine own_go st74 ?_
  show OwnG _ _ _ _ _ _ _ (T74.setTop (mkF m 23 #[.val (.ref a1), .val (.int sI), .val (.int fI), .val (.int tI), .val (.int (Int32.ofNat cz))] []))
  exact own_retV X74 hx hrt hlk (hb hby d4_23) (by decide) (by decide) (by show _ ∧ _; exact ⟨rfl, N74, S74, I74⟩)
theorem d11_0 : decode prog_220_method_22_code 0 = .ok (.aload_n 0, 1) := by decide +kernel
theorem d11_1 : decode prog_220_method_22_code 1 = .ok (.getfield 7, 3) := by decide +kernel
theorem d11_4 : decode prog_220_method_22_code 4 = .ok (.iload_n 2, 1) := by decide +kernel
theorem d11_5 : decode prog_220_method_22_code 5 = .ok (.iload_n 1, 1) := by decide +kernel
theorem d11_6 : decode prog_220_method_22_code 6 = .ok (.iastore, 1) := by decide +kernel
theorem d11_7 : decode prog_220_method_22_code 7 = .ok (.aload_n 0, 1) := by decide +kernel
theorem d11_8 : decode prog_220_method_22_code 8 = .ok (.getfield 19, 3) := by decide +kernel
theorem d11_11 : decode prog_220_method_22_code 11 = .ok (.aload_n 0, 1) := by decide +kernel
theorem d11_12 : decode prog_220_method_22_code 12 = .ok (.getfield 35, 3) := by decide +kernel
theorem d11_15 : decode prog_220_method_22_code 15 = .ok (.aload_n 0, 1) := by decide +kernel
theorem d11_16 : decode prog_220_method_22_code 16 = .ok (.getfield 38, 3) := by decide +kernel
theorem d11_19 : decode prog_220_method_22_code 19 = .ok (.iload_n 1, 1) := by decide +kernel
theorem d11_20 : decode prog_220_method_22_code 20 = .ok (.iload_n 2, 1) := by decide +kernel
theorem d11_21 : decode prog_220_method_22_code 21 = .ok (.invokestatic 84, 3) := by decide +kernel
theorem d11_24 : decode prog_220_method_22_code 24 = .ok (.return_, 1) := by decide +kernel
theorem pn_22 : plainFor (⟨"com/example/triptych/triptych/reasoning/Links", "chainFeature", "(II)V"⟩ : MethodName) = true := by first | exact plainFor_of_name (by first | (simp [plainName, overriddenIn]; done) | decide +kernel) | decide +kernel
theorem ef_22 (m : MethodId) (x0 : Addr) (x1 : Int32) (x2 : Int32) : entryFrame m #[(.ref x0), (.int x1), (.int x2)] 3 = mkF m 0 #[.val (.ref x0), .val (.int x1), .val (.int x2)] [] := by first | (simp [entryFrame, mkF, argsToLocals, Value.category]; done) | rfl
def Q22 (Z : State) (a1 : Addr) (A : Nat → Addr) (F : Nat → Nat → Int32) (cz : Nat) (ft : Int32) (sI : Int32) (dI : Int32) (sz : Nat) (dz : Nat) (oz : Option Nat) (h0 : Heap) (n0 : Nat) (v : Option Value) (h : Heap) (L : List Loc) : Prop := v = none ∧ Fr n0 L ∧ n0 ≤ h.size ∧ LK n0 Z h a1 A (own_app (own_u2 F 0 dz sI) 8 9 sz dz dI oz) cz ft
set_option maxRecDepth 65536 in
set_option maxHeartbeats 40000000 in
theorem rm22 (l : Launch) (Z : State) (a0 : Array Value) (hw : ∀ d ∈ tables_1, d.before a0 Z = true) (ws : List Jvm.Cond) (a1 : Addr) (A : Nat → Addr) (F : Nat → Nat → Int32) (cz : Nat) (ft : Int32) (sI : Int32) (dI : Int32) (sz : Nat) (dz : Nat) (oz : Option Nat) (h0 : Heap) (n0 : Nat) (Z0 : n0 ≤ h0.size) (hs : sI.toInt = (sz : Int)) (hs4 : sz < 4) (hd : dI.toInt = (dz : Int)) (hd8 : dz < 8) (hl : own_hl F 9 sz oz) (I0 : LK n0 Z h0 a1 A F cz ft) :
    MetFree l (⟨"com/example/triptych/triptych/reasoning/Links", "chainFeature", "(II)V"⟩ : MethodName) (head1 (Jvm.Cond.code (⟨"com/example/triptych/triptych/reasoning/Links", "chainFeature", "(II)V"⟩ : MethodName) prog_220_method_22_code 3 none :: ws) ({ frames := 1, cells := 0, slots := 0, locals := 16 } : Room)) (fun a U => a = #[(.ref a1), (.int sI), (.int dI)] ∧ Z.Warmed39 U.vm ∧ U.heap = h0) (fun _ _ _ _ _ => True) (fun _ U o U' => ∃ v L, o = .returned v ∧ Q22 Z a1 A F cz ft sI dI sz dz oz h0 n0 v U'.heap L ∧ FrameEnd U o U' L ({ frames := 1, cells := 0, slots := 0, locals := 16 } : Room).cells ({ frames := 1, cells := 0, slots := 0, locals := 16 } : Room).slots) := by
  refine MetFree.of_bodySF pn_22 hisR ?_
  intro p e s m args below meth c s₁ Bd hml0 hP hK
  obtain ⟨rfl, hZ, hh⟩ := hP
  have hx := Bd.exec
  have hby := Bd.bytes
  have hml : c.maxLocals = 3 := hml0
  have hown : s.vm.findClass "com/example/triptych/triptych/reasoning/Links" = some m.cls := findClass_of_methodNamed Bd.named
  have hnm := (name_of_methodNamed Bd.named Bd.method).1
  have hrt := Bd.returns
  have hlk : meth.locks = false := BodyLoose.notSynchronized Bd
  have X0 : Stand p l e ({ frames := 1, cells := 0, slots := 0, locals := 16 } : Room) s m #[(.ref a1), (.int sI), (.int dI)] below meth c s₁ [] 0 0 := Stand.of_body Bd
  have e0 : s₁.heap = h0 := by rw [← hh, Bd.state]; rfl
  have N0 := Fr.nil n0
  show OwnG ({ frames := 1, cells := 0, slots := 0, locals := 16 } : Room).cells ({ frames := 1, cells := 0, slots := 0, locals := 16 } : Room).slots (Q22 Z a1 A F cz ft sI dI sz dz oz h0 n0) p e below s (s₁.setTop (entryFrame m #[(.ref a1), (.int sI), (.int dI)] 3))
  refine own_st (σ' := s₁.setTop (mkF m 0 #[.val (.ref a1), .val (.int sI), .val (.int dI)] [])) (fun _ kq_ => castTop (ef_22 m a1 sI dI) kq_) ?_
  show OwnG _ _ _ _ _ _ _ (s₁.setTop (mkF m 0 #[.val (.ref a1), .val (.int sI), .val (.int dI)] []))
  refine own_st (fun _ kq_ => XS.aloadN X0.here hx rfl (hb hby d11_0) rfl rfl kq_) ?_
  show OwnG _ _ _ _ _ _ _ (s₁.setTop (mkF m 1 #[.val (.ref a1), .val (.int sI), .val (.int dI)] [(.ref a1)]))
  obtain ⟨T75, X75, e75, st75⟩ := getF X0 hx hZ hown (host := "") (Or.inl (hw _ (List.mem_of_getElem? (i := 10) rfl))) Via.refl e0 (I0.2.1 0 (by decide)) (g := (mkF m 1 #[.val (.ref a1), .val (.int sI), .val (.int dI)] [(.ref a1)])) rfl rfl (hb hby d11_1)
  refine own_st st75 ?_
  show OwnG _ _ _ _ _ _ _ (T75.setTop (mkF m 4 #[.val (.ref a1), .val (.int sI), .val (.int dI)] [(.ref (A 0))]))
  refine own_st (fun _ kq_ => XS.iloadN X75.here hx rfl (hb hby d11_4) rfl kq_) ?_
  show OwnG _ _ _ _ _ _ _ (T75.setTop (mkF m 5 #[.val (.ref a1), .val (.int sI), .val (.int dI)] [(.int dI), (.ref (A 0))]))
  refine own_st (fun _ kq_ => XS.iloadN X75.here hx rfl (hb hby d11_5) rfl kq_) ?_
  show OwnG _ _ _ _ _ _ _ (T75.setTop (mkF m 6 #[.val (.ref a1), .val (.int sI), .val (.int dI)] [(.int sI), (.int dI), (.ref (A 0))]))
  obtain ⟨T76, h76, X76, e76, W76, V76, st76⟩ := own_sI X75 hx hZ e75 (I0.2.2.1 0 (by decide)) (dz) hd (by show dz < 8; omega) (g := (mkF m 6 #[.val (.ref a1), .val (.int sI), .val (.int dI)] [(.int sI), (.int dI), (.ref (A 0))])) rfl rfl (hb hby d11_6)
  have N76 := Fr.snoc X76 N0 (I0.2.2.2.2.2.2.2 0 (by decide))
  refine own_st st76 ?_
  show OwnG _ _ _ _ _ _ _ (T76.setTop (mkF m 7 #[.val (.ref a1), .val (.int sI), .val (.int dI)] []))
  have I76 : LK n0 Z h76 a1 A (own_u2 F 0 dz sI) cz ft := I0.sto 0 dz sI (by decide) (by show dz < 8; omega) rfl W76
  have S76 : n0 ≤ h76.size := by rw [W76.size]; exact Z0
  refine own_st (fun _ kq_ => XS.aloadN X76.here hx rfl (hb hby d11_7) rfl rfl kq_) ?_
  show OwnG _ _ _ _ _ _ _ (T76.setTop (mkF m 8 #[.val (.ref a1), .val (.int sI), .val (.int dI)] [(.ref a1)]))
  obtain ⟨T77, X77, e77, st77⟩ := getF X76 hx hZ hown (host := "") (Or.inl (hw _ (List.mem_of_getElem? (i := 16) rfl))) Via.refl e76 (I76.2.1 3 (by decide)) (g := (mkF m 8 #[.val (.ref a1), .val (.int sI), .val (.int dI)] [(.ref a1)])) rfl rfl (hb hby d11_8)
  refine own_st st77 ?_
  show OwnG _ _ _ _ _ _ _ (T77.setTop (mkF m 11 #[.val (.ref a1), .val (.int sI), .val (.int dI)] [(.ref (A 3))]))
  refine own_st (fun _ kq_ => XS.aloadN X77.here hx rfl (hb hby d11_11) rfl rfl kq_) ?_
  show OwnG _ _ _ _ _ _ _ (T77.setTop (mkF m 12 #[.val (.ref a1), .val (.int sI), .val (.int dI)] [(.ref a1), (.ref (A 3))]))
  obtain ⟨T78, X78, e78, st78⟩ := getF X77 hx hZ hown (host := "") (Or.inl (hw _ (List.mem_of_getElem? (i := 27) rfl))) Via.refl e77 (I76.2.1 8 (by decide)) (g := (mkF m 12 #[.val (.ref a1), .val (.int sI), .val (.int dI)] [(.ref a1), (.ref (A 3))])) rfl rfl (hb hby d11_12)
  refine own_st st78 ?_
  show OwnG _ _ _ _ _ _ _ (T78.setTop (mkF m 15 #[.val (.ref a1), .val (.int sI), .val (.int dI)] [(.ref (A 8)), (.ref (A 3))]))
  refine own_st (fun _ kq_ => XS.aloadN X78.here hx rfl (hb hby d11_15) rfl rfl kq_) ?_
  show OwnG _ _ _ _ _ _ _ (T78.setTop (mkF m 16 #[.val (.ref a1), .val (.int sI), .val (.int dI)] [(.ref a1), (.ref (A 8)), (.ref (A 3))]))
  obtain ⟨T79, X79, e79, st79⟩ := getF X78 hx hZ hown (host := "") (Or.inl (hw _ (List.mem_of_getElem? (i := 29) rfl))) Via.refl e78 (I76.2.1 9 (by decide)) (g := (mkF m 16 #[.val (.ref a1), .val (.int sI), .val (.int dI)] [(.ref a1), (.ref (A 8)), (.ref (A 3))])) rfl rfl (hb hby d11_16)
  refine own_st st79 ?_
  show OwnG _ _ _ _ _ _ _ (T79.setTop (mkF m 19 #[.val (.ref a1), .val (.int sI), .val (.int dI)] [(.ref (A 9)), (.ref (A 8)), (.ref (A 3))]))
  refine own_st (fun _ kq_ => XS.iloadN X79.here hx rfl (hb hby d11_19) rfl kq_) ?_
  show OwnG _ _ _ _ _ _ _ (T79.setTop (mkF m 20 #[.val (.ref a1), .val (.int sI), .val (.int dI)] [(.int sI), (.ref (A 9)), (.ref (A 8)), (.ref (A 3))]))
  refine own_st (fun _ kq_ => XS.iloadN X79.here hx rfl (hb hby d11_20) rfl kq_) ?_
  show OwnG _ _ _ _ _ _ _ (T79.setTop (mkF m 21 #[.val (.ref a1), .val (.int sI), .val (.int dI)] [(.int dI), (.int sI), (.ref (A 9)), (.ref (A 8)), (.ref (A 3))]))
  have hl2 : own_hl (own_u2 F 0 dz sI) 9 sz oz := by cases oz with
    | none => exact hl
    | some d2 => exact hl
  obtain ⟨_, _, ⟨T80, L80, k80, n80⟩, -, X80, ⟨Lc80, hQ80, l80, y80, z80⟩, st80⟩ := Jvm.LawKit.callS X79 hx (y := (⟨"com/example/triptych/triptych/reasoning/Links", "append", "([I[I[III)V"⟩ : MethodName)) hown (mvT hZ (hw _ (List.mem_of_getElem? (i := 60) rfl))) (mvT hZ (hw _ (List.mem_of_getElem? (i := 61) rfl))) (mvT hZ (hw _ (List.mem_of_getElem? (i := 2) rfl))) (mvT hZ (hw _ (List.mem_of_getElem? (i := 62) rfl))) (by decide) (backOf (W := 0) (rm23b l Z a0 hw [] a1 A (own_u2 F 0 dz sI) cz ft sI dI sz dz oz h76 n0 S76 hs hs4 hd hd8 hl2 I76) hZ (hw _ (List.mem_of_getElem? (i := 62) rfl)) (hw _ (List.mem_of_getElem? (i := 2) rfl)) (by decide) (by decide)) (g := (mkF m 21 #[.val (.ref a1), .val (.int sI), .val (.int dI)] [(.int dI), (.int sI), (.ref (A 9)), (.ref (A 8)), (.ref (A 3))])) rfl (by rw [hml]; rfl) (argsL := [(.ref (A 3)), (.ref (A 8)), (.ref (A 9)), (.int sI), (.int dI)]) (rest := []) (lenOf (by decide +kernel : parseMethodDescriptor "([I[I[III)V" = some ⟨[(.array .int), (.array .int), (.array .int), .int, .int], none⟩) rfl) rfl (by show 2 * 0 + _ ≤ _; exact Nat.le_of_eq rfl) (hb hby d11_21) (fun _ _ => ⟨rfl, e79, (by dsimp only [Pt.cells]; decide), (by dsimp only [Pt.slots]; decide)⟩)
  dsimp only [Pt.U, Pt.locs, Pt.cells, Pt.slots] at X80 l80 y80 z80 st80 hQ80
  subst l80 y80 z80
  obtain ⟨rfl, N80q, S80, I80⟩ := hQ80
  have N80 := Fr.app N76 N80q
  refine own_st st80 ?_
  show OwnG _ _ _ _ _ _ _ (T80.setTop (mkF m 24 #[.val (.ref a1), .val (.int sI), .val (.int dI)] []))
  exact own_retV X80 hx hrt hlk (hb hby d11_24) (by decide) (by decide) (by show _ ∧ _; exact ⟨rfl, N80, S80, I80⟩)
theorem d10_0 : decode prog_220_method_6_code 0 = .ok (.aload_n 0, 1) := by decide +kernel
theorem d10_1 : decode prog_220_method_6_code 1 = .ok (.iload_n 1, 1) := by decide +kernel
theorem d10_2 : decode prog_220_method_6_code 2 = .ok (.iload_n 2, 1) := by decide +kernel
theorem d10_3 : decode prog_220_method_6_code 3 = .ok (.iload_n 3, 1) := by decide +kernel
theorem d10_4 : decode prog_220_method_6_code 4 = .ok (.invokevirtual 64, 3) := by decide +kernel
theorem d10_7 : decode prog_220_method_6_code 7 = .ok (.istore 4, 2) := by decide +kernel
theorem d10_9 : decode prog_220_method_6_code 9 = .ok (.aload_n 0, 1) := by decide +kernel
theorem d10_10 : decode prog_220_method_6_code 10 = .ok (.getfield 25, 3) := by decide +kernel
theorem d10_13 : decode prog_220_method_6_code 13 = .ok (.iload 4, 2) := by decide +kernel
theorem d10_15 : decode prog_220_method_6_code 15 = .ok (.iconst 0, 1) := by decide +kernel
theorem d10_16 : decode prog_220_method_6_code 16 = .ok (.bastore, 1) := by decide +kernel
theorem d10_17 : decode prog_220_method_6_code 17 = .ok (.aload_n 0, 1) := by decide +kernel
theorem d10_18 : decode prog_220_method_6_code 18 = .ok (.iconst 1, 1) := by decide +kernel
theorem d10_19 : decode prog_220_method_6_code 19 = .ok (.putfield 51, 3) := by decide +kernel
theorem d10_22 : decode prog_220_method_6_code 22 = .ok (.aload_n 0, 1) := by decide +kernel
theorem d10_23 : decode prog_220_method_6_code 23 = .ok (.iload_n 1, 1) := by decide +kernel
theorem d10_24 : decode prog_220_method_6_code 24 = .ok (.iload 4, 2) := by decide +kernel
theorem d10_26 : decode prog_220_method_6_code 26 = .ok (.invokevirtual 72, 3) := by decide +kernel
theorem d10_29 : decode prog_220_method_6_code 29 = .ok (.return_, 1) := by decide +kernel
theorem pn_6 : plainFor (⟨"com/example/triptych/triptych/reasoning/Links", "addFeature", "(III)V"⟩ : MethodName) = true := by first | exact plainFor_of_name (by first | (simp [plainName, overriddenIn]; done) | decide +kernel) | decide +kernel
theorem ef_6 (m : MethodId) (x0 : Addr) (x1 : Int32) (x2 : Int32) (x3 : Int32) : entryFrame m #[(.ref x0), (.int x1), (.int x2), (.int x3)] 5 = mkF m 0 #[.val (.ref x0), .val (.int x1), .val (.int x2), .val (.int x3), .unset] [] := by first | (simp [entryFrame, mkF, argsToLocals, Value.category]; done) | rfl
def Q6 (Z : State) (a1 : Addr) (A : Nat → Addr) (F : Nat → Nat → Int32) (cz : Nat) (ft : Int32) (sI : Int32) (fI : Int32) (tI : Int32) (sz : Nat) (oz : Option Nat) (h0 : Heap) (n0 : Nat) (v : Option Value) (h : Heap) (L : List Loc) : Prop := v = none ∧ Fr n0 L ∧ n0 ≤ h.size ∧ LK n0 Z h a1 A (own_af F sz cz sI (Int32.ofNat cz) fI tI oz) (cz + 1) 1
set_option maxRecDepth 65536 in
set_option maxHeartbeats 40000000 in
theorem rm6 (l : Launch) (Z : State) (a0 : Array Value) (hw : ∀ d ∈ tables_1, d.before a0 Z = true) (ws : List Jvm.Cond) (a1 : Addr) (A : Nat → Addr) (F : Nat → Nat → Int32) (cz : Nat) (ft : Int32) (sI : Int32) (fI : Int32) (tI : Int32) (sz : Nat) (oz : Option Nat) (h0 : Heap) (n0 : Nat) (Z0 : n0 ≤ h0.size) (hc : cz < 8) (hs : sI.toInt = (sz : Int)) (hs4 : sz < 4) (hl : own_hl F 9 sz oz) (I0 : LK n0 Z h0 a1 A F cz ft) (ga : n0 ≤ a1) :
    MetFree l (⟨"com/example/triptych/triptych/reasoning/Links", "addFeature", "(III)V"⟩ : MethodName) (head1 (Jvm.Cond.code (⟨"com/example/triptych/triptych/reasoning/Links", "addFeature", "(III)V"⟩ : MethodName) prog_220_method_6_code 5 none :: ws) ({ frames := 2, cells := 0, slots := 0, locals := 30 } : Room)) (fun a U => a = #[(.ref a1), (.int sI), (.int fI), (.int tI)] ∧ Z.Warmed39 U.vm ∧ U.heap = h0) (fun _ _ _ _ _ => True) (fun _ U o U' => ∃ v L, o = .returned v ∧ Q6 Z a1 A F cz ft sI fI tI sz oz h0 n0 v U'.heap L ∧ FrameEnd U o U' L ({ frames := 2, cells := 0, slots := 0, locals := 30 } : Room).cells ({ frames := 2, cells := 0, slots := 0, locals := 30 } : Room).slots) := by
  refine MetFree.of_bodySF pn_6 hisR ?_
  intro p e s m args below meth c s₁ Bd hml0 hP hK
  obtain ⟨rfl, hZ, hh⟩ := hP
  have hx := Bd.exec
  have hby := Bd.bytes
  have hml : c.maxLocals = 5 := hml0
  have hown : s.vm.findClass "com/example/triptych/triptych/reasoning/Links" = some m.cls := findClass_of_methodNamed Bd.named
  have hnm := (name_of_methodNamed Bd.named Bd.method).1
  have hrt := Bd.returns
  have hlk : meth.locks = false := BodyLoose.notSynchronized Bd
  have X0 : Stand p l e ({ frames := 2, cells := 0, slots := 0, locals := 30 } : Room) s m #[(.ref a1), (.int sI), (.int fI), (.int tI)] below meth c s₁ [] 0 0 := Stand.of_body Bd
  have e0 : s₁.heap = h0 := by rw [← hh, Bd.state]; rfl
  have N0 := Fr.nil n0
  show OwnG ({ frames := 2, cells := 0, slots := 0, locals := 30 } : Room).cells ({ frames := 2, cells := 0, slots := 0, locals := 30 } : Room).slots (Q6 Z a1 A F cz ft sI fI tI sz oz h0 n0) p e below s (s₁.setTop (entryFrame m #[(.ref a1), (.int sI), (.int fI), (.int tI)] 5))
  refine own_st (σ' := s₁.setTop (mkF m 0 #[.val (.ref a1), .val (.int sI), .val (.int fI), .val (.int tI), .unset] [])) (fun _ kq_ => castTop (ef_6 m a1 sI fI tI) kq_) ?_
  show OwnG _ _ _ _ _ _ _ (s₁.setTop (mkF m 0 #[.val (.ref a1), .val (.int sI), .val (.int fI), .val (.int tI), .unset] []))
  have hci := own_to cz (by omega)
  refine own_st (fun _ kq_ => XS.aloadN X0.here hx rfl (hb hby d10_0) rfl rfl kq_) ?_
  show OwnG _ _ _ _ _ _ _ (s₁.setTop (mkF m 1 #[.val (.ref a1), .val (.int sI), .val (.int fI), .val (.int tI), .unset] [(.ref a1)]))
  refine own_st (fun _ kq_ => XS.iloadN X0.here hx rfl (hb hby d10_1) rfl kq_) ?_
  show OwnG _ _ _ _ _ _ _ (s₁.setTop (mkF m 2 #[.val (.ref a1), .val (.int sI), .val (.int fI), .val (.int tI), .unset] [(.int sI), (.ref a1)]))
  refine own_st (fun _ kq_ => XS.iloadN X0.here hx rfl (hb hby d10_2) rfl kq_) ?_
  show OwnG _ _ _ _ _ _ _ (s₁.setTop (mkF m 3 #[.val (.ref a1), .val (.int sI), .val (.int fI), .val (.int tI), .unset] [(.int fI), (.int sI), (.ref a1)]))
  refine own_st (fun _ kq_ => XS.iloadN X0.here hx rfl (hb hby d10_3) rfl kq_) ?_
  show OwnG _ _ _ _ _ _ _ (s₁.setTop (mkF m 4 #[.val (.ref a1), .val (.int sI), .val (.int fI), .val (.int tI), .unset] [(.int tI), (.int fI), (.int sI), (.ref a1)]))
  obtain ⟨cq81, q81, q81'⟩ := I0.1.cell
  obtain ⟨_, _, ⟨T81, L81, k81, n81⟩, -, X81, ⟨Lc81, hQ81, l81, y81, z81⟩, st81⟩ := X0.privateBack hx (y := (⟨"com/example/triptych/triptych/reasoning/Links", "newLink", "(III)I"⟩ : MethodName)) hown (mvT hZ (hw _ (List.mem_of_getElem? (i := 45) rfl))) (mvT hZ (hw _ (List.mem_of_getElem? (i := 46) rfl))) (own_sel (y := (⟨"com/example/triptych/triptych/reasoning/Links", "newLink", "(III)I"⟩ : MethodName)) (mvT hZ (hw _ (List.mem_of_getElem? (i := 1) rfl))) (Cond.privateMethod_at (mvP hZ (hw _ (List.mem_of_getElem? (i := 47) rfl)) (args := #[]))) (mvT hZ (hw _ (List.mem_of_getElem? (i := 46) rfl))) (by decide)) (Cond.privateMethod_at (mvP hZ (hw _ (List.mem_of_getElem? (i := 47) rfl)) (args := #[]))) (mvT hZ (hw _ (List.mem_of_getElem? (i := 48) rfl))) (by decide) (backOf (W := 0) (rm20 l Z a0 hw [] a1 A F cz ft sI fI tI h0 n0 Z0 hc I0 ga) hZ (hw _ (List.mem_of_getElem? (i := 48) rfl)) (hw _ (List.mem_of_getElem? (i := 2) rfl)) (by decide) (by decide)) (g := (mkF m 4 #[.val (.ref a1), .val (.int sI), .val (.int fI), .val (.int tI), .unset] [(.int tI), (.int fI), (.int sI), (.ref a1)])) rfl (by rw [hml]; rfl) (Steps.refl _) (a := a1) (by rw [e0]; exact q81) q81' (argsL := [(.int sI), (.int fI), (.int tI)]) (rest := []) (lenOf (by decide +kernel : parseMethodDescriptor "(III)I" = some ⟨[.int, .int, .int], some .int⟩) rfl) rfl (by show 2 * 0 + _ ≤ _; exact Nat.le_of_eq rfl) (hb hby d10_4) (fun _ _ => ⟨rfl, e0, (by dsimp only [Pt.cells]; decide), (by dsimp only [Pt.slots]; decide)⟩)
  dsimp only [Pt.U, Pt.locs, Pt.cells, Pt.slots] at X81 l81 y81 z81 st81 hQ81
  subst l81 y81 z81
  obtain ⟨rfl, N81q, S81, I81⟩ := hQ81
  have N81 := Fr.app N0 N81q
  refine own_go st81 ?_
  show OwnG _ _ _ _ _ _ _ (T81.setTop (mkF m 7 #[.val (.ref a1), .val (.int sI), .val (.int fI), .val (.int tI), .unset] [(.int (Int32.ofNat cz))]))
  refine own_st (fun _ kq_ => XS.istore X81.here hx rfl (hb hby d10_7) rfl (l' := #[.val (.ref a1), .val (.int sI), .val (.int fI), .val (.int tI), .val (.int (Int32.ofNat cz))]) rfl kq_) ?_
  show OwnG _ _ _ _ _ _ _ (T81.setTop (mkF m 9 #[.val (.ref a1), .val (.int sI), .val (.int fI), .val (.int tI), .val (.int (Int32.ofNat cz))] []))
  refine own_st (fun _ kq_ => XS.aloadN X81.here hx rfl (hb hby d10_9) rfl rfl kq_) ?_
  show OwnG _ _ _ _ _ _ _ (T81.setTop (mkF m 10 #[.val (.ref a1), .val (.int sI), .val (.int fI), .val (.int tI), .val (.int (Int32.ofNat cz))] [(.ref a1)]))
  obtain ⟨T82, X82, e82, st82⟩ := getF X81 hx hZ hown (host := "") (Or.inl (hw _ (List.mem_of_getElem? (i := 21) rfl))) Via.refl rfl (I81.2.1 5 (by decide)) (g := (mkF m 10 #[.val (.ref a1), .val (.int sI), .val (.int fI), .val (.int tI), .val (.int (Int32.ofNat cz))] [(.ref a1)])) rfl rfl (hb hby d10_10)
  refine own_st st82 ?_
  show OwnG _ _ _ _ _ _ _ (T82.setTop (mkF m 13 #[.val (.ref a1), .val (.int sI), .val (.int fI), .val (.int tI), .val (.int (Int32.ofNat cz))] [(.ref (A 5))]))
  refine own_st (fun _ kq_ => XS.iload X82.here hx rfl (hb hby d10_13) rfl kq_) ?_
  show OwnG _ _ _ _ _ _ _ (T82.setTop (mkF m 15 #[.val (.ref a1), .val (.int sI), .val (.int fI), .val (.int tI), .val (.int (Int32.ofNat cz))] [(.int (Int32.ofNat cz)), (.ref (A 5))]))
  refine own_st (fun _ kq_ => XS.iconst X82.here hx rfl (hb hby d10_15) kq_) ?_
  show OwnG _ _ _ _ _ _ _ (T82.setTop (mkF m 16 #[.val (.ref a1), .val (.int sI), .val (.int fI), .val (.int tI), .val (.int (Int32.ofNat cz))] [(.int (0 : Int32)), (.int (Int32.ofNat cz)), (.ref (A 5))]))
  obtain ⟨T83, h83, X83, e83, W83, V83, st83⟩ := own_sZ X82 hx hZ e82 (I81.2.2.1 5 (by decide)) (cz) hci (by show cz < 8; omega) (g := (mkF m 16 #[.val (.ref a1), .val (.int sI), .val (.int fI), .val (.int tI), .val (.int (Int32.ofNat cz))] [(.int (0 : Int32)), (.int (Int32.ofNat cz)), (.ref (A 5))])) rfl rfl (hb hby d10_16)
  have N83 := Fr.snoc X83 N81 (I81.2.2.2.2.2.2.2 5 (by decide))
  refine own_st st83 ?_
  show OwnG _ _ _ _ _ _ _ (T83.setTop (mkF m 17 #[.val (.ref a1), .val (.int sI), .val (.int fI), .val (.int tI), .val (.int (Int32.ofNat cz))] []))
  have I83 : LK n0 Z h83 a1 A (own_u2 (own_nl F cz sI fI tI) 5 cz 0) (cz + 1) ft := I81.sto 5 cz 0 (by decide) (by show cz < 8; omega) rfl W83
  have S83 : n0 ≤ h83.size := by rw [W83.size]; exact S81
  refine own_st (fun _ kq_ => XS.aloadN X83.here hx rfl (hb hby d10_17) rfl rfl kq_) ?_
  show OwnG _ _ _ _ _ _ _ (T83.setTop (mkF m 18 #[.val (.ref a1), .val (.int sI), .val (.int fI), .val (.int tI), .val (.int (Int32.ofNat cz))] [(.ref a1)]))
  refine own_st (fun _ kq_ => XS.iconst X83.here hx rfl (hb hby d10_18) kq_) ?_
  show OwnG _ _ _ _ _ _ _ (T83.setTop (mkF m 19 #[.val (.ref a1), .val (.int sI), .val (.int fI), .val (.int tI), .val (.int (Int32.ofNat cz))] [(.int (1 : Int32)), (.ref a1)]))
  obtain ⟨T84, h84, X84, e84, W84, st84⟩ := putFN X83 hx hZ hown (hw _ (List.mem_of_getElem? (i := 73) rfl)) Via.refl e83 I83.2.2.2.2.1 I83.1 (Or.inl (hw _ (List.mem_of_getElem? (i := 74) rfl))) (hw _ (List.mem_of_getElem? (i := 1) rfl)) (ty := .boolean) (v' := (.int (1 : Int32))) (by decide) rfl rfl (g := (mkF m 19 #[.val (.ref a1), .val (.int sI), .val (.int fI), .val (.int tI), .val (.int (Int32.ofNat cz))] [(.int (1 : Int32)), (.ref a1)])) rfl rfl (hb hby d10_19)
  have N84 := Fr.snoc X84 N83 ga
  refine own_st st84 ?_
  show OwnG _ _ _ _ _ _ _ (T84.setTop (mkF m 22 #[.val (.ref a1), .val (.int sI), .val (.int fI), .val (.int tI), .val (.int (Int32.ofNat cz))] []))
  have J84 := LK.fea hw (z := 1) I83 W84
  have S84 : n0 ≤ h84.size := by rw [W84.size]; exact S83
  refine own_st (fun _ kq_ => XS.aloadN X84.here hx rfl (hb hby d10_22) rfl rfl kq_) ?_
  show OwnG _ _ _ _ _ _ _ (T84.setTop (mkF m 23 #[.val (.ref a1), .val (.int sI), .val (.int fI), .val (.int tI), .val (.int (Int32.ofNat cz))] [(.ref a1)]))
  refine own_st (fun _ kq_ => XS.iloadN X84.here hx rfl (hb hby d10_23) rfl kq_) ?_
  show OwnG _ _ _ _ _ _ _ (T84.setTop (mkF m 24 #[.val (.ref a1), .val (.int sI), .val (.int fI), .val (.int tI), .val (.int (Int32.ofNat cz))] [(.int sI), (.ref a1)]))
  refine own_st (fun _ kq_ => XS.iload X84.here hx rfl (hb hby d10_24) rfl kq_) ?_
  show OwnG _ _ _ _ _ _ _ (T84.setTop (mkF m 26 #[.val (.ref a1), .val (.int sI), .val (.int fI), .val (.int tI), .val (.int (Int32.ofNat cz))] [(.int (Int32.ofNat cz)), (.int sI), (.ref a1)]))
  have hl2 : own_hl (own_u2 (own_nl F cz sI fI tI) 5 cz 0) 9 sz oz := by cases oz with
    | none => exact hl
    | some d2 => exact hl
  obtain ⟨cq85, kq85, q85a, q85b, q85c⟩ := isOf hZ e84 J84.1
  obtain ⟨_, _, ⟨T85, L85, k85, n85⟩, -, X85, ⟨Lc85, hQ85, l85, y85, z85⟩, st85⟩ := X84.virtualBack hx (y := (⟨"com/example/triptych/triptych/reasoning/Links", "chainFeature", "(II)V"⟩ : MethodName)) (z := (⟨"com/example/triptych/triptych/reasoning/Links", "chainFeature", "(II)V"⟩ : MethodName)) hown (mvT hZ (hw _ (List.mem_of_getElem? (i := 75) rfl))) (mvT hZ (hw _ (List.mem_of_getElem? (i := 76) rfl))) (notFace_of_selects (args := #[]) (mvT hZ (hw _ (List.mem_of_getElem? (i := 78) rfl)))) (mvT hZ (hw _ (List.mem_of_getElem? (i := 78) rfl))) (mvT hZ (hw _ (List.mem_of_getElem? (i := 77) rfl))) (by decide) (backOf (W := 0) (rm22 l Z a0 hw [] a1 A (own_u2 (own_nl F cz sI fI tI) 5 cz 0) (cz + 1) 1 sI (Int32.ofNat cz) sz cz oz h84 n0 S84 hs hs4 hci hc hl2 J84) hZ (hw _ (List.mem_of_getElem? (i := 79) rfl)) (hw _ (List.mem_of_getElem? (i := 2) rfl)) (by decide) (by decide)) q85a q85c (g := (mkF m 26 #[.val (.ref a1), .val (.int sI), .val (.int fI), .val (.int tI), .val (.int (Int32.ofNat cz))] [(.int (Int32.ofNat cz)), (.int sI), (.ref a1)])) rfl (by rw [hml]; rfl) (Steps.refl _) (argsL := [(.int sI), (.int (Int32.ofNat cz))]) (rest := []) (lenOf (by decide +kernel : parseMethodDescriptor "(II)V" = some ⟨[.int, .int], none⟩) rfl) rfl (by show 2 * 0 + _ ≤ _; exact Nat.le_of_eq rfl) (hb hby d10_26) (fun _ _ => ⟨rfl, e84, (by dsimp only [Pt.cells]; decide), (by dsimp only [Pt.slots]; decide)⟩)
  dsimp only [Pt.U, Pt.locs, Pt.cells, Pt.slots] at X85 l85 y85 z85 st85 hQ85
  subst l85 y85 z85
  obtain ⟨rfl, N85q, S85, I85⟩ := hQ85
  have N85 := Fr.app N84 N85q
  refine own_go st85 ?_
  show OwnG _ _ _ _ _ _ _ (T85.setTop (mkF m 29 #[.val (.ref a1), .val (.int sI), .val (.int fI), .val (.int tI), .val (.int (Int32.ofNat cz))] []))
  exact own_retV X85 hx hrt hlk (hb hby d10_29) (by decide) (by decide) (by show _ ∧ _; exact ⟨rfl, N85, S85, I85⟩)
theorem d9_0 : decode prog_220_method_7_code 0 = .ok (.aload_n 0, 1) := by decide +kernel
theorem d9_1 : decode prog_220_method_7_code 1 = .ok (.getfield 35, 3) := by decide +kernel
theorem d9_4 : decode prog_220_method_7_code 4 = .ok (.iload_n 1, 1) := by decide +kernel
theorem d9_5 : decode prog_220_method_7_code 5 = .ok (.iaload, 1) := by decide +kernel
theorem d9_6 : decode prog_220_method_7_code 6 = .ok (.istore_n 3, 1) := by decide +kernel
theorem d9_7 : decode prog_220_method_7_code 7 = .ok (.iload_n 3, 1) := by decide +kernel
theorem d9_8 : decode prog_220_method_7_code 8 = .ok (.iconst (-1), 1) := by decide +kernel
theorem d9_9 : decode prog_220_method_7_code 9 = .ok (.if_icmp .eq 30, 3) := by decide +kernel
theorem d9_12 : decode prog_220_method_7_code 12 = .ok (.aload_n 0, 1) := by decide +kernel
theorem d9_13 : decode prog_220_method_7_code 13 = .ok (.getfield 13, 3) := by decide +kernel
theorem d9_16 : decode prog_220_method_7_code 16 = .ok (.iload_n 3, 1) := by decide +kernel
theorem d9_17 : decode prog_220_method_7_code 17 = .ok (.iaload, 1) := by decide +kernel
theorem d9_18 : decode prog_220_method_7_code 18 = .ok (.iload_n 2, 1) := by decide +kernel
theorem d9_19 : decode prog_220_method_7_code 19 = .ok (.if_icmp .ne 10, 3) := by decide +kernel
theorem d9_22 : decode prog_220_method_7_code 22 = .ok (.aload_n 0, 1) := by decide +kernel
theorem d9_23 : decode prog_220_method_7_code 23 = .ok (.getfield 16, 3) := by decide +kernel
theorem d9_26 : decode prog_220_method_7_code 26 = .ok (.iload_n 3, 1) := by decide +kernel
theorem d9_27 : decode prog_220_method_7_code 27 = .ok (.iaload, 1) := by decide +kernel
theorem d9_28 : decode prog_220_method_7_code 28 = .ok (.ireturn, 1) := by decide +kernel
theorem d9_29 : decode prog_220_method_7_code 29 = .ok (.aload_n 0, 1) := by decide +kernel
theorem d9_30 : decode prog_220_method_7_code 30 = .ok (.getfield 19, 3) := by decide +kernel
theorem d9_33 : decode prog_220_method_7_code 33 = .ok (.iload_n 3, 1) := by decide +kernel
theorem d9_34 : decode prog_220_method_7_code 34 = .ok (.iaload, 1) := by decide +kernel
theorem d9_35 : decode prog_220_method_7_code 35 = .ok (.istore_n 3, 1) := by decide +kernel
theorem d9_36 : decode prog_220_method_7_code 36 = .ok (.goto (-29), 3) := by decide +kernel
theorem d9_39 : decode prog_220_method_7_code 39 = .ok (.iconst (-1), 1) := by decide +kernel
theorem d9_40 : decode prog_220_method_7_code 40 = .ok (.ireturn, 1) := by decide +kernel
def Q7 (Z : State) (lst : List (Int32 × Int32)) (fI : Int32) (h0 : Heap) (n0 : Nat) (v : Option Value) (h : Heap) (L : List Loc) : Prop := v = some (.int (own_lk lst fI)) ∧ Fr n0 L ∧ h = h0
set_option maxRecDepth 65536 in
set_option maxHeartbeats 40000000 in
theorem own_loop {p : Program} {l : Launch} {e : Env} {s : State} {m : MethodId} {args : Array Value} {below : List Frame} {meth : Method} {c : Code} {Z : State} {a0 : Array Value} (hx : p.tables.exec = Jvm.exec) (hZ : Z.Warmed39 s.vm) (hw : ∀ d ∈ tables_1, d.before a0 Z = true) (hby : c.code = prog_220_method_7_code) (hml : c.maxLocals = 4) (hown : s.vm.findClass "com/example/triptych/triptych/reasoning/Links" = some m.cls) (hrt : meth.sig.returnType = some .int) (hlk : meth.locks = false) (a1 : Addr) (A : Nat → Addr) (F : Nat → Nat → Int32) (cz : Nat) (ft : Int32) (qI fI : Int32) (n0 : Nat) (lst0 : List (Int32 × Int32)) {h0 : Heap} {locs : List Loc} (N0 : Fr n0 locs) (I0 : LK n0 Z h0 a1 A F cz ft) : ∀ (lst : List (Int32 × Int32)) (i : Int32) (T0 : State), Stand p l e ({ frames := 0, cells := 0, slots := 0, locals := 0 } : Room) s m args below meth c T0 locs 0 0 → T0.heap = h0 → Ch F i lst → own_lk lst fI = own_lk lst0 fI → OwnG 0 0 (Q7 Z lst0 fI h0 n0) p e below s (T0.setTop (mkF m 7 #[.val (.ref a1), .val (.int qI), .val (.int fI), .val (.int i)] [])) := by
  intro lst
  induction lst with
  | nil =>
    intro i T0 X0 e0 hch hres
    show OwnG _ _ _ _ _ _ _ (T0.setTop (mkF m 7 #[.val (.ref a1), .val (.int qI), .val (.int fI), .val (.int i)] []))
    refine own_st (fun _ kq_ => XS.iloadN X0.here hx rfl (hb hby d9_7) rfl kq_) ?_
    show OwnG _ _ _ _ _ _ _ (T0.setTop (mkF m 8 #[.val (.ref a1), .val (.int qI), .val (.int fI), .val (.int i)] [(.int i)]))
    refine own_st (fun _ kq_ => XS.iconst X0.here hx rfl (hb hby d9_8) kq_) ?_
    show OwnG _ _ _ _ _ _ _ (T0.setTop (mkF m 9 #[.val (.ref a1), .val (.int qI), .val (.int fI), .val (.int i)] [(.int (-1 : Int32)), (.int i)]))
    refine own_st (fun _ kq_ => XS.icmpYes X0.here hx rfl (pc0 := 9) (pc' := 39) rfl (hb hby d9_9) rfl (teq hch).1 (by decide) (by decide) kq_) ?_
    show OwnG _ _ _ _ _ _ _ (T0.setTop (mkF m 39 #[.val (.ref a1), .val (.int qI), .val (.int fI), .val (.int i)] []))
    refine own_st (fun _ kq_ => XS.iconst X0.here hx rfl (hb hby d9_39) kq_) ?_
    show OwnG _ _ _ _ _ _ _ (T0.setTop (mkF m 40 #[.val (.ref a1), .val (.int qI), .val (.int fI), .val (.int i)] [(.int (-1 : Int32))]))
    exact own_retI X0 hx hrt hlk (hb hby d9_40) (by decide) (by decide) (by show _ ∧ _; first | (rw [e0]; exact ⟨congrArg (fun z => some (Value.int z)) hres, N0, rfl⟩) | exact ⟨congrArg (fun z => some (Value.int z)) hres, N0, rfl⟩)
  | cons q r ih =>
    intro i T0 X0 e0 hch hres
    obtain ⟨d, hd8, hd, h1, h2, hr⟩ := hch
    show OwnG _ _ _ _ _ _ _ (T0.setTop (mkF m 7 #[.val (.ref a1), .val (.int qI), .val (.int fI), .val (.int i)] []))
    refine own_st (fun _ kq_ => XS.iloadN X0.here hx rfl (hb hby d9_7) rfl kq_) ?_
    show OwnG _ _ _ _ _ _ _ (T0.setTop (mkF m 8 #[.val (.ref a1), .val (.int qI), .val (.int fI), .val (.int i)] [(.int i)]))
    refine own_st (fun _ kq_ => XS.iconst X0.here hx rfl (hb hby d9_8) kq_) ?_
    show OwnG _ _ _ _ _ _ _ (T0.setTop (mkF m 9 #[.val (.ref a1), .val (.int qI), .val (.int fI), .val (.int i)] [(.int (-1 : Int32)), (.int i)]))
    refine own_st (fun _ kq_ => XS.icmpNo X0.here hx rfl (hb hby d9_9) rfl (feq (fun z => by rw [z] at hd; have : (-1 : Int32).toInt = -1 := rfl; omega)).1 kq_) ?_
    show OwnG _ _ _ _ _ _ _ (T0.setTop (mkF m 12 #[.val (.ref a1), .val (.int qI), .val (.int fI), .val (.int i)] []))
    refine own_st (fun _ kq_ => XS.aloadN X0.here hx rfl (hb hby d9_12) rfl rfl kq_) ?_
    show OwnG _ _ _ _ _ _ _ (T0.setTop (mkF m 13 #[.val (.ref a1), .val (.int qI), .val (.int fI), .val (.int i)] [(.ref a1)]))
    obtain ⟨T86, X86, e86, st86⟩ := getF X0 hx hZ hown (host := "") (Or.inl (hw _ (List.mem_of_getElem? (i := 12) rfl))) Via.refl e0 (I0.2.1 1 (by decide)) (g := (mkF m 13 #[.val (.ref a1), .val (.int qI), .val (.int fI), .val (.int i)] [(.ref a1)])) rfl rfl (hb hby d9_13)
    refine own_st st86 ?_
    show OwnG _ _ _ _ _ _ _ (T86.setTop (mkF m 16 #[.val (.ref a1), .val (.int qI), .val (.int fI), .val (.int i)] [(.ref (A 1))]))
    refine own_st (fun _ kq_ => XS.iloadN X86.here hx rfl (hb hby d9_16) rfl kq_) ?_
    show OwnG _ _ _ _ _ _ _ (T86.setTop (mkF m 17 #[.val (.ref a1), .val (.int qI), .val (.int fI), .val (.int i)] [(.int i), (.ref (A 1))]))
    refine own_st (own_il X86 hx hZ e86 (I0.2.2.1 1 (by decide)) (d) hd (by show d < 8; omega) (congrArg Value.int h1) (g := (mkF m 17 #[.val (.ref a1), .val (.int qI), .val (.int fI), .val (.int i)] [(.int i), (.ref (A 1))])) rfl rfl (hb hby d9_17)) ?_
    show OwnG _ _ _ _ _ _ _ (T86.setTop (mkF m 18 #[.val (.ref a1), .val (.int qI), .val (.int fI), .val (.int i)] [(.int q.1)]))
    refine own_st (fun _ kq_ => XS.iloadN X86.here hx rfl (hb hby d9_18) rfl kq_) ?_
    show OwnG _ _ _ _ _ _ _ (T86.setTop (mkF m 19 #[.val (.ref a1), .val (.int qI), .val (.int fI), .val (.int i)] [(.int fI), (.int q.1)]))
    by_cases h19 : q.1 = fI
    · skip
      refine own_st (fun _ kq_ => XS.icmpNo X86.here hx rfl (hb hby d9_19) rfl (teq h19).2 kq_) ?_
      show OwnG _ _ _ _ _ _ _ (T86.setTop (mkF m 22 #[.val (.ref a1), .val (.int qI), .val (.int fI), .val (.int i)] []))
      refine own_st (fun _ kq_ => XS.aloadN X86.here hx rfl (hb hby d9_22) rfl rfl kq_) ?_
      show OwnG _ _ _ _ _ _ _ (T86.setTop (mkF m 23 #[.val (.ref a1), .val (.int qI), .val (.int fI), .val (.int i)] [(.ref a1)]))
      obtain ⟨T87, X87, e87, st87⟩ := getF X86 hx hZ hown (host := "") (Or.inl (hw _ (List.mem_of_getElem? (i := 14) rfl))) Via.refl e86 (I0.2.1 2 (by decide)) (g := (mkF m 23 #[.val (.ref a1), .val (.int qI), .val (.int fI), .val (.int i)] [(.ref a1)])) rfl rfl (hb hby d9_23)
      refine own_st st87 ?_
      show OwnG _ _ _ _ _ _ _ (T87.setTop (mkF m 26 #[.val (.ref a1), .val (.int qI), .val (.int fI), .val (.int i)] [(.ref (A 2))]))
      refine own_st (fun _ kq_ => XS.iloadN X87.here hx rfl (hb hby d9_26) rfl kq_) ?_
      show OwnG _ _ _ _ _ _ _ (T87.setTop (mkF m 27 #[.val (.ref a1), .val (.int qI), .val (.int fI), .val (.int i)] [(.int i), (.ref (A 2))]))
      refine own_st (own_il X87 hx hZ e87 (I0.2.2.1 2 (by decide)) (d) hd (by show d < 8; omega) (congrArg Value.int h2) (g := (mkF m 27 #[.val (.ref a1), .val (.int qI), .val (.int fI), .val (.int i)] [(.int i), (.ref (A 2))])) rfl rfl (hb hby d9_27)) ?_
      show OwnG _ _ _ _ _ _ _ (T87.setTop (mkF m 28 #[.val (.ref a1), .val (.int qI), .val (.int fI), .val (.int i)] [(.int q.2)]))
      exact own_retI X87 hx hrt hlk (hb hby d9_28) (by decide) (by decide) (by show _ ∧ _; first | (rw [e87]; exact ⟨congrArg (fun z => some (Value.int z)) ((if_pos h19).symm.trans hres), N0, rfl⟩) | exact ⟨congrArg (fun z => some (Value.int z)) ((if_pos h19).symm.trans hres), N0, rfl⟩)
    · skip
      refine own_st (fun _ kq_ => XS.icmpYes X86.here hx rfl (pc0 := 19) (pc' := 29) rfl (hb hby d9_19) rfl (feq h19).2 (by decide) (by decide) kq_) ?_
      show OwnG _ _ _ _ _ _ _ (T86.setTop (mkF m 29 #[.val (.ref a1), .val (.int qI), .val (.int fI), .val (.int i)] []))
      refine own_st (fun _ kq_ => XS.aloadN X86.here hx rfl (hb hby d9_29) rfl rfl kq_) ?_
      show OwnG _ _ _ _ _ _ _ (T86.setTop (mkF m 30 #[.val (.ref a1), .val (.int qI), .val (.int fI), .val (.int i)] [(.ref a1)]))
      obtain ⟨T88, X88, e88, st88⟩ := getF X86 hx hZ hown (host := "") (Or.inl (hw _ (List.mem_of_getElem? (i := 16) rfl))) Via.refl e86 (I0.2.1 3 (by decide)) (g := (mkF m 30 #[.val (.ref a1), .val (.int qI), .val (.int fI), .val (.int i)] [(.ref a1)])) rfl rfl (hb hby d9_30)
      refine own_st st88 ?_
      show OwnG _ _ _ _ _ _ _ (T88.setTop (mkF m 33 #[.val (.ref a1), .val (.int qI), .val (.int fI), .val (.int i)] [(.ref (A 3))]))
      refine own_st (fun _ kq_ => XS.iloadN X88.here hx rfl (hb hby d9_33) rfl kq_) ?_
      show OwnG _ _ _ _ _ _ _ (T88.setTop (mkF m 34 #[.val (.ref a1), .val (.int qI), .val (.int fI), .val (.int i)] [(.int i), (.ref (A 3))]))
      refine own_st (own_il X88 hx hZ e88 (I0.2.2.1 3 (by decide)) (d) hd (by show d < 8; omega) rfl (g := (mkF m 34 #[.val (.ref a1), .val (.int qI), .val (.int fI), .val (.int i)] [(.int i), (.ref (A 3))])) rfl rfl (hb hby d9_34)) ?_
      show OwnG _ _ _ _ _ _ _ (T88.setTop (mkF m 35 #[.val (.ref a1), .val (.int qI), .val (.int fI), .val (.int i)] [(.int (F 3 d))]))
      refine own_st (fun _ kq_ => XS.istoreN X88.here hx rfl (hb hby d9_35) rfl (l' := #[.val (.ref a1), .val (.int qI), .val (.int fI), .val (.int (F 3 d))]) rfl kq_) ?_
      show OwnG _ _ _ _ _ _ _ (T88.setTop (mkF m 36 #[.val (.ref a1), .val (.int qI), .val (.int fI), .val (.int (F 3 d))] []))
      refine own_st (fun _ kq_ => XS.goto X88.here hx rfl (pc0 := 36) (pc' := 7) rfl (hb hby d9_36) (by decide) (by decide) kq_) ?_
      show OwnG _ _ _ _ _ _ _ (T88.setTop (mkF m 7 #[.val (.ref a1), .val (.int qI), .val (.int fI), .val (.int (F 3 d))] []))
      exact ih _ _ X88 e88 hr ((if_neg h19).symm.trans hres)
theorem pn_7 : plainFor (⟨"com/example/triptych/triptych/reasoning/Links", "featureTarget", "(II)I"⟩ : MethodName) = true := by first | exact plainFor_of_name (by first | (simp [plainName, overriddenIn]; done) | decide +kernel) | decide +kernel
theorem ef_7 (m : MethodId) (x0 : Addr) (x1 : Int32) (x2 : Int32) : entryFrame m #[(.ref x0), (.int x1), (.int x2)] 4 = mkF m 0 #[.val (.ref x0), .val (.int x1), .val (.int x2), .unset] [] := by first | (simp [entryFrame, mkF, argsToLocals, Value.category]; done) | rfl
set_option maxRecDepth 65536 in
set_option maxHeartbeats 40000000 in
theorem rm7 (l : Launch) (Z : State) (a0 : Array Value) (hw : ∀ d ∈ tables_1, d.before a0 Z = true) (ws : List Jvm.Cond) (a1 : Addr) (A : Nat → Addr) (F : Nat → Nat → Int32) (cz : Nat) (ft : Int32) (qI : Int32) (fI : Int32) (qz : Nat) (lst : List (Int32 × Int32)) (h0 : Heap) (n0 : Nat) (Z0 : n0 ≤ h0.size) (hq : qI.toInt = (qz : Int)) (hq4 : qz < 4) (hch : Ch F (F 8 qz) lst) (I0 : LK n0 Z h0 a1 A F cz ft) :
    MetFree l (⟨"com/example/triptych/triptych/reasoning/Links", "featureTarget", "(II)I"⟩ : MethodName) (head1 (Jvm.Cond.code (⟨"com/example/triptych/triptych/reasoning/Links", "featureTarget", "(II)I"⟩ : MethodName) prog_220_method_7_code 4 (some .int) :: ws) ({ frames := 0, cells := 0, slots := 0, locals := 0 } : Room)) (fun a U => a = #[(.ref a1), (.int qI), (.int fI)] ∧ Z.Warmed39 U.vm ∧ U.heap = h0) (fun _ _ _ _ _ => True) (fun _ U o U' => ∃ v L, o = .returned v ∧ Q7 Z lst fI h0 n0 v U'.heap L ∧ FrameEnd U o U' L ({ frames := 0, cells := 0, slots := 0, locals := 0 } : Room).cells ({ frames := 0, cells := 0, slots := 0, locals := 0 } : Room).slots) := by
  refine MetFree.of_bodySF pn_7 hisR ?_
  intro p e s m args below meth c s₁ Bd hml0 hP hK
  obtain ⟨rfl, hZ, hh⟩ := hP
  have hx := Bd.exec
  have hby := Bd.bytes
  have hml : c.maxLocals = 4 := hml0
  have hown : s.vm.findClass "com/example/triptych/triptych/reasoning/Links" = some m.cls := findClass_of_methodNamed Bd.named
  have hnm := (name_of_methodNamed Bd.named Bd.method).1
  have hrt := Bd.returns
  have hlk : meth.locks = false := BodyLoose.notSynchronized Bd
  have X0 : Stand p l e ({ frames := 0, cells := 0, slots := 0, locals := 0 } : Room) s m #[(.ref a1), (.int qI), (.int fI)] below meth c s₁ [] 0 0 := Stand.of_body Bd
  have e0 : s₁.heap = h0 := by rw [← hh, Bd.state]; rfl
  have N0 := Fr.nil n0
  show OwnG ({ frames := 0, cells := 0, slots := 0, locals := 0 } : Room).cells ({ frames := 0, cells := 0, slots := 0, locals := 0 } : Room).slots (Q7 Z lst fI h0 n0) p e below s (s₁.setTop (entryFrame m #[(.ref a1), (.int qI), (.int fI)] 4))
  refine own_st (σ' := s₁.setTop (mkF m 0 #[.val (.ref a1), .val (.int qI), .val (.int fI), .unset] [])) (fun _ kq_ => castTop (ef_7 m a1 qI fI) kq_) ?_
  show OwnG _ _ _ _ _ _ _ (s₁.setTop (mkF m 0 #[.val (.ref a1), .val (.int qI), .val (.int fI), .unset] []))
  refine own_st (fun _ kq_ => XS.aloadN X0.here hx rfl (hb hby d9_0) rfl rfl kq_) ?_
  show OwnG _ _ _ _ _ _ _ (s₁.setTop (mkF m 1 #[.val (.ref a1), .val (.int qI), .val (.int fI), .unset] [(.ref a1)]))
  obtain ⟨T89, X89, e89, st89⟩ := getF X0 hx hZ hown (host := "") (Or.inl (hw _ (List.mem_of_getElem? (i := 27) rfl))) Via.refl e0 (I0.2.1 8 (by decide)) (g := (mkF m 1 #[.val (.ref a1), .val (.int qI), .val (.int fI), .unset] [(.ref a1)])) rfl rfl (hb hby d9_1)
  refine own_st st89 ?_
  show OwnG _ _ _ _ _ _ _ (T89.setTop (mkF m 4 #[.val (.ref a1), .val (.int qI), .val (.int fI), .unset] [(.ref (A 8))]))
  refine own_st (fun _ kq_ => XS.iloadN X89.here hx rfl (hb hby d9_4) rfl kq_) ?_
  show OwnG _ _ _ _ _ _ _ (T89.setTop (mkF m 5 #[.val (.ref a1), .val (.int qI), .val (.int fI), .unset] [(.int qI), (.ref (A 8))]))
  refine own_st (own_il X89 hx hZ e89 (I0.2.2.1 8 (by decide)) (qz) hq (by show qz < 4; omega) rfl (g := (mkF m 5 #[.val (.ref a1), .val (.int qI), .val (.int fI), .unset] [(.int qI), (.ref (A 8))])) rfl rfl (hb hby d9_5)) ?_
  show OwnG _ _ _ _ _ _ _ (T89.setTop (mkF m 6 #[.val (.ref a1), .val (.int qI), .val (.int fI), .unset] [(.int (F 8 qz))]))
  refine own_st (fun _ kq_ => XS.istoreN X89.here hx rfl (hb hby d9_6) rfl (l' := #[.val (.ref a1), .val (.int qI), .val (.int fI), .val (.int (F 8 qz))]) rfl kq_) ?_
  show OwnG _ _ _ _ _ _ _ (T89.setTop (mkF m 7 #[.val (.ref a1), .val (.int qI), .val (.int fI), .val (.int (F 8 qz))] []))
  exact own_loop hx hZ hw hby hml hown hrt hlk a1 A F cz ft qI fI n0 lst N0 I0 lst _ _ X89 e89 hch rfl
def Q0 (Z : State) (f1 : Int32) (f2 : Int32) (f3 : Int32) (xx : Int32) (tt : Int32) (mo : Int32) (h0 : Heap) (n0 : Nat) (v : Option Value) (h : Heap) (L : List Loc) : Prop := v = some (.int 1) ∧ Fr n0 L
set_option maxRecDepth 65536 in
set_option maxHeartbeats 40000000 in
theorem own_b227 {p : Program} {l : Launch} {e : Env} {s : State} {m : MethodId} {args : Array Value} {below : List Frame} {meth : Method} {c : Code} {Z : State} {a0 : Array Value} (hx : p.tables.exec = Jvm.exec) (hZ : Z.Warmed39 s.vm) (hw : ∀ d ∈ tables_1, d.before a0 Z = true) (hby : c.code = code) (hml : c.maxLocals = 19) (hown : s.vm.findClass "com/example/triptych/triptych/reasoning/LinksFeatureTargetPinLaw" = some m.cls) (hrt : meth.sig.returnType = ret) (hlk : meth.locks = false) (f1 f2 f3 xx tt mo : Int32) (qI sel g1 g2 g3 t1 t2 t3 tr fq : Int32) (hq : qI = 0 ∨ qI = 1 ∨ qI = 2) (a1 : Addr) (A : Nat → Addr) (F : Nat → Nat → Int32) (cz : Nat) (ft : Int32) (l0 l1 : List (Int32 × Int32)) (hl0 : l0 = (if g1 = 0 then [] else [(f1, t1)]) ++ (if g2 = 0 then [] else [(f2, t2)])) (hl1 : l1 = if g3 = 0 then [] else [(f3, t3)]) (n0 : Nat) {hs0 : Heap} {T0 : State} {h0 : Heap} {locs : List Loc} (X0 : Stand p l e room_1 s m args below meth c T0 locs 13 86) (e0 : T0.heap = h0) (N0 : Fr n0 locs) (Z0 : n0 ≤ h0.size) (C0 : Ch F (F 8 0) l0) (C1 : Ch F (F 8 1) l1) (C2 : Ch F (F 8 2) []) (I0 : LK n0 Z h0 a1 A F cz ft) : OwnG 13 86 (Q0 Z f1 f2 f3 xx tt mo hs0 n0) p e below s (T0.setTop (mkF m 227 #[.val (.int f1), .val (.int f2), .val (.int f3), .val (.int xx), .val (.int tt), .val (.int mo), .val (.int qI), .val (.int sel), .val (.int g1), .val (.int g2), .val (.int g3), .val (.int t1), .val (.int t2), .val (.int t3), .val (.int tr), .val (.int fq), .val (.ref a1), .unset, .unset] [])) := by
  rcases hq with rfl | rfl | rfl
  · skip
    show OwnG _ _ _ _ _ _ _ (T0.setTop (mkF m 227 #[.val (.int f1), .val (.int f2), .val (.int f3), .val (.int xx), .val (.int tt), .val (.int mo), .val (.int (0 : Int32)), .val (.int sel), .val (.int g1), .val (.int g2), .val (.int g3), .val (.int t1), .val (.int t2), .val (.int t3), .val (.int tr), .val (.int fq), .val (.ref a1), .unset, .unset] []))
    refine own_st (fun _ kq_ => XS.aload X0.here hx rfl (hb hby at_227) rfl rfl kq_) ?_
    show OwnG _ _ _ _ _ _ _ (T0.setTop (mkF m 229 #[.val (.int f1), .val (.int f2), .val (.int f3), .val (.int xx), .val (.int tt), .val (.int mo), .val (.int (0 : Int32)), .val (.int sel), .val (.int g1), .val (.int g2), .val (.int g3), .val (.int t1), .val (.int t2), .val (.int t3), .val (.int tr), .val (.int fq), .val (.ref a1), .unset, .unset] [(.ref a1)]))
    refine own_st (fun _ kq_ => XS.iload X0.here hx rfl (hb hby at_229) rfl kq_) ?_
    show OwnG _ _ _ _ _ _ _ (T0.setTop (mkF m 231 #[.val (.int f1), .val (.int f2), .val (.int f3), .val (.int xx), .val (.int tt), .val (.int mo), .val (.int (0 : Int32)), .val (.int sel), .val (.int g1), .val (.int g2), .val (.int g3), .val (.int t1), .val (.int t2), .val (.int t3), .val (.int tr), .val (.int fq), .val (.ref a1), .unset, .unset] [(.int (0 : Int32)), (.ref a1)]))
    refine own_st (fun _ kq_ => XS.iload X0.here hx rfl (hb hby at_231) rfl kq_) ?_
    show OwnG _ _ _ _ _ _ _ (T0.setTop (mkF m 233 #[.val (.int f1), .val (.int f2), .val (.int f3), .val (.int xx), .val (.int tt), .val (.int mo), .val (.int (0 : Int32)), .val (.int sel), .val (.int g1), .val (.int g2), .val (.int g3), .val (.int t1), .val (.int t2), .val (.int t3), .val (.int tr), .val (.int fq), .val (.ref a1), .unset, .unset] [(.int fq), (.int (0 : Int32)), (.ref a1)]))
    obtain ⟨cq90, kq90, q90a, q90b, q90c⟩ := isOf hZ e0 I0.1
    obtain ⟨_, _, ⟨T90, L90, k90, n90⟩, -, X90, ⟨Lc90, hQ90, l90, y90, z90⟩, st90⟩ := X0.virtualBack hx (y := (⟨"com/example/triptych/triptych/reasoning/Links", "featureTarget", "(II)I"⟩ : MethodName)) (z := (⟨"com/example/triptych/triptych/reasoning/Links", "featureTarget", "(II)I"⟩ : MethodName)) hown (mvT hZ (hw _ (List.mem_of_getElem? (i := 63) rfl))) (mvT hZ (hw _ (List.mem_of_getElem? (i := 64) rfl))) (notFace_of_selects (args := #[]) (mvT hZ (hw _ (List.mem_of_getElem? (i := 66) rfl)))) (mvT hZ (hw _ (List.mem_of_getElem? (i := 66) rfl))) (mvT hZ (hw _ (List.mem_of_getElem? (i := 65) rfl))) (by decide) (backOf (W := 0) (rm7 l Z a0 hw [] a1 A F cz ft (0 : Int32) fq 0 l0 h0 n0 Z0 (by decide) (by decide) C0 I0) hZ (hw _ (List.mem_of_getElem? (i := 67) rfl)) (hw _ (List.mem_of_getElem? (i := 2) rfl)) (by decide) (by decide)) q90a q90c (g := (mkF m 233 #[.val (.int f1), .val (.int f2), .val (.int f3), .val (.int xx), .val (.int tt), .val (.int mo), .val (.int (0 : Int32)), .val (.int sel), .val (.int g1), .val (.int g2), .val (.int g3), .val (.int t1), .val (.int t2), .val (.int t3), .val (.int tr), .val (.int fq), .val (.ref a1), .unset, .unset] [(.int fq), (.int (0 : Int32)), (.ref a1)])) rfl (by rw [hml]; rfl) (Steps.refl _) (argsL := [(.int (0 : Int32)), (.int fq)]) (rest := []) (lenOf (by decide +kernel : parseMethodDescriptor "(II)I" = some ⟨[.int, .int], some .int⟩) rfl) rfl (by show 2 * 0 + _ ≤ _; exact Nat.le_of_eq rfl) (hb hby at_233) (fun _ _ => ⟨rfl, e0, (by dsimp only [Pt.cells]; decide), (by dsimp only [Pt.slots]; decide)⟩)
    dsimp only [Pt.U, Pt.locs, Pt.cells, Pt.slots] at X90 l90 y90 z90 st90 hQ90
    subst l90 y90 z90
    obtain ⟨rfl, N90q, E90⟩ := hQ90
    have N90 := Fr.app N0 N90q
    refine own_go st90 ?_
    show OwnG _ _ _ _ _ _ _ (T90.setTop (mkF m 236 #[.val (.int f1), .val (.int f2), .val (.int f3), .val (.int xx), .val (.int tt), .val (.int mo), .val (.int (0 : Int32)), .val (.int sel), .val (.int g1), .val (.int g2), .val (.int g3), .val (.int t1), .val (.int t2), .val (.int t3), .val (.int tr), .val (.int fq), .val (.ref a1), .unset, .unset] [(.int (own_lk l0 fq))]))
    refine own_st (fun _ kq_ => XS.istore X90.here hx rfl (hb hby at_236) rfl (l' := #[.val (.int f1), .val (.int f2), .val (.int f3), .val (.int xx), .val (.int tt), .val (.int mo), .val (.int (0 : Int32)), .val (.int sel), .val (.int g1), .val (.int g2), .val (.int g3), .val (.int t1), .val (.int t2), .val (.int t3), .val (.int tr), .val (.int fq), .val (.ref a1), .val (.int (own_lk l0 fq)), .unset]) rfl kq_) ?_
    show OwnG _ _ _ _ _ _ _ (T90.setTop (mkF m 238 #[.val (.int f1), .val (.int f2), .val (.int f3), .val (.int xx), .val (.int tt), .val (.int mo), .val (.int (0 : Int32)), .val (.int sel), .val (.int g1), .val (.int g2), .val (.int g3), .val (.int t1), .val (.int t2), .val (.int t3), .val (.int tr), .val (.int fq), .val (.ref a1), .val (.int (own_lk l0 fq)), .unset] []))
    refine own_st (fun _ kq_ => XS.iconst X90.here hx rfl (hb hby at_238) kq_) ?_
    show OwnG _ _ _ _ _ _ _ (T90.setTop (mkF m 239 #[.val (.int f1), .val (.int f2), .val (.int f3), .val (.int xx), .val (.int tt), .val (.int mo), .val (.int (0 : Int32)), .val (.int sel), .val (.int g1), .val (.int g2), .val (.int g3), .val (.int t1), .val (.int t2), .val (.int t3), .val (.int tr), .val (.int fq), .val (.ref a1), .val (.int (own_lk l0 fq)), .unset] [(.int (-1 : Int32))]))
    refine own_st (fun _ kq_ => XS.istore X90.here hx rfl (hb hby at_239) rfl (l' := #[.val (.int f1), .val (.int f2), .val (.int f3), .val (.int xx), .val (.int tt), .val (.int mo), .val (.int (0 : Int32)), .val (.int sel), .val (.int g1), .val (.int g2), .val (.int g3), .val (.int t1), .val (.int t2), .val (.int t3), .val (.int tr), .val (.int fq), .val (.ref a1), .val (.int (own_lk l0 fq)), .val (.int (-1 : Int32))]) rfl kq_) ?_
    show OwnG _ _ _ _ _ _ _ (T90.setTop (mkF m 241 #[.val (.int f1), .val (.int f2), .val (.int f3), .val (.int xx), .val (.int tt), .val (.int mo), .val (.int (0 : Int32)), .val (.int sel), .val (.int g1), .val (.int g2), .val (.int g3), .val (.int t1), .val (.int t2), .val (.int t3), .val (.int tr), .val (.int fq), .val (.ref a1), .val (.int (own_lk l0 fq)), .val (.int (-1 : Int32))] []))
    refine own_st (fun _ kq_ => XS.iload X90.here hx rfl (hb hby at_241) rfl kq_) ?_
    show OwnG _ _ _ _ _ _ _ (T90.setTop (mkF m 243 #[.val (.int f1), .val (.int f2), .val (.int f3), .val (.int xx), .val (.int tt), .val (.int mo), .val (.int (0 : Int32)), .val (.int sel), .val (.int g1), .val (.int g2), .val (.int g3), .val (.int t1), .val (.int t2), .val (.int t3), .val (.int tr), .val (.int fq), .val (.ref a1), .val (.int (own_lk l0 fq)), .val (.int (-1 : Int32))] [(.int (0 : Int32))]))
    refine own_st (fun _ kq_ => XS.ifNo X90.here hx rfl (hb hby at_243) rfl ((if0 _ _).trans (teq rfl).2) kq_) ?_
    show OwnG _ _ _ _ _ _ _ (T90.setTop (mkF m 246 #[.val (.int f1), .val (.int f2), .val (.int f3), .val (.int xx), .val (.int tt), .val (.int mo), .val (.int (0 : Int32)), .val (.int sel), .val (.int g1), .val (.int g2), .val (.int g3), .val (.int t1), .val (.int t2), .val (.int t3), .val (.int tr), .val (.int fq), .val (.ref a1), .val (.int (own_lk l0 fq)), .val (.int (-1 : Int32))] []))
    refine own_st (fun _ kq_ => XS.iload X90.here hx rfl (hb hby at_246) rfl kq_) ?_
    show OwnG _ _ _ _ _ _ _ (T90.setTop (mkF m 248 #[.val (.int f1), .val (.int f2), .val (.int f3), .val (.int xx), .val (.int tt), .val (.int mo), .val (.int (0 : Int32)), .val (.int sel), .val (.int g1), .val (.int g2), .val (.int g3), .val (.int t1), .val (.int t2), .val (.int t3), .val (.int tr), .val (.int fq), .val (.ref a1), .val (.int (own_lk l0 fq)), .val (.int (-1 : Int32))] [(.int g1)]))
    by_cases h248 : g1 = (0 : Int32)
    · skip
      refine own_st (fun _ kq_ => XS.ifYes X90.here hx rfl (pc0 := 248) (pc' := 264) rfl (hb hby at_248) rfl ((if0 _ _).trans (teq h248).1) (by decide) (by decide) kq_) ?_
      show OwnG _ _ _ _ _ _ _ (T90.setTop (mkF m 264 #[.val (.int f1), .val (.int f2), .val (.int f3), .val (.int xx), .val (.int tt), .val (.int mo), .val (.int (0 : Int32)), .val (.int sel), .val (.int g1), .val (.int g2), .val (.int g3), .val (.int t1), .val (.int t2), .val (.int t3), .val (.int tr), .val (.int fq), .val (.ref a1), .val (.int (own_lk l0 fq)), .val (.int (-1 : Int32))] []))
      refine own_st (fun _ kq_ => XS.iload X90.here hx rfl (hb hby at_264) rfl kq_) ?_
      show OwnG _ _ _ _ _ _ _ (T90.setTop (mkF m 266 #[.val (.int f1), .val (.int f2), .val (.int f3), .val (.int xx), .val (.int tt), .val (.int mo), .val (.int (0 : Int32)), .val (.int sel), .val (.int g1), .val (.int g2), .val (.int g3), .val (.int t1), .val (.int t2), .val (.int t3), .val (.int tr), .val (.int fq), .val (.ref a1), .val (.int (own_lk l0 fq)), .val (.int (-1 : Int32))] [(.int g2)]))
      by_cases h266 : g2 = (0 : Int32)
      · skip
        refine own_st (fun _ kq_ => XS.ifYes X90.here hx rfl (pc0 := 266) (pc' := 303) rfl (hb hby at_266) rfl ((if0 _ _).trans (teq h266).1) (by decide) (by decide) kq_) ?_
        show OwnG _ _ _ _ _ _ _ (T90.setTop (mkF m 303 #[.val (.int f1), .val (.int f2), .val (.int f3), .val (.int xx), .val (.int tt), .val (.int mo), .val (.int (0 : Int32)), .val (.int sel), .val (.int g1), .val (.int g2), .val (.int g3), .val (.int t1), .val (.int t2), .val (.int t3), .val (.int tr), .val (.int fq), .val (.ref a1), .val (.int (own_lk l0 fq)), .val (.int (-1 : Int32))] []))
        refine own_st (fun _ kq_ => XS.iload X90.here hx rfl (hb hby at_303) rfl kq_) ?_
        show OwnG _ _ _ _ _ _ _ (T90.setTop (mkF m 305 #[.val (.int f1), .val (.int f2), .val (.int f3), .val (.int xx), .val (.int tt), .val (.int mo), .val (.int (0 : Int32)), .val (.int sel), .val (.int g1), .val (.int g2), .val (.int g3), .val (.int t1), .val (.int t2), .val (.int t3), .val (.int tr), .val (.int fq), .val (.ref a1), .val (.int (own_lk l0 fq)), .val (.int (-1 : Int32))] [(.int (own_lk l0 fq))]))
        refine own_st (fun _ kq_ => XS.iload X90.here hx rfl (hb hby at_305) rfl kq_) ?_
        show OwnG _ _ _ _ _ _ _ (T90.setTop (mkF m 307 #[.val (.int f1), .val (.int f2), .val (.int f3), .val (.int xx), .val (.int tt), .val (.int mo), .val (.int (0 : Int32)), .val (.int sel), .val (.int g1), .val (.int g2), .val (.int g3), .val (.int t1), .val (.int t2), .val (.int t3), .val (.int tr), .val (.int fq), .val (.ref a1), .val (.int (own_lk l0 fq)), .val (.int (-1 : Int32))] [(.int (-1 : Int32)), (.int (own_lk l0 fq))]))
        refine own_st (fun _ kq_ => XS.icmpNo X90.here hx rfl (hb hby at_307) rfl (teq (by rw [hl0, if_pos h248, if_pos h266]; exact rfl)).2 kq_) ?_
        show OwnG _ _ _ _ _ _ _ (T90.setTop (mkF m 310 #[.val (.int f1), .val (.int f2), .val (.int f3), .val (.int xx), .val (.int tt), .val (.int mo), .val (.int (0 : Int32)), .val (.int sel), .val (.int g1), .val (.int g2), .val (.int g3), .val (.int t1), .val (.int t2), .val (.int t3), .val (.int tr), .val (.int fq), .val (.ref a1), .val (.int (own_lk l0 fq)), .val (.int (-1 : Int32))] []))
        refine own_st (fun _ kq_ => XS.iconst X90.here hx rfl (hb hby at_310) kq_) ?_
        show OwnG _ _ _ _ _ _ _ (T90.setTop (mkF m 311 #[.val (.int f1), .val (.int f2), .val (.int f3), .val (.int xx), .val (.int tt), .val (.int mo), .val (.int (0 : Int32)), .val (.int sel), .val (.int g1), .val (.int g2), .val (.int g3), .val (.int t1), .val (.int t2), .val (.int t3), .val (.int tr), .val (.int fq), .val (.ref a1), .val (.int (own_lk l0 fq)), .val (.int (-1 : Int32))] [(.int (1 : Int32))]))
        refine own_st (fun _ kq_ => XS.goto X90.here hx rfl (pc0 := 311) (pc' := 315) rfl (hb hby at_311) (by decide) (by decide) kq_) ?_
        show OwnG _ _ _ _ _ _ _ (T90.setTop (mkF m 315 #[.val (.int f1), .val (.int f2), .val (.int f3), .val (.int xx), .val (.int tt), .val (.int mo), .val (.int (0 : Int32)), .val (.int sel), .val (.int g1), .val (.int g2), .val (.int g3), .val (.int t1), .val (.int t2), .val (.int t3), .val (.int tr), .val (.int fq), .val (.ref a1), .val (.int (own_lk l0 fq)), .val (.int (-1 : Int32))] [(.int (1 : Int32))]))
        exact own_retN X90 hx hrt hlk (t := .boolean) (by simp) (hb hby at_315) (by decide) (by decide) (by show _ ∧ _; first | (rw [E90]; exact ⟨rfl, N90⟩) | exact ⟨rfl, N90⟩)
      · skip
        refine own_st (fun _ kq_ => XS.ifNo X90.here hx rfl (hb hby at_266) rfl ((if0 _ _).trans (feq h266).1) kq_) ?_
        show OwnG _ _ _ _ _ _ _ (T90.setTop (mkF m 269 #[.val (.int f1), .val (.int f2), .val (.int f3), .val (.int xx), .val (.int tt), .val (.int mo), .val (.int (0 : Int32)), .val (.int sel), .val (.int g1), .val (.int g2), .val (.int g3), .val (.int t1), .val (.int t2), .val (.int t3), .val (.int tr), .val (.int fq), .val (.ref a1), .val (.int (own_lk l0 fq)), .val (.int (-1 : Int32))] []))
        refine own_st (fun _ kq_ => XS.iload X90.here hx rfl (hb hby at_269) rfl kq_) ?_
        show OwnG _ _ _ _ _ _ _ (T90.setTop (mkF m 271 #[.val (.int f1), .val (.int f2), .val (.int f3), .val (.int xx), .val (.int tt), .val (.int mo), .val (.int (0 : Int32)), .val (.int sel), .val (.int g1), .val (.int g2), .val (.int g3), .val (.int t1), .val (.int t2), .val (.int t3), .val (.int tr), .val (.int fq), .val (.ref a1), .val (.int (own_lk l0 fq)), .val (.int (-1 : Int32))] [(.int fq)]))
        refine own_st (fun _ kq_ => XS.iloadN X90.here hx rfl (hb hby at_271) rfl kq_) ?_
        show OwnG _ _ _ _ _ _ _ (T90.setTop (mkF m 272 #[.val (.int f1), .val (.int f2), .val (.int f3), .val (.int xx), .val (.int tt), .val (.int mo), .val (.int (0 : Int32)), .val (.int sel), .val (.int g1), .val (.int g2), .val (.int g3), .val (.int t1), .val (.int t2), .val (.int t3), .val (.int tr), .val (.int fq), .val (.ref a1), .val (.int (own_lk l0 fq)), .val (.int (-1 : Int32))] [(.int f2), (.int fq)]))
        by_cases h272 : fq = f2
        · skip
          refine own_st (fun _ kq_ => XS.icmpNo X90.here hx rfl (hb hby at_272) rfl (teq h272).2 kq_) ?_
          show OwnG _ _ _ _ _ _ _ (T90.setTop (mkF m 275 #[.val (.int f1), .val (.int f2), .val (.int f3), .val (.int xx), .val (.int tt), .val (.int mo), .val (.int (0 : Int32)), .val (.int sel), .val (.int g1), .val (.int g2), .val (.int g3), .val (.int t1), .val (.int t2), .val (.int t3), .val (.int tr), .val (.int fq), .val (.ref a1), .val (.int (own_lk l0 fq)), .val (.int (-1 : Int32))] []))
          refine own_st (fun _ kq_ => XS.iload X90.here hx rfl (hb hby at_275) rfl kq_) ?_
          show OwnG _ _ _ _ _ _ _ (T90.setTop (mkF m 277 #[.val (.int f1), .val (.int f2), .val (.int f3), .val (.int xx), .val (.int tt), .val (.int mo), .val (.int (0 : Int32)), .val (.int sel), .val (.int g1), .val (.int g2), .val (.int g3), .val (.int t1), .val (.int t2), .val (.int t3), .val (.int tr), .val (.int fq), .val (.ref a1), .val (.int (own_lk l0 fq)), .val (.int (-1 : Int32))] [(.int t2)]))
          refine own_st (fun _ kq_ => XS.istore X90.here hx rfl (hb hby at_277) rfl (l' := #[.val (.int f1), .val (.int f2), .val (.int f3), .val (.int xx), .val (.int tt), .val (.int mo), .val (.int (0 : Int32)), .val (.int sel), .val (.int g1), .val (.int g2), .val (.int g3), .val (.int t1), .val (.int t2), .val (.int t3), .val (.int tr), .val (.int fq), .val (.ref a1), .val (.int (own_lk l0 fq)), .val (.int t2)]) rfl kq_) ?_
          show OwnG _ _ _ _ _ _ _ (T90.setTop (mkF m 279 #[.val (.int f1), .val (.int f2), .val (.int f3), .val (.int xx), .val (.int tt), .val (.int mo), .val (.int (0 : Int32)), .val (.int sel), .val (.int g1), .val (.int g2), .val (.int g3), .val (.int t1), .val (.int t2), .val (.int t3), .val (.int tr), .val (.int fq), .val (.ref a1), .val (.int (own_lk l0 fq)), .val (.int t2)] []))
          refine own_st (fun _ kq_ => XS.goto X90.here hx rfl (pc0 := 279) (pc' := 303) rfl (hb hby at_279) (by decide) (by decide) kq_) ?_
          show OwnG _ _ _ _ _ _ _ (T90.setTop (mkF m 303 #[.val (.int f1), .val (.int f2), .val (.int f3), .val (.int xx), .val (.int tt), .val (.int mo), .val (.int (0 : Int32)), .val (.int sel), .val (.int g1), .val (.int g2), .val (.int g3), .val (.int t1), .val (.int t2), .val (.int t3), .val (.int tr), .val (.int fq), .val (.ref a1), .val (.int (own_lk l0 fq)), .val (.int t2)] []))
          refine own_st (fun _ kq_ => XS.iload X90.here hx rfl (hb hby at_303) rfl kq_) ?_
          show OwnG _ _ _ _ _ _ _ (T90.setTop (mkF m 305 #[.val (.int f1), .val (.int f2), .val (.int f3), .val (.int xx), .val (.int tt), .val (.int mo), .val (.int (0 : Int32)), .val (.int sel), .val (.int g1), .val (.int g2), .val (.int g3), .val (.int t1), .val (.int t2), .val (.int t3), .val (.int tr), .val (.int fq), .val (.ref a1), .val (.int (own_lk l0 fq)), .val (.int t2)] [(.int (own_lk l0 fq))]))
          refine own_st (fun _ kq_ => XS.iload X90.here hx rfl (hb hby at_305) rfl kq_) ?_
          show OwnG _ _ _ _ _ _ _ (T90.setTop (mkF m 307 #[.val (.int f1), .val (.int f2), .val (.int f3), .val (.int xx), .val (.int tt), .val (.int mo), .val (.int (0 : Int32)), .val (.int sel), .val (.int g1), .val (.int g2), .val (.int g3), .val (.int t1), .val (.int t2), .val (.int t3), .val (.int tr), .val (.int fq), .val (.ref a1), .val (.int (own_lk l0 fq)), .val (.int t2)] [(.int t2), (.int (own_lk l0 fq))]))
          refine own_st (fun _ kq_ => XS.icmpNo X90.here hx rfl (hb hby at_307) rfl (teq (by rw [hl0, if_pos h248, if_neg h266]; exact (if_pos h272.symm))).2 kq_) ?_
          show OwnG _ _ _ _ _ _ _ (T90.setTop (mkF m 310 #[.val (.int f1), .val (.int f2), .val (.int f3), .val (.int xx), .val (.int tt), .val (.int mo), .val (.int (0 : Int32)), .val (.int sel), .val (.int g1), .val (.int g2), .val (.int g3), .val (.int t1), .val (.int t2), .val (.int t3), .val (.int tr), .val (.int fq), .val (.ref a1), .val (.int (own_lk l0 fq)), .val (.int t2)] []))
          refine own_st (fun _ kq_ => XS.iconst X90.here hx rfl (hb hby at_310) kq_) ?_
          show OwnG _ _ _ _ _ _ _ (T90.setTop (mkF m 311 #[.val (.int f1), .val (.int f2), .val (.int f3), .val (.int xx), .val (.int tt), .val (.int mo), .val (.int (0 : Int32)), .val (.int sel), .val (.int g1), .val (.int g2), .val (.int g3), .val (.int t1), .val (.int t2), .val (.int t3), .val (.int tr), .val (.int fq), .val (.ref a1), .val (.int (own_lk l0 fq)), .val (.int t2)] [(.int (1 : Int32))]))
          refine own_st (fun _ kq_ => XS.goto X90.here hx rfl (pc0 := 311) (pc' := 315) rfl (hb hby at_311) (by decide) (by decide) kq_) ?_
          show OwnG _ _ _ _ _ _ _ (T90.setTop (mkF m 315 #[.val (.int f1), .val (.int f2), .val (.int f3), .val (.int xx), .val (.int tt), .val (.int mo), .val (.int (0 : Int32)), .val (.int sel), .val (.int g1), .val (.int g2), .val (.int g3), .val (.int t1), .val (.int t2), .val (.int t3), .val (.int tr), .val (.int fq), .val (.ref a1), .val (.int (own_lk l0 fq)), .val (.int t2)] [(.int (1 : Int32))]))
          exact own_retN X90 hx hrt hlk (t := .boolean) (by simp) (hb hby at_315) (by decide) (by decide) (by show _ ∧ _; first | (rw [E90]; exact ⟨rfl, N90⟩) | exact ⟨rfl, N90⟩)
        · skip
          refine own_st (fun _ kq_ => XS.icmpYes X90.here hx rfl (pc0 := 272) (pc' := 303) rfl (hb hby at_272) rfl (feq h272).2 (by decide) (by decide) kq_) ?_
          show OwnG _ _ _ _ _ _ _ (T90.setTop (mkF m 303 #[.val (.int f1), .val (.int f2), .val (.int f3), .val (.int xx), .val (.int tt), .val (.int mo), .val (.int (0 : Int32)), .val (.int sel), .val (.int g1), .val (.int g2), .val (.int g3), .val (.int t1), .val (.int t2), .val (.int t3), .val (.int tr), .val (.int fq), .val (.ref a1), .val (.int (own_lk l0 fq)), .val (.int (-1 : Int32))] []))
          refine own_st (fun _ kq_ => XS.iload X90.here hx rfl (hb hby at_303) rfl kq_) ?_
          show OwnG _ _ _ _ _ _ _ (T90.setTop (mkF m 305 #[.val (.int f1), .val (.int f2), .val (.int f3), .val (.int xx), .val (.int tt), .val (.int mo), .val (.int (0 : Int32)), .val (.int sel), .val (.int g1), .val (.int g2), .val (.int g3), .val (.int t1), .val (.int t2), .val (.int t3), .val (.int tr), .val (.int fq), .val (.ref a1), .val (.int (own_lk l0 fq)), .val (.int (-1 : Int32))] [(.int (own_lk l0 fq))]))
          refine own_st (fun _ kq_ => XS.iload X90.here hx rfl (hb hby at_305) rfl kq_) ?_
          show OwnG _ _ _ _ _ _ _ (T90.setTop (mkF m 307 #[.val (.int f1), .val (.int f2), .val (.int f3), .val (.int xx), .val (.int tt), .val (.int mo), .val (.int (0 : Int32)), .val (.int sel), .val (.int g1), .val (.int g2), .val (.int g3), .val (.int t1), .val (.int t2), .val (.int t3), .val (.int tr), .val (.int fq), .val (.ref a1), .val (.int (own_lk l0 fq)), .val (.int (-1 : Int32))] [(.int (-1 : Int32)), (.int (own_lk l0 fq))]))
          refine own_st (fun _ kq_ => XS.icmpNo X90.here hx rfl (hb hby at_307) rfl (teq (by rw [hl0, if_pos h248, if_neg h266]; exact (if_neg fun z => h272 z.symm))).2 kq_) ?_
          show OwnG _ _ _ _ _ _ _ (T90.setTop (mkF m 310 #[.val (.int f1), .val (.int f2), .val (.int f3), .val (.int xx), .val (.int tt), .val (.int mo), .val (.int (0 : Int32)), .val (.int sel), .val (.int g1), .val (.int g2), .val (.int g3), .val (.int t1), .val (.int t2), .val (.int t3), .val (.int tr), .val (.int fq), .val (.ref a1), .val (.int (own_lk l0 fq)), .val (.int (-1 : Int32))] []))
          refine own_st (fun _ kq_ => XS.iconst X90.here hx rfl (hb hby at_310) kq_) ?_
          show OwnG _ _ _ _ _ _ _ (T90.setTop (mkF m 311 #[.val (.int f1), .val (.int f2), .val (.int f3), .val (.int xx), .val (.int tt), .val (.int mo), .val (.int (0 : Int32)), .val (.int sel), .val (.int g1), .val (.int g2), .val (.int g3), .val (.int t1), .val (.int t2), .val (.int t3), .val (.int tr), .val (.int fq), .val (.ref a1), .val (.int (own_lk l0 fq)), .val (.int (-1 : Int32))] [(.int (1 : Int32))]))
          refine own_st (fun _ kq_ => XS.goto X90.here hx rfl (pc0 := 311) (pc' := 315) rfl (hb hby at_311) (by decide) (by decide) kq_) ?_
          show OwnG _ _ _ _ _ _ _ (T90.setTop (mkF m 315 #[.val (.int f1), .val (.int f2), .val (.int f3), .val (.int xx), .val (.int tt), .val (.int mo), .val (.int (0 : Int32)), .val (.int sel), .val (.int g1), .val (.int g2), .val (.int g3), .val (.int t1), .val (.int t2), .val (.int t3), .val (.int tr), .val (.int fq), .val (.ref a1), .val (.int (own_lk l0 fq)), .val (.int (-1 : Int32))] [(.int (1 : Int32))]))
          exact own_retN X90 hx hrt hlk (t := .boolean) (by simp) (hb hby at_315) (by decide) (by decide) (by show _ ∧ _; first | (rw [E90]; exact ⟨rfl, N90⟩) | exact ⟨rfl, N90⟩)
    · skip
      refine own_st (fun _ kq_ => XS.ifNo X90.here hx rfl (hb hby at_248) rfl ((if0 _ _).trans (feq h248).1) kq_) ?_
      show OwnG _ _ _ _ _ _ _ (T90.setTop (mkF m 251 #[.val (.int f1), .val (.int f2), .val (.int f3), .val (.int xx), .val (.int tt), .val (.int mo), .val (.int (0 : Int32)), .val (.int sel), .val (.int g1), .val (.int g2), .val (.int g3), .val (.int t1), .val (.int t2), .val (.int t3), .val (.int tr), .val (.int fq), .val (.ref a1), .val (.int (own_lk l0 fq)), .val (.int (-1 : Int32))] []))
      refine own_st (fun _ kq_ => XS.iload X90.here hx rfl (hb hby at_251) rfl kq_) ?_
      show OwnG _ _ _ _ _ _ _ (T90.setTop (mkF m 253 #[.val (.int f1), .val (.int f2), .val (.int f3), .val (.int xx), .val (.int tt), .val (.int mo), .val (.int (0 : Int32)), .val (.int sel), .val (.int g1), .val (.int g2), .val (.int g3), .val (.int t1), .val (.int t2), .val (.int t3), .val (.int tr), .val (.int fq), .val (.ref a1), .val (.int (own_lk l0 fq)), .val (.int (-1 : Int32))] [(.int fq)]))
      refine own_st (fun _ kq_ => XS.iloadN X90.here hx rfl (hb hby at_253) rfl kq_) ?_
      show OwnG _ _ _ _ _ _ _ (T90.setTop (mkF m 254 #[.val (.int f1), .val (.int f2), .val (.int f3), .val (.int xx), .val (.int tt), .val (.int mo), .val (.int (0 : Int32)), .val (.int sel), .val (.int g1), .val (.int g2), .val (.int g3), .val (.int t1), .val (.int t2), .val (.int t3), .val (.int tr), .val (.int fq), .val (.ref a1), .val (.int (own_lk l0 fq)), .val (.int (-1 : Int32))] [(.int f1), (.int fq)]))
      by_cases h254 : fq = f1
      · skip
        refine own_st (fun _ kq_ => XS.icmpNo X90.here hx rfl (hb hby at_254) rfl (teq h254).2 kq_) ?_
        show OwnG _ _ _ _ _ _ _ (T90.setTop (mkF m 257 #[.val (.int f1), .val (.int f2), .val (.int f3), .val (.int xx), .val (.int tt), .val (.int mo), .val (.int (0 : Int32)), .val (.int sel), .val (.int g1), .val (.int g2), .val (.int g3), .val (.int t1), .val (.int t2), .val (.int t3), .val (.int tr), .val (.int fq), .val (.ref a1), .val (.int (own_lk l0 fq)), .val (.int (-1 : Int32))] []))
        refine own_st (fun _ kq_ => XS.iload X90.here hx rfl (hb hby at_257) rfl kq_) ?_
        show OwnG _ _ _ _ _ _ _ (T90.setTop (mkF m 259 #[.val (.int f1), .val (.int f2), .val (.int f3), .val (.int xx), .val (.int tt), .val (.int mo), .val (.int (0 : Int32)), .val (.int sel), .val (.int g1), .val (.int g2), .val (.int g3), .val (.int t1), .val (.int t2), .val (.int t3), .val (.int tr), .val (.int fq), .val (.ref a1), .val (.int (own_lk l0 fq)), .val (.int (-1 : Int32))] [(.int t1)]))
        refine own_st (fun _ kq_ => XS.istore X90.here hx rfl (hb hby at_259) rfl (l' := #[.val (.int f1), .val (.int f2), .val (.int f3), .val (.int xx), .val (.int tt), .val (.int mo), .val (.int (0 : Int32)), .val (.int sel), .val (.int g1), .val (.int g2), .val (.int g3), .val (.int t1), .val (.int t2), .val (.int t3), .val (.int tr), .val (.int fq), .val (.ref a1), .val (.int (own_lk l0 fq)), .val (.int t1)]) rfl kq_) ?_
        show OwnG _ _ _ _ _ _ _ (T90.setTop (mkF m 261 #[.val (.int f1), .val (.int f2), .val (.int f3), .val (.int xx), .val (.int tt), .val (.int mo), .val (.int (0 : Int32)), .val (.int sel), .val (.int g1), .val (.int g2), .val (.int g3), .val (.int t1), .val (.int t2), .val (.int t3), .val (.int tr), .val (.int fq), .val (.ref a1), .val (.int (own_lk l0 fq)), .val (.int t1)] []))
        refine own_st (fun _ kq_ => XS.goto X90.here hx rfl (pc0 := 261) (pc' := 303) rfl (hb hby at_261) (by decide) (by decide) kq_) ?_
        show OwnG _ _ _ _ _ _ _ (T90.setTop (mkF m 303 #[.val (.int f1), .val (.int f2), .val (.int f3), .val (.int xx), .val (.int tt), .val (.int mo), .val (.int (0 : Int32)), .val (.int sel), .val (.int g1), .val (.int g2), .val (.int g3), .val (.int t1), .val (.int t2), .val (.int t3), .val (.int tr), .val (.int fq), .val (.ref a1), .val (.int (own_lk l0 fq)), .val (.int t1)] []))
        refine own_st (fun _ kq_ => XS.iload X90.here hx rfl (hb hby at_303) rfl kq_) ?_
        show OwnG _ _ _ _ _ _ _ (T90.setTop (mkF m 305 #[.val (.int f1), .val (.int f2), .val (.int f3), .val (.int xx), .val (.int tt), .val (.int mo), .val (.int (0 : Int32)), .val (.int sel), .val (.int g1), .val (.int g2), .val (.int g3), .val (.int t1), .val (.int t2), .val (.int t3), .val (.int tr), .val (.int fq), .val (.ref a1), .val (.int (own_lk l0 fq)), .val (.int t1)] [(.int (own_lk l0 fq))]))
        refine own_st (fun _ kq_ => XS.iload X90.here hx rfl (hb hby at_305) rfl kq_) ?_
        show OwnG _ _ _ _ _ _ _ (T90.setTop (mkF m 307 #[.val (.int f1), .val (.int f2), .val (.int f3), .val (.int xx), .val (.int tt), .val (.int mo), .val (.int (0 : Int32)), .val (.int sel), .val (.int g1), .val (.int g2), .val (.int g3), .val (.int t1), .val (.int t2), .val (.int t3), .val (.int tr), .val (.int fq), .val (.ref a1), .val (.int (own_lk l0 fq)), .val (.int t1)] [(.int t1), (.int (own_lk l0 fq))]))
        refine own_st (fun _ kq_ => XS.icmpNo X90.here hx rfl (hb hby at_307) rfl (teq (by rw [hl0, if_neg h248]; exact if_pos h254.symm)).2 kq_) ?_
        show OwnG _ _ _ _ _ _ _ (T90.setTop (mkF m 310 #[.val (.int f1), .val (.int f2), .val (.int f3), .val (.int xx), .val (.int tt), .val (.int mo), .val (.int (0 : Int32)), .val (.int sel), .val (.int g1), .val (.int g2), .val (.int g3), .val (.int t1), .val (.int t2), .val (.int t3), .val (.int tr), .val (.int fq), .val (.ref a1), .val (.int (own_lk l0 fq)), .val (.int t1)] []))
        refine own_st (fun _ kq_ => XS.iconst X90.here hx rfl (hb hby at_310) kq_) ?_
        show OwnG _ _ _ _ _ _ _ (T90.setTop (mkF m 311 #[.val (.int f1), .val (.int f2), .val (.int f3), .val (.int xx), .val (.int tt), .val (.int mo), .val (.int (0 : Int32)), .val (.int sel), .val (.int g1), .val (.int g2), .val (.int g3), .val (.int t1), .val (.int t2), .val (.int t3), .val (.int tr), .val (.int fq), .val (.ref a1), .val (.int (own_lk l0 fq)), .val (.int t1)] [(.int (1 : Int32))]))
        refine own_st (fun _ kq_ => XS.goto X90.here hx rfl (pc0 := 311) (pc' := 315) rfl (hb hby at_311) (by decide) (by decide) kq_) ?_
        show OwnG _ _ _ _ _ _ _ (T90.setTop (mkF m 315 #[.val (.int f1), .val (.int f2), .val (.int f3), .val (.int xx), .val (.int tt), .val (.int mo), .val (.int (0 : Int32)), .val (.int sel), .val (.int g1), .val (.int g2), .val (.int g3), .val (.int t1), .val (.int t2), .val (.int t3), .val (.int tr), .val (.int fq), .val (.ref a1), .val (.int (own_lk l0 fq)), .val (.int t1)] [(.int (1 : Int32))]))
        exact own_retN X90 hx hrt hlk (t := .boolean) (by simp) (hb hby at_315) (by decide) (by decide) (by show _ ∧ _; first | (rw [E90]; exact ⟨rfl, N90⟩) | exact ⟨rfl, N90⟩)
      · skip
        refine own_st (fun _ kq_ => XS.icmpYes X90.here hx rfl (pc0 := 254) (pc' := 264) rfl (hb hby at_254) rfl (feq h254).2 (by decide) (by decide) kq_) ?_
        show OwnG _ _ _ _ _ _ _ (T90.setTop (mkF m 264 #[.val (.int f1), .val (.int f2), .val (.int f3), .val (.int xx), .val (.int tt), .val (.int mo), .val (.int (0 : Int32)), .val (.int sel), .val (.int g1), .val (.int g2), .val (.int g3), .val (.int t1), .val (.int t2), .val (.int t3), .val (.int tr), .val (.int fq), .val (.ref a1), .val (.int (own_lk l0 fq)), .val (.int (-1 : Int32))] []))
        refine own_st (fun _ kq_ => XS.iload X90.here hx rfl (hb hby at_264) rfl kq_) ?_
        show OwnG _ _ _ _ _ _ _ (T90.setTop (mkF m 266 #[.val (.int f1), .val (.int f2), .val (.int f3), .val (.int xx), .val (.int tt), .val (.int mo), .val (.int (0 : Int32)), .val (.int sel), .val (.int g1), .val (.int g2), .val (.int g3), .val (.int t1), .val (.int t2), .val (.int t3), .val (.int tr), .val (.int fq), .val (.ref a1), .val (.int (own_lk l0 fq)), .val (.int (-1 : Int32))] [(.int g2)]))
        by_cases h266 : g2 = (0 : Int32)
        · skip
          refine own_st (fun _ kq_ => XS.ifYes X90.here hx rfl (pc0 := 266) (pc' := 303) rfl (hb hby at_266) rfl ((if0 _ _).trans (teq h266).1) (by decide) (by decide) kq_) ?_
          show OwnG _ _ _ _ _ _ _ (T90.setTop (mkF m 303 #[.val (.int f1), .val (.int f2), .val (.int f3), .val (.int xx), .val (.int tt), .val (.int mo), .val (.int (0 : Int32)), .val (.int sel), .val (.int g1), .val (.int g2), .val (.int g3), .val (.int t1), .val (.int t2), .val (.int t3), .val (.int tr), .val (.int fq), .val (.ref a1), .val (.int (own_lk l0 fq)), .val (.int (-1 : Int32))] []))
          refine own_st (fun _ kq_ => XS.iload X90.here hx rfl (hb hby at_303) rfl kq_) ?_
          show OwnG _ _ _ _ _ _ _ (T90.setTop (mkF m 305 #[.val (.int f1), .val (.int f2), .val (.int f3), .val (.int xx), .val (.int tt), .val (.int mo), .val (.int (0 : Int32)), .val (.int sel), .val (.int g1), .val (.int g2), .val (.int g3), .val (.int t1), .val (.int t2), .val (.int t3), .val (.int tr), .val (.int fq), .val (.ref a1), .val (.int (own_lk l0 fq)), .val (.int (-1 : Int32))] [(.int (own_lk l0 fq))]))
          refine own_st (fun _ kq_ => XS.iload X90.here hx rfl (hb hby at_305) rfl kq_) ?_
          show OwnG _ _ _ _ _ _ _ (T90.setTop (mkF m 307 #[.val (.int f1), .val (.int f2), .val (.int f3), .val (.int xx), .val (.int tt), .val (.int mo), .val (.int (0 : Int32)), .val (.int sel), .val (.int g1), .val (.int g2), .val (.int g3), .val (.int t1), .val (.int t2), .val (.int t3), .val (.int tr), .val (.int fq), .val (.ref a1), .val (.int (own_lk l0 fq)), .val (.int (-1 : Int32))] [(.int (-1 : Int32)), (.int (own_lk l0 fq))]))
          refine own_st (fun _ kq_ => XS.icmpNo X90.here hx rfl (hb hby at_307) rfl (teq (by rw [hl0, if_neg h248, if_pos h266]; exact ((if_neg (fun z => h254 z.symm)).trans rfl))).2 kq_) ?_
          show OwnG _ _ _ _ _ _ _ (T90.setTop (mkF m 310 #[.val (.int f1), .val (.int f2), .val (.int f3), .val (.int xx), .val (.int tt), .val (.int mo), .val (.int (0 : Int32)), .val (.int sel), .val (.int g1), .val (.int g2), .val (.int g3), .val (.int t1), .val (.int t2), .val (.int t3), .val (.int tr), .val (.int fq), .val (.ref a1), .val (.int (own_lk l0 fq)), .val (.int (-1 : Int32))] []))
          refine own_st (fun _ kq_ => XS.iconst X90.here hx rfl (hb hby at_310) kq_) ?_
          show OwnG _ _ _ _ _ _ _ (T90.setTop (mkF m 311 #[.val (.int f1), .val (.int f2), .val (.int f3), .val (.int xx), .val (.int tt), .val (.int mo), .val (.int (0 : Int32)), .val (.int sel), .val (.int g1), .val (.int g2), .val (.int g3), .val (.int t1), .val (.int t2), .val (.int t3), .val (.int tr), .val (.int fq), .val (.ref a1), .val (.int (own_lk l0 fq)), .val (.int (-1 : Int32))] [(.int (1 : Int32))]))
          refine own_st (fun _ kq_ => XS.goto X90.here hx rfl (pc0 := 311) (pc' := 315) rfl (hb hby at_311) (by decide) (by decide) kq_) ?_
          show OwnG _ _ _ _ _ _ _ (T90.setTop (mkF m 315 #[.val (.int f1), .val (.int f2), .val (.int f3), .val (.int xx), .val (.int tt), .val (.int mo), .val (.int (0 : Int32)), .val (.int sel), .val (.int g1), .val (.int g2), .val (.int g3), .val (.int t1), .val (.int t2), .val (.int t3), .val (.int tr), .val (.int fq), .val (.ref a1), .val (.int (own_lk l0 fq)), .val (.int (-1 : Int32))] [(.int (1 : Int32))]))
          exact own_retN X90 hx hrt hlk (t := .boolean) (by simp) (hb hby at_315) (by decide) (by decide) (by show _ ∧ _; first | (rw [E90]; exact ⟨rfl, N90⟩) | exact ⟨rfl, N90⟩)
        · skip
          refine own_st (fun _ kq_ => XS.ifNo X90.here hx rfl (hb hby at_266) rfl ((if0 _ _).trans (feq h266).1) kq_) ?_
          show OwnG _ _ _ _ _ _ _ (T90.setTop (mkF m 269 #[.val (.int f1), .val (.int f2), .val (.int f3), .val (.int xx), .val (.int tt), .val (.int mo), .val (.int (0 : Int32)), .val (.int sel), .val (.int g1), .val (.int g2), .val (.int g3), .val (.int t1), .val (.int t2), .val (.int t3), .val (.int tr), .val (.int fq), .val (.ref a1), .val (.int (own_lk l0 fq)), .val (.int (-1 : Int32))] []))
          refine own_st (fun _ kq_ => XS.iload X90.here hx rfl (hb hby at_269) rfl kq_) ?_
          show OwnG _ _ _ _ _ _ _ (T90.setTop (mkF m 271 #[.val (.int f1), .val (.int f2), .val (.int f3), .val (.int xx), .val (.int tt), .val (.int mo), .val (.int (0 : Int32)), .val (.int sel), .val (.int g1), .val (.int g2), .val (.int g3), .val (.int t1), .val (.int t2), .val (.int t3), .val (.int tr), .val (.int fq), .val (.ref a1), .val (.int (own_lk l0 fq)), .val (.int (-1 : Int32))] [(.int fq)]))
          refine own_st (fun _ kq_ => XS.iloadN X90.here hx rfl (hb hby at_271) rfl kq_) ?_
          show OwnG _ _ _ _ _ _ _ (T90.setTop (mkF m 272 #[.val (.int f1), .val (.int f2), .val (.int f3), .val (.int xx), .val (.int tt), .val (.int mo), .val (.int (0 : Int32)), .val (.int sel), .val (.int g1), .val (.int g2), .val (.int g3), .val (.int t1), .val (.int t2), .val (.int t3), .val (.int tr), .val (.int fq), .val (.ref a1), .val (.int (own_lk l0 fq)), .val (.int (-1 : Int32))] [(.int f2), (.int fq)]))
          by_cases h272 : fq = f2
          · skip
            refine own_st (fun _ kq_ => XS.icmpNo X90.here hx rfl (hb hby at_272) rfl (teq h272).2 kq_) ?_
            show OwnG _ _ _ _ _ _ _ (T90.setTop (mkF m 275 #[.val (.int f1), .val (.int f2), .val (.int f3), .val (.int xx), .val (.int tt), .val (.int mo), .val (.int (0 : Int32)), .val (.int sel), .val (.int g1), .val (.int g2), .val (.int g3), .val (.int t1), .val (.int t2), .val (.int t3), .val (.int tr), .val (.int fq), .val (.ref a1), .val (.int (own_lk l0 fq)), .val (.int (-1 : Int32))] []))
            refine own_st (fun _ kq_ => XS.iload X90.here hx rfl (hb hby at_275) rfl kq_) ?_
            show OwnG _ _ _ _ _ _ _ (T90.setTop (mkF m 277 #[.val (.int f1), .val (.int f2), .val (.int f3), .val (.int xx), .val (.int tt), .val (.int mo), .val (.int (0 : Int32)), .val (.int sel), .val (.int g1), .val (.int g2), .val (.int g3), .val (.int t1), .val (.int t2), .val (.int t3), .val (.int tr), .val (.int fq), .val (.ref a1), .val (.int (own_lk l0 fq)), .val (.int (-1 : Int32))] [(.int t2)]))
            refine own_st (fun _ kq_ => XS.istore X90.here hx rfl (hb hby at_277) rfl (l' := #[.val (.int f1), .val (.int f2), .val (.int f3), .val (.int xx), .val (.int tt), .val (.int mo), .val (.int (0 : Int32)), .val (.int sel), .val (.int g1), .val (.int g2), .val (.int g3), .val (.int t1), .val (.int t2), .val (.int t3), .val (.int tr), .val (.int fq), .val (.ref a1), .val (.int (own_lk l0 fq)), .val (.int t2)]) rfl kq_) ?_
            show OwnG _ _ _ _ _ _ _ (T90.setTop (mkF m 279 #[.val (.int f1), .val (.int f2), .val (.int f3), .val (.int xx), .val (.int tt), .val (.int mo), .val (.int (0 : Int32)), .val (.int sel), .val (.int g1), .val (.int g2), .val (.int g3), .val (.int t1), .val (.int t2), .val (.int t3), .val (.int tr), .val (.int fq), .val (.ref a1), .val (.int (own_lk l0 fq)), .val (.int t2)] []))
            refine own_st (fun _ kq_ => XS.goto X90.here hx rfl (pc0 := 279) (pc' := 303) rfl (hb hby at_279) (by decide) (by decide) kq_) ?_
            show OwnG _ _ _ _ _ _ _ (T90.setTop (mkF m 303 #[.val (.int f1), .val (.int f2), .val (.int f3), .val (.int xx), .val (.int tt), .val (.int mo), .val (.int (0 : Int32)), .val (.int sel), .val (.int g1), .val (.int g2), .val (.int g3), .val (.int t1), .val (.int t2), .val (.int t3), .val (.int tr), .val (.int fq), .val (.ref a1), .val (.int (own_lk l0 fq)), .val (.int t2)] []))
            refine own_st (fun _ kq_ => XS.iload X90.here hx rfl (hb hby at_303) rfl kq_) ?_
            show OwnG _ _ _ _ _ _ _ (T90.setTop (mkF m 305 #[.val (.int f1), .val (.int f2), .val (.int f3), .val (.int xx), .val (.int tt), .val (.int mo), .val (.int (0 : Int32)), .val (.int sel), .val (.int g1), .val (.int g2), .val (.int g3), .val (.int t1), .val (.int t2), .val (.int t3), .val (.int tr), .val (.int fq), .val (.ref a1), .val (.int (own_lk l0 fq)), .val (.int t2)] [(.int (own_lk l0 fq))]))
            refine own_st (fun _ kq_ => XS.iload X90.here hx rfl (hb hby at_305) rfl kq_) ?_
            show OwnG _ _ _ _ _ _ _ (T90.setTop (mkF m 307 #[.val (.int f1), .val (.int f2), .val (.int f3), .val (.int xx), .val (.int tt), .val (.int mo), .val (.int (0 : Int32)), .val (.int sel), .val (.int g1), .val (.int g2), .val (.int g3), .val (.int t1), .val (.int t2), .val (.int t3), .val (.int tr), .val (.int fq), .val (.ref a1), .val (.int (own_lk l0 fq)), .val (.int t2)] [(.int t2), (.int (own_lk l0 fq))]))
            refine own_st (fun _ kq_ => XS.icmpNo X90.here hx rfl (hb hby at_307) rfl (teq (by rw [hl0, if_neg h248, if_neg h266]; exact ((if_neg (fun z => h254 z.symm)).trans (if_pos h272.symm)))).2 kq_) ?_
            show OwnG _ _ _ _ _ _ _ (T90.setTop (mkF m 310 #[.val (.int f1), .val (.int f2), .val (.int f3), .val (.int xx), .val (.int tt), .val (.int mo), .val (.int (0 : Int32)), .val (.int sel), .val (.int g1), .val (.int g2), .val (.int g3), .val (.int t1), .val (.int t2), .val (.int t3), .val (.int tr), .val (.int fq), .val (.ref a1), .val (.int (own_lk l0 fq)), .val (.int t2)] []))
            refine own_st (fun _ kq_ => XS.iconst X90.here hx rfl (hb hby at_310) kq_) ?_
            show OwnG _ _ _ _ _ _ _ (T90.setTop (mkF m 311 #[.val (.int f1), .val (.int f2), .val (.int f3), .val (.int xx), .val (.int tt), .val (.int mo), .val (.int (0 : Int32)), .val (.int sel), .val (.int g1), .val (.int g2), .val (.int g3), .val (.int t1), .val (.int t2), .val (.int t3), .val (.int tr), .val (.int fq), .val (.ref a1), .val (.int (own_lk l0 fq)), .val (.int t2)] [(.int (1 : Int32))]))
            refine own_st (fun _ kq_ => XS.goto X90.here hx rfl (pc0 := 311) (pc' := 315) rfl (hb hby at_311) (by decide) (by decide) kq_) ?_
            show OwnG _ _ _ _ _ _ _ (T90.setTop (mkF m 315 #[.val (.int f1), .val (.int f2), .val (.int f3), .val (.int xx), .val (.int tt), .val (.int mo), .val (.int (0 : Int32)), .val (.int sel), .val (.int g1), .val (.int g2), .val (.int g3), .val (.int t1), .val (.int t2), .val (.int t3), .val (.int tr), .val (.int fq), .val (.ref a1), .val (.int (own_lk l0 fq)), .val (.int t2)] [(.int (1 : Int32))]))
            exact own_retN X90 hx hrt hlk (t := .boolean) (by simp) (hb hby at_315) (by decide) (by decide) (by show _ ∧ _; first | (rw [E90]; exact ⟨rfl, N90⟩) | exact ⟨rfl, N90⟩)
          · skip
            refine own_st (fun _ kq_ => XS.icmpYes X90.here hx rfl (pc0 := 272) (pc' := 303) rfl (hb hby at_272) rfl (feq h272).2 (by decide) (by decide) kq_) ?_
            show OwnG _ _ _ _ _ _ _ (T90.setTop (mkF m 303 #[.val (.int f1), .val (.int f2), .val (.int f3), .val (.int xx), .val (.int tt), .val (.int mo), .val (.int (0 : Int32)), .val (.int sel), .val (.int g1), .val (.int g2), .val (.int g3), .val (.int t1), .val (.int t2), .val (.int t3), .val (.int tr), .val (.int fq), .val (.ref a1), .val (.int (own_lk l0 fq)), .val (.int (-1 : Int32))] []))
            refine own_st (fun _ kq_ => XS.iload X90.here hx rfl (hb hby at_303) rfl kq_) ?_
            show OwnG _ _ _ _ _ _ _ (T90.setTop (mkF m 305 #[.val (.int f1), .val (.int f2), .val (.int f3), .val (.int xx), .val (.int tt), .val (.int mo), .val (.int (0 : Int32)), .val (.int sel), .val (.int g1), .val (.int g2), .val (.int g3), .val (.int t1), .val (.int t2), .val (.int t3), .val (.int tr), .val (.int fq), .val (.ref a1), .val (.int (own_lk l0 fq)), .val (.int (-1 : Int32))] [(.int (own_lk l0 fq))]))
            refine own_st (fun _ kq_ => XS.iload X90.here hx rfl (hb hby at_305) rfl kq_) ?_
            show OwnG _ _ _ _ _ _ _ (T90.setTop (mkF m 307 #[.val (.int f1), .val (.int f2), .val (.int f3), .val (.int xx), .val (.int tt), .val (.int mo), .val (.int (0 : Int32)), .val (.int sel), .val (.int g1), .val (.int g2), .val (.int g3), .val (.int t1), .val (.int t2), .val (.int t3), .val (.int tr), .val (.int fq), .val (.ref a1), .val (.int (own_lk l0 fq)), .val (.int (-1 : Int32))] [(.int (-1 : Int32)), (.int (own_lk l0 fq))]))
            refine own_st (fun _ kq_ => XS.icmpNo X90.here hx rfl (hb hby at_307) rfl (teq (by rw [hl0, if_neg h248, if_neg h266]; exact ((if_neg (fun z => h254 z.symm)).trans (if_neg fun z => h272 z.symm)))).2 kq_) ?_
            show OwnG _ _ _ _ _ _ _ (T90.setTop (mkF m 310 #[.val (.int f1), .val (.int f2), .val (.int f3), .val (.int xx), .val (.int tt), .val (.int mo), .val (.int (0 : Int32)), .val (.int sel), .val (.int g1), .val (.int g2), .val (.int g3), .val (.int t1), .val (.int t2), .val (.int t3), .val (.int tr), .val (.int fq), .val (.ref a1), .val (.int (own_lk l0 fq)), .val (.int (-1 : Int32))] []))
            refine own_st (fun _ kq_ => XS.iconst X90.here hx rfl (hb hby at_310) kq_) ?_
            show OwnG _ _ _ _ _ _ _ (T90.setTop (mkF m 311 #[.val (.int f1), .val (.int f2), .val (.int f3), .val (.int xx), .val (.int tt), .val (.int mo), .val (.int (0 : Int32)), .val (.int sel), .val (.int g1), .val (.int g2), .val (.int g3), .val (.int t1), .val (.int t2), .val (.int t3), .val (.int tr), .val (.int fq), .val (.ref a1), .val (.int (own_lk l0 fq)), .val (.int (-1 : Int32))] [(.int (1 : Int32))]))
            refine own_st (fun _ kq_ => XS.goto X90.here hx rfl (pc0 := 311) (pc' := 315) rfl (hb hby at_311) (by decide) (by decide) kq_) ?_
            show OwnG _ _ _ _ _ _ _ (T90.setTop (mkF m 315 #[.val (.int f1), .val (.int f2), .val (.int f3), .val (.int xx), .val (.int tt), .val (.int mo), .val (.int (0 : Int32)), .val (.int sel), .val (.int g1), .val (.int g2), .val (.int g3), .val (.int t1), .val (.int t2), .val (.int t3), .val (.int tr), .val (.int fq), .val (.ref a1), .val (.int (own_lk l0 fq)), .val (.int (-1 : Int32))] [(.int (1 : Int32))]))
            exact own_retN X90 hx hrt hlk (t := .boolean) (by simp) (hb hby at_315) (by decide) (by decide) (by show _ ∧ _; first | (rw [E90]; exact ⟨rfl, N90⟩) | exact ⟨rfl, N90⟩)
  · skip
    show OwnG _ _ _ _ _ _ _ (T0.setTop (mkF m 227 #[.val (.int f1), .val (.int f2), .val (.int f3), .val (.int xx), .val (.int tt), .val (.int mo), .val (.int (1 : Int32)), .val (.int sel), .val (.int g1), .val (.int g2), .val (.int g3), .val (.int t1), .val (.int t2), .val (.int t3), .val (.int tr), .val (.int fq), .val (.ref a1), .unset, .unset] []))
    refine own_st (fun _ kq_ => XS.aload X0.here hx rfl (hb hby at_227) rfl rfl kq_) ?_
    show OwnG _ _ _ _ _ _ _ (T0.setTop (mkF m 229 #[.val (.int f1), .val (.int f2), .val (.int f3), .val (.int xx), .val (.int tt), .val (.int mo), .val (.int (1 : Int32)), .val (.int sel), .val (.int g1), .val (.int g2), .val (.int g3), .val (.int t1), .val (.int t2), .val (.int t3), .val (.int tr), .val (.int fq), .val (.ref a1), .unset, .unset] [(.ref a1)]))
    refine own_st (fun _ kq_ => XS.iload X0.here hx rfl (hb hby at_229) rfl kq_) ?_
    show OwnG _ _ _ _ _ _ _ (T0.setTop (mkF m 231 #[.val (.int f1), .val (.int f2), .val (.int f3), .val (.int xx), .val (.int tt), .val (.int mo), .val (.int (1 : Int32)), .val (.int sel), .val (.int g1), .val (.int g2), .val (.int g3), .val (.int t1), .val (.int t2), .val (.int t3), .val (.int tr), .val (.int fq), .val (.ref a1), .unset, .unset] [(.int (1 : Int32)), (.ref a1)]))
    refine own_st (fun _ kq_ => XS.iload X0.here hx rfl (hb hby at_231) rfl kq_) ?_
    show OwnG _ _ _ _ _ _ _ (T0.setTop (mkF m 233 #[.val (.int f1), .val (.int f2), .val (.int f3), .val (.int xx), .val (.int tt), .val (.int mo), .val (.int (1 : Int32)), .val (.int sel), .val (.int g1), .val (.int g2), .val (.int g3), .val (.int t1), .val (.int t2), .val (.int t3), .val (.int tr), .val (.int fq), .val (.ref a1), .unset, .unset] [(.int fq), (.int (1 : Int32)), (.ref a1)]))
    obtain ⟨cq91, kq91, q91a, q91b, q91c⟩ := isOf hZ e0 I0.1
    obtain ⟨_, _, ⟨T91, L91, k91, n91⟩, -, X91, ⟨Lc91, hQ91, l91, y91, z91⟩, st91⟩ := X0.virtualBack hx (y := (⟨"com/example/triptych/triptych/reasoning/Links", "featureTarget", "(II)I"⟩ : MethodName)) (z := (⟨"com/example/triptych/triptych/reasoning/Links", "featureTarget", "(II)I"⟩ : MethodName)) hown (mvT hZ (hw _ (List.mem_of_getElem? (i := 63) rfl))) (mvT hZ (hw _ (List.mem_of_getElem? (i := 64) rfl))) (notFace_of_selects (args := #[]) (mvT hZ (hw _ (List.mem_of_getElem? (i := 66) rfl)))) (mvT hZ (hw _ (List.mem_of_getElem? (i := 66) rfl))) (mvT hZ (hw _ (List.mem_of_getElem? (i := 65) rfl))) (by decide) (backOf (W := 0) (rm7 l Z a0 hw [] a1 A F cz ft (1 : Int32) fq 1 l1 h0 n0 Z0 (by decide) (by decide) C1 I0) hZ (hw _ (List.mem_of_getElem? (i := 67) rfl)) (hw _ (List.mem_of_getElem? (i := 2) rfl)) (by decide) (by decide)) q91a q91c (g := (mkF m 233 #[.val (.int f1), .val (.int f2), .val (.int f3), .val (.int xx), .val (.int tt), .val (.int mo), .val (.int (1 : Int32)), .val (.int sel), .val (.int g1), .val (.int g2), .val (.int g3), .val (.int t1), .val (.int t2), .val (.int t3), .val (.int tr), .val (.int fq), .val (.ref a1), .unset, .unset] [(.int fq), (.int (1 : Int32)), (.ref a1)])) rfl (by rw [hml]; rfl) (Steps.refl _) (argsL := [(.int (1 : Int32)), (.int fq)]) (rest := []) (lenOf (by decide +kernel : parseMethodDescriptor "(II)I" = some ⟨[.int, .int], some .int⟩) rfl) rfl (by show 2 * 0 + _ ≤ _; exact Nat.le_of_eq rfl) (hb hby at_233) (fun _ _ => ⟨rfl, e0, (by dsimp only [Pt.cells]; decide), (by dsimp only [Pt.slots]; decide)⟩)
    dsimp only [Pt.U, Pt.locs, Pt.cells, Pt.slots] at X91 l91 y91 z91 st91 hQ91
    subst l91 y91 z91
    obtain ⟨rfl, N91q, E91⟩ := hQ91
    have N91 := Fr.app N0 N91q
    refine own_go st91 ?_
    show OwnG _ _ _ _ _ _ _ (T91.setTop (mkF m 236 #[.val (.int f1), .val (.int f2), .val (.int f3), .val (.int xx), .val (.int tt), .val (.int mo), .val (.int (1 : Int32)), .val (.int sel), .val (.int g1), .val (.int g2), .val (.int g3), .val (.int t1), .val (.int t2), .val (.int t3), .val (.int tr), .val (.int fq), .val (.ref a1), .unset, .unset] [(.int (own_lk l1 fq))]))
    refine own_st (fun _ kq_ => XS.istore X91.here hx rfl (hb hby at_236) rfl (l' := #[.val (.int f1), .val (.int f2), .val (.int f3), .val (.int xx), .val (.int tt), .val (.int mo), .val (.int (1 : Int32)), .val (.int sel), .val (.int g1), .val (.int g2), .val (.int g3), .val (.int t1), .val (.int t2), .val (.int t3), .val (.int tr), .val (.int fq), .val (.ref a1), .val (.int (own_lk l1 fq)), .unset]) rfl kq_) ?_
    show OwnG _ _ _ _ _ _ _ (T91.setTop (mkF m 238 #[.val (.int f1), .val (.int f2), .val (.int f3), .val (.int xx), .val (.int tt), .val (.int mo), .val (.int (1 : Int32)), .val (.int sel), .val (.int g1), .val (.int g2), .val (.int g3), .val (.int t1), .val (.int t2), .val (.int t3), .val (.int tr), .val (.int fq), .val (.ref a1), .val (.int (own_lk l1 fq)), .unset] []))
    refine own_st (fun _ kq_ => XS.iconst X91.here hx rfl (hb hby at_238) kq_) ?_
    show OwnG _ _ _ _ _ _ _ (T91.setTop (mkF m 239 #[.val (.int f1), .val (.int f2), .val (.int f3), .val (.int xx), .val (.int tt), .val (.int mo), .val (.int (1 : Int32)), .val (.int sel), .val (.int g1), .val (.int g2), .val (.int g3), .val (.int t1), .val (.int t2), .val (.int t3), .val (.int tr), .val (.int fq), .val (.ref a1), .val (.int (own_lk l1 fq)), .unset] [(.int (-1 : Int32))]))
    refine own_st (fun _ kq_ => XS.istore X91.here hx rfl (hb hby at_239) rfl (l' := #[.val (.int f1), .val (.int f2), .val (.int f3), .val (.int xx), .val (.int tt), .val (.int mo), .val (.int (1 : Int32)), .val (.int sel), .val (.int g1), .val (.int g2), .val (.int g3), .val (.int t1), .val (.int t2), .val (.int t3), .val (.int tr), .val (.int fq), .val (.ref a1), .val (.int (own_lk l1 fq)), .val (.int (-1 : Int32))]) rfl kq_) ?_
    show OwnG _ _ _ _ _ _ _ (T91.setTop (mkF m 241 #[.val (.int f1), .val (.int f2), .val (.int f3), .val (.int xx), .val (.int tt), .val (.int mo), .val (.int (1 : Int32)), .val (.int sel), .val (.int g1), .val (.int g2), .val (.int g3), .val (.int t1), .val (.int t2), .val (.int t3), .val (.int tr), .val (.int fq), .val (.ref a1), .val (.int (own_lk l1 fq)), .val (.int (-1 : Int32))] []))
    refine own_st (fun _ kq_ => XS.iload X91.here hx rfl (hb hby at_241) rfl kq_) ?_
    show OwnG _ _ _ _ _ _ _ (T91.setTop (mkF m 243 #[.val (.int f1), .val (.int f2), .val (.int f3), .val (.int xx), .val (.int tt), .val (.int mo), .val (.int (1 : Int32)), .val (.int sel), .val (.int g1), .val (.int g2), .val (.int g3), .val (.int t1), .val (.int t2), .val (.int t3), .val (.int tr), .val (.int fq), .val (.ref a1), .val (.int (own_lk l1 fq)), .val (.int (-1 : Int32))] [(.int (1 : Int32))]))
    refine own_st (fun _ kq_ => XS.ifYes X91.here hx rfl (pc0 := 243) (pc' := 282) rfl (hb hby at_243) rfl ((if0 _ _).trans (feq (by decide)).2) (by decide) (by decide) kq_) ?_
    show OwnG _ _ _ _ _ _ _ (T91.setTop (mkF m 282 #[.val (.int f1), .val (.int f2), .val (.int f3), .val (.int xx), .val (.int tt), .val (.int mo), .val (.int (1 : Int32)), .val (.int sel), .val (.int g1), .val (.int g2), .val (.int g3), .val (.int t1), .val (.int t2), .val (.int t3), .val (.int tr), .val (.int fq), .val (.ref a1), .val (.int (own_lk l1 fq)), .val (.int (-1 : Int32))] []))
    refine own_st (fun _ kq_ => XS.iload X91.here hx rfl (hb hby at_282) rfl kq_) ?_
    show OwnG _ _ _ _ _ _ _ (T91.setTop (mkF m 284 #[.val (.int f1), .val (.int f2), .val (.int f3), .val (.int xx), .val (.int tt), .val (.int mo), .val (.int (1 : Int32)), .val (.int sel), .val (.int g1), .val (.int g2), .val (.int g3), .val (.int t1), .val (.int t2), .val (.int t3), .val (.int tr), .val (.int fq), .val (.ref a1), .val (.int (own_lk l1 fq)), .val (.int (-1 : Int32))] [(.int (1 : Int32))]))
    refine own_st (fun _ kq_ => XS.iconst X91.here hx rfl (hb hby at_284) kq_) ?_
    show OwnG _ _ _ _ _ _ _ (T91.setTop (mkF m 285 #[.val (.int f1), .val (.int f2), .val (.int f3), .val (.int xx), .val (.int tt), .val (.int mo), .val (.int (1 : Int32)), .val (.int sel), .val (.int g1), .val (.int g2), .val (.int g3), .val (.int t1), .val (.int t2), .val (.int t3), .val (.int tr), .val (.int fq), .val (.ref a1), .val (.int (own_lk l1 fq)), .val (.int (-1 : Int32))] [(.int (1 : Int32)), (.int (1 : Int32))]))
    refine own_st (fun _ kq_ => XS.icmpNo X91.here hx rfl (hb hby at_285) rfl (teq rfl).2 kq_) ?_
    show OwnG _ _ _ _ _ _ _ (T91.setTop (mkF m 288 #[.val (.int f1), .val (.int f2), .val (.int f3), .val (.int xx), .val (.int tt), .val (.int mo), .val (.int (1 : Int32)), .val (.int sel), .val (.int g1), .val (.int g2), .val (.int g3), .val (.int t1), .val (.int t2), .val (.int t3), .val (.int tr), .val (.int fq), .val (.ref a1), .val (.int (own_lk l1 fq)), .val (.int (-1 : Int32))] []))
    refine own_st (fun _ kq_ => XS.iload X91.here hx rfl (hb hby at_288) rfl kq_) ?_
    show OwnG _ _ _ _ _ _ _ (T91.setTop (mkF m 290 #[.val (.int f1), .val (.int f2), .val (.int f3), .val (.int xx), .val (.int tt), .val (.int mo), .val (.int (1 : Int32)), .val (.int sel), .val (.int g1), .val (.int g2), .val (.int g3), .val (.int t1), .val (.int t2), .val (.int t3), .val (.int tr), .val (.int fq), .val (.ref a1), .val (.int (own_lk l1 fq)), .val (.int (-1 : Int32))] [(.int g3)]))
    by_cases h290 : g3 = (0 : Int32)
    · skip
      refine own_st (fun _ kq_ => XS.ifYes X91.here hx rfl (pc0 := 290) (pc' := 303) rfl (hb hby at_290) rfl ((if0 _ _).trans (teq h290).1) (by decide) (by decide) kq_) ?_
      show OwnG _ _ _ _ _ _ _ (T91.setTop (mkF m 303 #[.val (.int f1), .val (.int f2), .val (.int f3), .val (.int xx), .val (.int tt), .val (.int mo), .val (.int (1 : Int32)), .val (.int sel), .val (.int g1), .val (.int g2), .val (.int g3), .val (.int t1), .val (.int t2), .val (.int t3), .val (.int tr), .val (.int fq), .val (.ref a1), .val (.int (own_lk l1 fq)), .val (.int (-1 : Int32))] []))
      refine own_st (fun _ kq_ => XS.iload X91.here hx rfl (hb hby at_303) rfl kq_) ?_
      show OwnG _ _ _ _ _ _ _ (T91.setTop (mkF m 305 #[.val (.int f1), .val (.int f2), .val (.int f3), .val (.int xx), .val (.int tt), .val (.int mo), .val (.int (1 : Int32)), .val (.int sel), .val (.int g1), .val (.int g2), .val (.int g3), .val (.int t1), .val (.int t2), .val (.int t3), .val (.int tr), .val (.int fq), .val (.ref a1), .val (.int (own_lk l1 fq)), .val (.int (-1 : Int32))] [(.int (own_lk l1 fq))]))
      refine own_st (fun _ kq_ => XS.iload X91.here hx rfl (hb hby at_305) rfl kq_) ?_
      show OwnG _ _ _ _ _ _ _ (T91.setTop (mkF m 307 #[.val (.int f1), .val (.int f2), .val (.int f3), .val (.int xx), .val (.int tt), .val (.int mo), .val (.int (1 : Int32)), .val (.int sel), .val (.int g1), .val (.int g2), .val (.int g3), .val (.int t1), .val (.int t2), .val (.int t3), .val (.int tr), .val (.int fq), .val (.ref a1), .val (.int (own_lk l1 fq)), .val (.int (-1 : Int32))] [(.int (-1 : Int32)), (.int (own_lk l1 fq))]))
      refine own_st (fun _ kq_ => XS.icmpNo X91.here hx rfl (hb hby at_307) rfl (teq (by rw [hl1, if_pos h290]; rfl)).2 kq_) ?_
      show OwnG _ _ _ _ _ _ _ (T91.setTop (mkF m 310 #[.val (.int f1), .val (.int f2), .val (.int f3), .val (.int xx), .val (.int tt), .val (.int mo), .val (.int (1 : Int32)), .val (.int sel), .val (.int g1), .val (.int g2), .val (.int g3), .val (.int t1), .val (.int t2), .val (.int t3), .val (.int tr), .val (.int fq), .val (.ref a1), .val (.int (own_lk l1 fq)), .val (.int (-1 : Int32))] []))
      refine own_st (fun _ kq_ => XS.iconst X91.here hx rfl (hb hby at_310) kq_) ?_
      show OwnG _ _ _ _ _ _ _ (T91.setTop (mkF m 311 #[.val (.int f1), .val (.int f2), .val (.int f3), .val (.int xx), .val (.int tt), .val (.int mo), .val (.int (1 : Int32)), .val (.int sel), .val (.int g1), .val (.int g2), .val (.int g3), .val (.int t1), .val (.int t2), .val (.int t3), .val (.int tr), .val (.int fq), .val (.ref a1), .val (.int (own_lk l1 fq)), .val (.int (-1 : Int32))] [(.int (1 : Int32))]))
      refine own_st (fun _ kq_ => XS.goto X91.here hx rfl (pc0 := 311) (pc' := 315) rfl (hb hby at_311) (by decide) (by decide) kq_) ?_
      show OwnG _ _ _ _ _ _ _ (T91.setTop (mkF m 315 #[.val (.int f1), .val (.int f2), .val (.int f3), .val (.int xx), .val (.int tt), .val (.int mo), .val (.int (1 : Int32)), .val (.int sel), .val (.int g1), .val (.int g2), .val (.int g3), .val (.int t1), .val (.int t2), .val (.int t3), .val (.int tr), .val (.int fq), .val (.ref a1), .val (.int (own_lk l1 fq)), .val (.int (-1 : Int32))] [(.int (1 : Int32))]))
      exact own_retN X91 hx hrt hlk (t := .boolean) (by simp) (hb hby at_315) (by decide) (by decide) (by show _ ∧ _; first | (rw [E91]; exact ⟨rfl, N91⟩) | exact ⟨rfl, N91⟩)
    · skip
      refine own_st (fun _ kq_ => XS.ifNo X91.here hx rfl (hb hby at_290) rfl ((if0 _ _).trans (feq h290).1) kq_) ?_
      show OwnG _ _ _ _ _ _ _ (T91.setTop (mkF m 293 #[.val (.int f1), .val (.int f2), .val (.int f3), .val (.int xx), .val (.int tt), .val (.int mo), .val (.int (1 : Int32)), .val (.int sel), .val (.int g1), .val (.int g2), .val (.int g3), .val (.int t1), .val (.int t2), .val (.int t3), .val (.int tr), .val (.int fq), .val (.ref a1), .val (.int (own_lk l1 fq)), .val (.int (-1 : Int32))] []))
      refine own_st (fun _ kq_ => XS.iload X91.here hx rfl (hb hby at_293) rfl kq_) ?_
      show OwnG _ _ _ _ _ _ _ (T91.setTop (mkF m 295 #[.val (.int f1), .val (.int f2), .val (.int f3), .val (.int xx), .val (.int tt), .val (.int mo), .val (.int (1 : Int32)), .val (.int sel), .val (.int g1), .val (.int g2), .val (.int g3), .val (.int t1), .val (.int t2), .val (.int t3), .val (.int tr), .val (.int fq), .val (.ref a1), .val (.int (own_lk l1 fq)), .val (.int (-1 : Int32))] [(.int fq)]))
      refine own_st (fun _ kq_ => XS.iloadN X91.here hx rfl (hb hby at_295) rfl kq_) ?_
      show OwnG _ _ _ _ _ _ _ (T91.setTop (mkF m 296 #[.val (.int f1), .val (.int f2), .val (.int f3), .val (.int xx), .val (.int tt), .val (.int mo), .val (.int (1 : Int32)), .val (.int sel), .val (.int g1), .val (.int g2), .val (.int g3), .val (.int t1), .val (.int t2), .val (.int t3), .val (.int tr), .val (.int fq), .val (.ref a1), .val (.int (own_lk l1 fq)), .val (.int (-1 : Int32))] [(.int f3), (.int fq)]))
      by_cases h296 : fq = f3
      · skip
        refine own_st (fun _ kq_ => XS.icmpNo X91.here hx rfl (hb hby at_296) rfl (teq h296).2 kq_) ?_
        show OwnG _ _ _ _ _ _ _ (T91.setTop (mkF m 299 #[.val (.int f1), .val (.int f2), .val (.int f3), .val (.int xx), .val (.int tt), .val (.int mo), .val (.int (1 : Int32)), .val (.int sel), .val (.int g1), .val (.int g2), .val (.int g3), .val (.int t1), .val (.int t2), .val (.int t3), .val (.int tr), .val (.int fq), .val (.ref a1), .val (.int (own_lk l1 fq)), .val (.int (-1 : Int32))] []))
        refine own_st (fun _ kq_ => XS.iload X91.here hx rfl (hb hby at_299) rfl kq_) ?_
        show OwnG _ _ _ _ _ _ _ (T91.setTop (mkF m 301 #[.val (.int f1), .val (.int f2), .val (.int f3), .val (.int xx), .val (.int tt), .val (.int mo), .val (.int (1 : Int32)), .val (.int sel), .val (.int g1), .val (.int g2), .val (.int g3), .val (.int t1), .val (.int t2), .val (.int t3), .val (.int tr), .val (.int fq), .val (.ref a1), .val (.int (own_lk l1 fq)), .val (.int (-1 : Int32))] [(.int t3)]))
        refine own_st (fun _ kq_ => XS.istore X91.here hx rfl (hb hby at_301) rfl (l' := #[.val (.int f1), .val (.int f2), .val (.int f3), .val (.int xx), .val (.int tt), .val (.int mo), .val (.int (1 : Int32)), .val (.int sel), .val (.int g1), .val (.int g2), .val (.int g3), .val (.int t1), .val (.int t2), .val (.int t3), .val (.int tr), .val (.int fq), .val (.ref a1), .val (.int (own_lk l1 fq)), .val (.int t3)]) rfl kq_) ?_
        show OwnG _ _ _ _ _ _ _ (T91.setTop (mkF m 303 #[.val (.int f1), .val (.int f2), .val (.int f3), .val (.int xx), .val (.int tt), .val (.int mo), .val (.int (1 : Int32)), .val (.int sel), .val (.int g1), .val (.int g2), .val (.int g3), .val (.int t1), .val (.int t2), .val (.int t3), .val (.int tr), .val (.int fq), .val (.ref a1), .val (.int (own_lk l1 fq)), .val (.int t3)] []))
        refine own_st (fun _ kq_ => XS.iload X91.here hx rfl (hb hby at_303) rfl kq_) ?_
        show OwnG _ _ _ _ _ _ _ (T91.setTop (mkF m 305 #[.val (.int f1), .val (.int f2), .val (.int f3), .val (.int xx), .val (.int tt), .val (.int mo), .val (.int (1 : Int32)), .val (.int sel), .val (.int g1), .val (.int g2), .val (.int g3), .val (.int t1), .val (.int t2), .val (.int t3), .val (.int tr), .val (.int fq), .val (.ref a1), .val (.int (own_lk l1 fq)), .val (.int t3)] [(.int (own_lk l1 fq))]))
        refine own_st (fun _ kq_ => XS.iload X91.here hx rfl (hb hby at_305) rfl kq_) ?_
        show OwnG _ _ _ _ _ _ _ (T91.setTop (mkF m 307 #[.val (.int f1), .val (.int f2), .val (.int f3), .val (.int xx), .val (.int tt), .val (.int mo), .val (.int (1 : Int32)), .val (.int sel), .val (.int g1), .val (.int g2), .val (.int g3), .val (.int t1), .val (.int t2), .val (.int t3), .val (.int tr), .val (.int fq), .val (.ref a1), .val (.int (own_lk l1 fq)), .val (.int t3)] [(.int t3), (.int (own_lk l1 fq))]))
        refine own_st (fun _ kq_ => XS.icmpNo X91.here hx rfl (hb hby at_307) rfl (teq (by rw [hl1, if_neg h290]; exact if_pos h296.symm)).2 kq_) ?_
        show OwnG _ _ _ _ _ _ _ (T91.setTop (mkF m 310 #[.val (.int f1), .val (.int f2), .val (.int f3), .val (.int xx), .val (.int tt), .val (.int mo), .val (.int (1 : Int32)), .val (.int sel), .val (.int g1), .val (.int g2), .val (.int g3), .val (.int t1), .val (.int t2), .val (.int t3), .val (.int tr), .val (.int fq), .val (.ref a1), .val (.int (own_lk l1 fq)), .val (.int t3)] []))
        refine own_st (fun _ kq_ => XS.iconst X91.here hx rfl (hb hby at_310) kq_) ?_
        show OwnG _ _ _ _ _ _ _ (T91.setTop (mkF m 311 #[.val (.int f1), .val (.int f2), .val (.int f3), .val (.int xx), .val (.int tt), .val (.int mo), .val (.int (1 : Int32)), .val (.int sel), .val (.int g1), .val (.int g2), .val (.int g3), .val (.int t1), .val (.int t2), .val (.int t3), .val (.int tr), .val (.int fq), .val (.ref a1), .val (.int (own_lk l1 fq)), .val (.int t3)] [(.int (1 : Int32))]))
        refine own_st (fun _ kq_ => XS.goto X91.here hx rfl (pc0 := 311) (pc' := 315) rfl (hb hby at_311) (by decide) (by decide) kq_) ?_
        show OwnG _ _ _ _ _ _ _ (T91.setTop (mkF m 315 #[.val (.int f1), .val (.int f2), .val (.int f3), .val (.int xx), .val (.int tt), .val (.int mo), .val (.int (1 : Int32)), .val (.int sel), .val (.int g1), .val (.int g2), .val (.int g3), .val (.int t1), .val (.int t2), .val (.int t3), .val (.int tr), .val (.int fq), .val (.ref a1), .val (.int (own_lk l1 fq)), .val (.int t3)] [(.int (1 : Int32))]))
        exact own_retN X91 hx hrt hlk (t := .boolean) (by simp) (hb hby at_315) (by decide) (by decide) (by show _ ∧ _; first | (rw [E91]; exact ⟨rfl, N91⟩) | exact ⟨rfl, N91⟩)
      · skip
        refine own_st (fun _ kq_ => XS.icmpYes X91.here hx rfl (pc0 := 296) (pc' := 303) rfl (hb hby at_296) rfl (feq h296).2 (by decide) (by decide) kq_) ?_
        show OwnG _ _ _ _ _ _ _ (T91.setTop (mkF m 303 #[.val (.int f1), .val (.int f2), .val (.int f3), .val (.int xx), .val (.int tt), .val (.int mo), .val (.int (1 : Int32)), .val (.int sel), .val (.int g1), .val (.int g2), .val (.int g3), .val (.int t1), .val (.int t2), .val (.int t3), .val (.int tr), .val (.int fq), .val (.ref a1), .val (.int (own_lk l1 fq)), .val (.int (-1 : Int32))] []))
        refine own_st (fun _ kq_ => XS.iload X91.here hx rfl (hb hby at_303) rfl kq_) ?_
        show OwnG _ _ _ _ _ _ _ (T91.setTop (mkF m 305 #[.val (.int f1), .val (.int f2), .val (.int f3), .val (.int xx), .val (.int tt), .val (.int mo), .val (.int (1 : Int32)), .val (.int sel), .val (.int g1), .val (.int g2), .val (.int g3), .val (.int t1), .val (.int t2), .val (.int t3), .val (.int tr), .val (.int fq), .val (.ref a1), .val (.int (own_lk l1 fq)), .val (.int (-1 : Int32))] [(.int (own_lk l1 fq))]))
        refine own_st (fun _ kq_ => XS.iload X91.here hx rfl (hb hby at_305) rfl kq_) ?_
        show OwnG _ _ _ _ _ _ _ (T91.setTop (mkF m 307 #[.val (.int f1), .val (.int f2), .val (.int f3), .val (.int xx), .val (.int tt), .val (.int mo), .val (.int (1 : Int32)), .val (.int sel), .val (.int g1), .val (.int g2), .val (.int g3), .val (.int t1), .val (.int t2), .val (.int t3), .val (.int tr), .val (.int fq), .val (.ref a1), .val (.int (own_lk l1 fq)), .val (.int (-1 : Int32))] [(.int (-1 : Int32)), (.int (own_lk l1 fq))]))
        refine own_st (fun _ kq_ => XS.icmpNo X91.here hx rfl (hb hby at_307) rfl (teq (by rw [hl1, if_neg h290]; exact if_neg fun z => h296 z.symm)).2 kq_) ?_
        show OwnG _ _ _ _ _ _ _ (T91.setTop (mkF m 310 #[.val (.int f1), .val (.int f2), .val (.int f3), .val (.int xx), .val (.int tt), .val (.int mo), .val (.int (1 : Int32)), .val (.int sel), .val (.int g1), .val (.int g2), .val (.int g3), .val (.int t1), .val (.int t2), .val (.int t3), .val (.int tr), .val (.int fq), .val (.ref a1), .val (.int (own_lk l1 fq)), .val (.int (-1 : Int32))] []))
        refine own_st (fun _ kq_ => XS.iconst X91.here hx rfl (hb hby at_310) kq_) ?_
        show OwnG _ _ _ _ _ _ _ (T91.setTop (mkF m 311 #[.val (.int f1), .val (.int f2), .val (.int f3), .val (.int xx), .val (.int tt), .val (.int mo), .val (.int (1 : Int32)), .val (.int sel), .val (.int g1), .val (.int g2), .val (.int g3), .val (.int t1), .val (.int t2), .val (.int t3), .val (.int tr), .val (.int fq), .val (.ref a1), .val (.int (own_lk l1 fq)), .val (.int (-1 : Int32))] [(.int (1 : Int32))]))
        refine own_st (fun _ kq_ => XS.goto X91.here hx rfl (pc0 := 311) (pc' := 315) rfl (hb hby at_311) (by decide) (by decide) kq_) ?_
        show OwnG _ _ _ _ _ _ _ (T91.setTop (mkF m 315 #[.val (.int f1), .val (.int f2), .val (.int f3), .val (.int xx), .val (.int tt), .val (.int mo), .val (.int (1 : Int32)), .val (.int sel), .val (.int g1), .val (.int g2), .val (.int g3), .val (.int t1), .val (.int t2), .val (.int t3), .val (.int tr), .val (.int fq), .val (.ref a1), .val (.int (own_lk l1 fq)), .val (.int (-1 : Int32))] [(.int (1 : Int32))]))
        exact own_retN X91 hx hrt hlk (t := .boolean) (by simp) (hb hby at_315) (by decide) (by decide) (by show _ ∧ _; first | (rw [E91]; exact ⟨rfl, N91⟩) | exact ⟨rfl, N91⟩)
  · skip
    show OwnG _ _ _ _ _ _ _ (T0.setTop (mkF m 227 #[.val (.int f1), .val (.int f2), .val (.int f3), .val (.int xx), .val (.int tt), .val (.int mo), .val (.int (2 : Int32)), .val (.int sel), .val (.int g1), .val (.int g2), .val (.int g3), .val (.int t1), .val (.int t2), .val (.int t3), .val (.int tr), .val (.int fq), .val (.ref a1), .unset, .unset] []))
    refine own_st (fun _ kq_ => XS.aload X0.here hx rfl (hb hby at_227) rfl rfl kq_) ?_
    show OwnG _ _ _ _ _ _ _ (T0.setTop (mkF m 229 #[.val (.int f1), .val (.int f2), .val (.int f3), .val (.int xx), .val (.int tt), .val (.int mo), .val (.int (2 : Int32)), .val (.int sel), .val (.int g1), .val (.int g2), .val (.int g3), .val (.int t1), .val (.int t2), .val (.int t3), .val (.int tr), .val (.int fq), .val (.ref a1), .unset, .unset] [(.ref a1)]))
    refine own_st (fun _ kq_ => XS.iload X0.here hx rfl (hb hby at_229) rfl kq_) ?_
    show OwnG _ _ _ _ _ _ _ (T0.setTop (mkF m 231 #[.val (.int f1), .val (.int f2), .val (.int f3), .val (.int xx), .val (.int tt), .val (.int mo), .val (.int (2 : Int32)), .val (.int sel), .val (.int g1), .val (.int g2), .val (.int g3), .val (.int t1), .val (.int t2), .val (.int t3), .val (.int tr), .val (.int fq), .val (.ref a1), .unset, .unset] [(.int (2 : Int32)), (.ref a1)]))
    refine own_st (fun _ kq_ => XS.iload X0.here hx rfl (hb hby at_231) rfl kq_) ?_
    show OwnG _ _ _ _ _ _ _ (T0.setTop (mkF m 233 #[.val (.int f1), .val (.int f2), .val (.int f3), .val (.int xx), .val (.int tt), .val (.int mo), .val (.int (2 : Int32)), .val (.int sel), .val (.int g1), .val (.int g2), .val (.int g3), .val (.int t1), .val (.int t2), .val (.int t3), .val (.int tr), .val (.int fq), .val (.ref a1), .unset, .unset] [(.int fq), (.int (2 : Int32)), (.ref a1)]))
    obtain ⟨cq92, kq92, q92a, q92b, q92c⟩ := isOf hZ e0 I0.1
    obtain ⟨_, _, ⟨T92, L92, k92, n92⟩, -, X92, ⟨Lc92, hQ92, l92, y92, z92⟩, st92⟩ := X0.virtualBack hx (y := (⟨"com/example/triptych/triptych/reasoning/Links", "featureTarget", "(II)I"⟩ : MethodName)) (z := (⟨"com/example/triptych/triptych/reasoning/Links", "featureTarget", "(II)I"⟩ : MethodName)) hown (mvT hZ (hw _ (List.mem_of_getElem? (i := 63) rfl))) (mvT hZ (hw _ (List.mem_of_getElem? (i := 64) rfl))) (notFace_of_selects (args := #[]) (mvT hZ (hw _ (List.mem_of_getElem? (i := 66) rfl)))) (mvT hZ (hw _ (List.mem_of_getElem? (i := 66) rfl))) (mvT hZ (hw _ (List.mem_of_getElem? (i := 65) rfl))) (by decide) (backOf (W := 0) (rm7 l Z a0 hw [] a1 A F cz ft (2 : Int32) fq 2 [] h0 n0 Z0 (by decide) (by decide) C2 I0) hZ (hw _ (List.mem_of_getElem? (i := 67) rfl)) (hw _ (List.mem_of_getElem? (i := 2) rfl)) (by decide) (by decide)) q92a q92c (g := (mkF m 233 #[.val (.int f1), .val (.int f2), .val (.int f3), .val (.int xx), .val (.int tt), .val (.int mo), .val (.int (2 : Int32)), .val (.int sel), .val (.int g1), .val (.int g2), .val (.int g3), .val (.int t1), .val (.int t2), .val (.int t3), .val (.int tr), .val (.int fq), .val (.ref a1), .unset, .unset] [(.int fq), (.int (2 : Int32)), (.ref a1)])) rfl (by rw [hml]; rfl) (Steps.refl _) (argsL := [(.int (2 : Int32)), (.int fq)]) (rest := []) (lenOf (by decide +kernel : parseMethodDescriptor "(II)I" = some ⟨[.int, .int], some .int⟩) rfl) rfl (by show 2 * 0 + _ ≤ _; exact Nat.le_of_eq rfl) (hb hby at_233) (fun _ _ => ⟨rfl, e0, (by dsimp only [Pt.cells]; decide), (by dsimp only [Pt.slots]; decide)⟩)
    dsimp only [Pt.U, Pt.locs, Pt.cells, Pt.slots] at X92 l92 y92 z92 st92 hQ92
    subst l92 y92 z92
    obtain ⟨rfl, N92q, E92⟩ := hQ92
    have N92 := Fr.app N0 N92q
    refine own_go st92 ?_
    show OwnG _ _ _ _ _ _ _ (T92.setTop (mkF m 236 #[.val (.int f1), .val (.int f2), .val (.int f3), .val (.int xx), .val (.int tt), .val (.int mo), .val (.int (2 : Int32)), .val (.int sel), .val (.int g1), .val (.int g2), .val (.int g3), .val (.int t1), .val (.int t2), .val (.int t3), .val (.int tr), .val (.int fq), .val (.ref a1), .unset, .unset] [(.int (own_lk [] fq))]))
    refine own_st (fun _ kq_ => XS.istore X92.here hx rfl (hb hby at_236) rfl (l' := #[.val (.int f1), .val (.int f2), .val (.int f3), .val (.int xx), .val (.int tt), .val (.int mo), .val (.int (2 : Int32)), .val (.int sel), .val (.int g1), .val (.int g2), .val (.int g3), .val (.int t1), .val (.int t2), .val (.int t3), .val (.int tr), .val (.int fq), .val (.ref a1), .val (.int (own_lk [] fq)), .unset]) rfl kq_) ?_
    show OwnG _ _ _ _ _ _ _ (T92.setTop (mkF m 238 #[.val (.int f1), .val (.int f2), .val (.int f3), .val (.int xx), .val (.int tt), .val (.int mo), .val (.int (2 : Int32)), .val (.int sel), .val (.int g1), .val (.int g2), .val (.int g3), .val (.int t1), .val (.int t2), .val (.int t3), .val (.int tr), .val (.int fq), .val (.ref a1), .val (.int (own_lk [] fq)), .unset] []))
    refine own_st (fun _ kq_ => XS.iconst X92.here hx rfl (hb hby at_238) kq_) ?_
    show OwnG _ _ _ _ _ _ _ (T92.setTop (mkF m 239 #[.val (.int f1), .val (.int f2), .val (.int f3), .val (.int xx), .val (.int tt), .val (.int mo), .val (.int (2 : Int32)), .val (.int sel), .val (.int g1), .val (.int g2), .val (.int g3), .val (.int t1), .val (.int t2), .val (.int t3), .val (.int tr), .val (.int fq), .val (.ref a1), .val (.int (own_lk [] fq)), .unset] [(.int (-1 : Int32))]))
    refine own_st (fun _ kq_ => XS.istore X92.here hx rfl (hb hby at_239) rfl (l' := #[.val (.int f1), .val (.int f2), .val (.int f3), .val (.int xx), .val (.int tt), .val (.int mo), .val (.int (2 : Int32)), .val (.int sel), .val (.int g1), .val (.int g2), .val (.int g3), .val (.int t1), .val (.int t2), .val (.int t3), .val (.int tr), .val (.int fq), .val (.ref a1), .val (.int (own_lk [] fq)), .val (.int (-1 : Int32))]) rfl kq_) ?_
    show OwnG _ _ _ _ _ _ _ (T92.setTop (mkF m 241 #[.val (.int f1), .val (.int f2), .val (.int f3), .val (.int xx), .val (.int tt), .val (.int mo), .val (.int (2 : Int32)), .val (.int sel), .val (.int g1), .val (.int g2), .val (.int g3), .val (.int t1), .val (.int t2), .val (.int t3), .val (.int tr), .val (.int fq), .val (.ref a1), .val (.int (own_lk [] fq)), .val (.int (-1 : Int32))] []))
    refine own_st (fun _ kq_ => XS.iload X92.here hx rfl (hb hby at_241) rfl kq_) ?_
    show OwnG _ _ _ _ _ _ _ (T92.setTop (mkF m 243 #[.val (.int f1), .val (.int f2), .val (.int f3), .val (.int xx), .val (.int tt), .val (.int mo), .val (.int (2 : Int32)), .val (.int sel), .val (.int g1), .val (.int g2), .val (.int g3), .val (.int t1), .val (.int t2), .val (.int t3), .val (.int tr), .val (.int fq), .val (.ref a1), .val (.int (own_lk [] fq)), .val (.int (-1 : Int32))] [(.int (2 : Int32))]))
    refine own_st (fun _ kq_ => XS.ifYes X92.here hx rfl (pc0 := 243) (pc' := 282) rfl (hb hby at_243) rfl ((if0 _ _).trans (feq (by decide)).2) (by decide) (by decide) kq_) ?_
    show OwnG _ _ _ _ _ _ _ (T92.setTop (mkF m 282 #[.val (.int f1), .val (.int f2), .val (.int f3), .val (.int xx), .val (.int tt), .val (.int mo), .val (.int (2 : Int32)), .val (.int sel), .val (.int g1), .val (.int g2), .val (.int g3), .val (.int t1), .val (.int t2), .val (.int t3), .val (.int tr), .val (.int fq), .val (.ref a1), .val (.int (own_lk [] fq)), .val (.int (-1 : Int32))] []))
    refine own_st (fun _ kq_ => XS.iload X92.here hx rfl (hb hby at_282) rfl kq_) ?_
    show OwnG _ _ _ _ _ _ _ (T92.setTop (mkF m 284 #[.val (.int f1), .val (.int f2), .val (.int f3), .val (.int xx), .val (.int tt), .val (.int mo), .val (.int (2 : Int32)), .val (.int sel), .val (.int g1), .val (.int g2), .val (.int g3), .val (.int t1), .val (.int t2), .val (.int t3), .val (.int tr), .val (.int fq), .val (.ref a1), .val (.int (own_lk [] fq)), .val (.int (-1 : Int32))] [(.int (2 : Int32))]))
    refine own_st (fun _ kq_ => XS.iconst X92.here hx rfl (hb hby at_284) kq_) ?_
    show OwnG _ _ _ _ _ _ _ (T92.setTop (mkF m 285 #[.val (.int f1), .val (.int f2), .val (.int f3), .val (.int xx), .val (.int tt), .val (.int mo), .val (.int (2 : Int32)), .val (.int sel), .val (.int g1), .val (.int g2), .val (.int g3), .val (.int t1), .val (.int t2), .val (.int t3), .val (.int tr), .val (.int fq), .val (.ref a1), .val (.int (own_lk [] fq)), .val (.int (-1 : Int32))] [(.int (1 : Int32)), (.int (2 : Int32))]))
    refine own_st (fun _ kq_ => XS.icmpYes X92.here hx rfl (pc0 := 285) (pc' := 303) rfl (hb hby at_285) rfl (feq (by decide)).2 (by decide) (by decide) kq_) ?_
    show OwnG _ _ _ _ _ _ _ (T92.setTop (mkF m 303 #[.val (.int f1), .val (.int f2), .val (.int f3), .val (.int xx), .val (.int tt), .val (.int mo), .val (.int (2 : Int32)), .val (.int sel), .val (.int g1), .val (.int g2), .val (.int g3), .val (.int t1), .val (.int t2), .val (.int t3), .val (.int tr), .val (.int fq), .val (.ref a1), .val (.int (own_lk [] fq)), .val (.int (-1 : Int32))] []))
    refine own_st (fun _ kq_ => XS.iload X92.here hx rfl (hb hby at_303) rfl kq_) ?_
    show OwnG _ _ _ _ _ _ _ (T92.setTop (mkF m 305 #[.val (.int f1), .val (.int f2), .val (.int f3), .val (.int xx), .val (.int tt), .val (.int mo), .val (.int (2 : Int32)), .val (.int sel), .val (.int g1), .val (.int g2), .val (.int g3), .val (.int t1), .val (.int t2), .val (.int t3), .val (.int tr), .val (.int fq), .val (.ref a1), .val (.int (own_lk [] fq)), .val (.int (-1 : Int32))] [(.int (own_lk [] fq))]))
    refine own_st (fun _ kq_ => XS.iload X92.here hx rfl (hb hby at_305) rfl kq_) ?_
    show OwnG _ _ _ _ _ _ _ (T92.setTop (mkF m 307 #[.val (.int f1), .val (.int f2), .val (.int f3), .val (.int xx), .val (.int tt), .val (.int mo), .val (.int (2 : Int32)), .val (.int sel), .val (.int g1), .val (.int g2), .val (.int g3), .val (.int t1), .val (.int t2), .val (.int t3), .val (.int tr), .val (.int fq), .val (.ref a1), .val (.int (own_lk [] fq)), .val (.int (-1 : Int32))] [(.int (-1 : Int32)), (.int (own_lk [] fq))]))
    refine own_st (fun _ kq_ => XS.icmpNo X92.here hx rfl (hb hby at_307) rfl (teq rfl).2 kq_) ?_
    show OwnG _ _ _ _ _ _ _ (T92.setTop (mkF m 310 #[.val (.int f1), .val (.int f2), .val (.int f3), .val (.int xx), .val (.int tt), .val (.int mo), .val (.int (2 : Int32)), .val (.int sel), .val (.int g1), .val (.int g2), .val (.int g3), .val (.int t1), .val (.int t2), .val (.int t3), .val (.int tr), .val (.int fq), .val (.ref a1), .val (.int (own_lk [] fq)), .val (.int (-1 : Int32))] []))
    refine own_st (fun _ kq_ => XS.iconst X92.here hx rfl (hb hby at_310) kq_) ?_
    show OwnG _ _ _ _ _ _ _ (T92.setTop (mkF m 311 #[.val (.int f1), .val (.int f2), .val (.int f3), .val (.int xx), .val (.int tt), .val (.int mo), .val (.int (2 : Int32)), .val (.int sel), .val (.int g1), .val (.int g2), .val (.int g3), .val (.int t1), .val (.int t2), .val (.int t3), .val (.int tr), .val (.int fq), .val (.ref a1), .val (.int (own_lk [] fq)), .val (.int (-1 : Int32))] [(.int (1 : Int32))]))
    refine own_st (fun _ kq_ => XS.goto X92.here hx rfl (pc0 := 311) (pc' := 315) rfl (hb hby at_311) (by decide) (by decide) kq_) ?_
    show OwnG _ _ _ _ _ _ _ (T92.setTop (mkF m 315 #[.val (.int f1), .val (.int f2), .val (.int f3), .val (.int xx), .val (.int tt), .val (.int mo), .val (.int (2 : Int32)), .val (.int sel), .val (.int g1), .val (.int g2), .val (.int g3), .val (.int t1), .val (.int t2), .val (.int t3), .val (.int tr), .val (.int fq), .val (.ref a1), .val (.int (own_lk [] fq)), .val (.int (-1 : Int32))] [(.int (1 : Int32))]))
    exact own_retN X92 hx hrt hlk (t := .boolean) (by simp) (hb hby at_315) (by decide) (by decide) (by show _ ∧ _; first | (rw [E92]; exact ⟨rfl, N92⟩) | exact ⟨rfl, N92⟩)
set_option maxRecDepth 65536 in
set_option maxHeartbeats 40000000 in
theorem own_b149 {p : Program} {l : Launch} {e : Env} {s : State} {m : MethodId} {args : Array Value} {below : List Frame} {meth : Method} {c : Code} {Z : State} {a0 : Array Value} (hx : p.tables.exec = Jvm.exec) (hZ : Z.Warmed39 s.vm) (hw : ∀ d ∈ tables_1, d.before a0 Z = true) (hby : c.code = code) (hml : c.maxLocals = 19) (hown : s.vm.findClass "com/example/triptych/triptych/reasoning/LinksFeatureTargetPinLaw" = some m.cls) (hrt : meth.sig.returnType = ret) (hlk : meth.locks = false) (f1 f2 f3 xx tt mo : Int32) (qI sel g1 g2 g3 t1 t2 t3 tr fq : Int32) (hq : qI = 0 ∨ qI = 1 ∨ qI = 2) (n0 : Nat) {hs0 : Heap} {T0 : State} {h0 : Heap} {locs : List Loc} (X0 : Stand p l e room_1 s m args below meth c T0 locs 0 0) (e0 : T0.heap = h0) (N0 : Fr n0 locs) (Z0 : n0 ≤ h0.size)  : OwnG 13 86 (Q0 Z f1 f2 f3 xx tt mo hs0 n0) p e below s (T0.setTop (mkF m 149 #[.val (.int f1), .val (.int f2), .val (.int f3), .val (.int xx), .val (.int tt), .val (.int mo), .val (.int qI), .val (.int sel), .val (.int g1), .val (.int g2), .val (.int g3), .val (.int t1), .val (.int t2), .val (.int t3), .val (.int tr), .val (.int fq), .unset, .unset, .unset] [])) := by
  obtain ⟨T93, h93, X93, e93, E93, A93, D93, -, st93⟩ := newO X0 hx hZ hown (hw _ (List.mem_of_getElem? (i := 0) rfl)) (hw _ (List.mem_of_getElem? (i := 1) rfl)) (hw _ (List.mem_of_getElem? (i := 2) rfl)) e0 (g := (mkF m 149 #[.val (.int f1), .val (.int f2), .val (.int f3), .val (.int xx), .val (.int tt), .val (.int mo), .val (.int qI), .val (.int sel), .val (.int g1), .val (.int g2), .val (.int g3), .val (.int t1), .val (.int t2), .val (.int t3), .val (.int tr), .val (.int fq), .unset, .unset, .unset] [])) rfl (hb hby at_149) (by decide) (by decide)
  obtain ⟨b93, g93⟩ : ∃ z, z = h0.size := ⟨_, rfl⟩
  rw [← g93] at A93 D93 st93
  refine own_st st93 ?_
  show OwnG _ _ _ _ _ _ _ (T93.setTop (mkF m 152 #[.val (.int f1), .val (.int f2), .val (.int f3), .val (.int xx), .val (.int tt), .val (.int mo), .val (.int qI), .val (.int sel), .val (.int g1), .val (.int g2), .val (.int g3), .val (.int t1), .val (.int t2), .val (.int t3), .val (.int tr), .val (.int fq), .unset, .unset, .unset] [(.ref b93)]))
  have S93 : n0 ≤ h93.size := Nat.le_trans Z0 E93.1
  have ga : n0 ≤ b93 := Nat.le_trans Z0 (Nat.le_of_eq g93.symm)
  have P0 : PL n0 Z h93 b93 (fun _ => 0) 0 := by
    refine ⟨A93, fun i hi => absurd hi (Nat.not_lt_zero _), fun i _ hi => ?_, D93 (own_laid hw 12 (by decide)) (ty := .int) (by decide), D93 (own_laid hw 13 (by decide)) (ty := .boolean) (by decide), fun i j hi _ _ => absurd hi (Nat.not_lt_zero _)⟩
    match i, hi with
    | 0, _ => exact D93 (own_laid hw 0 (by decide)) (ty := (.array .int)) (by decide)
    | 1, _ => exact D93 (own_laid hw 1 (by decide)) (ty := (.array .int)) (by decide)
    | 2, _ => exact D93 (own_laid hw 2 (by decide)) (ty := (.array .int)) (by decide)
    | 3, _ => exact D93 (own_laid hw 3 (by decide)) (ty := (.array .int)) (by decide)
    | 4, _ => exact D93 (own_laid hw 4 (by decide)) (ty := (.array .int)) (by decide)
    | 5, _ => exact D93 (own_laid hw 5 (by decide)) (ty := (.array .boolean)) (by decide)
    | 6, _ => exact D93 (own_laid hw 6 (by decide)) (ty := (.array .int)) (by decide)
    | 7, _ => exact D93 (own_laid hw 7 (by decide)) (ty := (.array .int)) (by decide)
    | 8, _ => exact D93 (own_laid hw 8 (by decide)) (ty := (.array .int)) (by decide)
    | 9, _ => exact D93 (own_laid hw 9 (by decide)) (ty := (.array .int)) (by decide)
    | 10, _ => exact D93 (own_laid hw 10 (by decide)) (ty := (.array .int)) (by decide)
    | 11, _ => exact D93 (own_laid hw 11 (by decide)) (ty := (.array .int)) (by decide)
  refine own_st (fun _ kq_ => XS.dup X93.here hx rfl (hb hby at_152) rfl rfl kq_) ?_
  show OwnG _ _ _ _ _ _ _ (T93.setTop (mkF m 153 #[.val (.int f1), .val (.int f2), .val (.int f3), .val (.int xx), .val (.int tt), .val (.int mo), .val (.int qI), .val (.int sel), .val (.int g1), .val (.int g2), .val (.int g3), .val (.int t1), .val (.int t2), .val (.int t3), .val (.int tr), .val (.int fq), .unset, .unset, .unset] [(.ref b93), (.ref b93)]))
  obtain ⟨_, _, ⟨T94, L94, k94, n94⟩, -, X94, ⟨Lc94, hQ94, l94, y94, z94⟩, st94⟩ := X93.specialBack hx (y := (⟨"com/example/triptych/triptych/reasoning/Links", "<init>", "()V"⟩ : MethodName)) rfl hown (mvT hZ (hw _ (List.mem_of_getElem? (i := 3) rfl))) (mvT hZ (hw _ (List.mem_of_getElem? (i := 4) rfl))) (mvT hZ (hw _ (List.mem_of_getElem? (i := 5) rfl))) (by decide) (backOf (W := 1) (rm1 l Z a0 hw [] b93 (fun _ => 0) h93 n0 S93 P0 ga) hZ (hw _ (List.mem_of_getElem? (i := 5) rfl)) (hw _ (List.mem_of_getElem? (i := 2) rfl)) (by decide) (by decide)) (g := (mkF m 153 #[.val (.int f1), .val (.int f2), .val (.int f3), .val (.int xx), .val (.int tt), .val (.int mo), .val (.int qI), .val (.int sel), .val (.int g1), .val (.int g2), .val (.int g3), .val (.int t1), .val (.int t2), .val (.int t3), .val (.int tr), .val (.int fq), .unset, .unset, .unset] [(.ref b93), (.ref b93)])) rfl (by rw [hml]; rfl) (Steps.refl _) (a := b93) (argsL := []) (rest := [(.ref b93)]) (lenOf (by decide +kernel : parseMethodDescriptor "()V" = some ⟨[], none⟩) rfl) rfl (by show 2 * 0 + _ ≤ _; exact Nat.le_of_eq rfl) (hb hby at_153) (fun _ _ => ⟨rfl, e93, (by dsimp only [Pt.cells]; decide), (by dsimp only [Pt.slots]; decide)⟩)
  dsimp only [Pt.U, Pt.locs, Pt.cells, Pt.slots] at X94 l94 y94 z94 st94 hQ94
  subst l94 y94 z94
  obtain ⟨rfl, N94q, S94, A94, I94⟩ := hQ94
  have N94 := Fr.app N0 N94q
  refine own_go st94 ?_
  show OwnG _ _ _ _ _ _ _ (T94.setTop (mkF m 156 #[.val (.int f1), .val (.int f2), .val (.int f3), .val (.int xx), .val (.int tt), .val (.int mo), .val (.int qI), .val (.int sel), .val (.int g1), .val (.int g2), .val (.int g3), .val (.int t1), .val (.int t2), .val (.int t3), .val (.int tr), .val (.int fq), .unset, .unset, .unset] [(.ref b93)]))
  refine own_st (fun _ kq_ => XS.astore X94.here hx rfl (hb hby at_156) rfl rfl (l' := #[.val (.int f1), .val (.int f2), .val (.int f3), .val (.int xx), .val (.int tt), .val (.int mo), .val (.int qI), .val (.int sel), .val (.int g1), .val (.int g2), .val (.int g3), .val (.int t1), .val (.int t2), .val (.int t3), .val (.int tr), .val (.int fq), .val (.ref b93), .unset, .unset]) rfl kq_) ?_
  show OwnG _ _ _ _ _ _ _ (T94.setTop (mkF m 158 #[.val (.int f1), .val (.int f2), .val (.int f3), .val (.int xx), .val (.int tt), .val (.int mo), .val (.int qI), .val (.int sel), .val (.int g1), .val (.int g2), .val (.int g3), .val (.int t1), .val (.int t2), .val (.int t3), .val (.int tr), .val (.int fq), .val (.ref b93), .unset, .unset] []))
  refine own_st (fun _ kq_ => XS.aload X94.here hx rfl (hb hby at_158) rfl rfl kq_) ?_
  show OwnG _ _ _ _ _ _ _ (T94.setTop (mkF m 160 #[.val (.int f1), .val (.int f2), .val (.int f3), .val (.int xx), .val (.int tt), .val (.int mo), .val (.int qI), .val (.int sel), .val (.int g1), .val (.int g2), .val (.int g3), .val (.int t1), .val (.int t2), .val (.int t3), .val (.int tr), .val (.int fq), .val (.ref b93), .unset, .unset] [(.ref b93)]))
  refine own_st (fun _ kq_ => XS.iconst X94.here hx rfl (hb hby at_160) kq_) ?_
  show OwnG _ _ _ _ _ _ _ (T94.setTop (mkF m 161 #[.val (.int f1), .val (.int f2), .val (.int f3), .val (.int xx), .val (.int tt), .val (.int mo), .val (.int qI), .val (.int sel), .val (.int g1), .val (.int g2), .val (.int g3), .val (.int t1), .val (.int t2), .val (.int t3), .val (.int tr), .val (.int fq), .val (.ref b93), .unset, .unset] [(.int (0 : Int32)), (.ref b93)]))
  obtain ⟨cq95, kq95, q95a, q95b, q95c⟩ := isOf hZ rfl I94.1
  obtain ⟨_, _, ⟨T95, L95, k95, n95⟩, -, X95, ⟨Lc95, hQ95, l95, y95, z95⟩, st95⟩ := X94.virtualBack hx (y := (⟨"com/example/triptych/triptych/reasoning/Links", "addObject", "(I)V"⟩ : MethodName)) (z := (⟨"com/example/triptych/triptych/reasoning/Links", "addObject", "(I)V"⟩ : MethodName)) hown (mvT hZ (hw _ (List.mem_of_getElem? (i := 35) rfl))) (mvT hZ (hw _ (List.mem_of_getElem? (i := 36) rfl))) (notFace_of_selects (args := #[]) (mvT hZ (hw _ (List.mem_of_getElem? (i := 38) rfl)))) (mvT hZ (hw _ (List.mem_of_getElem? (i := 38) rfl))) (mvT hZ (hw _ (List.mem_of_getElem? (i := 37) rfl))) (by decide) (backOf (W := 0) (rm3 l Z a0 hw [] b93 A94 (fun _ _ => 0) 0 0 (0 : Int32) 0 T94.heap n0 S94 (by decide) (by decide) I94) hZ (hw _ (List.mem_of_getElem? (i := 39) rfl)) (hw _ (List.mem_of_getElem? (i := 2) rfl)) (by decide) (by decide)) q95a q95c (g := (mkF m 161 #[.val (.int f1), .val (.int f2), .val (.int f3), .val (.int xx), .val (.int tt), .val (.int mo), .val (.int qI), .val (.int sel), .val (.int g1), .val (.int g2), .val (.int g3), .val (.int t1), .val (.int t2), .val (.int t3), .val (.int tr), .val (.int fq), .val (.ref b93), .unset, .unset] [(.int (0 : Int32)), (.ref b93)])) rfl (by rw [hml]; rfl) (Steps.refl _) (argsL := [(.int (0 : Int32))]) (rest := []) (lenOf (by decide +kernel : parseMethodDescriptor "(I)V" = some ⟨[.int], none⟩) rfl) rfl (by show 2 * 0 + _ ≤ _; exact Nat.le_of_eq rfl) (hb hby at_161) (fun _ _ => ⟨rfl, rfl, (by dsimp only [Pt.cells]; decide), (by dsimp only [Pt.slots]; decide)⟩)
  dsimp only [Pt.U, Pt.locs, Pt.cells, Pt.slots] at X95 l95 y95 z95 st95 hQ95
  subst l95 y95 z95
  obtain ⟨rfl, N95q, S95, I95⟩ := hQ95
  have N95 := Fr.app N94 N95q
  refine own_go st95 ?_
  show OwnG _ _ _ _ _ _ _ (T95.setTop (mkF m 164 #[.val (.int f1), .val (.int f2), .val (.int f3), .val (.int xx), .val (.int tt), .val (.int mo), .val (.int qI), .val (.int sel), .val (.int g1), .val (.int g2), .val (.int g3), .val (.int t1), .val (.int t2), .val (.int t3), .val (.int tr), .val (.int fq), .val (.ref b93), .unset, .unset] []))
  refine own_st (fun _ kq_ => XS.aload X95.here hx rfl (hb hby at_164) rfl rfl kq_) ?_
  show OwnG _ _ _ _ _ _ _ (T95.setTop (mkF m 166 #[.val (.int f1), .val (.int f2), .val (.int f3), .val (.int xx), .val (.int tt), .val (.int mo), .val (.int qI), .val (.int sel), .val (.int g1), .val (.int g2), .val (.int g3), .val (.int t1), .val (.int t2), .val (.int t3), .val (.int tr), .val (.int fq), .val (.ref b93), .unset, .unset] [(.ref b93)]))
  refine own_st (fun _ kq_ => XS.iconst X95.here hx rfl (hb hby at_166) kq_) ?_
  show OwnG _ _ _ _ _ _ _ (T95.setTop (mkF m 167 #[.val (.int f1), .val (.int f2), .val (.int f3), .val (.int xx), .val (.int tt), .val (.int mo), .val (.int qI), .val (.int sel), .val (.int g1), .val (.int g2), .val (.int g3), .val (.int t1), .val (.int t2), .val (.int t3), .val (.int tr), .val (.int fq), .val (.ref b93), .unset, .unset] [(.int (1 : Int32)), (.ref b93)]))
  obtain ⟨cq96, kq96, q96a, q96b, q96c⟩ := isOf hZ rfl I95.1
  obtain ⟨_, _, ⟨T96, L96, k96, n96⟩, -, X96, ⟨Lc96, hQ96, l96, y96, z96⟩, st96⟩ := X95.virtualBack hx (y := (⟨"com/example/triptych/triptych/reasoning/Links", "addObject", "(I)V"⟩ : MethodName)) (z := (⟨"com/example/triptych/triptych/reasoning/Links", "addObject", "(I)V"⟩ : MethodName)) hown (mvT hZ (hw _ (List.mem_of_getElem? (i := 35) rfl))) (mvT hZ (hw _ (List.mem_of_getElem? (i := 36) rfl))) (notFace_of_selects (args := #[]) (mvT hZ (hw _ (List.mem_of_getElem? (i := 38) rfl)))) (mvT hZ (hw _ (List.mem_of_getElem? (i := 38) rfl))) (mvT hZ (hw _ (List.mem_of_getElem? (i := 37) rfl))) (by decide) (backOf (W := 0) (rm3 l Z a0 hw [] b93 A94 (own_ao (fun _ _ => 0) 0) 0 0 (1 : Int32) 1 T95.heap n0 S95 (by decide) (by decide) I95) hZ (hw _ (List.mem_of_getElem? (i := 39) rfl)) (hw _ (List.mem_of_getElem? (i := 2) rfl)) (by decide) (by decide)) q96a q96c (g := (mkF m 167 #[.val (.int f1), .val (.int f2), .val (.int f3), .val (.int xx), .val (.int tt), .val (.int mo), .val (.int qI), .val (.int sel), .val (.int g1), .val (.int g2), .val (.int g3), .val (.int t1), .val (.int t2), .val (.int t3), .val (.int tr), .val (.int fq), .val (.ref b93), .unset, .unset] [(.int (1 : Int32)), (.ref b93)])) rfl (by rw [hml]; rfl) (Steps.refl _) (argsL := [(.int (1 : Int32))]) (rest := []) (lenOf (by decide +kernel : parseMethodDescriptor "(I)V" = some ⟨[.int], none⟩) rfl) rfl (by show 2 * 0 + _ ≤ _; exact Nat.le_of_eq rfl) (hb hby at_167) (fun _ _ => ⟨rfl, rfl, (by dsimp only [Pt.cells]; decide), (by dsimp only [Pt.slots]; decide)⟩)
  dsimp only [Pt.U, Pt.locs, Pt.cells, Pt.slots] at X96 l96 y96 z96 st96 hQ96
  subst l96 y96 z96
  obtain ⟨rfl, N96q, S96, I96⟩ := hQ96
  have N96 := Fr.app N95 N96q
  refine own_go st96 ?_
  show OwnG _ _ _ _ _ _ _ (T96.setTop (mkF m 170 #[.val (.int f1), .val (.int f2), .val (.int f3), .val (.int xx), .val (.int tt), .val (.int mo), .val (.int qI), .val (.int sel), .val (.int g1), .val (.int g2), .val (.int g3), .val (.int t1), .val (.int t2), .val (.int t3), .val (.int tr), .val (.int fq), .val (.ref b93), .unset, .unset] []))
  refine own_st (fun _ kq_ => XS.aload X96.here hx rfl (hb hby at_170) rfl rfl kq_) ?_
  show OwnG _ _ _ _ _ _ _ (T96.setTop (mkF m 172 #[.val (.int f1), .val (.int f2), .val (.int f3), .val (.int xx), .val (.int tt), .val (.int mo), .val (.int qI), .val (.int sel), .val (.int g1), .val (.int g2), .val (.int g3), .val (.int t1), .val (.int t2), .val (.int t3), .val (.int tr), .val (.int fq), .val (.ref b93), .unset, .unset] [(.ref b93)]))
  refine own_st (fun _ kq_ => XS.iconst X96.here hx rfl (hb hby at_172) kq_) ?_
  show OwnG _ _ _ _ _ _ _ (T96.setTop (mkF m 173 #[.val (.int f1), .val (.int f2), .val (.int f3), .val (.int xx), .val (.int tt), .val (.int mo), .val (.int qI), .val (.int sel), .val (.int g1), .val (.int g2), .val (.int g3), .val (.int t1), .val (.int t2), .val (.int t3), .val (.int tr), .val (.int fq), .val (.ref b93), .unset, .unset] [(.int (2 : Int32)), (.ref b93)]))
  obtain ⟨cq97, kq97, q97a, q97b, q97c⟩ := isOf hZ rfl I96.1
  obtain ⟨_, _, ⟨T97, L97, k97, n97⟩, -, X97, ⟨Lc97, hQ97, l97, y97, z97⟩, st97⟩ := X96.virtualBack hx (y := (⟨"com/example/triptych/triptych/reasoning/Links", "addObject", "(I)V"⟩ : MethodName)) (z := (⟨"com/example/triptych/triptych/reasoning/Links", "addObject", "(I)V"⟩ : MethodName)) hown (mvT hZ (hw _ (List.mem_of_getElem? (i := 35) rfl))) (mvT hZ (hw _ (List.mem_of_getElem? (i := 36) rfl))) (notFace_of_selects (args := #[]) (mvT hZ (hw _ (List.mem_of_getElem? (i := 38) rfl)))) (mvT hZ (hw _ (List.mem_of_getElem? (i := 38) rfl))) (mvT hZ (hw _ (List.mem_of_getElem? (i := 37) rfl))) (by decide) (backOf (W := 0) (rm3 l Z a0 hw [] b93 A94 (own_ao (own_ao (fun _ _ => 0) 0) 1) 0 0 (2 : Int32) 2 T96.heap n0 S96 (by decide) (by decide) I96) hZ (hw _ (List.mem_of_getElem? (i := 39) rfl)) (hw _ (List.mem_of_getElem? (i := 2) rfl)) (by decide) (by decide)) q97a q97c (g := (mkF m 173 #[.val (.int f1), .val (.int f2), .val (.int f3), .val (.int xx), .val (.int tt), .val (.int mo), .val (.int qI), .val (.int sel), .val (.int g1), .val (.int g2), .val (.int g3), .val (.int t1), .val (.int t2), .val (.int t3), .val (.int tr), .val (.int fq), .val (.ref b93), .unset, .unset] [(.int (2 : Int32)), (.ref b93)])) rfl (by rw [hml]; rfl) (Steps.refl _) (argsL := [(.int (2 : Int32))]) (rest := []) (lenOf (by decide +kernel : parseMethodDescriptor "(I)V" = some ⟨[.int], none⟩) rfl) rfl (by show 2 * 0 + _ ≤ _; exact Nat.le_of_eq rfl) (hb hby at_173) (fun _ _ => ⟨rfl, rfl, (by dsimp only [Pt.cells]; decide), (by dsimp only [Pt.slots]; decide)⟩)
  dsimp only [Pt.U, Pt.locs, Pt.cells, Pt.slots] at X97 l97 y97 z97 st97 hQ97
  subst l97 y97 z97
  obtain ⟨rfl, N97q, S97, I97⟩ := hQ97
  have N97 := Fr.app N96 N97q
  refine own_go st97 ?_
  show OwnG _ _ _ _ _ _ _ (T97.setTop (mkF m 176 #[.val (.int f1), .val (.int f2), .val (.int f3), .val (.int xx), .val (.int tt), .val (.int mo), .val (.int qI), .val (.int sel), .val (.int g1), .val (.int g2), .val (.int g3), .val (.int t1), .val (.int t2), .val (.int t3), .val (.int tr), .val (.int fq), .val (.ref b93), .unset, .unset] []))
  refine own_st (fun _ kq_ => XS.aload X97.here hx rfl (hb hby at_176) rfl rfl kq_) ?_
  show OwnG _ _ _ _ _ _ _ (T97.setTop (mkF m 178 #[.val (.int f1), .val (.int f2), .val (.int f3), .val (.int xx), .val (.int tt), .val (.int mo), .val (.int qI), .val (.int sel), .val (.int g1), .val (.int g2), .val (.int g3), .val (.int t1), .val (.int t2), .val (.int t3), .val (.int tr), .val (.int fq), .val (.ref b93), .unset, .unset] [(.ref b93)]))
  refine own_st (fun _ kq_ => XS.iconst X97.here hx rfl (hb hby at_178) kq_) ?_
  show OwnG _ _ _ _ _ _ _ (T97.setTop (mkF m 179 #[.val (.int f1), .val (.int f2), .val (.int f3), .val (.int xx), .val (.int tt), .val (.int mo), .val (.int qI), .val (.int sel), .val (.int g1), .val (.int g2), .val (.int g3), .val (.int t1), .val (.int t2), .val (.int t3), .val (.int tr), .val (.int fq), .val (.ref b93), .unset, .unset] [(.int (0 : Int32)), (.ref b93)]))
  refine own_st (fun _ kq_ => XS.iloadN X97.here hx rfl (hb hby at_179) rfl kq_) ?_
  show OwnG _ _ _ _ _ _ _ (T97.setTop (mkF m 180 #[.val (.int f1), .val (.int f2), .val (.int f3), .val (.int xx), .val (.int tt), .val (.int mo), .val (.int qI), .val (.int sel), .val (.int g1), .val (.int g2), .val (.int g3), .val (.int t1), .val (.int t2), .val (.int t3), .val (.int tr), .val (.int fq), .val (.ref b93), .unset, .unset] [(.int xx), (.int (0 : Int32)), (.ref b93)]))
  refine own_st (fun _ kq_ => XS.iload X97.here hx rfl (hb hby at_180) rfl kq_) ?_
  show OwnG _ _ _ _ _ _ _ (T97.setTop (mkF m 182 #[.val (.int f1), .val (.int f2), .val (.int f3), .val (.int xx), .val (.int tt), .val (.int mo), .val (.int qI), .val (.int sel), .val (.int g1), .val (.int g2), .val (.int g3), .val (.int t1), .val (.int t2), .val (.int t3), .val (.int tr), .val (.int fq), .val (.ref b93), .unset, .unset] [(.int tr), (.int xx), (.int (0 : Int32)), (.ref b93)]))
  obtain ⟨cq98, kq98, q98a, q98b, q98c⟩ := isOf hZ rfl I97.1
  obtain ⟨_, _, ⟨T98, L98, k98, n98⟩, -, X98, ⟨Lc98, hQ98, l98, y98, z98⟩, st98⟩ := X97.virtualBack hx (y := (⟨"com/example/triptych/triptych/reasoning/Links", "addRole", "(III)V"⟩ : MethodName)) (z := (⟨"com/example/triptych/triptych/reasoning/Links", "addRole", "(III)V"⟩ : MethodName)) hown (mvT hZ (hw _ (List.mem_of_getElem? (i := 40) rfl))) (mvT hZ (hw _ (List.mem_of_getElem? (i := 41) rfl))) (notFace_of_selects (args := #[]) (mvT hZ (hw _ (List.mem_of_getElem? (i := 43) rfl)))) (mvT hZ (hw _ (List.mem_of_getElem? (i := 43) rfl))) (mvT hZ (hw _ (List.mem_of_getElem? (i := 42) rfl))) (by decide) (backOf (W := 0) (rm5 l Z a0 hw [] b93 A94 (own_ao (own_ao (own_ao (fun _ _ => 0) 0) 1) 2) 0 0 (0 : Int32) xx tr 0 T97.heap n0 S97 (by decide) rfl (by decide) rfl rfl I97 ga) hZ (hw _ (List.mem_of_getElem? (i := 44) rfl)) (hw _ (List.mem_of_getElem? (i := 2) rfl)) (by decide) (by decide)) q98a q98c (g := (mkF m 182 #[.val (.int f1), .val (.int f2), .val (.int f3), .val (.int xx), .val (.int tt), .val (.int mo), .val (.int qI), .val (.int sel), .val (.int g1), .val (.int g2), .val (.int g3), .val (.int t1), .val (.int t2), .val (.int t3), .val (.int tr), .val (.int fq), .val (.ref b93), .unset, .unset] [(.int tr), (.int xx), (.int (0 : Int32)), (.ref b93)])) rfl (by rw [hml]; rfl) (Steps.refl _) (argsL := [(.int (0 : Int32)), (.int xx), (.int tr)]) (rest := []) (lenOf (by decide +kernel : parseMethodDescriptor "(III)V" = some ⟨[.int, .int, .int], none⟩) rfl) rfl (by show 2 * 0 + _ ≤ _; exact Nat.le_of_eq rfl) (hb hby at_182) (fun _ _ => ⟨rfl, rfl, (by dsimp only [Pt.cells]; decide), (by dsimp only [Pt.slots]; decide)⟩)
  dsimp only [Pt.U, Pt.locs, Pt.cells, Pt.slots] at X98 l98 y98 z98 st98 hQ98
  subst l98 y98 z98
  obtain ⟨rfl, N98q, S98, I98⟩ := hQ98
  have N98 := Fr.app N97 N98q
  refine own_go st98 ?_
  show OwnG _ _ _ _ _ _ _ (T98.setTop (mkF m 185 #[.val (.int f1), .val (.int f2), .val (.int f3), .val (.int xx), .val (.int tt), .val (.int mo), .val (.int qI), .val (.int sel), .val (.int g1), .val (.int g2), .val (.int g3), .val (.int t1), .val (.int t2), .val (.int t3), .val (.int tr), .val (.int fq), .val (.ref b93), .unset, .unset] []))
  refine own_st (fun _ kq_ => XS.iload X98.here hx rfl (hb hby at_185) rfl kq_) ?_
  show OwnG _ _ _ _ _ _ _ (T98.setTop (mkF m 187 #[.val (.int f1), .val (.int f2), .val (.int f3), .val (.int xx), .val (.int tt), .val (.int mo), .val (.int qI), .val (.int sel), .val (.int g1), .val (.int g2), .val (.int g3), .val (.int t1), .val (.int t2), .val (.int t3), .val (.int tr), .val (.int fq), .val (.ref b93), .unset, .unset] [(.int g1)]))
  by_cases hg1 : g1 = (0 : Int32)
  · skip
    refine own_st (fun _ kq_ => XS.ifYes X98.here hx rfl (pc0 := 187) (pc' := 199) rfl (hb hby at_187) rfl ((if0 _ _).trans (teq hg1).1) (by decide) (by decide) kq_) ?_
    show OwnG _ _ _ _ _ _ _ (T98.setTop (mkF m 199 #[.val (.int f1), .val (.int f2), .val (.int f3), .val (.int xx), .val (.int tt), .val (.int mo), .val (.int qI), .val (.int sel), .val (.int g1), .val (.int g2), .val (.int g3), .val (.int t1), .val (.int t2), .val (.int t3), .val (.int tr), .val (.int fq), .val (.ref b93), .unset, .unset] []))
    refine own_st (fun _ kq_ => XS.iload X98.here hx rfl (hb hby at_199) rfl kq_) ?_
    show OwnG _ _ _ _ _ _ _ (T98.setTop (mkF m 201 #[.val (.int f1), .val (.int f2), .val (.int f3), .val (.int xx), .val (.int tt), .val (.int mo), .val (.int qI), .val (.int sel), .val (.int g1), .val (.int g2), .val (.int g3), .val (.int t1), .val (.int t2), .val (.int t3), .val (.int tr), .val (.int fq), .val (.ref b93), .unset, .unset] [(.int g3)]))
    by_cases hg3 : g3 = (0 : Int32)
    · skip
      refine own_st (fun _ kq_ => XS.ifYes X98.here hx rfl (pc0 := 201) (pc' := 213) rfl (hb hby at_201) rfl ((if0 _ _).trans (teq hg3).1) (by decide) (by decide) kq_) ?_
      show OwnG _ _ _ _ _ _ _ (T98.setTop (mkF m 213 #[.val (.int f1), .val (.int f2), .val (.int f3), .val (.int xx), .val (.int tt), .val (.int mo), .val (.int qI), .val (.int sel), .val (.int g1), .val (.int g2), .val (.int g3), .val (.int t1), .val (.int t2), .val (.int t3), .val (.int tr), .val (.int fq), .val (.ref b93), .unset, .unset] []))
      refine own_st (fun _ kq_ => XS.iload X98.here hx rfl (hb hby at_213) rfl kq_) ?_
      show OwnG _ _ _ _ _ _ _ (T98.setTop (mkF m 215 #[.val (.int f1), .val (.int f2), .val (.int f3), .val (.int xx), .val (.int tt), .val (.int mo), .val (.int qI), .val (.int sel), .val (.int g1), .val (.int g2), .val (.int g3), .val (.int t1), .val (.int t2), .val (.int t3), .val (.int tr), .val (.int fq), .val (.ref b93), .unset, .unset] [(.int g2)]))
      by_cases hg2 : g2 = (0 : Int32)
      · skip
        refine own_st (fun _ kq_ => XS.ifYes X98.here hx rfl (pc0 := 215) (pc' := 227) rfl (hb hby at_215) rfl ((if0 _ _).trans (teq hg2).1) (by decide) (by decide) kq_) ?_
        show OwnG _ _ _ _ _ _ _ (T98.setTop (mkF m 227 #[.val (.int f1), .val (.int f2), .val (.int f3), .val (.int xx), .val (.int tt), .val (.int mo), .val (.int qI), .val (.int sel), .val (.int g1), .val (.int g2), .val (.int g3), .val (.int t1), .val (.int t2), .val (.int t3), .val (.int tr), .val (.int fq), .val (.ref b93), .unset, .unset] []))
        exact own_b227 hx hZ hw hby hml hown hrt hlk f1 f2 f3 xx tt mo qI sel g1 g2 g3 t1 t2 t3 tr fq hq b93 A94 (own_ar (own_ao (own_ao (own_ao (fun _ _ => 0) 0) 1) 2) 0 0 (0 : Int32) (Int32.ofNat 0) xx tr) 1 0 [] [] (by rw [if_pos hg1, if_pos hg2]; rfl) (by rw [if_pos hg3]) n0 X98 rfl N98 S98 rfl rfl rfl I98
      · skip
        refine own_st (fun _ kq_ => XS.ifNo X98.here hx rfl (hb hby at_215) rfl ((if0 _ _).trans (feq hg2).1) kq_) ?_
        show OwnG _ _ _ _ _ _ _ (T98.setTop (mkF m 218 #[.val (.int f1), .val (.int f2), .val (.int f3), .val (.int xx), .val (.int tt), .val (.int mo), .val (.int qI), .val (.int sel), .val (.int g1), .val (.int g2), .val (.int g3), .val (.int t1), .val (.int t2), .val (.int t3), .val (.int tr), .val (.int fq), .val (.ref b93), .unset, .unset] []))
        refine own_st (fun _ kq_ => XS.aload X98.here hx rfl (hb hby at_218) rfl rfl kq_) ?_
        show OwnG _ _ _ _ _ _ _ (T98.setTop (mkF m 220 #[.val (.int f1), .val (.int f2), .val (.int f3), .val (.int xx), .val (.int tt), .val (.int mo), .val (.int qI), .val (.int sel), .val (.int g1), .val (.int g2), .val (.int g3), .val (.int t1), .val (.int t2), .val (.int t3), .val (.int tr), .val (.int fq), .val (.ref b93), .unset, .unset] [(.ref b93)]))
        refine own_st (fun _ kq_ => XS.iconst X98.here hx rfl (hb hby at_220) kq_) ?_
        show OwnG _ _ _ _ _ _ _ (T98.setTop (mkF m 221 #[.val (.int f1), .val (.int f2), .val (.int f3), .val (.int xx), .val (.int tt), .val (.int mo), .val (.int qI), .val (.int sel), .val (.int g1), .val (.int g2), .val (.int g3), .val (.int t1), .val (.int t2), .val (.int t3), .val (.int tr), .val (.int fq), .val (.ref b93), .unset, .unset] [(.int (0 : Int32)), (.ref b93)]))
        refine own_st (fun _ kq_ => XS.iloadN X98.here hx rfl (hb hby at_221) rfl kq_) ?_
        show OwnG _ _ _ _ _ _ _ (T98.setTop (mkF m 222 #[.val (.int f1), .val (.int f2), .val (.int f3), .val (.int xx), .val (.int tt), .val (.int mo), .val (.int qI), .val (.int sel), .val (.int g1), .val (.int g2), .val (.int g3), .val (.int t1), .val (.int t2), .val (.int t3), .val (.int tr), .val (.int fq), .val (.ref b93), .unset, .unset] [(.int f2), (.int (0 : Int32)), (.ref b93)]))
        refine own_st (fun _ kq_ => XS.iload X98.here hx rfl (hb hby at_222) rfl kq_) ?_
        show OwnG _ _ _ _ _ _ _ (T98.setTop (mkF m 224 #[.val (.int f1), .val (.int f2), .val (.int f3), .val (.int xx), .val (.int tt), .val (.int mo), .val (.int qI), .val (.int sel), .val (.int g1), .val (.int g2), .val (.int g3), .val (.int t1), .val (.int t2), .val (.int t3), .val (.int tr), .val (.int fq), .val (.ref b93), .unset, .unset] [(.int t2), (.int f2), (.int (0 : Int32)), (.ref b93)]))
        obtain ⟨cq99, kq99, q99a, q99b, q99c⟩ := isOf hZ rfl I98.1
        obtain ⟨_, _, ⟨T99, L99, k99, n99⟩, -, X99, ⟨Lc99, hQ99, l99, y99, z99⟩, st99⟩ := X98.virtualBack hx (y := (⟨"com/example/triptych/triptych/reasoning/Links", "addFeature", "(III)V"⟩ : MethodName)) (z := (⟨"com/example/triptych/triptych/reasoning/Links", "addFeature", "(III)V"⟩ : MethodName)) hown (mvT hZ (hw _ (List.mem_of_getElem? (i := 68) rfl))) (mvT hZ (hw _ (List.mem_of_getElem? (i := 69) rfl))) (notFace_of_selects (args := #[]) (mvT hZ (hw _ (List.mem_of_getElem? (i := 71) rfl)))) (mvT hZ (hw _ (List.mem_of_getElem? (i := 71) rfl))) (mvT hZ (hw _ (List.mem_of_getElem? (i := 70) rfl))) (by decide) (backOf (W := 0) (rm6 l Z a0 hw [] b93 A94 (own_ar (own_ao (own_ao (own_ao (fun _ _ => 0) 0) 1) 2) 0 0 (0 : Int32) (Int32.ofNat 0) xx tr) 1 0 (0 : Int32) f2 t2 0 none T98.heap n0 S98 (by decide) rfl (by decide) rfl I98 ga) hZ (hw _ (List.mem_of_getElem? (i := 72) rfl)) (hw _ (List.mem_of_getElem? (i := 2) rfl)) (by decide) (by decide)) q99a q99c (g := (mkF m 224 #[.val (.int f1), .val (.int f2), .val (.int f3), .val (.int xx), .val (.int tt), .val (.int mo), .val (.int qI), .val (.int sel), .val (.int g1), .val (.int g2), .val (.int g3), .val (.int t1), .val (.int t2), .val (.int t3), .val (.int tr), .val (.int fq), .val (.ref b93), .unset, .unset] [(.int t2), (.int f2), (.int (0 : Int32)), (.ref b93)])) rfl (by rw [hml]; rfl) (Steps.refl _) (argsL := [(.int (0 : Int32)), (.int f2), (.int t2)]) (rest := []) (lenOf (by decide +kernel : parseMethodDescriptor "(III)V" = some ⟨[.int, .int, .int], none⟩) rfl) rfl (by show 2 * 0 + _ ≤ _; exact Nat.le_of_eq rfl) (hb hby at_224) (fun _ _ => ⟨rfl, rfl, (by dsimp only [Pt.cells]; decide), (by dsimp only [Pt.slots]; decide)⟩)
        dsimp only [Pt.U, Pt.locs, Pt.cells, Pt.slots] at X99 l99 y99 z99 st99 hQ99
        subst l99 y99 z99
        obtain ⟨rfl, N99q, S99, I99⟩ := hQ99
        have N99 := Fr.app N98 N99q
        refine own_go st99 ?_
        show OwnG _ _ _ _ _ _ _ (T99.setTop (mkF m 227 #[.val (.int f1), .val (.int f2), .val (.int f3), .val (.int xx), .val (.int tt), .val (.int mo), .val (.int qI), .val (.int sel), .val (.int g1), .val (.int g2), .val (.int g3), .val (.int t1), .val (.int t2), .val (.int t3), .val (.int tr), .val (.int fq), .val (.ref b93), .unset, .unset] []))
        exact own_b227 hx hZ hw hby hml hown hrt hlk f1 f2 f3 xx tt mo qI sel g1 g2 g3 t1 t2 t3 tr fq hq b93 A94 (own_af (own_ar (own_ao (own_ao (own_ao (fun _ _ => 0) 0) 1) 2) 0 0 (0 : Int32) (Int32.ofNat 0) xx tr) 0 1 (0 : Int32) (Int32.ofNat 1) f2 t2 none) 2 1 [(f2, t2)] [] (by rw [if_pos hg1, if_neg hg2]; rfl) (by rw [if_pos hg3]) n0 X99 rfl N99 S99 ⟨1, by decide, rfl, rfl, rfl, rfl⟩ rfl rfl I99
    · skip
      refine own_st (fun _ kq_ => XS.ifNo X98.here hx rfl (hb hby at_201) rfl ((if0 _ _).trans (feq hg3).1) kq_) ?_
      show OwnG _ _ _ _ _ _ _ (T98.setTop (mkF m 204 #[.val (.int f1), .val (.int f2), .val (.int f3), .val (.int xx), .val (.int tt), .val (.int mo), .val (.int qI), .val (.int sel), .val (.int g1), .val (.int g2), .val (.int g3), .val (.int t1), .val (.int t2), .val (.int t3), .val (.int tr), .val (.int fq), .val (.ref b93), .unset, .unset] []))
      refine own_st (fun _ kq_ => XS.aload X98.here hx rfl (hb hby at_204) rfl rfl kq_) ?_
      show OwnG _ _ _ _ _ _ _ (T98.setTop (mkF m 206 #[.val (.int f1), .val (.int f2), .val (.int f3), .val (.int xx), .val (.int tt), .val (.int mo), .val (.int qI), .val (.int sel), .val (.int g1), .val (.int g2), .val (.int g3), .val (.int t1), .val (.int t2), .val (.int t3), .val (.int tr), .val (.int fq), .val (.ref b93), .unset, .unset] [(.ref b93)]))
      refine own_st (fun _ kq_ => XS.iconst X98.here hx rfl (hb hby at_206) kq_) ?_
      show OwnG _ _ _ _ _ _ _ (T98.setTop (mkF m 207 #[.val (.int f1), .val (.int f2), .val (.int f3), .val (.int xx), .val (.int tt), .val (.int mo), .val (.int qI), .val (.int sel), .val (.int g1), .val (.int g2), .val (.int g3), .val (.int t1), .val (.int t2), .val (.int t3), .val (.int tr), .val (.int fq), .val (.ref b93), .unset, .unset] [(.int (1 : Int32)), (.ref b93)]))
      refine own_st (fun _ kq_ => XS.iloadN X98.here hx rfl (hb hby at_207) rfl kq_) ?_
      show OwnG _ _ _ _ _ _ _ (T98.setTop (mkF m 208 #[.val (.int f1), .val (.int f2), .val (.int f3), .val (.int xx), .val (.int tt), .val (.int mo), .val (.int qI), .val (.int sel), .val (.int g1), .val (.int g2), .val (.int g3), .val (.int t1), .val (.int t2), .val (.int t3), .val (.int tr), .val (.int fq), .val (.ref b93), .unset, .unset] [(.int f3), (.int (1 : Int32)), (.ref b93)]))
      refine own_st (fun _ kq_ => XS.iload X98.here hx rfl (hb hby at_208) rfl kq_) ?_
      show OwnG _ _ _ _ _ _ _ (T98.setTop (mkF m 210 #[.val (.int f1), .val (.int f2), .val (.int f3), .val (.int xx), .val (.int tt), .val (.int mo), .val (.int qI), .val (.int sel), .val (.int g1), .val (.int g2), .val (.int g3), .val (.int t1), .val (.int t2), .val (.int t3), .val (.int tr), .val (.int fq), .val (.ref b93), .unset, .unset] [(.int t3), (.int f3), (.int (1 : Int32)), (.ref b93)]))
      obtain ⟨cq100, kq100, q100a, q100b, q100c⟩ := isOf hZ rfl I98.1
      obtain ⟨_, _, ⟨T100, L100, k100, n100⟩, -, X100, ⟨Lc100, hQ100, l100, y100, z100⟩, st100⟩ := X98.virtualBack hx (y := (⟨"com/example/triptych/triptych/reasoning/Links", "addFeature", "(III)V"⟩ : MethodName)) (z := (⟨"com/example/triptych/triptych/reasoning/Links", "addFeature", "(III)V"⟩ : MethodName)) hown (mvT hZ (hw _ (List.mem_of_getElem? (i := 68) rfl))) (mvT hZ (hw _ (List.mem_of_getElem? (i := 69) rfl))) (notFace_of_selects (args := #[]) (mvT hZ (hw _ (List.mem_of_getElem? (i := 71) rfl)))) (mvT hZ (hw _ (List.mem_of_getElem? (i := 71) rfl))) (mvT hZ (hw _ (List.mem_of_getElem? (i := 70) rfl))) (by decide) (backOf (W := 0) (rm6 l Z a0 hw [] b93 A94 (own_ar (own_ao (own_ao (own_ao (fun _ _ => 0) 0) 1) 2) 0 0 (0 : Int32) (Int32.ofNat 0) xx tr) 1 0 (1 : Int32) f3 t3 1 none T98.heap n0 S98 (by decide) rfl (by decide) rfl I98 ga) hZ (hw _ (List.mem_of_getElem? (i := 72) rfl)) (hw _ (List.mem_of_getElem? (i := 2) rfl)) (by decide) (by decide)) q100a q100c (g := (mkF m 210 #[.val (.int f1), .val (.int f2), .val (.int f3), .val (.int xx), .val (.int tt), .val (.int mo), .val (.int qI), .val (.int sel), .val (.int g1), .val (.int g2), .val (.int g3), .val (.int t1), .val (.int t2), .val (.int t3), .val (.int tr), .val (.int fq), .val (.ref b93), .unset, .unset] [(.int t3), (.int f3), (.int (1 : Int32)), (.ref b93)])) rfl (by rw [hml]; rfl) (Steps.refl _) (argsL := [(.int (1 : Int32)), (.int f3), (.int t3)]) (rest := []) (lenOf (by decide +kernel : parseMethodDescriptor "(III)V" = some ⟨[.int, .int, .int], none⟩) rfl) rfl (by show 2 * 0 + _ ≤ _; exact Nat.le_of_eq rfl) (hb hby at_210) (fun _ _ => ⟨rfl, rfl, (by dsimp only [Pt.cells]; decide), (by dsimp only [Pt.slots]; decide)⟩)
      dsimp only [Pt.U, Pt.locs, Pt.cells, Pt.slots] at X100 l100 y100 z100 st100 hQ100
      subst l100 y100 z100
      obtain ⟨rfl, N100q, S100, I100⟩ := hQ100
      have N100 := Fr.app N98 N100q
      refine own_go st100 ?_
      show OwnG _ _ _ _ _ _ _ (T100.setTop (mkF m 213 #[.val (.int f1), .val (.int f2), .val (.int f3), .val (.int xx), .val (.int tt), .val (.int mo), .val (.int qI), .val (.int sel), .val (.int g1), .val (.int g2), .val (.int g3), .val (.int t1), .val (.int t2), .val (.int t3), .val (.int tr), .val (.int fq), .val (.ref b93), .unset, .unset] []))
      refine own_st (fun _ kq_ => XS.iload X100.here hx rfl (hb hby at_213) rfl kq_) ?_
      show OwnG _ _ _ _ _ _ _ (T100.setTop (mkF m 215 #[.val (.int f1), .val (.int f2), .val (.int f3), .val (.int xx), .val (.int tt), .val (.int mo), .val (.int qI), .val (.int sel), .val (.int g1), .val (.int g2), .val (.int g3), .val (.int t1), .val (.int t2), .val (.int t3), .val (.int tr), .val (.int fq), .val (.ref b93), .unset, .unset] [(.int g2)]))
      by_cases hg2 : g2 = (0 : Int32)
      · skip
        refine own_st (fun _ kq_ => XS.ifYes X100.here hx rfl (pc0 := 215) (pc' := 227) rfl (hb hby at_215) rfl ((if0 _ _).trans (teq hg2).1) (by decide) (by decide) kq_) ?_
        show OwnG _ _ _ _ _ _ _ (T100.setTop (mkF m 227 #[.val (.int f1), .val (.int f2), .val (.int f3), .val (.int xx), .val (.int tt), .val (.int mo), .val (.int qI), .val (.int sel), .val (.int g1), .val (.int g2), .val (.int g3), .val (.int t1), .val (.int t2), .val (.int t3), .val (.int tr), .val (.int fq), .val (.ref b93), .unset, .unset] []))
        exact own_b227 hx hZ hw hby hml hown hrt hlk f1 f2 f3 xx tt mo qI sel g1 g2 g3 t1 t2 t3 tr fq hq b93 A94 (own_af (own_ar (own_ao (own_ao (own_ao (fun _ _ => 0) 0) 1) 2) 0 0 (0 : Int32) (Int32.ofNat 0) xx tr) 1 1 (1 : Int32) (Int32.ofNat 1) f3 t3 none) 2 1 [] [(f3, t3)] (by rw [if_pos hg1, if_pos hg2]; rfl) (by rw [if_neg hg3]) n0 X100 rfl N100 S100 rfl ⟨1, by decide, rfl, rfl, rfl, rfl⟩ rfl I100
      · skip
        refine own_st (fun _ kq_ => XS.ifNo X100.here hx rfl (hb hby at_215) rfl ((if0 _ _).trans (feq hg2).1) kq_) ?_
        show OwnG _ _ _ _ _ _ _ (T100.setTop (mkF m 218 #[.val (.int f1), .val (.int f2), .val (.int f3), .val (.int xx), .val (.int tt), .val (.int mo), .val (.int qI), .val (.int sel), .val (.int g1), .val (.int g2), .val (.int g3), .val (.int t1), .val (.int t2), .val (.int t3), .val (.int tr), .val (.int fq), .val (.ref b93), .unset, .unset] []))
        refine own_st (fun _ kq_ => XS.aload X100.here hx rfl (hb hby at_218) rfl rfl kq_) ?_
        show OwnG _ _ _ _ _ _ _ (T100.setTop (mkF m 220 #[.val (.int f1), .val (.int f2), .val (.int f3), .val (.int xx), .val (.int tt), .val (.int mo), .val (.int qI), .val (.int sel), .val (.int g1), .val (.int g2), .val (.int g3), .val (.int t1), .val (.int t2), .val (.int t3), .val (.int tr), .val (.int fq), .val (.ref b93), .unset, .unset] [(.ref b93)]))
        refine own_st (fun _ kq_ => XS.iconst X100.here hx rfl (hb hby at_220) kq_) ?_
        show OwnG _ _ _ _ _ _ _ (T100.setTop (mkF m 221 #[.val (.int f1), .val (.int f2), .val (.int f3), .val (.int xx), .val (.int tt), .val (.int mo), .val (.int qI), .val (.int sel), .val (.int g1), .val (.int g2), .val (.int g3), .val (.int t1), .val (.int t2), .val (.int t3), .val (.int tr), .val (.int fq), .val (.ref b93), .unset, .unset] [(.int (0 : Int32)), (.ref b93)]))
        refine own_st (fun _ kq_ => XS.iloadN X100.here hx rfl (hb hby at_221) rfl kq_) ?_
        show OwnG _ _ _ _ _ _ _ (T100.setTop (mkF m 222 #[.val (.int f1), .val (.int f2), .val (.int f3), .val (.int xx), .val (.int tt), .val (.int mo), .val (.int qI), .val (.int sel), .val (.int g1), .val (.int g2), .val (.int g3), .val (.int t1), .val (.int t2), .val (.int t3), .val (.int tr), .val (.int fq), .val (.ref b93), .unset, .unset] [(.int f2), (.int (0 : Int32)), (.ref b93)]))
        refine own_st (fun _ kq_ => XS.iload X100.here hx rfl (hb hby at_222) rfl kq_) ?_
        show OwnG _ _ _ _ _ _ _ (T100.setTop (mkF m 224 #[.val (.int f1), .val (.int f2), .val (.int f3), .val (.int xx), .val (.int tt), .val (.int mo), .val (.int qI), .val (.int sel), .val (.int g1), .val (.int g2), .val (.int g3), .val (.int t1), .val (.int t2), .val (.int t3), .val (.int tr), .val (.int fq), .val (.ref b93), .unset, .unset] [(.int t2), (.int f2), (.int (0 : Int32)), (.ref b93)]))
        obtain ⟨cq101, kq101, q101a, q101b, q101c⟩ := isOf hZ rfl I100.1
        obtain ⟨_, _, ⟨T101, L101, k101, n101⟩, -, X101, ⟨Lc101, hQ101, l101, y101, z101⟩, st101⟩ := X100.virtualBack hx (y := (⟨"com/example/triptych/triptych/reasoning/Links", "addFeature", "(III)V"⟩ : MethodName)) (z := (⟨"com/example/triptych/triptych/reasoning/Links", "addFeature", "(III)V"⟩ : MethodName)) hown (mvT hZ (hw _ (List.mem_of_getElem? (i := 68) rfl))) (mvT hZ (hw _ (List.mem_of_getElem? (i := 69) rfl))) (notFace_of_selects (args := #[]) (mvT hZ (hw _ (List.mem_of_getElem? (i := 71) rfl)))) (mvT hZ (hw _ (List.mem_of_getElem? (i := 71) rfl))) (mvT hZ (hw _ (List.mem_of_getElem? (i := 70) rfl))) (by decide) (backOf (W := 0) (rm6 l Z a0 hw [] b93 A94 (own_af (own_ar (own_ao (own_ao (own_ao (fun _ _ => 0) 0) 1) 2) 0 0 (0 : Int32) (Int32.ofNat 0) xx tr) 1 1 (1 : Int32) (Int32.ofNat 1) f3 t3 none) 2 1 (0 : Int32) f2 t2 0 none T100.heap n0 S100 (by decide) rfl (by decide) rfl I100 ga) hZ (hw _ (List.mem_of_getElem? (i := 72) rfl)) (hw _ (List.mem_of_getElem? (i := 2) rfl)) (by decide) (by decide)) q101a q101c (g := (mkF m 224 #[.val (.int f1), .val (.int f2), .val (.int f3), .val (.int xx), .val (.int tt), .val (.int mo), .val (.int qI), .val (.int sel), .val (.int g1), .val (.int g2), .val (.int g3), .val (.int t1), .val (.int t2), .val (.int t3), .val (.int tr), .val (.int fq), .val (.ref b93), .unset, .unset] [(.int t2), (.int f2), (.int (0 : Int32)), (.ref b93)])) rfl (by rw [hml]; rfl) (Steps.refl _) (argsL := [(.int (0 : Int32)), (.int f2), (.int t2)]) (rest := []) (lenOf (by decide +kernel : parseMethodDescriptor "(III)V" = some ⟨[.int, .int, .int], none⟩) rfl) rfl (by show 2 * 0 + _ ≤ _; exact Nat.le_of_eq rfl) (hb hby at_224) (fun _ _ => ⟨rfl, rfl, (by dsimp only [Pt.cells]; decide), (by dsimp only [Pt.slots]; decide)⟩)
        dsimp only [Pt.U, Pt.locs, Pt.cells, Pt.slots] at X101 l101 y101 z101 st101 hQ101
        subst l101 y101 z101
        obtain ⟨rfl, N101q, S101, I101⟩ := hQ101
        have N101 := Fr.app N100 N101q
        refine own_go st101 ?_
        show OwnG _ _ _ _ _ _ _ (T101.setTop (mkF m 227 #[.val (.int f1), .val (.int f2), .val (.int f3), .val (.int xx), .val (.int tt), .val (.int mo), .val (.int qI), .val (.int sel), .val (.int g1), .val (.int g2), .val (.int g3), .val (.int t1), .val (.int t2), .val (.int t3), .val (.int tr), .val (.int fq), .val (.ref b93), .unset, .unset] []))
        exact own_b227 hx hZ hw hby hml hown hrt hlk f1 f2 f3 xx tt mo qI sel g1 g2 g3 t1 t2 t3 tr fq hq b93 A94 (own_af (own_af (own_ar (own_ao (own_ao (own_ao (fun _ _ => 0) 0) 1) 2) 0 0 (0 : Int32) (Int32.ofNat 0) xx tr) 1 1 (1 : Int32) (Int32.ofNat 1) f3 t3 none) 0 2 (0 : Int32) (Int32.ofNat 2) f2 t2 none) 3 1 [(f2, t2)] [(f3, t3)] (by rw [if_pos hg1, if_neg hg2]; rfl) (by rw [if_neg hg3]) n0 X101 rfl N101 S101 ⟨2, by decide, rfl, rfl, rfl, rfl⟩ ⟨1, by decide, rfl, rfl, rfl, rfl⟩ rfl I101
  · skip
    refine own_st (fun _ kq_ => XS.ifNo X98.here hx rfl (hb hby at_187) rfl ((if0 _ _).trans (feq hg1).1) kq_) ?_
    show OwnG _ _ _ _ _ _ _ (T98.setTop (mkF m 190 #[.val (.int f1), .val (.int f2), .val (.int f3), .val (.int xx), .val (.int tt), .val (.int mo), .val (.int qI), .val (.int sel), .val (.int g1), .val (.int g2), .val (.int g3), .val (.int t1), .val (.int t2), .val (.int t3), .val (.int tr), .val (.int fq), .val (.ref b93), .unset, .unset] []))
    refine own_st (fun _ kq_ => XS.aload X98.here hx rfl (hb hby at_190) rfl rfl kq_) ?_
    show OwnG _ _ _ _ _ _ _ (T98.setTop (mkF m 192 #[.val (.int f1), .val (.int f2), .val (.int f3), .val (.int xx), .val (.int tt), .val (.int mo), .val (.int qI), .val (.int sel), .val (.int g1), .val (.int g2), .val (.int g3), .val (.int t1), .val (.int t2), .val (.int t3), .val (.int tr), .val (.int fq), .val (.ref b93), .unset, .unset] [(.ref b93)]))
    refine own_st (fun _ kq_ => XS.iconst X98.here hx rfl (hb hby at_192) kq_) ?_
    show OwnG _ _ _ _ _ _ _ (T98.setTop (mkF m 193 #[.val (.int f1), .val (.int f2), .val (.int f3), .val (.int xx), .val (.int tt), .val (.int mo), .val (.int qI), .val (.int sel), .val (.int g1), .val (.int g2), .val (.int g3), .val (.int t1), .val (.int t2), .val (.int t3), .val (.int tr), .val (.int fq), .val (.ref b93), .unset, .unset] [(.int (0 : Int32)), (.ref b93)]))
    refine own_st (fun _ kq_ => XS.iloadN X98.here hx rfl (hb hby at_193) rfl kq_) ?_
    show OwnG _ _ _ _ _ _ _ (T98.setTop (mkF m 194 #[.val (.int f1), .val (.int f2), .val (.int f3), .val (.int xx), .val (.int tt), .val (.int mo), .val (.int qI), .val (.int sel), .val (.int g1), .val (.int g2), .val (.int g3), .val (.int t1), .val (.int t2), .val (.int t3), .val (.int tr), .val (.int fq), .val (.ref b93), .unset, .unset] [(.int f1), (.int (0 : Int32)), (.ref b93)]))
    refine own_st (fun _ kq_ => XS.iload X98.here hx rfl (hb hby at_194) rfl kq_) ?_
    show OwnG _ _ _ _ _ _ _ (T98.setTop (mkF m 196 #[.val (.int f1), .val (.int f2), .val (.int f3), .val (.int xx), .val (.int tt), .val (.int mo), .val (.int qI), .val (.int sel), .val (.int g1), .val (.int g2), .val (.int g3), .val (.int t1), .val (.int t2), .val (.int t3), .val (.int tr), .val (.int fq), .val (.ref b93), .unset, .unset] [(.int t1), (.int f1), (.int (0 : Int32)), (.ref b93)]))
    obtain ⟨cq102, kq102, q102a, q102b, q102c⟩ := isOf hZ rfl I98.1
    obtain ⟨_, _, ⟨T102, L102, k102, n102⟩, -, X102, ⟨Lc102, hQ102, l102, y102, z102⟩, st102⟩ := X98.virtualBack hx (y := (⟨"com/example/triptych/triptych/reasoning/Links", "addFeature", "(III)V"⟩ : MethodName)) (z := (⟨"com/example/triptych/triptych/reasoning/Links", "addFeature", "(III)V"⟩ : MethodName)) hown (mvT hZ (hw _ (List.mem_of_getElem? (i := 68) rfl))) (mvT hZ (hw _ (List.mem_of_getElem? (i := 69) rfl))) (notFace_of_selects (args := #[]) (mvT hZ (hw _ (List.mem_of_getElem? (i := 71) rfl)))) (mvT hZ (hw _ (List.mem_of_getElem? (i := 71) rfl))) (mvT hZ (hw _ (List.mem_of_getElem? (i := 70) rfl))) (by decide) (backOf (W := 0) (rm6 l Z a0 hw [] b93 A94 (own_ar (own_ao (own_ao (own_ao (fun _ _ => 0) 0) 1) 2) 0 0 (0 : Int32) (Int32.ofNat 0) xx tr) 1 0 (0 : Int32) f1 t1 0 none T98.heap n0 S98 (by decide) rfl (by decide) rfl I98 ga) hZ (hw _ (List.mem_of_getElem? (i := 72) rfl)) (hw _ (List.mem_of_getElem? (i := 2) rfl)) (by decide) (by decide)) q102a q102c (g := (mkF m 196 #[.val (.int f1), .val (.int f2), .val (.int f3), .val (.int xx), .val (.int tt), .val (.int mo), .val (.int qI), .val (.int sel), .val (.int g1), .val (.int g2), .val (.int g3), .val (.int t1), .val (.int t2), .val (.int t3), .val (.int tr), .val (.int fq), .val (.ref b93), .unset, .unset] [(.int t1), (.int f1), (.int (0 : Int32)), (.ref b93)])) rfl (by rw [hml]; rfl) (Steps.refl _) (argsL := [(.int (0 : Int32)), (.int f1), (.int t1)]) (rest := []) (lenOf (by decide +kernel : parseMethodDescriptor "(III)V" = some ⟨[.int, .int, .int], none⟩) rfl) rfl (by show 2 * 0 + _ ≤ _; exact Nat.le_of_eq rfl) (hb hby at_196) (fun _ _ => ⟨rfl, rfl, (by dsimp only [Pt.cells]; decide), (by dsimp only [Pt.slots]; decide)⟩)
    dsimp only [Pt.U, Pt.locs, Pt.cells, Pt.slots] at X102 l102 y102 z102 st102 hQ102
    subst l102 y102 z102
    obtain ⟨rfl, N102q, S102, I102⟩ := hQ102
    have N102 := Fr.app N98 N102q
    refine own_go st102 ?_
    show OwnG _ _ _ _ _ _ _ (T102.setTop (mkF m 199 #[.val (.int f1), .val (.int f2), .val (.int f3), .val (.int xx), .val (.int tt), .val (.int mo), .val (.int qI), .val (.int sel), .val (.int g1), .val (.int g2), .val (.int g3), .val (.int t1), .val (.int t2), .val (.int t3), .val (.int tr), .val (.int fq), .val (.ref b93), .unset, .unset] []))
    refine own_st (fun _ kq_ => XS.iload X102.here hx rfl (hb hby at_199) rfl kq_) ?_
    show OwnG _ _ _ _ _ _ _ (T102.setTop (mkF m 201 #[.val (.int f1), .val (.int f2), .val (.int f3), .val (.int xx), .val (.int tt), .val (.int mo), .val (.int qI), .val (.int sel), .val (.int g1), .val (.int g2), .val (.int g3), .val (.int t1), .val (.int t2), .val (.int t3), .val (.int tr), .val (.int fq), .val (.ref b93), .unset, .unset] [(.int g3)]))
    by_cases hg3 : g3 = (0 : Int32)
    · skip
      refine own_st (fun _ kq_ => XS.ifYes X102.here hx rfl (pc0 := 201) (pc' := 213) rfl (hb hby at_201) rfl ((if0 _ _).trans (teq hg3).1) (by decide) (by decide) kq_) ?_
      show OwnG _ _ _ _ _ _ _ (T102.setTop (mkF m 213 #[.val (.int f1), .val (.int f2), .val (.int f3), .val (.int xx), .val (.int tt), .val (.int mo), .val (.int qI), .val (.int sel), .val (.int g1), .val (.int g2), .val (.int g3), .val (.int t1), .val (.int t2), .val (.int t3), .val (.int tr), .val (.int fq), .val (.ref b93), .unset, .unset] []))
      refine own_st (fun _ kq_ => XS.iload X102.here hx rfl (hb hby at_213) rfl kq_) ?_
      show OwnG _ _ _ _ _ _ _ (T102.setTop (mkF m 215 #[.val (.int f1), .val (.int f2), .val (.int f3), .val (.int xx), .val (.int tt), .val (.int mo), .val (.int qI), .val (.int sel), .val (.int g1), .val (.int g2), .val (.int g3), .val (.int t1), .val (.int t2), .val (.int t3), .val (.int tr), .val (.int fq), .val (.ref b93), .unset, .unset] [(.int g2)]))
      by_cases hg2 : g2 = (0 : Int32)
      · skip
        refine own_st (fun _ kq_ => XS.ifYes X102.here hx rfl (pc0 := 215) (pc' := 227) rfl (hb hby at_215) rfl ((if0 _ _).trans (teq hg2).1) (by decide) (by decide) kq_) ?_
        show OwnG _ _ _ _ _ _ _ (T102.setTop (mkF m 227 #[.val (.int f1), .val (.int f2), .val (.int f3), .val (.int xx), .val (.int tt), .val (.int mo), .val (.int qI), .val (.int sel), .val (.int g1), .val (.int g2), .val (.int g3), .val (.int t1), .val (.int t2), .val (.int t3), .val (.int tr), .val (.int fq), .val (.ref b93), .unset, .unset] []))
        exact own_b227 hx hZ hw hby hml hown hrt hlk f1 f2 f3 xx tt mo qI sel g1 g2 g3 t1 t2 t3 tr fq hq b93 A94 (own_af (own_ar (own_ao (own_ao (own_ao (fun _ _ => 0) 0) 1) 2) 0 0 (0 : Int32) (Int32.ofNat 0) xx tr) 0 1 (0 : Int32) (Int32.ofNat 1) f1 t1 none) 2 1 [(f1, t1)] [] (by rw [if_neg hg1, if_pos hg2]; rfl) (by rw [if_pos hg3]) n0 X102 rfl N102 S102 ⟨1, by decide, rfl, rfl, rfl, rfl⟩ rfl rfl I102
      · skip
        refine own_st (fun _ kq_ => XS.ifNo X102.here hx rfl (hb hby at_215) rfl ((if0 _ _).trans (feq hg2).1) kq_) ?_
        show OwnG _ _ _ _ _ _ _ (T102.setTop (mkF m 218 #[.val (.int f1), .val (.int f2), .val (.int f3), .val (.int xx), .val (.int tt), .val (.int mo), .val (.int qI), .val (.int sel), .val (.int g1), .val (.int g2), .val (.int g3), .val (.int t1), .val (.int t2), .val (.int t3), .val (.int tr), .val (.int fq), .val (.ref b93), .unset, .unset] []))
        refine own_st (fun _ kq_ => XS.aload X102.here hx rfl (hb hby at_218) rfl rfl kq_) ?_
        show OwnG _ _ _ _ _ _ _ (T102.setTop (mkF m 220 #[.val (.int f1), .val (.int f2), .val (.int f3), .val (.int xx), .val (.int tt), .val (.int mo), .val (.int qI), .val (.int sel), .val (.int g1), .val (.int g2), .val (.int g3), .val (.int t1), .val (.int t2), .val (.int t3), .val (.int tr), .val (.int fq), .val (.ref b93), .unset, .unset] [(.ref b93)]))
        refine own_st (fun _ kq_ => XS.iconst X102.here hx rfl (hb hby at_220) kq_) ?_
        show OwnG _ _ _ _ _ _ _ (T102.setTop (mkF m 221 #[.val (.int f1), .val (.int f2), .val (.int f3), .val (.int xx), .val (.int tt), .val (.int mo), .val (.int qI), .val (.int sel), .val (.int g1), .val (.int g2), .val (.int g3), .val (.int t1), .val (.int t2), .val (.int t3), .val (.int tr), .val (.int fq), .val (.ref b93), .unset, .unset] [(.int (0 : Int32)), (.ref b93)]))
        refine own_st (fun _ kq_ => XS.iloadN X102.here hx rfl (hb hby at_221) rfl kq_) ?_
        show OwnG _ _ _ _ _ _ _ (T102.setTop (mkF m 222 #[.val (.int f1), .val (.int f2), .val (.int f3), .val (.int xx), .val (.int tt), .val (.int mo), .val (.int qI), .val (.int sel), .val (.int g1), .val (.int g2), .val (.int g3), .val (.int t1), .val (.int t2), .val (.int t3), .val (.int tr), .val (.int fq), .val (.ref b93), .unset, .unset] [(.int f2), (.int (0 : Int32)), (.ref b93)]))
        refine own_st (fun _ kq_ => XS.iload X102.here hx rfl (hb hby at_222) rfl kq_) ?_
        show OwnG _ _ _ _ _ _ _ (T102.setTop (mkF m 224 #[.val (.int f1), .val (.int f2), .val (.int f3), .val (.int xx), .val (.int tt), .val (.int mo), .val (.int qI), .val (.int sel), .val (.int g1), .val (.int g2), .val (.int g3), .val (.int t1), .val (.int t2), .val (.int t3), .val (.int tr), .val (.int fq), .val (.ref b93), .unset, .unset] [(.int t2), (.int f2), (.int (0 : Int32)), (.ref b93)]))
        obtain ⟨cq103, kq103, q103a, q103b, q103c⟩ := isOf hZ rfl I102.1
        obtain ⟨_, _, ⟨T103, L103, k103, n103⟩, -, X103, ⟨Lc103, hQ103, l103, y103, z103⟩, st103⟩ := X102.virtualBack hx (y := (⟨"com/example/triptych/triptych/reasoning/Links", "addFeature", "(III)V"⟩ : MethodName)) (z := (⟨"com/example/triptych/triptych/reasoning/Links", "addFeature", "(III)V"⟩ : MethodName)) hown (mvT hZ (hw _ (List.mem_of_getElem? (i := 68) rfl))) (mvT hZ (hw _ (List.mem_of_getElem? (i := 69) rfl))) (notFace_of_selects (args := #[]) (mvT hZ (hw _ (List.mem_of_getElem? (i := 71) rfl)))) (mvT hZ (hw _ (List.mem_of_getElem? (i := 71) rfl))) (mvT hZ (hw _ (List.mem_of_getElem? (i := 70) rfl))) (by decide) (backOf (W := 0) (rm6 l Z a0 hw [] b93 A94 (own_af (own_ar (own_ao (own_ao (own_ao (fun _ _ => 0) 0) 1) 2) 0 0 (0 : Int32) (Int32.ofNat 0) xx tr) 0 1 (0 : Int32) (Int32.ofNat 1) f1 t1 none) 2 1 (0 : Int32) f2 t2 0 (some 1) T102.heap n0 S102 (by decide) rfl (by decide) ⟨by decide, rfl⟩ I102 ga) hZ (hw _ (List.mem_of_getElem? (i := 72) rfl)) (hw _ (List.mem_of_getElem? (i := 2) rfl)) (by decide) (by decide)) q103a q103c (g := (mkF m 224 #[.val (.int f1), .val (.int f2), .val (.int f3), .val (.int xx), .val (.int tt), .val (.int mo), .val (.int qI), .val (.int sel), .val (.int g1), .val (.int g2), .val (.int g3), .val (.int t1), .val (.int t2), .val (.int t3), .val (.int tr), .val (.int fq), .val (.ref b93), .unset, .unset] [(.int t2), (.int f2), (.int (0 : Int32)), (.ref b93)])) rfl (by rw [hml]; rfl) (Steps.refl _) (argsL := [(.int (0 : Int32)), (.int f2), (.int t2)]) (rest := []) (lenOf (by decide +kernel : parseMethodDescriptor "(III)V" = some ⟨[.int, .int, .int], none⟩) rfl) rfl (by show 2 * 0 + _ ≤ _; exact Nat.le_of_eq rfl) (hb hby at_224) (fun _ _ => ⟨rfl, rfl, (by dsimp only [Pt.cells]; decide), (by dsimp only [Pt.slots]; decide)⟩)
        dsimp only [Pt.U, Pt.locs, Pt.cells, Pt.slots] at X103 l103 y103 z103 st103 hQ103
        subst l103 y103 z103
        obtain ⟨rfl, N103q, S103, I103⟩ := hQ103
        have N103 := Fr.app N102 N103q
        refine own_go st103 ?_
        show OwnG _ _ _ _ _ _ _ (T103.setTop (mkF m 227 #[.val (.int f1), .val (.int f2), .val (.int f3), .val (.int xx), .val (.int tt), .val (.int mo), .val (.int qI), .val (.int sel), .val (.int g1), .val (.int g2), .val (.int g3), .val (.int t1), .val (.int t2), .val (.int t3), .val (.int tr), .val (.int fq), .val (.ref b93), .unset, .unset] []))
        exact own_b227 hx hZ hw hby hml hown hrt hlk f1 f2 f3 xx tt mo qI sel g1 g2 g3 t1 t2 t3 tr fq hq b93 A94 (own_af (own_af (own_ar (own_ao (own_ao (own_ao (fun _ _ => 0) 0) 1) 2) 0 0 (0 : Int32) (Int32.ofNat 0) xx tr) 0 1 (0 : Int32) (Int32.ofNat 1) f1 t1 none) 0 2 (0 : Int32) (Int32.ofNat 2) f2 t2 (some 1)) 3 1 [(f1, t1), (f2, t2)] [] (by rw [if_neg hg1, if_neg hg2]; rfl) (by rw [if_pos hg3]) n0 X103 rfl N103 S103 ⟨1, by decide, rfl, rfl, rfl, ⟨2, by decide, rfl, rfl, rfl, rfl⟩⟩ rfl rfl I103
    · skip
      refine own_st (fun _ kq_ => XS.ifNo X102.here hx rfl (hb hby at_201) rfl ((if0 _ _).trans (feq hg3).1) kq_) ?_
      show OwnG _ _ _ _ _ _ _ (T102.setTop (mkF m 204 #[.val (.int f1), .val (.int f2), .val (.int f3), .val (.int xx), .val (.int tt), .val (.int mo), .val (.int qI), .val (.int sel), .val (.int g1), .val (.int g2), .val (.int g3), .val (.int t1), .val (.int t2), .val (.int t3), .val (.int tr), .val (.int fq), .val (.ref b93), .unset, .unset] []))
      refine own_st (fun _ kq_ => XS.aload X102.here hx rfl (hb hby at_204) rfl rfl kq_) ?_
      show OwnG _ _ _ _ _ _ _ (T102.setTop (mkF m 206 #[.val (.int f1), .val (.int f2), .val (.int f3), .val (.int xx), .val (.int tt), .val (.int mo), .val (.int qI), .val (.int sel), .val (.int g1), .val (.int g2), .val (.int g3), .val (.int t1), .val (.int t2), .val (.int t3), .val (.int tr), .val (.int fq), .val (.ref b93), .unset, .unset] [(.ref b93)]))
      refine own_st (fun _ kq_ => XS.iconst X102.here hx rfl (hb hby at_206) kq_) ?_
      show OwnG _ _ _ _ _ _ _ (T102.setTop (mkF m 207 #[.val (.int f1), .val (.int f2), .val (.int f3), .val (.int xx), .val (.int tt), .val (.int mo), .val (.int qI), .val (.int sel), .val (.int g1), .val (.int g2), .val (.int g3), .val (.int t1), .val (.int t2), .val (.int t3), .val (.int tr), .val (.int fq), .val (.ref b93), .unset, .unset] [(.int (1 : Int32)), (.ref b93)]))
      refine own_st (fun _ kq_ => XS.iloadN X102.here hx rfl (hb hby at_207) rfl kq_) ?_
      show OwnG _ _ _ _ _ _ _ (T102.setTop (mkF m 208 #[.val (.int f1), .val (.int f2), .val (.int f3), .val (.int xx), .val (.int tt), .val (.int mo), .val (.int qI), .val (.int sel), .val (.int g1), .val (.int g2), .val (.int g3), .val (.int t1), .val (.int t2), .val (.int t3), .val (.int tr), .val (.int fq), .val (.ref b93), .unset, .unset] [(.int f3), (.int (1 : Int32)), (.ref b93)]))
      refine own_st (fun _ kq_ => XS.iload X102.here hx rfl (hb hby at_208) rfl kq_) ?_
      show OwnG _ _ _ _ _ _ _ (T102.setTop (mkF m 210 #[.val (.int f1), .val (.int f2), .val (.int f3), .val (.int xx), .val (.int tt), .val (.int mo), .val (.int qI), .val (.int sel), .val (.int g1), .val (.int g2), .val (.int g3), .val (.int t1), .val (.int t2), .val (.int t3), .val (.int tr), .val (.int fq), .val (.ref b93), .unset, .unset] [(.int t3), (.int f3), (.int (1 : Int32)), (.ref b93)]))
      obtain ⟨cq104, kq104, q104a, q104b, q104c⟩ := isOf hZ rfl I102.1
      obtain ⟨_, _, ⟨T104, L104, k104, n104⟩, -, X104, ⟨Lc104, hQ104, l104, y104, z104⟩, st104⟩ := X102.virtualBack hx (y := (⟨"com/example/triptych/triptych/reasoning/Links", "addFeature", "(III)V"⟩ : MethodName)) (z := (⟨"com/example/triptych/triptych/reasoning/Links", "addFeature", "(III)V"⟩ : MethodName)) hown (mvT hZ (hw _ (List.mem_of_getElem? (i := 68) rfl))) (mvT hZ (hw _ (List.mem_of_getElem? (i := 69) rfl))) (notFace_of_selects (args := #[]) (mvT hZ (hw _ (List.mem_of_getElem? (i := 71) rfl)))) (mvT hZ (hw _ (List.mem_of_getElem? (i := 71) rfl))) (mvT hZ (hw _ (List.mem_of_getElem? (i := 70) rfl))) (by decide) (backOf (W := 0) (rm6 l Z a0 hw [] b93 A94 (own_af (own_ar (own_ao (own_ao (own_ao (fun _ _ => 0) 0) 1) 2) 0 0 (0 : Int32) (Int32.ofNat 0) xx tr) 0 1 (0 : Int32) (Int32.ofNat 1) f1 t1 none) 2 1 (1 : Int32) f3 t3 1 none T102.heap n0 S102 (by decide) rfl (by decide) rfl I102 ga) hZ (hw _ (List.mem_of_getElem? (i := 72) rfl)) (hw _ (List.mem_of_getElem? (i := 2) rfl)) (by decide) (by decide)) q104a q104c (g := (mkF m 210 #[.val (.int f1), .val (.int f2), .val (.int f3), .val (.int xx), .val (.int tt), .val (.int mo), .val (.int qI), .val (.int sel), .val (.int g1), .val (.int g2), .val (.int g3), .val (.int t1), .val (.int t2), .val (.int t3), .val (.int tr), .val (.int fq), .val (.ref b93), .unset, .unset] [(.int t3), (.int f3), (.int (1 : Int32)), (.ref b93)])) rfl (by rw [hml]; rfl) (Steps.refl _) (argsL := [(.int (1 : Int32)), (.int f3), (.int t3)]) (rest := []) (lenOf (by decide +kernel : parseMethodDescriptor "(III)V" = some ⟨[.int, .int, .int], none⟩) rfl) rfl (by show 2 * 0 + _ ≤ _; exact Nat.le_of_eq rfl) (hb hby at_210) (fun _ _ => ⟨rfl, rfl, (by dsimp only [Pt.cells]; decide), (by dsimp only [Pt.slots]; decide)⟩)
      dsimp only [Pt.U, Pt.locs, Pt.cells, Pt.slots] at X104 l104 y104 z104 st104 hQ104
      subst l104 y104 z104
      obtain ⟨rfl, N104q, S104, I104⟩ := hQ104
      have N104 := Fr.app N102 N104q
      refine own_go st104 ?_
      show OwnG _ _ _ _ _ _ _ (T104.setTop (mkF m 213 #[.val (.int f1), .val (.int f2), .val (.int f3), .val (.int xx), .val (.int tt), .val (.int mo), .val (.int qI), .val (.int sel), .val (.int g1), .val (.int g2), .val (.int g3), .val (.int t1), .val (.int t2), .val (.int t3), .val (.int tr), .val (.int fq), .val (.ref b93), .unset, .unset] []))
      refine own_st (fun _ kq_ => XS.iload X104.here hx rfl (hb hby at_213) rfl kq_) ?_
      show OwnG _ _ _ _ _ _ _ (T104.setTop (mkF m 215 #[.val (.int f1), .val (.int f2), .val (.int f3), .val (.int xx), .val (.int tt), .val (.int mo), .val (.int qI), .val (.int sel), .val (.int g1), .val (.int g2), .val (.int g3), .val (.int t1), .val (.int t2), .val (.int t3), .val (.int tr), .val (.int fq), .val (.ref b93), .unset, .unset] [(.int g2)]))
      by_cases hg2 : g2 = (0 : Int32)
      · skip
        refine own_st (fun _ kq_ => XS.ifYes X104.here hx rfl (pc0 := 215) (pc' := 227) rfl (hb hby at_215) rfl ((if0 _ _).trans (teq hg2).1) (by decide) (by decide) kq_) ?_
        show OwnG _ _ _ _ _ _ _ (T104.setTop (mkF m 227 #[.val (.int f1), .val (.int f2), .val (.int f3), .val (.int xx), .val (.int tt), .val (.int mo), .val (.int qI), .val (.int sel), .val (.int g1), .val (.int g2), .val (.int g3), .val (.int t1), .val (.int t2), .val (.int t3), .val (.int tr), .val (.int fq), .val (.ref b93), .unset, .unset] []))
        exact own_b227 hx hZ hw hby hml hown hrt hlk f1 f2 f3 xx tt mo qI sel g1 g2 g3 t1 t2 t3 tr fq hq b93 A94 (own_af (own_af (own_ar (own_ao (own_ao (own_ao (fun _ _ => 0) 0) 1) 2) 0 0 (0 : Int32) (Int32.ofNat 0) xx tr) 0 1 (0 : Int32) (Int32.ofNat 1) f1 t1 none) 1 2 (1 : Int32) (Int32.ofNat 2) f3 t3 none) 3 1 [(f1, t1)] [(f3, t3)] (by rw [if_neg hg1, if_pos hg2]; rfl) (by rw [if_neg hg3]) n0 X104 rfl N104 S104 ⟨1, by decide, rfl, rfl, rfl, rfl⟩ ⟨2, by decide, rfl, rfl, rfl, rfl⟩ rfl I104
      · skip
        refine own_st (fun _ kq_ => XS.ifNo X104.here hx rfl (hb hby at_215) rfl ((if0 _ _).trans (feq hg2).1) kq_) ?_
        show OwnG _ _ _ _ _ _ _ (T104.setTop (mkF m 218 #[.val (.int f1), .val (.int f2), .val (.int f3), .val (.int xx), .val (.int tt), .val (.int mo), .val (.int qI), .val (.int sel), .val (.int g1), .val (.int g2), .val (.int g3), .val (.int t1), .val (.int t2), .val (.int t3), .val (.int tr), .val (.int fq), .val (.ref b93), .unset, .unset] []))
        refine own_st (fun _ kq_ => XS.aload X104.here hx rfl (hb hby at_218) rfl rfl kq_) ?_
        show OwnG _ _ _ _ _ _ _ (T104.setTop (mkF m 220 #[.val (.int f1), .val (.int f2), .val (.int f3), .val (.int xx), .val (.int tt), .val (.int mo), .val (.int qI), .val (.int sel), .val (.int g1), .val (.int g2), .val (.int g3), .val (.int t1), .val (.int t2), .val (.int t3), .val (.int tr), .val (.int fq), .val (.ref b93), .unset, .unset] [(.ref b93)]))
        refine own_st (fun _ kq_ => XS.iconst X104.here hx rfl (hb hby at_220) kq_) ?_
        show OwnG _ _ _ _ _ _ _ (T104.setTop (mkF m 221 #[.val (.int f1), .val (.int f2), .val (.int f3), .val (.int xx), .val (.int tt), .val (.int mo), .val (.int qI), .val (.int sel), .val (.int g1), .val (.int g2), .val (.int g3), .val (.int t1), .val (.int t2), .val (.int t3), .val (.int tr), .val (.int fq), .val (.ref b93), .unset, .unset] [(.int (0 : Int32)), (.ref b93)]))
        refine own_st (fun _ kq_ => XS.iloadN X104.here hx rfl (hb hby at_221) rfl kq_) ?_
        show OwnG _ _ _ _ _ _ _ (T104.setTop (mkF m 222 #[.val (.int f1), .val (.int f2), .val (.int f3), .val (.int xx), .val (.int tt), .val (.int mo), .val (.int qI), .val (.int sel), .val (.int g1), .val (.int g2), .val (.int g3), .val (.int t1), .val (.int t2), .val (.int t3), .val (.int tr), .val (.int fq), .val (.ref b93), .unset, .unset] [(.int f2), (.int (0 : Int32)), (.ref b93)]))
        refine own_st (fun _ kq_ => XS.iload X104.here hx rfl (hb hby at_222) rfl kq_) ?_
        show OwnG _ _ _ _ _ _ _ (T104.setTop (mkF m 224 #[.val (.int f1), .val (.int f2), .val (.int f3), .val (.int xx), .val (.int tt), .val (.int mo), .val (.int qI), .val (.int sel), .val (.int g1), .val (.int g2), .val (.int g3), .val (.int t1), .val (.int t2), .val (.int t3), .val (.int tr), .val (.int fq), .val (.ref b93), .unset, .unset] [(.int t2), (.int f2), (.int (0 : Int32)), (.ref b93)]))
        obtain ⟨cq105, kq105, q105a, q105b, q105c⟩ := isOf hZ rfl I104.1
        obtain ⟨_, _, ⟨T105, L105, k105, n105⟩, -, X105, ⟨Lc105, hQ105, l105, y105, z105⟩, st105⟩ := X104.virtualBack hx (y := (⟨"com/example/triptych/triptych/reasoning/Links", "addFeature", "(III)V"⟩ : MethodName)) (z := (⟨"com/example/triptych/triptych/reasoning/Links", "addFeature", "(III)V"⟩ : MethodName)) hown (mvT hZ (hw _ (List.mem_of_getElem? (i := 68) rfl))) (mvT hZ (hw _ (List.mem_of_getElem? (i := 69) rfl))) (notFace_of_selects (args := #[]) (mvT hZ (hw _ (List.mem_of_getElem? (i := 71) rfl)))) (mvT hZ (hw _ (List.mem_of_getElem? (i := 71) rfl))) (mvT hZ (hw _ (List.mem_of_getElem? (i := 70) rfl))) (by decide) (backOf (W := 0) (rm6 l Z a0 hw [] b93 A94 (own_af (own_af (own_ar (own_ao (own_ao (own_ao (fun _ _ => 0) 0) 1) 2) 0 0 (0 : Int32) (Int32.ofNat 0) xx tr) 0 1 (0 : Int32) (Int32.ofNat 1) f1 t1 none) 1 2 (1 : Int32) (Int32.ofNat 2) f3 t3 none) 3 1 (0 : Int32) f2 t2 0 (some 1) T104.heap n0 S104 (by decide) rfl (by decide) ⟨by decide, rfl⟩ I104 ga) hZ (hw _ (List.mem_of_getElem? (i := 72) rfl)) (hw _ (List.mem_of_getElem? (i := 2) rfl)) (by decide) (by decide)) q105a q105c (g := (mkF m 224 #[.val (.int f1), .val (.int f2), .val (.int f3), .val (.int xx), .val (.int tt), .val (.int mo), .val (.int qI), .val (.int sel), .val (.int g1), .val (.int g2), .val (.int g3), .val (.int t1), .val (.int t2), .val (.int t3), .val (.int tr), .val (.int fq), .val (.ref b93), .unset, .unset] [(.int t2), (.int f2), (.int (0 : Int32)), (.ref b93)])) rfl (by rw [hml]; rfl) (Steps.refl _) (argsL := [(.int (0 : Int32)), (.int f2), (.int t2)]) (rest := []) (lenOf (by decide +kernel : parseMethodDescriptor "(III)V" = some ⟨[.int, .int, .int], none⟩) rfl) rfl (by show 2 * 0 + _ ≤ _; exact Nat.le_of_eq rfl) (hb hby at_224) (fun _ _ => ⟨rfl, rfl, (by dsimp only [Pt.cells]; decide), (by dsimp only [Pt.slots]; decide)⟩)
        dsimp only [Pt.U, Pt.locs, Pt.cells, Pt.slots] at X105 l105 y105 z105 st105 hQ105
        subst l105 y105 z105
        obtain ⟨rfl, N105q, S105, I105⟩ := hQ105
        have N105 := Fr.app N104 N105q
        refine own_go st105 ?_
        show OwnG _ _ _ _ _ _ _ (T105.setTop (mkF m 227 #[.val (.int f1), .val (.int f2), .val (.int f3), .val (.int xx), .val (.int tt), .val (.int mo), .val (.int qI), .val (.int sel), .val (.int g1), .val (.int g2), .val (.int g3), .val (.int t1), .val (.int t2), .val (.int t3), .val (.int tr), .val (.int fq), .val (.ref b93), .unset, .unset] []))
        exact own_b227 hx hZ hw hby hml hown hrt hlk f1 f2 f3 xx tt mo qI sel g1 g2 g3 t1 t2 t3 tr fq hq b93 A94 (own_af (own_af (own_af (own_ar (own_ao (own_ao (own_ao (fun _ _ => 0) 0) 1) 2) 0 0 (0 : Int32) (Int32.ofNat 0) xx tr) 0 1 (0 : Int32) (Int32.ofNat 1) f1 t1 none) 1 2 (1 : Int32) (Int32.ofNat 2) f3 t3 none) 0 3 (0 : Int32) (Int32.ofNat 3) f2 t2 (some 1)) 4 1 [(f1, t1), (f2, t2)] [(f3, t3)] (by rw [if_neg hg1, if_neg hg2]; rfl) (by rw [if_neg hg3]) n0 X105 rfl N105 S105 ⟨1, by decide, rfl, rfl, rfl, ⟨3, by decide, rfl, rfl, rfl, rfl⟩⟩ ⟨2, by decide, rfl, rfl, rfl, rfl⟩ rfl I105
set_option maxRecDepth 65536 in
set_option maxHeartbeats 40000000 in
theorem own_b70 {p : Program} {l : Launch} {e : Env} {s : State} {m : MethodId} {args : Array Value} {below : List Frame} {meth : Method} {c : Code} {Z : State} {a0 : Array Value} (hx : p.tables.exec = Jvm.exec) (hZ : Z.Warmed39 s.vm) (hw : ∀ d ∈ tables_1, d.before a0 Z = true) (hby : c.code = code) (hml : c.maxLocals = 19) (hown : s.vm.findClass "com/example/triptych/triptych/reasoning/LinksFeatureTargetPinLaw" = some m.cls) (hrt : meth.sig.returnType = ret) (hlk : meth.locks = false) (f1 f2 f3 xx tt mo : Int32) (qI sel g1 g2 g3 : Int32) (hq : qI = 0 ∨ qI = 1 ∨ qI = 2) (n0 : Nat) {hs0 : Heap} {T0 : State} {h0 : Heap} {locs : List Loc} (X0 : Stand p l e room_1 s m args below meth c T0 locs 0 0) (e0 : T0.heap = h0) (N0 : Fr n0 locs) (Z0 : n0 ≤ h0.size)  : OwnG 13 86 (Q0 Z f1 f2 f3 xx tt mo hs0 n0) p e below s (T0.setTop (mkF m 70 #[.val (.int f1), .val (.int f2), .val (.int f3), .val (.int xx), .val (.int tt), .val (.int mo), .val (.int qI), .val (.int sel), .val (.int g1), .val (.int g2), .unset, .unset, .unset, .unset, .unset, .unset, .unset, .unset, .unset] [(.int g3)])) := by
  refine own_st (fun _ kq_ => XS.istore X0.here hx rfl (hb hby at_70) rfl (l' := #[.val (.int f1), .val (.int f2), .val (.int f3), .val (.int xx), .val (.int tt), .val (.int mo), .val (.int qI), .val (.int sel), .val (.int g1), .val (.int g2), .val (.int g3), .unset, .unset, .unset, .unset, .unset, .unset, .unset, .unset]) rfl kq_) ?_
  show OwnG _ _ _ _ _ _ _ (T0.setTop (mkF m 72 #[.val (.int f1), .val (.int f2), .val (.int f3), .val (.int xx), .val (.int tt), .val (.int mo), .val (.int qI), .val (.int sel), .val (.int g1), .val (.int g2), .val (.int g3), .unset, .unset, .unset, .unset, .unset, .unset, .unset, .unset] []))
  refine own_st (fun _ kq_ => XS.iload X0.here hx rfl (hb hby at_72) rfl kq_) ?_
  show OwnG _ _ _ _ _ _ _ (T0.setTop (mkF m 74 #[.val (.int f1), .val (.int f2), .val (.int f3), .val (.int xx), .val (.int tt), .val (.int mo), .val (.int qI), .val (.int sel), .val (.int g1), .val (.int g2), .val (.int g3), .unset, .unset, .unset, .unset, .unset, .unset, .unset, .unset] [(.int tt)]))
  refine own_st (fun _ kq_ => XS.iconst X0.here hx rfl (hb hby at_74) kq_) ?_
  show OwnG _ _ _ _ _ _ _ (T0.setTop (mkF m 75 #[.val (.int f1), .val (.int f2), .val (.int f3), .val (.int xx), .val (.int tt), .val (.int mo), .val (.int qI), .val (.int sel), .val (.int g1), .val (.int g2), .val (.int g3), .unset, .unset, .unset, .unset, .unset, .unset, .unset, .unset] [(.int (3 : Int32)), (.int tt)]))
  refine own_st (fun _ kq_ => XS.iand X0.here hx rfl (hb hby at_75) rfl kq_) ?_
  show OwnG _ _ _ _ _ _ _ (T0.setTop (mkF m 76 #[.val (.int f1), .val (.int f2), .val (.int f3), .val (.int xx), .val (.int tt), .val (.int mo), .val (.int qI), .val (.int sel), .val (.int g1), .val (.int g2), .val (.int g3), .unset, .unset, .unset, .unset, .unset, .unset, .unset, .unset] [(.int (tt &&& (3 : Int32)))]))
  refine own_st (fun _ kq_ => XS.iconst X0.here hx rfl (hb hby at_76) kq_) ?_
  show OwnG _ _ _ _ _ _ _ (T0.setTop (mkF m 77 #[.val (.int f1), .val (.int f2), .val (.int f3), .val (.int xx), .val (.int tt), .val (.int mo), .val (.int qI), .val (.int sel), .val (.int g1), .val (.int g2), .val (.int g3), .unset, .unset, .unset, .unset, .unset, .unset, .unset, .unset] [(.int (3 : Int32)), (.int (tt &&& (3 : Int32)))]))
  refine own_st (fun _ kq_ => iremM X0 hx rfl (hb hby at_77) rfl (by decide) kq_) ?_
  show OwnG _ _ _ _ _ _ _ (T0.setTop (mkF m 78 #[.val (.int f1), .val (.int f2), .val (.int f3), .val (.int xx), .val (.int tt), .val (.int mo), .val (.int qI), .val (.int sel), .val (.int g1), .val (.int g2), .val (.int g3), .unset, .unset, .unset, .unset, .unset, .unset, .unset, .unset] [(.int ((tt &&& (3 : Int32)) % (3 : Int32)))]))
  refine own_st (fun _ kq_ => XS.istore X0.here hx rfl (hb hby at_78) rfl (l' := #[.val (.int f1), .val (.int f2), .val (.int f3), .val (.int xx), .val (.int tt), .val (.int mo), .val (.int qI), .val (.int sel), .val (.int g1), .val (.int g2), .val (.int g3), .val (.int ((tt &&& (3 : Int32)) % (3 : Int32))), .unset, .unset, .unset, .unset, .unset, .unset, .unset]) rfl kq_) ?_
  show OwnG _ _ _ _ _ _ _ (T0.setTop (mkF m 80 #[.val (.int f1), .val (.int f2), .val (.int f3), .val (.int xx), .val (.int tt), .val (.int mo), .val (.int qI), .val (.int sel), .val (.int g1), .val (.int g2), .val (.int g3), .val (.int ((tt &&& (3 : Int32)) % (3 : Int32))), .unset, .unset, .unset, .unset, .unset, .unset, .unset] []))
  refine own_st (fun _ kq_ => XS.iload X0.here hx rfl (hb hby at_80) rfl kq_) ?_
  show OwnG _ _ _ _ _ _ _ (T0.setTop (mkF m 82 #[.val (.int f1), .val (.int f2), .val (.int f3), .val (.int xx), .val (.int tt), .val (.int mo), .val (.int qI), .val (.int sel), .val (.int g1), .val (.int g2), .val (.int g3), .val (.int ((tt &&& (3 : Int32)) % (3 : Int32))), .unset, .unset, .unset, .unset, .unset, .unset, .unset] [(.int tt)]))
  refine own_st (fun _ kq_ => XS.iconst X0.here hx rfl (hb hby at_82) kq_) ?_
  show OwnG _ _ _ _ _ _ _ (T0.setTop (mkF m 83 #[.val (.int f1), .val (.int f2), .val (.int f3), .val (.int xx), .val (.int tt), .val (.int mo), .val (.int qI), .val (.int sel), .val (.int g1), .val (.int g2), .val (.int g3), .val (.int ((tt &&& (3 : Int32)) % (3 : Int32))), .unset, .unset, .unset, .unset, .unset, .unset, .unset] [(.int (2 : Int32)), (.int tt)]))
  refine own_st (fun _ kq_ => XS.iushr X0.here hx rfl (hb hby at_83) rfl kq_) ?_
  show OwnG _ _ _ _ _ _ _ (T0.setTop (mkF m 84 #[.val (.int f1), .val (.int f2), .val (.int f3), .val (.int xx), .val (.int tt), .val (.int mo), .val (.int qI), .val (.int sel), .val (.int g1), .val (.int g2), .val (.int g3), .val (.int ((tt &&& (3 : Int32)) % (3 : Int32))), .unset, .unset, .unset, .unset, .unset, .unset, .unset] [(.int ((tt.toUInt32 >>> ((2 : Int32) &&& 31).toUInt32).toInt32))]))
  refine own_st (fun _ kq_ => XS.iconst X0.here hx rfl (hb hby at_84) kq_) ?_
  show OwnG _ _ _ _ _ _ _ (T0.setTop (mkF m 85 #[.val (.int f1), .val (.int f2), .val (.int f3), .val (.int xx), .val (.int tt), .val (.int mo), .val (.int qI), .val (.int sel), .val (.int g1), .val (.int g2), .val (.int g3), .val (.int ((tt &&& (3 : Int32)) % (3 : Int32))), .unset, .unset, .unset, .unset, .unset, .unset, .unset] [(.int (3 : Int32)), (.int ((tt.toUInt32 >>> ((2 : Int32) &&& 31).toUInt32).toInt32))]))
  refine own_st (fun _ kq_ => XS.iand X0.here hx rfl (hb hby at_85) rfl kq_) ?_
  show OwnG _ _ _ _ _ _ _ (T0.setTop (mkF m 86 #[.val (.int f1), .val (.int f2), .val (.int f3), .val (.int xx), .val (.int tt), .val (.int mo), .val (.int qI), .val (.int sel), .val (.int g1), .val (.int g2), .val (.int g3), .val (.int ((tt &&& (3 : Int32)) % (3 : Int32))), .unset, .unset, .unset, .unset, .unset, .unset, .unset] [(.int (((tt.toUInt32 >>> ((2 : Int32) &&& 31).toUInt32).toInt32) &&& (3 : Int32)))]))
  refine own_st (fun _ kq_ => XS.iconst X0.here hx rfl (hb hby at_86) kq_) ?_
  show OwnG _ _ _ _ _ _ _ (T0.setTop (mkF m 87 #[.val (.int f1), .val (.int f2), .val (.int f3), .val (.int xx), .val (.int tt), .val (.int mo), .val (.int qI), .val (.int sel), .val (.int g1), .val (.int g2), .val (.int g3), .val (.int ((tt &&& (3 : Int32)) % (3 : Int32))), .unset, .unset, .unset, .unset, .unset, .unset, .unset] [(.int (3 : Int32)), (.int (((tt.toUInt32 >>> ((2 : Int32) &&& 31).toUInt32).toInt32) &&& (3 : Int32)))]))
  refine own_st (fun _ kq_ => iremM X0 hx rfl (hb hby at_87) rfl (by decide) kq_) ?_
  show OwnG _ _ _ _ _ _ _ (T0.setTop (mkF m 88 #[.val (.int f1), .val (.int f2), .val (.int f3), .val (.int xx), .val (.int tt), .val (.int mo), .val (.int qI), .val (.int sel), .val (.int g1), .val (.int g2), .val (.int g3), .val (.int ((tt &&& (3 : Int32)) % (3 : Int32))), .unset, .unset, .unset, .unset, .unset, .unset, .unset] [(.int ((((tt.toUInt32 >>> ((2 : Int32) &&& 31).toUInt32).toInt32) &&& (3 : Int32)) % (3 : Int32)))]))
  refine own_st (fun _ kq_ => XS.istore X0.here hx rfl (hb hby at_88) rfl (l' := #[.val (.int f1), .val (.int f2), .val (.int f3), .val (.int xx), .val (.int tt), .val (.int mo), .val (.int qI), .val (.int sel), .val (.int g1), .val (.int g2), .val (.int g3), .val (.int ((tt &&& (3 : Int32)) % (3 : Int32))), .val (.int ((((tt.toUInt32 >>> ((2 : Int32) &&& 31).toUInt32).toInt32) &&& (3 : Int32)) % (3 : Int32))), .unset, .unset, .unset, .unset, .unset, .unset]) rfl kq_) ?_
  show OwnG _ _ _ _ _ _ _ (T0.setTop (mkF m 90 #[.val (.int f1), .val (.int f2), .val (.int f3), .val (.int xx), .val (.int tt), .val (.int mo), .val (.int qI), .val (.int sel), .val (.int g1), .val (.int g2), .val (.int g3), .val (.int ((tt &&& (3 : Int32)) % (3 : Int32))), .val (.int ((((tt.toUInt32 >>> ((2 : Int32) &&& 31).toUInt32).toInt32) &&& (3 : Int32)) % (3 : Int32))), .unset, .unset, .unset, .unset, .unset, .unset] []))
  refine own_st (fun _ kq_ => XS.iload X0.here hx rfl (hb hby at_90) rfl kq_) ?_
  show OwnG _ _ _ _ _ _ _ (T0.setTop (mkF m 92 #[.val (.int f1), .val (.int f2), .val (.int f3), .val (.int xx), .val (.int tt), .val (.int mo), .val (.int qI), .val (.int sel), .val (.int g1), .val (.int g2), .val (.int g3), .val (.int ((tt &&& (3 : Int32)) % (3 : Int32))), .val (.int ((((tt.toUInt32 >>> ((2 : Int32) &&& 31).toUInt32).toInt32) &&& (3 : Int32)) % (3 : Int32))), .unset, .unset, .unset, .unset, .unset, .unset] [(.int tt)]))
  refine own_st (fun _ kq_ => XS.iconst X0.here hx rfl (hb hby at_92) kq_) ?_
  show OwnG _ _ _ _ _ _ _ (T0.setTop (mkF m 93 #[.val (.int f1), .val (.int f2), .val (.int f3), .val (.int xx), .val (.int tt), .val (.int mo), .val (.int qI), .val (.int sel), .val (.int g1), .val (.int g2), .val (.int g3), .val (.int ((tt &&& (3 : Int32)) % (3 : Int32))), .val (.int ((((tt.toUInt32 >>> ((2 : Int32) &&& 31).toUInt32).toInt32) &&& (3 : Int32)) % (3 : Int32))), .unset, .unset, .unset, .unset, .unset, .unset] [(.int (4 : Int32)), (.int tt)]))
  refine own_st (fun _ kq_ => XS.iushr X0.here hx rfl (hb hby at_93) rfl kq_) ?_
  show OwnG _ _ _ _ _ _ _ (T0.setTop (mkF m 94 #[.val (.int f1), .val (.int f2), .val (.int f3), .val (.int xx), .val (.int tt), .val (.int mo), .val (.int qI), .val (.int sel), .val (.int g1), .val (.int g2), .val (.int g3), .val (.int ((tt &&& (3 : Int32)) % (3 : Int32))), .val (.int ((((tt.toUInt32 >>> ((2 : Int32) &&& 31).toUInt32).toInt32) &&& (3 : Int32)) % (3 : Int32))), .unset, .unset, .unset, .unset, .unset, .unset] [(.int ((tt.toUInt32 >>> ((4 : Int32) &&& 31).toUInt32).toInt32))]))
  refine own_st (fun _ kq_ => XS.iconst X0.here hx rfl (hb hby at_94) kq_) ?_
  show OwnG _ _ _ _ _ _ _ (T0.setTop (mkF m 95 #[.val (.int f1), .val (.int f2), .val (.int f3), .val (.int xx), .val (.int tt), .val (.int mo), .val (.int qI), .val (.int sel), .val (.int g1), .val (.int g2), .val (.int g3), .val (.int ((tt &&& (3 : Int32)) % (3 : Int32))), .val (.int ((((tt.toUInt32 >>> ((2 : Int32) &&& 31).toUInt32).toInt32) &&& (3 : Int32)) % (3 : Int32))), .unset, .unset, .unset, .unset, .unset, .unset] [(.int (3 : Int32)), (.int ((tt.toUInt32 >>> ((4 : Int32) &&& 31).toUInt32).toInt32))]))
  refine own_st (fun _ kq_ => XS.iand X0.here hx rfl (hb hby at_95) rfl kq_) ?_
  show OwnG _ _ _ _ _ _ _ (T0.setTop (mkF m 96 #[.val (.int f1), .val (.int f2), .val (.int f3), .val (.int xx), .val (.int tt), .val (.int mo), .val (.int qI), .val (.int sel), .val (.int g1), .val (.int g2), .val (.int g3), .val (.int ((tt &&& (3 : Int32)) % (3 : Int32))), .val (.int ((((tt.toUInt32 >>> ((2 : Int32) &&& 31).toUInt32).toInt32) &&& (3 : Int32)) % (3 : Int32))), .unset, .unset, .unset, .unset, .unset, .unset] [(.int (((tt.toUInt32 >>> ((4 : Int32) &&& 31).toUInt32).toInt32) &&& (3 : Int32)))]))
  refine own_st (fun _ kq_ => XS.iconst X0.here hx rfl (hb hby at_96) kq_) ?_
  show OwnG _ _ _ _ _ _ _ (T0.setTop (mkF m 97 #[.val (.int f1), .val (.int f2), .val (.int f3), .val (.int xx), .val (.int tt), .val (.int mo), .val (.int qI), .val (.int sel), .val (.int g1), .val (.int g2), .val (.int g3), .val (.int ((tt &&& (3 : Int32)) % (3 : Int32))), .val (.int ((((tt.toUInt32 >>> ((2 : Int32) &&& 31).toUInt32).toInt32) &&& (3 : Int32)) % (3 : Int32))), .unset, .unset, .unset, .unset, .unset, .unset] [(.int (3 : Int32)), (.int (((tt.toUInt32 >>> ((4 : Int32) &&& 31).toUInt32).toInt32) &&& (3 : Int32)))]))
  refine own_st (fun _ kq_ => iremM X0 hx rfl (hb hby at_97) rfl (by decide) kq_) ?_
  show OwnG _ _ _ _ _ _ _ (T0.setTop (mkF m 98 #[.val (.int f1), .val (.int f2), .val (.int f3), .val (.int xx), .val (.int tt), .val (.int mo), .val (.int qI), .val (.int sel), .val (.int g1), .val (.int g2), .val (.int g3), .val (.int ((tt &&& (3 : Int32)) % (3 : Int32))), .val (.int ((((tt.toUInt32 >>> ((2 : Int32) &&& 31).toUInt32).toInt32) &&& (3 : Int32)) % (3 : Int32))), .unset, .unset, .unset, .unset, .unset, .unset] [(.int ((((tt.toUInt32 >>> ((4 : Int32) &&& 31).toUInt32).toInt32) &&& (3 : Int32)) % (3 : Int32)))]))
  refine own_st (fun _ kq_ => XS.istore X0.here hx rfl (hb hby at_98) rfl (l' := #[.val (.int f1), .val (.int f2), .val (.int f3), .val (.int xx), .val (.int tt), .val (.int mo), .val (.int qI), .val (.int sel), .val (.int g1), .val (.int g2), .val (.int g3), .val (.int ((tt &&& (3 : Int32)) % (3 : Int32))), .val (.int ((((tt.toUInt32 >>> ((2 : Int32) &&& 31).toUInt32).toInt32) &&& (3 : Int32)) % (3 : Int32))), .val (.int ((((tt.toUInt32 >>> ((4 : Int32) &&& 31).toUInt32).toInt32) &&& (3 : Int32)) % (3 : Int32))), .unset, .unset, .unset, .unset, .unset]) rfl kq_) ?_
  show OwnG _ _ _ _ _ _ _ (T0.setTop (mkF m 100 #[.val (.int f1), .val (.int f2), .val (.int f3), .val (.int xx), .val (.int tt), .val (.int mo), .val (.int qI), .val (.int sel), .val (.int g1), .val (.int g2), .val (.int g3), .val (.int ((tt &&& (3 : Int32)) % (3 : Int32))), .val (.int ((((tt.toUInt32 >>> ((2 : Int32) &&& 31).toUInt32).toInt32) &&& (3 : Int32)) % (3 : Int32))), .val (.int ((((tt.toUInt32 >>> ((4 : Int32) &&& 31).toUInt32).toInt32) &&& (3 : Int32)) % (3 : Int32))), .unset, .unset, .unset, .unset, .unset] []))
  refine own_st (fun _ kq_ => XS.iload X0.here hx rfl (hb hby at_100) rfl kq_) ?_
  show OwnG _ _ _ _ _ _ _ (T0.setTop (mkF m 102 #[.val (.int f1), .val (.int f2), .val (.int f3), .val (.int xx), .val (.int tt), .val (.int mo), .val (.int qI), .val (.int sel), .val (.int g1), .val (.int g2), .val (.int g3), .val (.int ((tt &&& (3 : Int32)) % (3 : Int32))), .val (.int ((((tt.toUInt32 >>> ((2 : Int32) &&& 31).toUInt32).toInt32) &&& (3 : Int32)) % (3 : Int32))), .val (.int ((((tt.toUInt32 >>> ((4 : Int32) &&& 31).toUInt32).toInt32) &&& (3 : Int32)) % (3 : Int32))), .unset, .unset, .unset, .unset, .unset] [(.int tt)]))
  refine own_st (fun _ kq_ => XS.bipush X0.here hx rfl (hb hby at_102) kq_) ?_
  show OwnG _ _ _ _ _ _ _ (T0.setTop (mkF m 104 #[.val (.int f1), .val (.int f2), .val (.int f3), .val (.int xx), .val (.int tt), .val (.int mo), .val (.int qI), .val (.int sel), .val (.int g1), .val (.int g2), .val (.int g3), .val (.int ((tt &&& (3 : Int32)) % (3 : Int32))), .val (.int ((((tt.toUInt32 >>> ((2 : Int32) &&& 31).toUInt32).toInt32) &&& (3 : Int32)) % (3 : Int32))), .val (.int ((((tt.toUInt32 >>> ((4 : Int32) &&& 31).toUInt32).toInt32) &&& (3 : Int32)) % (3 : Int32))), .unset, .unset, .unset, .unset, .unset] [(.int (6 : Int32)), (.int tt)]))
  refine own_st (fun _ kq_ => XS.iushr X0.here hx rfl (hb hby at_104) rfl kq_) ?_
  show OwnG _ _ _ _ _ _ _ (T0.setTop (mkF m 105 #[.val (.int f1), .val (.int f2), .val (.int f3), .val (.int xx), .val (.int tt), .val (.int mo), .val (.int qI), .val (.int sel), .val (.int g1), .val (.int g2), .val (.int g3), .val (.int ((tt &&& (3 : Int32)) % (3 : Int32))), .val (.int ((((tt.toUInt32 >>> ((2 : Int32) &&& 31).toUInt32).toInt32) &&& (3 : Int32)) % (3 : Int32))), .val (.int ((((tt.toUInt32 >>> ((4 : Int32) &&& 31).toUInt32).toInt32) &&& (3 : Int32)) % (3 : Int32))), .unset, .unset, .unset, .unset, .unset] [(.int ((tt.toUInt32 >>> ((6 : Int32) &&& 31).toUInt32).toInt32))]))
  refine own_st (fun _ kq_ => XS.iconst X0.here hx rfl (hb hby at_105) kq_) ?_
  show OwnG _ _ _ _ _ _ _ (T0.setTop (mkF m 106 #[.val (.int f1), .val (.int f2), .val (.int f3), .val (.int xx), .val (.int tt), .val (.int mo), .val (.int qI), .val (.int sel), .val (.int g1), .val (.int g2), .val (.int g3), .val (.int ((tt &&& (3 : Int32)) % (3 : Int32))), .val (.int ((((tt.toUInt32 >>> ((2 : Int32) &&& 31).toUInt32).toInt32) &&& (3 : Int32)) % (3 : Int32))), .val (.int ((((tt.toUInt32 >>> ((4 : Int32) &&& 31).toUInt32).toInt32) &&& (3 : Int32)) % (3 : Int32))), .unset, .unset, .unset, .unset, .unset] [(.int (3 : Int32)), (.int ((tt.toUInt32 >>> ((6 : Int32) &&& 31).toUInt32).toInt32))]))
  refine own_st (fun _ kq_ => XS.iand X0.here hx rfl (hb hby at_106) rfl kq_) ?_
  show OwnG _ _ _ _ _ _ _ (T0.setTop (mkF m 107 #[.val (.int f1), .val (.int f2), .val (.int f3), .val (.int xx), .val (.int tt), .val (.int mo), .val (.int qI), .val (.int sel), .val (.int g1), .val (.int g2), .val (.int g3), .val (.int ((tt &&& (3 : Int32)) % (3 : Int32))), .val (.int ((((tt.toUInt32 >>> ((2 : Int32) &&& 31).toUInt32).toInt32) &&& (3 : Int32)) % (3 : Int32))), .val (.int ((((tt.toUInt32 >>> ((4 : Int32) &&& 31).toUInt32).toInt32) &&& (3 : Int32)) % (3 : Int32))), .unset, .unset, .unset, .unset, .unset] [(.int (((tt.toUInt32 >>> ((6 : Int32) &&& 31).toUInt32).toInt32) &&& (3 : Int32)))]))
  refine own_st (fun _ kq_ => XS.iconst X0.here hx rfl (hb hby at_107) kq_) ?_
  show OwnG _ _ _ _ _ _ _ (T0.setTop (mkF m 108 #[.val (.int f1), .val (.int f2), .val (.int f3), .val (.int xx), .val (.int tt), .val (.int mo), .val (.int qI), .val (.int sel), .val (.int g1), .val (.int g2), .val (.int g3), .val (.int ((tt &&& (3 : Int32)) % (3 : Int32))), .val (.int ((((tt.toUInt32 >>> ((2 : Int32) &&& 31).toUInt32).toInt32) &&& (3 : Int32)) % (3 : Int32))), .val (.int ((((tt.toUInt32 >>> ((4 : Int32) &&& 31).toUInt32).toInt32) &&& (3 : Int32)) % (3 : Int32))), .unset, .unset, .unset, .unset, .unset] [(.int (3 : Int32)), (.int (((tt.toUInt32 >>> ((6 : Int32) &&& 31).toUInt32).toInt32) &&& (3 : Int32)))]))
  refine own_st (fun _ kq_ => iremM X0 hx rfl (hb hby at_108) rfl (by decide) kq_) ?_
  show OwnG _ _ _ _ _ _ _ (T0.setTop (mkF m 109 #[.val (.int f1), .val (.int f2), .val (.int f3), .val (.int xx), .val (.int tt), .val (.int mo), .val (.int qI), .val (.int sel), .val (.int g1), .val (.int g2), .val (.int g3), .val (.int ((tt &&& (3 : Int32)) % (3 : Int32))), .val (.int ((((tt.toUInt32 >>> ((2 : Int32) &&& 31).toUInt32).toInt32) &&& (3 : Int32)) % (3 : Int32))), .val (.int ((((tt.toUInt32 >>> ((4 : Int32) &&& 31).toUInt32).toInt32) &&& (3 : Int32)) % (3 : Int32))), .unset, .unset, .unset, .unset, .unset] [(.int ((((tt.toUInt32 >>> ((6 : Int32) &&& 31).toUInt32).toInt32) &&& (3 : Int32)) % (3 : Int32)))]))
  refine own_st (fun _ kq_ => XS.istore X0.here hx rfl (hb hby at_109) rfl (l' := #[.val (.int f1), .val (.int f2), .val (.int f3), .val (.int xx), .val (.int tt), .val (.int mo), .val (.int qI), .val (.int sel), .val (.int g1), .val (.int g2), .val (.int g3), .val (.int ((tt &&& (3 : Int32)) % (3 : Int32))), .val (.int ((((tt.toUInt32 >>> ((2 : Int32) &&& 31).toUInt32).toInt32) &&& (3 : Int32)) % (3 : Int32))), .val (.int ((((tt.toUInt32 >>> ((4 : Int32) &&& 31).toUInt32).toInt32) &&& (3 : Int32)) % (3 : Int32))), .val (.int ((((tt.toUInt32 >>> ((6 : Int32) &&& 31).toUInt32).toInt32) &&& (3 : Int32)) % (3 : Int32))), .unset, .unset, .unset, .unset]) rfl kq_) ?_
  show OwnG _ _ _ _ _ _ _ (T0.setTop (mkF m 111 #[.val (.int f1), .val (.int f2), .val (.int f3), .val (.int xx), .val (.int tt), .val (.int mo), .val (.int qI), .val (.int sel), .val (.int g1), .val (.int g2), .val (.int g3), .val (.int ((tt &&& (3 : Int32)) % (3 : Int32))), .val (.int ((((tt.toUInt32 >>> ((2 : Int32) &&& 31).toUInt32).toInt32) &&& (3 : Int32)) % (3 : Int32))), .val (.int ((((tt.toUInt32 >>> ((4 : Int32) &&& 31).toUInt32).toInt32) &&& (3 : Int32)) % (3 : Int32))), .val (.int ((((tt.toUInt32 >>> ((6 : Int32) &&& 31).toUInt32).toInt32) &&& (3 : Int32)) % (3 : Int32))), .unset, .unset, .unset, .unset] []))
  refine own_st (fun _ kq_ => XS.iload X0.here hx rfl (hb hby at_111) rfl kq_) ?_
  show OwnG _ _ _ _ _ _ _ (T0.setTop (mkF m 113 #[.val (.int f1), .val (.int f2), .val (.int f3), .val (.int xx), .val (.int tt), .val (.int mo), .val (.int qI), .val (.int sel), .val (.int g1), .val (.int g2), .val (.int g3), .val (.int ((tt &&& (3 : Int32)) % (3 : Int32))), .val (.int ((((tt.toUInt32 >>> ((2 : Int32) &&& 31).toUInt32).toInt32) &&& (3 : Int32)) % (3 : Int32))), .val (.int ((((tt.toUInt32 >>> ((4 : Int32) &&& 31).toUInt32).toInt32) &&& (3 : Int32)) % (3 : Int32))), .val (.int ((((tt.toUInt32 >>> ((6 : Int32) &&& 31).toUInt32).toInt32) &&& (3 : Int32)) % (3 : Int32))), .unset, .unset, .unset, .unset] [(.int sel)]))
  by_cases h113 : sel = (0 : Int32)
  · skip
    refine own_st (fun _ kq_ => XS.ifNo X0.here hx rfl (hb hby at_113) rfl ((if0 _ _).trans (teq h113).2) kq_) ?_
    show OwnG _ _ _ _ _ _ _ (T0.setTop (mkF m 116 #[.val (.int f1), .val (.int f2), .val (.int f3), .val (.int xx), .val (.int tt), .val (.int mo), .val (.int qI), .val (.int sel), .val (.int g1), .val (.int g2), .val (.int g3), .val (.int ((tt &&& (3 : Int32)) % (3 : Int32))), .val (.int ((((tt.toUInt32 >>> ((2 : Int32) &&& 31).toUInt32).toInt32) &&& (3 : Int32)) % (3 : Int32))), .val (.int ((((tt.toUInt32 >>> ((4 : Int32) &&& 31).toUInt32).toInt32) &&& (3 : Int32)) % (3 : Int32))), .val (.int ((((tt.toUInt32 >>> ((6 : Int32) &&& 31).toUInt32).toInt32) &&& (3 : Int32)) % (3 : Int32))), .unset, .unset, .unset, .unset] []))
    refine own_st (fun _ kq_ => XS.iloadN X0.here hx rfl (hb hby at_116) rfl kq_) ?_
    show OwnG _ _ _ _ _ _ _ (T0.setTop (mkF m 117 #[.val (.int f1), .val (.int f2), .val (.int f3), .val (.int xx), .val (.int tt), .val (.int mo), .val (.int qI), .val (.int sel), .val (.int g1), .val (.int g2), .val (.int g3), .val (.int ((tt &&& (3 : Int32)) % (3 : Int32))), .val (.int ((((tt.toUInt32 >>> ((2 : Int32) &&& 31).toUInt32).toInt32) &&& (3 : Int32)) % (3 : Int32))), .val (.int ((((tt.toUInt32 >>> ((4 : Int32) &&& 31).toUInt32).toInt32) &&& (3 : Int32)) % (3 : Int32))), .val (.int ((((tt.toUInt32 >>> ((6 : Int32) &&& 31).toUInt32).toInt32) &&& (3 : Int32)) % (3 : Int32))), .unset, .unset, .unset, .unset] [(.int f1)]))
    refine own_st (fun _ kq_ => XS.istore X0.here hx rfl (hb hby at_117) rfl (l' := #[.val (.int f1), .val (.int f2), .val (.int f3), .val (.int xx), .val (.int tt), .val (.int mo), .val (.int qI), .val (.int sel), .val (.int g1), .val (.int g2), .val (.int g3), .val (.int ((tt &&& (3 : Int32)) % (3 : Int32))), .val (.int ((((tt.toUInt32 >>> ((2 : Int32) &&& 31).toUInt32).toInt32) &&& (3 : Int32)) % (3 : Int32))), .val (.int ((((tt.toUInt32 >>> ((4 : Int32) &&& 31).toUInt32).toInt32) &&& (3 : Int32)) % (3 : Int32))), .val (.int ((((tt.toUInt32 >>> ((6 : Int32) &&& 31).toUInt32).toInt32) &&& (3 : Int32)) % (3 : Int32))), .val (.int f1), .unset, .unset, .unset]) rfl kq_) ?_
    show OwnG _ _ _ _ _ _ _ (T0.setTop (mkF m 119 #[.val (.int f1), .val (.int f2), .val (.int f3), .val (.int xx), .val (.int tt), .val (.int mo), .val (.int qI), .val (.int sel), .val (.int g1), .val (.int g2), .val (.int g3), .val (.int ((tt &&& (3 : Int32)) % (3 : Int32))), .val (.int ((((tt.toUInt32 >>> ((2 : Int32) &&& 31).toUInt32).toInt32) &&& (3 : Int32)) % (3 : Int32))), .val (.int ((((tt.toUInt32 >>> ((4 : Int32) &&& 31).toUInt32).toInt32) &&& (3 : Int32)) % (3 : Int32))), .val (.int ((((tt.toUInt32 >>> ((6 : Int32) &&& 31).toUInt32).toInt32) &&& (3 : Int32)) % (3 : Int32))), .val (.int f1), .unset, .unset, .unset] []))
    refine own_st (fun _ kq_ => XS.goto X0.here hx rfl (pc0 := 119) (pc' := 149) rfl (hb hby at_119) (by decide) (by decide) kq_) ?_
    show OwnG _ _ _ _ _ _ _ (T0.setTop (mkF m 149 #[.val (.int f1), .val (.int f2), .val (.int f3), .val (.int xx), .val (.int tt), .val (.int mo), .val (.int qI), .val (.int sel), .val (.int g1), .val (.int g2), .val (.int g3), .val (.int ((tt &&& (3 : Int32)) % (3 : Int32))), .val (.int ((((tt.toUInt32 >>> ((2 : Int32) &&& 31).toUInt32).toInt32) &&& (3 : Int32)) % (3 : Int32))), .val (.int ((((tt.toUInt32 >>> ((4 : Int32) &&& 31).toUInt32).toInt32) &&& (3 : Int32)) % (3 : Int32))), .val (.int ((((tt.toUInt32 >>> ((6 : Int32) &&& 31).toUInt32).toInt32) &&& (3 : Int32)) % (3 : Int32))), .val (.int f1), .unset, .unset, .unset] []))
    exact own_b149 hx hZ hw hby hml hown hrt hlk f1 f2 f3 xx tt mo qI sel g1 g2 g3 ((tt &&& (3 : Int32)) % (3 : Int32)) ((((tt.toUInt32 >>> ((2 : Int32) &&& 31).toUInt32).toInt32) &&& (3 : Int32)) % (3 : Int32)) ((((tt.toUInt32 >>> ((4 : Int32) &&& 31).toUInt32).toInt32) &&& (3 : Int32)) % (3 : Int32)) ((((tt.toUInt32 >>> ((6 : Int32) &&& 31).toUInt32).toInt32) &&& (3 : Int32)) % (3 : Int32)) f1 hq n0 X0 e0 N0 Z0
  · skip
    refine own_st (fun _ kq_ => XS.ifYes X0.here hx rfl (pc0 := 113) (pc' := 122) rfl (hb hby at_113) rfl ((if0 _ _).trans (feq h113).2) (by decide) (by decide) kq_) ?_
    show OwnG _ _ _ _ _ _ _ (T0.setTop (mkF m 122 #[.val (.int f1), .val (.int f2), .val (.int f3), .val (.int xx), .val (.int tt), .val (.int mo), .val (.int qI), .val (.int sel), .val (.int g1), .val (.int g2), .val (.int g3), .val (.int ((tt &&& (3 : Int32)) % (3 : Int32))), .val (.int ((((tt.toUInt32 >>> ((2 : Int32) &&& 31).toUInt32).toInt32) &&& (3 : Int32)) % (3 : Int32))), .val (.int ((((tt.toUInt32 >>> ((4 : Int32) &&& 31).toUInt32).toInt32) &&& (3 : Int32)) % (3 : Int32))), .val (.int ((((tt.toUInt32 >>> ((6 : Int32) &&& 31).toUInt32).toInt32) &&& (3 : Int32)) % (3 : Int32))), .unset, .unset, .unset, .unset] []))
    refine own_st (fun _ kq_ => XS.iload X0.here hx rfl (hb hby at_122) rfl kq_) ?_
    show OwnG _ _ _ _ _ _ _ (T0.setTop (mkF m 124 #[.val (.int f1), .val (.int f2), .val (.int f3), .val (.int xx), .val (.int tt), .val (.int mo), .val (.int qI), .val (.int sel), .val (.int g1), .val (.int g2), .val (.int g3), .val (.int ((tt &&& (3 : Int32)) % (3 : Int32))), .val (.int ((((tt.toUInt32 >>> ((2 : Int32) &&& 31).toUInt32).toInt32) &&& (3 : Int32)) % (3 : Int32))), .val (.int ((((tt.toUInt32 >>> ((4 : Int32) &&& 31).toUInt32).toInt32) &&& (3 : Int32)) % (3 : Int32))), .val (.int ((((tt.toUInt32 >>> ((6 : Int32) &&& 31).toUInt32).toInt32) &&& (3 : Int32)) % (3 : Int32))), .unset, .unset, .unset, .unset] [(.int sel)]))
    refine own_st (fun _ kq_ => XS.iconst X0.here hx rfl (hb hby at_124) kq_) ?_
    show OwnG _ _ _ _ _ _ _ (T0.setTop (mkF m 125 #[.val (.int f1), .val (.int f2), .val (.int f3), .val (.int xx), .val (.int tt), .val (.int mo), .val (.int qI), .val (.int sel), .val (.int g1), .val (.int g2), .val (.int g3), .val (.int ((tt &&& (3 : Int32)) % (3 : Int32))), .val (.int ((((tt.toUInt32 >>> ((2 : Int32) &&& 31).toUInt32).toInt32) &&& (3 : Int32)) % (3 : Int32))), .val (.int ((((tt.toUInt32 >>> ((4 : Int32) &&& 31).toUInt32).toInt32) &&& (3 : Int32)) % (3 : Int32))), .val (.int ((((tt.toUInt32 >>> ((6 : Int32) &&& 31).toUInt32).toInt32) &&& (3 : Int32)) % (3 : Int32))), .unset, .unset, .unset, .unset] [(.int (1 : Int32)), (.int sel)]))
    by_cases h125 : sel = (1 : Int32)
    · skip
      refine own_st (fun _ kq_ => XS.icmpNo X0.here hx rfl (hb hby at_125) rfl (teq h125).2 kq_) ?_
      show OwnG _ _ _ _ _ _ _ (T0.setTop (mkF m 128 #[.val (.int f1), .val (.int f2), .val (.int f3), .val (.int xx), .val (.int tt), .val (.int mo), .val (.int qI), .val (.int sel), .val (.int g1), .val (.int g2), .val (.int g3), .val (.int ((tt &&& (3 : Int32)) % (3 : Int32))), .val (.int ((((tt.toUInt32 >>> ((2 : Int32) &&& 31).toUInt32).toInt32) &&& (3 : Int32)) % (3 : Int32))), .val (.int ((((tt.toUInt32 >>> ((4 : Int32) &&& 31).toUInt32).toInt32) &&& (3 : Int32)) % (3 : Int32))), .val (.int ((((tt.toUInt32 >>> ((6 : Int32) &&& 31).toUInt32).toInt32) &&& (3 : Int32)) % (3 : Int32))), .unset, .unset, .unset, .unset] []))
      refine own_st (fun _ kq_ => XS.iloadN X0.here hx rfl (hb hby at_128) rfl kq_) ?_
      show OwnG _ _ _ _ _ _ _ (T0.setTop (mkF m 129 #[.val (.int f1), .val (.int f2), .val (.int f3), .val (.int xx), .val (.int tt), .val (.int mo), .val (.int qI), .val (.int sel), .val (.int g1), .val (.int g2), .val (.int g3), .val (.int ((tt &&& (3 : Int32)) % (3 : Int32))), .val (.int ((((tt.toUInt32 >>> ((2 : Int32) &&& 31).toUInt32).toInt32) &&& (3 : Int32)) % (3 : Int32))), .val (.int ((((tt.toUInt32 >>> ((4 : Int32) &&& 31).toUInt32).toInt32) &&& (3 : Int32)) % (3 : Int32))), .val (.int ((((tt.toUInt32 >>> ((6 : Int32) &&& 31).toUInt32).toInt32) &&& (3 : Int32)) % (3 : Int32))), .unset, .unset, .unset, .unset] [(.int f2)]))
      refine own_st (fun _ kq_ => XS.istore X0.here hx rfl (hb hby at_129) rfl (l' := #[.val (.int f1), .val (.int f2), .val (.int f3), .val (.int xx), .val (.int tt), .val (.int mo), .val (.int qI), .val (.int sel), .val (.int g1), .val (.int g2), .val (.int g3), .val (.int ((tt &&& (3 : Int32)) % (3 : Int32))), .val (.int ((((tt.toUInt32 >>> ((2 : Int32) &&& 31).toUInt32).toInt32) &&& (3 : Int32)) % (3 : Int32))), .val (.int ((((tt.toUInt32 >>> ((4 : Int32) &&& 31).toUInt32).toInt32) &&& (3 : Int32)) % (3 : Int32))), .val (.int ((((tt.toUInt32 >>> ((6 : Int32) &&& 31).toUInt32).toInt32) &&& (3 : Int32)) % (3 : Int32))), .val (.int f2), .unset, .unset, .unset]) rfl kq_) ?_
      show OwnG _ _ _ _ _ _ _ (T0.setTop (mkF m 131 #[.val (.int f1), .val (.int f2), .val (.int f3), .val (.int xx), .val (.int tt), .val (.int mo), .val (.int qI), .val (.int sel), .val (.int g1), .val (.int g2), .val (.int g3), .val (.int ((tt &&& (3 : Int32)) % (3 : Int32))), .val (.int ((((tt.toUInt32 >>> ((2 : Int32) &&& 31).toUInt32).toInt32) &&& (3 : Int32)) % (3 : Int32))), .val (.int ((((tt.toUInt32 >>> ((4 : Int32) &&& 31).toUInt32).toInt32) &&& (3 : Int32)) % (3 : Int32))), .val (.int ((((tt.toUInt32 >>> ((6 : Int32) &&& 31).toUInt32).toInt32) &&& (3 : Int32)) % (3 : Int32))), .val (.int f2), .unset, .unset, .unset] []))
      refine own_st (fun _ kq_ => XS.goto X0.here hx rfl (pc0 := 131) (pc' := 149) rfl (hb hby at_131) (by decide) (by decide) kq_) ?_
      show OwnG _ _ _ _ _ _ _ (T0.setTop (mkF m 149 #[.val (.int f1), .val (.int f2), .val (.int f3), .val (.int xx), .val (.int tt), .val (.int mo), .val (.int qI), .val (.int sel), .val (.int g1), .val (.int g2), .val (.int g3), .val (.int ((tt &&& (3 : Int32)) % (3 : Int32))), .val (.int ((((tt.toUInt32 >>> ((2 : Int32) &&& 31).toUInt32).toInt32) &&& (3 : Int32)) % (3 : Int32))), .val (.int ((((tt.toUInt32 >>> ((4 : Int32) &&& 31).toUInt32).toInt32) &&& (3 : Int32)) % (3 : Int32))), .val (.int ((((tt.toUInt32 >>> ((6 : Int32) &&& 31).toUInt32).toInt32) &&& (3 : Int32)) % (3 : Int32))), .val (.int f2), .unset, .unset, .unset] []))
      exact own_b149 hx hZ hw hby hml hown hrt hlk f1 f2 f3 xx tt mo qI sel g1 g2 g3 ((tt &&& (3 : Int32)) % (3 : Int32)) ((((tt.toUInt32 >>> ((2 : Int32) &&& 31).toUInt32).toInt32) &&& (3 : Int32)) % (3 : Int32)) ((((tt.toUInt32 >>> ((4 : Int32) &&& 31).toUInt32).toInt32) &&& (3 : Int32)) % (3 : Int32)) ((((tt.toUInt32 >>> ((6 : Int32) &&& 31).toUInt32).toInt32) &&& (3 : Int32)) % (3 : Int32)) f2 hq n0 X0 e0 N0 Z0
    · skip
      refine own_st (fun _ kq_ => XS.icmpYes X0.here hx rfl (pc0 := 125) (pc' := 134) rfl (hb hby at_125) rfl (feq h125).2 (by decide) (by decide) kq_) ?_
      show OwnG _ _ _ _ _ _ _ (T0.setTop (mkF m 134 #[.val (.int f1), .val (.int f2), .val (.int f3), .val (.int xx), .val (.int tt), .val (.int mo), .val (.int qI), .val (.int sel), .val (.int g1), .val (.int g2), .val (.int g3), .val (.int ((tt &&& (3 : Int32)) % (3 : Int32))), .val (.int ((((tt.toUInt32 >>> ((2 : Int32) &&& 31).toUInt32).toInt32) &&& (3 : Int32)) % (3 : Int32))), .val (.int ((((tt.toUInt32 >>> ((4 : Int32) &&& 31).toUInt32).toInt32) &&& (3 : Int32)) % (3 : Int32))), .val (.int ((((tt.toUInt32 >>> ((6 : Int32) &&& 31).toUInt32).toInt32) &&& (3 : Int32)) % (3 : Int32))), .unset, .unset, .unset, .unset] []))
      refine own_st (fun _ kq_ => XS.iload X0.here hx rfl (hb hby at_134) rfl kq_) ?_
      show OwnG _ _ _ _ _ _ _ (T0.setTop (mkF m 136 #[.val (.int f1), .val (.int f2), .val (.int f3), .val (.int xx), .val (.int tt), .val (.int mo), .val (.int qI), .val (.int sel), .val (.int g1), .val (.int g2), .val (.int g3), .val (.int ((tt &&& (3 : Int32)) % (3 : Int32))), .val (.int ((((tt.toUInt32 >>> ((2 : Int32) &&& 31).toUInt32).toInt32) &&& (3 : Int32)) % (3 : Int32))), .val (.int ((((tt.toUInt32 >>> ((4 : Int32) &&& 31).toUInt32).toInt32) &&& (3 : Int32)) % (3 : Int32))), .val (.int ((((tt.toUInt32 >>> ((6 : Int32) &&& 31).toUInt32).toInt32) &&& (3 : Int32)) % (3 : Int32))), .unset, .unset, .unset, .unset] [(.int sel)]))
      refine own_st (fun _ kq_ => XS.iconst X0.here hx rfl (hb hby at_136) kq_) ?_
      show OwnG _ _ _ _ _ _ _ (T0.setTop (mkF m 137 #[.val (.int f1), .val (.int f2), .val (.int f3), .val (.int xx), .val (.int tt), .val (.int mo), .val (.int qI), .val (.int sel), .val (.int g1), .val (.int g2), .val (.int g3), .val (.int ((tt &&& (3 : Int32)) % (3 : Int32))), .val (.int ((((tt.toUInt32 >>> ((2 : Int32) &&& 31).toUInt32).toInt32) &&& (3 : Int32)) % (3 : Int32))), .val (.int ((((tt.toUInt32 >>> ((4 : Int32) &&& 31).toUInt32).toInt32) &&& (3 : Int32)) % (3 : Int32))), .val (.int ((((tt.toUInt32 >>> ((6 : Int32) &&& 31).toUInt32).toInt32) &&& (3 : Int32)) % (3 : Int32))), .unset, .unset, .unset, .unset] [(.int (2 : Int32)), (.int sel)]))
      by_cases h137 : sel = (2 : Int32)
      · skip
        refine own_st (fun _ kq_ => XS.icmpNo X0.here hx rfl (hb hby at_137) rfl (teq h137).2 kq_) ?_
        show OwnG _ _ _ _ _ _ _ (T0.setTop (mkF m 140 #[.val (.int f1), .val (.int f2), .val (.int f3), .val (.int xx), .val (.int tt), .val (.int mo), .val (.int qI), .val (.int sel), .val (.int g1), .val (.int g2), .val (.int g3), .val (.int ((tt &&& (3 : Int32)) % (3 : Int32))), .val (.int ((((tt.toUInt32 >>> ((2 : Int32) &&& 31).toUInt32).toInt32) &&& (3 : Int32)) % (3 : Int32))), .val (.int ((((tt.toUInt32 >>> ((4 : Int32) &&& 31).toUInt32).toInt32) &&& (3 : Int32)) % (3 : Int32))), .val (.int ((((tt.toUInt32 >>> ((6 : Int32) &&& 31).toUInt32).toInt32) &&& (3 : Int32)) % (3 : Int32))), .unset, .unset, .unset, .unset] []))
        refine own_st (fun _ kq_ => XS.iloadN X0.here hx rfl (hb hby at_140) rfl kq_) ?_
        show OwnG _ _ _ _ _ _ _ (T0.setTop (mkF m 141 #[.val (.int f1), .val (.int f2), .val (.int f3), .val (.int xx), .val (.int tt), .val (.int mo), .val (.int qI), .val (.int sel), .val (.int g1), .val (.int g2), .val (.int g3), .val (.int ((tt &&& (3 : Int32)) % (3 : Int32))), .val (.int ((((tt.toUInt32 >>> ((2 : Int32) &&& 31).toUInt32).toInt32) &&& (3 : Int32)) % (3 : Int32))), .val (.int ((((tt.toUInt32 >>> ((4 : Int32) &&& 31).toUInt32).toInt32) &&& (3 : Int32)) % (3 : Int32))), .val (.int ((((tt.toUInt32 >>> ((6 : Int32) &&& 31).toUInt32).toInt32) &&& (3 : Int32)) % (3 : Int32))), .unset, .unset, .unset, .unset] [(.int f3)]))
        refine own_st (fun _ kq_ => XS.istore X0.here hx rfl (hb hby at_141) rfl (l' := #[.val (.int f1), .val (.int f2), .val (.int f3), .val (.int xx), .val (.int tt), .val (.int mo), .val (.int qI), .val (.int sel), .val (.int g1), .val (.int g2), .val (.int g3), .val (.int ((tt &&& (3 : Int32)) % (3 : Int32))), .val (.int ((((tt.toUInt32 >>> ((2 : Int32) &&& 31).toUInt32).toInt32) &&& (3 : Int32)) % (3 : Int32))), .val (.int ((((tt.toUInt32 >>> ((4 : Int32) &&& 31).toUInt32).toInt32) &&& (3 : Int32)) % (3 : Int32))), .val (.int ((((tt.toUInt32 >>> ((6 : Int32) &&& 31).toUInt32).toInt32) &&& (3 : Int32)) % (3 : Int32))), .val (.int f3), .unset, .unset, .unset]) rfl kq_) ?_
        show OwnG _ _ _ _ _ _ _ (T0.setTop (mkF m 143 #[.val (.int f1), .val (.int f2), .val (.int f3), .val (.int xx), .val (.int tt), .val (.int mo), .val (.int qI), .val (.int sel), .val (.int g1), .val (.int g2), .val (.int g3), .val (.int ((tt &&& (3 : Int32)) % (3 : Int32))), .val (.int ((((tt.toUInt32 >>> ((2 : Int32) &&& 31).toUInt32).toInt32) &&& (3 : Int32)) % (3 : Int32))), .val (.int ((((tt.toUInt32 >>> ((4 : Int32) &&& 31).toUInt32).toInt32) &&& (3 : Int32)) % (3 : Int32))), .val (.int ((((tt.toUInt32 >>> ((6 : Int32) &&& 31).toUInt32).toInt32) &&& (3 : Int32)) % (3 : Int32))), .val (.int f3), .unset, .unset, .unset] []))
        refine own_st (fun _ kq_ => XS.goto X0.here hx rfl (pc0 := 143) (pc' := 149) rfl (hb hby at_143) (by decide) (by decide) kq_) ?_
        show OwnG _ _ _ _ _ _ _ (T0.setTop (mkF m 149 #[.val (.int f1), .val (.int f2), .val (.int f3), .val (.int xx), .val (.int tt), .val (.int mo), .val (.int qI), .val (.int sel), .val (.int g1), .val (.int g2), .val (.int g3), .val (.int ((tt &&& (3 : Int32)) % (3 : Int32))), .val (.int ((((tt.toUInt32 >>> ((2 : Int32) &&& 31).toUInt32).toInt32) &&& (3 : Int32)) % (3 : Int32))), .val (.int ((((tt.toUInt32 >>> ((4 : Int32) &&& 31).toUInt32).toInt32) &&& (3 : Int32)) % (3 : Int32))), .val (.int ((((tt.toUInt32 >>> ((6 : Int32) &&& 31).toUInt32).toInt32) &&& (3 : Int32)) % (3 : Int32))), .val (.int f3), .unset, .unset, .unset] []))
        exact own_b149 hx hZ hw hby hml hown hrt hlk f1 f2 f3 xx tt mo qI sel g1 g2 g3 ((tt &&& (3 : Int32)) % (3 : Int32)) ((((tt.toUInt32 >>> ((2 : Int32) &&& 31).toUInt32).toInt32) &&& (3 : Int32)) % (3 : Int32)) ((((tt.toUInt32 >>> ((4 : Int32) &&& 31).toUInt32).toInt32) &&& (3 : Int32)) % (3 : Int32)) ((((tt.toUInt32 >>> ((6 : Int32) &&& 31).toUInt32).toInt32) &&& (3 : Int32)) % (3 : Int32)) f3 hq n0 X0 e0 N0 Z0
      · skip
        refine own_st (fun _ kq_ => XS.icmpYes X0.here hx rfl (pc0 := 137) (pc' := 146) rfl (hb hby at_137) rfl (feq h137).2 (by decide) (by decide) kq_) ?_
        show OwnG _ _ _ _ _ _ _ (T0.setTop (mkF m 146 #[.val (.int f1), .val (.int f2), .val (.int f3), .val (.int xx), .val (.int tt), .val (.int mo), .val (.int qI), .val (.int sel), .val (.int g1), .val (.int g2), .val (.int g3), .val (.int ((tt &&& (3 : Int32)) % (3 : Int32))), .val (.int ((((tt.toUInt32 >>> ((2 : Int32) &&& 31).toUInt32).toInt32) &&& (3 : Int32)) % (3 : Int32))), .val (.int ((((tt.toUInt32 >>> ((4 : Int32) &&& 31).toUInt32).toInt32) &&& (3 : Int32)) % (3 : Int32))), .val (.int ((((tt.toUInt32 >>> ((6 : Int32) &&& 31).toUInt32).toInt32) &&& (3 : Int32)) % (3 : Int32))), .unset, .unset, .unset, .unset] []))
        refine own_st (fun _ kq_ => XS.iloadN X0.here hx rfl (hb hby at_146) rfl kq_) ?_
        show OwnG _ _ _ _ _ _ _ (T0.setTop (mkF m 147 #[.val (.int f1), .val (.int f2), .val (.int f3), .val (.int xx), .val (.int tt), .val (.int mo), .val (.int qI), .val (.int sel), .val (.int g1), .val (.int g2), .val (.int g3), .val (.int ((tt &&& (3 : Int32)) % (3 : Int32))), .val (.int ((((tt.toUInt32 >>> ((2 : Int32) &&& 31).toUInt32).toInt32) &&& (3 : Int32)) % (3 : Int32))), .val (.int ((((tt.toUInt32 >>> ((4 : Int32) &&& 31).toUInt32).toInt32) &&& (3 : Int32)) % (3 : Int32))), .val (.int ((((tt.toUInt32 >>> ((6 : Int32) &&& 31).toUInt32).toInt32) &&& (3 : Int32)) % (3 : Int32))), .unset, .unset, .unset, .unset] [(.int xx)]))
        refine own_st (fun _ kq_ => XS.istore X0.here hx rfl (hb hby at_147) rfl (l' := #[.val (.int f1), .val (.int f2), .val (.int f3), .val (.int xx), .val (.int tt), .val (.int mo), .val (.int qI), .val (.int sel), .val (.int g1), .val (.int g2), .val (.int g3), .val (.int ((tt &&& (3 : Int32)) % (3 : Int32))), .val (.int ((((tt.toUInt32 >>> ((2 : Int32) &&& 31).toUInt32).toInt32) &&& (3 : Int32)) % (3 : Int32))), .val (.int ((((tt.toUInt32 >>> ((4 : Int32) &&& 31).toUInt32).toInt32) &&& (3 : Int32)) % (3 : Int32))), .val (.int ((((tt.toUInt32 >>> ((6 : Int32) &&& 31).toUInt32).toInt32) &&& (3 : Int32)) % (3 : Int32))), .val (.int xx), .unset, .unset, .unset]) rfl kq_) ?_
        show OwnG _ _ _ _ _ _ _ (T0.setTop (mkF m 149 #[.val (.int f1), .val (.int f2), .val (.int f3), .val (.int xx), .val (.int tt), .val (.int mo), .val (.int qI), .val (.int sel), .val (.int g1), .val (.int g2), .val (.int g3), .val (.int ((tt &&& (3 : Int32)) % (3 : Int32))), .val (.int ((((tt.toUInt32 >>> ((2 : Int32) &&& 31).toUInt32).toInt32) &&& (3 : Int32)) % (3 : Int32))), .val (.int ((((tt.toUInt32 >>> ((4 : Int32) &&& 31).toUInt32).toInt32) &&& (3 : Int32)) % (3 : Int32))), .val (.int ((((tt.toUInt32 >>> ((6 : Int32) &&& 31).toUInt32).toInt32) &&& (3 : Int32)) % (3 : Int32))), .val (.int xx), .unset, .unset, .unset] []))
        exact own_b149 hx hZ hw hby hml hown hrt hlk f1 f2 f3 xx tt mo qI sel g1 g2 g3 ((tt &&& (3 : Int32)) % (3 : Int32)) ((((tt.toUInt32 >>> ((2 : Int32) &&& 31).toUInt32).toInt32) &&& (3 : Int32)) % (3 : Int32)) ((((tt.toUInt32 >>> ((4 : Int32) &&& 31).toUInt32).toInt32) &&& (3 : Int32)) % (3 : Int32)) ((((tt.toUInt32 >>> ((6 : Int32) &&& 31).toUInt32).toInt32) &&& (3 : Int32)) % (3 : Int32)) xx hq n0 X0 e0 N0 Z0
set_option maxRecDepth 65536 in
set_option maxHeartbeats 40000000 in
theorem own_b53 {p : Program} {l : Launch} {e : Env} {s : State} {m : MethodId} {args : Array Value} {below : List Frame} {meth : Method} {c : Code} {Z : State} {a0 : Array Value} (hx : p.tables.exec = Jvm.exec) (hZ : Z.Warmed39 s.vm) (hw : ∀ d ∈ tables_1, d.before a0 Z = true) (hby : c.code = code) (hml : c.maxLocals = 19) (hown : s.vm.findClass "com/example/triptych/triptych/reasoning/LinksFeatureTargetPinLaw" = some m.cls) (hrt : meth.sig.returnType = ret) (hlk : meth.locks = false) (f1 f2 f3 xx tt mo : Int32) (qI sel g1 g2 : Int32) (hq : qI = 0 ∨ qI = 1 ∨ qI = 2) (n0 : Nat) {hs0 : Heap} {T0 : State} {h0 : Heap} {locs : List Loc} (X0 : Stand p l e room_1 s m args below meth c T0 locs 0 0) (e0 : T0.heap = h0) (N0 : Fr n0 locs) (Z0 : n0 ≤ h0.size)  : OwnG 13 86 (Q0 Z f1 f2 f3 xx tt mo hs0 n0) p e below s (T0.setTop (mkF m 53 #[.val (.int f1), .val (.int f2), .val (.int f3), .val (.int xx), .val (.int tt), .val (.int mo), .val (.int qI), .val (.int sel), .val (.int g1), .unset, .unset, .unset, .unset, .unset, .unset, .unset, .unset, .unset, .unset] [(.int g2)])) := by
  refine own_st (fun _ kq_ => XS.istore X0.here hx rfl (hb hby at_53) rfl (l' := #[.val (.int f1), .val (.int f2), .val (.int f3), .val (.int xx), .val (.int tt), .val (.int mo), .val (.int qI), .val (.int sel), .val (.int g1), .val (.int g2), .unset, .unset, .unset, .unset, .unset, .unset, .unset, .unset, .unset]) rfl kq_) ?_
  show OwnG _ _ _ _ _ _ _ (T0.setTop (mkF m 55 #[.val (.int f1), .val (.int f2), .val (.int f3), .val (.int xx), .val (.int tt), .val (.int mo), .val (.int qI), .val (.int sel), .val (.int g1), .val (.int g2), .unset, .unset, .unset, .unset, .unset, .unset, .unset, .unset, .unset] []))
  refine own_st (fun _ kq_ => XS.iload X0.here hx rfl (hb hby at_55) rfl kq_) ?_
  show OwnG _ _ _ _ _ _ _ (T0.setTop (mkF m 57 #[.val (.int f1), .val (.int f2), .val (.int f3), .val (.int xx), .val (.int tt), .val (.int mo), .val (.int qI), .val (.int sel), .val (.int g1), .val (.int g2), .unset, .unset, .unset, .unset, .unset, .unset, .unset, .unset, .unset] [(.int mo)]))
  refine own_st (fun _ kq_ => XS.bipush X0.here hx rfl (hb hby at_57) kq_) ?_
  show OwnG _ _ _ _ _ _ _ (T0.setTop (mkF m 59 #[.val (.int f1), .val (.int f2), .val (.int f3), .val (.int xx), .val (.int tt), .val (.int mo), .val (.int qI), .val (.int sel), .val (.int g1), .val (.int g2), .unset, .unset, .unset, .unset, .unset, .unset, .unset, .unset, .unset] [(.int (7 : Int32)), (.int mo)]))
  refine own_st (fun _ kq_ => XS.iushr X0.here hx rfl (hb hby at_59) rfl kq_) ?_
  show OwnG _ _ _ _ _ _ _ (T0.setTop (mkF m 60 #[.val (.int f1), .val (.int f2), .val (.int f3), .val (.int xx), .val (.int tt), .val (.int mo), .val (.int qI), .val (.int sel), .val (.int g1), .val (.int g2), .unset, .unset, .unset, .unset, .unset, .unset, .unset, .unset, .unset] [(.int ((mo.toUInt32 >>> ((7 : Int32) &&& 31).toUInt32).toInt32))]))
  refine own_st (fun _ kq_ => XS.iconst X0.here hx rfl (hb hby at_60) kq_) ?_
  show OwnG _ _ _ _ _ _ _ (T0.setTop (mkF m 61 #[.val (.int f1), .val (.int f2), .val (.int f3), .val (.int xx), .val (.int tt), .val (.int mo), .val (.int qI), .val (.int sel), .val (.int g1), .val (.int g2), .unset, .unset, .unset, .unset, .unset, .unset, .unset, .unset, .unset] [(.int (1 : Int32)), (.int ((mo.toUInt32 >>> ((7 : Int32) &&& 31).toUInt32).toInt32))]))
  refine own_st (fun _ kq_ => XS.iand X0.here hx rfl (hb hby at_61) rfl kq_) ?_
  show OwnG _ _ _ _ _ _ _ (T0.setTop (mkF m 62 #[.val (.int f1), .val (.int f2), .val (.int f3), .val (.int xx), .val (.int tt), .val (.int mo), .val (.int qI), .val (.int sel), .val (.int g1), .val (.int g2), .unset, .unset, .unset, .unset, .unset, .unset, .unset, .unset, .unset] [(.int (((mo.toUInt32 >>> ((7 : Int32) &&& 31).toUInt32).toInt32) &&& (1 : Int32)))]))
  by_cases h62 : (((mo.toUInt32 >>> ((7 : Int32) &&& 31).toUInt32).toInt32) &&& (1 : Int32)) = (0 : Int32)
  · skip
    refine own_st (fun _ kq_ => XS.ifYes X0.here hx rfl (pc0 := 62) (pc' := 69) rfl (hb hby at_62) rfl ((if0 _ _).trans (teq h62).1) (by decide) (by decide) kq_) ?_
    show OwnG _ _ _ _ _ _ _ (T0.setTop (mkF m 69 #[.val (.int f1), .val (.int f2), .val (.int f3), .val (.int xx), .val (.int tt), .val (.int mo), .val (.int qI), .val (.int sel), .val (.int g1), .val (.int g2), .unset, .unset, .unset, .unset, .unset, .unset, .unset, .unset, .unset] []))
    refine own_st (fun _ kq_ => XS.iconst X0.here hx rfl (hb hby at_69) kq_) ?_
    show OwnG _ _ _ _ _ _ _ (T0.setTop (mkF m 70 #[.val (.int f1), .val (.int f2), .val (.int f3), .val (.int xx), .val (.int tt), .val (.int mo), .val (.int qI), .val (.int sel), .val (.int g1), .val (.int g2), .unset, .unset, .unset, .unset, .unset, .unset, .unset, .unset, .unset] [(.int (0 : Int32))]))
    exact own_b70 hx hZ hw hby hml hown hrt hlk f1 f2 f3 xx tt mo qI sel g1 g2 (0 : Int32) hq n0 X0 e0 N0 Z0
  · skip
    refine own_st (fun _ kq_ => XS.ifNo X0.here hx rfl (hb hby at_62) rfl ((if0 _ _).trans (feq h62).1) kq_) ?_
    show OwnG _ _ _ _ _ _ _ (T0.setTop (mkF m 65 #[.val (.int f1), .val (.int f2), .val (.int f3), .val (.int xx), .val (.int tt), .val (.int mo), .val (.int qI), .val (.int sel), .val (.int g1), .val (.int g2), .unset, .unset, .unset, .unset, .unset, .unset, .unset, .unset, .unset] []))
    refine own_st (fun _ kq_ => XS.iconst X0.here hx rfl (hb hby at_65) kq_) ?_
    show OwnG _ _ _ _ _ _ _ (T0.setTop (mkF m 66 #[.val (.int f1), .val (.int f2), .val (.int f3), .val (.int xx), .val (.int tt), .val (.int mo), .val (.int qI), .val (.int sel), .val (.int g1), .val (.int g2), .unset, .unset, .unset, .unset, .unset, .unset, .unset, .unset, .unset] [(.int (1 : Int32))]))
    refine own_st (fun _ kq_ => XS.goto X0.here hx rfl (pc0 := 66) (pc' := 70) rfl (hb hby at_66) (by decide) (by decide) kq_) ?_
    show OwnG _ _ _ _ _ _ _ (T0.setTop (mkF m 70 #[.val (.int f1), .val (.int f2), .val (.int f3), .val (.int xx), .val (.int tt), .val (.int mo), .val (.int qI), .val (.int sel), .val (.int g1), .val (.int g2), .unset, .unset, .unset, .unset, .unset, .unset, .unset, .unset, .unset] [(.int (1 : Int32))]))
    exact own_b70 hx hZ hw hby hml hown hrt hlk f1 f2 f3 xx tt mo qI sel g1 g2 (1 : Int32) hq n0 X0 e0 N0 Z0
set_option maxRecDepth 65536 in
set_option maxHeartbeats 40000000 in
theorem own_b31 {p : Program} {l : Launch} {e : Env} {s : State} {m : MethodId} {args : Array Value} {below : List Frame} {meth : Method} {c : Code} {Z : State} {a0 : Array Value} (hx : p.tables.exec = Jvm.exec) (hZ : Z.Warmed39 s.vm) (hw : ∀ d ∈ tables_1, d.before a0 Z = true) (hby : c.code = code) (hml : c.maxLocals = 19) (hown : s.vm.findClass "com/example/triptych/triptych/reasoning/LinksFeatureTargetPinLaw" = some m.cls) (hrt : meth.sig.returnType = ret) (hlk : meth.locks = false) (f1 f2 f3 xx tt mo : Int32) (qI sel g1 : Int32) (hq : qI = 0 ∨ qI = 1 ∨ qI = 2) (n0 : Nat) {hs0 : Heap} {T0 : State} {h0 : Heap} {locs : List Loc} (X0 : Stand p l e room_1 s m args below meth c T0 locs 0 0) (e0 : T0.heap = h0) (N0 : Fr n0 locs) (Z0 : n0 ≤ h0.size)  : OwnG 13 86 (Q0 Z f1 f2 f3 xx tt mo hs0 n0) p e below s (T0.setTop (mkF m 31 #[.val (.int f1), .val (.int f2), .val (.int f3), .val (.int xx), .val (.int tt), .val (.int mo), .val (.int qI), .val (.int sel), .unset, .unset, .unset, .unset, .unset, .unset, .unset, .unset, .unset, .unset, .unset] [(.int g1)])) := by
  refine own_st (fun _ kq_ => XS.istore X0.here hx rfl (hb hby at_31) rfl (l' := #[.val (.int f1), .val (.int f2), .val (.int f3), .val (.int xx), .val (.int tt), .val (.int mo), .val (.int qI), .val (.int sel), .val (.int g1), .unset, .unset, .unset, .unset, .unset, .unset, .unset, .unset, .unset, .unset]) rfl kq_) ?_
  show OwnG _ _ _ _ _ _ _ (T0.setTop (mkF m 33 #[.val (.int f1), .val (.int f2), .val (.int f3), .val (.int xx), .val (.int tt), .val (.int mo), .val (.int qI), .val (.int sel), .val (.int g1), .unset, .unset, .unset, .unset, .unset, .unset, .unset, .unset, .unset, .unset] []))
  refine own_st (fun _ kq_ => XS.iload X0.here hx rfl (hb hby at_33) rfl kq_) ?_
  show OwnG _ _ _ _ _ _ _ (T0.setTop (mkF m 35 #[.val (.int f1), .val (.int f2), .val (.int f3), .val (.int xx), .val (.int tt), .val (.int mo), .val (.int qI), .val (.int sel), .val (.int g1), .unset, .unset, .unset, .unset, .unset, .unset, .unset, .unset, .unset, .unset] [(.int mo)]))
  refine own_st (fun _ kq_ => XS.bipush X0.here hx rfl (hb hby at_35) kq_) ?_
  show OwnG _ _ _ _ _ _ _ (T0.setTop (mkF m 37 #[.val (.int f1), .val (.int f2), .val (.int f3), .val (.int xx), .val (.int tt), .val (.int mo), .val (.int qI), .val (.int sel), .val (.int g1), .unset, .unset, .unset, .unset, .unset, .unset, .unset, .unset, .unset, .unset] [(.int (6 : Int32)), (.int mo)]))
  refine own_st (fun _ kq_ => XS.iushr X0.here hx rfl (hb hby at_37) rfl kq_) ?_
  show OwnG _ _ _ _ _ _ _ (T0.setTop (mkF m 38 #[.val (.int f1), .val (.int f2), .val (.int f3), .val (.int xx), .val (.int tt), .val (.int mo), .val (.int qI), .val (.int sel), .val (.int g1), .unset, .unset, .unset, .unset, .unset, .unset, .unset, .unset, .unset, .unset] [(.int ((mo.toUInt32 >>> ((6 : Int32) &&& 31).toUInt32).toInt32))]))
  refine own_st (fun _ kq_ => XS.iconst X0.here hx rfl (hb hby at_38) kq_) ?_
  show OwnG _ _ _ _ _ _ _ (T0.setTop (mkF m 39 #[.val (.int f1), .val (.int f2), .val (.int f3), .val (.int xx), .val (.int tt), .val (.int mo), .val (.int qI), .val (.int sel), .val (.int g1), .unset, .unset, .unset, .unset, .unset, .unset, .unset, .unset, .unset, .unset] [(.int (1 : Int32)), (.int ((mo.toUInt32 >>> ((6 : Int32) &&& 31).toUInt32).toInt32))]))
  refine own_st (fun _ kq_ => XS.iand X0.here hx rfl (hb hby at_39) rfl kq_) ?_
  show OwnG _ _ _ _ _ _ _ (T0.setTop (mkF m 40 #[.val (.int f1), .val (.int f2), .val (.int f3), .val (.int xx), .val (.int tt), .val (.int mo), .val (.int qI), .val (.int sel), .val (.int g1), .unset, .unset, .unset, .unset, .unset, .unset, .unset, .unset, .unset, .unset] [(.int (((mo.toUInt32 >>> ((6 : Int32) &&& 31).toUInt32).toInt32) &&& (1 : Int32)))]))
  by_cases h40 : (((mo.toUInt32 >>> ((6 : Int32) &&& 31).toUInt32).toInt32) &&& (1 : Int32)) = (0 : Int32)
  · skip
    refine own_st (fun _ kq_ => XS.ifYes X0.here hx rfl (pc0 := 40) (pc' := 52) rfl (hb hby at_40) rfl ((if0 _ _).trans (teq h40).1) (by decide) (by decide) kq_) ?_
    show OwnG _ _ _ _ _ _ _ (T0.setTop (mkF m 52 #[.val (.int f1), .val (.int f2), .val (.int f3), .val (.int xx), .val (.int tt), .val (.int mo), .val (.int qI), .val (.int sel), .val (.int g1), .unset, .unset, .unset, .unset, .unset, .unset, .unset, .unset, .unset, .unset] []))
    refine own_st (fun _ kq_ => XS.iconst X0.here hx rfl (hb hby at_52) kq_) ?_
    show OwnG _ _ _ _ _ _ _ (T0.setTop (mkF m 53 #[.val (.int f1), .val (.int f2), .val (.int f3), .val (.int xx), .val (.int tt), .val (.int mo), .val (.int qI), .val (.int sel), .val (.int g1), .unset, .unset, .unset, .unset, .unset, .unset, .unset, .unset, .unset, .unset] [(.int (0 : Int32))]))
    exact own_b53 hx hZ hw hby hml hown hrt hlk f1 f2 f3 xx tt mo qI sel g1 (0 : Int32) hq n0 X0 e0 N0 Z0
  · skip
    refine own_st (fun _ kq_ => XS.ifNo X0.here hx rfl (hb hby at_40) rfl ((if0 _ _).trans (feq h40).1) kq_) ?_
    show OwnG _ _ _ _ _ _ _ (T0.setTop (mkF m 43 #[.val (.int f1), .val (.int f2), .val (.int f3), .val (.int xx), .val (.int tt), .val (.int mo), .val (.int qI), .val (.int sel), .val (.int g1), .unset, .unset, .unset, .unset, .unset, .unset, .unset, .unset, .unset, .unset] []))
    refine own_st (fun _ kq_ => XS.iloadN X0.here hx rfl (hb hby at_43) rfl kq_) ?_
    show OwnG _ _ _ _ _ _ _ (T0.setTop (mkF m 44 #[.val (.int f1), .val (.int f2), .val (.int f3), .val (.int xx), .val (.int tt), .val (.int mo), .val (.int qI), .val (.int sel), .val (.int g1), .unset, .unset, .unset, .unset, .unset, .unset, .unset, .unset, .unset, .unset] [(.int f2)]))
    refine own_st (fun _ kq_ => XS.iloadN X0.here hx rfl (hb hby at_44) rfl kq_) ?_
    show OwnG _ _ _ _ _ _ _ (T0.setTop (mkF m 45 #[.val (.int f1), .val (.int f2), .val (.int f3), .val (.int xx), .val (.int tt), .val (.int mo), .val (.int qI), .val (.int sel), .val (.int g1), .unset, .unset, .unset, .unset, .unset, .unset, .unset, .unset, .unset, .unset] [(.int f1), (.int f2)]))
    by_cases h45 : f2 = f1
    · skip
      refine own_st (fun _ kq_ => XS.icmpYes X0.here hx rfl (pc0 := 45) (pc' := 52) rfl (hb hby at_45) rfl (teq h45).1 (by decide) (by decide) kq_) ?_
      show OwnG _ _ _ _ _ _ _ (T0.setTop (mkF m 52 #[.val (.int f1), .val (.int f2), .val (.int f3), .val (.int xx), .val (.int tt), .val (.int mo), .val (.int qI), .val (.int sel), .val (.int g1), .unset, .unset, .unset, .unset, .unset, .unset, .unset, .unset, .unset, .unset] []))
      refine own_st (fun _ kq_ => XS.iconst X0.here hx rfl (hb hby at_52) kq_) ?_
      show OwnG _ _ _ _ _ _ _ (T0.setTop (mkF m 53 #[.val (.int f1), .val (.int f2), .val (.int f3), .val (.int xx), .val (.int tt), .val (.int mo), .val (.int qI), .val (.int sel), .val (.int g1), .unset, .unset, .unset, .unset, .unset, .unset, .unset, .unset, .unset, .unset] [(.int (0 : Int32))]))
      exact own_b53 hx hZ hw hby hml hown hrt hlk f1 f2 f3 xx tt mo qI sel g1 (0 : Int32) hq n0 X0 e0 N0 Z0
    · skip
      refine own_st (fun _ kq_ => XS.icmpNo X0.here hx rfl (hb hby at_45) rfl (feq h45).1 kq_) ?_
      show OwnG _ _ _ _ _ _ _ (T0.setTop (mkF m 48 #[.val (.int f1), .val (.int f2), .val (.int f3), .val (.int xx), .val (.int tt), .val (.int mo), .val (.int qI), .val (.int sel), .val (.int g1), .unset, .unset, .unset, .unset, .unset, .unset, .unset, .unset, .unset, .unset] []))
      refine own_st (fun _ kq_ => XS.iconst X0.here hx rfl (hb hby at_48) kq_) ?_
      show OwnG _ _ _ _ _ _ _ (T0.setTop (mkF m 49 #[.val (.int f1), .val (.int f2), .val (.int f3), .val (.int xx), .val (.int tt), .val (.int mo), .val (.int qI), .val (.int sel), .val (.int g1), .unset, .unset, .unset, .unset, .unset, .unset, .unset, .unset, .unset, .unset] [(.int (1 : Int32))]))
      refine own_st (fun _ kq_ => XS.goto X0.here hx rfl (pc0 := 49) (pc' := 53) rfl (hb hby at_49) (by decide) (by decide) kq_) ?_
      show OwnG _ _ _ _ _ _ _ (T0.setTop (mkF m 53 #[.val (.int f1), .val (.int f2), .val (.int f3), .val (.int xx), .val (.int tt), .val (.int mo), .val (.int qI), .val (.int sel), .val (.int g1), .unset, .unset, .unset, .unset, .unset, .unset, .unset, .unset, .unset, .unset] [(.int (1 : Int32))]))
      exact own_b53 hx hZ hw hby hml hown hrt hlk f1 f2 f3 xx tt mo qI sel g1 (1 : Int32) hq n0 X0 e0 N0 Z0
theorem pn_0 : plainFor x = true := by first | exact plainFor_of_name (by first | (simp [plainName, overriddenIn]; done) | decide +kernel) | decide +kernel
theorem ef_0 (m : MethodId) (x0 : Int32) (x1 : Int32) (x2 : Int32) (x3 : Int32) (x4 : Int32) (x5 : Int32) : entryFrame m #[(.int x0), (.int x1), (.int x2), (.int x3), (.int x4), (.int x5)] maxLocals = mkF m 0 #[.val (.int x0), .val (.int x1), .val (.int x2), .val (.int x3), .val (.int x4), .val (.int x5), .unset, .unset, .unset, .unset, .unset, .unset, .unset, .unset, .unset, .unset, .unset, .unset, .unset] [] := by first | (simp [entryFrame, mkF, argsToLocals, Value.category, maxLocals]; done) | rfl
set_option maxRecDepth 65536 in
set_option maxHeartbeats 40000000 in
theorem rm0 (l : Launch) (Z : State) (a0 : Array Value) (hw : ∀ d ∈ tables_1, d.before a0 Z = true) (ws : List Jvm.Cond) (f1 : Int32) (f2 : Int32) (f3 : Int32) (xx : Int32) (tt : Int32) (mo : Int32) (h0 : Heap) (n0 : Nat) (Z0 : n0 ≤ h0.size)  :
    MetFree l x (head1 (Jvm.Cond.code x code maxLocals ret :: ws) room_1) (fun a U => a = #[(.int f1), (.int f2), (.int f3), (.int xx), (.int tt), (.int mo)] ∧ Z.Warmed39 U.vm ∧ U.heap = h0) (fun _ _ _ _ _ => True) (fun _ U o U' => ∃ v L, o = .returned v ∧ Q0 Z f1 f2 f3 xx tt mo h0 n0 v U'.heap L ∧ FrameEnd U o U' L 13 86) := by
  refine MetFree.of_bodySF pn_0 hisR ?_
  intro p e s m args below meth c s₁ Bd hml0 hP hK
  obtain ⟨rfl, hZ, hh⟩ := hP
  have hx := Bd.exec
  have hby := Bd.bytes
  have hml : c.maxLocals = 19 := hml0
  have hown : s.vm.findClass "com/example/triptych/triptych/reasoning/LinksFeatureTargetPinLaw" = some m.cls := findClass_of_methodNamed Bd.named
  have hnm := (name_of_methodNamed Bd.named Bd.method).1
  have hrt := Bd.returns
  have hlk : meth.locks = false := BodyLoose.notSynchronized Bd
  have X0 : Stand p l e room_1 s m #[(.int f1), (.int f2), (.int f3), (.int xx), (.int tt), (.int mo)] below meth c s₁ [] 0 0 := Stand.of_body Bd
  have e0 : s₁.heap = h0 := by rw [← hh, Bd.state]; rfl
  have N0 := Fr.nil n0
  show OwnG 13 86 (Q0 Z f1 f2 f3 xx tt mo h0 n0) p e below s (s₁.setTop (entryFrame m #[(.int f1), (.int f2), (.int f3), (.int xx), (.int tt), (.int mo)] maxLocals))
  refine own_st (σ' := s₁.setTop (mkF m 0 #[.val (.int f1), .val (.int f2), .val (.int f3), .val (.int xx), .val (.int tt), .val (.int mo), .unset, .unset, .unset, .unset, .unset, .unset, .unset, .unset, .unset, .unset, .unset, .unset, .unset] [])) (fun _ kq_ => castTop (ef_0 m f1 f2 f3 xx tt mo) kq_) ?_
  show OwnG _ _ _ _ _ _ _ (s₁.setTop (mkF m 0 #[.val (.int f1), .val (.int f2), .val (.int f3), .val (.int xx), .val (.int tt), .val (.int mo), .unset, .unset, .unset, .unset, .unset, .unset, .unset, .unset, .unset, .unset, .unset, .unset, .unset] []))
  refine own_st (fun _ kq_ => XS.iload X0.here hx rfl (hb hby at_0) rfl kq_) ?_
  show OwnG _ _ _ _ _ _ _ (s₁.setTop (mkF m 2 #[.val (.int f1), .val (.int f2), .val (.int f3), .val (.int xx), .val (.int tt), .val (.int mo), .unset, .unset, .unset, .unset, .unset, .unset, .unset, .unset, .unset, .unset, .unset, .unset, .unset] [(.int mo)]))
  refine own_st (fun _ kq_ => XS.iconst X0.here hx rfl (hb hby at_2) kq_) ?_
  show OwnG _ _ _ _ _ _ _ (s₁.setTop (mkF m 3 #[.val (.int f1), .val (.int f2), .val (.int f3), .val (.int xx), .val (.int tt), .val (.int mo), .unset, .unset, .unset, .unset, .unset, .unset, .unset, .unset, .unset, .unset, .unset, .unset, .unset] [(.int (3 : Int32)), (.int mo)]))
  refine own_st (fun _ kq_ => XS.iand X0.here hx rfl (hb hby at_3) rfl kq_) ?_
  show OwnG _ _ _ _ _ _ _ (s₁.setTop (mkF m 4 #[.val (.int f1), .val (.int f2), .val (.int f3), .val (.int xx), .val (.int tt), .val (.int mo), .unset, .unset, .unset, .unset, .unset, .unset, .unset, .unset, .unset, .unset, .unset, .unset, .unset] [(.int (mo &&& (3 : Int32)))]))
  refine own_st (fun _ kq_ => XS.iconst X0.here hx rfl (hb hby at_4) kq_) ?_
  show OwnG _ _ _ _ _ _ _ (s₁.setTop (mkF m 5 #[.val (.int f1), .val (.int f2), .val (.int f3), .val (.int xx), .val (.int tt), .val (.int mo), .unset, .unset, .unset, .unset, .unset, .unset, .unset, .unset, .unset, .unset, .unset, .unset, .unset] [(.int (3 : Int32)), (.int (mo &&& (3 : Int32)))]))
  refine own_st (fun _ kq_ => iremM X0 hx rfl (hb hby at_5) rfl (by decide) kq_) ?_
  show OwnG _ _ _ _ _ _ _ (s₁.setTop (mkF m 6 #[.val (.int f1), .val (.int f2), .val (.int f3), .val (.int xx), .val (.int tt), .val (.int mo), .unset, .unset, .unset, .unset, .unset, .unset, .unset, .unset, .unset, .unset, .unset, .unset, .unset] [(.int ((mo &&& (3 : Int32)) % (3 : Int32)))]))
  refine own_st (fun _ kq_ => XS.istore X0.here hx rfl (hb hby at_6) rfl (l' := #[.val (.int f1), .val (.int f2), .val (.int f3), .val (.int xx), .val (.int tt), .val (.int mo), .val (.int ((mo &&& (3 : Int32)) % (3 : Int32))), .unset, .unset, .unset, .unset, .unset, .unset, .unset, .unset, .unset, .unset, .unset, .unset]) rfl kq_) ?_
  show OwnG _ _ _ _ _ _ _ (s₁.setTop (mkF m 8 #[.val (.int f1), .val (.int f2), .val (.int f3), .val (.int xx), .val (.int tt), .val (.int mo), .val (.int ((mo &&& (3 : Int32)) % (3 : Int32))), .unset, .unset, .unset, .unset, .unset, .unset, .unset, .unset, .unset, .unset, .unset, .unset] []))
  refine own_st (fun _ kq_ => XS.iload X0.here hx rfl (hb hby at_8) rfl kq_) ?_
  show OwnG _ _ _ _ _ _ _ (s₁.setTop (mkF m 10 #[.val (.int f1), .val (.int f2), .val (.int f3), .val (.int xx), .val (.int tt), .val (.int mo), .val (.int ((mo &&& (3 : Int32)) % (3 : Int32))), .unset, .unset, .unset, .unset, .unset, .unset, .unset, .unset, .unset, .unset, .unset, .unset] [(.int mo)]))
  refine own_st (fun _ kq_ => XS.iconst X0.here hx rfl (hb hby at_10) kq_) ?_
  show OwnG _ _ _ _ _ _ _ (s₁.setTop (mkF m 11 #[.val (.int f1), .val (.int f2), .val (.int f3), .val (.int xx), .val (.int tt), .val (.int mo), .val (.int ((mo &&& (3 : Int32)) % (3 : Int32))), .unset, .unset, .unset, .unset, .unset, .unset, .unset, .unset, .unset, .unset, .unset, .unset] [(.int (2 : Int32)), (.int mo)]))
  refine own_st (fun _ kq_ => XS.iushr X0.here hx rfl (hb hby at_11) rfl kq_) ?_
  show OwnG _ _ _ _ _ _ _ (s₁.setTop (mkF m 12 #[.val (.int f1), .val (.int f2), .val (.int f3), .val (.int xx), .val (.int tt), .val (.int mo), .val (.int ((mo &&& (3 : Int32)) % (3 : Int32))), .unset, .unset, .unset, .unset, .unset, .unset, .unset, .unset, .unset, .unset, .unset, .unset] [(.int ((mo.toUInt32 >>> ((2 : Int32) &&& 31).toUInt32).toInt32))]))
  refine own_st (fun _ kq_ => XS.bipush X0.here hx rfl (hb hby at_12) kq_) ?_
  show OwnG _ _ _ _ _ _ _ (s₁.setTop (mkF m 14 #[.val (.int f1), .val (.int f2), .val (.int f3), .val (.int xx), .val (.int tt), .val (.int mo), .val (.int ((mo &&& (3 : Int32)) % (3 : Int32))), .unset, .unset, .unset, .unset, .unset, .unset, .unset, .unset, .unset, .unset, .unset, .unset] [(.int (7 : Int32)), (.int ((mo.toUInt32 >>> ((2 : Int32) &&& 31).toUInt32).toInt32))]))
  refine own_st (fun _ kq_ => XS.iand X0.here hx rfl (hb hby at_14) rfl kq_) ?_
  show OwnG _ _ _ _ _ _ _ (s₁.setTop (mkF m 15 #[.val (.int f1), .val (.int f2), .val (.int f3), .val (.int xx), .val (.int tt), .val (.int mo), .val (.int ((mo &&& (3 : Int32)) % (3 : Int32))), .unset, .unset, .unset, .unset, .unset, .unset, .unset, .unset, .unset, .unset, .unset, .unset] [(.int (((mo.toUInt32 >>> ((2 : Int32) &&& 31).toUInt32).toInt32) &&& (7 : Int32)))]))
  refine own_st (fun _ kq_ => XS.istore X0.here hx rfl (hb hby at_15) rfl (l' := #[.val (.int f1), .val (.int f2), .val (.int f3), .val (.int xx), .val (.int tt), .val (.int mo), .val (.int ((mo &&& (3 : Int32)) % (3 : Int32))), .val (.int (((mo.toUInt32 >>> ((2 : Int32) &&& 31).toUInt32).toInt32) &&& (7 : Int32))), .unset, .unset, .unset, .unset, .unset, .unset, .unset, .unset, .unset, .unset, .unset]) rfl kq_) ?_
  show OwnG _ _ _ _ _ _ _ (s₁.setTop (mkF m 17 #[.val (.int f1), .val (.int f2), .val (.int f3), .val (.int xx), .val (.int tt), .val (.int mo), .val (.int ((mo &&& (3 : Int32)) % (3 : Int32))), .val (.int (((mo.toUInt32 >>> ((2 : Int32) &&& 31).toUInt32).toInt32) &&& (7 : Int32))), .unset, .unset, .unset, .unset, .unset, .unset, .unset, .unset, .unset, .unset, .unset] []))
  refine own_st (fun _ kq_ => XS.iload X0.here hx rfl (hb hby at_17) rfl kq_) ?_
  show OwnG _ _ _ _ _ _ _ (s₁.setTop (mkF m 19 #[.val (.int f1), .val (.int f2), .val (.int f3), .val (.int xx), .val (.int tt), .val (.int mo), .val (.int ((mo &&& (3 : Int32)) % (3 : Int32))), .val (.int (((mo.toUInt32 >>> ((2 : Int32) &&& 31).toUInt32).toInt32) &&& (7 : Int32))), .unset, .unset, .unset, .unset, .unset, .unset, .unset, .unset, .unset, .unset, .unset] [(.int mo)]))
  refine own_st (fun _ kq_ => XS.iconst X0.here hx rfl (hb hby at_19) kq_) ?_
  show OwnG _ _ _ _ _ _ _ (s₁.setTop (mkF m 20 #[.val (.int f1), .val (.int f2), .val (.int f3), .val (.int xx), .val (.int tt), .val (.int mo), .val (.int ((mo &&& (3 : Int32)) % (3 : Int32))), .val (.int (((mo.toUInt32 >>> ((2 : Int32) &&& 31).toUInt32).toInt32) &&& (7 : Int32))), .unset, .unset, .unset, .unset, .unset, .unset, .unset, .unset, .unset, .unset, .unset] [(.int (5 : Int32)), (.int mo)]))
  refine own_st (fun _ kq_ => XS.iushr X0.here hx rfl (hb hby at_20) rfl kq_) ?_
  show OwnG _ _ _ _ _ _ _ (s₁.setTop (mkF m 21 #[.val (.int f1), .val (.int f2), .val (.int f3), .val (.int xx), .val (.int tt), .val (.int mo), .val (.int ((mo &&& (3 : Int32)) % (3 : Int32))), .val (.int (((mo.toUInt32 >>> ((2 : Int32) &&& 31).toUInt32).toInt32) &&& (7 : Int32))), .unset, .unset, .unset, .unset, .unset, .unset, .unset, .unset, .unset, .unset, .unset] [(.int ((mo.toUInt32 >>> ((5 : Int32) &&& 31).toUInt32).toInt32))]))
  refine own_st (fun _ kq_ => XS.iconst X0.here hx rfl (hb hby at_21) kq_) ?_
  show OwnG _ _ _ _ _ _ _ (s₁.setTop (mkF m 22 #[.val (.int f1), .val (.int f2), .val (.int f3), .val (.int xx), .val (.int tt), .val (.int mo), .val (.int ((mo &&& (3 : Int32)) % (3 : Int32))), .val (.int (((mo.toUInt32 >>> ((2 : Int32) &&& 31).toUInt32).toInt32) &&& (7 : Int32))), .unset, .unset, .unset, .unset, .unset, .unset, .unset, .unset, .unset, .unset, .unset] [(.int (1 : Int32)), (.int ((mo.toUInt32 >>> ((5 : Int32) &&& 31).toUInt32).toInt32))]))
  refine own_st (fun _ kq_ => XS.iand X0.here hx rfl (hb hby at_22) rfl kq_) ?_
  show OwnG _ _ _ _ _ _ _ (s₁.setTop (mkF m 23 #[.val (.int f1), .val (.int f2), .val (.int f3), .val (.int xx), .val (.int tt), .val (.int mo), .val (.int ((mo &&& (3 : Int32)) % (3 : Int32))), .val (.int (((mo.toUInt32 >>> ((2 : Int32) &&& 31).toUInt32).toInt32) &&& (7 : Int32))), .unset, .unset, .unset, .unset, .unset, .unset, .unset, .unset, .unset, .unset, .unset] [(.int (((mo.toUInt32 >>> ((5 : Int32) &&& 31).toUInt32).toInt32) &&& (1 : Int32)))]))
  have hq : ((mo &&& (3 : Int32)) % (3 : Int32)) = 0 ∨ ((mo &&& (3 : Int32)) % (3 : Int32)) = 1 ∨ ((mo &&& (3 : Int32)) % (3 : Int32)) = 2 := by
    obtain ⟨k, hk, e⟩ := own_q mo
    have e0 : (0 : Int32).toInt = 0 := rfl
    have e1 : (1 : Int32).toInt = 1 := rfl
    have e2 : (2 : Int32).toInt = 2 := rfl
    have : k = 0 ∨ k = 1 ∨ k = 2 := by omega
    rcases this with rfl | rfl | rfl
    · exact Or.inl (Int32.toInt_inj.mp (by rw [e]; rfl))
    · exact Or.inr (Or.inl (Int32.toInt_inj.mp (by rw [e]; rfl)))
    · exact Or.inr (Or.inr (Int32.toInt_inj.mp (by rw [e]; rfl)))
  by_cases h23 : (((mo.toUInt32 >>> ((5 : Int32) &&& 31).toUInt32).toInt32) &&& (1 : Int32)) = (0 : Int32)
  · skip
    refine own_st (fun _ kq_ => XS.ifYes X0.here hx rfl (pc0 := 23) (pc' := 30) rfl (hb hby at_23) rfl ((if0 _ _).trans (teq h23).1) (by decide) (by decide) kq_) ?_
    show OwnG _ _ _ _ _ _ _ (s₁.setTop (mkF m 30 #[.val (.int f1), .val (.int f2), .val (.int f3), .val (.int xx), .val (.int tt), .val (.int mo), .val (.int ((mo &&& (3 : Int32)) % (3 : Int32))), .val (.int (((mo.toUInt32 >>> ((2 : Int32) &&& 31).toUInt32).toInt32) &&& (7 : Int32))), .unset, .unset, .unset, .unset, .unset, .unset, .unset, .unset, .unset, .unset, .unset] []))
    refine own_st (fun _ kq_ => XS.iconst X0.here hx rfl (hb hby at_30) kq_) ?_
    show OwnG _ _ _ _ _ _ _ (s₁.setTop (mkF m 31 #[.val (.int f1), .val (.int f2), .val (.int f3), .val (.int xx), .val (.int tt), .val (.int mo), .val (.int ((mo &&& (3 : Int32)) % (3 : Int32))), .val (.int (((mo.toUInt32 >>> ((2 : Int32) &&& 31).toUInt32).toInt32) &&& (7 : Int32))), .unset, .unset, .unset, .unset, .unset, .unset, .unset, .unset, .unset, .unset, .unset] [(.int (0 : Int32))]))
    exact own_b31 hx hZ hw hby hml hown hrt hlk f1 f2 f3 xx tt mo ((mo &&& (3 : Int32)) % (3 : Int32)) (((mo.toUInt32 >>> ((2 : Int32) &&& 31).toUInt32).toInt32) &&& (7 : Int32)) (0 : Int32) hq n0 X0 e0 N0 Z0
  · skip
    refine own_st (fun _ kq_ => XS.ifNo X0.here hx rfl (hb hby at_23) rfl ((if0 _ _).trans (feq h23).1) kq_) ?_
    show OwnG _ _ _ _ _ _ _ (s₁.setTop (mkF m 26 #[.val (.int f1), .val (.int f2), .val (.int f3), .val (.int xx), .val (.int tt), .val (.int mo), .val (.int ((mo &&& (3 : Int32)) % (3 : Int32))), .val (.int (((mo.toUInt32 >>> ((2 : Int32) &&& 31).toUInt32).toInt32) &&& (7 : Int32))), .unset, .unset, .unset, .unset, .unset, .unset, .unset, .unset, .unset, .unset, .unset] []))
    refine own_st (fun _ kq_ => XS.iconst X0.here hx rfl (hb hby at_26) kq_) ?_
    show OwnG _ _ _ _ _ _ _ (s₁.setTop (mkF m 27 #[.val (.int f1), .val (.int f2), .val (.int f3), .val (.int xx), .val (.int tt), .val (.int mo), .val (.int ((mo &&& (3 : Int32)) % (3 : Int32))), .val (.int (((mo.toUInt32 >>> ((2 : Int32) &&& 31).toUInt32).toInt32) &&& (7 : Int32))), .unset, .unset, .unset, .unset, .unset, .unset, .unset, .unset, .unset, .unset, .unset] [(.int (1 : Int32))]))
    refine own_st (fun _ kq_ => XS.goto X0.here hx rfl (pc0 := 27) (pc' := 31) rfl (hb hby at_27) (by decide) (by decide) kq_) ?_
    show OwnG _ _ _ _ _ _ _ (s₁.setTop (mkF m 31 #[.val (.int f1), .val (.int f2), .val (.int f3), .val (.int xx), .val (.int tt), .val (.int mo), .val (.int ((mo &&& (3 : Int32)) % (3 : Int32))), .val (.int (((mo.toUInt32 >>> ((2 : Int32) &&& 31).toUInt32).toInt32) &&& (7 : Int32))), .unset, .unset, .unset, .unset, .unset, .unset, .unset, .unset, .unset, .unset, .unset] [(.int (1 : Int32))]))
    exact own_b31 hx hZ hw hby hml hown hrt hlk f1 f2 f3 xx tt mo ((mo &&& (3 : Int32)) % (3 : Int32)) (((mo.toUInt32 >>> ((2 : Int32) &&& 31).toUInt32).toInt32) &&& (7 : Int32)) (1 : Int32) hq n0 X0 e0 N0 Z0
set_option maxRecDepth 65536 in
set_option maxHeartbeats 40000000 in
theorem comes_1 {Post : Tables → Env → Array Value → State → Outcome → State → Prop} (hpost : ∀ tb e args s v u, (limb_1_1.after args s (.returned v) u = true ∧ limb_1_2.after args s (.returned v) u = true ∧ True) → FrameEnd s (.returned v) u (Jvm.fieldLocs frame_1_writes args s ++ Jvm.arrayLocs frame_1_arrays args s ++ Jvm.staticLocs frame_1_statics s) 40 256 → Post tb e args s (.returned v) u) :
    ArmFor flags0 classFile x code maxLocals ret World_1 tables_1 room_1 Calls_1 rest_1 Pre_1 Post := by
  intro l hfl _ _ p e ha hc hk s m args below hf hA hF happ hP
  obtain ⟨hcalls, hrest, hpre⟩ := hP
  obtain ⟨-, -, -, hnamed, -, -, -, hat⟩ := (Spec.applies_iff hf).mp happ
  obtain ⟨hg, hn⟩ := and_e (Cond.before_iff.mp (show (Jvm.Cond.and given_1 narrow_1).before args s = true from hpre))
  obtain ⟨gc, r0⟩ := and_e hg
  obtain ⟨g0, r1⟩ := and_e r0
  obtain ⟨g1, r2⟩ := and_e r1
  obtain ⟨g2, r3⟩ := and_e r2
  obtain ⟨g3, r4⟩ := and_e r3
  obtain ⟨g4, r5⟩ := and_e r4
  obtain ⟨w0, w1, w2, w3, w4, w5, rfl⟩ : ∃ w0 w1 w2 w3 w4 w5 : Value, args = #[w0, w1, w2, w3, w4, w5] := by
    have hs : args.size = 6 := by simpa [Cond.value, given_1] using gc
    obtain ⟨L⟩ := args
    match L, hs with
    | [w0, w1, w2, w3, w4, w5], _ => exact ⟨w0, w1, w2, w3, w4, w5, rfl⟩
  have hw := fun d (hd : d ∈ tables_1) => atoms_spec (ws := Jvm.Cond.code x code maxLocals ret :: tables_1) hat d (List.mem_cons_of_mem _ hd)
  obtain ⟨i0, ei0⟩ := is_v g0
  obtain rfl : w0 = (.int i0) := Option.some.inj ei0
  obtain ⟨i1, ei1⟩ := is_v g1
  obtain rfl : w1 = (.int i1) := Option.some.inj ei1
  obtain ⟨i2, ei2⟩ := is_v g2
  obtain rfl : w2 = (.int i2) := Option.some.inj ei2
  obtain ⟨i3, ei3⟩ := is_v g3
  obtain rfl : w3 = (.int i3) := Option.some.inj ei3
  obtain ⟨i4, ei4⟩ := is_v g4
  obtain rfl : w4 = (.int i4) := Option.some.inj ei4
  obtain ⟨i5, ei5⟩ := is_v r5
  obtain rfl : w5 = (.int i5) := Option.some.inj ei5
  obtain ⟨n, o, h1, h2, h3, _, L, rfl, ⟨rfl, N⟩, hq⟩ := rm0 l s _ hw tables_1 i0 i1 i2 i3 i4 i5 s.heap s.heap.size (Nat.le_refl _) p e ha hc hk s m _ below hf ((Spec.applies_iff_loose hf).mp happ).1 ⟨rfl, State.Warmed39.refl s, rfl⟩ trivial
  refine ⟨n, _, h1, h2, h3, hpost _ _ _ _ _ _ ⟨Cond.after_iff.mpr rfl, Cond.after_iff.mpr (eq_i res_at (Term.int_eval (1)) rfl), trivial⟩ ⟨hq.1, hq.2.1, (hq.2.2.sift fun y hy => Or.inr (N y hy)).mono (by decide) (by decide)⟩⟩
theorem main_1_1 : Claimed_1_1 := comes_1 fun _ _ _ _ _ _ h hF => ⟨h.1, hF⟩
theorem main_1_2 : Claimed_1_2 := comes_1 fun _ _ _ _ _ _ h hF => ⟨h.2.1, hF⟩
end Jvm.Pilot.@@N@@
namespace Jvm.Pilot.@@N@@
open Jvm Jvm.ClassFile Sem Op Lib Jvm.Free Jvm.Stand Jvm.Pilot.@@N@@.Jvm.D
/-! MADE BY PROGRAM (witnessworld.py) out of the Statement's table words and the real class files: 11 classes; the members and pool entries that the words name. The judged class is class 1, her method 1. -/
namespace start1
open Jvm.ClassFile
def u (s : String) : CpInfo := .utf8 (stringToUtf16 s)
/-- a pool by its gaps: so many unusable entries, then the entry; so many at the end -/
def gap : Nat → List CpInfo → List CpInfo
  | 0, r => r
  | n + 1, r => .unusable :: gap n r
def poolList (es : List (Nat × CpInfo)) (last : Nat) : List CpInfo := es.foldr (fun e r => gap e.1 (e.2 :: r)) (gap last [])
def pool (es : List (Nat × CpInfo)) (last : Nat) : Array CpInfo := ⟨poolList es last⟩
def fileOf (pool : Array CpInfo) (this : Nat) (attrs : Array Attribute := #[]) (ms : Array MethodInfo := #[]) (fl : Nat := 33) (sup : Nat := 0) (ifs : Array Nat := #[]) (fds : Array FieldInfo := #[]) : ClassFile where
  minorVersion := 0
  majorVersion := 65
  constantPool := pool
  accessFlags := fl
  thisClass := this
  superClass := sup
  interfaces := ifs
  fields := fds
  methods := ms
  attributes := attrs
def plain (name : String) (sup : Option ClassId) : Class where
  name := name
  kind := .ordinary
  loader := none
  accessFlags := 33
  super := sup
  interfaces := #[]
  cf := none
  fields := #[]
  methods := #[]
  instanceTypes := #[]
  staticTypes := #[]
  resolved := #[]
  callSites := []
  init := .initialized
  statics := none
  mirror := none

def pool0 : Array CpInfo := pool [(5, u "<init>"), (0, u "()V"), (1, .class_ 10), (1, u "java/lang/Object")] 113

def k0c0 : Code := { maxStack := 0, maxLocals := 1, code := object_method_1_code, exceptionTable := #[], attributes := #[] }
def k0m0 : Method := { name := "<init>", desc := "()V", sig := { parameters := [], returnType := none }, accessFlags := 1, code := some k0c0 }
/-- java/lang/Object -/
def k0 : Class := { plain "java/lang/Object" none with
  accessFlags := 33
  interfaces := #[]
  cf := some (fileOf pool0 8 #[] #[{ accessFlags := 1, nameIndex := 5, descriptorIndex := 6, attributes := #[] }] 33 0 #[] #[])
  fields := #[]
  methods := #[k0m0]
  instanceTypes := #[]
  staticTypes := #[]
  resolved := Array.replicate 124 none
  statics := none }

def pool1 : Array CpInfo := pool [(2, .class_ 4), (0, .nameAndType 5 6), (0, u "java/lang/Object"), (0, u "<init>"), (0, u "()V"), (0, .class_ 8), (0, u "com/example/triptych/triptych/reasoning/Links"), (0, .methodref 7 3), (0, .methodref 7 11), (0, .nameAndType 12 13), (0, u "addObject"), (0, u "(I)V"), (0, .methodref 7 15), (0, .nameAndType 16 17), (0, u "addRole"), (0, u "(III)V"), (0, .methodref 7 19), (0, .nameAndType 20 17), (0, u "addFeature"), (0, .methodref 7 22), (0, .nameAndType 23 24), (0, u "featureTarget"), (0, u "(II)I"), (0, .class_ 26), (0, u "com/example/triptych/triptych/reasoning/LinksFeatureTargetPinLaw"), (2, u "law"), (0, u "(IIIIII)Z")] 3

def k1m0 : Method := { name := "<init>", desc := "()V", sig := { parameters := [], returnType := none }, accessFlags := 1, code := none }
def k1c1 : Code := { maxStack := 4, maxLocals := 19, code := code, exceptionTable := #[], attributes := #[] }
def k1m1 : Method := { name := "law", desc := "(IIIIII)Z", sig := { parameters := [.int, .int, .int, .int, .int, .int], returnType := some .boolean }, accessFlags := 9, code := some k1c1 }
/-- com/example/triptych/triptych/reasoning/LinksFeatureTargetPinLaw -/
def k1 : Class := { plain "com/example/triptych/triptych/reasoning/LinksFeatureTargetPinLaw" (some 0) with
  accessFlags := 49
  interfaces := #[]
  cf := some (fileOf pool1 25 #[] #[{ accessFlags := 1, nameIndex := 5, descriptorIndex := 6, attributes := #[] }, { accessFlags := 9, nameIndex := 29, descriptorIndex := 30, attributes := #[] }] 49 2 #[] #[])
  fields := #[]
  methods := #[k1m0, k1m1]
  instanceTypes := #[]
  staticTypes := #[]
  resolved := Array.replicate 34 none
  statics := none }

def pool2 : Array CpInfo := pool [(1, .methodref 2 3), (0, .class_ 4), (0, .nameAndType 5 6), (0, u "java/lang/Object"), (0, u "<init>"), (0, u "()V"), (0, .fieldref 8 9), (0, .class_ 10), (0, .nameAndType 11 12), (0, u "com/example/triptych/triptych/reasoning/Links"), (0, u "sources"), (0, u "[I"), (0, .fieldref 8 14), (0, .nameAndType 15 12), (0, u "attributes"), (0, .fieldref 8 17), (0, .nameAndType 18 12), (0, u "targets"), (0, .fieldref 8 20), (0, .nameAndType 21 12), (0, u "nextOut"), (0, .fieldref 8 23), (0, .nameAndType 24 12), (0, u "nextIn"), (0, .fieldref 8 26), (0, .nameAndType 27 28), (0, u "roles"), (0, u "[Z"), (0, .fieldref 8 30), (0, .nameAndType 31 12), (0, u "firstOut"), (0, .fieldref 8 33), (0, .nameAndType 34 12), (0, u "lastRole"), (0, .fieldref 8 36), (0, .nameAndType 37 12), (0, u "firstFeature"), (0, .fieldref 8 39), (0, .nameAndType 40 12), (0, u "lastFeature"), (0, .fieldref 8 42), (0, .nameAndType 43 12), (0, u "firstIn"), (0, .fieldref 8 45), (0, .nameAndType 46 12), (0, u "lastIn"), (0, .fieldref 8 48), (0, .nameAndType 49 50), (0, u "count"), (0, u "I"), (0, .fieldref 8 52), (0, .nameAndType 53 54), (0, u "features"), (0, u "Z"), (9, .methodref 8 65), (0, .nameAndType 66 67), (0, u "newLink"), (0, u "(III)I"), (0, .methodref 8 69), (0, .nameAndType 70 71), (0, u "chainRole"), (0, u "(I)V"), (0, .methodref 8 73), (0, .nameAndType 74 75), (0, u "chainFeature"), (0, u "(II)V"), (4, .methodref 8 81), (0, .nameAndType 82 83), (0, u "leadsTo"), (0, u "(III)Z"), (0, .methodref 8 85), (0, .nameAndType 86 87), (0, u "append"), (0, u "([I[I[III)V"), (3, u "(II)I"), (13, u "NONE"), (5, u "addObject"), (1, u "addRole"), (0, u "(III)V"), (0, u "addFeature"), (0, u "featureTarget")] 33

def k2c0 : Code := { maxStack := 2, maxLocals := 1, code := prog_220_method_1_code, exceptionTable := #[], attributes := #[] }
def k2m0 : Method := { name := "<init>", desc := "()V", sig := { parameters := [], returnType := none }, accessFlags := 0, code := some k2c0 }
def k2c1 : Code := { maxStack := 3, maxLocals := 2, code := prog_220_method_3_code, exceptionTable := #[], attributes := #[] }
def k2m1 : Method := { name := "addObject", desc := "(I)V", sig := { parameters := [.int], returnType := none }, accessFlags := 0, code := some k2c1 }
def k2c2 : Code := { maxStack := 4, maxLocals := 5, code := prog_220_method_5_code, exceptionTable := #[], attributes := #[] }
def k2m2 : Method := { name := "addRole", desc := "(III)V", sig := { parameters := [.int, .int, .int], returnType := none }, accessFlags := 0, code := some k2c2 }
def k2c3 : Code := { maxStack := 4, maxLocals := 5, code := prog_220_method_6_code, exceptionTable := #[], attributes := #[] }
def k2m3 : Method := { name := "addFeature", desc := "(III)V", sig := { parameters := [.int, .int, .int], returnType := none }, accessFlags := 0, code := some k2c3 }
def k2c4 : Code := { maxStack := 2, maxLocals := 4, code := prog_220_method_7_code, exceptionTable := #[], attributes := #[] }
def k2m4 : Method := { name := "featureTarget", desc := "(II)I", sig := { parameters := [.int, .int], returnType := some .int }, accessFlags := 0, code := some k2c4 }
def k2c5 : Code := { maxStack := 5, maxLocals := 3, code := prog_220_method_12_code, exceptionTable := #[], attributes := #[] }
def k2m5 : Method := { name := "chainRole", desc := "(I)V", sig := { parameters := [.int], returnType := none }, accessFlags := 2, code := some k2c5 }
def k2c6 : Code := { maxStack := 2, maxLocals := 5, code := prog_220_method_13_code, exceptionTable := #[], attributes := #[] }
def k2m6 : Method := { name := "leadsTo", desc := "(III)Z", sig := { parameters := [.int, .int, .int], returnType := some .boolean }, accessFlags := 0, code := some k2c6 }
def k2c7 : Code := { maxStack := 4, maxLocals := 4, code := prog_220_method_20_code, exceptionTable := #[], attributes := #[] }
def k2m7 : Method := { name := "newLink", desc := "(III)I", sig := { parameters := [.int, .int, .int], returnType := some .int }, accessFlags := 2, code := some k2c7 }
def k2c8 : Code := { maxStack := 5, maxLocals := 3, code := prog_220_method_22_code, exceptionTable := #[], attributes := #[] }
def k2m8 : Method := { name := "chainFeature", desc := "(II)V", sig := { parameters := [.int, .int], returnType := none }, accessFlags := 0, code := some k2c8 }
def k2c9 : Code := { maxStack := 3, maxLocals := 5, code := prog_220_method_23_code, exceptionTable := #[], attributes := #[] }
def k2m9 : Method := { name := "append", desc := "([I[I[III)V", sig := { parameters := [(.array .int), (.array .int), (.array .int), .int, .int], returnType := none }, accessFlags := 10, code := some k2c9 }
/-- com/example/triptych/triptych/reasoning/Links -/
def k2 : Class := { plain "com/example/triptych/triptych/reasoning/Links" (some 0) with
  accessFlags := 48
  interfaces := #[]
  cf := some (fileOf pool2 8 #[] #[{ accessFlags := 0, nameIndex := 5, descriptorIndex := 6, attributes := #[] }, { accessFlags := 0, nameIndex := 111, descriptorIndex := 71, attributes := #[] }, { accessFlags := 0, nameIndex := 113, descriptorIndex := 114, attributes := #[] }, { accessFlags := 0, nameIndex := 115, descriptorIndex := 114, attributes := #[] }, { accessFlags := 0, nameIndex := 116, descriptorIndex := 91, attributes := #[] }, { accessFlags := 2, nameIndex := 70, descriptorIndex := 71, attributes := #[] }, { accessFlags := 0, nameIndex := 82, descriptorIndex := 83, attributes := #[] }, { accessFlags := 2, nameIndex := 66, descriptorIndex := 67, attributes := #[] }, { accessFlags := 0, nameIndex := 74, descriptorIndex := 75, attributes := #[] }, { accessFlags := 10, nameIndex := 86, descriptorIndex := 87, attributes := #[] }] 48 2 #[] #[{ accessFlags := 26, nameIndex := 105, descriptorIndex := 50, attributes := #[] }, { accessFlags := 0, nameIndex := 11, descriptorIndex := 12, attributes := #[] }, { accessFlags := 0, nameIndex := 15, descriptorIndex := 12, attributes := #[] }, { accessFlags := 0, nameIndex := 18, descriptorIndex := 12, attributes := #[] }, { accessFlags := 0, nameIndex := 21, descriptorIndex := 12, attributes := #[] }, { accessFlags := 0, nameIndex := 24, descriptorIndex := 12, attributes := #[] }, { accessFlags := 0, nameIndex := 27, descriptorIndex := 28, attributes := #[] }, { accessFlags := 0, nameIndex := 49, descriptorIndex := 50, attributes := #[] }, { accessFlags := 0, nameIndex := 53, descriptorIndex := 54, attributes := #[] }, { accessFlags := 0, nameIndex := 31, descriptorIndex := 12, attributes := #[] }, { accessFlags := 2, nameIndex := 34, descriptorIndex := 12, attributes := #[] }, { accessFlags := 0, nameIndex := 37, descriptorIndex := 12, attributes := #[] }, { accessFlags := 2, nameIndex := 40, descriptorIndex := 12, attributes := #[] }, { accessFlags := 0, nameIndex := 43, descriptorIndex := 12, attributes := #[] }, { accessFlags := 2, nameIndex := 46, descriptorIndex := 12, attributes := #[] }])
  fields := #[{ name := "NONE", type := .int, accessFlags := 26, slot := 0, constantValue := 0 }, { name := "sources", type := (.array .int), accessFlags := 0, slot := 0, constantValue := 0 }, { name := "attributes", type := (.array .int), accessFlags := 0, slot := 1, constantValue := 0 }, { name := "targets", type := (.array .int), accessFlags := 0, slot := 2, constantValue := 0 }, { name := "nextOut", type := (.array .int), accessFlags := 0, slot := 3, constantValue := 0 }, { name := "nextIn", type := (.array .int), accessFlags := 0, slot := 4, constantValue := 0 }, { name := "roles", type := (.array .boolean), accessFlags := 0, slot := 5, constantValue := 0 }, { name := "count", type := .int, accessFlags := 0, slot := 6, constantValue := 0 }, { name := "features", type := .boolean, accessFlags := 0, slot := 7, constantValue := 0 }, { name := "firstOut", type := (.array .int), accessFlags := 0, slot := 8, constantValue := 0 }, { name := "lastRole", type := (.array .int), accessFlags := 2, slot := 9, constantValue := 0 }, { name := "firstFeature", type := (.array .int), accessFlags := 0, slot := 10, constantValue := 0 }, { name := "lastFeature", type := (.array .int), accessFlags := 2, slot := 11, constantValue := 0 }, { name := "firstIn", type := (.array .int), accessFlags := 0, slot := 12, constantValue := 0 }, { name := "lastIn", type := (.array .int), accessFlags := 2, slot := 13, constantValue := 0 }]
  methods := #[k2m0, k2m1, k2m2, k2m3, k2m4, k2m5, k2m6, k2m7, k2m8, k2m9]
  instanceTypes := #[(.array .int), (.array .int), (.array .int), (.array .int), (.array .int), (.array .boolean), .int, .boolean, (.array .int), (.array .int), (.array .int), (.array .int), (.array .int), (.array .int)]
  staticTypes := #[.int]
  resolved := Array.replicate 150 none
  statics := none }

def pool3 : Array CpInfo := pool [(1, u "java/lang/Cloneable"), (0, .class_ 1), (0, u "java/lang/Object"), (0, .class_ 3)] 3

/-- java/lang/Cloneable -/
def k3 : Class := { plain "java/lang/Cloneable" (some 0) with
  accessFlags := 1537
  interfaces := #[]
  cf := some (fileOf pool3 2 #[] #[] 1537 4 #[] #[])
  fields := #[]
  methods := #[]
  instanceTypes := #[]
  staticTypes := #[]
  resolved := Array.replicate 8 none
  statics := none }

def pool4 : Array CpInfo := pool [(1, u "java/io/Serializable"), (0, .class_ 1), (0, u "java/lang/Object"), (0, .class_ 3)] 3

/-- java/io/Serializable -/
def k4 : Class := { plain "java/io/Serializable" (some 0) with
  accessFlags := 1537
  interfaces := #[]
  cf := some (fileOf pool4 2 #[] #[] 1537 4 #[] #[])
  fields := #[]
  methods := #[]
  instanceTypes := #[]
  staticTypes := #[]
  resolved := Array.replicate 8 none
  statics := none }

/-- the primitive boolean -/
def k5 : Class := { plain "boolean" none with kind := .primitive 'Z', accessFlags := 0x411 }
/-- [Z -/
def k6 : Class := { plain "[Z" (some 0) with kind := .array 5 .boolean, interfaces := #[3, 4], accessFlags := 1041 }

/-- the primitive byte -/
def k7 : Class := { plain "byte" none with kind := .primitive 'B', accessFlags := 0x411 }
/-- [B -/
def k8 : Class := { plain "[B" (some 0) with kind := .array 7 .byte, interfaces := #[3, 4], accessFlags := 1041 }

/-- the primitive int -/
def k9 : Class := { plain "int" none with kind := .primitive 'I', accessFlags := 0x411 }
/-- [I -/
def k10 : Class := { plain "[I" (some 0) with kind := .array 9 .int, interfaces := #[3, 4], accessFlags := 1041 }

def heap : Heap := #[]
def classes : Array Class := #[k0, k1, k2, k3, k4, k5, k6, k7, k8, k9, k10]
def interned : List (Array UInt16 × Addr) := []
def slotsUsed : Nat := 0
def theMethod : MethodId := ⟨1, 1⟩
def args0 : Array Value := #[.int 3, .int 2, .int 5, .int 77, .int 9, .int 255]
def aboutOver (below : List Frame) : State where
  vm := { classes := classes, interned := interned.toArray }
  heap := heap
  slotsUsed := slotsUsed
  threads := #[{ frames := .invoking theMethod args0 :: below }]
def below0 : List Frame := [.native { method := ⟨0, 0⟩, args := #[] }]
def about1 : State := aboutOver below0
def p0 : Program := .bare "" "" ""
def e0 : Env := launch0.env 0 0 0
theorem w_frames : about1.frames = Frame.invoking theMethod args0 :: below0 := rfl
set_option maxRecDepth 65536 in
theorem w_args : argsFit about1.vm theMethod args0 = true := by decide +kernel
set_option maxRecDepth 65536 in
theorem w_heap : heapFits about1 = true := by decide +kernel
set_option maxRecDepth 65536 in
theorem w_runnable : about1.curStatus? = some .runnable := by decide +kernel
set_option maxRecDepth 65536 in
theorem w_alone : about1.alone = true := by decide +kernel
set_option maxRecDepth 65536 in
theorem w_named : about1.methodNamed? x = some theMethod := by decide +kernel
set_option maxRecDepth 65536 in
theorem w_hears : about1.hears theMethod below0 = true := by decide +kernel
set_option maxRecDepth 65536 in
theorem w_ripe : about1.ripe theMethod args0 below0 = true := by decide +kernel
theorem w_running : about1.status = .running := rfl
set_option maxRecDepth 65536 in
theorem w_room : about1.hasRoom e0.platform room_1 = true :=
  launch0.hasRoom_least _ room_1 (by decide +kernel) (by decide +kernel) (by decide +kernel) (by decide +kernel) (by decide +kernel) (by decide +kernel)
theorem allAtoms_all (ts : List Jvm.Cond) (a : Array Jvm.Value) (st : Jvm.State) : (allAtoms ts).before a st = ts.all (fun c => c.before a st) := by
  induction ts with
  | nil => rfl
  | cons c t ih =>
    show (Jvm.Cond.and c (allAtoms t)).before a st = _
    rw [Jvm.Cond.before_and, ih, List.all_cons]
def words1 : List Jvm.Cond := Jvm.Cond.code x code maxLocals ret :: tables_1
/-- a 'code' word, met by the world's own term for the bytes: nothing is compared byte by byte -/
theorem code_word {y : MethodName} {bytes : ByteArray} {mx : Nat} {rt : Option FieldType} {a : Array Value} {s : State} {m : MethodId} {meth : Method} {c : Code} (h1 : s.methodNamed? y = some m) (h2 : s.vm.method? m = some meth) (h3 : meth.code = some c) (h4 : c.code = bytes)
    (h5 : (c.maxLocals == mx && c.exceptionTable.isEmpty && decide (c.maxStack ≤ mostOperands) && decide (meth.sig.returnType = rt) && !meth.locks && decide (parseMethodDescriptor y.desc = some meth.sig)) = true) : (Jvm.Cond.code y bytes mx rt).before a s = true := by
  simp only [Bool.and_eq_true, beq_iff_eq, Bool.not_eq_true', decide_eq_true_eq] at h5
  obtain ⟨⟨⟨⟨⟨g1, g2⟩, g3⟩, g4⟩, g5⟩, g6⟩ := h5
  simp [Cond.before, Cond.holds, Cond.value, h1, h2, h3, h4, g1, g2, g3, g4, g5, g6]
def isCode : Jvm.Cond → Bool
  | .code _ _ _ _ => true
  | _ => false
theorem all_split {L : List Jvm.Cond} {P : Jvm.Cond → Bool} (h1 : L.all (fun c => isCode c || P c) = true) (h2 : ∀ c ∈ L.filter isCode, P c = true) : L.all P = true := by
  refine List.all_eq_true.mpr fun c hc => ?_
  have h := List.all_eq_true.mp h1 c hc
  rcases Bool.eq_false_or_eq_true (isCode c) with hi | hi
  · exact h2 c (List.mem_filter.mpr ⟨hc, hi⟩)
  · simpa [hi] using h
set_option maxRecDepth 65536 in
theorem w_c0 : (Jvm.Cond.code x code maxLocals ret).before args0 about1 = true := code_word (m := ⟨1, 1⟩) (meth := k1m1) (c := k1c1) (by decide +kernel) rfl rfl rfl (by decide +kernel)
set_option maxRecDepth 65536 in
theorem w_c1 : (Jvm.Cond.code ({ cls := "com/example/triptych/triptych/reasoning/Links", name := "<init>", desc := "()V" } : Jvm.MethodName) prog_220_method_1_code (1 : Nat) (Option.none : Option Jvm.ClassFile.FieldType)).before args0 about1 = true := code_word (m := ⟨2, 0⟩) (meth := k2m0) (c := k2c0) (by decide +kernel) rfl rfl rfl (by decide +kernel)
set_option maxRecDepth 65536 in
theorem w_c2 : (Jvm.Cond.code ({ cls := "java/lang/Object", name := "<init>", desc := "()V" } : Jvm.MethodName) object_method_1_code (1 : Nat) (Option.none : Option Jvm.ClassFile.FieldType)).before args0 about1 = true := code_word (m := ⟨0, 0⟩) (meth := k0m0) (c := k0c0) (by decide +kernel) rfl rfl rfl (by decide +kernel)
set_option maxRecDepth 65536 in
theorem w_c3 : (Jvm.Cond.code ({ cls := "com/example/triptych/triptych/reasoning/Links", name := "addObject", desc := "(I)V" } : Jvm.MethodName) prog_220_method_3_code (2 : Nat) (Option.none : Option Jvm.ClassFile.FieldType)).before args0 about1 = true := code_word (m := ⟨2, 1⟩) (meth := k2m1) (c := k2c1) (by decide +kernel) rfl rfl rfl (by decide +kernel)
set_option maxRecDepth 65536 in
theorem w_c4 : (Jvm.Cond.code ({ cls := "com/example/triptych/triptych/reasoning/Links", name := "addRole", desc := "(III)V" } : Jvm.MethodName) prog_220_method_5_code (5 : Nat) (Option.none : Option Jvm.ClassFile.FieldType)).before args0 about1 = true := code_word (m := ⟨2, 2⟩) (meth := k2m2) (c := k2c2) (by decide +kernel) rfl rfl rfl (by decide +kernel)
set_option maxRecDepth 65536 in
theorem w_c5 : (Jvm.Cond.code ({ cls := "com/example/triptych/triptych/reasoning/Links", name := "newLink", desc := "(III)I" } : Jvm.MethodName) prog_220_method_20_code (4 : Nat) (Option.some Jvm.ClassFile.FieldType.int)).before args0 about1 = true := code_word (m := ⟨2, 7⟩) (meth := k2m7) (c := k2c7) (by decide +kernel) rfl rfl rfl (by decide +kernel)
set_option maxRecDepth 65536 in
theorem w_c6 : (Jvm.Cond.code ({ cls := "com/example/triptych/triptych/reasoning/Links", name := "chainRole", desc := "(I)V" } : Jvm.MethodName) prog_220_method_12_code (3 : Nat) (Option.none : Option Jvm.ClassFile.FieldType)).before args0 about1 = true := code_word (m := ⟨2, 5⟩) (meth := k2m5) (c := k2c5) (by decide +kernel) rfl rfl rfl (by decide +kernel)
set_option maxRecDepth 65536 in
theorem w_c7 : (Jvm.Cond.code ({ cls := "com/example/triptych/triptych/reasoning/Links", name := "leadsTo", desc := "(III)Z" } : Jvm.MethodName) prog_220_method_13_code (5 : Nat) (Option.some Jvm.ClassFile.FieldType.boolean)).before args0 about1 = true := code_word (m := ⟨2, 6⟩) (meth := k2m6) (c := k2c6) (by decide +kernel) rfl rfl rfl (by decide +kernel)
set_option maxRecDepth 65536 in
theorem w_c8 : (Jvm.Cond.code ({ cls := "com/example/triptych/triptych/reasoning/Links", name := "append", desc := "([I[I[III)V" } : Jvm.MethodName) prog_220_method_23_code (5 : Nat) (Option.none : Option Jvm.ClassFile.FieldType)).before args0 about1 = true := code_word (m := ⟨2, 9⟩) (meth := k2m9) (c := k2c9) (by decide +kernel) rfl rfl rfl (by decide +kernel)
set_option maxRecDepth 65536 in
theorem w_c9 : (Jvm.Cond.code ({ cls := "com/example/triptych/triptych/reasoning/Links", name := "featureTarget", desc := "(II)I" } : Jvm.MethodName) prog_220_method_7_code (4 : Nat) (Option.some Jvm.ClassFile.FieldType.int)).before args0 about1 = true := code_word (m := ⟨2, 4⟩) (meth := k2m4) (c := k2c4) (by decide +kernel) rfl rfl rfl (by decide +kernel)
set_option maxRecDepth 65536 in
theorem w_c10 : (Jvm.Cond.code ({ cls := "com/example/triptych/triptych/reasoning/Links", name := "addFeature", desc := "(III)V" } : Jvm.MethodName) prog_220_method_6_code (5 : Nat) (Option.none : Option Jvm.ClassFile.FieldType)).before args0 about1 = true := code_word (m := ⟨2, 3⟩) (meth := k2m3) (c := k2c3) (by decide +kernel) rfl rfl rfl (by decide +kernel)
set_option maxRecDepth 65536 in
theorem w_c11 : (Jvm.Cond.code ({ cls := "com/example/triptych/triptych/reasoning/Links", name := "chainFeature", desc := "(II)V" } : Jvm.MethodName) prog_220_method_22_code (3 : Nat) (Option.none : Option Jvm.ClassFile.FieldType)).before args0 about1 = true := code_word (m := ⟨2, 8⟩) (meth := k2m8) (c := k2c8) (by decide +kernel) rfl rfl rfl (by decide +kernel)
def codes1 : List Jvm.Cond := [Jvm.Cond.code x code maxLocals ret, Jvm.Cond.code ({ cls := "com/example/triptych/triptych/reasoning/Links", name := "<init>", desc := "()V" } : Jvm.MethodName) prog_220_method_1_code (1 : Nat) (Option.none : Option Jvm.ClassFile.FieldType), Jvm.Cond.code ({ cls := "java/lang/Object", name := "<init>", desc := "()V" } : Jvm.MethodName) object_method_1_code (1 : Nat) (Option.none : Option Jvm.ClassFile.FieldType), Jvm.Cond.code ({ cls := "com/example/triptych/triptych/reasoning/Links", name := "addObject", desc := "(I)V" } : Jvm.MethodName) prog_220_method_3_code (2 : Nat) (Option.none : Option Jvm.ClassFile.FieldType), Jvm.Cond.code ({ cls := "com/example/triptych/triptych/reasoning/Links", name := "addRole", desc := "(III)V" } : Jvm.MethodName) prog_220_method_5_code (5 : Nat) (Option.none : Option Jvm.ClassFile.FieldType), Jvm.Cond.code ({ cls := "com/example/triptych/triptych/reasoning/Links", name := "newLink", desc := "(III)I" } : Jvm.MethodName) prog_220_method_20_code (4 : Nat) (Option.some Jvm.ClassFile.FieldType.int), Jvm.Cond.code ({ cls := "com/example/triptych/triptych/reasoning/Links", name := "chainRole", desc := "(I)V" } : Jvm.MethodName) prog_220_method_12_code (3 : Nat) (Option.none : Option Jvm.ClassFile.FieldType), Jvm.Cond.code ({ cls := "com/example/triptych/triptych/reasoning/Links", name := "leadsTo", desc := "(III)Z" } : Jvm.MethodName) prog_220_method_13_code (5 : Nat) (Option.some Jvm.ClassFile.FieldType.boolean), Jvm.Cond.code ({ cls := "com/example/triptych/triptych/reasoning/Links", name := "append", desc := "([I[I[III)V" } : Jvm.MethodName) prog_220_method_23_code (5 : Nat) (Option.none : Option Jvm.ClassFile.FieldType), Jvm.Cond.code ({ cls := "com/example/triptych/triptych/reasoning/Links", name := "featureTarget", desc := "(II)I" } : Jvm.MethodName) prog_220_method_7_code (4 : Nat) (Option.some Jvm.ClassFile.FieldType.int), Jvm.Cond.code ({ cls := "com/example/triptych/triptych/reasoning/Links", name := "addFeature", desc := "(III)V" } : Jvm.MethodName) prog_220_method_6_code (5 : Nat) (Option.none : Option Jvm.ClassFile.FieldType), Jvm.Cond.code ({ cls := "com/example/triptych/triptych/reasoning/Links", name := "chainFeature", desc := "(II)V" } : Jvm.MethodName) prog_220_method_22_code (3 : Nat) (Option.none : Option Jvm.ClassFile.FieldType)]
set_option maxRecDepth 65536 in
theorem codes_eq : words1.filter isCode = codes1 := rfl
theorem w_codes : ∀ c ∈ words1.filter isCode, c.before args0 about1 = true := by
  rw [codes_eq]
  intro c hc
  simp only [codes1, List.mem_cons, List.not_mem_nil, or_false] at hc
  rcases hc with rfl | rfl | rfl | rfl | rfl | rfl | rfl | rfl | rfl | rfl | rfl | rfl
  · exact w_c0
  · exact w_c1
  · exact w_c2
  · exact w_c3
  · exact w_c4
  · exact w_c5
  · exact w_c6
  · exact w_c7
  · exact w_c8
  · exact w_c9
  · exact w_c10
  · exact w_c11
set_option maxRecDepth 65536 in
theorem w_t1 : (words1.take 24).all (fun c => isCode c || c.before args0 about1) = true := by decide +kernel
set_option maxRecDepth 65536 in
theorem w_t2 : ((words1.drop 24).take 24).all (fun c => isCode c || c.before args0 about1) = true := by decide +kernel
set_option maxRecDepth 65536 in
theorem w_t3 : (((words1.drop 24).drop 24).take 24).all (fun c => isCode c || c.before args0 about1) = true := by decide +kernel
set_option maxRecDepth 65536 in
theorem w_t4 : (((words1.drop 24).drop 24).drop 24).all (fun c => isCode c || c.before args0 about1) = true := by decide +kernel
theorem w_tables : (allAtoms (Jvm.Cond.code x code maxLocals ret :: tables_1)).before args0 about1 = true := by
  rw [allAtoms_all]
  show words1.all (fun c => c.before args0 about1) = true
  refine all_split ?_ w_codes
  rw [← List.take_append_drop 24 words1, List.all_append, w_t1, ← List.take_append_drop 24 (words1.drop 24), List.all_append, w_t2, ← List.take_append_drop 24 ((words1.drop 24).drop 24), List.all_append, w_t3, w_t4]
  rfl
set_option maxRecDepth 65536 in
theorem w_case : (Jvm.Cond.and given_1 narrow_1).before args0 about1 = true := by decide +kernel
theorem w_applies : (headSpec (Jvm.Cond.code x code maxLocals ret :: tables_1) room_1).applies x e0.platform about1 = true :=
  (Spec.applies_iff w_frames).mpr ⟨w_running, w_runnable, w_alone, w_named, w_hears, w_ripe, w_room, w_tables⟩
theorem atStart : AtStart classFile x code maxLocals ret World_1 tables_1 room_1 Calls_1 rest_1 Pre_1 launch0 p0 e0 about1 theMethod args0 below0 :=
  ⟨lists_1, trivial, launch0.admits_env _ _ _, launch0.least_env, fairChoices_fair.cas, fairChoices_fair.clock, w_frames, w_args, w_heap, w_applies, trivial, trivial, w_case⟩
end start1
theorem witness_1 : WitnessClaimed_1 := ⟨start1.p0, start1.e0, start1.about1, start1.theMethod, start1.args0, start1.below0, start1.atStart⟩
end Jvm.Pilot.@@N@@
