import JvmDerived
import JvmDerived.Pilot.@@N@@Statement
import JvmDerived.Pilot.@@N@@Code
set_option linter.unusedVariables false
set_option linter.unusedSimpArgs false
@@BLOCK:NumsL.lean.txt@@
namespace Jvm.Pilot.@@N@@
open Jvm Jvm.ClassFile Sem Op Lib Jvm.Free Jvm.Stand Jvm.LawKit Jvm.RoadKit Bundle Jvm.Pilot.@@N@@.Jvm.D
/-- from the state σ the run comes to an end that Q allows -/
def OwnG (rc rs : Nat) (Q : Option Value → Heap → List Loc → Prop) (p : Program) (e : Env) (below : List Frame) (s σ : State) : Prop :=
  ∃ s₂ o, Steps p.tables e below σ s₂ ∧ s₂.status = .running ∧ Ended s₂ below o ∧ ∃ v L, o = .returned v ∧ Q v s₂.heap L ∧ FrameEnd s o s₂ L rc rs
section Own
variable {p : Program} {l : Launch} {e : Env} {R : Room} {s : State} {m : MethodId} {args : Array Value} {below : List Frame} {meth : Method} {c : Code} {T σ σ' : State} {locs : List Loc} {cells slots rc rs : Nat} {Q : Option Value → Heap → List Loc → Prop}
theorem own_st (h : ∀ target, Steps p.tables e below σ' target → Steps p.tables e below σ target) (g : OwnG rc rs Q p e below s σ') : OwnG rc rs Q p e below s σ := by
  obtain ⟨s₂, o, h1, r⟩ := g; exact ⟨s₂, o, h _ h1, r⟩
theorem own_go (h : Steps p.tables e below σ σ') (g : OwnG rc rs Q p e below s σ') : OwnG rc rs Q p e below s σ := by
  obtain ⟨s₂, o, h1, r⟩ := g; exact ⟨s₂, o, h.trans h1, r⟩
theorem own_retN (X : Stand p l e R s m args below meth c T locs cells slots) (hx : p.tables.exec = Jvm.exec) {pc : Nat} {Ls : Array Slot} {z : Int32} {rest : List Value} {t : FieldType} (hret : meth.sig.returnType = some t) (hlk : meth.locks = false) (ht : t = .boolean ∨ t = .byte ∨ t = .char ∨ t = .short)
    (hd : decode c.code pc = .ok (.ireturn, 1)) (hc : cells ≤ rc) (hs : slots ≤ rs) (hQ : Q (some (.int (nar t z))) T.heap locs) : OwnG rc rs Q p e below s (T.setTop (mkF m pc Ls (.int z :: rest))) := by
  obtain ⟨fs, hr, hrun, hended, hW, hsame⟩ := X.leave (v := some (.int (nar t z))) (fun h => by rw [hret] at h; cases h) hlk
  exact ⟨_, _, retN X hx hret ht hd hr, hrun, hended, _, _, rfl, hQ, ⟨_, rfl⟩, hW, hsame.mono hc hs⟩
theorem own_retI (X : Stand p l e R s m args below meth c T locs cells slots) (hx : p.tables.exec = Jvm.exec) {pc : Nat} {Ls : Array Slot} {z : Int32} {rest : List Value} (hret : meth.sig.returnType = some .int) (hlk : meth.locks = false)
    (hd : decode c.code pc = .ok (.ireturn, 1)) (hc : cells ≤ rc) (hs : slots ≤ rs) (hQ : Q (some (.int z)) T.heap locs) : OwnG rc rs Q p e below s (T.setTop (mkF m pc Ls (.int z :: rest))) := by
  obtain ⟨fs, hr, hrun, hended, hW, hsame⟩ := X.leave (v := some (.int z)) (fun h => by rw [hret] at h; cases h) hlk
  exact ⟨_, _, retOut X hx hret rfl (Or.inl ⟨rfl, Or.inl rfl, _, rfl⟩) hd hr, hrun, hended, _, _, rfl, hQ, ⟨_, rfl⟩, hW, hsame.mono hc hs⟩
theorem own_retJ (X : Stand p l e R s m args below meth c T locs cells slots) (hx : p.tables.exec = Jvm.exec) {pc : Nat} {Ls : Array Slot} {z : Int64} {rest : List Value} (hret : meth.sig.returnType = some .long) (hlk : meth.locks = false)
    (hd : decode c.code pc = .ok (.lreturn, 1)) (hc : cells ≤ rc) (hs : slots ≤ rs) (hQ : Q (some (.long z)) T.heap locs) : OwnG rc rs Q p e below s (T.setTop (mkF m pc Ls (.long z :: rest))) := by
  obtain ⟨fs, hr, hrun, hended, hW, hsame⟩ := X.leave (v := some (.long z)) (fun h => by rw [hret] at h; cases h) hlk
  exact ⟨_, _, retOut X hx hret rfl (Or.inr (Or.inl ⟨rfl, rfl, _, rfl⟩)) hd hr, hrun, hended, _, _, rfl, hQ, ⟨_, rfl⟩, hW, hsame.mono hc hs⟩
theorem own_retA (X : Stand p l e R s m args below meth c T locs cells slots) (hx : p.tables.exec = Jvm.exec) {pc : Nat} {Ls : Array Slot} {a : Addr} {rest : List Value} {t : FieldType} (hret : meth.sig.returnType = some t) (hlk : meth.locks = false) (ht : t.isReference = true)
    (hd : decode c.code pc = .ok (.areturn, 1)) (hc : cells ≤ rc) (hs : slots ≤ rs) (hQ : Q (some (.ref a)) T.heap locs) : OwnG rc rs Q p e below s (T.setTop (mkF m pc Ls (.ref a :: rest))) := by
  obtain ⟨fs, hr, hrun, hended, hW, hsame⟩ := X.leave (v := some (.ref a)) (fun h => by rw [hret] at h; cases h) hlk
  exact ⟨_, _, retOut X hx hret (by cases t <;> first | rfl | cases ht) (Or.inr (Or.inr (Or.inr (Or.inr ⟨rfl, ht, rfl⟩)))) hd hr, hrun, hended, _, _, rfl, hQ, ⟨_, rfl⟩, hW, hsame.mono hc hs⟩
theorem own_retV (X : Stand p l e R s m args below meth c T locs cells slots) (hx : p.tables.exec = Jvm.exec) {pc : Nat} {Ls : Array Slot} (hret : meth.sig.returnType = none) (hlk : meth.locks = false)
    (hd : decode c.code pc = .ok (.return_, 1)) (hc : cells ≤ rc) (hs : slots ≤ rs) (hQ : Q none T.heap locs) : OwnG rc rs Q p e below s (T.setTop (mkF m pc Ls [])) := by
  obtain ⟨fs, hr, hrun, hended, hW, hsame⟩ := X.leave (v := none) (fun _ => rfl) hlk
  exact ⟨_, _, X.returnOut hx hret hd hr, hrun, hended, _, _, rfl, hQ, ⟨_, rfl⟩, hW, hsame.mono hc hs⟩
end Own
/-! arrays, by a function that says what each place holds -/
def Ary (Z : State) (h : Heap) (a : Addr) (ty : FieldType) (n : Nat) (f : Nat → Value) : Prop :=
  ∃ cl : Cell, Arr Z h a cl ty ∧ cl.slots.size = n ∧ n < 2147483648 ∧ (∀ j, j < n → cl.slots[j]? = some (f j)) ∧ ∀ j, j < n → fits ty (f j) = true
def own_up (f : Nat → Value) (i : Nat) (v : Value) : Nat → Value := fun j => if j = i then v else f j
section Arrays
variable {p : Program} {l : Launch} {e : Env} {R : Room} {s : State} {m : MethodId} {args : Array Value} {below : List Frame} {meth : Method} {c : Code} {T : State} {locs : List Loc} {cells slots : Nat} {Z : State} {h h' : Heap} {a b : Addr} {ty : FieldType} {n : Nat} {f f' : Nat → Value} {ws : List Addr} {sl : Nat} {v : Value}
theorem Ary.lt (A : Ary Z h a ty n f) : a < h.size := by obtain ⟨cl, A1, -⟩ := A; exact A1.lt
theorem Ary.ext (A : Ary Z h a ty n f) (E : Ext h h') : Ary Z h' a ty n f := by obtain ⟨cl, A1, r⟩ := A; exact ⟨cl, A1.ext E, r⟩
theorem Ary.other (A : Ary Z h a ty n f) (W : Wr h h' b sl v) (q : a ≠ b) : Ary Z h' a ty n f := by obtain ⟨cl, A1, r⟩ := A; exact ⟨cl, A1.other W q, r⟩
theorem Ary.keep (A : Ary Z h a ty n f) (K : Keep h h' ws) (q : a ∉ ws) : Ary Z h' a ty n f := by obtain ⟨cl, A1, r⟩ := A; exact ⟨cl, ⟨K.2.1 a cl A1.1 q, A1.2⟩, r⟩
theorem Ary.cong (A : Ary Z h a ty n f) (q : ∀ j, j < n → f j = f' j) : Ary Z h a ty n f' := by
  obtain ⟨cl, A1, r1, r2, r3, r4⟩ := A
  exact ⟨cl, A1, r1, r2, fun j hj => by rw [← q j hj]; exact r3 j hj, fun j hj => by rw [← q j hj]; exact r4 j hj⟩
theorem own_clamp {j : Int32} {i : Nat} (hj : j.toInt = (i : Int)) : j.toNatClampNeg = i ∧ ¬ j < 0 := by
  refine ⟨by rw [Int32.toNatClampNeg, hj]; rfl, ?_⟩
  rw [Int32.lt_iff_toInt_lt, hj]; have : (0 : Int32).toInt = 0 := rfl; omega
theorem own_in {cl : Cell} {j : Int32} {i : Nat} (hj : j.toInt = (i : Int)) (hs : cl.slots.size = n) (hi : i < n) : ¬ (j < 0 ∨ cl.slots.size ≤ j.toNatClampNeg) := by
  obtain ⟨h1, h2⟩ := own_clamp hj
  rintro (q | q)
  · exact h2 q
  · rw [h1, hs] at q; omega
theorem own_bl (X : Stand p l e R s m args below meth c T locs cells slots) (hx : p.tables.exec = Jvm.exec) (hZ : Z.Warmed39 s.vm) (eT : T.heap = h) (A : Ary Z h a .byte n f) {j : Int32} (i : Nat) (hj : j.toInt = (i : Int)) (hi : i < n) (hv : f i = v)
    {g : JFrame} (hg : g.method = m) {rest : List Value} (hs : g.stack = .int j :: .ref a :: rest) (hd : decode c.code g.pc = .ok (.baload, 1)) :
    ∀ target, Steps p.tables e below (T.setTop { g with pc := g.pc + 1, stack := v :: rest }) target → Steps p.tables e below (T.setTop g) target := by
  obtain ⟨cl, A1, r1, r2, r3, r4⟩ := A
  exact X.baloadBytes hx (by rw [eT]; exact A1.1) (State.isArrayOf_alike hZ.alike A1.2.1) A1.2.2 (own_in hj r1 hi) (by rw [(own_clamp hj).1, ← hv]; exact r3 i hi) hg hs hd
theorem own_il (X : Stand p l e R s m args below meth c T locs cells slots) (hx : p.tables.exec = Jvm.exec) (hZ : Z.Warmed39 s.vm) (eT : T.heap = h) (A : Ary Z h a .int n f) {j : Int32} (i : Nat) (hj : j.toInt = (i : Int)) (hi : i < n) (hv : f i = v)
    {g : JFrame} (hg : g.method = m) {rest : List Value} (hs : g.stack = .int j :: .ref a :: rest) (hd : decode c.code g.pc = .ok (.iaload, 1)) :
    ∀ target, Steps p.tables e below (T.setTop { g with pc := g.pc + 1, stack := v :: rest }) target → Steps p.tables e below (T.setTop g) target := by
  obtain ⟨cl, A1, r1, r2, r3, r4⟩ := A
  exact X.iaload hx (by rw [eT]; exact A1.1) (State.isArrayOf_alike hZ.alike A1.2.1) A1.2.2 (own_in hj r1 hi) (by rw [(own_clamp hj).1, ← hv]; exact r3 i hi) hg hs hd
theorem own_len (X : Stand p l e R s m args below meth c T locs cells slots) (hx : p.tables.exec = Jvm.exec) (hZ : Z.Warmed39 s.vm) (eT : T.heap = h) (A : Ary Z h a ty n f) {z : Int32} (hz : z = Int32.ofNat n)
    {g : JFrame} (hg : g.method = m) {rest : List Value} (hs : g.stack = .ref a :: rest) (hd : decode c.code g.pc = .ok (.arraylength, 1)) :
    ∀ target, Steps p.tables e below (T.setTop { g with pc := g.pc + 1, stack := .int z :: rest }) target → Steps p.tables e below (T.setTop g) target := by
  obtain ⟨cl, A1, r1, r2, r3, r4⟩ := A
  intro target k
  refine X.arraylength hx (by rw [eT]; exact A1.1) (State.isArrayOf_alike hZ.alike A1.2.1) hg hs hd target ?_
  rw [r1]; rw [hz] at k; exact k
theorem Ary.wr (A : Ary Z h a ty n f) {i : Nat} (hi : i < n) (W : Wr h h' a i v) (hf : fits ty v = true) : Ary Z h' a ty n (own_up f i v) := by
  obtain ⟨cl, A1, r1, r2, r3, r4⟩ := A
  refine ⟨_, A1.same W, by rw [sz_set]; exact r1, r2, fun j hj => ?_, fun j hj => ?_⟩
  · by_cases q : j = i
    · subst q; simp [own_up, Cell.setSlot, r1, hi]
    · simp only [own_up, if_neg q, Cell.setSlot]; rw [Array.getElem?_setIfInBounds_ne (Ne.symm q)]; exact r3 j hj
  · by_cases q : j = i
    · subst q; simp only [own_up, if_true]; exact hf
    · simp only [own_up, if_neg q]; exact r4 j hj
theorem own_sB (X : Stand p l e R s m args below meth c T locs cells slots) (hx : p.tables.exec = Jvm.exec) (hZ : Z.Warmed39 s.vm) (eT : T.heap = h) (A : Ary Z h a .byte n f) {j x : Int32} (i : Nat) (hj : j.toInt = (i : Int)) (hi : i < n)
    {g : JFrame} (hg : g.method = m) {rest : List Value} (hs : g.stack = .int x :: .int j :: .ref a :: rest) (hd : decode c.code g.pc = .ok (.bastore, 1)) :
    ∃ T' h', Stand p l e R s m args below meth c T' (locs ++ [⟨a, i⟩]) cells slots ∧ T'.heap = h' ∧ Wr h h' a i (.int (x.toInt8.toInt32)) ∧ Ary Z h' a .byte n (own_up f i (.int (x.toInt8.toInt32))) ∧ ∀ target, Steps p.tables e below (T'.setTop { g with pc := g.pc + 1, stack := rest }) target → Steps p.tables e below (T.setTop g) target := by
  obtain ⟨cl, A1, r1, r⟩ := A
  obtain ⟨T', h', X', e', W, st⟩ := stB X hx hZ eT A1 (own_in hj r1 hi) hg hs hd
  rw [(own_clamp hj).1] at X' W
  exact ⟨T', h', X', e', W, Ary.wr ⟨cl, A1, r1, r⟩ hi W (fits_nar_byte x), st⟩
theorem own_sZ (X : Stand p l e R s m args below meth c T locs cells slots) (hx : p.tables.exec = Jvm.exec) (hZ : Z.Warmed39 s.vm) (eT : T.heap = h) (A : Ary Z h a .boolean n f) {j x : Int32} (i : Nat) (hj : j.toInt = (i : Int)) (hi : i < n)
    {g : JFrame} (hg : g.method = m) {rest : List Value} (hs : g.stack = .int x :: .int j :: .ref a :: rest) (hd : decode c.code g.pc = .ok (.bastore, 1)) :
    ∃ T' h', Stand p l e R s m args below meth c T' (locs ++ [⟨a, i⟩]) cells slots ∧ T'.heap = h' ∧ Wr h h' a i (.int (nar .boolean x)) ∧ Ary Z h' a .boolean n (own_up f i (.int (nar .boolean x))) ∧ ∀ target, Steps p.tables e below (T'.setTop { g with pc := g.pc + 1, stack := rest }) target → Steps p.tables e below (T.setTop g) target := by
  obtain ⟨cl, A1, r1, r⟩ := A
  obtain ⟨T', h', X', e', W, st⟩ := stZ X hx hZ eT A1 (own_in hj r1 hi) hg hs hd
  rw [(own_clamp hj).1] at X' W
  exact ⟨T', h', X', e', W, Ary.wr ⟨cl, A1, r1, r⟩ hi W (fits_nar_bool x), st⟩
theorem own_sI (X : Stand p l e R s m args below meth c T locs cells slots) (hx : p.tables.exec = Jvm.exec) (hZ : Z.Warmed39 s.vm) (eT : T.heap = h) (A : Ary Z h a .int n f) {j x : Int32} (i : Nat) (hj : j.toInt = (i : Int)) (hi : i < n)
    {g : JFrame} (hg : g.method = m) {rest : List Value} (hs : g.stack = .int x :: .int j :: .ref a :: rest) (hd : decode c.code g.pc = .ok (.iastore, 1)) :
    ∃ T' h', Stand p l e R s m args below meth c T' (locs ++ [⟨a, i⟩]) cells slots ∧ T'.heap = h' ∧ Wr h h' a i (.int x) ∧ Ary Z h' a .int n (own_up f i (.int x)) ∧ ∀ target, Steps p.tables e below (T'.setTop { g with pc := g.pc + 1, stack := rest }) target → Steps p.tables e below (T.setTop g) target := by
  obtain ⟨cl, A1, r1, r⟩ := A
  obtain ⟨T', h', X', e', W, st⟩ := stI X hx hZ eT A1 (own_in hj r1 hi) hg hs hd
  rw [(own_clamp hj).1] at X' W
  exact ⟨T', h', X', e', W, Ary.wr ⟨cl, A1, r1, r⟩ hi W rfl, st⟩
theorem own_new (X : Stand p l e R s m args below meth c T locs cells slots) (hx : p.tables.exec = Jvm.exec) (hZ : Z.Warmed39 s.vm) {a0 : Array Value} {aty : ArrayType} (w : (Cond.arrayClass (newarray.typeOf aty)).before a0 Z = true) (eT : T.heap = h) {g : JFrame} (hg : g.method = m) (hd : decode c.code g.pc = .ok (.newarray aty, 2)) {z : Int32} {rest : List Value} (hs : g.stack = .int z :: rest)
    (k : Nat) (hk : z.toInt = (k : Int)) {cap : Nat} (hcap : k ≤ cap) (hb : cap * 8 ≤ 536870912) (hc : cells + 1 ≤ R.cells) (hl : slots + cap ≤ R.slots) :
    ∃ T' h', Stand p l e R s m args below meth c T' locs (cells + 1) (slots + cap) ∧ T'.heap = h' ∧ Ext h h' ∧ Ary Z h' h.size (newarray.typeOf aty) k (fun _ => defaultValue (newarray.typeOf aty)) ∧
      ∀ target, Steps p.tables e below (T'.setTop { g with pc := g.pc + 2, stack := .ref h.size :: rest }) target → Steps p.tables e below (T.setTop g) target := by
  obtain ⟨h1, h2⟩ := own_clamp hk
  obtain ⟨T', h', cA, X', e', E, A, st⟩ := newP X hx hZ w eT hg hd hs h2 (cap := cap) (by rw [h1]; exact hcap) hb hc hl
  refine ⟨T', h', X', e', E, ⟨_, A, by rw [sz_new, h1], by have := rng32 z; omega, fun j hj => ?_, fun j _ => by cases aty <;> rfl⟩, st⟩
  simp [newA, h1, hj]
end Arrays

section Copies
variable {p : Program} {l : Launch} {e : Env} {R : Room} {s : State} {m : MethodId} {args : Array Value} {below : List Frame} {meth : Method} {c : Code} {T : State} {locs : List Loc} {cells slots : Nat} {Z : State} {h h' : Heap} {a b : Addr} {ty : FieldType} {n n' : Nat} {f f' : Nat → Value} {v : Value}
theorem Ary.arv (A : Ary Z h a ty n f) (d : Value) : ∃ k, Arv Z h a k ty (Int32.ofNat n) ((List.range n).map f) d := by
  obtain ⟨cl, A1, r1, r2, r3, r4⟩ := A
  have h0 : (Int32.ofNat n).toInt = (n : Int) := Int32.toInt_ofNat_of_lt (by omega)
  have hg : ∀ j, j < n → ((List.range n).map f).getD j d = f j := fun j hj => by simp [List.getD_eq_getElem?_getD, hj]
  refine ⟨cl.cls, cl, A1, rfl, by rw [(own_clamp h0).1, r1], (own_clamp h0).2, fun j hj => ?_, fun j hj => ?_⟩
  · rw [r1] at hj; rw [hg j hj]; exact r3 j hj
  · rw [r1] at hj; rw [hg j hj]; exact r4 j hj
theorem Ary.ofArv {k : ClassId} {vs : List Value} {d : Value} (B : Arv Z h b k ty (Int32.ofNat n) vs d) (hn : n < 2147483648) (q : ∀ j, j < n → vs.getD j d = f j) : Ary Z h b ty n f := by
  obtain ⟨cl, A1, -, r2, -, H, G⟩ := B
  have h0 : (Int32.ofNat n).toInt = (n : Int) := Int32.toInt_ofNat_of_lt (by omega)
  rw [(own_clamp h0).1] at r2
  exact ⟨cl, A1, r2, hn, fun j hj => by rw [← q j hj]; exact H j (by rw [r2]; exact hj), fun j hj => by rw [← q j hj]; exact G j (by rw [r2]; exact hj)⟩
theorem Ary.small (A : Ary Z h a ty n f) : n < 2147483648 := by obtain ⟨_, _, _, r, _⟩ := A; exact r
theorem own_cp (X : Stand p l e R s m args below meth c T locs cells slots) (hx : p.tables.exec = Jvm.exec) (hZ : Z.Warmed39 s.vm) {a0 : Array Value} {own : String} {index : Nat} (hown : s.vm.findClass own = some m.cls)
    (w1 : (Cond.methodLink own index Jvm.Stand.acN).before a0 Z = true) (w2 : (Cond.native Jvm.Stand.acN).before a0 Z = true) (w3 : (Cond.static Jvm.Stand.acN).before a0 Z = true) (w4 : (Cond.initialized "java/lang/System").before a0 Z = true) (eT : T.heap = h)
    (A : Ary Z h a ty n f) (B : Ary Z h b ty n' f') (hp : refKind ty = false) (i1 i2 k : Nat) {sp dp nn : Int32} (h1 : sp.toInt = (i1 : Int)) (h2 : dp.toInt = (i2 : Int)) (h3 : nn.toInt = (k : Int)) (h4 : i1 + k ≤ n) (h5 : i2 + k ≤ n') {n0 : Nat} (N : Fr n0 locs) (ge : n0 ≤ b)
    {g : JFrame} (hg : g.method = m) (hsize : g.locals.size = c.maxLocals) {rest : List Value} (hs : g.stack = .int nn :: .int dp :: .ref b :: .int sp :: .ref a :: rest) (hd : decode c.code g.pc = .ok (.invokestatic index, 3))
    (hf : 1 ≤ R.frames) {W : Nat} (hW : 2 * g.monitorRoom + (rest.map fun v => v.category).sum ≤ W) (hlo : W + (nativeFrameWords "java/lang/System" "arraycopy" 5 + 11) ≤ R.locals) :
    ∃ T' h' L, Stand p l e R s m args below meth c T' L cells slots ∧ T'.heap = h' ∧ Fr n0 L ∧ Keep h h' [b] ∧ Ary Z h' b ty n' (fun j => if i2 ≤ j ∧ j < i2 + k then f (i1 + (j - i2)) else f' j) ∧
      ∀ target, Steps p.tables e below (T'.setTop { g with pc := g.pc + 3, stack := rest }) target → Steps p.tables e below (T.setTop g) target := by
  obtain ⟨ka, A2⟩ := A.arv .null
  obtain ⟨kb, B2⟩ := B.arv .null
  have s1 := A.small; have s2 := B.small
  obtain ⟨c1, g1⟩ := own_clamp h1; obtain ⟨c2, g2⟩ := own_clamp h2; obtain ⟨c3, g3⟩ := own_clamp h3
  have q1 : (Int32.ofNat n).toNatClampNeg = n := (own_clamp (Int32.toInt_ofNat_of_lt (by omega))).1
  have q2 : (Int32.ofNat n').toNatClampNeg = n' := (own_clamp (Int32.toInt_ofNat_of_lt (by omega))).1
  obtain ⟨T', h', L, X', e', N', K, V, st⟩ := cpA X hx hZ hown w1 w2 w3 w4 eT A2 B2 (Or.inl ⟨rfl, hp⟩) g1 g2 g3 (by rw [c1, c3, q1]; exact h4) (by rw [c2, c3, q2]; exact h5) rfl (by rw [c2, c3]; simpa using h5) N ge hg hsize hs hd hf hW hlo
  refine ⟨T', h', L, X', e', N', K, Ary.ofArv V s2 fun j hj => ?_, st⟩
  rw [c1, c2, c3]
  simp only [List.getD_eq_getElem?_getD]
  by_cases p1 : j < i2
  · rw [List.append_assoc, List.getElem?_append_left (by simp; omega), if_neg (by omega), List.getElem?_take_of_lt p1]
    simp [hj]
  · by_cases p2 : j < i2 + k
    · rw [List.getElem?_append_left (by simp; omega), List.getElem?_append_right (by simp; omega), if_pos (by omega)]
      simp only [List.length_take, List.length_map, List.length_range]
      rw [show min i2 n' = i2 by omega, List.getElem?_map, List.getElem?_range (by omega)]
      simp [show i1 + (j - i2) < n by omega]
    · rw [List.getElem?_append_right (by simp; omega), if_neg (by omega)]
      simp only [List.length_append, List.length_take, List.length_map, List.length_range, List.getElem?_drop]
      rw [show i2 + k + (j - (min i2 n' + k)) = j by omega]
      simp [hj]
theorem own_kw {h0 : Heap} {ws : List Addr} (K : Keep h0 h []) : Keep h0 h ws := ⟨K.1, fun z c hz _ => K.2.1 z c hz nin0, K.2.2⟩
theorem own_sel {args : Array Value} {y : MethodName} {n : Nat} (hins : (Cond.instantiable y.cls n).before args s = true) (hpriv : s.PrivateAt y) (hinst : (Cond.instanceMethod y).before args s = true) (hy : y.cls ≠ "java/lang/invoke/MethodHandle" ∧ y.cls ≠ "java/lang/invoke/VarHandle") : (Cond.selects y.cls y y).before args s = true := by
  obtain ⟨c, k, hc, hk, -, hniab, -, -⟩ := Cond.instantiable_spec hins
  exact selects_self_of_private hc hk (Bool.or_eq_false_iff.mp hniab).1 hpriv hinst hy
end Copies

section Bytes
variable {p : Program} {l : Launch} {e : Env} {R : Room} {s : State} {m : MethodId} {args : Array Value} {below : List Frame} {meth : Method} {c : Code} {T : State} {locs : List Loc} {cells slots : Nat} {Z : State} {h h' : Heap} {a b : Addr} {n : Nat} {f : Nat → Value}
theorem own_push (h : Heap) (k : Cell) : Ext h (h.push k) ∧ (h.push k)[h.size]? = some k := by
  refine ⟨⟨by rw [Array.size_push]; omega, fun a z hz => ?_⟩, by rw [Array.getElem?_push, if_pos rfl]⟩
  have ha := (Array.getElem?_eq_some_iff.mp hz).1
  rw [Array.getElem?_push, if_neg (by omega)]
  exact hz
/-- a class that the tables at hand find stands so in the tables of the start -/
theorem own_class (hZ : Z.Warmed39 s.vm) {nm : String} {id : ClassId} {k : Class} (h1 : s.vm.findClass nm = some id) (h2 : s.vm.classes[id]? = some k) : Z.vm.findClass nm = some id ∧ ∃ k0, Z.vm.classes[id]? = some k0 ∧ k0.kind = k.kind := by
  have f : Z.vm.findClass nm = some id := (hZ.alike.findClass nm none).symm.trans h1
  obtain ⟨k0, g0, -⟩ := Vm.findClass_spec f
  obtain ⟨k1, g1, g2⟩ := hZ.alike.2.2 id k0 g0
  rw [h2] at g1
  refine ⟨f, k0, g0, ?_⟩
  rw [Option.some.inj g1, g2]
theorem own_newB (X : Stand p l e R s m args below meth c T locs cells slots) (hx : p.tables.exec = Jvm.exec) (hZ : Z.Warmed39 s.vm) {a0 : Array Value} (w : (Cond.arrayClass (newarray.typeOf .byte)).before a0 Z = true) (eT : T.heap = h) {g : JFrame} (hg : g.method = m) (hd : decode c.code g.pc = .ok (.newarray .byte, 2)) {z : Int32} {rest : List Value} (hs : g.stack = .int z :: rest)
    (k : Nat) (hk : z.toInt = (k : Int)) {cap : Nat} (hcap : k ≤ cap) (hb : cap * 8 ≤ 536870912) (hc : cells + 1 ≤ R.cells) (hl : slots + cap ≤ R.slots) :
    ∃ T' h', Stand p l e R s m args below meth c T' locs (cells + 1) (slots + cap) ∧ T'.heap = h' ∧ Ext h h' ∧ Ary Z h' h.size .byte k (fun _ => .int 0) ∧ Exa Z h' h.size "[B" ∧
      ∀ target, Steps p.tables e below (T'.setTop { g with pc := g.pc + 2, stack := .ref h.size :: rest }) target → Steps p.tables e below (T.setTop g) target := by
  obtain ⟨q1, q2⟩ := own_clamp hk
  have one : componentBytes (newarray.typeOf .byte) = 1 := by decide
  obtain ⟨id, kd, comp, f1, f2, f3, X', st⟩ := X.newarrayPrim (atype := .byte) hx (mvA hZ w) hg hd hs q2 (by rw [q1, one]; omega) hc (by rw [q1]; omega)
  rw [show ("[" ++ (newarray.typeOf .byte).toString) = "[B" by decide +kernel] at f1
  obtain ⟨c1, k0, c2, c3⟩ := own_class hZ f1 f2
  rw [f3] at c3
  rw [eT] at st
  obtain ⟨Ex, at0⟩ := own_push h { cls := id, slots := Array.replicate z.toNatClampNeg (defaultValue (newarray.typeOf .byte)), vm := .none }
  have hh : (T.pushCell { cls := id, slots := Array.replicate z.toNatClampNeg (defaultValue (newarray.typeOf .byte)), vm := .none }).heap = h.push { cls := id, slots := Array.replicate z.toNatClampNeg (defaultValue (newarray.typeOf .byte)), vm := .none } := by rw [← eT]; rfl
  refine ⟨_, _, X'.more (Nat.le_refl _) (by rw [q1]; omega), hh, Ex, ?_, ?_, st⟩
  · refine ⟨_, ⟨at0, ⟨fun _ q => (by cases q), k0, c2, comp, c3⟩, fun q => (by cases q)⟩, by rw [Array.size_replicate, q1], by have := rng32 z; omega, fun j hj => ?_, fun j _ => rfl⟩
    rw [Array.getElem?_replicate, if_pos (by rw [q1]; exact hj)]; rfl
  · exact ⟨_, k0, at0, c1, c2, rfl, fun q => (by rw [c3] at q; cases q)⟩
theorem own_clone (X : Stand p l e R s m args below meth c T locs cells slots) (hx : p.tables.exec = Jvm.exec) (hZ : Z.Warmed39 s.vm) {a0 : Array Value} {own : String} {index : Nat} (hown : s.vm.findClass own = some m.cls)
    (w1 : (Cond.methodLink own index ⟨"[B", "clone", "()Ljava/lang/Object;"⟩).before a0 Z = true) (w2 : (Cond.sameMethod "[B" "java/lang/Object" "clone" "()Ljava/lang/Object;").before a0 Z = true) (w3 : (Cond.native ⟨"java/lang/Object", "clone", "()Ljava/lang/Object;"⟩).before a0 Z = true)
    (w4 : (Cond.instanceMethod ⟨"java/lang/Object", "clone", "()Ljava/lang/Object;"⟩).before a0 Z = true) (w5 : (Cond.selects "[B" ⟨"[B", "clone", "()Ljava/lang/Object;"⟩ ⟨"java/lang/Object", "clone", "()Ljava/lang/Object;"⟩).before a0 Z = true) (w6 : (Cond.castable "[B" "java/lang/Cloneable").before a0 Z = true)
    (eT : T.heap = h) (A : Ary Z h a .byte n f) (E : Exa Z h a "[B") {g : JFrame} (hg : g.method = m) (hsize : g.locals.size = c.maxLocals) {rest : List Value} (hs : g.stack = .ref a :: rest) (hd : decode c.code g.pc = .ok (.invokevirtual index, 3))
    (hf : 1 ≤ R.frames) {W cap : Nat} (hW : 2 * g.monitorRoom + (rest.map fun v => v.category).sum ≤ W) (hl : W + 14 ≤ R.locals) (hcap : n ≤ cap) (hc : cells + 1 ≤ R.cells) (hsl : slots + cap ≤ R.slots) :
    ∃ T' h', Stand p l e R s m args below meth c T' locs (cells + 1) (slots + cap) ∧ T'.heap = h' ∧ Ext h h' ∧ Ary Z h' h.size .byte n f ∧ Exa Z h' h.size "[B" ∧
      ∀ target, Steps p.tables e below (T'.setTop { g with pc := g.pc + 3, stack := .ref h.size :: rest }) target → Steps p.tables e below (T.setTop g) target := by
  obtain ⟨cl, A1, r1, r2, r3, r4⟩ := A
  have hF : FitC Z cl := fun i v hv => by
    obtain ⟨-, k, hk, comp, hkind⟩ := A1.2.1
    have hi : i < n := by rw [← r1]; exact (Array.getElem?_eq_some_iff.mp hv).1
    have := r3 i hi
    rw [hv] at this
    cases this
    simpa [State.fitsSlot, State.slotType?, hk, hkind] using r4 i hi
  obtain ⟨T', h', X', e', Ex, A', E', st⟩ := cloneA X hx hZ hown w1 w2 w3 w4 w5 w6 eT A1 E hF hg hsize hs hd hf hW hl (by rw [r1]; exact hcap) hc hsl
  exact ⟨T', h', X', e', Ex, ⟨_, A', r1, r2, r3, r4⟩, E', st⟩
end Bytes

theorem own_by (z : Int32) : z.toInt8.toInt32.toInt8.toInt32 = z.toInt8.toInt32 := by simp
theorem own_to (k : Nat) (h : k < 100000) : (Int32.ofNat k).toInt = (k : Int) := Int32.toInt_ofNat_of_lt (by omega)
theorem own_of (i : Int32) (k : Nat) (h : i.toInt = (k : Int)) : i = Int32.ofNat k := by
  have := rng32 i
  exact Int32.toInt_inj.mp (by rw [Int32.toInt_ofNat_of_lt (by omega)]; exact h)
theorem own_one (i : Nat) : Int32.ofNat i + (1 : Int32) = Int32.ofNat (i + 1) := (Int32.ofNat_add i 1).symm
theorem own_add (i z : Int32) (k d : Nat) (h : i.toInt = (k : Int)) (hz : z.toInt = (d : Int)) (hk : k + d < 100000) : (i + z).toInt = ((k + d : Nat) : Int) := by
  have h1 := c_iadd i z; have h2 := rng32 (i + z); omega
theorem own_sub (i z : Int32) (k d : Nat) (h : i.toInt = (k : Int)) (hz : z.toInt = (d : Int)) (hk : k < 100000) (hd : d < 100000) : (i - z).toInt = (k : Int) - d := by
  have h1 := c_isub i z; have h2 := rng32 (i - z); omega
theorem own_dbl (i : Int32) (k : Nat) (h : i.toInt = (k : Int)) (hk : k < 100000) : (i * (2 : Int32)).toInt = ((2 * k : Nat) : Int) := by
  have h1 := c_imul i 2; have h2 := rng32 (i * 2); rw [h, show (2 : Int32).toInt = 2 from rfl] at h1; omega
def own_ui (g : Nat → Int32) (i : Nat) (z : Int32) : Nat → Int32 := fun j => if j = i then z else g j
theorem own_uu (g : Nat → Int32) (i : Nat) (z z' : Int32) (hz : z = z') (j : Nat) : own_up (fun j => .int (g j)) i (.int z) j = .int (own_ui g i z' j) := by
  subst hz; simp only [own_up, own_ui]; split <;> rfl
theorem own_ui_eq (g : Nat → Int32) (i : Nat) (z : Int32) : own_ui g i z i = z := if_pos rfl
theorem own_ui_ne (g : Nat → Int32) (i : Nat) (z : Int32) (j : Nat) (h : j ≠ i) : own_ui g i z j = g j := if_neg h
theorem own_modn (a d : Int32) (D : Nat) (hd : d.toInt = (D : Int)) (h0 : 0 < D) : ∃ t : Nat, t < D ∧ ((a &&& (2147483647 : Int32)) % d).toInt = (t : Int) := by
  have h1 : 0 ≤ (a &&& (2147483647 : Int32)).toInt := (c_andS a 2147483647).2.2 (by decide)
  have h2 := (c_irem (a &&& (2147483647 : Int32)) d D hd).1 h1
  have h3 : 0 ≤ (a &&& (2147483647 : Int32)).toInt % (D : Int) := Int.emod_nonneg _ (by omega)
  have h4 : (a &&& (2147483647 : Int32)).toInt % (D : Int) < (D : Int) := Int.emod_lt_of_pos _ (by omega)
  exact ⟨((a &&& (2147483647 : Int32)) % d).toInt.toNat, by omega, by omega⟩
theorem own_cap (a : Int32) : ∃ C : Nat, 16 ≤ C ∧ C ≤ 27 ∧ (if ((a &&& (31 : Int32)) - (4 : Int32)) < (16 : Int32) then (16 : Int32) else ((a &&& (31 : Int32)) - (4 : Int32))).toInt = (C : Int) := by
  have h := Jvm.Kit.i32_mask a 31 (k := 5) (by decide) (by decide)
  have h1 := c_isub (a &&& (31 : Int32)) 4
  have h2 := rng32 ((a &&& (31 : Int32)) - 4)
  have h3 : (4 : Int32).toInt = 4 := rfl
  by_cases q : ((a &&& (31 : Int32)) - (4 : Int32)) < (16 : Int32)
  · exact ⟨16, by decide, by decide, by rw [if_pos q]; rfl⟩
  · rw [if_neg q]
    rw [Int32.lt_iff_toInt_lt] at q
    have h4 : (16 : Int32).toInt = 16 := rfl
    exact ⟨((a &&& (31 : Int32)) - (4 : Int32)).toInt.toNat, by omega, by omega, by omega⟩

/-- the writer at a: its array ab of C bytes, of which len are in use; q says what each place holds -/
def BW (Z : State) (h : Heap) (a ab : Addr) (len C : Nat) (q : Nat → Int32) : Prop := Exa Z h a "com/example/dwell/dwell/io/ByteWriter" ∧ Fld Z h a "com/example/dwell/dwell/io/ByteWriter" "bytes" "[B" (.ref ab) ∧ Fld Z h a "com/example/dwell/dwell/io/ByteWriter" "length" "I" (.int (Int32.ofNat len)) ∧ Ary Z h ab .byte C (fun j => .int (q j)) ∧ Exa Z h ab "[B" ∧ a ≠ ab
theorem BW.keep {Z : State} {h h' : Heap} {a ab : Addr} {len C : Nat} {q : Nat → Int32} (I : BW Z h a ab len C q) (k : Keep h h' []) : BW Z h' a ab len C q := ⟨I.1.keep k, I.2.1.keep k nin0, I.2.2.1.keep k nin0, I.2.2.2.1.keep k nin0, I.2.2.2.2.1.keep k, I.2.2.2.2.2⟩
theorem d3_0 : decode jdk_29_method_65_code 0 = .ok (.iload_n 0, 1) := by decide +kernel
theorem d3_1 : decode jdk_29_method_65_code 1 = .ok (.iload_n 1, 1) := by decide +kernel
theorem d3_2 : decode jdk_29_method_65_code 2 = .ok (.if_icmp .lt 7, 3) := by decide +kernel
theorem d3_5 : decode jdk_29_method_65_code 5 = .ok (.iload_n 0, 1) := by decide +kernel
theorem d3_6 : decode jdk_29_method_65_code 6 = .ok (.goto 4, 3) := by decide +kernel
theorem d3_9 : decode jdk_29_method_65_code 9 = .ok (.iload_n 1, 1) := by decide +kernel
theorem d3_10 : decode jdk_29_method_65_code 10 = .ok (.ireturn, 1) := by decide +kernel
theorem pn_3 : plainFor (⟨"java/lang/Math", "max", "(II)I"⟩ : MethodName) = true := by first | exact plainFor_of_name (by first | (simp [plainName, overriddenIn]; done) | decide +kernel) | decide +kernel
theorem ef_3 (m : MethodId) (x0 : Int32) (x1 : Int32) : entryFrame m #[(.int x0), (.int x1)] 2 = mkF m 0 #[.val (.int x0), .val (.int x1)] [] := by first | (simp [entryFrame, mkF, argsToLocals, Value.category]; done) | rfl
def Q3 (Z : State) (i1 : Int32) (i2 : Int32) (h0 : Heap) (n0 : Nat) (v : Option Value) (h : Heap) (L : List Loc) : Prop := v = some (.int (if i1 < i2 then i2 else i1)) ∧ Fr n0 L ∧ h = h0
set_option maxRecDepth 65536 in
set_option maxHeartbeats 40000000 in
theorem rm3 (l : Launch) (Z : State) (a0 : Array Value) (hw : ∀ d ∈ tables_1, d.before a0 Z = true) (ws : List Jvm.Cond) (i1 : Int32) (i2 : Int32) (h0 : Heap) (n0 : Nat) (Z0 : n0 ≤ h0.size)  :
    MetFree l (⟨"java/lang/Math", "max", "(II)I"⟩ : MethodName) (head1 (Jvm.Cond.code (⟨"java/lang/Math", "max", "(II)I"⟩ : MethodName) jdk_29_method_65_code 2 (some .int) :: ws) ({ frames := 0, cells := 0, slots := 0, locals := 0 } : Room)) (fun a U => a = #[(.int i1), (.int i2)] ∧ Z.Warmed39 U.vm ∧ U.heap = h0) (fun _ _ _ _ _ => True) (fun _ U o U' => ∃ v L, o = .returned v ∧ Q3 Z i1 i2 h0 n0 v U'.heap L ∧ FrameEnd U o U' L ({ frames := 0, cells := 0, slots := 0, locals := 0 } : Room).cells ({ frames := 0, cells := 0, slots := 0, locals := 0 } : Room).slots) := by
  refine MetFree.of_bodySF pn_3 hisR ?_
  intro p e s m args below meth c s₁ Bd hml0 hP hK
  obtain ⟨rfl, hZ, hh⟩ := hP
  have hx := Bd.exec
  have hby := Bd.bytes
  have hml : c.maxLocals = 2 := hml0
  have hown : s.vm.findClass "java/lang/Math" = some m.cls := findClass_of_methodNamed Bd.named
  have hnm := (name_of_methodNamed Bd.named Bd.method).1
  have hrt := Bd.returns
  have hlk : meth.locks = false := BodyLoose.notSynchronized Bd
  have X0 : Stand p l e ({ frames := 0, cells := 0, slots := 0, locals := 0 } : Room) s m #[(.int i1), (.int i2)] below meth c s₁ [] 0 0 := Stand.of_body Bd
  have e0 : s₁.heap = h0 := by rw [← hh, Bd.state]; rfl
  have N0 := Fr.nil n0
  show OwnG ({ frames := 0, cells := 0, slots := 0, locals := 0 } : Room).cells ({ frames := 0, cells := 0, slots := 0, locals := 0 } : Room).slots (Q3 Z i1 i2 h0 n0) p e below s (s₁.setTop (entryFrame m #[(.int i1), (.int i2)] 2))
  refine own_st (σ' := s₁.setTop (mkF m 0 #[.val (.int i1), .val (.int i2)] [])) (fun _ kq_ => castTop (ef_3 m i1 i2) kq_) ?_
  show OwnG _ _ _ _ _ _ _ (s₁.setTop (mkF m 0 #[.val (.int i1), .val (.int i2)] []))
  refine own_st (fun _ kq_ => XS.iloadN X0.here hx rfl (hb hby d3_0) rfl kq_) ?_
  show OwnG _ _ _ _ _ _ _ (s₁.setTop (mkF m 1 #[.val (.int i1), .val (.int i2)] [(.int i1)]))
  refine own_st (fun _ kq_ => XS.iloadN X0.here hx rfl (hb hby d3_1) rfl kq_) ?_
  show OwnG _ _ _ _ _ _ _ (s₁.setTop (mkF m 2 #[.val (.int i1), .val (.int i2)] [(.int i2), (.int i1)]))
  by_cases h2 : i1 < i2
  · skip
    refine own_st (fun _ kq_ => XS.icmpYes X0.here hx rfl (pc0 := 2) (pc' := 9) rfl (hb hby d3_2) rfl (tlt h2).1 (by decide) (by decide) kq_) ?_
    show OwnG _ _ _ _ _ _ _ (s₁.setTop (mkF m 9 #[.val (.int i1), .val (.int i2)] []))
    refine own_st (fun _ kq_ => XS.iloadN X0.here hx rfl (hb hby d3_9) rfl kq_) ?_
    show OwnG _ _ _ _ _ _ _ (s₁.setTop (mkF m 10 #[.val (.int i1), .val (.int i2)] [(.int i2)]))
    exact own_retI X0 hx hrt hlk (hb hby d3_10) (by decide) (by decide) (by show _ ∧ _; first | (rw [e0]; exact ⟨by rw [if_pos h2], N0, rfl⟩) | exact ⟨by rw [if_pos h2], N0, rfl⟩)
  · skip
    refine own_st (fun _ kq_ => XS.icmpNo X0.here hx rfl (hb hby d3_2) rfl (flt h2).1 kq_) ?_
    show OwnG _ _ _ _ _ _ _ (s₁.setTop (mkF m 5 #[.val (.int i1), .val (.int i2)] []))
    refine own_st (fun _ kq_ => XS.iloadN X0.here hx rfl (hb hby d3_5) rfl kq_) ?_
    show OwnG _ _ _ _ _ _ _ (s₁.setTop (mkF m 6 #[.val (.int i1), .val (.int i2)] [(.int i1)]))
    refine own_st (fun _ kq_ => XS.goto X0.here hx rfl (pc0 := 6) (pc' := 10) rfl (hb hby d3_6) (by decide) (by decide) kq_) ?_
    show OwnG _ _ _ _ _ _ _ (s₁.setTop (mkF m 10 #[.val (.int i1), .val (.int i2)] [(.int i1)]))
    exact own_retI X0 hx hrt hlk (hb hby d3_10) (by decide) (by decide) (by show _ ∧ _; first | (rw [e0]; exact ⟨by rw [if_neg h2], N0, rfl⟩) | exact ⟨by rw [if_neg h2], N0, rfl⟩)
theorem d9_0 : decode jdk_29_method_69_code 0 = .ok (.iload_n 0, 1) := by decide +kernel
theorem d9_1 : decode jdk_29_method_69_code 1 = .ok (.iload_n 1, 1) := by decide +kernel
theorem d9_2 : decode jdk_29_method_69_code 2 = .ok (.if_icmp .gt 7, 3) := by decide +kernel
theorem d9_5 : decode jdk_29_method_69_code 5 = .ok (.iload_n 0, 1) := by decide +kernel
theorem d9_6 : decode jdk_29_method_69_code 6 = .ok (.goto 4, 3) := by decide +kernel
theorem d9_9 : decode jdk_29_method_69_code 9 = .ok (.iload_n 1, 1) := by decide +kernel
theorem d9_10 : decode jdk_29_method_69_code 10 = .ok (.ireturn, 1) := by decide +kernel
theorem pn_9 : plainFor (⟨"java/lang/Math", "min", "(II)I"⟩ : MethodName) = true := by first | exact plainFor_of_name (by first | (simp [plainName, overriddenIn]; done) | decide +kernel) | decide +kernel
theorem ef_9 (m : MethodId) (x0 : Int32) (x1 : Int32) : entryFrame m #[(.int x0), (.int x1)] 2 = mkF m 0 #[.val (.int x0), .val (.int x1)] [] := by first | (simp [entryFrame, mkF, argsToLocals, Value.category]; done) | rfl
def Q9 (Z : State) (i1 : Int32) (i2 : Int32) (h0 : Heap) (n0 : Nat) (v : Option Value) (h : Heap) (L : List Loc) : Prop := v = some (.int (if i2 < i1 then i2 else i1)) ∧ Fr n0 L ∧ h = h0
set_option maxRecDepth 65536 in
set_option maxHeartbeats 40000000 in
theorem rm9 (l : Launch) (Z : State) (a0 : Array Value) (hw : ∀ d ∈ tables_1, d.before a0 Z = true) (ws : List Jvm.Cond) (i1 : Int32) (i2 : Int32) (h0 : Heap) (n0 : Nat) (Z0 : n0 ≤ h0.size)  :
    MetFree l (⟨"java/lang/Math", "min", "(II)I"⟩ : MethodName) (head1 (Jvm.Cond.code (⟨"java/lang/Math", "min", "(II)I"⟩ : MethodName) jdk_29_method_69_code 2 (some .int) :: ws) ({ frames := 0, cells := 0, slots := 0, locals := 0 } : Room)) (fun a U => a = #[(.int i1), (.int i2)] ∧ Z.Warmed39 U.vm ∧ U.heap = h0) (fun _ _ _ _ _ => True) (fun _ U o U' => ∃ v L, o = .returned v ∧ Q9 Z i1 i2 h0 n0 v U'.heap L ∧ FrameEnd U o U' L ({ frames := 0, cells := 0, slots := 0, locals := 0 } : Room).cells ({ frames := 0, cells := 0, slots := 0, locals := 0 } : Room).slots) := by
  refine MetFree.of_bodySF pn_9 hisR ?_
  intro p e s m args below meth c s₁ Bd hml0 hP hK
  obtain ⟨rfl, hZ, hh⟩ := hP
  have hx := Bd.exec
  have hby := Bd.bytes
  have hml : c.maxLocals = 2 := hml0
  have hown : s.vm.findClass "java/lang/Math" = some m.cls := findClass_of_methodNamed Bd.named
  have hnm := (name_of_methodNamed Bd.named Bd.method).1
  have hrt := Bd.returns
  have hlk : meth.locks = false := BodyLoose.notSynchronized Bd
  have X0 : Stand p l e ({ frames := 0, cells := 0, slots := 0, locals := 0 } : Room) s m #[(.int i1), (.int i2)] below meth c s₁ [] 0 0 := Stand.of_body Bd
  have e0 : s₁.heap = h0 := by rw [← hh, Bd.state]; rfl
  have N0 := Fr.nil n0
  show OwnG ({ frames := 0, cells := 0, slots := 0, locals := 0 } : Room).cells ({ frames := 0, cells := 0, slots := 0, locals := 0 } : Room).slots (Q9 Z i1 i2 h0 n0) p e below s (s₁.setTop (entryFrame m #[(.int i1), (.int i2)] 2))
  refine own_st (σ' := s₁.setTop (mkF m 0 #[.val (.int i1), .val (.int i2)] [])) (fun _ kq_ => castTop (ef_9 m i1 i2) kq_) ?_
  show OwnG _ _ _ _ _ _ _ (s₁.setTop (mkF m 0 #[.val (.int i1), .val (.int i2)] []))
  refine own_st (fun _ kq_ => XS.iloadN X0.here hx rfl (hb hby d9_0) rfl kq_) ?_
  show OwnG _ _ _ _ _ _ _ (s₁.setTop (mkF m 1 #[.val (.int i1), .val (.int i2)] [(.int i1)]))
  refine own_st (fun _ kq_ => XS.iloadN X0.here hx rfl (hb hby d9_1) rfl kq_) ?_
  show OwnG _ _ _ _ _ _ _ (s₁.setTop (mkF m 2 #[.val (.int i1), .val (.int i2)] [(.int i2), (.int i1)]))
  by_cases h2 : i2 < i1
  · skip
    refine own_st (fun _ kq_ => XS.icmpYes X0.here hx rfl (pc0 := 2) (pc' := 9) rfl (hb hby d9_2) rfl (tlt h2).2.2.1 (by decide) (by decide) kq_) ?_
    show OwnG _ _ _ _ _ _ _ (s₁.setTop (mkF m 9 #[.val (.int i1), .val (.int i2)] []))
    refine own_st (fun _ kq_ => XS.iloadN X0.here hx rfl (hb hby d9_9) rfl kq_) ?_
    show OwnG _ _ _ _ _ _ _ (s₁.setTop (mkF m 10 #[.val (.int i1), .val (.int i2)] [(.int i2)]))
    exact own_retI X0 hx hrt hlk (hb hby d9_10) (by decide) (by decide) (by show _ ∧ _; first | (rw [e0]; exact ⟨by rw [if_pos h2], N0, rfl⟩) | exact ⟨by rw [if_pos h2], N0, rfl⟩)
  · skip
    refine own_st (fun _ kq_ => XS.icmpNo X0.here hx rfl (hb hby d9_2) rfl (flt h2).2.2.1 kq_) ?_
    show OwnG _ _ _ _ _ _ _ (s₁.setTop (mkF m 5 #[.val (.int i1), .val (.int i2)] []))
    refine own_st (fun _ kq_ => XS.iloadN X0.here hx rfl (hb hby d9_5) rfl kq_) ?_
    show OwnG _ _ _ _ _ _ _ (s₁.setTop (mkF m 6 #[.val (.int i1), .val (.int i2)] [(.int i1)]))
    refine own_st (fun _ kq_ => XS.goto X0.here hx rfl (pc0 := 6) (pc' := 10) rfl (hb hby d9_6) (by decide) (by decide) kq_) ?_
    show OwnG _ _ _ _ _ _ _ (s₁.setTop (mkF m 10 #[.val (.int i1), .val (.int i2)] [(.int i1)]))
    exact own_retI X0 hx hrt hlk (hb hby d9_10) (by decide) (by decide) (by show _ ∧ _; first | (rw [e0]; exact ⟨by rw [if_neg h2], N0, rfl⟩) | exact ⟨by rw [if_neg h2], N0, rfl⟩)
theorem d8_0 : decode jdk_65_method_121_code 0 = .ok (.iload_n 1, 1) := by decide +kernel
theorem d8_1 : decode jdk_65_method_121_code 1 = .ok (.aload_n 0, 1) := by decide +kernel
theorem d8_2 : decode jdk_65_method_121_code 2 = .ok (.arraylength, 1) := by decide +kernel
theorem d8_3 : decode jdk_65_method_121_code 3 = .ok (.if_icmp .ne 11, 3) := by decide +kernel
theorem d8_6 : decode jdk_65_method_121_code 6 = .ok (.aload_n 0, 1) := by decide +kernel
theorem d8_7 : decode jdk_65_method_121_code 7 = .ok (.invokevirtual 310, 3) := by decide +kernel
theorem d8_10 : decode jdk_65_method_121_code 10 = .ok (.checkcast 311, 3) := by decide +kernel
theorem d8_13 : decode jdk_65_method_121_code 13 = .ok (.areturn, 1) := by decide +kernel
theorem d8_14 : decode jdk_65_method_121_code 14 = .ok (.iload_n 1, 1) := by decide +kernel
theorem d8_15 : decode jdk_65_method_121_code 15 = .ok (.newarray .byte, 2) := by decide +kernel
theorem d8_17 : decode jdk_65_method_121_code 17 = .ok (.astore_n 2, 1) := by decide +kernel
theorem d8_18 : decode jdk_65_method_121_code 18 = .ok (.aload_n 0, 1) := by decide +kernel
theorem d8_19 : decode jdk_65_method_121_code 19 = .ok (.iconst 0, 1) := by decide +kernel
theorem d8_20 : decode jdk_65_method_121_code 20 = .ok (.aload_n 2, 1) := by decide +kernel
theorem d8_21 : decode jdk_65_method_121_code 21 = .ok (.iconst 0, 1) := by decide +kernel
theorem d8_22 : decode jdk_65_method_121_code 22 = .ok (.aload_n 0, 1) := by decide +kernel
theorem d8_23 : decode jdk_65_method_121_code 23 = .ok (.arraylength, 1) := by decide +kernel
theorem d8_24 : decode jdk_65_method_121_code 24 = .ok (.iload_n 1, 1) := by decide +kernel
theorem d8_25 : decode jdk_65_method_121_code 25 = .ok (.invokestatic 304, 3) := by decide +kernel
theorem d8_28 : decode jdk_65_method_121_code 28 = .ok (.invokestatic 150, 3) := by decide +kernel
theorem d8_31 : decode jdk_65_method_121_code 31 = .ok (.aload_n 2, 1) := by decide +kernel
theorem d8_32 : decode jdk_65_method_121_code 32 = .ok (.areturn, 1) := by decide +kernel
theorem pn_8 : plainFor (⟨"java/util/Arrays", "copyOf", "([BI)[B"⟩ : MethodName) = true := by first | exact plainFor_of_name (by first | (simp [plainName, overriddenIn]; done) | decide +kernel) | decide +kernel
theorem ef_8 (m : MethodId) (x0 : Addr) (x1 : Int32) : entryFrame m #[(.ref x0), (.int x1)] 3 = mkF m 0 #[.val (.ref x0), .val (.int x1), .unset] [] := by first | (simp [entryFrame, mkF, argsToLocals, Value.category]; done) | rfl
def Q8 (Z : State) (a1 : Addr) (nl : Int32) (n : Nat) (k : Nat) (q : Nat → Int32) (h0 : Heap) (n0 : Nat) (v : Option Value) (h : Heap) (L : List Loc) : Prop := v = some (.ref h0.size) ∧ Fr n0 L ∧ n0 ≤ h.size ∧ Keep h0 h [] ∧ Exa Z h h0.size "[B" ∧ Ary Z h h0.size .byte k (fun j => .int (if j < n then q j else 0))
set_option maxRecDepth 65536 in
set_option maxHeartbeats 40000000 in
theorem rm8 (l : Launch) (Z : State) (a0 : Array Value) (hw : ∀ d ∈ tables_1, d.before a0 Z = true) (ws : List Jvm.Cond) (a1 : Addr) (nl : Int32) (n : Nat) (k : Nat) (q : Nat → Int32) (h0 : Heap) (n0 : Nat) (Z0 : n0 ≤ h0.size) (hnl : nl.toInt = (k : Int)) (hn : n ≤ 64) (hk : k ≤ 64) (V0 : Ary Z h0 a1 .byte n (fun j => .int (q j))) (E_b : Exa Z h0 a1 "[B") :
    MetFree l (⟨"java/util/Arrays", "copyOf", "([BI)[B"⟩ : MethodName) (head1 (Jvm.Cond.code (⟨"java/util/Arrays", "copyOf", "([BI)[B"⟩ : MethodName) jdk_65_method_121_code 3 (some (.array .byte)) :: ws) ({ frames := 1, cells := 1, slots := 64, locals := 18 } : Room)) (fun a U => a = #[(.ref a1), (.int nl)] ∧ Z.Warmed39 U.vm ∧ U.heap = h0) (fun _ _ _ _ _ => True) (fun _ U o U' => ∃ v L, o = .returned v ∧ Q8 Z a1 nl n k q h0 n0 v U'.heap L ∧ FrameEnd U o U' L ({ frames := 1, cells := 1, slots := 64, locals := 18 } : Room).cells ({ frames := 1, cells := 1, slots := 64, locals := 18 } : Room).slots) := by
  refine MetFree.of_bodySF pn_8 hisR ?_
  intro p e s m args below meth c s₁ Bd hml0 hP hK
  obtain ⟨rfl, hZ, hh⟩ := hP
  have hx := Bd.exec
  have hby := Bd.bytes
  have hml : c.maxLocals = 3 := hml0
  have hown : s.vm.findClass "java/util/Arrays" = some m.cls := findClass_of_methodNamed Bd.named
  have hnm := (name_of_methodNamed Bd.named Bd.method).1
  have hrt := Bd.returns
  have hlk : meth.locks = false := BodyLoose.notSynchronized Bd
  have X0 : Stand p l e ({ frames := 1, cells := 1, slots := 64, locals := 18 } : Room) s m #[(.ref a1), (.int nl)] below meth c s₁ [] 0 0 := Stand.of_body Bd
  have e0 : s₁.heap = h0 := by rw [← hh, Bd.state]; rfl
  have N0 := Fr.nil n0
  show OwnG ({ frames := 1, cells := 1, slots := 64, locals := 18 } : Room).cells ({ frames := 1, cells := 1, slots := 64, locals := 18 } : Room).slots (Q8 Z a1 nl n k q h0 n0) p e below s (s₁.setTop (entryFrame m #[(.ref a1), (.int nl)] 3))
  refine own_st (σ' := s₁.setTop (mkF m 0 #[.val (.ref a1), .val (.int nl), .unset] [])) (fun _ kq_ => castTop (ef_8 m a1 nl) kq_) ?_
  show OwnG _ _ _ _ _ _ _ (s₁.setTop (mkF m 0 #[.val (.ref a1), .val (.int nl), .unset] []))
  refine own_st (fun _ kq_ => XS.iloadN X0.here hx rfl (hb hby d8_0) rfl kq_) ?_
  show OwnG _ _ _ _ _ _ _ (s₁.setTop (mkF m 1 #[.val (.ref a1), .val (.int nl), .unset] [(.int nl)]))
  refine own_st (fun _ kq_ => XS.aloadN X0.here hx rfl (hb hby d8_1) rfl rfl kq_) ?_
  show OwnG _ _ _ _ _ _ _ (s₁.setTop (mkF m 2 #[.val (.ref a1), .val (.int nl), .unset] [(.ref a1), (.int nl)]))
  refine own_st (own_len X0 hx hZ e0 V0 (z := (Int32.ofNat n)) rfl (g := (mkF m 2 #[.val (.ref a1), .val (.int nl), .unset] [(.ref a1), (.int nl)])) rfl rfl (hb hby d8_2)) ?_
  show OwnG _ _ _ _ _ _ _ (s₁.setTop (mkF m 3 #[.val (.ref a1), .val (.int nl), .unset] [(.int (Int32.ofNat n)), (.int nl)]))
  by_cases h3 : nl = (Int32.ofNat n)
  · skip
    refine own_st (fun _ kq_ => XS.icmpNo X0.here hx rfl (hb hby d8_3) rfl (teq h3).2 kq_) ?_
    show OwnG _ _ _ _ _ _ _ (s₁.setTop (mkF m 6 #[.val (.ref a1), .val (.int nl), .unset] []))
    have hkn : k = n := by rw [h3, own_to n (by omega)] at hnl; omega
    subst hkn
    refine own_st (fun _ kq_ => XS.aloadN X0.here hx rfl (hb hby d8_6) rfl rfl kq_) ?_
    show OwnG _ _ _ _ _ _ _ (s₁.setTop (mkF m 7 #[.val (.ref a1), .val (.int nl), .unset] [(.ref a1)]))
    obtain ⟨T1, h1, X1, e1, E1, V1, A1, st1⟩ := own_clone X0 hx hZ hown (hw _ (List.mem_of_getElem? (i := 50) rfl)) (hw _ (List.mem_of_getElem? (i := 51) rfl)) (hw _ (List.mem_of_getElem? (i := 55) rfl)) (hw _ (List.mem_of_getElem? (i := 53) rfl)) (hw _ (List.mem_of_getElem? (i := 54) rfl)) (hw _ (List.mem_of_getElem? (i := 56) rfl)) e0 V0 E_b (g := (mkF m 7 #[.val (.ref a1), .val (.int nl), .unset] [(.ref a1)])) rfl (by rw [hml]; rfl) rfl (hb hby d8_7) (by decide) (W := 0) (cap := 64) (by show 2 * 0 + _ ≤ _; exact Nat.le_of_eq rfl) (by decide) hn (by decide) (by decide)
    refine own_st st1 ?_
    show OwnG _ _ _ _ _ _ _ (T1.setTop (mkF m 10 #[.val (.ref a1), .val (.int nl), .unset] [(.ref h0.size)]))
    obtain ⟨T2, X2, e2, st2⟩ := castY X1 hx hZ hown (hw _ (List.mem_of_getElem? (i := 57) rfl)) e1 (Ins.self A1) (g := (mkF m 10 #[.val (.ref a1), .val (.int nl), .unset] [(.ref h0.size)])) rfl rfl (hb hby d8_10)
    refine own_st st2 ?_
    show OwnG _ _ _ _ _ _ _ (T2.setTop (mkF m 13 #[.val (.ref a1), .val (.int nl), .unset] [(.ref h0.size)]))
    exact own_retA X2 hx hrt hlk rfl (hb hby d8_13) (by decide) (by decide) (by show _ ∧ _; first | (rw [e2]; exact ⟨rfl, N0, Nat.le_trans Z0 E1.1, (Keep.refl h0 []).ext E1, A1, V1.cong fun j hj => by rw [if_pos hj]⟩) | exact ⟨rfl, N0, Nat.le_trans Z0 E1.1, (Keep.refl h0 []).ext E1, A1, V1.cong fun j hj => by rw [if_pos hj]⟩)
  · skip
    refine own_st (fun _ kq_ => XS.icmpYes X0.here hx rfl (pc0 := 3) (pc' := 14) rfl (hb hby d8_3) rfl (feq h3).2 (by decide) (by decide) kq_) ?_
    show OwnG _ _ _ _ _ _ _ (s₁.setTop (mkF m 14 #[.val (.ref a1), .val (.int nl), .unset] []))
    refine own_st (fun _ kq_ => XS.iloadN X0.here hx rfl (hb hby d8_14) rfl kq_) ?_
    show OwnG _ _ _ _ _ _ _ (s₁.setTop (mkF m 15 #[.val (.ref a1), .val (.int nl), .unset] [(.int nl)]))
    obtain ⟨T3, h3, X3, e3, E3, V3, A3, st3⟩ := own_newB X0 hx hZ (hw _ (List.mem_of_getElem? (i := 1) rfl)) e0 (g := (mkF m 15 #[.val (.ref a1), .val (.int nl), .unset] [(.int nl)])) rfl (hb hby d8_15) rfl (k) hnl (cap := 64) hk (by decide) (by decide) (by decide)
    obtain ⟨b3, g3⟩ : ∃ z, z = h0.size := ⟨_, rfl⟩
    rw [← g3] at V3 A3 st3
    refine own_st st3 ?_
    show OwnG _ _ _ _ _ _ _ (T3.setTop (mkF m 17 #[.val (.ref a1), .val (.int nl), .unset] [(.ref b3)]))
    have A0 := V0.ext E3
    have S3 : n0 ≤ h3.size := Nat.le_trans Z0 E3.1
    have gb : n0 ≤ b3 := Nat.le_trans Z0 (Nat.le_of_eq g3.symm)
    refine own_st (fun _ kq_ => XS.astoreN X3.here hx rfl (hb hby d8_17) rfl rfl (l' := #[.val (.ref a1), .val (.int nl), .val (.ref b3)]) rfl kq_) ?_
    show OwnG _ _ _ _ _ _ _ (T3.setTop (mkF m 18 #[.val (.ref a1), .val (.int nl), .val (.ref b3)] []))
    refine own_st (fun _ kq_ => XS.aloadN X3.here hx rfl (hb hby d8_18) rfl rfl kq_) ?_
    show OwnG _ _ _ _ _ _ _ (T3.setTop (mkF m 19 #[.val (.ref a1), .val (.int nl), .val (.ref b3)] [(.ref a1)]))
    refine own_st (fun _ kq_ => XS.iconst X3.here hx rfl (hb hby d8_19) kq_) ?_
    show OwnG _ _ _ _ _ _ _ (T3.setTop (mkF m 20 #[.val (.ref a1), .val (.int nl), .val (.ref b3)] [(.int (0 : Int32)), (.ref a1)]))
    refine own_st (fun _ kq_ => XS.aloadN X3.here hx rfl (hb hby d8_20) rfl rfl kq_) ?_
    show OwnG _ _ _ _ _ _ _ (T3.setTop (mkF m 21 #[.val (.ref a1), .val (.int nl), .val (.ref b3)] [(.ref b3), (.int (0 : Int32)), (.ref a1)]))
    refine own_st (fun _ kq_ => XS.iconst X3.here hx rfl (hb hby d8_21) kq_) ?_
    show OwnG _ _ _ _ _ _ _ (T3.setTop (mkF m 22 #[.val (.ref a1), .val (.int nl), .val (.ref b3)] [(.int (0 : Int32)), (.ref b3), (.int (0 : Int32)), (.ref a1)]))
    refine own_st (fun _ kq_ => XS.aloadN X3.here hx rfl (hb hby d8_22) rfl rfl kq_) ?_
    show OwnG _ _ _ _ _ _ _ (T3.setTop (mkF m 23 #[.val (.ref a1), .val (.int nl), .val (.ref b3)] [(.ref a1), (.int (0 : Int32)), (.ref b3), (.int (0 : Int32)), (.ref a1)]))
    refine own_st (own_len X3 hx hZ e3 A0 (z := (Int32.ofNat n)) rfl (g := (mkF m 23 #[.val (.ref a1), .val (.int nl), .val (.ref b3)] [(.ref a1), (.int (0 : Int32)), (.ref b3), (.int (0 : Int32)), (.ref a1)])) rfl rfl (hb hby d8_23)) ?_
    show OwnG _ _ _ _ _ _ _ (T3.setTop (mkF m 24 #[.val (.ref a1), .val (.int nl), .val (.ref b3)] [(.int (Int32.ofNat n)), (.int (0 : Int32)), (.ref b3), (.int (0 : Int32)), (.ref a1)]))
    refine own_st (fun _ kq_ => XS.iloadN X3.here hx rfl (hb hby d8_24) rfl kq_) ?_
    show OwnG _ _ _ _ _ _ _ (T3.setTop (mkF m 25 #[.val (.ref a1), .val (.int nl), .val (.ref b3)] [(.int nl), (.int (Int32.ofNat n)), (.int (0 : Int32)), (.ref b3), (.int (0 : Int32)), (.ref a1)]))
    obtain ⟨_, _, ⟨T4, L4, k4, n4⟩, -, X4, ⟨Lc4, hQ4, l4, y4, z4⟩, st4⟩ := Jvm.LawKit.callS X3 hx (y := (⟨"java/lang/Math", "min", "(II)I"⟩ : MethodName)) hown (mvT hZ (hw _ (List.mem_of_getElem? (i := 46) rfl))) (mvT hZ (hw _ (List.mem_of_getElem? (i := 47) rfl))) (mvT hZ (hw _ (List.mem_of_getElem? (i := 13) rfl))) (mvT hZ (hw _ (List.mem_of_getElem? (i := 48) rfl))) (by decide) (backOf (W := 4) (rm9 l Z a0 hw [] (Int32.ofNat n) nl h3 n0 S3) hZ (hw _ (List.mem_of_getElem? (i := 48) rfl)) (hw _ (List.mem_of_getElem? (i := 13) rfl)) (by decide) (by decide)) (g := (mkF m 25 #[.val (.ref a1), .val (.int nl), .val (.ref b3)] [(.int nl), (.int (Int32.ofNat n)), (.int (0 : Int32)), (.ref b3), (.int (0 : Int32)), (.ref a1)])) rfl (by rw [hml]; rfl) (argsL := [(.int (Int32.ofNat n)), (.int nl)]) (rest := [(.int (0 : Int32)), (.ref b3), (.int (0 : Int32)), (.ref a1)]) (lenOf (by decide +kernel : parseMethodDescriptor "(II)I" = some ⟨[.int, .int], some .int⟩) rfl) rfl (by show 2 * 0 + _ ≤ _; exact Nat.le_of_eq rfl) (hb hby d8_25) (fun _ _ => ⟨rfl, e3, (by dsimp only [Pt.cells]; decide), (by dsimp only [Pt.slots]; decide)⟩)
    dsimp only [Pt.U, Pt.locs, Pt.cells, Pt.slots] at X4 l4 y4 z4 st4 hQ4
    subst l4 y4 z4
    obtain ⟨rfl, N4q, E4⟩ := hQ4
    have N4 := Fr.app N0 N4q
    refine own_st st4 ?_
    show OwnG _ _ _ _ _ _ _ (T4.setTop (mkF m 28 #[.val (.ref a1), .val (.int nl), .val (.ref b3)] [(.int (if nl < Int32.ofNat n then nl else Int32.ofNat n)), (.int (0 : Int32)), (.ref b3), (.int (0 : Int32)), (.ref a1)]))
    have hmn : (if nl < Int32.ofNat n then nl else Int32.ofNat n).toInt = ((min k n : Nat) : Int) := by
      have q1 := own_to n (by omega)
      by_cases q : nl < Int32.ofNat n
      · rw [if_pos q]; rw [Int32.lt_iff_toInt_lt] at q; omega
      · rw [if_neg q]; rw [Int32.lt_iff_toInt_lt] at q; omega
    obtain ⟨T5, h5, L5, X5, e5, N5, K5, V5, st5⟩ := own_cp X4 hx hZ hown (hw _ (List.mem_of_getElem? (i := 49) rfl)) (hw _ (List.mem_of_getElem? (i := 31) rfl)) (hw _ (List.mem_of_getElem? (i := 29) rfl)) (hw _ (List.mem_of_getElem? (i := 30) rfl)) E4 A0 V3 rfl (0) (0) (min k n) rfl rfl hmn (by omega) (by omega) N4 gb (g := (mkF m 28 #[.val (.ref a1), .val (.int nl), .val (.ref b3)] [(.int (if nl < Int32.ofNat n then nl else Int32.ofNat n)), (.int (0 : Int32)), (.ref b3), (.int (0 : Int32)), (.ref a1)])) rfl (by rw [hml]; rfl) rfl (hb hby d8_28) (by decide) (W := 0) (by show 2 * 0 + _ ≤ _; exact Nat.le_of_eq rfl) (by decide)
    refine own_st st5 ?_
    show OwnG _ _ _ _ _ _ _ (T5.setTop (mkF m 31 #[.val (.ref a1), .val (.int nl), .val (.ref b3)] []))
    refine own_st (fun _ kq_ => XS.aloadN X5.here hx rfl (hb hby d8_31) rfl rfl kq_) ?_
    show OwnG _ _ _ _ _ _ _ (T5.setTop (mkF m 32 #[.val (.ref a1), .val (.int nl), .val (.ref b3)] [(.ref b3)]))
    have VV : Ary Z h5 b3 .byte k (fun j => .int (if j < n then q j else 0)) := V5.cong fun j hj => by
      by_cases q1 : j < n
      · rw [if_pos (by omega), if_pos q1, show 0 + (j - 0) = j by omega]
      · rw [if_neg (by omega), if_neg q1]
    have EE := A3.keep K5
    have KK : Keep h0 h5 [] := ((Keep.refl h0 []).ext E3).trans K5 (fun z hz => by cases List.mem_singleton.mp hz; exact Or.inr (Nat.le_of_eq g3.symm))
    rw [g3] at VV EE
    rw [g3]
    show OwnG _ _ _ _ _ _ _ (T5.setTop (mkF m 32 #[.val (.ref a1), .val (.int nl), .val (.ref h0.size)] [(.ref h0.size)]))
    exact own_retA X5 hx hrt hlk rfl (hb hby d8_32) (by decide) (by decide) (by show _ ∧ _; first | (rw [e5]; exact ⟨rfl, N5, Nat.le_trans S3 K5.1, KK, EE, VV⟩) | exact ⟨rfl, N5, Nat.le_trans S3 K5.1, KK, EE, VV⟩)
theorem d1_0 : decode prog_18_method_1_code 0 = .ok (.aload_n 0, 1) := by decide +kernel
theorem d1_1 : decode prog_18_method_1_code 1 = .ok (.invokespecial 1, 3) := by decide +kernel
theorem d1_4 : decode prog_18_method_1_code 4 = .ok (.aload_n 0, 1) := by decide +kernel
theorem d1_5 : decode prog_18_method_1_code 5 = .ok (.iload_n 1, 1) := by decide +kernel
theorem d1_6 : decode prog_18_method_1_code 6 = .ok (.bipush 16, 2) := by decide +kernel
theorem d1_8 : decode prog_18_method_1_code 8 = .ok (.invokestatic 9, 3) := by decide +kernel
theorem d1_11 : decode prog_18_method_1_code 11 = .ok (.newarray .byte, 2) := by decide +kernel
theorem d1_13 : decode prog_18_method_1_code 13 = .ok (.putfield 15, 3) := by decide +kernel
theorem d1_16 : decode prog_18_method_1_code 16 = .ok (.return_, 1) := by decide +kernel
theorem pn_1 : plainFor (⟨"com/example/dwell/dwell/io/ByteWriter", "<init>", "(I)V"⟩ : MethodName) = true := by first | exact plainFor_of_name (by first | (simp [plainName, overriddenIn]; done) | decide +kernel) | decide +kernel
theorem ef_1 (m : MethodId) (x0 : Addr) (x1 : Int32) : entryFrame m #[(.ref x0), (.int x1)] 2 = mkF m 0 #[.val (.ref x0), .val (.int x1)] [] := by first | (simp [entryFrame, mkF, argsToLocals, Value.category]; done) | rfl
def Q1 (Z : State) (a1 : Addr) (cp : Int32) (C : Nat) (h0 : Heap) (n0 : Nat) (v : Option Value) (h : Heap) (L : List Loc) : Prop := v = none ∧ Fr n0 L ∧ n0 ≤ h.size ∧ Keep h0 h [a1] ∧ BW Z h a1 h0.size 0 C (fun _ => 0)
set_option maxRecDepth 65536 in
set_option maxHeartbeats 40000000 in
theorem rm1 (l : Launch) (Z : State) (a0 : Array Value) (hw : ∀ d ∈ tables_1, d.before a0 Z = true) (ws : List Jvm.Cond) (a1 : Addr) (cp : Int32) (C : Nat) (h0 : Heap) (n0 : Nat) (Z0 : n0 ≤ h0.size) (hC : (if cp < (16 : Int32) then (16 : Int32) else cp).toInt = (C : Int)) (hC2 : C ≤ 27) (E_a : Exa Z h0 a1 "com/example/dwell/dwell/io/ByteWriter") (F_by : Fld Z h0 a1 "com/example/dwell/dwell/io/ByteWriter" "bytes" "[B" .null) (F_ln : Fld Z h0 a1 "com/example/dwell/dwell/io/ByteWriter" "length" "I" (.int (0 : Int32))) (g1 : n0 ≤ a1) :
    MetFree l (⟨"com/example/dwell/dwell/io/ByteWriter", "<init>", "(I)V"⟩ : MethodName) (head1 (Jvm.Cond.code (⟨"com/example/dwell/dwell/io/ByteWriter", "<init>", "(I)V"⟩ : MethodName) prog_18_method_1_code 2 none :: ws) ({ frames := 1, cells := 1, slots := 27, locals := 14 } : Room)) (fun a U => a = #[(.ref a1), (.int cp)] ∧ Z.Warmed39 U.vm ∧ U.heap = h0) (fun _ _ _ _ _ => True) (fun _ U o U' => ∃ v L, o = .returned v ∧ Q1 Z a1 cp C h0 n0 v U'.heap L ∧ FrameEnd U o U' L ({ frames := 1, cells := 1, slots := 27, locals := 14 } : Room).cells ({ frames := 1, cells := 1, slots := 27, locals := 14 } : Room).slots) := by
  refine MetFree.of_bodySF pn_1 hisR ?_
  intro p e s m args below meth c s₁ Bd hml0 hP hK
  obtain ⟨rfl, hZ, hh⟩ := hP
  have hx := Bd.exec
  have hby := Bd.bytes
  have hml : c.maxLocals = 2 := hml0
  have hown : s.vm.findClass "com/example/dwell/dwell/io/ByteWriter" = some m.cls := findClass_of_methodNamed Bd.named
  have hnm := (name_of_methodNamed Bd.named Bd.method).1
  have hrt := Bd.returns
  have hlk : meth.locks = false := BodyLoose.notSynchronized Bd
  have X0 : Stand p l e ({ frames := 1, cells := 1, slots := 27, locals := 14 } : Room) s m #[(.ref a1), (.int cp)] below meth c s₁ [] 0 0 := Stand.of_body Bd
  have e0 : s₁.heap = h0 := by rw [← hh, Bd.state]; rfl
  have N0 := Fr.nil n0
  show OwnG ({ frames := 1, cells := 1, slots := 27, locals := 14 } : Room).cells ({ frames := 1, cells := 1, slots := 27, locals := 14 } : Room).slots (Q1 Z a1 cp C h0 n0) p e below s (s₁.setTop (entryFrame m #[(.ref a1), (.int cp)] 2))
  refine own_st (σ' := s₁.setTop (mkF m 0 #[.val (.ref a1), .val (.int cp)] [])) (fun _ kq_ => castTop (ef_1 m a1 cp) kq_) ?_
  show OwnG _ _ _ _ _ _ _ (s₁.setTop (mkF m 0 #[.val (.ref a1), .val (.int cp)] []))
  refine own_st (fun _ kq_ => XS.aloadN X0.here hx rfl (hb hby d1_0) rfl rfl kq_) ?_
  show OwnG _ _ _ _ _ _ _ (s₁.setTop (mkF m 1 #[.val (.ref a1), .val (.int cp)] [(.ref a1)]))
  obtain ⟨T6, X6, e6, st6⟩ := initO X0 hx hZ hown (hw _ (List.mem_of_getElem? (i := 8) rfl)) (hw _ (List.mem_of_getElem? (i := 9) rfl)) (hw _ (List.mem_of_getElem? (i := 10) rfl)) e0 (g := (mkF m 1 #[.val (.ref a1), .val (.int cp)] [(.ref a1)])) rfl (by rw [hml]; rfl) rfl (hb hby d1_1) (by decide) (W := 0) (by show 2 * 0 + _ ≤ _; exact Nat.le_of_eq rfl) (by decide)
  refine own_st st6 ?_
  show OwnG _ _ _ _ _ _ _ (T6.setTop (mkF m 4 #[.val (.ref a1), .val (.int cp)] []))
  refine own_st (fun _ kq_ => XS.aloadN X6.here hx rfl (hb hby d1_4) rfl rfl kq_) ?_
  show OwnG _ _ _ _ _ _ _ (T6.setTop (mkF m 5 #[.val (.ref a1), .val (.int cp)] [(.ref a1)]))
  refine own_st (fun _ kq_ => XS.iloadN X6.here hx rfl (hb hby d1_5) rfl kq_) ?_
  show OwnG _ _ _ _ _ _ _ (T6.setTop (mkF m 6 #[.val (.ref a1), .val (.int cp)] [(.int cp), (.ref a1)]))
  refine own_st (fun _ kq_ => XS.bipush X6.here hx rfl (hb hby d1_6) kq_) ?_
  show OwnG _ _ _ _ _ _ _ (T6.setTop (mkF m 8 #[.val (.ref a1), .val (.int cp)] [(.int (16 : Int32)), (.int cp), (.ref a1)]))
  obtain ⟨_, _, ⟨T7, L7, k7, n7⟩, -, X7, ⟨Lc7, hQ7, l7, y7, z7⟩, st7⟩ := Jvm.LawKit.callS X6 hx (y := (⟨"java/lang/Math", "max", "(II)I"⟩ : MethodName)) hown (mvT hZ (hw _ (List.mem_of_getElem? (i := 11) rfl))) (mvT hZ (hw _ (List.mem_of_getElem? (i := 12) rfl))) (mvT hZ (hw _ (List.mem_of_getElem? (i := 13) rfl))) (mvT hZ (hw _ (List.mem_of_getElem? (i := 14) rfl))) (by decide) (backOf (W := 1) (rm3 l Z a0 hw [] cp (16 : Int32) h0 n0 Z0) hZ (hw _ (List.mem_of_getElem? (i := 14) rfl)) (hw _ (List.mem_of_getElem? (i := 13) rfl)) (by decide) (by decide)) (g := (mkF m 8 #[.val (.ref a1), .val (.int cp)] [(.int (16 : Int32)), (.int cp), (.ref a1)])) rfl (by rw [hml]; rfl) (argsL := [(.int cp), (.int (16 : Int32))]) (rest := [(.ref a1)]) (lenOf (by decide +kernel : parseMethodDescriptor "(II)I" = some ⟨[.int, .int], some .int⟩) rfl) rfl (by show 2 * 0 + _ ≤ _; exact Nat.le_of_eq rfl) (hb hby d1_8) (fun _ _ => ⟨rfl, e6, (by dsimp only [Pt.cells]; decide), (by dsimp only [Pt.slots]; decide)⟩)
  dsimp only [Pt.U, Pt.locs, Pt.cells, Pt.slots] at X7 l7 y7 z7 st7 hQ7
  subst l7 y7 z7
  obtain ⟨rfl, N7q, E7⟩ := hQ7
  have N7 := Fr.app N0 N7q
  refine own_st st7 ?_
  show OwnG _ _ _ _ _ _ _ (T7.setTop (mkF m 11 #[.val (.ref a1), .val (.int cp)] [(.int (if cp < (16 : Int32) then (16 : Int32) else cp)), (.ref a1)]))
  obtain ⟨T8, h8, X8, e8, E8, V8, A8, st8⟩ := own_newB X7 hx hZ (hw _ (List.mem_of_getElem? (i := 1) rfl)) E7 (g := (mkF m 11 #[.val (.ref a1), .val (.int cp)] [(.int (if cp < (16 : Int32) then (16 : Int32) else cp)), (.ref a1)])) rfl (hb hby d1_11) rfl (C) hC (cap := 27) hC2 (by decide) (by decide) (by decide)
  obtain ⟨b8, g8⟩ : ∃ z, z = h0.size := ⟨_, rfl⟩
  rw [← g8] at V8 A8 st8
  refine own_st st8 ?_
  show OwnG _ _ _ _ _ _ _ (T8.setTop (mkF m 13 #[.val (.ref a1), .val (.int cp)] [(.ref b8), (.ref a1)]))
  have Ee := E_a.ext E8
  have Fe := F_by.ext E8
  have Fs := F_ln.ext E8
  have hne : a1 ≠ b8 := Nat.ne_of_lt (Nat.lt_of_lt_of_le E_a.lt (Nat.le_of_eq g8.symm))
  have S8 : n0 ≤ h8.size := Nat.le_trans Z0 E8.1
  obtain ⟨T9, h9, X9, e9, W9, st9⟩ := putF X8 hx hZ hown (host := "") (Or.inl (hw _ (List.mem_of_getElem? (i := 15) rfl))) Via.refl e8 Fe Ee (Or.inl (hw _ (List.mem_of_getElem? (i := 16) rfl))) (hw _ (List.mem_of_getElem? (i := 3) rfl)) (ty := (.array .byte)) (by decide) rfl rfl (g := (mkF m 13 #[.val (.ref a1), .val (.int cp)] [(.ref b8), (.ref a1)])) rfl rfl (hb hby d1_13)
  have N9 := Fr.snoc X9 N7 g1
  refine own_st st9 ?_
  show OwnG _ _ _ _ _ _ _ (T9.setTop (mkF m 16 #[.val (.ref a1), .val (.int cp)] []))
  have Fs2 := Fs.other W9 (Or.inr (slot_ne (Or.inl (hw _ (List.mem_of_getElem? (i := 27) rfl))) (Or.inl (hw _ (List.mem_of_getElem? (i := 16) rfl))) (by decide) (t := .int) (t' := (.array .byte)) (by decide) (by decide)))
  have KK : Keep h0 h9 [a1] := ((Keep.refl h0 [a1]).ext E8).wr W9 (Or.inl (List.mem_of_getElem? (i := 0) rfl))
  have II : BW Z h9 a1 b8 0 C (fun _ => 0) := ⟨Ee.wr W9, Fe.same W9, Fs2, V8.other W9 (Ne.symm hne), A8.wr W9, hne⟩
  rw [g8] at II
  exact own_retV X9 hx hrt hlk (hb hby d1_16) (by decide) (by decide) (by show _ ∧ _; first | (rw [e9]; exact ⟨rfl, N9, by rw [W9.size]; exact S8, KK, II⟩) | exact ⟨rfl, N9, by rw [W9.size]; exact S8, KK, II⟩)
theorem d5_0 : decode prog_18_method_10_code 0 = .ok (.aload_n 0, 1) := by decide +kernel
theorem d5_1 : decode prog_18_method_10_code 1 = .ok (.getfield 15, 3) := by decide +kernel
theorem d5_4 : decode prog_18_method_10_code 4 = .ok (.arraylength, 1) := by decide +kernel
theorem d5_5 : decode prog_18_method_10_code 5 = .ok (.aload_n 0, 1) := by decide +kernel
theorem d5_6 : decode prog_18_method_10_code 6 = .ok (.getfield 23, 3) := by decide +kernel
theorem d5_9 : decode prog_18_method_10_code 9 = .ok (.isub, 1) := by decide +kernel
theorem d5_10 : decode prog_18_method_10_code 10 = .ok (.iload_n 1, 1) := by decide +kernel
theorem d5_11 : decode prog_18_method_10_code 11 = .ok (.if_icmp .ge 30, 3) := by decide +kernel
theorem d5_14 : decode prog_18_method_10_code 14 = .ok (.aload_n 0, 1) := by decide +kernel
theorem d5_15 : decode prog_18_method_10_code 15 = .ok (.aload_n 0, 1) := by decide +kernel
theorem d5_16 : decode prog_18_method_10_code 16 = .ok (.getfield 15, 3) := by decide +kernel
theorem d5_19 : decode prog_18_method_10_code 19 = .ok (.aload_n 0, 1) := by decide +kernel
theorem d5_20 : decode prog_18_method_10_code 20 = .ok (.getfield 15, 3) := by decide +kernel
theorem d5_23 : decode prog_18_method_10_code 23 = .ok (.arraylength, 1) := by decide +kernel
theorem d5_24 : decode prog_18_method_10_code 24 = .ok (.iconst 2, 1) := by decide +kernel
theorem d5_25 : decode prog_18_method_10_code 25 = .ok (.imul, 1) := by decide +kernel
theorem d5_26 : decode prog_18_method_10_code 26 = .ok (.aload_n 0, 1) := by decide +kernel
theorem d5_27 : decode prog_18_method_10_code 27 = .ok (.getfield 23, 3) := by decide +kernel
theorem d5_30 : decode prog_18_method_10_code 30 = .ok (.iload_n 1, 1) := by decide +kernel
theorem d5_31 : decode prog_18_method_10_code 31 = .ok (.iadd, 1) := by decide +kernel
theorem d5_32 : decode prog_18_method_10_code 32 = .ok (.invokestatic 9, 3) := by decide +kernel
theorem d5_35 : decode prog_18_method_10_code 35 = .ok (.invokestatic 72, 3) := by decide +kernel
theorem d5_38 : decode prog_18_method_10_code 38 = .ok (.putfield 15, 3) := by decide +kernel
theorem d5_41 : decode prog_18_method_10_code 41 = .ok (.return_, 1) := by decide +kernel
theorem pn_5 : plainFor (⟨"com/example/dwell/dwell/io/ByteWriter", "makeRoom", "(I)V"⟩ : MethodName) = true := by first | exact plainFor_of_name (by first | (simp [plainName, overriddenIn]; done) | decide +kernel) | decide +kernel
theorem ef_5 (m : MethodId) (x0 : Addr) (x1 : Int32) : entryFrame m #[(.ref x0), (.int x1)] 2 = mkF m 0 #[.val (.ref x0), .val (.int x1)] [] := by first | (simp [entryFrame, mkF, argsToLocals, Value.category]; done) | rfl
def Q5 (Z : State) (a1 : Addr) (ab : Addr) (len : Nat) (C : Nat) (q : Nat → Int32) (xt : Int32) (ex : Nat) (h0 : Heap) (n0 : Nat) (v : Option Value) (h : Heap) (L : List Loc) : Prop := v = none ∧ Fr n0 L ∧ n0 ≤ h.size ∧ Keep h0 h [a1] ∧ ∃ ab' C' q', BW Z h a1 ab' len C' q' ∧ len + ex ≤ C' ∧ C' ≤ 64 ∧ (∀ j, j < len → q' j = q j) ∧ (ab' = ab ∨ h0.size ≤ ab') ∧ n0 ≤ ab'
set_option maxRecDepth 65536 in
set_option maxHeartbeats 40000000 in
theorem rm5 (l : Launch) (Z : State) (a0 : Array Value) (hw : ∀ d ∈ tables_1, d.before a0 Z = true) (ws : List Jvm.Cond) (a1 : Addr) (ab : Addr) (len : Nat) (C : Nat) (q : Nat → Int32) (xt : Int32) (ex : Nat) (h0 : Heap) (n0 : Nat) (Z0 : n0 ≤ h0.size) (hxt : xt.toInt = (ex : Int)) (hle : len + ex ≤ 31) (hC : C ≤ 64) (hlC : len ≤ C) (I0 : BW Z h0 a1 ab len C q) (ga : n0 ≤ a1) (gab : n0 ≤ ab) :
    MetFree l (⟨"com/example/dwell/dwell/io/ByteWriter", "makeRoom", "(I)V"⟩ : MethodName) (head1 (Jvm.Cond.code (⟨"com/example/dwell/dwell/io/ByteWriter", "makeRoom", "(I)V"⟩ : MethodName) prog_18_method_10_code 2 none :: ws) ({ frames := 2, cells := 1, slots := 64, locals := 33 } : Room)) (fun a U => a = #[(.ref a1), (.int xt)] ∧ Z.Warmed39 U.vm ∧ U.heap = h0) (fun _ _ _ _ _ => True) (fun _ U o U' => ∃ v L, o = .returned v ∧ Q5 Z a1 ab len C q xt ex h0 n0 v U'.heap L ∧ FrameEnd U o U' L ({ frames := 2, cells := 1, slots := 64, locals := 33 } : Room).cells ({ frames := 2, cells := 1, slots := 64, locals := 33 } : Room).slots) := by
  refine MetFree.of_bodySF pn_5 hisR ?_
  intro p e s m args below meth c s₁ Bd hml0 hP hK
  obtain ⟨rfl, hZ, hh⟩ := hP
  have hx := Bd.exec
  have hby := Bd.bytes
  have hml : c.maxLocals = 2 := hml0
  have hown : s.vm.findClass "com/example/dwell/dwell/io/ByteWriter" = some m.cls := findClass_of_methodNamed Bd.named
  have hnm := (name_of_methodNamed Bd.named Bd.method).1
  have hrt := Bd.returns
  have hlk : meth.locks = false := BodyLoose.notSynchronized Bd
  have X0 : Stand p l e ({ frames := 2, cells := 1, slots := 64, locals := 33 } : Room) s m #[(.ref a1), (.int xt)] below meth c s₁ [] 0 0 := Stand.of_body Bd
  have e0 : s₁.heap = h0 := by rw [← hh, Bd.state]; rfl
  have N0 := Fr.nil n0
  show OwnG ({ frames := 2, cells := 1, slots := 64, locals := 33 } : Room).cells ({ frames := 2, cells := 1, slots := 64, locals := 33 } : Room).slots (Q5 Z a1 ab len C q xt ex h0 n0) p e below s (s₁.setTop (entryFrame m #[(.ref a1), (.int xt)] 2))
  refine own_st (σ' := s₁.setTop (mkF m 0 #[.val (.ref a1), .val (.int xt)] [])) (fun _ kq_ => castTop (ef_5 m a1 xt) kq_) ?_
  show OwnG _ _ _ _ _ _ _ (s₁.setTop (mkF m 0 #[.val (.ref a1), .val (.int xt)] []))
  have I1 := I0
  obtain ⟨E_a, F_by, F_ln, V0, E_b, hne⟩ := I0
  have hCi := own_to C (by omega)
  have hli := own_to len (by omega)
  refine own_st (fun _ kq_ => XS.aloadN X0.here hx rfl (hb hby d5_0) rfl rfl kq_) ?_
  show OwnG _ _ _ _ _ _ _ (s₁.setTop (mkF m 1 #[.val (.ref a1), .val (.int xt)] [(.ref a1)]))
  obtain ⟨T10, X10, e10, st10⟩ := getF X0 hx hZ hown (host := "") (Or.inl (hw _ (List.mem_of_getElem? (i := 15) rfl))) Via.refl e0 F_by (g := (mkF m 1 #[.val (.ref a1), .val (.int xt)] [(.ref a1)])) rfl rfl (hb hby d5_1)
  refine own_st st10 ?_
  show OwnG _ _ _ _ _ _ _ (T10.setTop (mkF m 4 #[.val (.ref a1), .val (.int xt)] [(.ref ab)]))
  refine own_st (own_len X10 hx hZ e10 V0 (z := (Int32.ofNat C)) rfl (g := (mkF m 4 #[.val (.ref a1), .val (.int xt)] [(.ref ab)])) rfl rfl (hb hby d5_4)) ?_
  show OwnG _ _ _ _ _ _ _ (T10.setTop (mkF m 5 #[.val (.ref a1), .val (.int xt)] [(.int (Int32.ofNat C))]))
  refine own_st (fun _ kq_ => XS.aloadN X10.here hx rfl (hb hby d5_5) rfl rfl kq_) ?_
  show OwnG _ _ _ _ _ _ _ (T10.setTop (mkF m 6 #[.val (.ref a1), .val (.int xt)] [(.ref a1), (.int (Int32.ofNat C))]))
  obtain ⟨T11, X11, e11, st11⟩ := getF X10 hx hZ hown (host := "") (Or.inl (hw _ (List.mem_of_getElem? (i := 26) rfl))) Via.refl e10 F_ln (g := (mkF m 6 #[.val (.ref a1), .val (.int xt)] [(.ref a1), (.int (Int32.ofNat C))])) rfl rfl (hb hby d5_6)
  refine own_st st11 ?_
  show OwnG _ _ _ _ _ _ _ (T11.setTop (mkF m 9 #[.val (.ref a1), .val (.int xt)] [(.int (Int32.ofNat len)), (.int (Int32.ofNat C))]))
  refine own_st (fun _ kq_ => XS.isub X11.here hx rfl (hb hby d5_9) rfl kq_) ?_
  show OwnG _ _ _ _ _ _ _ (T11.setTop (mkF m 10 #[.val (.ref a1), .val (.int xt)] [(.int ((Int32.ofNat C) - (Int32.ofNat len)))]))
  refine own_st (fun _ kq_ => XS.iloadN X11.here hx rfl (hb hby d5_10) rfl kq_) ?_
  show OwnG _ _ _ _ _ _ _ (T11.setTop (mkF m 11 #[.val (.ref a1), .val (.int xt)] [(.int xt), (.int ((Int32.ofNat C) - (Int32.ofNat len)))]))
  have hd := own_sub (Int32.ofNat C) (Int32.ofNat len) C len hCi hli (by omega) (by omega)
  by_cases h11 : ((Int32.ofNat C) - (Int32.ofNat len)) < xt
  · skip
    refine own_st (fun _ kq_ => XS.icmpNo X11.here hx rfl (hb hby d5_11) rfl (tlt h11).2.1 kq_) ?_
    show OwnG _ _ _ _ _ _ _ (T11.setTop (mkF m 14 #[.val (.ref a1), .val (.int xt)] []))
    rw [Int32.lt_iff_toInt_lt, hd, hxt] at h11
    refine own_st (fun _ kq_ => XS.aloadN X11.here hx rfl (hb hby d5_14) rfl rfl kq_) ?_
    show OwnG _ _ _ _ _ _ _ (T11.setTop (mkF m 15 #[.val (.ref a1), .val (.int xt)] [(.ref a1)]))
    refine own_st (fun _ kq_ => XS.aloadN X11.here hx rfl (hb hby d5_15) rfl rfl kq_) ?_
    show OwnG _ _ _ _ _ _ _ (T11.setTop (mkF m 16 #[.val (.ref a1), .val (.int xt)] [(.ref a1), (.ref a1)]))
    obtain ⟨T12, X12, e12, st12⟩ := getF X11 hx hZ hown (host := "") (Or.inl (hw _ (List.mem_of_getElem? (i := 15) rfl))) Via.refl e11 F_by (g := (mkF m 16 #[.val (.ref a1), .val (.int xt)] [(.ref a1), (.ref a1)])) rfl rfl (hb hby d5_16)
    refine own_st st12 ?_
    show OwnG _ _ _ _ _ _ _ (T12.setTop (mkF m 19 #[.val (.ref a1), .val (.int xt)] [(.ref ab), (.ref a1)]))
    refine own_st (fun _ kq_ => XS.aloadN X12.here hx rfl (hb hby d5_19) rfl rfl kq_) ?_
    show OwnG _ _ _ _ _ _ _ (T12.setTop (mkF m 20 #[.val (.ref a1), .val (.int xt)] [(.ref a1), (.ref ab), (.ref a1)]))
    obtain ⟨T13, X13, e13, st13⟩ := getF X12 hx hZ hown (host := "") (Or.inl (hw _ (List.mem_of_getElem? (i := 15) rfl))) Via.refl e12 F_by (g := (mkF m 20 #[.val (.ref a1), .val (.int xt)] [(.ref a1), (.ref ab), (.ref a1)])) rfl rfl (hb hby d5_20)
    refine own_st st13 ?_
    show OwnG _ _ _ _ _ _ _ (T13.setTop (mkF m 23 #[.val (.ref a1), .val (.int xt)] [(.ref ab), (.ref ab), (.ref a1)]))
    refine own_st (own_len X13 hx hZ e13 V0 (z := (Int32.ofNat C)) rfl (g := (mkF m 23 #[.val (.ref a1), .val (.int xt)] [(.ref ab), (.ref ab), (.ref a1)])) rfl rfl (hb hby d5_23)) ?_
    show OwnG _ _ _ _ _ _ _ (T13.setTop (mkF m 24 #[.val (.ref a1), .val (.int xt)] [(.int (Int32.ofNat C)), (.ref ab), (.ref a1)]))
    refine own_st (fun _ kq_ => XS.iconst X13.here hx rfl (hb hby d5_24) kq_) ?_
    show OwnG _ _ _ _ _ _ _ (T13.setTop (mkF m 25 #[.val (.ref a1), .val (.int xt)] [(.int (2 : Int32)), (.int (Int32.ofNat C)), (.ref ab), (.ref a1)]))
    refine own_st (fun _ kq_ => XS.imul X13.here hx rfl (hb hby d5_25) rfl kq_) ?_
    show OwnG _ _ _ _ _ _ _ (T13.setTop (mkF m 26 #[.val (.ref a1), .val (.int xt)] [(.int ((Int32.ofNat C) * (2 : Int32))), (.ref ab), (.ref a1)]))
    refine own_st (fun _ kq_ => XS.aloadN X13.here hx rfl (hb hby d5_26) rfl rfl kq_) ?_
    show OwnG _ _ _ _ _ _ _ (T13.setTop (mkF m 27 #[.val (.ref a1), .val (.int xt)] [(.ref a1), (.int ((Int32.ofNat C) * (2 : Int32))), (.ref ab), (.ref a1)]))
    obtain ⟨T14, X14, e14, st14⟩ := getF X13 hx hZ hown (host := "") (Or.inl (hw _ (List.mem_of_getElem? (i := 26) rfl))) Via.refl e13 F_ln (g := (mkF m 27 #[.val (.ref a1), .val (.int xt)] [(.ref a1), (.int ((Int32.ofNat C) * (2 : Int32))), (.ref ab), (.ref a1)])) rfl rfl (hb hby d5_27)
    refine own_st st14 ?_
    show OwnG _ _ _ _ _ _ _ (T14.setTop (mkF m 30 #[.val (.ref a1), .val (.int xt)] [(.int (Int32.ofNat len)), (.int ((Int32.ofNat C) * (2 : Int32))), (.ref ab), (.ref a1)]))
    refine own_st (fun _ kq_ => XS.iloadN X14.here hx rfl (hb hby d5_30) rfl kq_) ?_
    show OwnG _ _ _ _ _ _ _ (T14.setTop (mkF m 31 #[.val (.ref a1), .val (.int xt)] [(.int xt), (.int (Int32.ofNat len)), (.int ((Int32.ofNat C) * (2 : Int32))), (.ref ab), (.ref a1)]))
    refine own_st (fun _ kq_ => XS.iadd X14.here hx rfl (hb hby d5_31) rfl kq_) ?_
    show OwnG _ _ _ _ _ _ _ (T14.setTop (mkF m 32 #[.val (.ref a1), .val (.int xt)] [(.int ((Int32.ofNat len) + xt)), (.int ((Int32.ofNat C) * (2 : Int32))), (.ref ab), (.ref a1)]))
    obtain ⟨_, _, ⟨T15, L15, k15, n15⟩, -, X15, ⟨Lc15, hQ15, l15, y15, z15⟩, st15⟩ := Jvm.LawKit.callS X14 hx (y := (⟨"java/lang/Math", "max", "(II)I"⟩ : MethodName)) hown (mvT hZ (hw _ (List.mem_of_getElem? (i := 11) rfl))) (mvT hZ (hw _ (List.mem_of_getElem? (i := 12) rfl))) (mvT hZ (hw _ (List.mem_of_getElem? (i := 13) rfl))) (mvT hZ (hw _ (List.mem_of_getElem? (i := 14) rfl))) (by decide) (backOf (W := 2) (rm3 l Z a0 hw [] ((Int32.ofNat C) * (2 : Int32)) ((Int32.ofNat len) + xt) h0 n0 Z0) hZ (hw _ (List.mem_of_getElem? (i := 14) rfl)) (hw _ (List.mem_of_getElem? (i := 13) rfl)) (by decide) (by decide)) (g := (mkF m 32 #[.val (.ref a1), .val (.int xt)] [(.int ((Int32.ofNat len) + xt)), (.int ((Int32.ofNat C) * (2 : Int32))), (.ref ab), (.ref a1)])) rfl (by rw [hml]; rfl) (argsL := [(.int ((Int32.ofNat C) * (2 : Int32))), (.int ((Int32.ofNat len) + xt))]) (rest := [(.ref ab), (.ref a1)]) (lenOf (by decide +kernel : parseMethodDescriptor "(II)I" = some ⟨[.int, .int], some .int⟩) rfl) rfl (by show 2 * 0 + _ ≤ _; exact Nat.le_of_eq rfl) (hb hby d5_32) (fun _ _ => ⟨rfl, e14, (by dsimp only [Pt.cells]; decide), (by dsimp only [Pt.slots]; decide)⟩)
    dsimp only [Pt.U, Pt.locs, Pt.cells, Pt.slots] at X15 l15 y15 z15 st15 hQ15
    subst l15 y15 z15
    obtain ⟨rfl, N15q, E15⟩ := hQ15
    have N15 := Fr.app N0 N15q
    refine own_st st15 ?_
    show OwnG _ _ _ _ _ _ _ (T15.setTop (mkF m 35 #[.val (.ref a1), .val (.int xt)] [(.int (if ((Int32.ofNat C) * (2 : Int32)) < ((Int32.ofNat len) + xt) then ((Int32.ofNat len) + xt) else ((Int32.ofNat C) * (2 : Int32)))), (.ref ab), (.ref a1)]))
    obtain ⟨M, hM, hM1, hM2⟩ : ∃ M : Nat, (if ((Int32.ofNat C) * (2 : Int32)) < ((Int32.ofNat len) + xt) then ((Int32.ofNat len) + xt) else ((Int32.ofNat C) * (2 : Int32))).toInt = (M : Int) ∧ len + ex ≤ M ∧ M ≤ 64 := by
      have q1 := own_dbl _ C hCi (by omega)
      have q2 := own_add _ _ len ex hli hxt (by omega)
      by_cases q3 : ((Int32.ofNat C) * (2 : Int32)) < ((Int32.ofNat len) + xt)
      · rw [if_pos q3]; exact ⟨len + ex, q2, by omega, by omega⟩
      · rw [if_neg q3]; rw [Int32.lt_iff_toInt_lt] at q3; exact ⟨2 * C, q1, by omega, by omega⟩
    generalize (if ((Int32.ofNat C) * (2 : Int32)) < ((Int32.ofNat len) + xt) then ((Int32.ofNat len) + xt) else ((Int32.ofNat C) * (2 : Int32))) = mx at *
    show OwnG _ _ _ _ _ _ _ (T15.setTop (mkF m 35 #[.val (.ref a1), .val (.int xt)] [(.int mx), (.ref ab), (.ref a1)]))
    obtain ⟨_, _, ⟨T16, L16, k16, n16⟩, -, X16, ⟨Lc16, hQ16, l16, y16, z16⟩, st16⟩ := Jvm.LawKit.callS X15 hx (y := (⟨"java/util/Arrays", "copyOf", "([BI)[B"⟩ : MethodName)) hown (mvT hZ (hw _ (List.mem_of_getElem? (i := 42) rfl))) (mvT hZ (hw _ (List.mem_of_getElem? (i := 43) rfl))) (mvT hZ (hw _ (List.mem_of_getElem? (i := 44) rfl))) (mvT hZ (hw _ (List.mem_of_getElem? (i := 45) rfl))) (by decide) (backOf (W := 1) (rm8 l Z a0 hw [] ab mx C M q h0 n0 Z0 hM hC hM2 V0 E_b) hZ (hw _ (List.mem_of_getElem? (i := 45) rfl)) (hw _ (List.mem_of_getElem? (i := 44) rfl)) (by decide) (by decide)) (g := (mkF m 35 #[.val (.ref a1), .val (.int xt)] [(.int mx), (.ref ab), (.ref a1)])) rfl (by rw [hml]; rfl) (argsL := [(.ref ab), (.int mx)]) (rest := [(.ref a1)]) (lenOf (by decide +kernel : parseMethodDescriptor "([BI)[B" = some ⟨[(.array .byte), .int], some (.array .byte)⟩) rfl) rfl (by show 2 * 0 + _ ≤ _; exact Nat.le_of_eq rfl) (hb hby d5_35) (fun _ _ => ⟨rfl, E15, (by dsimp only [Pt.cells]; decide), (by dsimp only [Pt.slots]; decide)⟩)
    dsimp only [Pt.U, Pt.locs, Pt.cells, Pt.slots] at X16 l16 y16 z16 st16 hQ16
    subst l16 y16 z16
    obtain ⟨rfl, N16q, S16, K16, EE16, V16⟩ := hQ16
    have N16 := Fr.app N15 N16q
    refine own_st st16 ?_
    show OwnG _ _ _ _ _ _ _ (T16.setTop (mkF m 38 #[.val (.ref a1), .val (.int xt)] [(.ref h0.size), (.ref a1)]))
    have Ee := E_a.keep K16
    have Fe := F_by.keep K16 nin0
    have Fl := F_ln.keep K16 nin0
    have hne2 : a1 ≠ h0.size := Nat.ne_of_lt E_a.lt
    obtain ⟨T17, h17, X17, e17, W17, st17⟩ := putF X16 hx hZ hown (host := "") (Or.inl (hw _ (List.mem_of_getElem? (i := 15) rfl))) Via.refl rfl Fe Ee (Or.inl (hw _ (List.mem_of_getElem? (i := 16) rfl))) (hw _ (List.mem_of_getElem? (i := 3) rfl)) (ty := (.array .byte)) (by decide) rfl rfl (g := (mkF m 38 #[.val (.ref a1), .val (.int xt)] [(.ref h0.size), (.ref a1)])) rfl rfl (hb hby d5_38)
    have N17 := Fr.snoc X17 N16 ga
    refine own_st st17 ?_
    show OwnG _ _ _ _ _ _ _ (T17.setTop (mkF m 41 #[.val (.ref a1), .val (.int xt)] []))
    have Fl2 := Fl.other W17 (Or.inr (slot_ne (Or.inl (hw _ (List.mem_of_getElem? (i := 27) rfl))) (Or.inl (hw _ (List.mem_of_getElem? (i := 16) rfl))) (by decide) (t := .int) (t' := (.array .byte)) (by decide) (by decide)))
    have KK : Keep h0 h17 [a1] := (own_kw K16).wr W17 (Or.inl (List.mem_of_getElem? (i := 0) rfl))
    exact own_retV X17 hx hrt hlk (hb hby d5_41) (by decide) (by decide) (by show _ ∧ _; first | (rw [e17]; exact ⟨rfl, N17, by rw [W17.size]; exact S16, KK, h0.size, M, _, ⟨Ee.wr W17, Fe.same W17, Fl2, V16.other W17 (Ne.symm hne2), EE16.wr W17, hne2⟩, hM1, hM2, fun j hj => if_pos (by omega), Or.inr (Nat.le_refl _), Z0⟩) | exact ⟨rfl, N17, by rw [W17.size]; exact S16, KK, h0.size, M, _, ⟨Ee.wr W17, Fe.same W17, Fl2, V16.other W17 (Ne.symm hne2), EE16.wr W17, hne2⟩, hM1, hM2, fun j hj => if_pos (by omega), Or.inr (Nat.le_refl _), Z0⟩)
  · skip
    refine own_st (fun _ kq_ => XS.icmpYes X11.here hx rfl (pc0 := 11) (pc' := 41) rfl (hb hby d5_11) rfl (flt h11).2.1 (by decide) (by decide) kq_) ?_
    show OwnG _ _ _ _ _ _ _ (T11.setTop (mkF m 41 #[.val (.ref a1), .val (.int xt)] []))
    rw [Int32.lt_iff_toInt_lt, hd, hxt] at h11
    exact own_retV X11 hx hrt hlk (hb hby d5_41) (by decide) (by decide) (by show _ ∧ _; first | (rw [e11]; exact ⟨rfl, N0, Z0, Keep.refl _ _, ab, C, q, I1, by omega, hC, fun _ _ => rfl, Or.inl rfl, gab⟩) | exact ⟨rfl, N0, Z0, Keep.refl _ _, ab, C, q, I1, by omega, hC, fun _ _ => rfl, Or.inl rfl, gab⟩)
theorem d4_0 : decode prog_18_method_4_code 0 = .ok (.iload_n 3, 1) := by decide +kernel
theorem d4_1 : decode prog_18_method_4_code 1 = .ok (.iload_n 2, 1) := by decide +kernel
theorem d4_2 : decode prog_18_method_4_code 2 = .ok (.isub, 1) := by decide +kernel
theorem d4_3 : decode prog_18_method_4_code 3 = .ok (.istore 4, 2) := by decide +kernel
theorem d4_5 : decode prog_18_method_4_code 5 = .ok (.aload_n 0, 1) := by decide +kernel
theorem d4_6 : decode prog_18_method_4_code 6 = .ok (.iload 4, 2) := by decide +kernel
theorem d4_8 : decode prog_18_method_4_code 8 = .ok (.invokevirtual 19, 3) := by decide +kernel
theorem d4_11 : decode prog_18_method_4_code 11 = .ok (.aload_n 1, 1) := by decide +kernel
theorem d4_12 : decode prog_18_method_4_code 12 = .ok (.iload_n 2, 1) := by decide +kernel
theorem d4_13 : decode prog_18_method_4_code 13 = .ok (.aload_n 0, 1) := by decide +kernel
theorem d4_14 : decode prog_18_method_4_code 14 = .ok (.getfield 15, 3) := by decide +kernel
theorem d4_17 : decode prog_18_method_4_code 17 = .ok (.aload_n 0, 1) := by decide +kernel
theorem d4_18 : decode prog_18_method_4_code 18 = .ok (.getfield 23, 3) := by decide +kernel
theorem d4_21 : decode prog_18_method_4_code 21 = .ok (.iload 4, 2) := by decide +kernel
theorem d4_23 : decode prog_18_method_4_code 23 = .ok (.invokestatic 31, 3) := by decide +kernel
theorem d4_26 : decode prog_18_method_4_code 26 = .ok (.aload_n 0, 1) := by decide +kernel
theorem d4_27 : decode prog_18_method_4_code 27 = .ok (.dup, 1) := by decide +kernel
theorem d4_28 : decode prog_18_method_4_code 28 = .ok (.getfield 23, 3) := by decide +kernel
theorem d4_31 : decode prog_18_method_4_code 31 = .ok (.iload 4, 2) := by decide +kernel
theorem d4_33 : decode prog_18_method_4_code 33 = .ok (.iadd, 1) := by decide +kernel
theorem d4_34 : decode prog_18_method_4_code 34 = .ok (.putfield 23, 3) := by decide +kernel
theorem d4_37 : decode prog_18_method_4_code 37 = .ok (.aload_n 0, 1) := by decide +kernel
theorem d4_38 : decode prog_18_method_4_code 38 = .ok (.areturn, 1) := by decide +kernel
theorem pn_4 : plainFor (⟨"com/example/dwell/dwell/io/ByteWriter", "put", "([BII)Lcom/example/dwell/dwell/io/ByteWriter;"⟩ : MethodName) = true := by first | exact plainFor_of_name (by first | (simp [plainName, overriddenIn]; done) | decide +kernel) | decide +kernel
theorem ef_4 (m : MethodId) (x0 : Addr) (x1 : Addr) (x2 : Int32) (x3 : Int32) : entryFrame m #[(.ref x0), (.ref x1), (.int x2), (.int x3)] 5 = mkF m 0 #[.val (.ref x0), .val (.ref x1), .val (.int x2), .val (.int x3), .unset] [] := by first | (simp [entryFrame, mkF, argsToLocals, Value.category]; done) | rfl
def Q4 (Z : State) (a1 : Addr) (ab : Addr) (C : Nat) (pa : Addr) (g : Nat → Int32) (nn : Int32) (nz : Nat) (h0 : Heap) (n0 : Nat) (v : Option Value) (h : Heap) (L : List Loc) : Prop := v = some (.ref a1) ∧ Fr n0 L ∧ n0 ≤ h.size ∧ Ary Z h pa .byte 29 (fun j => .int (g j)) ∧ ∃ ab' C' q', BW Z h a1 ab' nz C' q' ∧ nz ≤ C' ∧ C' ≤ 64 ∧ (∀ j, j < nz → q' j = g j) ∧ n0 ≤ ab' ∧ pa ≠ ab'
set_option maxRecDepth 65536 in
set_option maxHeartbeats 40000000 in
theorem rm4 (l : Launch) (Z : State) (a0 : Array Value) (hw : ∀ d ∈ tables_1, d.before a0 Z = true) (ws : List Jvm.Cond) (a1 : Addr) (ab : Addr) (C : Nat) (pa : Addr) (g : Nat → Int32) (nn : Int32) (nz : Nat) (h0 : Heap) (n0 : Nat) (Z0 : n0 ≤ h0.size) (hnn : nn.toInt = (nz : Int)) (hnz : nz ≤ 29) (hC : C ≤ 64) (I0 : BW Z h0 a1 ab 0 C (fun _ => 0)) (ga : n0 ≤ a1) (gab : n0 ≤ ab) (V_p : Ary Z h0 pa .byte 29 (fun j => .int (g j))) (hpb : pa ≠ ab) (hpa : pa ≠ a1) :
    MetFree l (⟨"com/example/dwell/dwell/io/ByteWriter", "put", "([BII)Lcom/example/dwell/dwell/io/ByteWriter;"⟩ : MethodName) (head1 (Jvm.Cond.code (⟨"com/example/dwell/dwell/io/ByteWriter", "put", "([BII)Lcom/example/dwell/dwell/io/ByteWriter;"⟩ : MethodName) prog_18_method_4_code 5 (some (.object "com/example/dwell/dwell/io/ByteWriter")) :: ws) ({ frames := 3, cells := 1, slots := 64, locals := 46 } : Room)) (fun a U => a = #[(.ref a1), (.ref pa), (.int (0 : Int32)), (.int nn)] ∧ Z.Warmed39 U.vm ∧ U.heap = h0) (fun _ _ _ _ _ => True) (fun _ U o U' => ∃ v L, o = .returned v ∧ Q4 Z a1 ab C pa g nn nz h0 n0 v U'.heap L ∧ FrameEnd U o U' L ({ frames := 3, cells := 1, slots := 64, locals := 46 } : Room).cells ({ frames := 3, cells := 1, slots := 64, locals := 46 } : Room).slots) := by
  refine MetFree.of_bodySF pn_4 hisR ?_
  intro p e s m args below meth c s₁ Bd hml0 hP hK
  obtain ⟨rfl, hZ, hh⟩ := hP
  have hx := Bd.exec
  have hby := Bd.bytes
  have hml : c.maxLocals = 5 := hml0
  have hown : s.vm.findClass "com/example/dwell/dwell/io/ByteWriter" = some m.cls := findClass_of_methodNamed Bd.named
  have hnm := (name_of_methodNamed Bd.named Bd.method).1
  have hrt := Bd.returns
  have hlk : meth.locks = false := BodyLoose.notSynchronized Bd
  have X0 : Stand p l e ({ frames := 3, cells := 1, slots := 64, locals := 46 } : Room) s m #[(.ref a1), (.ref pa), (.int (0 : Int32)), (.int nn)] below meth c s₁ [] 0 0 := Stand.of_body Bd
  have e0 : s₁.heap = h0 := by rw [← hh, Bd.state]; rfl
  have N0 := Fr.nil n0
  show OwnG ({ frames := 3, cells := 1, slots := 64, locals := 46 } : Room).cells ({ frames := 3, cells := 1, slots := 64, locals := 46 } : Room).slots (Q4 Z a1 ab C pa g nn nz h0 n0) p e below s (s₁.setTop (entryFrame m #[(.ref a1), (.ref pa), (.int (0 : Int32)), (.int nn)] 5))
  refine own_st (σ' := s₁.setTop (mkF m 0 #[.val (.ref a1), .val (.ref pa), .val (.int (0 : Int32)), .val (.int nn), .unset] [])) (fun _ kq_ => castTop (ef_4 m a1 pa (0 : Int32) nn) kq_) ?_
  show OwnG _ _ _ _ _ _ _ (s₁.setTop (mkF m 0 #[.val (.ref a1), .val (.ref pa), .val (.int (0 : Int32)), .val (.int nn), .unset] []))
  refine own_st (fun _ kq_ => XS.iloadN X0.here hx rfl (hb hby d4_0) rfl kq_) ?_
  show OwnG _ _ _ _ _ _ _ (s₁.setTop (mkF m 1 #[.val (.ref a1), .val (.ref pa), .val (.int (0 : Int32)), .val (.int nn), .unset] [(.int nn)]))
  refine own_st (fun _ kq_ => XS.iloadN X0.here hx rfl (hb hby d4_1) rfl kq_) ?_
  show OwnG _ _ _ _ _ _ _ (s₁.setTop (mkF m 2 #[.val (.ref a1), .val (.ref pa), .val (.int (0 : Int32)), .val (.int nn), .unset] [(.int (0 : Int32)), (.int nn)]))
  refine own_st (fun _ kq_ => XS.isub X0.here hx rfl (hb hby d4_2) rfl kq_) ?_
  show OwnG _ _ _ _ _ _ _ (s₁.setTop (mkF m 3 #[.val (.ref a1), .val (.ref pa), .val (.int (0 : Int32)), .val (.int nn), .unset] [(.int (nn - (0 : Int32)))]))
  rw [Int32.sub_zero]
  show OwnG _ _ _ _ _ _ _ (s₁.setTop (mkF m 3 #[.val (.ref a1), .val (.ref pa), .val (.int (0 : Int32)), .val (.int nn), .unset] [(.int nn)]))
  refine own_st (fun _ kq_ => XS.istore X0.here hx rfl (hb hby d4_3) rfl (l' := #[.val (.ref a1), .val (.ref pa), .val (.int (0 : Int32)), .val (.int nn), .val (.int nn)]) rfl kq_) ?_
  show OwnG _ _ _ _ _ _ _ (s₁.setTop (mkF m 5 #[.val (.ref a1), .val (.ref pa), .val (.int (0 : Int32)), .val (.int nn), .val (.int nn)] []))
  refine own_st (fun _ kq_ => XS.aloadN X0.here hx rfl (hb hby d4_5) rfl rfl kq_) ?_
  show OwnG _ _ _ _ _ _ _ (s₁.setTop (mkF m 6 #[.val (.ref a1), .val (.ref pa), .val (.int (0 : Int32)), .val (.int nn), .val (.int nn)] [(.ref a1)]))
  refine own_st (fun _ kq_ => XS.iload X0.here hx rfl (hb hby d4_6) rfl kq_) ?_
  show OwnG _ _ _ _ _ _ _ (s₁.setTop (mkF m 8 #[.val (.ref a1), .val (.ref pa), .val (.int (0 : Int32)), .val (.int nn), .val (.int nn)] [(.int nn), (.ref a1)]))
  obtain ⟨cq18, q18, q18'⟩ := I0.1.cell
  obtain ⟨_, _, ⟨T18, L18, k18, n18⟩, -, X18, ⟨Lc18, hQ18, l18, y18, z18⟩, st18⟩ := X0.privateBack hx (y := (⟨"com/example/dwell/dwell/io/ByteWriter", "makeRoom", "(I)V"⟩ : MethodName)) hown (mvT hZ (hw _ (List.mem_of_getElem? (i := 22) rfl))) (mvT hZ (hw _ (List.mem_of_getElem? (i := 23) rfl))) (own_sel (y := (⟨"com/example/dwell/dwell/io/ByteWriter", "makeRoom", "(I)V"⟩ : MethodName)) (mvT hZ (hw _ (List.mem_of_getElem? (i := 3) rfl))) (Cond.privateMethod_at (mvP hZ (hw _ (List.mem_of_getElem? (i := 24) rfl)) (args := #[]))) (mvT hZ (hw _ (List.mem_of_getElem? (i := 23) rfl))) (by decide)) (Cond.privateMethod_at (mvP hZ (hw _ (List.mem_of_getElem? (i := 24) rfl)) (args := #[]))) (mvT hZ (hw _ (List.mem_of_getElem? (i := 25) rfl))) (by decide) (backOf (W := 0) (rm5 l Z a0 hw [] a1 ab 0 C (fun _ => 0) nn nz h0 n0 Z0 hnn (by omega) hC (by omega) I0 ga gab) hZ (hw _ (List.mem_of_getElem? (i := 25) rfl)) (hw _ (List.mem_of_getElem? (i := 4) rfl)) (by decide) (by decide)) (g := (mkF m 8 #[.val (.ref a1), .val (.ref pa), .val (.int (0 : Int32)), .val (.int nn), .val (.int nn)] [(.int nn), (.ref a1)])) rfl (by rw [hml]; rfl) (Steps.refl _) (a := a1) (by rw [e0]; exact q18) q18' (argsL := [(.int nn)]) (rest := []) (lenOf (by decide +kernel : parseMethodDescriptor "(I)V" = some ⟨[.int], none⟩) rfl) rfl (by show 2 * 0 + _ ≤ _; exact Nat.le_of_eq rfl) (hb hby d4_8) (fun _ _ => ⟨rfl, e0, (by dsimp only [Pt.cells]; decide), (by dsimp only [Pt.slots]; decide)⟩)
  dsimp only [Pt.U, Pt.locs, Pt.cells, Pt.slots] at X18 l18 y18 z18 st18 hQ18
  subst l18 y18 z18
  obtain ⟨rfl, N18q, S18, K18, ab18, C18, q18, I18, c118, c218, _, d18, ga18⟩ := hQ18
  have N18 := Fr.app N0 N18q
  refine own_go st18 ?_
  show OwnG _ _ _ _ _ _ _ (T18.setTop (mkF m 11 #[.val (.ref a1), .val (.ref pa), .val (.int (0 : Int32)), .val (.int nn), .val (.int nn)] []))
  have Vp := V_p.keep K18 (ninS hpa nin0)
  have hpb2 : pa ≠ ab18 := by
    rcases d18 with d | d
    · rw [d]; exact hpb
    · exact Nat.ne_of_lt (Nat.lt_of_lt_of_le V_p.lt d)
  obtain ⟨E_a, F_by, F_ln, V0, E_b, hne⟩ := I18
  refine own_st (fun _ kq_ => XS.aloadN X18.here hx rfl (hb hby d4_11) rfl rfl kq_) ?_
  show OwnG _ _ _ _ _ _ _ (T18.setTop (mkF m 12 #[.val (.ref a1), .val (.ref pa), .val (.int (0 : Int32)), .val (.int nn), .val (.int nn)] [(.ref pa)]))
  refine own_st (fun _ kq_ => XS.iloadN X18.here hx rfl (hb hby d4_12) rfl kq_) ?_
  show OwnG _ _ _ _ _ _ _ (T18.setTop (mkF m 13 #[.val (.ref a1), .val (.ref pa), .val (.int (0 : Int32)), .val (.int nn), .val (.int nn)] [(.int (0 : Int32)), (.ref pa)]))
  refine own_st (fun _ kq_ => XS.aloadN X18.here hx rfl (hb hby d4_13) rfl rfl kq_) ?_
  show OwnG _ _ _ _ _ _ _ (T18.setTop (mkF m 14 #[.val (.ref a1), .val (.ref pa), .val (.int (0 : Int32)), .val (.int nn), .val (.int nn)] [(.ref a1), (.int (0 : Int32)), (.ref pa)]))
  obtain ⟨T19, X19, e19, st19⟩ := getF X18 hx hZ hown (host := "") (Or.inl (hw _ (List.mem_of_getElem? (i := 15) rfl))) Via.refl rfl F_by (g := (mkF m 14 #[.val (.ref a1), .val (.ref pa), .val (.int (0 : Int32)), .val (.int nn), .val (.int nn)] [(.ref a1), (.int (0 : Int32)), (.ref pa)])) rfl rfl (hb hby d4_14)
  refine own_st st19 ?_
  show OwnG _ _ _ _ _ _ _ (T19.setTop (mkF m 17 #[.val (.ref a1), .val (.ref pa), .val (.int (0 : Int32)), .val (.int nn), .val (.int nn)] [(.ref ab18), (.int (0 : Int32)), (.ref pa)]))
  refine own_st (fun _ kq_ => XS.aloadN X19.here hx rfl (hb hby d4_17) rfl rfl kq_) ?_
  show OwnG _ _ _ _ _ _ _ (T19.setTop (mkF m 18 #[.val (.ref a1), .val (.ref pa), .val (.int (0 : Int32)), .val (.int nn), .val (.int nn)] [(.ref a1), (.ref ab18), (.int (0 : Int32)), (.ref pa)]))
  obtain ⟨T20, X20, e20, st20⟩ := getF X19 hx hZ hown (host := "") (Or.inl (hw _ (List.mem_of_getElem? (i := 26) rfl))) Via.refl e19 F_ln (g := (mkF m 18 #[.val (.ref a1), .val (.ref pa), .val (.int (0 : Int32)), .val (.int nn), .val (.int nn)] [(.ref a1), (.ref ab18), (.int (0 : Int32)), (.ref pa)])) rfl rfl (hb hby d4_18)
  refine own_st st20 ?_
  show OwnG _ _ _ _ _ _ _ (T20.setTop (mkF m 21 #[.val (.ref a1), .val (.ref pa), .val (.int (0 : Int32)), .val (.int nn), .val (.int nn)] [(.int (Int32.ofNat 0)), (.ref ab18), (.int (0 : Int32)), (.ref pa)]))
  refine own_st (fun _ kq_ => XS.iload X20.here hx rfl (hb hby d4_21) rfl kq_) ?_
  show OwnG _ _ _ _ _ _ _ (T20.setTop (mkF m 23 #[.val (.ref a1), .val (.ref pa), .val (.int (0 : Int32)), .val (.int nn), .val (.int nn)] [(.int nn), (.int (Int32.ofNat 0)), (.ref ab18), (.int (0 : Int32)), (.ref pa)]))
  obtain ⟨T21, h21, L21, X21, e21, N21, K21, V21, st21⟩ := own_cp X20 hx hZ hown (hw _ (List.mem_of_getElem? (i := 28) rfl)) (hw _ (List.mem_of_getElem? (i := 31) rfl)) (hw _ (List.mem_of_getElem? (i := 29) rfl)) (hw _ (List.mem_of_getElem? (i := 30) rfl)) e20 Vp V0 rfl (0) (0) (nz) rfl rfl hnn (by omega) (by omega) N18 ga18 (g := (mkF m 23 #[.val (.ref a1), .val (.ref pa), .val (.int (0 : Int32)), .val (.int nn), .val (.int nn)] [(.int nn), (.int (Int32.ofNat 0)), (.ref ab18), (.int (0 : Int32)), (.ref pa)])) rfl (by rw [hml]; rfl) rfl (hb hby d4_23) (by decide) (W := 0) (by show 2 * 0 + _ ≤ _; exact Nat.le_of_eq rfl) (by decide)
  refine own_st st21 ?_
  show OwnG _ _ _ _ _ _ _ (T21.setTop (mkF m 26 #[.val (.ref a1), .val (.ref pa), .val (.int (0 : Int32)), .val (.int nn), .val (.int nn)] []))
  have E2 := E_a.keep K21
  have B2 := F_by.keep K21 (ninS hne nin0)
  have L2 := F_ln.keep K21 (ninS hne nin0)
  have P2 := Vp.keep K21 (ninS hpb2 nin0)
  have EB2 := E_b.keep K21
  have VV : Ary Z h21 ab18 .byte C18 (fun j => .int (if j < nz then g j else q18 j)) := V21.cong fun j hj => by
    by_cases q1 : j < nz
    · rw [if_pos (by omega), if_pos q1, show 0 + (j - 0) = j by omega]
    · rw [if_neg (by omega), if_neg q1]
  refine own_st (fun _ kq_ => XS.aloadN X21.here hx rfl (hb hby d4_26) rfl rfl kq_) ?_
  show OwnG _ _ _ _ _ _ _ (T21.setTop (mkF m 27 #[.val (.ref a1), .val (.ref pa), .val (.int (0 : Int32)), .val (.int nn), .val (.int nn)] [(.ref a1)]))
  refine own_st (fun _ kq_ => XS.dup X21.here hx rfl (hb hby d4_27) rfl rfl kq_) ?_
  show OwnG _ _ _ _ _ _ _ (T21.setTop (mkF m 28 #[.val (.ref a1), .val (.ref pa), .val (.int (0 : Int32)), .val (.int nn), .val (.int nn)] [(.ref a1), (.ref a1)]))
  obtain ⟨T22, X22, e22, st22⟩ := getF X21 hx hZ hown (host := "") (Or.inl (hw _ (List.mem_of_getElem? (i := 26) rfl))) Via.refl e21 L2 (g := (mkF m 28 #[.val (.ref a1), .val (.ref pa), .val (.int (0 : Int32)), .val (.int nn), .val (.int nn)] [(.ref a1), (.ref a1)])) rfl rfl (hb hby d4_28)
  refine own_st st22 ?_
  show OwnG _ _ _ _ _ _ _ (T22.setTop (mkF m 31 #[.val (.ref a1), .val (.ref pa), .val (.int (0 : Int32)), .val (.int nn), .val (.int nn)] [(.int (Int32.ofNat 0)), (.ref a1)]))
  refine own_st (fun _ kq_ => XS.iload X22.here hx rfl (hb hby d4_31) rfl kq_) ?_
  show OwnG _ _ _ _ _ _ _ (T22.setTop (mkF m 33 #[.val (.ref a1), .val (.ref pa), .val (.int (0 : Int32)), .val (.int nn), .val (.int nn)] [(.int nn), (.int (Int32.ofNat 0)), (.ref a1)]))
  refine own_st (fun _ kq_ => XS.iadd X22.here hx rfl (hb hby d4_33) rfl kq_) ?_
  show OwnG _ _ _ _ _ _ _ (T22.setTop (mkF m 34 #[.val (.ref a1), .val (.ref pa), .val (.int (0 : Int32)), .val (.int nn), .val (.int nn)] [(.int ((Int32.ofNat 0) + nn)), (.ref a1)]))
  have e9 : Int32.ofNat 0 + nn = Int32.ofNat nz := own_of _ _ (by rw [own_add _ _ 0 nz (own_to 0 (by decide)) hnn (by omega), Nat.zero_add])
  rw [e9]
  show OwnG _ _ _ _ _ _ _ (T22.setTop (mkF m 34 #[.val (.ref a1), .val (.ref pa), .val (.int (0 : Int32)), .val (.int nn), .val (.int nn)] [(.int (Int32.ofNat nz)), (.ref a1)]))
  obtain ⟨T23, h23, X23, e23, W23, st23⟩ := putF X22 hx hZ hown (host := "") (Or.inl (hw _ (List.mem_of_getElem? (i := 26) rfl))) Via.refl e22 L2 E2 (Or.inl (hw _ (List.mem_of_getElem? (i := 27) rfl))) (hw _ (List.mem_of_getElem? (i := 3) rfl)) (ty := .int) (by decide) rfl rfl (g := (mkF m 34 #[.val (.ref a1), .val (.ref pa), .val (.int (0 : Int32)), .val (.int nn), .val (.int nn)] [(.int (Int32.ofNat nz)), (.ref a1)])) rfl rfl (hb hby d4_34)
  have N23 := Fr.snoc X23 N21 ga
  refine own_st st23 ?_
  show OwnG _ _ _ _ _ _ _ (T23.setTop (mkF m 37 #[.val (.ref a1), .val (.ref pa), .val (.int (0 : Int32)), .val (.int nn), .val (.int nn)] []))
  refine own_st (fun _ kq_ => XS.aloadN X23.here hx rfl (hb hby d4_37) rfl rfl kq_) ?_
  show OwnG _ _ _ _ _ _ _ (T23.setTop (mkF m 38 #[.val (.ref a1), .val (.ref pa), .val (.int (0 : Int32)), .val (.int nn), .val (.int nn)] [(.ref a1)]))
  exact own_retA X23 hx hrt hlk rfl (hb hby d4_38) (by decide) (by decide) (by show _ ∧ _; first | (rw [e23]; exact ⟨rfl, N23, by rw [W23.size]; exact Nat.le_trans S18 K21.1, P2.other W23 hpa, ab18, C18, _, ⟨E2.wr W23, B2.other W23 (Or.inr (slot_ne (Or.inl (hw _ (List.mem_of_getElem? (i := 16) rfl))) (Or.inl (hw _ (List.mem_of_getElem? (i := 27) rfl))) (by decide) (t := (.array .byte)) (t' := .int) (by decide) (by decide))), L2.same W23, VV.other W23 (Ne.symm hne), EB2.wr W23, hne⟩, by omega, c218, fun j hj => if_pos hj, ga18, hpb2⟩) | exact ⟨rfl, N23, by rw [W23.size]; exact Nat.le_trans S18 K21.1, P2.other W23 hpa, ab18, C18, _, ⟨E2.wr W23, B2.other W23 (Or.inr (slot_ne (Or.inl (hw _ (List.mem_of_getElem? (i := 16) rfl))) (Or.inl (hw _ (List.mem_of_getElem? (i := 27) rfl))) (by decide) (t := (.array .byte)) (t' := .int) (by decide) (by decide))), L2.same W23, VV.other W23 (Ne.symm hne), EB2.wr W23, hne⟩, by omega, c218, fun j hj => if_pos hj, ga18, hpb2⟩)
theorem d6_0 : decode prog_18_method_7_code 0 = .ok (.aload_n 0, 1) := by decide +kernel
theorem d6_1 : decode prog_18_method_7_code 1 = .ok (.iconst 2, 1) := by decide +kernel
theorem d6_2 : decode prog_18_method_7_code 2 = .ok (.invokevirtual 19, 3) := by decide +kernel
theorem d6_5 : decode prog_18_method_7_code 5 = .ok (.aload_n 0, 1) := by decide +kernel
theorem d6_6 : decode prog_18_method_7_code 6 = .ok (.getfield 15, 3) := by decide +kernel
theorem d6_9 : decode prog_18_method_7_code 9 = .ok (.aload_n 0, 1) := by decide +kernel
theorem d6_10 : decode prog_18_method_7_code 10 = .ok (.dup, 1) := by decide +kernel
theorem d6_11 : decode prog_18_method_7_code 11 = .ok (.getfield 23, 3) := by decide +kernel
theorem d6_14 : decode prog_18_method_7_code 14 = .ok (.dup_x1, 1) := by decide +kernel
theorem d6_15 : decode prog_18_method_7_code 15 = .ok (.iconst 1, 1) := by decide +kernel
theorem d6_16 : decode prog_18_method_7_code 16 = .ok (.iadd, 1) := by decide +kernel
theorem d6_17 : decode prog_18_method_7_code 17 = .ok (.putfield 23, 3) := by decide +kernel
theorem d6_20 : decode prog_18_method_7_code 20 = .ok (.bipush 13, 2) := by decide +kernel
theorem d6_22 : decode prog_18_method_7_code 22 = .ok (.bastore, 1) := by decide +kernel
theorem d6_23 : decode prog_18_method_7_code 23 = .ok (.aload_n 0, 1) := by decide +kernel
theorem d6_24 : decode prog_18_method_7_code 24 = .ok (.getfield 15, 3) := by decide +kernel
theorem d6_27 : decode prog_18_method_7_code 27 = .ok (.aload_n 0, 1) := by decide +kernel
theorem d6_28 : decode prog_18_method_7_code 28 = .ok (.dup, 1) := by decide +kernel
theorem d6_29 : decode prog_18_method_7_code 29 = .ok (.getfield 23, 3) := by decide +kernel
theorem d6_32 : decode prog_18_method_7_code 32 = .ok (.dup_x1, 1) := by decide +kernel
theorem d6_33 : decode prog_18_method_7_code 33 = .ok (.iconst 1, 1) := by decide +kernel
theorem d6_34 : decode prog_18_method_7_code 34 = .ok (.iadd, 1) := by decide +kernel
theorem d6_35 : decode prog_18_method_7_code 35 = .ok (.putfield 23, 3) := by decide +kernel
theorem d6_38 : decode prog_18_method_7_code 38 = .ok (.bipush 10, 2) := by decide +kernel
theorem d6_40 : decode prog_18_method_7_code 40 = .ok (.bastore, 1) := by decide +kernel
theorem d6_41 : decode prog_18_method_7_code 41 = .ok (.aload_n 0, 1) := by decide +kernel
theorem d6_42 : decode prog_18_method_7_code 42 = .ok (.areturn, 1) := by decide +kernel
theorem pn_6 : plainFor (⟨"com/example/dwell/dwell/io/ByteWriter", "putCrLf", "()Lcom/example/dwell/dwell/io/ByteWriter;"⟩ : MethodName) = true := by first | exact plainFor_of_name (by first | (simp [plainName, overriddenIn]; done) | decide +kernel) | decide +kernel
theorem ef_6 (m : MethodId) (x0 : Addr) : entryFrame m #[(.ref x0)] 1 = mkF m 0 #[.val (.ref x0)] [] := by first | (simp [entryFrame, mkF, argsToLocals, Value.category]; done) | rfl
def Q6 (Z : State) (a1 : Addr) (ab : Addr) (nz : Nat) (C : Nat) (q : Nat → Int32) (pa : Addr) (g : Nat → Int32) (h0 : Heap) (n0 : Nat) (v : Option Value) (h : Heap) (L : List Loc) : Prop := v = some (.ref a1) ∧ Fr n0 L ∧ n0 ≤ h.size ∧ Ary Z h pa .byte 29 (fun j => .int (g j)) ∧ ∃ ab' C' q', BW Z h a1 ab' (nz + 2) C' q' ∧ nz + 2 ≤ C' ∧ C' ≤ 64 ∧ (∀ j, j < nz → q' j = q j) ∧ q' nz = 13 ∧ q' (nz + 1) = 10
set_option maxRecDepth 65536 in
set_option maxHeartbeats 40000000 in
theorem rm6 (l : Launch) (Z : State) (a0 : Array Value) (hw : ∀ d ∈ tables_1, d.before a0 Z = true) (ws : List Jvm.Cond) (a1 : Addr) (ab : Addr) (nz : Nat) (C : Nat) (q : Nat → Int32) (pa : Addr) (g : Nat → Int32) (h0 : Heap) (n0 : Nat) (Z0 : n0 ≤ h0.size) (hnz : nz ≤ 29) (hnC : nz ≤ C) (hC : C ≤ 64) (I0 : BW Z h0 a1 ab nz C q) (ga : n0 ≤ a1) (gab : n0 ≤ ab) (V_p : Ary Z h0 pa .byte 29 (fun j => .int (g j))) (hpb : pa ≠ ab) (hpa : pa ≠ a1) :
    MetFree l (⟨"com/example/dwell/dwell/io/ByteWriter", "putCrLf", "()Lcom/example/dwell/dwell/io/ByteWriter;"⟩ : MethodName) (head1 (Jvm.Cond.code (⟨"com/example/dwell/dwell/io/ByteWriter", "putCrLf", "()Lcom/example/dwell/dwell/io/ByteWriter;"⟩ : MethodName) prog_18_method_7_code 1 (some (.object "com/example/dwell/dwell/io/ByteWriter")) :: ws) ({ frames := 3, cells := 1, slots := 64, locals := 46 } : Room)) (fun a U => a = #[(.ref a1)] ∧ Z.Warmed39 U.vm ∧ U.heap = h0) (fun _ _ _ _ _ => True) (fun _ U o U' => ∃ v L, o = .returned v ∧ Q6 Z a1 ab nz C q pa g h0 n0 v U'.heap L ∧ FrameEnd U o U' L ({ frames := 3, cells := 1, slots := 64, locals := 46 } : Room).cells ({ frames := 3, cells := 1, slots := 64, locals := 46 } : Room).slots) := by
  refine MetFree.of_bodySF pn_6 hisR ?_
  intro p e s m args below meth c s₁ Bd hml0 hP hK
  obtain ⟨rfl, hZ, hh⟩ := hP
  have hx := Bd.exec
  have hby := Bd.bytes
  have hml : c.maxLocals = 1 := hml0
  have hown : s.vm.findClass "com/example/dwell/dwell/io/ByteWriter" = some m.cls := findClass_of_methodNamed Bd.named
  have hnm := (name_of_methodNamed Bd.named Bd.method).1
  have hrt := Bd.returns
  have hlk : meth.locks = false := BodyLoose.notSynchronized Bd
  have X0 : Stand p l e ({ frames := 3, cells := 1, slots := 64, locals := 46 } : Room) s m #[(.ref a1)] below meth c s₁ [] 0 0 := Stand.of_body Bd
  have e0 : s₁.heap = h0 := by rw [← hh, Bd.state]; rfl
  have N0 := Fr.nil n0
  show OwnG ({ frames := 3, cells := 1, slots := 64, locals := 46 } : Room).cells ({ frames := 3, cells := 1, slots := 64, locals := 46 } : Room).slots (Q6 Z a1 ab nz C q pa g h0 n0) p e below s (s₁.setTop (entryFrame m #[(.ref a1)] 1))
  refine own_st (σ' := s₁.setTop (mkF m 0 #[.val (.ref a1)] [])) (fun _ kq_ => castTop (ef_6 m a1) kq_) ?_
  show OwnG _ _ _ _ _ _ _ (s₁.setTop (mkF m 0 #[.val (.ref a1)] []))
  refine own_st (fun _ kq_ => XS.aloadN X0.here hx rfl (hb hby d6_0) rfl rfl kq_) ?_
  show OwnG _ _ _ _ _ _ _ (s₁.setTop (mkF m 1 #[.val (.ref a1)] [(.ref a1)]))
  refine own_st (fun _ kq_ => XS.iconst X0.here hx rfl (hb hby d6_1) kq_) ?_
  show OwnG _ _ _ _ _ _ _ (s₁.setTop (mkF m 2 #[.val (.ref a1)] [(.int (2 : Int32)), (.ref a1)]))
  obtain ⟨cq24, q24, q24'⟩ := I0.1.cell
  obtain ⟨_, _, ⟨T24, L24, k24, n24⟩, -, X24, ⟨Lc24, hQ24, l24, y24, z24⟩, st24⟩ := X0.privateBack hx (y := (⟨"com/example/dwell/dwell/io/ByteWriter", "makeRoom", "(I)V"⟩ : MethodName)) hown (mvT hZ (hw _ (List.mem_of_getElem? (i := 22) rfl))) (mvT hZ (hw _ (List.mem_of_getElem? (i := 23) rfl))) (own_sel (y := (⟨"com/example/dwell/dwell/io/ByteWriter", "makeRoom", "(I)V"⟩ : MethodName)) (mvT hZ (hw _ (List.mem_of_getElem? (i := 3) rfl))) (Cond.privateMethod_at (mvP hZ (hw _ (List.mem_of_getElem? (i := 24) rfl)) (args := #[]))) (mvT hZ (hw _ (List.mem_of_getElem? (i := 23) rfl))) (by decide)) (Cond.privateMethod_at (mvP hZ (hw _ (List.mem_of_getElem? (i := 24) rfl)) (args := #[]))) (mvT hZ (hw _ (List.mem_of_getElem? (i := 25) rfl))) (by decide) (backOf (W := 0) (rm5 l Z a0 hw [] a1 ab nz C q (2 : Int32) 2 h0 n0 Z0 rfl (by omega) hC hnC I0 ga gab) hZ (hw _ (List.mem_of_getElem? (i := 25) rfl)) (hw _ (List.mem_of_getElem? (i := 4) rfl)) (by decide) (by decide)) (g := (mkF m 2 #[.val (.ref a1)] [(.int (2 : Int32)), (.ref a1)])) rfl (by rw [hml]; rfl) (Steps.refl _) (a := a1) (by rw [e0]; exact q24) q24' (argsL := [(.int (2 : Int32))]) (rest := []) (lenOf (by decide +kernel : parseMethodDescriptor "(I)V" = some ⟨[.int], none⟩) rfl) rfl (by show 2 * 0 + _ ≤ _; exact Nat.le_of_eq rfl) (hb hby d6_2) (fun _ _ => ⟨rfl, e0, (by dsimp only [Pt.cells]; decide), (by dsimp only [Pt.slots]; decide)⟩)
  dsimp only [Pt.U, Pt.locs, Pt.cells, Pt.slots] at X24 l24 y24 z24 st24 hQ24
  subst l24 y24 z24
  obtain ⟨rfl, N24q, S24, K24, ab24, C24, q24, I24, c124, c224, qe24, d24, ga24⟩ := hQ24
  have N24 := Fr.app N0 N24q
  refine own_go st24 ?_
  show OwnG _ _ _ _ _ _ _ (T24.setTop (mkF m 5 #[.val (.ref a1)] []))
  have Vp := V_p.keep K24 (ninS hpa nin0)
  have hpb2 : pa ≠ ab24 := by
    rcases d24 with d | d
    · rw [d]; exact hpb
    · exact Nat.ne_of_lt (Nat.lt_of_lt_of_le V_p.lt d)
  obtain ⟨E_a, F_by, F_ln, V0, E_b, hne⟩ := I24
  refine own_st (fun _ kq_ => XS.aloadN X24.here hx rfl (hb hby d6_5) rfl rfl kq_) ?_
  show OwnG _ _ _ _ _ _ _ (T24.setTop (mkF m 6 #[.val (.ref a1)] [(.ref a1)]))
  obtain ⟨T25, X25, e25, st25⟩ := getF X24 hx hZ hown (host := "") (Or.inl (hw _ (List.mem_of_getElem? (i := 15) rfl))) Via.refl rfl F_by (g := (mkF m 6 #[.val (.ref a1)] [(.ref a1)])) rfl rfl (hb hby d6_6)
  refine own_st st25 ?_
  show OwnG _ _ _ _ _ _ _ (T25.setTop (mkF m 9 #[.val (.ref a1)] [(.ref ab24)]))
  refine own_st (fun _ kq_ => XS.aloadN X25.here hx rfl (hb hby d6_9) rfl rfl kq_) ?_
  show OwnG _ _ _ _ _ _ _ (T25.setTop (mkF m 10 #[.val (.ref a1)] [(.ref a1), (.ref ab24)]))
  refine own_st (fun _ kq_ => XS.dup X25.here hx rfl (hb hby d6_10) rfl rfl kq_) ?_
  show OwnG _ _ _ _ _ _ _ (T25.setTop (mkF m 11 #[.val (.ref a1)] [(.ref a1), (.ref a1), (.ref ab24)]))
  obtain ⟨T26, X26, e26, st26⟩ := getF X25 hx hZ hown (host := "") (Or.inl (hw _ (List.mem_of_getElem? (i := 26) rfl))) Via.refl e25 F_ln (g := (mkF m 11 #[.val (.ref a1)] [(.ref a1), (.ref a1), (.ref ab24)])) rfl rfl (hb hby d6_11)
  refine own_st st26 ?_
  show OwnG _ _ _ _ _ _ _ (T26.setTop (mkF m 14 #[.val (.ref a1)] [(.int (Int32.ofNat nz)), (.ref a1), (.ref ab24)]))
  refine own_st (fun _ kq_ => XS.dupX1 X26.here hx rfl (hb hby d6_14) rfl rfl rfl kq_) ?_
  show OwnG _ _ _ _ _ _ _ (T26.setTop (mkF m 15 #[.val (.ref a1)] [(.int (Int32.ofNat nz)), (.ref a1), (.int (Int32.ofNat nz)), (.ref ab24)]))
  refine own_st (fun _ kq_ => XS.iconst X26.here hx rfl (hb hby d6_15) kq_) ?_
  show OwnG _ _ _ _ _ _ _ (T26.setTop (mkF m 16 #[.val (.ref a1)] [(.int (1 : Int32)), (.int (Int32.ofNat nz)), (.ref a1), (.int (Int32.ofNat nz)), (.ref ab24)]))
  refine own_st (fun _ kq_ => XS.iadd X26.here hx rfl (hb hby d6_16) rfl kq_) ?_
  show OwnG _ _ _ _ _ _ _ (T26.setTop (mkF m 17 #[.val (.ref a1)] [(.int ((Int32.ofNat nz) + (1 : Int32))), (.ref a1), (.int (Int32.ofNat nz)), (.ref ab24)]))
  rw [own_one]
  show OwnG _ _ _ _ _ _ _ (T26.setTop (mkF m 17 #[.val (.ref a1)] [(.int (Int32.ofNat (nz + 1))), (.ref a1), (.int (Int32.ofNat nz)), (.ref ab24)]))
  obtain ⟨T27, h27, X27, e27, W27, st27⟩ := putF X26 hx hZ hown (host := "") (Or.inl (hw _ (List.mem_of_getElem? (i := 26) rfl))) Via.refl e26 F_ln E_a (Or.inl (hw _ (List.mem_of_getElem? (i := 27) rfl))) (hw _ (List.mem_of_getElem? (i := 3) rfl)) (ty := .int) (by decide) rfl rfl (g := (mkF m 17 #[.val (.ref a1)] [(.int (Int32.ofNat (nz + 1))), (.ref a1), (.int (Int32.ofNat nz)), (.ref ab24)])) rfl rfl (hb hby d6_17)
  have N27 := Fr.snoc X27 N24 ga
  refine own_st st27 ?_
  show OwnG _ _ _ _ _ _ _ (T27.setTop (mkF m 20 #[.val (.ref a1)] [(.int (Int32.ofNat nz)), (.ref ab24)]))
  have E27_ := E_a.wr W27
  have by27 := F_by.other W27 (Or.inr (slot_ne (Or.inl (hw _ (List.mem_of_getElem? (i := 16) rfl))) (Or.inl (hw _ (List.mem_of_getElem? (i := 27) rfl))) (by decide) (t := (.array .byte)) (t' := .int) (by decide) (by decide)))
  have ln27 := F_ln.same W27
  have A27 := V0.other W27 (Ne.symm hne)
  have P27 := Vp.other W27 hpa
  have EB27 := E_b.wr W27
  refine own_st (fun _ kq_ => XS.bipush X27.here hx rfl (hb hby d6_20) kq_) ?_
  show OwnG _ _ _ _ _ _ _ (T27.setTop (mkF m 22 #[.val (.ref a1)] [(.int (13 : Int32)), (.int (Int32.ofNat nz)), (.ref ab24)]))
  obtain ⟨T28, h28, X28, e28, W28, V28, st28⟩ := own_sB X27 hx hZ e27 A27 (nz) (own_to nz (by omega)) (by omega) (g := (mkF m 22 #[.val (.ref a1)] [(.int (13 : Int32)), (.int (Int32.ofNat nz)), (.ref ab24)])) rfl rfl (hb hby d6_22)
  have N28 := Fr.snoc X28 N27 ga24
  refine own_st st28 ?_
  show OwnG _ _ _ _ _ _ _ (T28.setTop (mkF m 23 #[.val (.ref a1)] []))
  have E28_ := E27_.wr W28
  have by28 := by27.other W28 (Or.inl hne)
  have ln28 := ln27.other W28 (Or.inl hne)
  have P28 := P27.other W28 hpb2
  have EB28 := EB27.wr W28
  have B28 : Ary Z h28 ab24 .byte C24 (fun j => .int ((own_ui q24 nz (13 : Int32)) j)) := V28.cong fun j _ => own_uu _ _ _ _ (by decide) j
  refine own_st (fun _ kq_ => XS.aloadN X28.here hx rfl (hb hby d6_23) rfl rfl kq_) ?_
  show OwnG _ _ _ _ _ _ _ (T28.setTop (mkF m 24 #[.val (.ref a1)] [(.ref a1)]))
  obtain ⟨T29, X29, e29, st29⟩ := getF X28 hx hZ hown (host := "") (Or.inl (hw _ (List.mem_of_getElem? (i := 15) rfl))) Via.refl e28 by28 (g := (mkF m 24 #[.val (.ref a1)] [(.ref a1)])) rfl rfl (hb hby d6_24)
  refine own_st st29 ?_
  show OwnG _ _ _ _ _ _ _ (T29.setTop (mkF m 27 #[.val (.ref a1)] [(.ref ab24)]))
  refine own_st (fun _ kq_ => XS.aloadN X29.here hx rfl (hb hby d6_27) rfl rfl kq_) ?_
  show OwnG _ _ _ _ _ _ _ (T29.setTop (mkF m 28 #[.val (.ref a1)] [(.ref a1), (.ref ab24)]))
  refine own_st (fun _ kq_ => XS.dup X29.here hx rfl (hb hby d6_28) rfl rfl kq_) ?_
  show OwnG _ _ _ _ _ _ _ (T29.setTop (mkF m 29 #[.val (.ref a1)] [(.ref a1), (.ref a1), (.ref ab24)]))
  obtain ⟨T30, X30, e30, st30⟩ := getF X29 hx hZ hown (host := "") (Or.inl (hw _ (List.mem_of_getElem? (i := 26) rfl))) Via.refl e29 ln28 (g := (mkF m 29 #[.val (.ref a1)] [(.ref a1), (.ref a1), (.ref ab24)])) rfl rfl (hb hby d6_29)
  refine own_st st30 ?_
  show OwnG _ _ _ _ _ _ _ (T30.setTop (mkF m 32 #[.val (.ref a1)] [(.int (Int32.ofNat (nz + 1))), (.ref a1), (.ref ab24)]))
  refine own_st (fun _ kq_ => XS.dupX1 X30.here hx rfl (hb hby d6_32) rfl rfl rfl kq_) ?_
  show OwnG _ _ _ _ _ _ _ (T30.setTop (mkF m 33 #[.val (.ref a1)] [(.int (Int32.ofNat (nz + 1))), (.ref a1), (.int (Int32.ofNat (nz + 1))), (.ref ab24)]))
  refine own_st (fun _ kq_ => XS.iconst X30.here hx rfl (hb hby d6_33) kq_) ?_
  show OwnG _ _ _ _ _ _ _ (T30.setTop (mkF m 34 #[.val (.ref a1)] [(.int (1 : Int32)), (.int (Int32.ofNat (nz + 1))), (.ref a1), (.int (Int32.ofNat (nz + 1))), (.ref ab24)]))
  refine own_st (fun _ kq_ => XS.iadd X30.here hx rfl (hb hby d6_34) rfl kq_) ?_
  show OwnG _ _ _ _ _ _ _ (T30.setTop (mkF m 35 #[.val (.ref a1)] [(.int ((Int32.ofNat (nz + 1)) + (1 : Int32))), (.ref a1), (.int (Int32.ofNat (nz + 1))), (.ref ab24)]))
  rw [own_one]
  show OwnG _ _ _ _ _ _ _ (T30.setTop (mkF m 35 #[.val (.ref a1)] [(.int (Int32.ofNat ((nz + 1) + 1))), (.ref a1), (.int (Int32.ofNat (nz + 1))), (.ref ab24)]))
  obtain ⟨T31, h31, X31, e31, W31, st31⟩ := putF X30 hx hZ hown (host := "") (Or.inl (hw _ (List.mem_of_getElem? (i := 26) rfl))) Via.refl e30 ln28 E28_ (Or.inl (hw _ (List.mem_of_getElem? (i := 27) rfl))) (hw _ (List.mem_of_getElem? (i := 3) rfl)) (ty := .int) (by decide) rfl rfl (g := (mkF m 35 #[.val (.ref a1)] [(.int (Int32.ofNat ((nz + 1) + 1))), (.ref a1), (.int (Int32.ofNat (nz + 1))), (.ref ab24)])) rfl rfl (hb hby d6_35)
  have N31 := Fr.snoc X31 N28 ga
  refine own_st st31 ?_
  show OwnG _ _ _ _ _ _ _ (T31.setTop (mkF m 38 #[.val (.ref a1)] [(.int (Int32.ofNat (nz + 1))), (.ref ab24)]))
  have E31_ := E28_.wr W31
  have by31 := by28.other W31 (Or.inr (slot_ne (Or.inl (hw _ (List.mem_of_getElem? (i := 16) rfl))) (Or.inl (hw _ (List.mem_of_getElem? (i := 27) rfl))) (by decide) (t := (.array .byte)) (t' := .int) (by decide) (by decide)))
  have ln31 := ln28.same W31
  have A31 := B28.other W31 (Ne.symm hne)
  have P31 := P28.other W31 hpa
  have EB31 := EB28.wr W31
  refine own_st (fun _ kq_ => XS.bipush X31.here hx rfl (hb hby d6_38) kq_) ?_
  show OwnG _ _ _ _ _ _ _ (T31.setTop (mkF m 40 #[.val (.ref a1)] [(.int (10 : Int32)), (.int (Int32.ofNat (nz + 1))), (.ref ab24)]))
  obtain ⟨T32, h32, X32, e32, W32, V32, st32⟩ := own_sB X31 hx hZ e31 A31 (nz + 1) (own_to (nz + 1) (by omega)) (by omega) (g := (mkF m 40 #[.val (.ref a1)] [(.int (10 : Int32)), (.int (Int32.ofNat (nz + 1))), (.ref ab24)])) rfl rfl (hb hby d6_40)
  have N32 := Fr.snoc X32 N31 ga24
  refine own_st st32 ?_
  show OwnG _ _ _ _ _ _ _ (T32.setTop (mkF m 41 #[.val (.ref a1)] []))
  have E32_ := E31_.wr W32
  have by32 := by31.other W32 (Or.inl hne)
  have ln32 := ln31.other W32 (Or.inl hne)
  have P32 := P31.other W32 hpb2
  have EB32 := EB31.wr W32
  have B32 : Ary Z h32 ab24 .byte C24 (fun j => .int ((own_ui (own_ui q24 nz (13 : Int32)) (nz + 1) (10 : Int32)) j)) := V32.cong fun j _ => own_uu _ _ _ _ (by decide) j
  refine own_st (fun _ kq_ => XS.aloadN X32.here hx rfl (hb hby d6_41) rfl rfl kq_) ?_
  show OwnG _ _ _ _ _ _ _ (T32.setTop (mkF m 42 #[.val (.ref a1)] [(.ref a1)]))
  exact own_retA X32 hx hrt hlk rfl (hb hby d6_42) (by decide) (by decide) (by show _ ∧ _; first | (rw [e32]; exact ⟨rfl, N32, by rw [W32.size, W31.size, W28.size, W27.size]; exact S24, P32, ab24, C24, _, ⟨E32_, by32, ln32, B32, EB32, hne⟩, c124, c224, fun j hj => by rw [own_ui_ne _ _ _ _ (by omega), own_ui_ne _ _ _ _ (by omega)]; exact qe24 j hj, by rw [own_ui_ne _ _ _ _ (by omega), own_ui_eq], own_ui_eq _ _ _⟩) | exact ⟨rfl, N32, by rw [W32.size, W31.size, W28.size, W27.size]; exact S24, P32, ab24, C24, _, ⟨E32_, by32, ln32, B32, EB32, hne⟩, c124, c224, fun j hj => by rw [own_ui_ne _ _ _ _ (by omega), own_ui_ne _ _ _ _ (by omega)]; exact qe24 j hj, by rw [own_ui_ne _ _ _ _ (by omega), own_ui_eq], own_ui_eq _ _ _⟩)
theorem d7_0 : decode prog_18_method_9_code 0 = .ok (.aload_n 0, 1) := by decide +kernel
theorem d7_1 : decode prog_18_method_9_code 1 = .ok (.getfield 15, 3) := by decide +kernel
theorem d7_4 : decode prog_18_method_9_code 4 = .ok (.aload_n 0, 1) := by decide +kernel
theorem d7_5 : decode prog_18_method_9_code 5 = .ok (.getfield 23, 3) := by decide +kernel
theorem d7_8 : decode prog_18_method_9_code 8 = .ok (.invokestatic 72, 3) := by decide +kernel
theorem d7_11 : decode prog_18_method_9_code 11 = .ok (.areturn, 1) := by decide +kernel
theorem pn_7 : plainFor (⟨"com/example/dwell/dwell/io/ByteWriter", "toArray", "()[B"⟩ : MethodName) = true := by first | exact plainFor_of_name (by first | (simp [plainName, overriddenIn]; done) | decide +kernel) | decide +kernel
theorem ef_7 (m : MethodId) (x0 : Addr) : entryFrame m #[(.ref x0)] 1 = mkF m 0 #[.val (.ref x0)] [] := by first | (simp [entryFrame, mkF, argsToLocals, Value.category]; done) | rfl
def Q7 (Z : State) (a1 : Addr) (ab : Addr) (len : Nat) (C : Nat) (q : Nat → Int32) (h0 : Heap) (n0 : Nat) (v : Option Value) (h : Heap) (L : List Loc) : Prop := v = some (.ref h0.size) ∧ Fr n0 L ∧ n0 ≤ h.size ∧ Keep h0 h [] ∧ Ary Z h h0.size .byte len (fun j => .int (q j))
set_option maxRecDepth 65536 in
set_option maxHeartbeats 40000000 in
theorem rm7 (l : Launch) (Z : State) (a0 : Array Value) (hw : ∀ d ∈ tables_1, d.before a0 Z = true) (ws : List Jvm.Cond) (a1 : Addr) (ab : Addr) (len : Nat) (C : Nat) (q : Nat → Int32) (h0 : Heap) (n0 : Nat) (Z0 : n0 ≤ h0.size) (hlC : len ≤ C) (hC : C ≤ 64) (I0 : BW Z h0 a1 ab len C q) :
    MetFree l (⟨"com/example/dwell/dwell/io/ByteWriter", "toArray", "()[B"⟩ : MethodName) (head1 (Jvm.Cond.code (⟨"com/example/dwell/dwell/io/ByteWriter", "toArray", "()[B"⟩ : MethodName) prog_18_method_9_code 1 (some (.array .byte)) :: ws) ({ frames := 2, cells := 1, slots := 64, locals := 32 } : Room)) (fun a U => a = #[(.ref a1)] ∧ Z.Warmed39 U.vm ∧ U.heap = h0) (fun _ _ _ _ _ => True) (fun _ U o U' => ∃ v L, o = .returned v ∧ Q7 Z a1 ab len C q h0 n0 v U'.heap L ∧ FrameEnd U o U' L ({ frames := 2, cells := 1, slots := 64, locals := 32 } : Room).cells ({ frames := 2, cells := 1, slots := 64, locals := 32 } : Room).slots) := by
  refine MetFree.of_bodySF pn_7 hisR ?_
  intro p e s m args below meth c s₁ Bd hml0 hP hK
  obtain ⟨rfl, hZ, hh⟩ := hP
  have hx := Bd.exec
  have hby := Bd.bytes
  have hml : c.maxLocals = 1 := hml0
  have hown : s.vm.findClass "com/example/dwell/dwell/io/ByteWriter" = some m.cls := findClass_of_methodNamed Bd.named
  have hnm := (name_of_methodNamed Bd.named Bd.method).1
  have hrt := Bd.returns
  have hlk : meth.locks = false := BodyLoose.notSynchronized Bd
  have X0 : Stand p l e ({ frames := 2, cells := 1, slots := 64, locals := 32 } : Room) s m #[(.ref a1)] below meth c s₁ [] 0 0 := Stand.of_body Bd
  have e0 : s₁.heap = h0 := by rw [← hh, Bd.state]; rfl
  have N0 := Fr.nil n0
  show OwnG ({ frames := 2, cells := 1, slots := 64, locals := 32 } : Room).cells ({ frames := 2, cells := 1, slots := 64, locals := 32 } : Room).slots (Q7 Z a1 ab len C q h0 n0) p e below s (s₁.setTop (entryFrame m #[(.ref a1)] 1))
  refine own_st (σ' := s₁.setTop (mkF m 0 #[.val (.ref a1)] [])) (fun _ kq_ => castTop (ef_7 m a1) kq_) ?_
  show OwnG _ _ _ _ _ _ _ (s₁.setTop (mkF m 0 #[.val (.ref a1)] []))
  obtain ⟨E_a, F_by, F_ln, V0, E_b, hne⟩ := I0
  refine own_st (fun _ kq_ => XS.aloadN X0.here hx rfl (hb hby d7_0) rfl rfl kq_) ?_
  show OwnG _ _ _ _ _ _ _ (s₁.setTop (mkF m 1 #[.val (.ref a1)] [(.ref a1)]))
  obtain ⟨T33, X33, e33, st33⟩ := getF X0 hx hZ hown (host := "") (Or.inl (hw _ (List.mem_of_getElem? (i := 15) rfl))) Via.refl e0 F_by (g := (mkF m 1 #[.val (.ref a1)] [(.ref a1)])) rfl rfl (hb hby d7_1)
  refine own_st st33 ?_
  show OwnG _ _ _ _ _ _ _ (T33.setTop (mkF m 4 #[.val (.ref a1)] [(.ref ab)]))
  refine own_st (fun _ kq_ => XS.aloadN X33.here hx rfl (hb hby d7_4) rfl rfl kq_) ?_
  show OwnG _ _ _ _ _ _ _ (T33.setTop (mkF m 5 #[.val (.ref a1)] [(.ref a1), (.ref ab)]))
  obtain ⟨T34, X34, e34, st34⟩ := getF X33 hx hZ hown (host := "") (Or.inl (hw _ (List.mem_of_getElem? (i := 26) rfl))) Via.refl e33 F_ln (g := (mkF m 5 #[.val (.ref a1)] [(.ref a1), (.ref ab)])) rfl rfl (hb hby d7_5)
  refine own_st st34 ?_
  show OwnG _ _ _ _ _ _ _ (T34.setTop (mkF m 8 #[.val (.ref a1)] [(.int (Int32.ofNat len)), (.ref ab)]))
  obtain ⟨_, _, ⟨T35, L35, k35, n35⟩, -, X35, ⟨Lc35, hQ35, l35, y35, z35⟩, st35⟩ := Jvm.LawKit.callS X34 hx (y := (⟨"java/util/Arrays", "copyOf", "([BI)[B"⟩ : MethodName)) hown (mvT hZ (hw _ (List.mem_of_getElem? (i := 42) rfl))) (mvT hZ (hw _ (List.mem_of_getElem? (i := 43) rfl))) (mvT hZ (hw _ (List.mem_of_getElem? (i := 44) rfl))) (mvT hZ (hw _ (List.mem_of_getElem? (i := 45) rfl))) (by decide) (backOf (W := 0) (rm8 l Z a0 hw [] ab (Int32.ofNat len) C len q h0 n0 Z0 (own_to len (by omega)) hC (by omega) V0 E_b) hZ (hw _ (List.mem_of_getElem? (i := 45) rfl)) (hw _ (List.mem_of_getElem? (i := 44) rfl)) (by decide) (by decide)) (g := (mkF m 8 #[.val (.ref a1)] [(.int (Int32.ofNat len)), (.ref ab)])) rfl (by rw [hml]; rfl) (argsL := [(.ref ab), (.int (Int32.ofNat len))]) (rest := []) (lenOf (by decide +kernel : parseMethodDescriptor "([BI)[B" = some ⟨[(.array .byte), .int], some (.array .byte)⟩) rfl) rfl (by show 2 * 0 + _ ≤ _; exact Nat.le_of_eq rfl) (hb hby d7_8) (fun _ _ => ⟨rfl, e34, (by dsimp only [Pt.cells]; decide), (by dsimp only [Pt.slots]; decide)⟩)
  dsimp only [Pt.U, Pt.locs, Pt.cells, Pt.slots] at X35 l35 y35 z35 st35 hQ35
  subst l35 y35 z35
  obtain ⟨rfl, N35q, S35, K35, EE35, V35⟩ := hQ35
  have N35 := Fr.app N0 N35q
  refine own_st st35 ?_
  show OwnG _ _ _ _ _ _ _ (T35.setTop (mkF m 11 #[.val (.ref a1)] [(.ref h0.size)]))
  exact own_retA X35 hx hrt hlk rfl (hb hby d7_11) (by decide) (by decide) (by show _ ∧ _; exact ⟨rfl, N35, S35, K35, V35.cong fun j hj => by rw [if_pos (by omega)]⟩)
theorem pn_0 : plainFor x = true := by first | exact plainFor_of_name (by first | (simp [plainName, overriddenIn]; done) | decide +kernel) | decide +kernel
theorem ef_0 (m : MethodId) (x0 : Int32) (x1 : Int32) (x2 : Int32) (x3 : Int32) : entryFrame m #[(.int x0), (.int x1), (.int x2), (.int x3)] maxLocals = mkF m 0 #[.val (.int x0), .val (.int x1), .val (.int x2), .val (.int x3), .unset, .unset, .unset, .unset, .unset, .unset, .unset] [] := by first | (simp [entryFrame, mkF, argsToLocals, Value.category, maxLocals]; done) | rfl
def Q0 (Z : State) (cap : Int32) (size : Int32) (bb : Int32) (kk : Int32) (h0 : Heap) (n0 : Nat) (v : Option Value) (h : Heap) (L : List Loc) : Prop := v = some (.int 1) ∧ Fr n0 L
set_option maxRecDepth 65536 in
set_option maxHeartbeats 40000000 in
theorem rm0 (l : Launch) (Z : State) (a0 : Array Value) (hw : ∀ d ∈ tables_1, d.before a0 Z = true) (ws : List Jvm.Cond) (cap : Int32) (size : Int32) (bb : Int32) (kk : Int32) (h0 : Heap) (n0 : Nat) (Z0 : n0 ≤ h0.size)  :
    MetFree l x (head1 (Jvm.Cond.code x code maxLocals ret :: ws) room_1) (fun a U => a = #[(.int cap), (.int size), (.int bb), (.int kk)] ∧ Z.Warmed39 U.vm ∧ U.heap = h0) (fun _ _ _ _ _ => True) (fun _ U o U' => ∃ v L, o = .returned v ∧ Q0 Z cap size bb kk h0 n0 v U'.heap L ∧ FrameEnd U o U' L 6 250) := by
  refine MetFree.of_bodySF pn_0 hisR ?_
  intro p e s m args below meth c s₁ Bd hml0 hP hK
  obtain ⟨rfl, hZ, hh⟩ := hP
  have hx := Bd.exec
  have hby := Bd.bytes
  have hml : c.maxLocals = 11 := hml0
  have hown : s.vm.findClass "com/example/dwell/dwell/io/ByteWriterPutCrLfPinLaw" = some m.cls := findClass_of_methodNamed Bd.named
  have hnm := (name_of_methodNamed Bd.named Bd.method).1
  have hrt := Bd.returns
  have hlk : meth.locks = false := BodyLoose.notSynchronized Bd
  have X0 : Stand p l e room_1 s m #[(.int cap), (.int size), (.int bb), (.int kk)] below meth c s₁ [] 0 0 := Stand.of_body Bd
  have e0 : s₁.heap = h0 := by rw [← hh, Bd.state]; rfl
  have N0 := Fr.nil n0
  show OwnG 6 250 (Q0 Z cap size bb kk h0 n0) p e below s (s₁.setTop (entryFrame m #[(.int cap), (.int size), (.int bb), (.int kk)] maxLocals))
  refine own_st (σ' := s₁.setTop (mkF m 0 #[.val (.int cap), .val (.int size), .val (.int bb), .val (.int kk), .unset, .unset, .unset, .unset, .unset, .unset, .unset] [])) (fun _ kq_ => castTop (ef_0 m cap size bb kk) kq_) ?_
  show OwnG _ _ _ _ _ _ _ (s₁.setTop (mkF m 0 #[.val (.int cap), .val (.int size), .val (.int bb), .val (.int kk), .unset, .unset, .unset, .unset, .unset, .unset, .unset] []))
  refine own_st (fun _ kq_ => XS.iloadN X0.here hx rfl (hb hby at_0) rfl kq_) ?_
  show OwnG _ _ _ _ _ _ _ (s₁.setTop (mkF m 1 #[.val (.int cap), .val (.int size), .val (.int bb), .val (.int kk), .unset, .unset, .unset, .unset, .unset, .unset, .unset] [(.int cap)]))
  refine own_st (fun _ kq_ => XS.bipush X0.here hx rfl (hb hby at_1) kq_) ?_
  show OwnG _ _ _ _ _ _ _ (s₁.setTop (mkF m 3 #[.val (.int cap), .val (.int size), .val (.int bb), .val (.int kk), .unset, .unset, .unset, .unset, .unset, .unset, .unset] [(.int (31 : Int32)), (.int cap)]))
  refine own_st (fun _ kq_ => XS.iand X0.here hx rfl (hb hby at_3) rfl kq_) ?_
  show OwnG _ _ _ _ _ _ _ (s₁.setTop (mkF m 4 #[.val (.int cap), .val (.int size), .val (.int bb), .val (.int kk), .unset, .unset, .unset, .unset, .unset, .unset, .unset] [(.int (cap &&& (31 : Int32)))]))
  refine own_st (fun _ kq_ => XS.iconst X0.here hx rfl (hb hby at_4) kq_) ?_
  show OwnG _ _ _ _ _ _ _ (s₁.setTop (mkF m 5 #[.val (.int cap), .val (.int size), .val (.int bb), .val (.int kk), .unset, .unset, .unset, .unset, .unset, .unset, .unset] [(.int (4 : Int32)), (.int (cap &&& (31 : Int32)))]))
  refine own_st (fun _ kq_ => XS.isub X0.here hx rfl (hb hby at_5) rfl kq_) ?_
  show OwnG _ _ _ _ _ _ _ (s₁.setTop (mkF m 6 #[.val (.int cap), .val (.int size), .val (.int bb), .val (.int kk), .unset, .unset, .unset, .unset, .unset, .unset, .unset] [(.int ((cap &&& (31 : Int32)) - (4 : Int32)))]))
  refine own_st (fun _ kq_ => XS.istore X0.here hx rfl (hb hby at_6) rfl (l' := #[.val (.int cap), .val (.int size), .val (.int bb), .val (.int kk), .val (.int ((cap &&& (31 : Int32)) - (4 : Int32))), .unset, .unset, .unset, .unset, .unset, .unset]) rfl kq_) ?_
  show OwnG _ _ _ _ _ _ _ (s₁.setTop (mkF m 8 #[.val (.int cap), .val (.int size), .val (.int bb), .val (.int kk), .val (.int ((cap &&& (31 : Int32)) - (4 : Int32))), .unset, .unset, .unset, .unset, .unset, .unset] []))
  refine own_st (fun _ kq_ => XS.iloadN X0.here hx rfl (hb hby at_8) rfl kq_) ?_
  show OwnG _ _ _ _ _ _ _ (s₁.setTop (mkF m 9 #[.val (.int cap), .val (.int size), .val (.int bb), .val (.int kk), .val (.int ((cap &&& (31 : Int32)) - (4 : Int32))), .unset, .unset, .unset, .unset, .unset, .unset] [(.int size)]))
  refine own_st (X0.ldcInt hx hown (mvT hZ (hw _ (List.mem_of_getElem? (i := 0) rfl))) (g := (mkF m 9 #[.val (.int cap), .val (.int size), .val (.int bb), .val (.int kk), .val (.int ((cap &&& (31 : Int32)) - (4 : Int32))), .unset, .unset, .unset, .unset, .unset, .unset] [(.int size)])) rfl (hb hby at_9)) ?_
  show OwnG _ _ _ _ _ _ _ (s₁.setTop (mkF m 11 #[.val (.int cap), .val (.int size), .val (.int bb), .val (.int kk), .val (.int ((cap &&& (31 : Int32)) - (4 : Int32))), .unset, .unset, .unset, .unset, .unset, .unset] [(.int (2147483647 : Int32)), (.int size)]))
  refine own_st (fun _ kq_ => XS.iand X0.here hx rfl (hb hby at_11) rfl kq_) ?_
  show OwnG _ _ _ _ _ _ _ (s₁.setTop (mkF m 12 #[.val (.int cap), .val (.int size), .val (.int bb), .val (.int kk), .val (.int ((cap &&& (31 : Int32)) - (4 : Int32))), .unset, .unset, .unset, .unset, .unset, .unset] [(.int (size &&& (2147483647 : Int32)))]))
  refine own_st (fun _ kq_ => XS.bipush X0.here hx rfl (hb hby at_12) kq_) ?_
  show OwnG _ _ _ _ _ _ _ (s₁.setTop (mkF m 14 #[.val (.int cap), .val (.int size), .val (.int bb), .val (.int kk), .val (.int ((cap &&& (31 : Int32)) - (4 : Int32))), .unset, .unset, .unset, .unset, .unset, .unset] [(.int (30 : Int32)), (.int (size &&& (2147483647 : Int32)))]))
  refine own_st (fun _ kq_ => iremM X0 hx rfl (hb hby at_14) rfl (by decide) kq_) ?_
  show OwnG _ _ _ _ _ _ _ (s₁.setTop (mkF m 15 #[.val (.int cap), .val (.int size), .val (.int bb), .val (.int kk), .val (.int ((cap &&& (31 : Int32)) - (4 : Int32))), .unset, .unset, .unset, .unset, .unset, .unset] [(.int ((size &&& (2147483647 : Int32)) % (30 : Int32)))]))
  refine own_st (fun _ kq_ => XS.istore X0.here hx rfl (hb hby at_15) rfl (l' := #[.val (.int cap), .val (.int size), .val (.int bb), .val (.int kk), .val (.int ((cap &&& (31 : Int32)) - (4 : Int32))), .val (.int ((size &&& (2147483647 : Int32)) % (30 : Int32))), .unset, .unset, .unset, .unset, .unset]) rfl kq_) ?_
  show OwnG _ _ _ _ _ _ _ (s₁.setTop (mkF m 17 #[.val (.int cap), .val (.int size), .val (.int bb), .val (.int kk), .val (.int ((cap &&& (31 : Int32)) - (4 : Int32))), .val (.int ((size &&& (2147483647 : Int32)) % (30 : Int32))), .unset, .unset, .unset, .unset, .unset] []))
  refine own_st (fun _ kq_ => XS.iloadN X0.here hx rfl (hb hby at_17) rfl kq_) ?_
  show OwnG _ _ _ _ _ _ _ (s₁.setTop (mkF m 18 #[.val (.int cap), .val (.int size), .val (.int bb), .val (.int kk), .val (.int ((cap &&& (31 : Int32)) - (4 : Int32))), .val (.int ((size &&& (2147483647 : Int32)) % (30 : Int32))), .unset, .unset, .unset, .unset, .unset] [(.int kk)]))
  refine own_st (X0.ldcInt hx hown (mvT hZ (hw _ (List.mem_of_getElem? (i := 0) rfl))) (g := (mkF m 18 #[.val (.int cap), .val (.int size), .val (.int bb), .val (.int kk), .val (.int ((cap &&& (31 : Int32)) - (4 : Int32))), .val (.int ((size &&& (2147483647 : Int32)) % (30 : Int32))), .unset, .unset, .unset, .unset, .unset] [(.int kk)])) rfl (hb hby at_18)) ?_
  show OwnG _ _ _ _ _ _ _ (s₁.setTop (mkF m 20 #[.val (.int cap), .val (.int size), .val (.int bb), .val (.int kk), .val (.int ((cap &&& (31 : Int32)) - (4 : Int32))), .val (.int ((size &&& (2147483647 : Int32)) % (30 : Int32))), .unset, .unset, .unset, .unset, .unset] [(.int (2147483647 : Int32)), (.int kk)]))
  refine own_st (fun _ kq_ => XS.iand X0.here hx rfl (hb hby at_20) rfl kq_) ?_
  show OwnG _ _ _ _ _ _ _ (s₁.setTop (mkF m 21 #[.val (.int cap), .val (.int size), .val (.int bb), .val (.int kk), .val (.int ((cap &&& (31 : Int32)) - (4 : Int32))), .val (.int ((size &&& (2147483647 : Int32)) % (30 : Int32))), .unset, .unset, .unset, .unset, .unset] [(.int (kk &&& (2147483647 : Int32)))]))
  refine own_st (fun _ kq_ => XS.bipush X0.here hx rfl (hb hby at_21) kq_) ?_
  show OwnG _ _ _ _ _ _ _ (s₁.setTop (mkF m 23 #[.val (.int cap), .val (.int size), .val (.int bb), .val (.int kk), .val (.int ((cap &&& (31 : Int32)) - (4 : Int32))), .val (.int ((size &&& (2147483647 : Int32)) % (30 : Int32))), .unset, .unset, .unset, .unset, .unset] [(.int (29 : Int32)), (.int (kk &&& (2147483647 : Int32)))]))
  refine own_st (fun _ kq_ => iremM X0 hx rfl (hb hby at_23) rfl (by decide) kq_) ?_
  show OwnG _ _ _ _ _ _ _ (s₁.setTop (mkF m 24 #[.val (.int cap), .val (.int size), .val (.int bb), .val (.int kk), .val (.int ((cap &&& (31 : Int32)) - (4 : Int32))), .val (.int ((size &&& (2147483647 : Int32)) % (30 : Int32))), .unset, .unset, .unset, .unset, .unset] [(.int ((kk &&& (2147483647 : Int32)) % (29 : Int32)))]))
  refine own_st (fun _ kq_ => XS.istore X0.here hx rfl (hb hby at_24) rfl (l' := #[.val (.int cap), .val (.int size), .val (.int bb), .val (.int kk), .val (.int ((cap &&& (31 : Int32)) - (4 : Int32))), .val (.int ((size &&& (2147483647 : Int32)) % (30 : Int32))), .val (.int ((kk &&& (2147483647 : Int32)) % (29 : Int32))), .unset, .unset, .unset, .unset]) rfl kq_) ?_
  show OwnG _ _ _ _ _ _ _ (s₁.setTop (mkF m 26 #[.val (.int cap), .val (.int size), .val (.int bb), .val (.int kk), .val (.int ((cap &&& (31 : Int32)) - (4 : Int32))), .val (.int ((size &&& (2147483647 : Int32)) % (30 : Int32))), .val (.int ((kk &&& (2147483647 : Int32)) % (29 : Int32))), .unset, .unset, .unset, .unset] []))
  obtain ⟨C, hC1, hC2, hC⟩ := own_cap cap
  obtain ⟨nz, hnz, hnn⟩ := own_modn size 30 30 rfl (by decide)
  obtain ⟨iz, hiz, hii⟩ := own_modn kk 29 29 rfl (by decide)
  generalize ((cap &&& (31 : Int32)) - (4 : Int32)) = cp at *
  generalize ((size &&& (2147483647 : Int32)) % (30 : Int32)) = nn at *
  generalize ((kk &&& (2147483647 : Int32)) % (29 : Int32)) = ii at *
  show OwnG _ _ _ _ _ _ _ (s₁.setTop (mkF m 26 #[.val (.int cap), .val (.int size), .val (.int bb), .val (.int kk), .val (.int cp), .val (.int nn), .val (.int ii), .unset, .unset, .unset, .unset] []))
  refine own_st (fun _ kq_ => XS.bipush X0.here hx rfl (hb hby at_26) kq_) ?_
  show OwnG _ _ _ _ _ _ _ (s₁.setTop (mkF m 28 #[.val (.int cap), .val (.int size), .val (.int bb), .val (.int kk), .val (.int cp), .val (.int nn), .val (.int ii), .unset, .unset, .unset, .unset] [(.int (29 : Int32))]))
  obtain ⟨T36, h36, X36, e36, E36, V36, st36⟩ := own_new X0 hx hZ (hw _ (List.mem_of_getElem? (i := 1) rfl)) e0 (g := (mkF m 28 #[.val (.int cap), .val (.int size), .val (.int bb), .val (.int kk), .val (.int cp), .val (.int nn), .val (.int ii), .unset, .unset, .unset, .unset] [(.int (29 : Int32))])) rfl (hb hby at_28) rfl (29) (by decide) (cap := 29) (Nat.le_refl _) (by decide) (by decide) (by decide)
  obtain ⟨b36, g36⟩ : ∃ z, z = h0.size := ⟨_, rfl⟩
  rw [← g36] at V36 st36
  refine own_st st36 ?_
  show OwnG _ _ _ _ _ _ _ (T36.setTop (mkF m 30 #[.val (.int cap), .val (.int size), .val (.int bb), .val (.int kk), .val (.int cp), .val (.int nn), .val (.int ii), .unset, .unset, .unset, .unset] [(.ref b36)]))
  have gp : n0 ≤ b36 := Nat.le_trans Z0 (Nat.le_of_eq g36.symm)
  have S36 : n0 ≤ h36.size := Nat.le_trans Z0 E36.1
  refine own_st (fun _ kq_ => XS.astore X36.here hx rfl (hb hby at_30) rfl rfl (l' := #[.val (.int cap), .val (.int size), .val (.int bb), .val (.int kk), .val (.int cp), .val (.int nn), .val (.int ii), .val (.ref b36), .unset, .unset, .unset]) rfl kq_) ?_
  show OwnG _ _ _ _ _ _ _ (T36.setTop (mkF m 32 #[.val (.int cap), .val (.int size), .val (.int bb), .val (.int kk), .val (.int cp), .val (.int nn), .val (.int ii), .val (.ref b36), .unset, .unset, .unset] []))
  refine own_st (fun _ kq_ => XS.aload X36.here hx rfl (hb hby at_32) rfl rfl kq_) ?_
  show OwnG _ _ _ _ _ _ _ (T36.setTop (mkF m 34 #[.val (.int cap), .val (.int size), .val (.int bb), .val (.int kk), .val (.int cp), .val (.int nn), .val (.int ii), .val (.ref b36), .unset, .unset, .unset] [(.ref b36)]))
  refine own_st (fun _ kq_ => XS.iload X36.here hx rfl (hb hby at_34) rfl kq_) ?_
  show OwnG _ _ _ _ _ _ _ (T36.setTop (mkF m 36 #[.val (.int cap), .val (.int size), .val (.int bb), .val (.int kk), .val (.int cp), .val (.int nn), .val (.int ii), .val (.ref b36), .unset, .unset, .unset] [(.int ii), (.ref b36)]))
  refine own_st (fun _ kq_ => XS.iloadN X36.here hx rfl (hb hby at_36) rfl kq_) ?_
  show OwnG _ _ _ _ _ _ _ (T36.setTop (mkF m 37 #[.val (.int cap), .val (.int size), .val (.int bb), .val (.int kk), .val (.int cp), .val (.int nn), .val (.int ii), .val (.ref b36), .unset, .unset, .unset] [(.int bb), (.int ii), (.ref b36)]))
  refine own_st (fun _ kq_ => XS.i2b X36.here hx rfl (hb hby at_37) rfl kq_) ?_
  show OwnG _ _ _ _ _ _ _ (T36.setTop (mkF m 38 #[.val (.int cap), .val (.int size), .val (.int bb), .val (.int kk), .val (.int cp), .val (.int nn), .val (.int ii), .val (.ref b36), .unset, .unset, .unset] [(.int (bb.toInt8.toInt32)), (.int ii), (.ref b36)]))
  obtain ⟨T37, h37, X37, e37, W37, V37, st37⟩ := own_sB X36 hx hZ e36 V36 (iz) hii hiz (g := (mkF m 38 #[.val (.int cap), .val (.int size), .val (.int bb), .val (.int kk), .val (.int cp), .val (.int nn), .val (.int ii), .val (.ref b36), .unset, .unset, .unset] [(.int (bb.toInt8.toInt32)), (.int ii), (.ref b36)])) rfl rfl (hb hby at_38)
  have N37 := Fr.snoc X37 N0 gp
  refine own_st st37 ?_
  show OwnG _ _ _ _ _ _ _ (T37.setTop (mkF m 39 #[.val (.int cap), .val (.int size), .val (.int bb), .val (.int kk), .val (.int cp), .val (.int nn), .val (.int ii), .val (.ref b36), .unset, .unset, .unset] []))
  have P37 : Ary Z h37 b36 .byte 29 (fun j => .int (own_ui (fun _ => 0) iz (bb.toInt8.toInt32) j)) := V37.cong fun j _ => own_uu (fun _ => 0) _ _ _ (own_by _) j
  refine own_st (fun _ kq_ => XS.aload X37.here hx rfl (hb hby at_39) rfl rfl kq_) ?_
  show OwnG _ _ _ _ _ _ _ (T37.setTop (mkF m 41 #[.val (.int cap), .val (.int size), .val (.int bb), .val (.int kk), .val (.int cp), .val (.int nn), .val (.int ii), .val (.ref b36), .unset, .unset, .unset] [(.ref b36)]))
  refine own_st (fun _ kq_ => XS.bipush X37.here hx rfl (hb hby at_41) kq_) ?_
  show OwnG _ _ _ _ _ _ _ (T37.setTop (mkF m 43 #[.val (.int cap), .val (.int size), .val (.int bb), .val (.int kk), .val (.int cp), .val (.int nn), .val (.int ii), .val (.ref b36), .unset, .unset, .unset] [(.int (28 : Int32)), (.ref b36)]))
  refine own_st (fun _ kq_ => XS.iloadN X37.here hx rfl (hb hby at_43) rfl kq_) ?_
  show OwnG _ _ _ _ _ _ _ (T37.setTop (mkF m 44 #[.val (.int cap), .val (.int size), .val (.int bb), .val (.int kk), .val (.int cp), .val (.int nn), .val (.int ii), .val (.ref b36), .unset, .unset, .unset] [(.int bb), (.int (28 : Int32)), (.ref b36)]))
  refine own_st (fun _ kq_ => XS.bipush X37.here hx rfl (hb hby at_44) kq_) ?_
  show OwnG _ _ _ _ _ _ _ (T37.setTop (mkF m 46 #[.val (.int cap), .val (.int size), .val (.int bb), .val (.int kk), .val (.int cp), .val (.int nn), .val (.int ii), .val (.ref b36), .unset, .unset, .unset] [(.int (8 : Int32)), (.int bb), (.int (28 : Int32)), (.ref b36)]))
  refine own_st (fun _ kq_ => XS.ishr X37.here hx rfl (hb hby at_46) rfl kq_) ?_
  show OwnG _ _ _ _ _ _ _ (T37.setTop (mkF m 47 #[.val (.int cap), .val (.int size), .val (.int bb), .val (.int kk), .val (.int cp), .val (.int nn), .val (.int ii), .val (.ref b36), .unset, .unset, .unset] [(.int (bb >>> ((8 : Int32) &&& 31))), (.int (28 : Int32)), (.ref b36)]))
  refine own_st (fun _ kq_ => XS.i2b X37.here hx rfl (hb hby at_47) rfl kq_) ?_
  show OwnG _ _ _ _ _ _ _ (T37.setTop (mkF m 48 #[.val (.int cap), .val (.int size), .val (.int bb), .val (.int kk), .val (.int cp), .val (.int nn), .val (.int ii), .val (.ref b36), .unset, .unset, .unset] [(.int ((bb >>> ((8 : Int32) &&& 31)).toInt8.toInt32)), (.int (28 : Int32)), (.ref b36)]))
  obtain ⟨T38, h38, X38, e38, W38, V38, st38⟩ := own_sB X37 hx hZ e37 P37 (28) (by decide) (by decide) (g := (mkF m 48 #[.val (.int cap), .val (.int size), .val (.int bb), .val (.int kk), .val (.int cp), .val (.int nn), .val (.int ii), .val (.ref b36), .unset, .unset, .unset] [(.int ((bb >>> ((8 : Int32) &&& 31)).toInt8.toInt32)), (.int (28 : Int32)), (.ref b36)])) rfl rfl (hb hby at_48)
  have N38 := Fr.snoc X38 N37 gp
  refine own_st st38 ?_
  show OwnG _ _ _ _ _ _ _ (T38.setTop (mkF m 49 #[.val (.int cap), .val (.int size), .val (.int bb), .val (.int kk), .val (.int cp), .val (.int nn), .val (.int ii), .val (.ref b36), .unset, .unset, .unset] []))
  have P38 : Ary Z h38 b36 .byte 29 (fun j => .int (own_ui (own_ui (fun _ => 0) iz (bb.toInt8.toInt32)) 28 ((bb >>> ((8 : Int32) &&& 31)).toInt8.toInt32) j)) := V38.cong fun j _ => own_uu _ _ _ _ (own_by _) j
  generalize own_ui (own_ui (fun _ => 0) iz (bb.toInt8.toInt32)) 28 ((bb >>> ((8 : Int32) &&& 31)).toInt8.toInt32) = gg at P38
  have S38 : n0 ≤ h38.size := by rw [W38.size, W37.size]; exact S36
  obtain ⟨T39, h39, X39, e39, E39, A39, D39, -, st39⟩ := newO X38 hx hZ hown (hw _ (List.mem_of_getElem? (i := 2) rfl)) (hw _ (List.mem_of_getElem? (i := 3) rfl)) (hw _ (List.mem_of_getElem? (i := 4) rfl)) e38 (g := (mkF m 49 #[.val (.int cap), .val (.int size), .val (.int bb), .val (.int kk), .val (.int cp), .val (.int nn), .val (.int ii), .val (.ref b36), .unset, .unset, .unset] [])) rfl (hb hby at_49) (by decide) (by decide)
  obtain ⟨b39, g39⟩ : ∃ z, z = h38.size := ⟨_, rfl⟩
  rw [← g39] at A39 D39 st39
  refine own_st st39 ?_
  show OwnG _ _ _ _ _ _ _ (T39.setTop (mkF m 52 #[.val (.int cap), .val (.int size), .val (.int bb), .val (.int kk), .val (.int cp), .val (.int nn), .val (.int ii), .val (.ref b36), .unset, .unset, .unset] [(.ref b39)]))
  have F_by : Fld Z h39 b39 "com/example/dwell/dwell/io/ByteWriter" "bytes" "[B" .null := D39 (Or.inl (hw _ (List.mem_of_getElem? (i := 16) rfl))) (ty := (.array .byte)) (by decide)
  have F_ln : Fld Z h39 b39 "com/example/dwell/dwell/io/ByteWriter" "length" "I" (.int (0 : Int32)) := D39 (Or.inl (hw _ (List.mem_of_getElem? (i := 27) rfl))) (ty := .int) (by decide)
  have S39 : n0 ≤ h39.size := Nat.le_trans S38 E39.1
  have ga : n0 ≤ b39 := Nat.le_trans S38 (Nat.le_of_eq g39.symm)
  have P39 := P38.ext E39
  have hpa : b36 ≠ b39 := Nat.ne_of_lt (Nat.lt_of_lt_of_le P38.lt (Nat.le_of_eq g39.symm))
  refine own_st (fun _ kq_ => XS.dup X39.here hx rfl (hb hby at_52) rfl rfl kq_) ?_
  show OwnG _ _ _ _ _ _ _ (T39.setTop (mkF m 53 #[.val (.int cap), .val (.int size), .val (.int bb), .val (.int kk), .val (.int cp), .val (.int nn), .val (.int ii), .val (.ref b36), .unset, .unset, .unset] [(.ref b39), (.ref b39)]))
  refine own_st (fun _ kq_ => XS.iload X39.here hx rfl (hb hby at_53) rfl kq_) ?_
  show OwnG _ _ _ _ _ _ _ (T39.setTop (mkF m 55 #[.val (.int cap), .val (.int size), .val (.int bb), .val (.int kk), .val (.int cp), .val (.int nn), .val (.int ii), .val (.ref b36), .unset, .unset, .unset] [(.int cp), (.ref b39), (.ref b39)]))
  obtain ⟨_, _, ⟨T40, L40, k40, n40⟩, -, X40, ⟨Lc40, hQ40, l40, y40, z40⟩, st40⟩ := X39.specialBack hx (y := (⟨"com/example/dwell/dwell/io/ByteWriter", "<init>", "(I)V"⟩ : MethodName)) rfl hown (mvT hZ (hw _ (List.mem_of_getElem? (i := 5) rfl))) (mvT hZ (hw _ (List.mem_of_getElem? (i := 6) rfl))) (mvT hZ (hw _ (List.mem_of_getElem? (i := 7) rfl))) (by decide) (backOf (W := 1) (rm1 l Z a0 hw [] b39 cp C h39 n0 S39 hC hC2 A39 F_by F_ln ga) hZ (hw _ (List.mem_of_getElem? (i := 7) rfl)) (hw _ (List.mem_of_getElem? (i := 4) rfl)) (by decide) (by decide)) (g := (mkF m 55 #[.val (.int cap), .val (.int size), .val (.int bb), .val (.int kk), .val (.int cp), .val (.int nn), .val (.int ii), .val (.ref b36), .unset, .unset, .unset] [(.int cp), (.ref b39), (.ref b39)])) rfl (by rw [hml]; rfl) (Steps.refl _) (a := b39) (argsL := [(.int cp)]) (rest := [(.ref b39)]) (lenOf (by decide +kernel : parseMethodDescriptor "(I)V" = some ⟨[.int], none⟩) rfl) rfl (by show 2 * 0 + _ ≤ _; exact Nat.le_of_eq rfl) (hb hby at_55) (fun _ _ => ⟨rfl, e39, (by dsimp only [Pt.cells]; decide), (by dsimp only [Pt.slots]; decide)⟩)
  dsimp only [Pt.U, Pt.locs, Pt.cells, Pt.slots] at X40 l40 y40 z40 st40 hQ40
  subst l40 y40 z40
  obtain ⟨rfl, N40q, S40, K40, I40⟩ := hQ40
  have N40 := Fr.app N38 N40q
  refine own_go st40 ?_
  show OwnG _ _ _ _ _ _ _ (T40.setTop (mkF m 58 #[.val (.int cap), .val (.int size), .val (.int bb), .val (.int kk), .val (.int cp), .val (.int nn), .val (.int ii), .val (.ref b36), .unset, .unset, .unset] [(.ref b39)]))
  have P40 := P39.keep K40 (ninS hpa nin0)
  have hpb : b36 ≠ h39.size := Nat.ne_of_lt P39.lt
  refine own_st (fun _ kq_ => XS.astore X40.here hx rfl (hb hby at_58) rfl rfl (l' := #[.val (.int cap), .val (.int size), .val (.int bb), .val (.int kk), .val (.int cp), .val (.int nn), .val (.int ii), .val (.ref b36), .val (.ref b39), .unset, .unset]) rfl kq_) ?_
  show OwnG _ _ _ _ _ _ _ (T40.setTop (mkF m 60 #[.val (.int cap), .val (.int size), .val (.int bb), .val (.int kk), .val (.int cp), .val (.int nn), .val (.int ii), .val (.ref b36), .val (.ref b39), .unset, .unset] []))
  refine own_st (fun _ kq_ => XS.aload X40.here hx rfl (hb hby at_60) rfl rfl kq_) ?_
  show OwnG _ _ _ _ _ _ _ (T40.setTop (mkF m 62 #[.val (.int cap), .val (.int size), .val (.int bb), .val (.int kk), .val (.int cp), .val (.int nn), .val (.int ii), .val (.ref b36), .val (.ref b39), .unset, .unset] [(.ref b39)]))
  refine own_st (fun _ kq_ => XS.aload X40.here hx rfl (hb hby at_62) rfl rfl kq_) ?_
  show OwnG _ _ _ _ _ _ _ (T40.setTop (mkF m 64 #[.val (.int cap), .val (.int size), .val (.int bb), .val (.int kk), .val (.int cp), .val (.int nn), .val (.int ii), .val (.ref b36), .val (.ref b39), .unset, .unset] [(.ref b36), (.ref b39)]))
  refine own_st (fun _ kq_ => XS.iconst X40.here hx rfl (hb hby at_64) kq_) ?_
  show OwnG _ _ _ _ _ _ _ (T40.setTop (mkF m 65 #[.val (.int cap), .val (.int size), .val (.int bb), .val (.int kk), .val (.int cp), .val (.int nn), .val (.int ii), .val (.ref b36), .val (.ref b39), .unset, .unset] [(.int (0 : Int32)), (.ref b36), (.ref b39)]))
  refine own_st (fun _ kq_ => XS.iload X40.here hx rfl (hb hby at_65) rfl kq_) ?_
  show OwnG _ _ _ _ _ _ _ (T40.setTop (mkF m 67 #[.val (.int cap), .val (.int size), .val (.int bb), .val (.int kk), .val (.int cp), .val (.int nn), .val (.int ii), .val (.ref b36), .val (.ref b39), .unset, .unset] [(.int nn), (.int (0 : Int32)), (.ref b36), (.ref b39)]))
  obtain ⟨cq41, kq41, q41a, q41b, q41c⟩ := isOf hZ rfl I40.1
  obtain ⟨_, _, ⟨T41, L41, k41, n41⟩, -, X41, ⟨Lc41, hQ41, l41, y41, z41⟩, st41⟩ := X40.virtualBack hx (y := (⟨"com/example/dwell/dwell/io/ByteWriter", "put", "([BII)Lcom/example/dwell/dwell/io/ByteWriter;"⟩ : MethodName)) (z := (⟨"com/example/dwell/dwell/io/ByteWriter", "put", "([BII)Lcom/example/dwell/dwell/io/ByteWriter;"⟩ : MethodName)) hown (mvT hZ (hw _ (List.mem_of_getElem? (i := 17) rfl))) (mvT hZ (hw _ (List.mem_of_getElem? (i := 18) rfl))) (notFace_of_selects (args := #[]) (mvT hZ (hw _ (List.mem_of_getElem? (i := 20) rfl)))) (mvT hZ (hw _ (List.mem_of_getElem? (i := 20) rfl))) (mvT hZ (hw _ (List.mem_of_getElem? (i := 19) rfl))) (by decide) (backOf (W := 0) (rm4 l Z a0 hw [] b39 (h39.size) C b36 gg nn nz T40.heap n0 S40 hnn (by omega) (by omega) I40 ga S39 P40 hpb hpa) hZ (hw _ (List.mem_of_getElem? (i := 21) rfl)) (hw _ (List.mem_of_getElem? (i := 4) rfl)) (by decide) (by decide)) q41a q41c (g := (mkF m 67 #[.val (.int cap), .val (.int size), .val (.int bb), .val (.int kk), .val (.int cp), .val (.int nn), .val (.int ii), .val (.ref b36), .val (.ref b39), .unset, .unset] [(.int nn), (.int (0 : Int32)), (.ref b36), (.ref b39)])) rfl (by rw [hml]; rfl) (Steps.refl _) (argsL := [(.ref b36), (.int (0 : Int32)), (.int nn)]) (rest := []) (lenOf (by decide +kernel : parseMethodDescriptor "([BII)Lcom/example/dwell/dwell/io/ByteWriter;" = some ⟨[(.array .byte), .int, .int], some (.object "com/example/dwell/dwell/io/ByteWriter")⟩) rfl) rfl (by show 2 * 0 + _ ≤ _; exact Nat.le_of_eq rfl) (hb hby at_67) (fun _ _ => ⟨rfl, rfl, (by dsimp only [Pt.cells]; decide), (by dsimp only [Pt.slots]; decide)⟩)
  dsimp only [Pt.U, Pt.locs, Pt.cells, Pt.slots] at X41 l41 y41 z41 st41 hQ41
  subst l41 y41 z41
  obtain ⟨rfl, N41q, S41, P41, ab41, C41, q41, I41, c141, c241, qe41, ga41, d41⟩ := hQ41
  have N41 := Fr.app N40 N41q
  refine own_go st41 ?_
  show OwnG _ _ _ _ _ _ _ (T41.setTop (mkF m 70 #[.val (.int cap), .val (.int size), .val (.int bb), .val (.int kk), .val (.int cp), .val (.int nn), .val (.int ii), .val (.ref b36), .val (.ref b39), .unset, .unset] [(.ref b39)]))
  refine own_st (fun _ kq_ => XS.pop X41.here hx rfl (hb hby at_70) rfl rfl kq_) ?_
  show OwnG _ _ _ _ _ _ _ (T41.setTop (mkF m 71 #[.val (.int cap), .val (.int size), .val (.int bb), .val (.int kk), .val (.int cp), .val (.int nn), .val (.int ii), .val (.ref b36), .val (.ref b39), .unset, .unset] []))
  refine own_st (fun _ kq_ => XS.aload X41.here hx rfl (hb hby at_71) rfl rfl kq_) ?_
  show OwnG _ _ _ _ _ _ _ (T41.setTop (mkF m 73 #[.val (.int cap), .val (.int size), .val (.int bb), .val (.int kk), .val (.int cp), .val (.int nn), .val (.int ii), .val (.ref b36), .val (.ref b39), .unset, .unset] [(.ref b39)]))
  obtain ⟨cq42, kq42, q42a, q42b, q42c⟩ := isOf hZ rfl I41.1
  obtain ⟨_, _, ⟨T42, L42, k42, n42⟩, -, X42, ⟨Lc42, hQ42, l42, y42, z42⟩, st42⟩ := X41.virtualBack hx (y := (⟨"com/example/dwell/dwell/io/ByteWriter", "putCrLf", "()Lcom/example/dwell/dwell/io/ByteWriter;"⟩ : MethodName)) (z := (⟨"com/example/dwell/dwell/io/ByteWriter", "putCrLf", "()Lcom/example/dwell/dwell/io/ByteWriter;"⟩ : MethodName)) hown (mvT hZ (hw _ (List.mem_of_getElem? (i := 32) rfl))) (mvT hZ (hw _ (List.mem_of_getElem? (i := 33) rfl))) (notFace_of_selects (args := #[]) (mvT hZ (hw _ (List.mem_of_getElem? (i := 35) rfl)))) (mvT hZ (hw _ (List.mem_of_getElem? (i := 35) rfl))) (mvT hZ (hw _ (List.mem_of_getElem? (i := 34) rfl))) (by decide) (backOf (W := 0) (rm6 l Z a0 hw [] b39 ab41 nz C41 q41 b36 gg T41.heap n0 S41 (by omega) c141 c241 I41 ga ga41 P41 d41 hpa) hZ (hw _ (List.mem_of_getElem? (i := 36) rfl)) (hw _ (List.mem_of_getElem? (i := 4) rfl)) (by decide) (by decide)) q42a q42c (g := (mkF m 73 #[.val (.int cap), .val (.int size), .val (.int bb), .val (.int kk), .val (.int cp), .val (.int nn), .val (.int ii), .val (.ref b36), .val (.ref b39), .unset, .unset] [(.ref b39)])) rfl (by rw [hml]; rfl) (Steps.refl _) (argsL := []) (rest := []) (lenOf (by decide +kernel : parseMethodDescriptor "()Lcom/example/dwell/dwell/io/ByteWriter;" = some ⟨[], some (.object "com/example/dwell/dwell/io/ByteWriter")⟩) rfl) rfl (by show 2 * 0 + _ ≤ _; exact Nat.le_of_eq rfl) (hb hby at_73) (fun _ _ => ⟨rfl, rfl, (by dsimp only [Pt.cells]; decide), (by dsimp only [Pt.slots]; decide)⟩)
  dsimp only [Pt.U, Pt.locs, Pt.cells, Pt.slots] at X42 l42 y42 z42 st42 hQ42
  subst l42 y42 z42
  obtain ⟨rfl, N42q, S42, P42, ab42, C42, q42, I42, c142, c242, qe42, qx42, qy42⟩ := hQ42
  have N42 := Fr.app N41 N42q
  refine own_go st42 ?_
  show OwnG _ _ _ _ _ _ _ (T42.setTop (mkF m 76 #[.val (.int cap), .val (.int size), .val (.int bb), .val (.int kk), .val (.int cp), .val (.int nn), .val (.int ii), .val (.ref b36), .val (.ref b39), .unset, .unset] [(.ref b39)]))
  refine own_st (fun _ kq_ => XS.astore X42.here hx rfl (hb hby at_76) rfl rfl (l' := #[.val (.int cap), .val (.int size), .val (.int bb), .val (.int kk), .val (.int cp), .val (.int nn), .val (.int ii), .val (.ref b36), .val (.ref b39), .val (.ref b39), .unset]) rfl kq_) ?_
  show OwnG _ _ _ _ _ _ _ (T42.setTop (mkF m 78 #[.val (.int cap), .val (.int size), .val (.int bb), .val (.int kk), .val (.int cp), .val (.int nn), .val (.int ii), .val (.ref b36), .val (.ref b39), .val (.ref b39), .unset] []))
  refine own_st (fun _ kq_ => XS.aload X42.here hx rfl (hb hby at_78) rfl rfl kq_) ?_
  show OwnG _ _ _ _ _ _ _ (T42.setTop (mkF m 80 #[.val (.int cap), .val (.int size), .val (.int bb), .val (.int kk), .val (.int cp), .val (.int nn), .val (.int ii), .val (.ref b36), .val (.ref b39), .val (.ref b39), .unset] [(.ref b39)]))
  obtain ⟨cq43, kq43, q43a, q43b, q43c⟩ := isOf hZ rfl I42.1
  obtain ⟨_, _, ⟨T43, L43, k43, n43⟩, -, X43, ⟨Lc43, hQ43, l43, y43, z43⟩, st43⟩ := X42.virtualBack hx (y := (⟨"com/example/dwell/dwell/io/ByteWriter", "toArray", "()[B"⟩ : MethodName)) (z := (⟨"com/example/dwell/dwell/io/ByteWriter", "toArray", "()[B"⟩ : MethodName)) hown (mvT hZ (hw _ (List.mem_of_getElem? (i := 37) rfl))) (mvT hZ (hw _ (List.mem_of_getElem? (i := 38) rfl))) (notFace_of_selects (args := #[]) (mvT hZ (hw _ (List.mem_of_getElem? (i := 40) rfl)))) (mvT hZ (hw _ (List.mem_of_getElem? (i := 40) rfl))) (mvT hZ (hw _ (List.mem_of_getElem? (i := 39) rfl))) (by decide) (backOf (W := 0) (rm7 l Z a0 hw [] b39 ab42 (nz + 2) C42 q42 T42.heap n0 S42 c142 c242 I42) hZ (hw _ (List.mem_of_getElem? (i := 41) rfl)) (hw _ (List.mem_of_getElem? (i := 4) rfl)) (by decide) (by decide)) q43a q43c (g := (mkF m 80 #[.val (.int cap), .val (.int size), .val (.int bb), .val (.int kk), .val (.int cp), .val (.int nn), .val (.int ii), .val (.ref b36), .val (.ref b39), .val (.ref b39), .unset] [(.ref b39)])) rfl (by rw [hml]; rfl) (Steps.refl _) (argsL := []) (rest := []) (lenOf (by decide +kernel : parseMethodDescriptor "()[B" = some ⟨[], some (.array .byte)⟩) rfl) rfl (by show 2 * 0 + _ ≤ _; exact Nat.le_of_eq rfl) (hb hby at_80) (fun _ _ => ⟨rfl, rfl, (by dsimp only [Pt.cells]; decide), (by dsimp only [Pt.slots]; decide)⟩)
  dsimp only [Pt.U, Pt.locs, Pt.cells, Pt.slots] at X43 l43 y43 z43 st43 hQ43
  subst l43 y43 z43
  obtain ⟨rfl, N43q, S43, K43, V43⟩ := hQ43
  have N43 := Fr.app N42 N43q
  refine own_go st43 ?_
  show OwnG _ _ _ _ _ _ _ (T43.setTop (mkF m 83 #[.val (.int cap), .val (.int size), .val (.int bb), .val (.int kk), .val (.int cp), .val (.int nn), .val (.int ii), .val (.ref b36), .val (.ref b39), .val (.ref b39), .unset] [(.ref T42.heap.size)]))
  have P43 := P42.keep K43 nin0
  have qq : ∀ j, j < nz → q42 j = gg j := fun j hj => (qe42 j hj).trans (qe41 j hj)
  have hn2 := own_add nn 2 nz 2 hnn rfl (by omega)
  have hn1 := own_add nn 1 nz 1 hnn rfl (by omega)
  refine own_st (fun _ kq_ => XS.astore X43.here hx rfl (hb hby at_83) rfl rfl (l' := #[.val (.int cap), .val (.int size), .val (.int bb), .val (.int kk), .val (.int cp), .val (.int nn), .val (.int ii), .val (.ref b36), .val (.ref b39), .val (.ref b39), .val (.ref T42.heap.size)]) rfl kq_) ?_
  show OwnG _ _ _ _ _ _ _ (T43.setTop (mkF m 85 #[.val (.int cap), .val (.int size), .val (.int bb), .val (.int kk), .val (.int cp), .val (.int nn), .val (.int ii), .val (.ref b36), .val (.ref b39), .val (.ref b39), .val (.ref T42.heap.size)] []))
  refine own_st (fun _ kq_ => XS.aload X43.here hx rfl (hb hby at_85) rfl rfl kq_) ?_
  show OwnG _ _ _ _ _ _ _ (T43.setTop (mkF m 87 #[.val (.int cap), .val (.int size), .val (.int bb), .val (.int kk), .val (.int cp), .val (.int nn), .val (.int ii), .val (.ref b36), .val (.ref b39), .val (.ref b39), .val (.ref T42.heap.size)] [(.ref b39)]))
  refine own_st (fun _ kq_ => XS.aload X43.here hx rfl (hb hby at_87) rfl rfl kq_) ?_
  show OwnG _ _ _ _ _ _ _ (T43.setTop (mkF m 89 #[.val (.int cap), .val (.int size), .val (.int bb), .val (.int kk), .val (.int cp), .val (.int nn), .val (.int ii), .val (.ref b36), .val (.ref b39), .val (.ref b39), .val (.ref T42.heap.size)] [(.ref b39), (.ref b39)]))
  refine own_st (fun _ kq_ => Jvm.RoadKit.acmp (g := (mkF m 89 #[.val (.int cap), .val (.int size), .val (.int bb), .val (.int kk), .val (.int cp), .val (.int nn), .val (.int ii), .val (.ref b36), .val (.ref b39), .val (.ref b39), .val (.ref T42.heap.size)] [(.ref b39), (.ref b39)])) X43 hx rfl rfl rfl (pc0 := 89) (pc' := 94) (same := true) rfl (hb hby at_89) rfl (decide_eq_true rfl) (by decide) (by decide) kq_) ?_
  show OwnG _ _ _ _ _ _ _ (T43.setTop (mkF m 94 #[.val (.int cap), .val (.int size), .val (.int bb), .val (.int kk), .val (.int cp), .val (.int nn), .val (.int ii), .val (.ref b36), .val (.ref b39), .val (.ref b39), .val (.ref T42.heap.size)] []))
  refine own_st (fun _ kq_ => XS.aload X43.here hx rfl (hb hby at_94) rfl rfl kq_) ?_
  show OwnG _ _ _ _ _ _ _ (T43.setTop (mkF m 96 #[.val (.int cap), .val (.int size), .val (.int bb), .val (.int kk), .val (.int cp), .val (.int nn), .val (.int ii), .val (.ref b36), .val (.ref b39), .val (.ref b39), .val (.ref T42.heap.size)] [(.ref T42.heap.size)]))
  refine own_st (own_len X43 hx hZ rfl V43 (z := (Int32.ofNat (nz + 2))) rfl (g := (mkF m 96 #[.val (.int cap), .val (.int size), .val (.int bb), .val (.int kk), .val (.int cp), .val (.int nn), .val (.int ii), .val (.ref b36), .val (.ref b39), .val (.ref b39), .val (.ref T42.heap.size)] [(.ref T42.heap.size)])) rfl rfl (hb hby at_96)) ?_
  show OwnG _ _ _ _ _ _ _ (T43.setTop (mkF m 97 #[.val (.int cap), .val (.int size), .val (.int bb), .val (.int kk), .val (.int cp), .val (.int nn), .val (.int ii), .val (.ref b36), .val (.ref b39), .val (.ref b39), .val (.ref T42.heap.size)] [(.int (Int32.ofNat (nz + 2)))]))
  refine own_st (fun _ kq_ => XS.iload X43.here hx rfl (hb hby at_97) rfl kq_) ?_
  show OwnG _ _ _ _ _ _ _ (T43.setTop (mkF m 99 #[.val (.int cap), .val (.int size), .val (.int bb), .val (.int kk), .val (.int cp), .val (.int nn), .val (.int ii), .val (.ref b36), .val (.ref b39), .val (.ref b39), .val (.ref T42.heap.size)] [(.int nn), (.int (Int32.ofNat (nz + 2)))]))
  refine own_st (fun _ kq_ => XS.iconst X43.here hx rfl (hb hby at_99) kq_) ?_
  show OwnG _ _ _ _ _ _ _ (T43.setTop (mkF m 100 #[.val (.int cap), .val (.int size), .val (.int bb), .val (.int kk), .val (.int cp), .val (.int nn), .val (.int ii), .val (.ref b36), .val (.ref b39), .val (.ref b39), .val (.ref T42.heap.size)] [(.int (2 : Int32)), (.int nn), (.int (Int32.ofNat (nz + 2)))]))
  refine own_st (fun _ kq_ => XS.iadd X43.here hx rfl (hb hby at_100) rfl kq_) ?_
  show OwnG _ _ _ _ _ _ _ (T43.setTop (mkF m 101 #[.val (.int cap), .val (.int size), .val (.int bb), .val (.int kk), .val (.int cp), .val (.int nn), .val (.int ii), .val (.ref b36), .val (.ref b39), .val (.ref b39), .val (.ref T42.heap.size)] [(.int (nn + (2 : Int32))), (.int (Int32.ofNat (nz + 2)))]))
  refine own_st (fun _ kq_ => XS.icmpYes X43.here hx rfl (pc0 := 101) (pc' := 106) rfl (hb hby at_101) rfl (teq (own_of _ _ hn2).symm).1 (by decide) (by decide) kq_) ?_
  show OwnG _ _ _ _ _ _ _ (T43.setTop (mkF m 106 #[.val (.int cap), .val (.int size), .val (.int bb), .val (.int kk), .val (.int cp), .val (.int nn), .val (.int ii), .val (.ref b36), .val (.ref b39), .val (.ref b39), .val (.ref T42.heap.size)] []))
  refine own_st (fun _ kq_ => XS.aload X43.here hx rfl (hb hby at_106) rfl rfl kq_) ?_
  show OwnG _ _ _ _ _ _ _ (T43.setTop (mkF m 108 #[.val (.int cap), .val (.int size), .val (.int bb), .val (.int kk), .val (.int cp), .val (.int nn), .val (.int ii), .val (.ref b36), .val (.ref b39), .val (.ref b39), .val (.ref T42.heap.size)] [(.ref T42.heap.size)]))
  refine own_st (fun _ kq_ => XS.iload X43.here hx rfl (hb hby at_108) rfl kq_) ?_
  show OwnG _ _ _ _ _ _ _ (T43.setTop (mkF m 110 #[.val (.int cap), .val (.int size), .val (.int bb), .val (.int kk), .val (.int cp), .val (.int nn), .val (.int ii), .val (.ref b36), .val (.ref b39), .val (.ref b39), .val (.ref T42.heap.size)] [(.int nn), (.ref T42.heap.size)]))
  refine own_st (own_bl X43 hx hZ rfl V43 (nz) hnn (by omega) (congrArg Value.int qx42) (g := (mkF m 110 #[.val (.int cap), .val (.int size), .val (.int bb), .val (.int kk), .val (.int cp), .val (.int nn), .val (.int ii), .val (.ref b36), .val (.ref b39), .val (.ref b39), .val (.ref T42.heap.size)] [(.int nn), (.ref T42.heap.size)])) rfl rfl (hb hby at_110)) ?_
  show OwnG _ _ _ _ _ _ _ (T43.setTop (mkF m 111 #[.val (.int cap), .val (.int size), .val (.int bb), .val (.int kk), .val (.int cp), .val (.int nn), .val (.int ii), .val (.ref b36), .val (.ref b39), .val (.ref b39), .val (.ref T42.heap.size)] [(.int (13 : Int32))]))
  refine own_st (fun _ kq_ => XS.bipush X43.here hx rfl (hb hby at_111) kq_) ?_
  show OwnG _ _ _ _ _ _ _ (T43.setTop (mkF m 113 #[.val (.int cap), .val (.int size), .val (.int bb), .val (.int kk), .val (.int cp), .val (.int nn), .val (.int ii), .val (.ref b36), .val (.ref b39), .val (.ref b39), .val (.ref T42.heap.size)] [(.int (13 : Int32)), (.int (13 : Int32))]))
  refine own_st (fun _ kq_ => XS.icmpNo X43.here hx rfl (hb hby at_113) rfl (teq rfl).2 kq_) ?_
  show OwnG _ _ _ _ _ _ _ (T43.setTop (mkF m 116 #[.val (.int cap), .val (.int size), .val (.int bb), .val (.int kk), .val (.int cp), .val (.int nn), .val (.int ii), .val (.ref b36), .val (.ref b39), .val (.ref b39), .val (.ref T42.heap.size)] []))
  refine own_st (fun _ kq_ => XS.aload X43.here hx rfl (hb hby at_116) rfl rfl kq_) ?_
  show OwnG _ _ _ _ _ _ _ (T43.setTop (mkF m 118 #[.val (.int cap), .val (.int size), .val (.int bb), .val (.int kk), .val (.int cp), .val (.int nn), .val (.int ii), .val (.ref b36), .val (.ref b39), .val (.ref b39), .val (.ref T42.heap.size)] [(.ref T42.heap.size)]))
  refine own_st (fun _ kq_ => XS.iload X43.here hx rfl (hb hby at_118) rfl kq_) ?_
  show OwnG _ _ _ _ _ _ _ (T43.setTop (mkF m 120 #[.val (.int cap), .val (.int size), .val (.int bb), .val (.int kk), .val (.int cp), .val (.int nn), .val (.int ii), .val (.ref b36), .val (.ref b39), .val (.ref b39), .val (.ref T42.heap.size)] [(.int nn), (.ref T42.heap.size)]))
  refine own_st (fun _ kq_ => XS.iconst X43.here hx rfl (hb hby at_120) kq_) ?_
  show OwnG _ _ _ _ _ _ _ (T43.setTop (mkF m 121 #[.val (.int cap), .val (.int size), .val (.int bb), .val (.int kk), .val (.int cp), .val (.int nn), .val (.int ii), .val (.ref b36), .val (.ref b39), .val (.ref b39), .val (.ref T42.heap.size)] [(.int (1 : Int32)), (.int nn), (.ref T42.heap.size)]))
  refine own_st (fun _ kq_ => XS.iadd X43.here hx rfl (hb hby at_121) rfl kq_) ?_
  show OwnG _ _ _ _ _ _ _ (T43.setTop (mkF m 122 #[.val (.int cap), .val (.int size), .val (.int bb), .val (.int kk), .val (.int cp), .val (.int nn), .val (.int ii), .val (.ref b36), .val (.ref b39), .val (.ref b39), .val (.ref T42.heap.size)] [(.int (nn + (1 : Int32))), (.ref T42.heap.size)]))
  refine own_st (own_bl X43 hx hZ rfl V43 (nz + 1) hn1 (by omega) (congrArg Value.int qy42) (g := (mkF m 122 #[.val (.int cap), .val (.int size), .val (.int bb), .val (.int kk), .val (.int cp), .val (.int nn), .val (.int ii), .val (.ref b36), .val (.ref b39), .val (.ref b39), .val (.ref T42.heap.size)] [(.int (nn + (1 : Int32))), (.ref T42.heap.size)])) rfl rfl (hb hby at_122)) ?_
  show OwnG _ _ _ _ _ _ _ (T43.setTop (mkF m 123 #[.val (.int cap), .val (.int size), .val (.int bb), .val (.int kk), .val (.int cp), .val (.int nn), .val (.int ii), .val (.ref b36), .val (.ref b39), .val (.ref b39), .val (.ref T42.heap.size)] [(.int (10 : Int32))]))
  refine own_st (fun _ kq_ => XS.bipush X43.here hx rfl (hb hby at_123) kq_) ?_
  show OwnG _ _ _ _ _ _ _ (T43.setTop (mkF m 125 #[.val (.int cap), .val (.int size), .val (.int bb), .val (.int kk), .val (.int cp), .val (.int nn), .val (.int ii), .val (.ref b36), .val (.ref b39), .val (.ref b39), .val (.ref T42.heap.size)] [(.int (10 : Int32)), (.int (10 : Int32))]))
  refine own_st (fun _ kq_ => XS.icmpYes X43.here hx rfl (pc0 := 125) (pc' := 130) rfl (hb hby at_125) rfl (teq rfl).1 (by decide) (by decide) kq_) ?_
  show OwnG _ _ _ _ _ _ _ (T43.setTop (mkF m 130 #[.val (.int cap), .val (.int size), .val (.int bb), .val (.int kk), .val (.int cp), .val (.int nn), .val (.int ii), .val (.ref b36), .val (.ref b39), .val (.ref b39), .val (.ref T42.heap.size)] []))
  refine own_st (fun _ kq_ => XS.iload X43.here hx rfl (hb hby at_130) rfl kq_) ?_
  show OwnG _ _ _ _ _ _ _ (T43.setTop (mkF m 132 #[.val (.int cap), .val (.int size), .val (.int bb), .val (.int kk), .val (.int cp), .val (.int nn), .val (.int ii), .val (.ref b36), .val (.ref b39), .val (.ref b39), .val (.ref T42.heap.size)] [(.int ii)]))
  refine own_st (fun _ kq_ => XS.iload X43.here hx rfl (hb hby at_132) rfl kq_) ?_
  show OwnG _ _ _ _ _ _ _ (T43.setTop (mkF m 134 #[.val (.int cap), .val (.int size), .val (.int bb), .val (.int kk), .val (.int cp), .val (.int nn), .val (.int ii), .val (.ref b36), .val (.ref b39), .val (.ref b39), .val (.ref T42.heap.size)] [(.int nn), (.int ii)]))
  by_cases h134 : ii < nn
  · have hi9 : iz < nz := by have q := h134; rw [Int32.lt_iff_toInt_lt] at q; omega
    refine own_st (fun _ kq_ => XS.icmpNo X43.here hx rfl (hb hby at_134) rfl (tlt h134).2.1 kq_) ?_
    show OwnG _ _ _ _ _ _ _ (T43.setTop (mkF m 137 #[.val (.int cap), .val (.int size), .val (.int bb), .val (.int kk), .val (.int cp), .val (.int nn), .val (.int ii), .val (.ref b36), .val (.ref b39), .val (.ref b39), .val (.ref T42.heap.size)] []))
    refine own_st (fun _ kq_ => XS.aload X43.here hx rfl (hb hby at_137) rfl rfl kq_) ?_
    show OwnG _ _ _ _ _ _ _ (T43.setTop (mkF m 139 #[.val (.int cap), .val (.int size), .val (.int bb), .val (.int kk), .val (.int cp), .val (.int nn), .val (.int ii), .val (.ref b36), .val (.ref b39), .val (.ref b39), .val (.ref T42.heap.size)] [(.ref T42.heap.size)]))
    refine own_st (fun _ kq_ => XS.iload X43.here hx rfl (hb hby at_139) rfl kq_) ?_
    show OwnG _ _ _ _ _ _ _ (T43.setTop (mkF m 141 #[.val (.int cap), .val (.int size), .val (.int bb), .val (.int kk), .val (.int cp), .val (.int nn), .val (.int ii), .val (.ref b36), .val (.ref b39), .val (.ref b39), .val (.ref T42.heap.size)] [(.int ii), (.ref T42.heap.size)]))
    refine own_st (own_bl X43 hx hZ rfl V43 (iz) hii (by omega) rfl (g := (mkF m 141 #[.val (.int cap), .val (.int size), .val (.int bb), .val (.int kk), .val (.int cp), .val (.int nn), .val (.int ii), .val (.ref b36), .val (.ref b39), .val (.ref b39), .val (.ref T42.heap.size)] [(.int ii), (.ref T42.heap.size)])) rfl rfl (hb hby at_141)) ?_
    show OwnG _ _ _ _ _ _ _ (T43.setTop (mkF m 142 #[.val (.int cap), .val (.int size), .val (.int bb), .val (.int kk), .val (.int cp), .val (.int nn), .val (.int ii), .val (.ref b36), .val (.ref b39), .val (.ref b39), .val (.ref T42.heap.size)] [(.int (q42 iz))]))
    refine own_st (fun _ kq_ => XS.aload X43.here hx rfl (hb hby at_142) rfl rfl kq_) ?_
    show OwnG _ _ _ _ _ _ _ (T43.setTop (mkF m 144 #[.val (.int cap), .val (.int size), .val (.int bb), .val (.int kk), .val (.int cp), .val (.int nn), .val (.int ii), .val (.ref b36), .val (.ref b39), .val (.ref b39), .val (.ref T42.heap.size)] [(.ref b36), (.int (q42 iz))]))
    refine own_st (fun _ kq_ => XS.iload X43.here hx rfl (hb hby at_144) rfl kq_) ?_
    show OwnG _ _ _ _ _ _ _ (T43.setTop (mkF m 146 #[.val (.int cap), .val (.int size), .val (.int bb), .val (.int kk), .val (.int cp), .val (.int nn), .val (.int ii), .val (.ref b36), .val (.ref b39), .val (.ref b39), .val (.ref T42.heap.size)] [(.int ii), (.ref b36), (.int (q42 iz))]))
    refine own_st (own_bl X43 hx hZ rfl P43 (iz) hii hiz rfl (g := (mkF m 146 #[.val (.int cap), .val (.int size), .val (.int bb), .val (.int kk), .val (.int cp), .val (.int nn), .val (.int ii), .val (.ref b36), .val (.ref b39), .val (.ref b39), .val (.ref T42.heap.size)] [(.int ii), (.ref b36), (.int (q42 iz))])) rfl rfl (hb hby at_146)) ?_
    show OwnG _ _ _ _ _ _ _ (T43.setTop (mkF m 147 #[.val (.int cap), .val (.int size), .val (.int bb), .val (.int kk), .val (.int cp), .val (.int nn), .val (.int ii), .val (.ref b36), .val (.ref b39), .val (.ref b39), .val (.ref T42.heap.size)] [(.int (gg iz)), (.int (q42 iz))]))
    refine own_st (fun _ kq_ => XS.icmpYes X43.here hx rfl (pc0 := 147) (pc' := 152) rfl (hb hby at_147) rfl (teq (qq iz hi9)).1 (by decide) (by decide) kq_) ?_
    show OwnG _ _ _ _ _ _ _ (T43.setTop (mkF m 152 #[.val (.int cap), .val (.int size), .val (.int bb), .val (.int kk), .val (.int cp), .val (.int nn), .val (.int ii), .val (.ref b36), .val (.ref b39), .val (.ref b39), .val (.ref T42.heap.size)] []))
    refine own_st (fun _ kq_ => XS.iload X43.here hx rfl (hb hby at_152) rfl kq_) ?_
    show OwnG _ _ _ _ _ _ _ (T43.setTop (mkF m 154 #[.val (.int cap), .val (.int size), .val (.int bb), .val (.int kk), .val (.int cp), .val (.int nn), .val (.int ii), .val (.ref b36), .val (.ref b39), .val (.ref b39), .val (.ref T42.heap.size)] [(.int nn)]))
    refine own_st (fun _ kq_ => XS.bipush X43.here hx rfl (hb hby at_154) kq_) ?_
    show OwnG _ _ _ _ _ _ _ (T43.setTop (mkF m 156 #[.val (.int cap), .val (.int size), .val (.int bb), .val (.int kk), .val (.int cp), .val (.int nn), .val (.int ii), .val (.ref b36), .val (.ref b39), .val (.ref b39), .val (.ref T42.heap.size)] [(.int (29 : Int32)), (.int nn)]))
    by_cases h156 : nn = (29 : Int32)
    · have hz : nz = 29 := by rw [h156] at hnn; have : (29 : Int32).toInt = 29 := rfl; omega
      refine own_st (fun _ kq_ => XS.icmpNo X43.here hx rfl (hb hby at_156) rfl (teq h156).2 kq_) ?_
      show OwnG _ _ _ _ _ _ _ (T43.setTop (mkF m 159 #[.val (.int cap), .val (.int size), .val (.int bb), .val (.int kk), .val (.int cp), .val (.int nn), .val (.int ii), .val (.ref b36), .val (.ref b39), .val (.ref b39), .val (.ref T42.heap.size)] []))
      refine own_st (fun _ kq_ => XS.aload X43.here hx rfl (hb hby at_159) rfl rfl kq_) ?_
      show OwnG _ _ _ _ _ _ _ (T43.setTop (mkF m 161 #[.val (.int cap), .val (.int size), .val (.int bb), .val (.int kk), .val (.int cp), .val (.int nn), .val (.int ii), .val (.ref b36), .val (.ref b39), .val (.ref b39), .val (.ref T42.heap.size)] [(.ref T42.heap.size)]))
      refine own_st (fun _ kq_ => XS.bipush X43.here hx rfl (hb hby at_161) kq_) ?_
      show OwnG _ _ _ _ _ _ _ (T43.setTop (mkF m 163 #[.val (.int cap), .val (.int size), .val (.int bb), .val (.int kk), .val (.int cp), .val (.int nn), .val (.int ii), .val (.ref b36), .val (.ref b39), .val (.ref b39), .val (.ref T42.heap.size)] [(.int (28 : Int32)), (.ref T42.heap.size)]))
      refine own_st (own_bl X43 hx hZ rfl V43 (28) (by decide) (by omega) rfl (g := (mkF m 163 #[.val (.int cap), .val (.int size), .val (.int bb), .val (.int kk), .val (.int cp), .val (.int nn), .val (.int ii), .val (.ref b36), .val (.ref b39), .val (.ref b39), .val (.ref T42.heap.size)] [(.int (28 : Int32)), (.ref T42.heap.size)])) rfl rfl (hb hby at_163)) ?_
      show OwnG _ _ _ _ _ _ _ (T43.setTop (mkF m 164 #[.val (.int cap), .val (.int size), .val (.int bb), .val (.int kk), .val (.int cp), .val (.int nn), .val (.int ii), .val (.ref b36), .val (.ref b39), .val (.ref b39), .val (.ref T42.heap.size)] [(.int (q42 28))]))
      refine own_st (fun _ kq_ => XS.aload X43.here hx rfl (hb hby at_164) rfl rfl kq_) ?_
      show OwnG _ _ _ _ _ _ _ (T43.setTop (mkF m 166 #[.val (.int cap), .val (.int size), .val (.int bb), .val (.int kk), .val (.int cp), .val (.int nn), .val (.int ii), .val (.ref b36), .val (.ref b39), .val (.ref b39), .val (.ref T42.heap.size)] [(.ref b36), (.int (q42 28))]))
      refine own_st (fun _ kq_ => XS.bipush X43.here hx rfl (hb hby at_166) kq_) ?_
      show OwnG _ _ _ _ _ _ _ (T43.setTop (mkF m 168 #[.val (.int cap), .val (.int size), .val (.int bb), .val (.int kk), .val (.int cp), .val (.int nn), .val (.int ii), .val (.ref b36), .val (.ref b39), .val (.ref b39), .val (.ref T42.heap.size)] [(.int (28 : Int32)), (.ref b36), (.int (q42 28))]))
      refine own_st (own_bl X43 hx hZ rfl P43 (28) (by decide) (by decide) rfl (g := (mkF m 168 #[.val (.int cap), .val (.int size), .val (.int bb), .val (.int kk), .val (.int cp), .val (.int nn), .val (.int ii), .val (.ref b36), .val (.ref b39), .val (.ref b39), .val (.ref T42.heap.size)] [(.int (28 : Int32)), (.ref b36), (.int (q42 28))])) rfl rfl (hb hby at_168)) ?_
      show OwnG _ _ _ _ _ _ _ (T43.setTop (mkF m 169 #[.val (.int cap), .val (.int size), .val (.int bb), .val (.int kk), .val (.int cp), .val (.int nn), .val (.int ii), .val (.ref b36), .val (.ref b39), .val (.ref b39), .val (.ref T42.heap.size)] [(.int (gg 28)), (.int (q42 28))]))
      refine own_st (fun _ kq_ => XS.icmpYes X43.here hx rfl (pc0 := 169) (pc' := 174) rfl (hb hby at_169) rfl (teq (qq 28 (by omega))).1 (by decide) (by decide) kq_) ?_
      show OwnG _ _ _ _ _ _ _ (T43.setTop (mkF m 174 #[.val (.int cap), .val (.int size), .val (.int bb), .val (.int kk), .val (.int cp), .val (.int nn), .val (.int ii), .val (.ref b36), .val (.ref b39), .val (.ref b39), .val (.ref T42.heap.size)] []))
      refine own_st (fun _ kq_ => XS.iconst X43.here hx rfl (hb hby at_174) kq_) ?_
      show OwnG _ _ _ _ _ _ _ (T43.setTop (mkF m 175 #[.val (.int cap), .val (.int size), .val (.int bb), .val (.int kk), .val (.int cp), .val (.int nn), .val (.int ii), .val (.ref b36), .val (.ref b39), .val (.ref b39), .val (.ref T42.heap.size)] [(.int (1 : Int32))]))
      exact own_retN X43 hx hrt hlk (t := .boolean) (by simp) (hb hby at_175) (by decide) (by decide) (by show _ ∧ _; exact ⟨rfl, N43⟩)
    · skip
      refine own_st (fun _ kq_ => XS.icmpYes X43.here hx rfl (pc0 := 156) (pc' := 174) rfl (hb hby at_156) rfl (feq h156).2 (by decide) (by decide) kq_) ?_
      show OwnG _ _ _ _ _ _ _ (T43.setTop (mkF m 174 #[.val (.int cap), .val (.int size), .val (.int bb), .val (.int kk), .val (.int cp), .val (.int nn), .val (.int ii), .val (.ref b36), .val (.ref b39), .val (.ref b39), .val (.ref T42.heap.size)] []))
      refine own_st (fun _ kq_ => XS.iconst X43.here hx rfl (hb hby at_174) kq_) ?_
      show OwnG _ _ _ _ _ _ _ (T43.setTop (mkF m 175 #[.val (.int cap), .val (.int size), .val (.int bb), .val (.int kk), .val (.int cp), .val (.int nn), .val (.int ii), .val (.ref b36), .val (.ref b39), .val (.ref b39), .val (.ref T42.heap.size)] [(.int (1 : Int32))]))
      exact own_retN X43 hx hrt hlk (t := .boolean) (by simp) (hb hby at_175) (by decide) (by decide) (by show _ ∧ _; exact ⟨rfl, N43⟩)
  · skip
    refine own_st (fun _ kq_ => XS.icmpYes X43.here hx rfl (pc0 := 134) (pc' := 152) rfl (hb hby at_134) rfl (flt h134).2.1 (by decide) (by decide) kq_) ?_
    show OwnG _ _ _ _ _ _ _ (T43.setTop (mkF m 152 #[.val (.int cap), .val (.int size), .val (.int bb), .val (.int kk), .val (.int cp), .val (.int nn), .val (.int ii), .val (.ref b36), .val (.ref b39), .val (.ref b39), .val (.ref T42.heap.size)] []))
    refine own_st (fun _ kq_ => XS.iload X43.here hx rfl (hb hby at_152) rfl kq_) ?_
    show OwnG _ _ _ _ _ _ _ (T43.setTop (mkF m 154 #[.val (.int cap), .val (.int size), .val (.int bb), .val (.int kk), .val (.int cp), .val (.int nn), .val (.int ii), .val (.ref b36), .val (.ref b39), .val (.ref b39), .val (.ref T42.heap.size)] [(.int nn)]))
    refine own_st (fun _ kq_ => XS.bipush X43.here hx rfl (hb hby at_154) kq_) ?_
    show OwnG _ _ _ _ _ _ _ (T43.setTop (mkF m 156 #[.val (.int cap), .val (.int size), .val (.int bb), .val (.int kk), .val (.int cp), .val (.int nn), .val (.int ii), .val (.ref b36), .val (.ref b39), .val (.ref b39), .val (.ref T42.heap.size)] [(.int (29 : Int32)), (.int nn)]))
    by_cases h156 : nn = (29 : Int32)
    · have hz : nz = 29 := by rw [h156] at hnn; have : (29 : Int32).toInt = 29 := rfl; omega
      refine own_st (fun _ kq_ => XS.icmpNo X43.here hx rfl (hb hby at_156) rfl (teq h156).2 kq_) ?_
      show OwnG _ _ _ _ _ _ _ (T43.setTop (mkF m 159 #[.val (.int cap), .val (.int size), .val (.int bb), .val (.int kk), .val (.int cp), .val (.int nn), .val (.int ii), .val (.ref b36), .val (.ref b39), .val (.ref b39), .val (.ref T42.heap.size)] []))
      refine own_st (fun _ kq_ => XS.aload X43.here hx rfl (hb hby at_159) rfl rfl kq_) ?_
      show OwnG _ _ _ _ _ _ _ (T43.setTop (mkF m 161 #[.val (.int cap), .val (.int size), .val (.int bb), .val (.int kk), .val (.int cp), .val (.int nn), .val (.int ii), .val (.ref b36), .val (.ref b39), .val (.ref b39), .val (.ref T42.heap.size)] [(.ref T42.heap.size)]))
      refine own_st (fun _ kq_ => XS.bipush X43.here hx rfl (hb hby at_161) kq_) ?_
      show OwnG _ _ _ _ _ _ _ (T43.setTop (mkF m 163 #[.val (.int cap), .val (.int size), .val (.int bb), .val (.int kk), .val (.int cp), .val (.int nn), .val (.int ii), .val (.ref b36), .val (.ref b39), .val (.ref b39), .val (.ref T42.heap.size)] [(.int (28 : Int32)), (.ref T42.heap.size)]))
      refine own_st (own_bl X43 hx hZ rfl V43 (28) (by decide) (by omega) rfl (g := (mkF m 163 #[.val (.int cap), .val (.int size), .val (.int bb), .val (.int kk), .val (.int cp), .val (.int nn), .val (.int ii), .val (.ref b36), .val (.ref b39), .val (.ref b39), .val (.ref T42.heap.size)] [(.int (28 : Int32)), (.ref T42.heap.size)])) rfl rfl (hb hby at_163)) ?_
      show OwnG _ _ _ _ _ _ _ (T43.setTop (mkF m 164 #[.val (.int cap), .val (.int size), .val (.int bb), .val (.int kk), .val (.int cp), .val (.int nn), .val (.int ii), .val (.ref b36), .val (.ref b39), .val (.ref b39), .val (.ref T42.heap.size)] [(.int (q42 28))]))
      refine own_st (fun _ kq_ => XS.aload X43.here hx rfl (hb hby at_164) rfl rfl kq_) ?_
      show OwnG _ _ _ _ _ _ _ (T43.setTop (mkF m 166 #[.val (.int cap), .val (.int size), .val (.int bb), .val (.int kk), .val (.int cp), .val (.int nn), .val (.int ii), .val (.ref b36), .val (.ref b39), .val (.ref b39), .val (.ref T42.heap.size)] [(.ref b36), (.int (q42 28))]))
      refine own_st (fun _ kq_ => XS.bipush X43.here hx rfl (hb hby at_166) kq_) ?_
      show OwnG _ _ _ _ _ _ _ (T43.setTop (mkF m 168 #[.val (.int cap), .val (.int size), .val (.int bb), .val (.int kk), .val (.int cp), .val (.int nn), .val (.int ii), .val (.ref b36), .val (.ref b39), .val (.ref b39), .val (.ref T42.heap.size)] [(.int (28 : Int32)), (.ref b36), (.int (q42 28))]))
      refine own_st (own_bl X43 hx hZ rfl P43 (28) (by decide) (by decide) rfl (g := (mkF m 168 #[.val (.int cap), .val (.int size), .val (.int bb), .val (.int kk), .val (.int cp), .val (.int nn), .val (.int ii), .val (.ref b36), .val (.ref b39), .val (.ref b39), .val (.ref T42.heap.size)] [(.int (28 : Int32)), (.ref b36), (.int (q42 28))])) rfl rfl (hb hby at_168)) ?_
      show OwnG _ _ _ _ _ _ _ (T43.setTop (mkF m 169 #[.val (.int cap), .val (.int size), .val (.int bb), .val (.int kk), .val (.int cp), .val (.int nn), .val (.int ii), .val (.ref b36), .val (.ref b39), .val (.ref b39), .val (.ref T42.heap.size)] [(.int (gg 28)), (.int (q42 28))]))
      refine own_st (fun _ kq_ => XS.icmpYes X43.here hx rfl (pc0 := 169) (pc' := 174) rfl (hb hby at_169) rfl (teq (qq 28 (by omega))).1 (by decide) (by decide) kq_) ?_
      show OwnG _ _ _ _ _ _ _ (T43.setTop (mkF m 174 #[.val (.int cap), .val (.int size), .val (.int bb), .val (.int kk), .val (.int cp), .val (.int nn), .val (.int ii), .val (.ref b36), .val (.ref b39), .val (.ref b39), .val (.ref T42.heap.size)] []))
      refine own_st (fun _ kq_ => XS.iconst X43.here hx rfl (hb hby at_174) kq_) ?_
      show OwnG _ _ _ _ _ _ _ (T43.setTop (mkF m 175 #[.val (.int cap), .val (.int size), .val (.int bb), .val (.int kk), .val (.int cp), .val (.int nn), .val (.int ii), .val (.ref b36), .val (.ref b39), .val (.ref b39), .val (.ref T42.heap.size)] [(.int (1 : Int32))]))
      exact own_retN X43 hx hrt hlk (t := .boolean) (by simp) (hb hby at_175) (by decide) (by decide) (by show _ ∧ _; exact ⟨rfl, N43⟩)
    · skip
      refine own_st (fun _ kq_ => XS.icmpYes X43.here hx rfl (pc0 := 156) (pc' := 174) rfl (hb hby at_156) rfl (feq h156).2 (by decide) (by decide) kq_) ?_
      show OwnG _ _ _ _ _ _ _ (T43.setTop (mkF m 174 #[.val (.int cap), .val (.int size), .val (.int bb), .val (.int kk), .val (.int cp), .val (.int nn), .val (.int ii), .val (.ref b36), .val (.ref b39), .val (.ref b39), .val (.ref T42.heap.size)] []))
      refine own_st (fun _ kq_ => XS.iconst X43.here hx rfl (hb hby at_174) kq_) ?_
      show OwnG _ _ _ _ _ _ _ (T43.setTop (mkF m 175 #[.val (.int cap), .val (.int size), .val (.int bb), .val (.int kk), .val (.int cp), .val (.int nn), .val (.int ii), .val (.ref b36), .val (.ref b39), .val (.ref b39), .val (.ref T42.heap.size)] [(.int (1 : Int32))]))
      exact own_retN X43 hx hrt hlk (t := .boolean) (by simp) (hb hby at_175) (by decide) (by decide) (by show _ ∧ _; exact ⟨rfl, N43⟩)
set_option maxRecDepth 65536 in
set_option maxHeartbeats 40000000 in
theorem comes_1 {Post : Tables → Env → Array Value → State → Outcome → State → Prop} (hpost : ∀ tb e args s v u, (limb_1_1.after args s (.returned v) u = true ∧ limb_1_2.after args s (.returned v) u = true ∧ True) → FrameEnd s (.returned v) u (Jvm.fieldLocs frame_1_writes args s ++ Jvm.arrayLocs frame_1_arrays args s ++ Jvm.staticLocs frame_1_statics s) 24 384 → Post tb e args s (.returned v) u) :
    ArmFor flags0 classFile x code maxLocals ret World_1 tables_1 room_1 Calls_1 rest_1 Pre_1 Post := by
  intro l hfl _ _ p e ha hc hk s m args below hf hA hF happ hP
  obtain ⟨hcalls, hrest, hpre⟩ := hP
  obtain ⟨-, -, -, hnamed, -, -, -, hat⟩ := (Spec.applies_iff hf).mp happ
  obtain ⟨hg, hn⟩ := and_e (Cond.before_iff.mp (show (Jvm.Cond.and given_1 narrow_1).before args s = true from hpre))
  obtain ⟨gc, r0⟩ := and_e hg
  obtain ⟨g0, r1⟩ := and_e r0
  obtain ⟨g1, r2⟩ := and_e r1
  obtain ⟨g2, r3⟩ := and_e r2
  obtain ⟨w0, w1, w2, w3, rfl⟩ : ∃ w0 w1 w2 w3 : Value, args = #[w0, w1, w2, w3] := by
    have hs : args.size = 4 := by simpa [Cond.value, given_1] using gc
    obtain ⟨L⟩ := args
    match L, hs with
    | [w0, w1, w2, w3], _ => exact ⟨w0, w1, w2, w3, rfl⟩
  have hw := fun d (hd : d ∈ tables_1) => atoms_spec (ws := Jvm.Cond.code x code maxLocals ret :: tables_1) hat d (List.mem_cons_of_mem _ hd)
  obtain ⟨i0, ei0⟩ := is_v g0
  obtain rfl : w0 = (.int i0) := Option.some.inj ei0
  obtain ⟨i1, ei1⟩ := is_v g1
  obtain rfl : w1 = (.int i1) := Option.some.inj ei1
  obtain ⟨i2, ei2⟩ := is_v g2
  obtain rfl : w2 = (.int i2) := Option.some.inj ei2
  obtain ⟨i3, ei3⟩ := is_v r3
  obtain rfl : w3 = (.int i3) := Option.some.inj ei3
  obtain ⟨n, o, h1, h2, h3, _, L, rfl, ⟨rfl, N⟩, hq⟩ := rm0 l s _ hw tables_1 i0 i1 i2 i3 s.heap s.heap.size (Nat.le_refl _) p e ha hc hk s m _ below hf ((Spec.applies_iff_loose hf).mp happ).1 ⟨rfl, State.Warmed39.refl s, rfl⟩ trivial
  refine ⟨n, _, h1, h2, h3, hpost _ _ _ _ _ _ ⟨Cond.after_iff.mpr rfl, Cond.after_iff.mpr (eq_i res_at (Term.int_eval (1)) rfl), trivial⟩ ⟨hq.1, hq.2.1, (hq.2.2.sift fun y hy => Or.inr (N y hy)).mono (by decide) (by decide)⟩⟩
theorem main_1_1 : Claimed_1_1 := comes_1 fun _ _ _ _ _ _ h hF => ⟨h.1, hF⟩
theorem main_1_2 : Claimed_1_2 := comes_1 fun _ _ _ _ _ _ h hF => ⟨h.2.1, hF⟩
end Jvm.Pilot.@@N@@
namespace Jvm.Pilot.@@N@@
open Jvm Jvm.ClassFile Sem Op Lib Jvm.Free Jvm.Stand Jvm.Pilot.@@N@@.Jvm.D
/-! MADE BY PROGRAM (witnessworld.py) out of the Statement's table words and the real class files: 12 classes; the members and pool entries that the words name. The judged class is class 1, her method 1. -/
namespace start1
open Jvm.ClassFile
def u (s : String) : CpInfo := .utf8 (stringToUtf16 s)
/-- a pool by its gaps: so many unusable entries, then the entry; so many at the end -/
def gap : Nat → List CpInfo → List CpInfo
  | 0, r => r
  | n + 1, r => .unusable :: gap n r
def poolList (es : List (Nat × CpInfo)) (last : Nat) : List CpInfo := es.foldr (fun e r => gap e.1 (e.2 :: r)) (gap last [])
def pool (es : List (Nat × CpInfo)) (last : Nat) : Array CpInfo := ⟨poolList es last⟩
def fileOf (pool : Array CpInfo) (this : Nat) (attrs : Array Attribute := #[]) (ms : Array MethodInfo := #[]) (fl : Nat := 33) (sup : Nat := 0) (ifs : Array Nat := #[]) (fds : Array FieldInfo := #[]) : ClassFile where
  minorVersion := 0
  majorVersion := 65
  constantPool := pool
  accessFlags := fl
  thisClass := this
  superClass := sup
  interfaces := ifs
  fields := fds
  methods := ms
  attributes := attrs
def plain (name : String) (sup : Option ClassId) : Class where
  name := name
  kind := .ordinary
  loader := none
  accessFlags := 33
  super := sup
  interfaces := #[]
  cf := none
  fields := #[]
  methods := #[]
  instanceTypes := #[]
  staticTypes := #[]
  resolved := #[]
  callSites := []
  init := .initialized
  statics := none
  mirror := none

def pool0 : Array CpInfo := pool [(5, u "<init>"), (0, u "()V"), (1, .class_ 10), (1, u "java/lang/Object"), (85, u "clone"), (0, u "()Ljava/lang/Object;")] 26

def k0c0 : Code := { maxStack := 0, maxLocals := 1, code := object_method_1_code, exceptionTable := #[], attributes := #[] }
def k0m0 : Method := { name := "<init>", desc := "()V", sig := { parameters := [], returnType := none }, accessFlags := 1, code := some k0c0 }
def k0m1 : Method := { name := "clone", desc := "()Ljava/lang/Object;", sig := { parameters := [], returnType := some (.object "java/lang/Object") }, accessFlags := 260, code := none }
/-- java/lang/Object -/
def k0 : Class := { plain "java/lang/Object" none with
  accessFlags := 33
  interfaces := #[]
  cf := some (fileOf pool0 8 #[] #[{ accessFlags := 1, nameIndex := 5, descriptorIndex := 6, attributes := #[] }, { accessFlags := 260, nameIndex := 96, descriptorIndex := 97, attributes := #[] }] 33 0 #[] #[])
  fields := #[]
  methods := #[k0m0, k0m1]
  instanceTypes := #[]
  staticTypes := #[]
  resolved := Array.replicate 124 none
  statics := none }

def pool1 : Array CpInfo := pool [(2, .class_ 4), (1, u "java/lang/Object"), (0, u "<init>"), (0, u "()V"), (0, .integer 2147483647), (0, .class_ 9), (0, u "com/example/dwell/dwell/io/ByteWriter"), (0, .methodref 8 11), (0, .nameAndType 5 12), (0, u "(I)V"), (0, .methodref 8 14), (0, .nameAndType 15 16), (0, u "put"), (0, u "([BII)Lcom/example/dwell/dwell/io/ByteWriter;"), (0, .methodref 8 18), (0, .nameAndType 19 20), (0, u "putCrLf"), (0, u "()Lcom/example/dwell/dwell/io/ByteWriter;"), (0, .methodref 8 22), (0, .nameAndType 23 24), (0, u "toArray"), (0, u "()[B"), (0, .class_ 26), (0, u "com/example/dwell/dwell/io/ByteWriterPutCrLfPinLaw"), (2, u "law"), (0, u "(IIII)Z")] 5

def k1m0 : Method := { name := "<init>", desc := "()V", sig := { parameters := [], returnType := none }, accessFlags := 1, code := none }
def k1c1 : Code := { maxStack := 4, maxLocals := 11, code := code, exceptionTable := #[], attributes := #[] }
def k1m1 : Method := { name := "law", desc := "(IIII)Z", sig := { parameters := [.int, .int, .int, .int], returnType := some .boolean }, accessFlags := 9, code := some k1c1 }
/-- com/example/dwell/dwell/io/ByteWriterPutCrLfPinLaw -/
def k1 : Class := { plain "com/example/dwell/dwell/io/ByteWriterPutCrLfPinLaw" (some 0) with
  accessFlags := 49
  interfaces := #[]
  cf := some (fileOf pool1 25 #[] #[{ accessFlags := 1, nameIndex := 5, descriptorIndex := 6, attributes := #[] }, { accessFlags := 9, nameIndex := 29, descriptorIndex := 30, attributes := #[] }] 49 2 #[] #[])
  fields := #[]
  methods := #[k1m0, k1m1]
  instanceTypes := #[]
  staticTypes := #[]
  resolved := Array.replicate 36 none
  statics := none }

def pool2 : Array CpInfo := pool [(1, .methodref 2 3), (0, .class_ 4), (0, .nameAndType 5 6), (0, u "java/lang/Object"), (0, u "<init>"), (0, u "()V"), (0, .class_ 8), (0, u "com/example/dwell/dwell/io/ByteWriter"), (0, .methodref 10 11), (0, .class_ 12), (0, .nameAndType 13 14), (0, u "java/lang/Math"), (0, u "max"), (0, u "(II)I"), (0, .fieldref 7 16), (0, .nameAndType 17 18), (0, u "bytes"), (0, u "[B"), (0, .methodref 7 20), (0, .nameAndType 21 22), (0, u "makeRoom"), (0, u "(I)V"), (0, .fieldref 7 24), (0, .nameAndType 25 26), (0, u "length"), (0, u "I"), (2, u "put"), (0, u "([BII)Lcom/example/dwell/dwell/io/ByteWriter;"), (0, .methodref 32 33), (0, .class_ 34), (0, .nameAndType 35 36), (0, u "java/lang/System"), (0, u "arraycopy"), (0, u "(Ljava/lang/Object;ILjava/lang/Object;II)V"), (35, .methodref 73 74), (0, .class_ 75), (0, .nameAndType 76 77), (0, u "java/util/Arrays"), (0, u "copyOf"), (0, u "([BI)[B"), (0, u "MIN_CAPACITY"), (8, u "putCrLf"), (0, u "()Lcom/example/dwell/dwell/io/ByteWriter;"), (2, u "toArray"), (0, u "()[B")] 2

def k2c0 : Code := { maxStack := 3, maxLocals := 2, code := prog_18_method_1_code, exceptionTable := #[], attributes := #[] }
def k2m0 : Method := { name := "<init>", desc := "(I)V", sig := { parameters := [.int], returnType := none }, accessFlags := 1, code := some k2c0 }
def k2c1 : Code := { maxStack := 5, maxLocals := 5, code := prog_18_method_4_code, exceptionTable := #[], attributes := #[] }
def k2m1 : Method := { name := "put", desc := "([BII)Lcom/example/dwell/dwell/io/ByteWriter;", sig := { parameters := [(.array .byte), .int, .int], returnType := some (.object "com/example/dwell/dwell/io/ByteWriter") }, accessFlags := 1, code := some k2c1 }
def k2c2 : Code := { maxStack := 5, maxLocals := 1, code := prog_18_method_7_code, exceptionTable := #[], attributes := #[] }
def k2m2 : Method := { name := "putCrLf", desc := "()Lcom/example/dwell/dwell/io/ByteWriter;", sig := { parameters := [], returnType := some (.object "com/example/dwell/dwell/io/ByteWriter") }, accessFlags := 1, code := some k2c2 }
def k2c3 : Code := { maxStack := 2, maxLocals := 1, code := prog_18_method_9_code, exceptionTable := #[], attributes := #[] }
def k2m3 : Method := { name := "toArray", desc := "()[B", sig := { parameters := [], returnType := some (.array .byte) }, accessFlags := 1, code := some k2c3 }
def k2c4 : Code := { maxStack := 5, maxLocals := 2, code := prog_18_method_10_code, exceptionTable := #[], attributes := #[] }
def k2m4 : Method := { name := "makeRoom", desc := "(I)V", sig := { parameters := [.int], returnType := none }, accessFlags := 2, code := some k2c4 }
/-- com/example/dwell/dwell/io/ByteWriter -/
def k2 : Class := { plain "com/example/dwell/dwell/io/ByteWriter" (some 0) with
  accessFlags := 49
  interfaces := #[]
  cf := some (fileOf pool2 7 #[] #[{ accessFlags := 1, nameIndex := 5, descriptorIndex := 22, attributes := #[] }, { accessFlags := 1, nameIndex := 29, descriptorIndex := 30, attributes := #[] }, { accessFlags := 1, nameIndex := 87, descriptorIndex := 88, attributes := #[] }, { accessFlags := 1, nameIndex := 91, descriptorIndex := 92, attributes := #[] }, { accessFlags := 2, nameIndex := 21, descriptorIndex := 22, attributes := #[] }] 49 2 #[] #[{ accessFlags := 26, nameIndex := 78, descriptorIndex := 26, attributes := #[] }, { accessFlags := 2, nameIndex := 17, descriptorIndex := 18, attributes := #[] }, { accessFlags := 2, nameIndex := 25, descriptorIndex := 26, attributes := #[] }])
  fields := #[{ name := "MIN_CAPACITY", type := .int, accessFlags := 26, slot := 0, constantValue := 0 }, { name := "bytes", type := (.array .byte), accessFlags := 2, slot := 0, constantValue := 0 }, { name := "length", type := .int, accessFlags := 2, slot := 1, constantValue := 0 }]
  methods := #[k2m0, k2m1, k2m2, k2m3, k2m4]
  instanceTypes := #[(.array .byte), .int]
  staticTypes := #[.int]
  resolved := Array.replicate 95 none
  statics := none }

def pool3 : Array CpInfo := pool [(1, .class_ 2), (0, u "java/lang/Math"), (1, .class_ 6), (1, u "java/lang/Object"), (0, u "<init>"), (0, u "()V"), (89, .class_ 100), (1, u "java/lang/Math$RandomNumberGeneratorHolder"), (71, u "negativeZeroFloatBits"), (0, u "J"), (2, u "negativeZeroDoubleBits"), (21, u "max"), (2, u "min"), (43, u "$assertionsDisabled"), (0, u "Z"), (88, u "(II)I"), (2, u "twoToTheDoubleScaleDown"), (0, u "D"), (4, u "twoToTheDoubleScaleUp"), (9, u "E"), (3, u "PI"), (2, u "TAU"), (2, u "DEGREES_TO_RADIANS"), (0, u "RADIANS_TO_DEGREES")] 94

def k3m0 : Method := { name := "<init>", desc := "()V", sig := { parameters := [], returnType := none }, accessFlags := 2, code := none }
def k3c1 : Code := { maxStack := 2, maxLocals := 2, code := jdk_29_method_65_code, exceptionTable := #[], attributes := #[] }
def k3m1 : Method := { name := "max", desc := "(II)I", sig := { parameters := [.int, .int], returnType := some .int }, accessFlags := 9, code := some k3c1 }
def k3c2 : Code := { maxStack := 2, maxLocals := 2, code := jdk_29_method_69_code, exceptionTable := #[], attributes := #[] }
def k3m2 : Method := { name := "min", desc := "(II)I", sig := { parameters := [.int, .int], returnType := some .int }, accessFlags := 9, code := some k3c2 }
/-- java/lang/Math -/
def k3 : Class := { plain "java/lang/Math" (some 0) with
  accessFlags := 49
  interfaces := #[]
  cf := some (fileOf pool3 1 #[.nestMembers #[98]] #[{ accessFlags := 2, nameIndex := 7, descriptorIndex := 8, attributes := #[] }, { accessFlags := 9, nameIndex := 198, descriptorIndex := 335, attributes := #[] }, { accessFlags := 9, nameIndex := 201, descriptorIndex := 335, attributes := #[] }] 49 4 #[] #[{ accessFlags := 25, nameIndex := 354, descriptorIndex := 339, attributes := #[] }, { accessFlags := 25, nameIndex := 358, descriptorIndex := 339, attributes := #[] }, { accessFlags := 25, nameIndex := 361, descriptorIndex := 339, attributes := #[] }, { accessFlags := 26, nameIndex := 364, descriptorIndex := 339, attributes := #[] }, { accessFlags := 26, nameIndex := 365, descriptorIndex := 339, attributes := #[] }, { accessFlags := 26, nameIndex := 172, descriptorIndex := 173, attributes := #[] }, { accessFlags := 26, nameIndex := 176, descriptorIndex := 173, attributes := #[] }, { accessFlags := 8, nameIndex := 344, descriptorIndex := 339, attributes := #[] }, { accessFlags := 8, nameIndex := 338, descriptorIndex := 339, attributes := #[] }, { accessFlags := 4120, nameIndex := 245, descriptorIndex := 246, attributes := #[] }])
  fields := #[{ name := "E", type := .double, accessFlags := 25, slot := 0, constantValue := 0 }, { name := "PI", type := .double, accessFlags := 25, slot := 1, constantValue := 0 }, { name := "TAU", type := .double, accessFlags := 25, slot := 2, constantValue := 0 }, { name := "DEGREES_TO_RADIANS", type := .double, accessFlags := 26, slot := 3, constantValue := 0 }, { name := "RADIANS_TO_DEGREES", type := .double, accessFlags := 26, slot := 4, constantValue := 0 }, { name := "negativeZeroFloatBits", type := .long, accessFlags := 26, slot := 5, constantValue := 0 }, { name := "negativeZeroDoubleBits", type := .long, accessFlags := 26, slot := 6, constantValue := 0 }, { name := "twoToTheDoubleScaleUp", type := .double, accessFlags := 8, slot := 7, constantValue := 0 }, { name := "twoToTheDoubleScaleDown", type := .double, accessFlags := 8, slot := 8, constantValue := 0 }, { name := "$assertionsDisabled", type := .boolean, accessFlags := 4120, slot := 9, constantValue := 0 }]
  methods := #[k3m0, k3m1, k3m2]
  instanceTypes := #[]
  staticTypes := #[.double, .double, .double, .double, .double, .long, .long, .double, .double, .boolean]
  resolved := Array.replicate 460 none
  statics := none }

def pool4 : Array CpInfo := pool [(2, .class_ 4), (1, u "java/lang/Object"), (0, u "<init>"), (0, u "()V"), (1, .class_ 10), (1, u "java/lang/System"), (0, u "allowSecurityManager"), (0, u "I"), (16, u "cons"), (0, u "Ljava/io/Console;"), (77, .class_ 110), (1, u "java/lang/System$CallersHolder"), (43, u "initialErrStream"), (0, u "Ljava/io/PrintStream;"), (19, u "security"), (0, u "Ljava/lang/SecurityManager;"), (31, .class_ 209), (0, u "java/lang/System$1"), (7, u "props"), (0, u "Ljava/util/Properties;"), (2, u "lineSeparator"), (0, u "Ljava/lang/String;"), (96, .class_ 321), (1, u "java/lang/System$LoggerFinder"), (5, .class_ 328), (0, u "java/lang/System$Logger"), (67, u "err"), (2, u "out"), (91, u "notSupportedJnuEncoding"), (15, u "in"), (17, u "initialIn"), (0, u "Ljava/io/InputStream;"), (35, u "bootLayer"), (0, u "Ljava/lang/ModuleLayer;"), (99, .class_ 664), (0, u "java/lang/System$2"), (9, u "NEVER"), (2, u "MAYBE"), (49, u "arraycopy"), (0, u "(Ljava/lang/Object;ILjava/lang/Object;II)V"), (72, .class_ 802), (0, u "java/lang/System$Logger$Level")] 31

def k4m0 : Method := { name := "<init>", desc := "()V", sig := { parameters := [], returnType := none }, accessFlags := 2, code := none }
def k4m1 : Method := { name := "arraycopy", desc := "(Ljava/lang/Object;ILjava/lang/Object;II)V", sig := { parameters := [(.object "java/lang/Object"), .int, (.object "java/lang/Object"), .int, .int], returnType := none }, accessFlags := 265, code := none }
/-- java/lang/System -/
def k4 : Class := { plain "java/lang/System" (some 0) with
  accessFlags := 49
  interfaces := #[]
  cf := some (fileOf pool4 8 #[.nestMembers #[319, 327, 801, 108, 663, 208]] #[{ accessFlags := 2, nameIndex := 5, descriptorIndex := 6, attributes := #[] }, { accessFlags := 265, nameIndex := 727, descriptorIndex := 728, attributes := #[] }] 49 2 #[] #[{ accessFlags := 25, nameIndex := 507, descriptorIndex := 526, attributes := #[] }, { accessFlags := 25, nameIndex := 399, descriptorIndex := 155, attributes := #[] }, { accessFlags := 25, nameIndex := 396, descriptorIndex := 155, attributes := #[] }, { accessFlags := 10, nameIndex := 525, descriptorIndex := 526, attributes := #[] }, { accessFlags := 26, nameIndex := 674, descriptorIndex := 12, attributes := #[] }, { accessFlags := 26, nameIndex := 677, descriptorIndex := 12, attributes := #[] }, { accessFlags := 10, nameIndex := 11, descriptorIndex := 12, attributes := #[] }, { accessFlags := 74, nameIndex := 175, descriptorIndex := 176, attributes := #[] }, { accessFlags := 10, nameIndex := 491, descriptorIndex := 222, attributes := #[] }, { accessFlags := 74, nameIndex := 29, descriptorIndex := 30, attributes := #[] }, { accessFlags := 74, nameIndex := 154, descriptorIndex := 155, attributes := #[] }, { accessFlags := 10, nameIndex := 217, descriptorIndex := 218, attributes := #[] }, { accessFlags := 10, nameIndex := 221, descriptorIndex := 222, attributes := #[] }, { accessFlags := 8, nameIndex := 562, descriptorIndex := 563, attributes := #[] }])
  fields := #[{ name := "in", type := (.object "java/io/InputStream"), accessFlags := 25, slot := 0, constantValue := 0 }, { name := "out", type := (.object "java/io/PrintStream"), accessFlags := 25, slot := 1, constantValue := 0 }, { name := "err", type := (.object "java/io/PrintStream"), accessFlags := 25, slot := 2, constantValue := 0 }, { name := "initialIn", type := (.object "java/io/InputStream"), accessFlags := 10, slot := 3, constantValue := 0 }, { name := "NEVER", type := .int, accessFlags := 26, slot := 4, constantValue := 0 }, { name := "MAYBE", type := .int, accessFlags := 26, slot := 5, constantValue := 0 }, { name := "allowSecurityManager", type := .int, accessFlags := 10, slot := 6, constantValue := 0 }, { name := "security", type := (.object "java/lang/SecurityManager"), accessFlags := 74, slot := 7, constantValue := 0 }, { name := "notSupportedJnuEncoding", type := (.object "java/lang/String"), accessFlags := 10, slot := 8, constantValue := 0 }, { name := "cons", type := (.object "java/io/Console"), accessFlags := 74, slot := 9, constantValue := 0 }, { name := "initialErrStream", type := (.object "java/io/PrintStream"), accessFlags := 74, slot := 10, constantValue := 0 }, { name := "props", type := (.object "java/util/Properties"), accessFlags := 10, slot := 11, constantValue := 0 }, { name := "lineSeparator", type := (.object "java/lang/String"), accessFlags := 10, slot := 12, constantValue := 0 }, { name := "bootLayer", type := (.object "java/lang/ModuleLayer"), accessFlags := 8, slot := 13, constantValue := 0 }]
  methods := #[k4m0, k4m1]
  instanceTypes := #[]
  staticTypes := #[(.object "java/io/InputStream"), (.object "java/io/PrintStream"), (.object "java/io/PrintStream"), (.object "java/io/InputStream"), .int, .int, .int, (.object "java/lang/SecurityManager"), (.object "java/lang/String"), (.object "java/io/Console"), (.object "java/io/PrintStream"), (.object "java/util/Properties"), (.object "java/lang/String"), (.object "java/lang/ModuleLayer")]
  resolved := Array.replicate 834 none
  statics := none }

def pool5 : Array CpInfo := pool [(2, .class_ 4), (1, u "java/lang/Object"), (0, u "<init>"), (0, u "()V"), (7, .class_ 16), (1, u "java/util/Arrays"), (57, .class_ 76), (1, u "java/util/Arrays$NaturalOrder"), (32, u "()Ljava/lang/Object;"), (3, .class_ 115), (1, u "java/util/Arrays$LegacyMergeSort"), (1, u "Z"), (10, .nameAndType 129 109), (0, u "clone"), (20, .methodref 151 152), (0, .class_ 153), (0, .nameAndType 154 155), (0, u "java/lang/System"), (0, u "arraycopy"), (0, u "(Ljava/lang/Object;ILjava/lang/Object;II)V"), (146, u "copyOf"), (1, .methodref 305 306), (0, .class_ 307), (0, .nameAndType 308 309), (0, u "java/lang/Math"), (0, u "min"), (0, u "(II)I"), (0, .methodref 311 128), (0, .class_ 312), (0, u "[B"), (62, .class_ 376), (0, u "java/util/Arrays$ArrayList"), (68, u "$assertionsDisabled"), (269, u "MIN_ARRAY_SORT_GRAN"), (0, u "I"), (2, u "INSERTIONSORT_THRESHOLD"), (149, u "([BI)[B"), (105, .class_ 976), (0, u "java/util/Arrays$ArrayItr")] 52

def k5m0 : Method := { name := "<init>", desc := "()V", sig := { parameters := [], returnType := none }, accessFlags := 2, code := none }
def k5c1 : Code := { maxStack := 6, maxLocals := 3, code := jdk_65_method_121_code, exceptionTable := #[], attributes := #[] }
def k5m1 : Method := { name := "copyOf", desc := "([BI)[B", sig := { parameters := [(.array .byte), .int], returnType := some (.array .byte) }, accessFlags := 9, code := some k5c1 }
/-- java/util/Arrays -/
def k5 : Class := { plain "java/util/Arrays" (some 0) with
  accessFlags := 49
  interfaces := #[]
  cf := some (fileOf pool5 14 #[.nestMembers #[975, 375, 113, 74]] #[{ accessFlags := 2, nameIndex := 5, descriptorIndex := 6, attributes := #[] }, { accessFlags := 9, nameIndex := 302, descriptorIndex := 869, attributes := #[] }] 49 2 #[] #[{ accessFlags := 26, nameIndex := 715, descriptorIndex := 716, attributes := #[] }, { accessFlags := 26, nameIndex := 719, descriptorIndex := 716, attributes := #[] }, { accessFlags := 4120, nameIndex := 445, descriptorIndex := 117, attributes := #[] }])
  fields := #[{ name := "MIN_ARRAY_SORT_GRAN", type := .int, accessFlags := 26, slot := 0, constantValue := 0 }, { name := "INSERTIONSORT_THRESHOLD", type := .int, accessFlags := 26, slot := 1, constantValue := 0 }, { name := "$assertionsDisabled", type := .boolean, accessFlags := 4120, slot := 2, constantValue := 0 }]
  methods := #[k5m0, k5m1]
  instanceTypes := #[]
  staticTypes := #[.int, .int, .boolean]
  resolved := Array.replicate 1029 none
  statics := none }

def pool6 : Array CpInfo := pool [(1, .class_ 2), (0, u "java/lang/Cloneable"), (0, .class_ 4), (0, u "java/lang/Object")] 2

/-- java/lang/Cloneable -/
def k6 : Class := { plain "java/lang/Cloneable" (some 0) with
  accessFlags := 1537
  interfaces := #[]
  cf := some (fileOf pool6 1 #[] #[] 1537 3 #[] #[])
  fields := #[]
  methods := #[]
  instanceTypes := #[]
  staticTypes := #[]
  resolved := Array.replicate 7 none
  statics := none }

def pool7 : Array CpInfo := pool [(1, u "java/io/Serializable"), (0, .class_ 1), (0, u "java/lang/Object"), (0, .class_ 3)] 3

/-- java/io/Serializable -/
def k7 : Class := { plain "java/io/Serializable" (some 0) with
  accessFlags := 1537
  interfaces := #[]
  cf := some (fileOf pool7 2 #[] #[] 1537 4 #[] #[])
  fields := #[]
  methods := #[]
  instanceTypes := #[]
  staticTypes := #[]
  resolved := Array.replicate 8 none
  statics := none }

/-- the primitive byte -/
def k8 : Class := { plain "byte" none with kind := .primitive 'B', accessFlags := 0x411 }
/-- [B -/
def k9 : Class := { plain "[B" (some 0) with kind := .array 8 .byte, interfaces := #[6, 7], accessFlags := 1041 }

/-- the primitive int -/
def k10 : Class := { plain "int" none with kind := .primitive 'I', accessFlags := 0x411 }
/-- [I -/
def k11 : Class := { plain "[I" (some 0) with kind := .array 10 .int, interfaces := #[6, 7], accessFlags := 1041 }

def heap : Heap := #[]
def classes : Array Class := #[k0, k1, k2, k3, k4, k5, k6, k7, k8, k9, k10, k11]
def interned : List (Array UInt16 × Addr) := []
def slotsUsed : Nat := 0
def theMethod : MethodId := ⟨1, 1⟩
def args0 : Array Value := #[.int 3, .int 2, .int 5, .int 77]
def aboutOver (below : List Frame) : State where
  vm := { classes := classes, interned := interned.toArray }
  heap := heap
  slotsUsed := slotsUsed
  threads := #[{ frames := .invoking theMethod args0 :: below }]
def below0 : List Frame := [.native { method := ⟨0, 0⟩, args := #[] }]
def about1 : State := aboutOver below0
def p0 : Program := .bare "" "" ""
def e0 : Env := launch0.env 0 0 0
theorem w_frames : about1.frames = Frame.invoking theMethod args0 :: below0 := rfl
set_option maxRecDepth 65536 in
theorem w_args : argsFit about1.vm theMethod args0 = true := by decide +kernel
set_option maxRecDepth 65536 in
theorem w_heap : heapFits about1 = true := by decide +kernel
set_option maxRecDepth 65536 in
theorem w_runnable : about1.curStatus? = some .runnable := by decide +kernel
set_option maxRecDepth 65536 in
theorem w_alone : about1.alone = true := by decide +kernel
set_option maxRecDepth 65536 in
theorem w_named : about1.methodNamed? x = some theMethod := by decide +kernel
set_option maxRecDepth 65536 in
theorem w_hears : about1.hears theMethod below0 = true := by decide +kernel
set_option maxRecDepth 65536 in
theorem w_ripe : about1.ripe theMethod args0 below0 = true := by decide +kernel
theorem w_running : about1.status = .running := rfl
set_option maxRecDepth 65536 in
theorem w_room : about1.hasRoom e0.platform room_1 = true :=
  launch0.hasRoom_least _ room_1 (by decide +kernel) (by decide +kernel) (by decide +kernel) (by decide +kernel) (by decide +kernel) (by decide +kernel)
theorem allAtoms_all (ts : List Jvm.Cond) (a : Array Jvm.Value) (st : Jvm.State) : (allAtoms ts).before a st = ts.all (fun c => c.before a st) := by
  induction ts with
  | nil => rfl
  | cons c t ih =>
    show (Jvm.Cond.and c (allAtoms t)).before a st = _
    rw [Jvm.Cond.before_and, ih, List.all_cons]
def words1 : List Jvm.Cond := Jvm.Cond.code x code maxLocals ret :: tables_1
/-- a 'code' word, met by the world's own term for the bytes: nothing is compared byte by byte -/
theorem code_word {y : MethodName} {bytes : ByteArray} {mx : Nat} {rt : Option FieldType} {a : Array Value} {s : State} {m : MethodId} {meth : Method} {c : Code} (h1 : s.methodNamed? y = some m) (h2 : s.vm.method? m = some meth) (h3 : meth.code = some c) (h4 : c.code = bytes)
    (h5 : (c.maxLocals == mx && c.exceptionTable.isEmpty && decide (c.maxStack ≤ mostOperands) && decide (meth.sig.returnType = rt) && !meth.locks && decide (parseMethodDescriptor y.desc = some meth.sig)) = true) : (Jvm.Cond.code y bytes mx rt).before a s = true := by
  simp only [Bool.and_eq_true, beq_iff_eq, Bool.not_eq_true', decide_eq_true_eq] at h5
  obtain ⟨⟨⟨⟨⟨g1, g2⟩, g3⟩, g4⟩, g5⟩, g6⟩ := h5
  simp [Cond.before, Cond.holds, Cond.value, h1, h2, h3, h4, g1, g2, g3, g4, g5, g6]
def isCode : Jvm.Cond → Bool
  | .code _ _ _ _ => true
  | _ => false
theorem all_split {L : List Jvm.Cond} {P : Jvm.Cond → Bool} (h1 : L.all (fun c => isCode c || P c) = true) (h2 : ∀ c ∈ L.filter isCode, P c = true) : L.all P = true := by
  refine List.all_eq_true.mpr fun c hc => ?_
  have h := List.all_eq_true.mp h1 c hc
  rcases Bool.eq_false_or_eq_true (isCode c) with hi | hi
  · exact h2 c (List.mem_filter.mpr ⟨hc, hi⟩)
  · simpa [hi] using h
set_option maxRecDepth 65536 in
theorem w_c0 : (Jvm.Cond.code x code maxLocals ret).before args0 about1 = true := code_word (m := ⟨1, 1⟩) (meth := k1m1) (c := k1c1) (by decide +kernel) rfl rfl rfl (by decide +kernel)
set_option maxRecDepth 65536 in
theorem w_c1 : (Jvm.Cond.code ({ cls := "com/example/dwell/dwell/io/ByteWriter", name := "<init>", desc := "(I)V" } : Jvm.MethodName) prog_18_method_1_code (2 : Nat) (Option.none : Option Jvm.ClassFile.FieldType)).before args0 about1 = true := code_word (m := ⟨2, 0⟩) (meth := k2m0) (c := k2c0) (by decide +kernel) rfl rfl rfl (by decide +kernel)
set_option maxRecDepth 65536 in
theorem w_c2 : (Jvm.Cond.code ({ cls := "java/lang/Object", name := "<init>", desc := "()V" } : Jvm.MethodName) object_method_1_code (1 : Nat) (Option.none : Option Jvm.ClassFile.FieldType)).before args0 about1 = true := code_word (m := ⟨0, 0⟩) (meth := k0m0) (c := k0c0) (by decide +kernel) rfl rfl rfl (by decide +kernel)
set_option maxRecDepth 65536 in
theorem w_c3 : (Jvm.Cond.code ({ cls := "java/lang/Math", name := "max", desc := "(II)I" } : Jvm.MethodName) jdk_29_method_65_code (2 : Nat) (Option.some Jvm.ClassFile.FieldType.int)).before args0 about1 = true := code_word (m := ⟨3, 1⟩) (meth := k3m1) (c := k3c1) (by decide +kernel) rfl rfl rfl (by decide +kernel)
set_option maxRecDepth 65536 in
theorem w_c4 : (Jvm.Cond.code ({ cls := "com/example/dwell/dwell/io/ByteWriter", name := "put", desc := "([BII)Lcom/example/dwell/dwell/io/ByteWriter;" } : Jvm.MethodName) prog_18_method_4_code (5 : Nat) (Option.some (Jvm.ClassFile.FieldType.object "com/example/dwell/dwell/io/ByteWriter"))).before args0 about1 = true := code_word (m := ⟨2, 1⟩) (meth := k2m1) (c := k2c1) (by decide +kernel) rfl rfl rfl (by decide +kernel)
set_option maxRecDepth 65536 in
theorem w_c5 : (Jvm.Cond.code ({ cls := "com/example/dwell/dwell/io/ByteWriter", name := "makeRoom", desc := "(I)V" } : Jvm.MethodName) prog_18_method_10_code (2 : Nat) (Option.none : Option Jvm.ClassFile.FieldType)).before args0 about1 = true := code_word (m := ⟨2, 4⟩) (meth := k2m4) (c := k2c4) (by decide +kernel) rfl rfl rfl (by decide +kernel)
set_option maxRecDepth 65536 in
theorem w_c6 : (Jvm.Cond.code ({ cls := "com/example/dwell/dwell/io/ByteWriter", name := "putCrLf", desc := "()Lcom/example/dwell/dwell/io/ByteWriter;" } : Jvm.MethodName) prog_18_method_7_code (1 : Nat) (Option.some (Jvm.ClassFile.FieldType.object "com/example/dwell/dwell/io/ByteWriter"))).before args0 about1 = true := code_word (m := ⟨2, 2⟩) (meth := k2m2) (c := k2c2) (by decide +kernel) rfl rfl rfl (by decide +kernel)
set_option maxRecDepth 65536 in
theorem w_c7 : (Jvm.Cond.code ({ cls := "com/example/dwell/dwell/io/ByteWriter", name := "toArray", desc := "()[B" } : Jvm.MethodName) prog_18_method_9_code (1 : Nat) (Option.some (Jvm.ClassFile.FieldType.array Jvm.ClassFile.FieldType.byte))).before args0 about1 = true := code_word (m := ⟨2, 3⟩) (meth := k2m3) (c := k2c3) (by decide +kernel) rfl rfl rfl (by decide +kernel)
set_option maxRecDepth 65536 in
theorem w_c8 : (Jvm.Cond.code ({ cls := "java/util/Arrays", name := "copyOf", desc := "([BI)[B" } : Jvm.MethodName) jdk_65_method_121_code (3 : Nat) (Option.some (Jvm.ClassFile.FieldType.array Jvm.ClassFile.FieldType.byte))).before args0 about1 = true := code_word (m := ⟨5, 1⟩) (meth := k5m1) (c := k5c1) (by decide +kernel) rfl rfl rfl (by decide +kernel)
set_option maxRecDepth 65536 in
theorem w_c9 : (Jvm.Cond.code ({ cls := "java/lang/Math", name := "min", desc := "(II)I" } : Jvm.MethodName) jdk_29_method_69_code (2 : Nat) (Option.some Jvm.ClassFile.FieldType.int)).before args0 about1 = true := code_word (m := ⟨3, 2⟩) (meth := k3m2) (c := k3c2) (by decide +kernel) rfl rfl rfl (by decide +kernel)
def codes1 : List Jvm.Cond := [Jvm.Cond.code x code maxLocals ret, Jvm.Cond.code ({ cls := "com/example/dwell/dwell/io/ByteWriter", name := "<init>", desc := "(I)V" } : Jvm.MethodName) prog_18_method_1_code (2 : Nat) (Option.none : Option Jvm.ClassFile.FieldType), Jvm.Cond.code ({ cls := "java/lang/Object", name := "<init>", desc := "()V" } : Jvm.MethodName) object_method_1_code (1 : Nat) (Option.none : Option Jvm.ClassFile.FieldType), Jvm.Cond.code ({ cls := "java/lang/Math", name := "max", desc := "(II)I" } : Jvm.MethodName) jdk_29_method_65_code (2 : Nat) (Option.some Jvm.ClassFile.FieldType.int), Jvm.Cond.code ({ cls := "com/example/dwell/dwell/io/ByteWriter", name := "put", desc := "([BII)Lcom/example/dwell/dwell/io/ByteWriter;" } : Jvm.MethodName) prog_18_method_4_code (5 : Nat) (Option.some (Jvm.ClassFile.FieldType.object "com/example/dwell/dwell/io/ByteWriter")), Jvm.Cond.code ({ cls := "com/example/dwell/dwell/io/ByteWriter", name := "makeRoom", desc := "(I)V" } : Jvm.MethodName) prog_18_method_10_code (2 : Nat) (Option.none : Option Jvm.ClassFile.FieldType), Jvm.Cond.code ({ cls := "com/example/dwell/dwell/io/ByteWriter", name := "putCrLf", desc := "()Lcom/example/dwell/dwell/io/ByteWriter;" } : Jvm.MethodName) prog_18_method_7_code (1 : Nat) (Option.some (Jvm.ClassFile.FieldType.object "com/example/dwell/dwell/io/ByteWriter")), Jvm.Cond.code ({ cls := "com/example/dwell/dwell/io/ByteWriter", name := "toArray", desc := "()[B" } : Jvm.MethodName) prog_18_method_9_code (1 : Nat) (Option.some (Jvm.ClassFile.FieldType.array Jvm.ClassFile.FieldType.byte)), Jvm.Cond.code ({ cls := "java/util/Arrays", name := "copyOf", desc := "([BI)[B" } : Jvm.MethodName) jdk_65_method_121_code (3 : Nat) (Option.some (Jvm.ClassFile.FieldType.array Jvm.ClassFile.FieldType.byte)), Jvm.Cond.code ({ cls := "java/lang/Math", name := "min", desc := "(II)I" } : Jvm.MethodName) jdk_29_method_69_code (2 : Nat) (Option.some Jvm.ClassFile.FieldType.int)]
set_option maxRecDepth 65536 in
theorem codes_eq : words1.filter isCode = codes1 := rfl
theorem w_codes : ∀ c ∈ words1.filter isCode, c.before args0 about1 = true := by
  rw [codes_eq]
  intro c hc
  simp only [codes1, List.mem_cons, List.not_mem_nil, or_false] at hc
  rcases hc with rfl | rfl | rfl | rfl | rfl | rfl | rfl | rfl | rfl | rfl
  · exact w_c0
  · exact w_c1
  · exact w_c2
  · exact w_c3
  · exact w_c4
  · exact w_c5
  · exact w_c6
  · exact w_c7
  · exact w_c8
  · exact w_c9
set_option maxRecDepth 65536 in
theorem w_t1 : (words1.take 24).all (fun c => isCode c || c.before args0 about1) = true := by decide +kernel
set_option maxRecDepth 65536 in
theorem w_t2 : ((words1.drop 24).take 24).all (fun c => isCode c || c.before args0 about1) = true := by decide +kernel
set_option maxRecDepth 65536 in
theorem w_t3 : ((words1.drop 24).drop 24).all (fun c => isCode c || c.before args0 about1) = true := by decide +kernel
theorem w_tables : (allAtoms (Jvm.Cond.code x code maxLocals ret :: tables_1)).before args0 about1 = true := by
  rw [allAtoms_all]
  show words1.all (fun c => c.before args0 about1) = true
  refine all_split ?_ w_codes
  rw [← List.take_append_drop 24 words1, List.all_append, w_t1, ← List.take_append_drop 24 (words1.drop 24), List.all_append, w_t2, w_t3]
  rfl
set_option maxRecDepth 65536 in
theorem w_case : (Jvm.Cond.and given_1 narrow_1).before args0 about1 = true := by decide +kernel
theorem w_applies : (headSpec (Jvm.Cond.code x code maxLocals ret :: tables_1) room_1).applies x e0.platform about1 = true :=
  (Spec.applies_iff w_frames).mpr ⟨w_running, w_runnable, w_alone, w_named, w_hears, w_ripe, w_room, w_tables⟩
theorem atStart : AtStart classFile x code maxLocals ret World_1 tables_1 room_1 Calls_1 rest_1 Pre_1 launch0 p0 e0 about1 theMethod args0 below0 :=
  ⟨lists_1, trivial, launch0.admits_env _ _ _, launch0.least_env, fairChoices_fair.cas, fairChoices_fair.clock, w_frames, w_args, w_heap, w_applies, trivial, trivial, w_case⟩
end start1
theorem witness_1 : WitnessClaimed_1 := ⟨start1.p0, start1.e0, start1.about1, start1.theMethod, start1.args0, start1.below0, start1.atStart⟩
end Jvm.Pilot.@@N@@
