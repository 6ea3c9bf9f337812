import JvmDerived
import JvmDerived.Pilot.@@N@@Statement
import JvmDerived.Pilot.@@N@@Code
set_option linter.unusedVariables false
set_option linter.unusedSimpArgs false
namespace Jvm.Pilot.@@N@@
open Jvm Jvm.ClassFile Sem Op Lib Jvm.Free Jvm.Stand Jvm.LawKit Jvm.RoadKit Bundle Jvm.Pilot.@@N@@.Jvm.D
/-- from the state σ the run comes to an end that Q allows -/
def OwnG (rc rs : Nat) (Q : Option Value → Heap → List Loc → Prop) (p : Program) (e : Env) (below : List Frame) (s σ : State) : Prop :=
  ∃ s₂ o, Steps p.tables e below σ s₂ ∧ s₂.status = .running ∧ Ended s₂ below o ∧ ∃ v L, o = .returned v ∧ Q v s₂.heap L ∧ FrameEnd s o s₂ L rc rs
section Own
variable {p : Program} {l : Launch} {e : Env} {R : Room} {s : State} {m : MethodId} {args : Array Value} {below : List Frame} {meth : Method} {c : Code} {T σ σ' : State} {locs : List Loc} {cells slots rc rs : Nat} {Q : Option Value → Heap → List Loc → Prop}
theorem own_st (h : ∀ target, Steps p.tables e below σ' target → Steps p.tables e below σ target) (g : OwnG rc rs Q p e below s σ') : OwnG rc rs Q p e below s σ := by
  obtain ⟨s₂, o, h1, r⟩ := g; exact ⟨s₂, o, h _ h1, r⟩
theorem own_go (h : Steps p.tables e below σ σ') (g : OwnG rc rs Q p e below s σ') : OwnG rc rs Q p e below s σ := by
  obtain ⟨s₂, o, h1, r⟩ := g; exact ⟨s₂, o, h.trans h1, r⟩
theorem own_retN (X : Stand p l e R s m args below meth c T locs cells slots) (hx : p.tables.exec = Jvm.exec) {pc : Nat} {Ls : Array Slot} {z : Int32} {rest : List Value} {t : FieldType} (hret : meth.sig.returnType = some t) (hlk : meth.locks = false) (ht : t = .boolean ∨ t = .byte ∨ t = .char ∨ t = .short)
    (hd : decode c.code pc = .ok (.ireturn, 1)) (hc : cells ≤ rc) (hs : slots ≤ rs) (hQ : Q (some (.int (nar t z))) T.heap locs) : OwnG rc rs Q p e below s (T.setTop (mkF m pc Ls (.int z :: rest))) := by
  obtain ⟨fs, hr, hrun, hended, hW, hsame⟩ := X.leave (v := some (.int (nar t z))) (fun h => by rw [hret] at h; cases h) hlk
  exact ⟨_, _, retN X hx hret ht hd hr, hrun, hended, _, _, rfl, hQ, ⟨_, rfl⟩, hW, hsame.mono hc hs⟩
theorem own_retI (X : Stand p l e R s m args below meth c T locs cells slots) (hx : p.tables.exec = Jvm.exec) {pc : Nat} {Ls : Array Slot} {z : Int32} {rest : List Value} (hret : meth.sig.returnType = some .int) (hlk : meth.locks = false)
    (hd : decode c.code pc = .ok (.ireturn, 1)) (hc : cells ≤ rc) (hs : slots ≤ rs) (hQ : Q (some (.int z)) T.heap locs) : OwnG rc rs Q p e below s (T.setTop (mkF m pc Ls (.int z :: rest))) := by
  obtain ⟨fs, hr, hrun, hended, hW, hsame⟩ := X.leave (v := some (.int z)) (fun h => by rw [hret] at h; cases h) hlk
  exact ⟨_, _, retOut X hx hret rfl (Or.inl ⟨rfl, Or.inl rfl, _, rfl⟩) hd hr, hrun, hended, _, _, rfl, hQ, ⟨_, rfl⟩, hW, hsame.mono hc hs⟩
theorem own_retJ (X : Stand p l e R s m args below meth c T locs cells slots) (hx : p.tables.exec = Jvm.exec) {pc : Nat} {Ls : Array Slot} {z : Int64} {rest : List Value} (hret : meth.sig.returnType = some .long) (hlk : meth.locks = false)
    (hd : decode c.code pc = .ok (.lreturn, 1)) (hc : cells ≤ rc) (hs : slots ≤ rs) (hQ : Q (some (.long z)) T.heap locs) : OwnG rc rs Q p e below s (T.setTop (mkF m pc Ls (.long z :: rest))) := by
  obtain ⟨fs, hr, hrun, hended, hW, hsame⟩ := X.leave (v := some (.long z)) (fun h => by rw [hret] at h; cases h) hlk
  exact ⟨_, _, retOut X hx hret rfl (Or.inr (Or.inl ⟨rfl, rfl, _, rfl⟩)) hd hr, hrun, hended, _, _, rfl, hQ, ⟨_, rfl⟩, hW, hsame.mono hc hs⟩
theorem own_retA (X : Stand p l e R s m args below meth c T locs cells slots) (hx : p.tables.exec = Jvm.exec) {pc : Nat} {Ls : Array Slot} {a : Addr} {rest : List Value} {t : FieldType} (hret : meth.sig.returnType = some t) (hlk : meth.locks = false) (ht : t.isReference = true)
    (hd : decode c.code pc = .ok (.areturn, 1)) (hc : cells ≤ rc) (hs : slots ≤ rs) (hQ : Q (some (.ref a)) T.heap locs) : OwnG rc rs Q p e below s (T.setTop (mkF m pc Ls (.ref a :: rest))) := by
  obtain ⟨fs, hr, hrun, hended, hW, hsame⟩ := X.leave (v := some (.ref a)) (fun h => by rw [hret] at h; cases h) hlk
  exact ⟨_, _, retOut X hx hret (by cases t <;> first | rfl | cases ht) (Or.inr (Or.inr (Or.inr (Or.inr ⟨rfl, ht, rfl⟩)))) hd hr, hrun, hended, _, _, rfl, hQ, ⟨_, rfl⟩, hW, hsame.mono hc hs⟩
theorem own_retV (X : Stand p l e R s m args below meth c T locs cells slots) (hx : p.tables.exec = Jvm.exec) {pc : Nat} {Ls : Array Slot} (hret : meth.sig.returnType = none) (hlk : meth.locks = false)
    (hd : decode c.code pc = .ok (.return_, 1)) (hc : cells ≤ rc) (hs : slots ≤ rs) (hQ : Q none T.heap locs) : OwnG rc rs Q p e below s (T.setTop (mkF m pc Ls [])) := by
  obtain ⟨fs, hr, hrun, hended, hW, hsame⟩ := X.leave (v := none) (fun _ => rfl) hlk
  exact ⟨_, _, X.returnOut hx hret hd hr, hrun, hended, _, _, rfl, hQ, ⟨_, rfl⟩, hW, hsame.mono hc hs⟩
end Own
/-! arrays, by a function that says what each place holds -/
def Ary (Z : State) (h : Heap) (a : Addr) (ty : FieldType) (n : Nat) (f : Nat → Value) : Prop :=
  ∃ cl : Cell, Arr Z h a cl ty ∧ cl.slots.size = n ∧ n < 2147483648 ∧ (∀ j, j < n → cl.slots[j]? = some (f j)) ∧ ∀ j, j < n → fits ty (f j) = true
def own_up (f : Nat → Value) (i : Nat) (v : Value) : Nat → Value := fun j => if j = i then v else f j
section Arrays
variable {p : Program} {l : Launch} {e : Env} {R : Room} {s : State} {m : MethodId} {args : Array Value} {below : List Frame} {meth : Method} {c : Code} {T : State} {locs : List Loc} {cells slots : Nat} {Z : State} {h h' : Heap} {a b : Addr} {ty : FieldType} {n : Nat} {f f' : Nat → Value} {ws : List Addr} {sl : Nat} {v : Value}
theorem Ary.lt (A : Ary Z h a ty n f) : a < h.size := by obtain ⟨cl, A1, -⟩ := A; exact A1.lt
theorem Ary.ext (A : Ary Z h a ty n f) (E : Ext h h') : Ary Z h' a ty n f := by obtain ⟨cl, A1, r⟩ := A; exact ⟨cl, A1.ext E, r⟩
theorem Ary.other (A : Ary Z h a ty n f) (W : Wr h h' b sl v) (q : a ≠ b) : Ary Z h' a ty n f := by obtain ⟨cl, A1, r⟩ := A; exact ⟨cl, A1.other W q, r⟩
theorem Ary.keep (A : Ary Z h a ty n f) (K : Keep h h' ws) (q : a ∉ ws) : Ary Z h' a ty n f := by obtain ⟨cl, A1, r⟩ := A; exact ⟨cl, ⟨K.2.1 a cl A1.1 q, A1.2⟩, r⟩
theorem Ary.cong (A : Ary Z h a ty n f) (q : ∀ j, j < n → f j = f' j) : Ary Z h a ty n f' := by
  obtain ⟨cl, A1, r1, r2, r3, r4⟩ := A
  exact ⟨cl, A1, r1, r2, fun j hj => by rw [← q j hj]; exact r3 j hj, fun j hj => by rw [← q j hj]; exact r4 j hj⟩
theorem own_clamp {j : Int32} {i : Nat} (hj : j.toInt = (i : Int)) : j.toNatClampNeg = i ∧ ¬ j < 0 := by
  refine ⟨by rw [Int32.toNatClampNeg, hj]; rfl, ?_⟩
  rw [Int32.lt_iff_toInt_lt, hj]; have : (0 : Int32).toInt = 0 := rfl; omega
theorem own_in {cl : Cell} {j : Int32} {i : Nat} (hj : j.toInt = (i : Int)) (hs : cl.slots.size = n) (hi : i < n) : ¬ (j < 0 ∨ cl.slots.size ≤ j.toNatClampNeg) := by
  obtain ⟨h1, h2⟩ := own_clamp hj
  rintro (q | q)
  · exact h2 q
  · rw [h1, hs] at q; omega
theorem own_bl (X : Stand p l e R s m args below meth c T locs cells slots) (hx : p.tables.exec = Jvm.exec) (hZ : Z.Warmed39 s.vm) (eT : T.heap = h) (A : Ary Z h a .byte n f) {j : Int32} (i : Nat) (hj : j.toInt = (i : Int)) (hi : i < n) (hv : f i = v)
    {g : JFrame} (hg : g.method = m) {rest : List Value} (hs : g.stack = .int j :: .ref a :: rest) (hd : decode c.code g.pc = .ok (.baload, 1)) :
    ∀ target, Steps p.tables e below (T.setTop { g with pc := g.pc + 1, stack := v :: rest }) target → Steps p.tables e below (T.setTop g) target := by
  obtain ⟨cl, A1, r1, r2, r3, r4⟩ := A
  exact X.baloadBytes hx (by rw [eT]; exact A1.1) (State.isArrayOf_alike hZ.alike A1.2.1) A1.2.2 (own_in hj r1 hi) (by rw [(own_clamp hj).1, ← hv]; exact r3 i hi) hg hs hd
theorem own_il (X : Stand p l e R s m args below meth c T locs cells slots) (hx : p.tables.exec = Jvm.exec) (hZ : Z.Warmed39 s.vm) (eT : T.heap = h) (A : Ary Z h a .int n f) {j : Int32} (i : Nat) (hj : j.toInt = (i : Int)) (hi : i < n) (hv : f i = v)
    {g : JFrame} (hg : g.method = m) {rest : List Value} (hs : g.stack = .int j :: .ref a :: rest) (hd : decode c.code g.pc = .ok (.iaload, 1)) :
    ∀ target, Steps p.tables e below (T.setTop { g with pc := g.pc + 1, stack := v :: rest }) target → Steps p.tables e below (T.setTop g) target := by
  obtain ⟨cl, A1, r1, r2, r3, r4⟩ := A
  exact X.iaload hx (by rw [eT]; exact A1.1) (State.isArrayOf_alike hZ.alike A1.2.1) A1.2.2 (own_in hj r1 hi) (by rw [(own_clamp hj).1, ← hv]; exact r3 i hi) hg hs hd
theorem own_len (X : Stand p l e R s m args below meth c T locs cells slots) (hx : p.tables.exec = Jvm.exec) (hZ : Z.Warmed39 s.vm) (eT : T.heap = h) (A : Ary Z h a ty n f) {z : Int32} (hz : z = Int32.ofNat n)
    {g : JFrame} (hg : g.method = m) {rest : List Value} (hs : g.stack = .ref a :: rest) (hd : decode c.code g.pc = .ok (.arraylength, 1)) :
    ∀ target, Steps p.tables e below (T.setTop { g with pc := g.pc + 1, stack := .int z :: rest }) target → Steps p.tables e below (T.setTop g) target := by
  obtain ⟨cl, A1, r1, r2, r3, r4⟩ := A
  intro target k
  refine X.arraylength hx (by rw [eT]; exact A1.1) (State.isArrayOf_alike hZ.alike A1.2.1) hg hs hd target ?_
  rw [r1]; rw [hz] at k; exact k
theorem Ary.wr (A : Ary Z h a ty n f) {i : Nat} (hi : i < n) (W : Wr h h' a i v) (hf : fits ty v = true) : Ary Z h' a ty n (own_up f i v) := by
  obtain ⟨cl, A1, r1, r2, r3, r4⟩ := A
  refine ⟨_, A1.same W, by rw [sz_set]; exact r1, r2, fun j hj => ?_, fun j hj => ?_⟩
  · by_cases q : j = i
    · subst q; simp [own_up, Cell.setSlot, r1, hi]
    · simp only [own_up, if_neg q, Cell.setSlot]; rw [Array.getElem?_setIfInBounds_ne (Ne.symm q)]; exact r3 j hj
  · by_cases q : j = i
    · subst q; simp only [own_up, if_true]; exact hf
    · simp only [own_up, if_neg q]; exact r4 j hj
theorem own_sB (X : Stand p l e R s m args below meth c T locs cells slots) (hx : p.tables.exec = Jvm.exec) (hZ : Z.Warmed39 s.vm) (eT : T.heap = h) (A : Ary Z h a .byte n f) {j x : Int32} (i : Nat) (hj : j.toInt = (i : Int)) (hi : i < n)
    {g : JFrame} (hg : g.method = m) {rest : List Value} (hs : g.stack = .int x :: .int j :: .ref a :: rest) (hd : decode c.code g.pc = .ok (.bastore, 1)) :
    ∃ T' h', Stand p l e R s m args below meth c T' (locs ++ [⟨a, i⟩]) cells slots ∧ T'.heap = h' ∧ Wr h h' a i (.int (x.toInt8.toInt32)) ∧ Ary Z h' a .byte n (own_up f i (.int (x.toInt8.toInt32))) ∧ ∀ target, Steps p.tables e below (T'.setTop { g with pc := g.pc + 1, stack := rest }) target → Steps p.tables e below (T.setTop g) target := by
  obtain ⟨cl, A1, r1, r⟩ := A
  obtain ⟨T', h', X', e', W, st⟩ := stB X hx hZ eT A1 (own_in hj r1 hi) hg hs hd
  rw [(own_clamp hj).1] at X' W
  exact ⟨T', h', X', e', W, Ary.wr ⟨cl, A1, r1, r⟩ hi W (fits_nar_byte x), st⟩
theorem own_sZ (X : Stand p l e R s m args below meth c T locs cells slots) (hx : p.tables.exec = Jvm.exec) (hZ : Z.Warmed39 s.vm) (eT : T.heap = h) (A : Ary Z h a .boolean n f) {j x : Int32} (i : Nat) (hj : j.toInt = (i : Int)) (hi : i < n)
    {g : JFrame} (hg : g.method = m) {rest : List Value} (hs : g.stack = .int x :: .int j :: .ref a :: rest) (hd : decode c.code g.pc = .ok (.bastore, 1)) :
    ∃ T' h', Stand p l e R s m args below meth c T' (locs ++ [⟨a, i⟩]) cells slots ∧ T'.heap = h' ∧ Wr h h' a i (.int (nar .boolean x)) ∧ Ary Z h' a .boolean n (own_up f i (.int (nar .boolean x))) ∧ ∀ target, Steps p.tables e below (T'.setTop { g with pc := g.pc + 1, stack := rest }) target → Steps p.tables e below (T.setTop g) target := by
  obtain ⟨cl, A1, r1, r⟩ := A
  obtain ⟨T', h', X', e', W, st⟩ := stZ X hx hZ eT A1 (own_in hj r1 hi) hg hs hd
  rw [(own_clamp hj).1] at X' W
  exact ⟨T', h', X', e', W, Ary.wr ⟨cl, A1, r1, r⟩ hi W (fits_nar_bool x), st⟩
theorem own_sI (X : Stand p l e R s m args below meth c T locs cells slots) (hx : p.tables.exec = Jvm.exec) (hZ : Z.Warmed39 s.vm) (eT : T.heap = h) (A : Ary Z h a .int n f) {j x : Int32} (i : Nat) (hj : j.toInt = (i : Int)) (hi : i < n)
    {g : JFrame} (hg : g.method = m) {rest : List Value} (hs : g.stack = .int x :: .int j :: .ref a :: rest) (hd : decode c.code g.pc = .ok (.iastore, 1)) :
    ∃ T' h', Stand p l e R s m args below meth c T' (locs ++ [⟨a, i⟩]) cells slots ∧ T'.heap = h' ∧ Wr h h' a i (.int x) ∧ Ary Z h' a .int n (own_up f i (.int x)) ∧ ∀ target, Steps p.tables e below (T'.setTop { g with pc := g.pc + 1, stack := rest }) target → Steps p.tables e below (T.setTop g) target := by
  obtain ⟨cl, A1, r1, r⟩ := A
  obtain ⟨T', h', X', e', W, st⟩ := stI X hx hZ eT A1 (own_in hj r1 hi) hg hs hd
  rw [(own_clamp hj).1] at X' W
  exact ⟨T', h', X', e', W, Ary.wr ⟨cl, A1, r1, r⟩ hi W rfl, st⟩
theorem own_new (X : Stand p l e R s m args below meth c T locs cells slots) (hx : p.tables.exec = Jvm.exec) (hZ : Z.Warmed39 s.vm) {a0 : Array Value} {aty : ArrayType} (w : (Cond.arrayClass (newarray.typeOf aty)).before a0 Z = true) (eT : T.heap = h) {g : JFrame} (hg : g.method = m) (hd : decode c.code g.pc = .ok (.newarray aty, 2)) {z : Int32} {rest : List Value} (hs : g.stack = .int z :: rest)
    (k : Nat) (hk : z.toInt = (k : Int)) {cap : Nat} (hcap : k ≤ cap) (hb : cap * 8 ≤ 536870912) (hc : cells + 1 ≤ R.cells) (hl : slots + cap ≤ R.slots) :
    ∃ T' h', Stand p l e R s m args below meth c T' locs (cells + 1) (slots + cap) ∧ T'.heap = h' ∧ Ext h h' ∧ Ary Z h' h.size (newarray.typeOf aty) k (fun _ => defaultValue (newarray.typeOf aty)) ∧
      ∀ target, Steps p.tables e below (T'.setTop { g with pc := g.pc + 2, stack := .ref h.size :: rest }) target → Steps p.tables e below (T.setTop g) target := by
  obtain ⟨h1, h2⟩ := own_clamp hk
  obtain ⟨T', h', cA, X', e', E, A, st⟩ := newP X hx hZ w eT hg hd hs h2 (cap := cap) (by rw [h1]; exact hcap) hb hc hl
  refine ⟨T', h', X', e', E, ⟨_, A, by rw [sz_new, h1], by have := rng32 z; omega, fun j hj => ?_, fun j _ => by cases aty <;> rfl⟩, st⟩
  simp [newA, h1, hj]
end Arrays

section Copies
variable {p : Program} {l : Launch} {e : Env} {R : Room} {s : State} {m : MethodId} {args : Array Value} {below : List Frame} {meth : Method} {c : Code} {T : State} {locs : List Loc} {cells slots : Nat} {Z : State} {h h' : Heap} {a b : Addr} {ty : FieldType} {n n' : Nat} {f f' : Nat → Value} {v : Value}
theorem Ary.arv (A : Ary Z h a ty n f) (d : Value) : ∃ k, Arv Z h a k ty (Int32.ofNat n) ((List.range n).map f) d := by
  obtain ⟨cl, A1, r1, r2, r3, r4⟩ := A
  have h0 : (Int32.ofNat n).toInt = (n : Int) := Int32.toInt_ofNat_of_lt (by omega)
  have hg : ∀ j, j < n → ((List.range n).map f).getD j d = f j := fun j hj => by simp [List.getD_eq_getElem?_getD, hj]
  refine ⟨cl.cls, cl, A1, rfl, by rw [(own_clamp h0).1, r1], (own_clamp h0).2, fun j hj => ?_, fun j hj => ?_⟩
  · rw [r1] at hj; rw [hg j hj]; exact r3 j hj
  · rw [r1] at hj; rw [hg j hj]; exact r4 j hj
theorem Ary.ofArv {k : ClassId} {vs : List Value} {d : Value} (B : Arv Z h b k ty (Int32.ofNat n) vs d) (hn : n < 2147483648) (q : ∀ j, j < n → vs.getD j d = f j) : Ary Z h b ty n f := by
  obtain ⟨cl, A1, -, r2, -, H, G⟩ := B
  have h0 : (Int32.ofNat n).toInt = (n : Int) := Int32.toInt_ofNat_of_lt (by omega)
  rw [(own_clamp h0).1] at r2
  exact ⟨cl, A1, r2, hn, fun j hj => by rw [← q j hj]; exact H j (by rw [r2]; exact hj), fun j hj => by rw [← q j hj]; exact G j (by rw [r2]; exact hj)⟩
theorem Ary.small (A : Ary Z h a ty n f) : n < 2147483648 := by obtain ⟨_, _, _, r, _⟩ := A; exact r
theorem own_cp (X : Stand p l e R s m args below meth c T locs cells slots) (hx : p.tables.exec = Jvm.exec) (hZ : Z.Warmed39 s.vm) {a0 : Array Value} {own : String} {index : Nat} (hown : s.vm.findClass own = some m.cls)
    (w1 : (Cond.methodLink own index Jvm.Stand.acN).before a0 Z = true) (w2 : (Cond.native Jvm.Stand.acN).before a0 Z = true) (w3 : (Cond.static Jvm.Stand.acN).before a0 Z = true) (w4 : (Cond.initialized "java/lang/System").before a0 Z = true) (eT : T.heap = h)
    (A : Ary Z h a ty n f) (B : Ary Z h b ty n' f') (hp : refKind ty = false) (i1 i2 k : Nat) {sp dp nn : Int32} (h1 : sp.toInt = (i1 : Int)) (h2 : dp.toInt = (i2 : Int)) (h3 : nn.toInt = (k : Int)) (h4 : i1 + k ≤ n) (h5 : i2 + k ≤ n') {n0 : Nat} (N : Fr n0 locs) (ge : n0 ≤ b)
    {g : JFrame} (hg : g.method = m) (hsize : g.locals.size = c.maxLocals) {rest : List Value} (hs : g.stack = .int nn :: .int dp :: .ref b :: .int sp :: .ref a :: rest) (hd : decode c.code g.pc = .ok (.invokestatic index, 3))
    (hf : 1 ≤ R.frames) {W : Nat} (hW : 2 * g.monitorRoom + (rest.map fun v => v.category).sum ≤ W) (hlo : W + (nativeFrameWords "java/lang/System" "arraycopy" 5 + 11) ≤ R.locals) :
    ∃ T' h' L, Stand p l e R s m args below meth c T' L cells slots ∧ T'.heap = h' ∧ Fr n0 L ∧ Keep h h' [b] ∧ Ary Z h' b ty n' (fun j => if i2 ≤ j ∧ j < i2 + k then f (i1 + (j - i2)) else f' j) ∧
      ∀ target, Steps p.tables e below (T'.setTop { g with pc := g.pc + 3, stack := rest }) target → Steps p.tables e below (T.setTop g) target := by
  obtain ⟨ka, A2⟩ := A.arv .null
  obtain ⟨kb, B2⟩ := B.arv .null
  have s1 := A.small; have s2 := B.small
  obtain ⟨c1, g1⟩ := own_clamp h1; obtain ⟨c2, g2⟩ := own_clamp h2; obtain ⟨c3, g3⟩ := own_clamp h3
  have q1 : (Int32.ofNat n).toNatClampNeg = n := (own_clamp (Int32.toInt_ofNat_of_lt (by omega))).1
  have q2 : (Int32.ofNat n').toNatClampNeg = n' := (own_clamp (Int32.toInt_ofNat_of_lt (by omega))).1
  obtain ⟨T', h', L, X', e', N', K, V, st⟩ := cpA X hx hZ hown w1 w2 w3 w4 eT A2 B2 (Or.inl ⟨rfl, hp⟩) g1 g2 g3 (by rw [c1, c3, q1]; exact h4) (by rw [c2, c3, q2]; exact h5) rfl (by rw [c2, c3]; simpa using h5) N ge hg hsize hs hd hf hW hlo
  refine ⟨T', h', L, X', e', N', K, Ary.ofArv V s2 fun j hj => ?_, st⟩
  rw [c1, c2, c3]
  simp only [List.getD_eq_getElem?_getD]
  by_cases p1 : j < i2
  · rw [List.append_assoc, List.getElem?_append_left (by simp; omega), if_neg (by omega), List.getElem?_take_of_lt p1]
    simp [hj]
  · by_cases p2 : j < i2 + k
    · rw [List.getElem?_append_left (by simp; omega), List.getElem?_append_right (by simp; omega), if_pos (by omega)]
      simp only [List.length_take, List.length_map, List.length_range]
      rw [show min i2 n' = i2 by omega, List.getElem?_map, List.getElem?_range (by omega)]
      simp [show i1 + (j - i2) < n by omega]
    · rw [List.getElem?_append_right (by simp; omega), if_neg (by omega)]
      simp only [List.length_append, List.length_take, List.length_map, List.length_range, List.getElem?_drop]
      rw [show i2 + k + (j - (min i2 n' + k)) = j by omega]
      simp [hj]
theorem own_kw {h0 : Heap} {ws : List Addr} (K : Keep h0 h []) : Keep h0 h ws := ⟨K.1, fun z c hz _ => K.2.1 z c hz nin0, K.2.2⟩
theorem own_sel {args : Array Value} {y : MethodName} {n : Nat} (hins : (Cond.instantiable y.cls n).before args s = true) (hpriv : s.PrivateAt y) (hinst : (Cond.instanceMethod y).before args s = true) (hy : y.cls ≠ "java/lang/invoke/MethodHandle" ∧ y.cls ≠ "java/lang/invoke/VarHandle") : (Cond.selects y.cls y y).before args s = true := by
  obtain ⟨c, k, hc, hk, -, hniab, -, -⟩ := Cond.instantiable_spec hins
  exact selects_self_of_private hc hk (Bool.or_eq_false_iff.mp hniab).1 hpriv hinst hy
end Copies

theorem own_by (z : Int32) : z.toInt8.toInt32.toInt8.toInt32 = z.toInt8.toInt32 := by simp
theorem own_one (i : Nat) : Int32.ofNat i + (1 : Int32) = Int32.ofNat (i + 1) := (Int32.ofNat_add i 1).symm
theorem own_to (k : Nat) (h : k < 100000) : (Int32.ofNat k).toInt = (k : Int) := Int32.toInt_ofNat_of_lt (by omega)
theorem own_add (i z : Int32) (k d : Nat) (h : i.toInt = (k : Int)) (hz : z.toInt = (d : Int)) (hk : k + d < 100000) : (i + z).toInt = ((k + d : Nat) : Int) := by
  have h1 := c_iadd i z; have h2 := rng32 (i + z); omega
def own_ui (g : Nat → Int32) (i : Nat) (z : Int32) : Nat → Int32 := fun j => if j = i then z else g j
theorem own_uu (g : Nat → Int32) (i : Nat) (z z' : Int32) (hz : z = z') (j : Nat) : own_up (fun j => .int (g j)) i (.int z) j = .int (own_ui g i z' j) := by
  subst hz; simp only [own_up, own_ui]; split <;> rfl
theorem own_mod9 (a : Int32) : ∃ t : Nat, t ≤ 8 ∧ ((a &&& (2147483647 : Int32)) % (9 : Int32)).toInt = (t : Int) := by
  have h0 : 0 ≤ (a &&& (2147483647 : Int32)).toInt := (c_andS a 2147483647).2.2 (by decide)
  have h1 := (c_irem (a &&& (2147483647 : Int32)) 9 9 rfl).1 h0
  exact ⟨((a &&& (2147483647 : Int32)) % (9 : Int32)).toInt.toNat, by omega, by omega⟩
def own_yb (y : Int32) : Nat → Int32
  | 0 => ((y.toUInt32 >>> (((24 : Int32) - ((8 : Int32) * (0 : Int32))) &&& 31).toUInt32).toInt32).toInt8.toInt32
  | 1 => ((y.toUInt32 >>> (((24 : Int32) - ((8 : Int32) * (1 : Int32))) &&& 31).toUInt32).toInt32).toInt8.toInt32
  | 2 => ((y.toUInt32 >>> (((24 : Int32) - ((8 : Int32) * (2 : Int32))) &&& 31).toUInt32).toInt32).toInt8.toInt32
  | _ => ((y.toUInt32 >>> (((24 : Int32) - ((8 : Int32) * (3 : Int32))) &&& 31).toUInt32).toInt32).toInt8.toInt32
def own_w (g : Nat → Int32) (p : Nat) (y : Int32) : Nat → Int32 := fun j => if p ≤ j ∧ j < p + 4 then own_yb y (j - p) else g j
theorem own_w4 (g : Nat → Int32) (p : Nat) (y : Int32) (j : Nat) : own_ui (own_ui (own_ui (own_ui g p (own_yb y 0)) (p + 1) (own_yb y 1)) (p + 2) (own_yb y 2)) (p + 3) (own_yb y 3) j = own_w g p y j := by
  simp only [own_ui, own_w]
  by_cases h3 : j = p + 3
  · subst h3; rw [if_pos rfl, if_pos (by omega), show p + 3 - p = 3 by omega]
  rw [if_neg h3]
  by_cases h2 : j = p + 2
  · subst h2; rw [if_pos rfl, if_pos (by omega), show p + 2 - p = 2 by omega]
  rw [if_neg h2]
  by_cases h1 : j = p + 1
  · subst h1; rw [if_pos rfl, if_pos (by omega), show p + 1 - p = 1 by omega]
  rw [if_neg h1]
  by_cases h0 : j = p
  · subst h0; rw [if_pos rfl, if_pos (by omega), show j - j = 0 by omega]
  rw [if_neg h0, if_neg (by omega)]
theorem own_w_at (g : Nat → Int32) (p : Nat) (y : Int32) (d : Nat) (hd : d < 4) : own_w g p y (p + d) = own_yb y d := by
  simp only [own_w]; rw [if_pos (by omega), show p + d - p = d by omega]
theorem own_shr (y : Int32) (n : UInt32) (k : Nat) (hn : n.toNat = k) (hk : k < 32) (i : Nat) : ((y.toUInt32 >>> n).toInt32).toBitVec.getLsbD i = y.toBitVec.getLsbD (k + i) := by
  show (y.toUInt32 >>> n).toBitVec.getLsbD i = _
  rw [UInt32.toBitVec_shiftRight]
  have : (n.toBitVec % 32).toNat = k := by
    rw [BitVec.toNat_umod]; show n.toNat % 32 = k; omega
  rw [BitVec.ushiftRight_eq', this, BitVec.getLsbD_ushiftRight]; rfl
theorem own_shl (y n : Int32) (k : Nat) (hn : (n.toBitVec.smod 32).toNat = k) (i : Nat) : (y <<< n).toBitVec.getLsbD i = (decide (i < 32) && !decide (i < k) && y.toBitVec.getLsbD (i - k)) := by
  rw [Int32.toBitVec_shiftLeft, BitVec.shiftLeft_eq', hn, BitVec.getLsbD_shiftLeft]
theorem own_lo8 (z : Int32) (i : Nat) : (z.toInt8.toInt32 &&& (255 : Int32)).toBitVec.getLsbD i = (decide (i < 8) && z.toBitVec.getLsbD i) := by
  have hb : ∀ i : Fin 32, (255#32).getLsbD i.val = decide (i.val < 8) := by decide
  show (((z.toBitVec.signExtend 8).signExtend 32) &&& 255#32).getLsbD i = _
  rw [BitVec.getLsbD_and]
  by_cases hi : i < 32
  · have h1 := hb ⟨i, hi⟩
    simp only at h1
    rw [h1, BitVec.getLsbD_signExtend, BitVec.signExtend_eq_setWidth_of_le _ (by decide : 8 ≤ 32), BitVec.getLsbD_setWidth]
    generalize z.toBitVec.getLsbD i = q
    by_cases h8 : i < 8
    · simp [h8, hi]
    · simp [h8]
  · rw [BitVec.getLsbD_of_ge (255#32) i (by omega)]
    have h8 : ¬ i < 8 := by omega
    simp [h8]
theorem own_y8 (y : Int32) (n : UInt32) (k : Nat) (hn : n.toNat = k) (hk : k < 32) (i : Nat) : ((((y.toUInt32 >>> n).toInt32).toInt8.toInt32) &&& (255 : Int32)).toBitVec.getLsbD i = (decide (i < 8) && y.toBitVec.getLsbD (k + i)) := by
  rw [own_lo8, own_shr y n k hn hk]
theorem own_back (y : Int32) : ((((((own_yb y 0) &&& (255 : Int32)) <<< ((24 : Int32) &&& 31)) ||| (((own_yb y 1) &&& (255 : Int32)) <<< ((16 : Int32) &&& 31))) ||| (((own_yb y 2) &&& (255 : Int32)) <<< ((8 : Int32) &&& 31))) ||| ((own_yb y 3) &&& (255 : Int32))) = y := by
  apply Int32.toBitVec_inj.mp
  apply BitVec.eq_of_getLsbD_eq
  intro i hi
  have e0 : ∀ j, ((own_yb y 0) &&& (255 : Int32)).toBitVec.getLsbD j = (decide (j < 8) && y.toBitVec.getLsbD (24 + j)) := fun j => own_y8 y _ 24 (by decide) (by decide) j
  have e1 : ∀ j, ((own_yb y 1) &&& (255 : Int32)).toBitVec.getLsbD j = (decide (j < 8) && y.toBitVec.getLsbD (16 + j)) := fun j => own_y8 y _ 16 (by decide) (by decide) j
  have e2 : ∀ j, ((own_yb y 2) &&& (255 : Int32)).toBitVec.getLsbD j = (decide (j < 8) && y.toBitVec.getLsbD (8 + j)) := fun j => own_y8 y _ 8 (by decide) (by decide) j
  have e3 : ∀ j, ((own_yb y 3) &&& (255 : Int32)).toBitVec.getLsbD j = (decide (j < 8) && y.toBitVec.getLsbD (0 + j)) := fun j => own_y8 y _ 0 (by decide) (by decide) j
  simp only [Int32.toBitVec_or, BitVec.getLsbD_or]
  rw [own_shl _ _ 24 (by decide), own_shl _ _ 16 (by decide), own_shl _ _ 8 (by decide), e0, e1, e2, e3]
  have t : i < 8 ∨ (8 ≤ i ∧ i < 16) ∨ (16 ≤ i ∧ i < 24) ∨ (24 ≤ i ∧ i < 32) := by omega
  rcases t with t | t | t | t
  · simp [hi, t, show i < 24 by omega, show i < 16 by omega]
  · simp [hi, show ¬ i < 8 by omega, show i < 16 by omega, show i < 24 by omega, show i - 8 < 8 by omega, show 8 + (i - 8) = i by omega]
  · simp [hi, show ¬ i < 8 by omega, show ¬ i < 16 by omega, show i < 24 by omega, show ¬ i - 8 < 8 by omega, show i - 16 < 8 by omega, show 16 + (i - 16) = i by omega]
  · simp [hi, show ¬ i < 8 by omega, show ¬ i < 16 by omega, show ¬ i < 24 by omega, show ¬ i - 8 < 8 by omega, show ¬ i - 16 < 8 by omega, show i - 24 < 8 by omega, show 24 + (i - 24) = i by omega]

def IW (Z : State) (h : Heap) (a ab : Addr) (sz : Nat) (g : Nat → Int32) : Prop := Exa Z h a "com/example/khepri/khepri/ImageWriter" ∧ Fld Z h a "com/example/khepri/khepri/ImageWriter" "bytes" "[B" (.ref ab) ∧ Fld Z h a "com/example/khepri/khepri/ImageWriter" "size" "I" (.int (Int32.ofNat sz)) ∧ Ary Z h ab .byte 4096 (fun j => .int (g j)) ∧ a ≠ ab
theorem IW.keep {Z : State} {h h' : Heap} {a ab : Addr} {sz : Nat} {g : Nat → Int32} (I : IW Z h a ab sz g) (k : Keep h h' []) : IW Z h' a ab sz g := ⟨I.1.keep k, I.2.1.keep k nin0, I.2.2.1.keep k nin0, I.2.2.2.1.keep k nin0, I.2.2.2.2⟩
theorem d1_0 : decode prog_141_method_1_code 0 = .ok (.aload_n 0, 1) := by decide +kernel
theorem d1_1 : decode prog_141_method_1_code 1 = .ok (.invokespecial 1, 3) := by decide +kernel
theorem d1_4 : decode prog_141_method_1_code 4 = .ok (.aload_n 0, 1) := by decide +kernel
theorem d1_5 : decode prog_141_method_1_code 5 = .ok (.sipush 4096, 3) := by decide +kernel
theorem d1_8 : decode prog_141_method_1_code 8 = .ok (.newarray .byte, 2) := by decide +kernel
theorem d1_10 : decode prog_141_method_1_code 10 = .ok (.putfield 7, 3) := by decide +kernel
theorem d1_13 : decode prog_141_method_1_code 13 = .ok (.return_, 1) := by decide +kernel
theorem pn_1 : plainFor (⟨"com/example/khepri/khepri/ImageWriter", "<init>", "()V"⟩ : MethodName) = true := by first | exact plainFor_of_name (by first | (simp [plainName, overriddenIn]; done) | decide +kernel) | decide +kernel
theorem ef_1 (m : MethodId) (x0 : Addr) : entryFrame m #[(.ref x0)] 1 = mkF m 0 #[.val (.ref x0)] [] := by first | (simp [entryFrame, mkF, argsToLocals, Value.category]; done) | rfl
def Q1 (Z : State) (a1 : Addr) (h0 : Heap) (n0 : Nat) (v : Option Value) (h : Heap) (L : List Loc) : Prop := v = none ∧ Fr n0 L ∧ n0 ≤ h.size ∧ IW Z h a1 h0.size 0 (fun _ => 0)
set_option maxRecDepth 65536 in
set_option maxHeartbeats 40000000 in
theorem rm1 (l : Launch) (Z : State) (a0 : Array Value) (hw : ∀ d ∈ tables_1, d.before a0 Z = true) (ws : List Jvm.Cond) (a1 : Addr) (h0 : Heap) (n0 : Nat) (Z0 : n0 ≤ h0.size) (E_a : Exa Z h0 a1 "com/example/khepri/khepri/ImageWriter") (F_by : Fld Z h0 a1 "com/example/khepri/khepri/ImageWriter" "bytes" "[B" .null) (F_sz : Fld Z h0 a1 "com/example/khepri/khepri/ImageWriter" "size" "I" (.int (0 : Int32))) (g1 : n0 ≤ a1) :
    MetFree l (⟨"com/example/khepri/khepri/ImageWriter", "<init>", "()V"⟩ : MethodName) (head1 (Jvm.Cond.code (⟨"com/example/khepri/khepri/ImageWriter", "<init>", "()V"⟩ : MethodName) prog_141_method_1_code 1 none :: ws) ({ frames := 1, cells := 1, slots := 4096, locals := 12 } : Room)) (fun a U => a = #[(.ref a1)] ∧ Z.Warmed39 U.vm ∧ U.heap = h0) (fun _ _ _ _ _ => True) (fun _ U o U' => ∃ v L, o = .returned v ∧ Q1 Z a1 h0 n0 v U'.heap L ∧ FrameEnd U o U' L ({ frames := 1, cells := 1, slots := 4096, locals := 12 } : Room).cells ({ frames := 1, cells := 1, slots := 4096, locals := 12 } : Room).slots) := by
  refine MetFree.of_bodySF pn_1 hisR ?_
  intro p e s m args below meth c s₁ Bd hml0 hP hK
  obtain ⟨rfl, hZ, hh⟩ := hP
  have hx := Bd.exec
  have hby := Bd.bytes
  have hml : c.maxLocals = 1 := hml0
  have hown : s.vm.findClass "com/example/khepri/khepri/ImageWriter" = some m.cls := findClass_of_methodNamed Bd.named
  have hnm := (name_of_methodNamed Bd.named Bd.method).1
  have hrt := Bd.returns
  have hlk : meth.locks = false := BodyLoose.notSynchronized Bd
  have X0 : Stand p l e ({ frames := 1, cells := 1, slots := 4096, locals := 12 } : Room) s m #[(.ref a1)] below meth c s₁ [] 0 0 := Stand.of_body Bd
  have e0 : s₁.heap = h0 := by rw [← hh, Bd.state]; rfl
  have N0 := Fr.nil n0
  show OwnG ({ frames := 1, cells := 1, slots := 4096, locals := 12 } : Room).cells ({ frames := 1, cells := 1, slots := 4096, locals := 12 } : Room).slots (Q1 Z a1 h0 n0) p e below s (s₁.setTop (entryFrame m #[(.ref a1)] 1))
  refine own_st (σ' := s₁.setTop (mkF m 0 #[.val (.ref a1)] [])) (fun _ kq_ => castTop (ef_1 m a1) kq_) ?_
  show OwnG _ _ _ _ _ _ _ (s₁.setTop (mkF m 0 #[.val (.ref a1)] []))
  refine own_st (fun _ kq_ => XS.aloadN X0.here hx rfl (hb hby d1_0) rfl rfl kq_) ?_
  show OwnG _ _ _ _ _ _ _ (s₁.setTop (mkF m 1 #[.val (.ref a1)] [(.ref a1)]))
  obtain ⟨T1, X1, e1, st1⟩ := initO X0 hx hZ hown (hw _ (List.mem_of_getElem? (i := 6) rfl)) (hw _ (List.mem_of_getElem? (i := 7) rfl)) (hw _ (List.mem_of_getElem? (i := 8) rfl)) e0 (g := (mkF m 1 #[.val (.ref a1)] [(.ref a1)])) rfl (by rw [hml]; rfl) rfl (hb hby d1_1) (by decide) (W := 0) (by show 2 * 0 + _ ≤ _; exact Nat.le_of_eq rfl) (by decide)
  refine own_st st1 ?_
  show OwnG _ _ _ _ _ _ _ (T1.setTop (mkF m 4 #[.val (.ref a1)] []))
  refine own_st (fun _ kq_ => XS.aloadN X1.here hx rfl (hb hby d1_4) rfl rfl kq_) ?_
  show OwnG _ _ _ _ _ _ _ (T1.setTop (mkF m 5 #[.val (.ref a1)] [(.ref a1)]))
  refine own_st (fun _ kq_ => XS.sipush X1.here hx rfl (hb hby d1_5) kq_) ?_
  show OwnG _ _ _ _ _ _ _ (T1.setTop (mkF m 8 #[.val (.ref a1)] [(.int (4096 : Int32)), (.ref a1)]))
  obtain ⟨T2, h2, X2, e2, E2, V2, st2⟩ := own_new X1 hx hZ (hw _ (List.mem_of_getElem? (i := 9) rfl)) e1 (g := (mkF m 8 #[.val (.ref a1)] [(.int (4096 : Int32)), (.ref a1)])) rfl (hb hby d1_8) rfl (4096) (by decide) (cap := 4096) (Nat.le_refl _) (by decide) (by decide) (by decide)
  obtain ⟨b2, g2⟩ : ∃ z, z = h0.size := ⟨_, rfl⟩
  rw [← g2] at V2 st2
  refine own_st st2 ?_
  show OwnG _ _ _ _ _ _ _ (T2.setTop (mkF m 10 #[.val (.ref a1)] [(.ref b2), (.ref a1)]))
  have Ee := E_a.ext E2
  have Fe := F_by.ext E2
  have Fs := F_sz.ext E2
  have hne : a1 ≠ b2 := Nat.ne_of_lt (Nat.lt_of_lt_of_le E_a.lt (Nat.le_of_eq g2.symm))
  have S2 : n0 ≤ h2.size := Nat.le_trans Z0 E2.1
  obtain ⟨T3, h3, X3, e3, W3, st3⟩ := putF X2 hx hZ hown (host := "") (Or.inl (hw _ (List.mem_of_getElem? (i := 10) rfl))) Via.refl e2 Fe Ee (Or.inl (hw _ (List.mem_of_getElem? (i := 11) rfl))) (hw _ (List.mem_of_getElem? (i := 1) rfl)) (ty := (.array .byte)) (by decide) rfl rfl (g := (mkF m 10 #[.val (.ref a1)] [(.ref b2), (.ref a1)])) rfl rfl (hb hby d1_10)
  have N3 := Fr.snoc X3 N0 g1
  refine own_st st3 ?_
  show OwnG _ _ _ _ _ _ _ (T3.setTop (mkF m 13 #[.val (.ref a1)] []))
  have Fs2 := Fs.other W3 (Or.inr (slot_ne (Or.inl (hw _ (List.mem_of_getElem? (i := 27) rfl))) (Or.inl (hw _ (List.mem_of_getElem? (i := 11) rfl))) (by decide) (t := .int) (t' := (.array .byte)) (by decide) (by decide)))
  have II : IW Z h3 a1 b2 0 (fun _ => 0) := ⟨Ee.wr W3, Fe.same W3, Fs2, V2.other W3 (Ne.symm hne), hne⟩
  rw [g2] at II
  exact own_retV X3 hx hrt hlk (hb hby d1_13) (by decide) (by decide) (by show _ ∧ _; first | (rw [e3]; exact ⟨rfl, N3, by rw [W3.size]; exact S2, II⟩) | exact ⟨rfl, N3, by rw [W3.size]; exact S2, II⟩)
theorem d5_0 : decode prog_141_method_12_code 0 = .ok (.aload_n 0, 1) := by decide +kernel
theorem d5_1 : decode prog_141_method_12_code 1 = .ok (.getfield 17, 3) := by decide +kernel
theorem d5_4 : decode prog_141_method_12_code 4 = .ok (.iload_n 1, 1) := by decide +kernel
theorem d5_5 : decode prog_141_method_12_code 5 = .ok (.iadd, 1) := by decide +kernel
theorem d5_6 : decode prog_141_method_12_code 6 = .ok (.aload_n 0, 1) := by decide +kernel
theorem d5_7 : decode prog_141_method_12_code 7 = .ok (.getfield 7, 3) := by decide +kernel
theorem d5_10 : decode prog_141_method_12_code 10 = .ok (.arraylength, 1) := by decide +kernel
theorem d5_11 : decode prog_141_method_12_code 11 = .ok (.if_icmp .le 30, 3) := by decide +kernel
theorem d5_14 : decode prog_141_method_12_code 14 = .ok (.aload_n 0, 1) := by decide +kernel
theorem d5_15 : decode prog_141_method_12_code 15 = .ok (.aload_n 0, 1) := by decide +kernel
theorem d5_16 : decode prog_141_method_12_code 16 = .ok (.getfield 7, 3) := by decide +kernel
theorem d5_19 : decode prog_141_method_12_code 19 = .ok (.aload_n 0, 1) := by decide +kernel
theorem d5_20 : decode prog_141_method_12_code 20 = .ok (.getfield 7, 3) := by decide +kernel
theorem d5_23 : decode prog_141_method_12_code 23 = .ok (.arraylength, 1) := by decide +kernel
theorem d5_24 : decode prog_141_method_12_code 24 = .ok (.iconst 2, 1) := by decide +kernel
theorem d5_25 : decode prog_141_method_12_code 25 = .ok (.imul, 1) := by decide +kernel
theorem d5_26 : decode prog_141_method_12_code 26 = .ok (.aload_n 0, 1) := by decide +kernel
theorem d5_27 : decode prog_141_method_12_code 27 = .ok (.getfield 17, 3) := by decide +kernel
theorem d5_30 : decode prog_141_method_12_code 30 = .ok (.iload_n 1, 1) := by decide +kernel
theorem d5_31 : decode prog_141_method_12_code 31 = .ok (.iadd, 1) := by decide +kernel
theorem d5_32 : decode prog_141_method_12_code 32 = .ok (.invokestatic 55, 3) := by decide +kernel
theorem d5_35 : decode prog_141_method_12_code 35 = .ok (.invokestatic 49, 3) := by decide +kernel
theorem d5_38 : decode prog_141_method_12_code 38 = .ok (.putfield 7, 3) := by decide +kernel
theorem d5_41 : decode prog_141_method_12_code 41 = .ok (.return_, 1) := by decide +kernel
theorem pn_2 : plainFor (⟨"com/example/khepri/khepri/ImageWriter", "room", "(I)V"⟩ : MethodName) = true := by first | exact plainFor_of_name (by first | (simp [plainName, overriddenIn]; done) | decide +kernel) | decide +kernel
theorem ef_2 (m : MethodId) (x0 : Addr) (x1 : Int32) : entryFrame m #[(.ref x0), (.int x1)] 2 = mkF m 0 #[.val (.ref x0), .val (.int x1)] [] := by first | (simp [entryFrame, mkF, argsToLocals, Value.category]; done) | rfl
def Q2 (Z : State) (a1 : Addr) (ab : Addr) (sz : Nat) (g : Nat → Int32) (h0 : Heap) (n0 : Nat) (v : Option Value) (h : Heap) (L : List Loc) : Prop := v = none ∧ Fr n0 L ∧ h = h0
set_option maxRecDepth 65536 in
set_option maxHeartbeats 40000000 in
theorem rm2 (l : Launch) (Z : State) (a0 : Array Value) (hw : ∀ d ∈ tables_1, d.before a0 Z = true) (ws : List Jvm.Cond) (a1 : Addr) (ab : Addr) (sz : Nat) (g : Nat → Int32) (h0 : Heap) (n0 : Nat) (Z0 : n0 ≤ h0.size) (hsz : sz + 4 ≤ 4096) (I0 : IW Z h0 a1 ab sz g) :
    MetFree l (⟨"com/example/khepri/khepri/ImageWriter", "room", "(I)V"⟩ : MethodName) (head1 (Jvm.Cond.code (⟨"com/example/khepri/khepri/ImageWriter", "room", "(I)V"⟩ : MethodName) prog_141_method_12_code 2 none :: ws) ({ frames := 0, cells := 0, slots := 0, locals := 0 } : Room)) (fun a U => a = #[(.ref a1), (.int (4 : Int32))] ∧ Z.Warmed39 U.vm ∧ U.heap = h0) (fun _ _ _ _ _ => True) (fun _ U o U' => ∃ v L, o = .returned v ∧ Q2 Z a1 ab sz g h0 n0 v U'.heap L ∧ FrameEnd U o U' L ({ frames := 0, cells := 0, slots := 0, locals := 0 } : Room).cells ({ frames := 0, cells := 0, slots := 0, locals := 0 } : Room).slots) := by
  refine MetFree.of_bodySF pn_2 hisR ?_
  intro p e s m args below meth c s₁ Bd hml0 hP hK
  obtain ⟨rfl, hZ, hh⟩ := hP
  have hx := Bd.exec
  have hby := Bd.bytes
  have hml : c.maxLocals = 2 := hml0
  have hown : s.vm.findClass "com/example/khepri/khepri/ImageWriter" = some m.cls := findClass_of_methodNamed Bd.named
  have hnm := (name_of_methodNamed Bd.named Bd.method).1
  have hrt := Bd.returns
  have hlk : meth.locks = false := BodyLoose.notSynchronized Bd
  have X0 : Stand p l e ({ frames := 0, cells := 0, slots := 0, locals := 0 } : Room) s m #[(.ref a1), (.int (4 : Int32))] below meth c s₁ [] 0 0 := Stand.of_body Bd
  have e0 : s₁.heap = h0 := by rw [← hh, Bd.state]; rfl
  have N0 := Fr.nil n0
  show OwnG ({ frames := 0, cells := 0, slots := 0, locals := 0 } : Room).cells ({ frames := 0, cells := 0, slots := 0, locals := 0 } : Room).slots (Q2 Z a1 ab sz g h0 n0) p e below s (s₁.setTop (entryFrame m #[(.ref a1), (.int (4 : Int32))] 2))
  refine own_st (σ' := s₁.setTop (mkF m 0 #[.val (.ref a1), .val (.int (4 : Int32))] [])) (fun _ kq_ => castTop (ef_2 m a1 (4 : Int32)) kq_) ?_
  show OwnG _ _ _ _ _ _ _ (s₁.setTop (mkF m 0 #[.val (.ref a1), .val (.int (4 : Int32))] []))
  obtain ⟨E_a, F_by, F_sz, V0, hne⟩ := I0
  refine own_st (fun _ kq_ => XS.aloadN X0.here hx rfl (hb hby d5_0) rfl rfl kq_) ?_
  show OwnG _ _ _ _ _ _ _ (s₁.setTop (mkF m 1 #[.val (.ref a1), .val (.int (4 : Int32))] [(.ref a1)]))
  obtain ⟨T4, X4, e4, st4⟩ := getF X0 hx hZ hown (host := "") (Or.inl (hw _ (List.mem_of_getElem? (i := 26) rfl))) Via.refl e0 F_sz (g := (mkF m 1 #[.val (.ref a1), .val (.int (4 : Int32))] [(.ref a1)])) rfl rfl (hb hby d5_1)
  refine own_st st4 ?_
  show OwnG _ _ _ _ _ _ _ (T4.setTop (mkF m 4 #[.val (.ref a1), .val (.int (4 : Int32))] [(.int (Int32.ofNat sz))]))
  refine own_st (fun _ kq_ => XS.iloadN X4.here hx rfl (hb hby d5_4) rfl kq_) ?_
  show OwnG _ _ _ _ _ _ _ (T4.setTop (mkF m 5 #[.val (.ref a1), .val (.int (4 : Int32))] [(.int (4 : Int32)), (.int (Int32.ofNat sz))]))
  refine own_st (fun _ kq_ => XS.iadd X4.here hx rfl (hb hby d5_5) rfl kq_) ?_
  show OwnG _ _ _ _ _ _ _ (T4.setTop (mkF m 6 #[.val (.ref a1), .val (.int (4 : Int32))] [(.int ((Int32.ofNat sz) + (4 : Int32)))]))
  refine own_st (fun _ kq_ => XS.aloadN X4.here hx rfl (hb hby d5_6) rfl rfl kq_) ?_
  show OwnG _ _ _ _ _ _ _ (T4.setTop (mkF m 7 #[.val (.ref a1), .val (.int (4 : Int32))] [(.ref a1), (.int ((Int32.ofNat sz) + (4 : Int32)))]))
  obtain ⟨T5, X5, e5, st5⟩ := getF X4 hx hZ hown (host := "") (Or.inl (hw _ (List.mem_of_getElem? (i := 10) rfl))) Via.refl e4 F_by (g := (mkF m 7 #[.val (.ref a1), .val (.int (4 : Int32))] [(.ref a1), (.int ((Int32.ofNat sz) + (4 : Int32)))])) rfl rfl (hb hby d5_7)
  refine own_st st5 ?_
  show OwnG _ _ _ _ _ _ _ (T5.setTop (mkF m 10 #[.val (.ref a1), .val (.int (4 : Int32))] [(.ref ab), (.int ((Int32.ofNat sz) + (4 : Int32)))]))
  refine own_st (own_len X5 hx hZ e5 V0 (z := (4096 : Int32)) rfl (g := (mkF m 10 #[.val (.ref a1), .val (.int (4 : Int32))] [(.ref ab), (.int ((Int32.ofNat sz) + (4 : Int32)))])) rfl rfl (hb hby d5_10)) ?_
  show OwnG _ _ _ _ _ _ _ (T5.setTop (mkF m 11 #[.val (.ref a1), .val (.int (4 : Int32))] [(.int (4096 : Int32)), (.int ((Int32.ofNat sz) + (4 : Int32)))]))
  refine own_st (fun _ kq_ => XS.icmpYes X5.here hx rfl (pc0 := 11) (pc' := 41) rfl (hb hby d5_11) rfl (flt (by rw [Int32.lt_iff_toInt_lt, own_add _ _ sz 4 (own_to sz (by omega)) rfl (by omega)]; show ¬ (4096 : Int) < _; omega)).2.2.2 (by decide) (by decide) kq_) ?_
  show OwnG _ _ _ _ _ _ _ (T5.setTop (mkF m 41 #[.val (.ref a1), .val (.int (4 : Int32))] []))
  exact own_retV X5 hx hrt hlk (hb hby d5_41) (by decide) (by decide) (by show _ ∧ _; first | (rw [e5]; exact ⟨rfl, N0, rfl⟩) | exact ⟨rfl, N0, rfl⟩)
theorem d4_0 : decode prog_141_method_4_code 0 = .ok (.aload_n 0, 1) := by decide +kernel
theorem d4_1 : decode prog_141_method_4_code 1 = .ok (.iconst 4, 1) := by decide +kernel
theorem d4_2 : decode prog_141_method_4_code 2 = .ok (.invokevirtual 13, 3) := by decide +kernel
theorem d4_5 : decode prog_141_method_4_code 5 = .ok (.bipush 24, 2) := by decide +kernel
theorem d4_7 : decode prog_141_method_4_code 7 = .ok (.istore_n 2, 1) := by decide +kernel
theorem d4_8 : decode prog_141_method_4_code 8 = .ok (.iload_n 2, 1) := by decide +kernel
theorem d4_9 : decode prog_141_method_4_code 9 = .ok (.ifCond .lt 29, 3) := by decide +kernel
theorem d4_12 : decode prog_141_method_4_code 12 = .ok (.aload_n 0, 1) := by decide +kernel
theorem d4_13 : decode prog_141_method_4_code 13 = .ok (.getfield 7, 3) := by decide +kernel
theorem d4_16 : decode prog_141_method_4_code 16 = .ok (.aload_n 0, 1) := by decide +kernel
theorem d4_17 : decode prog_141_method_4_code 17 = .ok (.dup, 1) := by decide +kernel
theorem d4_18 : decode prog_141_method_4_code 18 = .ok (.getfield 17, 3) := by decide +kernel
theorem d4_21 : decode prog_141_method_4_code 21 = .ok (.dup_x1, 1) := by decide +kernel
theorem d4_22 : decode prog_141_method_4_code 22 = .ok (.iconst 1, 1) := by decide +kernel
theorem d4_23 : decode prog_141_method_4_code 23 = .ok (.iadd, 1) := by decide +kernel
theorem d4_24 : decode prog_141_method_4_code 24 = .ok (.putfield 17, 3) := by decide +kernel
theorem d4_27 : decode prog_141_method_4_code 27 = .ok (.iload_n 1, 1) := by decide +kernel
theorem d4_28 : decode prog_141_method_4_code 28 = .ok (.iload_n 2, 1) := by decide +kernel
theorem d4_29 : decode prog_141_method_4_code 29 = .ok (.iushr, 1) := by decide +kernel
theorem d4_30 : decode prog_141_method_4_code 30 = .ok (.i2b, 1) := by decide +kernel
theorem d4_31 : decode prog_141_method_4_code 31 = .ok (.bastore, 1) := by decide +kernel
theorem d4_32 : decode prog_141_method_4_code 32 = .ok (.iinc 2 (-8), 3) := by decide +kernel
theorem d4_35 : decode prog_141_method_4_code 35 = .ok (.goto (-27), 3) := by decide +kernel
theorem d4_38 : decode prog_141_method_4_code 38 = .ok (.return_, 1) := by decide +kernel
theorem pn_3 : plainFor (⟨"com/example/khepri/khepri/ImageWriter", "writeInt", "(I)V"⟩ : MethodName) = true := by first | exact plainFor_of_name (by first | (simp [plainName, overriddenIn]; done) | decide +kernel) | decide +kernel
theorem ef_3 (m : MethodId) (x0 : Addr) (x1 : Int32) : entryFrame m #[(.ref x0), (.int x1)] 3 = mkF m 0 #[.val (.ref x0), .val (.int x1), .unset] [] := by first | (simp [entryFrame, mkF, argsToLocals, Value.category]; done) | rfl
def Q3 (Z : State) (a1 : Addr) (ab : Addr) (sz : Nat) (g : Nat → Int32) (y : Int32) (h0 : Heap) (n0 : Nat) (v : Option Value) (h : Heap) (L : List Loc) : Prop := v = none ∧ Fr n0 L ∧ n0 ≤ h.size ∧ ∃ g', IW Z h a1 ab (sz + 4) g'
set_option maxRecDepth 65536 in
set_option maxHeartbeats 40000000 in
theorem rm3 (l : Launch) (Z : State) (a0 : Array Value) (hw : ∀ d ∈ tables_1, d.before a0 Z = true) (ws : List Jvm.Cond) (a1 : Addr) (ab : Addr) (sz : Nat) (g : Nat → Int32) (y : Int32) (h0 : Heap) (n0 : Nat) (Z0 : n0 ≤ h0.size) (hsz : sz + 4 ≤ 4096) (I0 : IW Z h0 a1 ab sz g) (ga : n0 ≤ a1) (gab : n0 ≤ ab) :
    MetFree l (⟨"com/example/khepri/khepri/ImageWriter", "writeInt", "(I)V"⟩ : MethodName) (head1 (Jvm.Cond.code (⟨"com/example/khepri/khepri/ImageWriter", "writeInt", "(I)V"⟩ : MethodName) prog_141_method_4_code 3 none :: ws) ({ frames := 1, cells := 0, slots := 0, locals := 13 } : Room)) (fun a U => a = #[(.ref a1), (.int y)] ∧ Z.Warmed39 U.vm ∧ U.heap = h0) (fun _ _ _ _ _ => True) (fun _ U o U' => ∃ v L, o = .returned v ∧ Q3 Z a1 ab sz g y h0 n0 v U'.heap L ∧ FrameEnd U o U' L ({ frames := 1, cells := 0, slots := 0, locals := 13 } : Room).cells ({ frames := 1, cells := 0, slots := 0, locals := 13 } : Room).slots) := by
  refine MetFree.of_bodySF pn_3 hisR ?_
  intro p e s m args below meth c s₁ Bd hml0 hP hK
  obtain ⟨rfl, hZ, hh⟩ := hP
  have hx := Bd.exec
  have hby := Bd.bytes
  have hml : c.maxLocals = 3 := hml0
  have hown : s.vm.findClass "com/example/khepri/khepri/ImageWriter" = some m.cls := findClass_of_methodNamed Bd.named
  have hnm := (name_of_methodNamed Bd.named Bd.method).1
  have hrt := Bd.returns
  have hlk : meth.locks = false := BodyLoose.notSynchronized Bd
  have X0 : Stand p l e ({ frames := 1, cells := 0, slots := 0, locals := 13 } : Room) s m #[(.ref a1), (.int y)] below meth c s₁ [] 0 0 := Stand.of_body Bd
  have e0 : s₁.heap = h0 := by rw [← hh, Bd.state]; rfl
  have N0 := Fr.nil n0
  show OwnG ({ frames := 1, cells := 0, slots := 0, locals := 13 } : Room).cells ({ frames := 1, cells := 0, slots := 0, locals := 13 } : Room).slots (Q3 Z a1 ab sz g y h0 n0) p e below s (s₁.setTop (entryFrame m #[(.ref a1), (.int y)] 3))
  refine own_st (σ' := s₁.setTop (mkF m 0 #[.val (.ref a1), .val (.int y), .unset] [])) (fun _ kq_ => castTop (ef_3 m a1 y) kq_) ?_
  show OwnG _ _ _ _ _ _ _ (s₁.setTop (mkF m 0 #[.val (.ref a1), .val (.int y), .unset] []))
  have I0c := I0
  obtain ⟨E_a, F_by, F_sz, V0, hne⟩ := I0
  refine own_st (fun _ kq_ => XS.aloadN X0.here hx rfl (hb hby d4_0) rfl rfl kq_) ?_
  show OwnG _ _ _ _ _ _ _ (s₁.setTop (mkF m 1 #[.val (.ref a1), .val (.int y), .unset] [(.ref a1)]))
  refine own_st (fun _ kq_ => XS.iconst X0.here hx rfl (hb hby d4_1) kq_) ?_
  show OwnG _ _ _ _ _ _ _ (s₁.setTop (mkF m 2 #[.val (.ref a1), .val (.int y), .unset] [(.int (4 : Int32)), (.ref a1)]))
  obtain ⟨cq6, q6, q6'⟩ := E_a.cell
  obtain ⟨_, _, ⟨T6, L6, k6, n6⟩, -, X6, ⟨Lc6, hQ6, l6, y6, z6⟩, st6⟩ := X0.privateBack hx (y := (⟨"com/example/khepri/khepri/ImageWriter", "room", "(I)V"⟩ : MethodName)) hown (mvT hZ (hw _ (List.mem_of_getElem? (i := 22) rfl))) (mvT hZ (hw _ (List.mem_of_getElem? (i := 23) rfl))) (own_sel (y := (⟨"com/example/khepri/khepri/ImageWriter", "room", "(I)V"⟩ : MethodName)) (mvT hZ (hw _ (List.mem_of_getElem? (i := 1) rfl))) (Cond.privateMethod_at (mvP hZ (hw _ (List.mem_of_getElem? (i := 24) rfl)) (args := #[]))) (mvT hZ (hw _ (List.mem_of_getElem? (i := 23) rfl))) (by decide)) (Cond.privateMethod_at (mvP hZ (hw _ (List.mem_of_getElem? (i := 24) rfl)) (args := #[]))) (mvT hZ (hw _ (List.mem_of_getElem? (i := 25) rfl))) (by decide) (backOf (W := 0) (rm2 l Z a0 hw [] a1 ab sz g h0 n0 Z0 hsz I0c) hZ (hw _ (List.mem_of_getElem? (i := 25) rfl)) (hw _ (List.mem_of_getElem? (i := 2) rfl)) (by decide) (by decide)) (g := (mkF m 2 #[.val (.ref a1), .val (.int y), .unset] [(.int (4 : Int32)), (.ref a1)])) rfl (by rw [hml]; rfl) (Steps.refl _) (a := a1) (by rw [e0]; exact q6) q6' (argsL := [(.int (4 : Int32))]) (rest := []) (lenOf (by decide +kernel : parseMethodDescriptor "(I)V" = some ⟨[.int], none⟩) rfl) rfl (by show 2 * 0 + _ ≤ _; exact Nat.le_of_eq rfl) (hb hby d4_2) (fun _ _ => ⟨rfl, e0, (by dsimp only [Pt.cells]; decide), (by dsimp only [Pt.slots]; decide)⟩)
  dsimp only [Pt.U, Pt.locs, Pt.cells, Pt.slots] at X6 l6 y6 z6 st6 hQ6
  subst l6 y6 z6
  obtain ⟨rfl, N6q, E6⟩ := hQ6
  have N6 := Fr.app N0 N6q
  refine own_go st6 ?_
  show OwnG _ _ _ _ _ _ _ (T6.setTop (mkF m 5 #[.val (.ref a1), .val (.int y), .unset] []))
  refine own_st (fun _ kq_ => XS.bipush X6.here hx rfl (hb hby d4_5) kq_) ?_
  show OwnG _ _ _ _ _ _ _ (T6.setTop (mkF m 7 #[.val (.ref a1), .val (.int y), .unset] [(.int (24 : Int32))]))
  refine own_st (fun _ kq_ => XS.istoreN X6.here hx rfl (hb hby d4_7) rfl (l' := #[.val (.ref a1), .val (.int y), .val (.int (24 : Int32))]) rfl kq_) ?_
  show OwnG _ _ _ _ _ _ _ (T6.setTop (mkF m 8 #[.val (.ref a1), .val (.int y), .val (.int (24 : Int32))] []))
  refine own_st (fun _ kq_ => XS.iloadN X6.here hx rfl (hb hby d4_8) rfl kq_) ?_
  show OwnG _ _ _ _ _ _ _ (T6.setTop (mkF m 9 #[.val (.ref a1), .val (.int y), .val (.int (24 : Int32))] [(.int (24 : Int32))]))
  refine own_st (fun _ kq_ => XS.ifNo X6.here hx rfl (hb hby d4_9) rfl ((if0 _ _).trans (flt (by decide)).1) kq_) ?_
  show OwnG _ _ _ _ _ _ _ (T6.setTop (mkF m 12 #[.val (.ref a1), .val (.int y), .val (.int (24 : Int32))] []))
  refine own_st (fun _ kq_ => XS.aloadN X6.here hx rfl (hb hby d4_12) rfl rfl kq_) ?_
  show OwnG _ _ _ _ _ _ _ (T6.setTop (mkF m 13 #[.val (.ref a1), .val (.int y), .val (.int (24 : Int32))] [(.ref a1)]))
  obtain ⟨T7, X7, e7, st7⟩ := getF X6 hx hZ hown (host := "") (Or.inl (hw _ (List.mem_of_getElem? (i := 10) rfl))) Via.refl E6 F_by (g := (mkF m 13 #[.val (.ref a1), .val (.int y), .val (.int (24 : Int32))] [(.ref a1)])) rfl rfl (hb hby d4_13)
  refine own_st st7 ?_
  show OwnG _ _ _ _ _ _ _ (T7.setTop (mkF m 16 #[.val (.ref a1), .val (.int y), .val (.int (24 : Int32))] [(.ref ab)]))
  refine own_st (fun _ kq_ => XS.aloadN X7.here hx rfl (hb hby d4_16) rfl rfl kq_) ?_
  show OwnG _ _ _ _ _ _ _ (T7.setTop (mkF m 17 #[.val (.ref a1), .val (.int y), .val (.int (24 : Int32))] [(.ref a1), (.ref ab)]))
  refine own_st (fun _ kq_ => XS.dup X7.here hx rfl (hb hby d4_17) rfl rfl kq_) ?_
  show OwnG _ _ _ _ _ _ _ (T7.setTop (mkF m 18 #[.val (.ref a1), .val (.int y), .val (.int (24 : Int32))] [(.ref a1), (.ref a1), (.ref ab)]))
  obtain ⟨T8, X8, e8, st8⟩ := getF X7 hx hZ hown (host := "") (Or.inl (hw _ (List.mem_of_getElem? (i := 26) rfl))) Via.refl e7 F_sz (g := (mkF m 18 #[.val (.ref a1), .val (.int y), .val (.int (24 : Int32))] [(.ref a1), (.ref a1), (.ref ab)])) rfl rfl (hb hby d4_18)
  refine own_st st8 ?_
  show OwnG _ _ _ _ _ _ _ (T8.setTop (mkF m 21 #[.val (.ref a1), .val (.int y), .val (.int (24 : Int32))] [(.int (Int32.ofNat sz)), (.ref a1), (.ref ab)]))
  refine own_st (fun _ kq_ => XS.dupX1 X8.here hx rfl (hb hby d4_21) rfl rfl rfl kq_) ?_
  show OwnG _ _ _ _ _ _ _ (T8.setTop (mkF m 22 #[.val (.ref a1), .val (.int y), .val (.int (24 : Int32))] [(.int (Int32.ofNat sz)), (.ref a1), (.int (Int32.ofNat sz)), (.ref ab)]))
  refine own_st (fun _ kq_ => XS.iconst X8.here hx rfl (hb hby d4_22) kq_) ?_
  show OwnG _ _ _ _ _ _ _ (T8.setTop (mkF m 23 #[.val (.ref a1), .val (.int y), .val (.int (24 : Int32))] [(.int (1 : Int32)), (.int (Int32.ofNat sz)), (.ref a1), (.int (Int32.ofNat sz)), (.ref ab)]))
  refine own_st (fun _ kq_ => XS.iadd X8.here hx rfl (hb hby d4_23) rfl kq_) ?_
  show OwnG _ _ _ _ _ _ _ (T8.setTop (mkF m 24 #[.val (.ref a1), .val (.int y), .val (.int (24 : Int32))] [(.int ((Int32.ofNat sz) + (1 : Int32))), (.ref a1), (.int (Int32.ofNat sz)), (.ref ab)]))
  rw [own_one]
  show OwnG _ _ _ _ _ _ _ (T8.setTop (mkF m 24 #[.val (.ref a1), .val (.int y), .val (.int (24 : Int32))] [(.int (Int32.ofNat (sz + 1))), (.ref a1), (.int (Int32.ofNat sz)), (.ref ab)]))
  obtain ⟨T9, h9, X9, e9, W9, st9⟩ := putF X8 hx hZ hown (host := "") (Or.inl (hw _ (List.mem_of_getElem? (i := 26) rfl))) Via.refl e8 F_sz E_a (Or.inl (hw _ (List.mem_of_getElem? (i := 27) rfl))) (hw _ (List.mem_of_getElem? (i := 1) rfl)) (ty := .int) (by decide) rfl rfl (g := (mkF m 24 #[.val (.ref a1), .val (.int y), .val (.int (24 : Int32))] [(.int (Int32.ofNat (sz + 1))), (.ref a1), (.int (Int32.ofNat sz)), (.ref ab)])) rfl rfl (hb hby d4_24)
  have N9 := Fr.snoc X9 N6 ga
  refine own_st st9 ?_
  show OwnG _ _ _ _ _ _ _ (T9.setTop (mkF m 27 #[.val (.ref a1), .val (.int y), .val (.int (24 : Int32))] [(.int (Int32.ofNat sz)), (.ref ab)]))
  have E9_ := E_a.wr W9
  have by9 := F_by.other W9 (Or.inr (slot_ne (Or.inl (hw _ (List.mem_of_getElem? (i := 11) rfl))) (Or.inl (hw _ (List.mem_of_getElem? (i := 27) rfl))) (by decide) (t := (.array .byte)) (t' := .int) (by decide) (by decide)))
  have sz9 := F_sz.same W9
  have A9 := V0.other W9 (Ne.symm hne)
  refine own_st (fun _ kq_ => XS.iloadN X9.here hx rfl (hb hby d4_27) rfl kq_) ?_
  show OwnG _ _ _ _ _ _ _ (T9.setTop (mkF m 28 #[.val (.ref a1), .val (.int y), .val (.int (24 : Int32))] [(.int y), (.int (Int32.ofNat sz)), (.ref ab)]))
  refine own_st (fun _ kq_ => XS.iloadN X9.here hx rfl (hb hby d4_28) rfl kq_) ?_
  show OwnG _ _ _ _ _ _ _ (T9.setTop (mkF m 29 #[.val (.ref a1), .val (.int y), .val (.int (24 : Int32))] [(.int (24 : Int32)), (.int y), (.int (Int32.ofNat sz)), (.ref ab)]))
  refine own_st (fun _ kq_ => XS.iushr X9.here hx rfl (hb hby d4_29) rfl kq_) ?_
  show OwnG _ _ _ _ _ _ _ (T9.setTop (mkF m 30 #[.val (.ref a1), .val (.int y), .val (.int (24 : Int32))] [(.int ((y.toUInt32 >>> ((24 : Int32) &&& 31).toUInt32).toInt32)), (.int (Int32.ofNat sz)), (.ref ab)]))
  refine own_st (fun _ kq_ => XS.i2b X9.here hx rfl (hb hby d4_30) rfl kq_) ?_
  show OwnG _ _ _ _ _ _ _ (T9.setTop (mkF m 31 #[.val (.ref a1), .val (.int y), .val (.int (24 : Int32))] [(.int (((y.toUInt32 >>> ((24 : Int32) &&& 31).toUInt32).toInt32).toInt8.toInt32)), (.int (Int32.ofNat sz)), (.ref ab)]))
  obtain ⟨T10, h10, X10, e10, W10, V10, st10⟩ := own_sB X9 hx hZ e9 A9 (sz) (own_to sz (by omega)) (by omega) (g := (mkF m 31 #[.val (.ref a1), .val (.int y), .val (.int (24 : Int32))] [(.int (((y.toUInt32 >>> ((24 : Int32) &&& 31).toUInt32).toInt32).toInt8.toInt32)), (.int (Int32.ofNat sz)), (.ref ab)])) rfl rfl (hb hby d4_31)
  have N10 := Fr.snoc X10 N9 gab
  refine own_st st10 ?_
  show OwnG _ _ _ _ _ _ _ (T10.setTop (mkF m 32 #[.val (.ref a1), .val (.int y), .val (.int (24 : Int32))] []))
  have E10_ := E9_.wr W10
  have by10 := by9.other W10 (Or.inl hne)
  have sz10 := sz9.other W10 (Or.inl hne)
  have B10 : Ary Z h10 ab .byte 4096 (fun j => .int (own_ui g sz _ j)) := V10.cong fun j _ => own_uu _ _ _ _ rfl j
  generalize own_ui g sz _ = g10 at B10
  refine own_st (fun _ kq_ => XS.iinc X10.here hx rfl (hb hby d4_32) rfl (l' := #[.val (.ref a1), .val (.int y), .val (.int ((24 : Int32) + (-8 : Int32)))]) rfl kq_) ?_
  show OwnG _ _ _ _ _ _ _ (T10.setTop (mkF m 35 #[.val (.ref a1), .val (.int y), .val (.int ((24 : Int32) + (-8 : Int32)))] []))
  refine own_st (fun _ kq_ => XS.goto X10.here hx rfl (pc0 := 35) (pc' := 8) rfl (hb hby d4_35) (by decide) (by decide) kq_) ?_
  show OwnG _ _ _ _ _ _ _ (T10.setTop (mkF m 8 #[.val (.ref a1), .val (.int y), .val (.int ((24 : Int32) + (-8 : Int32)))] []))
  rw [show (24 : Int32) + (-8 : Int32) = 16 by decide]
  show OwnG _ _ _ _ _ _ _ (T10.setTop (mkF m 8 #[.val (.ref a1), .val (.int y), .val (.int (16 : Int32))] []))
  refine own_st (fun _ kq_ => XS.iloadN X10.here hx rfl (hb hby d4_8) rfl kq_) ?_
  show OwnG _ _ _ _ _ _ _ (T10.setTop (mkF m 9 #[.val (.ref a1), .val (.int y), .val (.int (16 : Int32))] [(.int (16 : Int32))]))
  refine own_st (fun _ kq_ => XS.ifNo X10.here hx rfl (hb hby d4_9) rfl ((if0 _ _).trans (flt (by decide)).1) kq_) ?_
  show OwnG _ _ _ _ _ _ _ (T10.setTop (mkF m 12 #[.val (.ref a1), .val (.int y), .val (.int (16 : Int32))] []))
  refine own_st (fun _ kq_ => XS.aloadN X10.here hx rfl (hb hby d4_12) rfl rfl kq_) ?_
  show OwnG _ _ _ _ _ _ _ (T10.setTop (mkF m 13 #[.val (.ref a1), .val (.int y), .val (.int (16 : Int32))] [(.ref a1)]))
  obtain ⟨T11, X11, e11, st11⟩ := getF X10 hx hZ hown (host := "") (Or.inl (hw _ (List.mem_of_getElem? (i := 10) rfl))) Via.refl e10 by10 (g := (mkF m 13 #[.val (.ref a1), .val (.int y), .val (.int (16 : Int32))] [(.ref a1)])) rfl rfl (hb hby d4_13)
  refine own_st st11 ?_
  show OwnG _ _ _ _ _ _ _ (T11.setTop (mkF m 16 #[.val (.ref a1), .val (.int y), .val (.int (16 : Int32))] [(.ref ab)]))
  refine own_st (fun _ kq_ => XS.aloadN X11.here hx rfl (hb hby d4_16) rfl rfl kq_) ?_
  show OwnG _ _ _ _ _ _ _ (T11.setTop (mkF m 17 #[.val (.ref a1), .val (.int y), .val (.int (16 : Int32))] [(.ref a1), (.ref ab)]))
  refine own_st (fun _ kq_ => XS.dup X11.here hx rfl (hb hby d4_17) rfl rfl kq_) ?_
  show OwnG _ _ _ _ _ _ _ (T11.setTop (mkF m 18 #[.val (.ref a1), .val (.int y), .val (.int (16 : Int32))] [(.ref a1), (.ref a1), (.ref ab)]))
  obtain ⟨T12, X12, e12, st12⟩ := getF X11 hx hZ hown (host := "") (Or.inl (hw _ (List.mem_of_getElem? (i := 26) rfl))) Via.refl e11 sz10 (g := (mkF m 18 #[.val (.ref a1), .val (.int y), .val (.int (16 : Int32))] [(.ref a1), (.ref a1), (.ref ab)])) rfl rfl (hb hby d4_18)
  refine own_st st12 ?_
  show OwnG _ _ _ _ _ _ _ (T12.setTop (mkF m 21 #[.val (.ref a1), .val (.int y), .val (.int (16 : Int32))] [(.int (Int32.ofNat (sz + 1))), (.ref a1), (.ref ab)]))
  refine own_st (fun _ kq_ => XS.dupX1 X12.here hx rfl (hb hby d4_21) rfl rfl rfl kq_) ?_
  show OwnG _ _ _ _ _ _ _ (T12.setTop (mkF m 22 #[.val (.ref a1), .val (.int y), .val (.int (16 : Int32))] [(.int (Int32.ofNat (sz + 1))), (.ref a1), (.int (Int32.ofNat (sz + 1))), (.ref ab)]))
  refine own_st (fun _ kq_ => XS.iconst X12.here hx rfl (hb hby d4_22) kq_) ?_
  show OwnG _ _ _ _ _ _ _ (T12.setTop (mkF m 23 #[.val (.ref a1), .val (.int y), .val (.int (16 : Int32))] [(.int (1 : Int32)), (.int (Int32.ofNat (sz + 1))), (.ref a1), (.int (Int32.ofNat (sz + 1))), (.ref ab)]))
  refine own_st (fun _ kq_ => XS.iadd X12.here hx rfl (hb hby d4_23) rfl kq_) ?_
  show OwnG _ _ _ _ _ _ _ (T12.setTop (mkF m 24 #[.val (.ref a1), .val (.int y), .val (.int (16 : Int32))] [(.int ((Int32.ofNat (sz + 1)) + (1 : Int32))), (.ref a1), (.int (Int32.ofNat (sz + 1))), (.ref ab)]))
  rw [own_one, show sz + 1 + 1 = sz + 2 from rfl]
  show OwnG _ _ _ _ _ _ _ (T12.setTop (mkF m 24 #[.val (.ref a1), .val (.int y), .val (.int (16 : Int32))] [(.int (Int32.ofNat (sz + 2))), (.ref a1), (.int (Int32.ofNat (sz + 1))), (.ref ab)]))
  obtain ⟨T13, h13, X13, e13, W13, st13⟩ := putF X12 hx hZ hown (host := "") (Or.inl (hw _ (List.mem_of_getElem? (i := 26) rfl))) Via.refl e12 sz10 E10_ (Or.inl (hw _ (List.mem_of_getElem? (i := 27) rfl))) (hw _ (List.mem_of_getElem? (i := 1) rfl)) (ty := .int) (by decide) rfl rfl (g := (mkF m 24 #[.val (.ref a1), .val (.int y), .val (.int (16 : Int32))] [(.int (Int32.ofNat (sz + 2))), (.ref a1), (.int (Int32.ofNat (sz + 1))), (.ref ab)])) rfl rfl (hb hby d4_24)
  have N13 := Fr.snoc X13 N10 ga
  refine own_st st13 ?_
  show OwnG _ _ _ _ _ _ _ (T13.setTop (mkF m 27 #[.val (.ref a1), .val (.int y), .val (.int (16 : Int32))] [(.int (Int32.ofNat (sz + 1))), (.ref ab)]))
  have E13_ := E10_.wr W13
  have by13 := by10.other W13 (Or.inr (slot_ne (Or.inl (hw _ (List.mem_of_getElem? (i := 11) rfl))) (Or.inl (hw _ (List.mem_of_getElem? (i := 27) rfl))) (by decide) (t := (.array .byte)) (t' := .int) (by decide) (by decide)))
  have sz13 := sz10.same W13
  have A13 := B10.other W13 (Ne.symm hne)
  refine own_st (fun _ kq_ => XS.iloadN X13.here hx rfl (hb hby d4_27) rfl kq_) ?_
  show OwnG _ _ _ _ _ _ _ (T13.setTop (mkF m 28 #[.val (.ref a1), .val (.int y), .val (.int (16 : Int32))] [(.int y), (.int (Int32.ofNat (sz + 1))), (.ref ab)]))
  refine own_st (fun _ kq_ => XS.iloadN X13.here hx rfl (hb hby d4_28) rfl kq_) ?_
  show OwnG _ _ _ _ _ _ _ (T13.setTop (mkF m 29 #[.val (.ref a1), .val (.int y), .val (.int (16 : Int32))] [(.int (16 : Int32)), (.int y), (.int (Int32.ofNat (sz + 1))), (.ref ab)]))
  refine own_st (fun _ kq_ => XS.iushr X13.here hx rfl (hb hby d4_29) rfl kq_) ?_
  show OwnG _ _ _ _ _ _ _ (T13.setTop (mkF m 30 #[.val (.ref a1), .val (.int y), .val (.int (16 : Int32))] [(.int ((y.toUInt32 >>> ((16 : Int32) &&& 31).toUInt32).toInt32)), (.int (Int32.ofNat (sz + 1))), (.ref ab)]))
  refine own_st (fun _ kq_ => XS.i2b X13.here hx rfl (hb hby d4_30) rfl kq_) ?_
  show OwnG _ _ _ _ _ _ _ (T13.setTop (mkF m 31 #[.val (.ref a1), .val (.int y), .val (.int (16 : Int32))] [(.int (((y.toUInt32 >>> ((16 : Int32) &&& 31).toUInt32).toInt32).toInt8.toInt32)), (.int (Int32.ofNat (sz + 1))), (.ref ab)]))
  obtain ⟨T14, h14, X14, e14, W14, V14, st14⟩ := own_sB X13 hx hZ e13 A13 (sz + 1) (own_to (sz + 1) (by omega)) (by omega) (g := (mkF m 31 #[.val (.ref a1), .val (.int y), .val (.int (16 : Int32))] [(.int (((y.toUInt32 >>> ((16 : Int32) &&& 31).toUInt32).toInt32).toInt8.toInt32)), (.int (Int32.ofNat (sz + 1))), (.ref ab)])) rfl rfl (hb hby d4_31)
  have N14 := Fr.snoc X14 N13 gab
  refine own_st st14 ?_
  show OwnG _ _ _ _ _ _ _ (T14.setTop (mkF m 32 #[.val (.ref a1), .val (.int y), .val (.int (16 : Int32))] []))
  have E14_ := E13_.wr W14
  have by14 := by13.other W14 (Or.inl hne)
  have sz14 := sz13.other W14 (Or.inl hne)
  have B14 : Ary Z h14 ab .byte 4096 (fun j => .int (own_ui g10 (sz + 1) _ j)) := V14.cong fun j _ => own_uu _ _ _ _ rfl j
  generalize own_ui g10 (sz + 1) _ = g14 at B14
  refine own_st (fun _ kq_ => XS.iinc X14.here hx rfl (hb hby d4_32) rfl (l' := #[.val (.ref a1), .val (.int y), .val (.int ((16 : Int32) + (-8 : Int32)))]) rfl kq_) ?_
  show OwnG _ _ _ _ _ _ _ (T14.setTop (mkF m 35 #[.val (.ref a1), .val (.int y), .val (.int ((16 : Int32) + (-8 : Int32)))] []))
  refine own_st (fun _ kq_ => XS.goto X14.here hx rfl (pc0 := 35) (pc' := 8) rfl (hb hby d4_35) (by decide) (by decide) kq_) ?_
  show OwnG _ _ _ _ _ _ _ (T14.setTop (mkF m 8 #[.val (.ref a1), .val (.int y), .val (.int ((16 : Int32) + (-8 : Int32)))] []))
  rw [show (16 : Int32) + (-8 : Int32) = 8 by decide]
  show OwnG _ _ _ _ _ _ _ (T14.setTop (mkF m 8 #[.val (.ref a1), .val (.int y), .val (.int (8 : Int32))] []))
  refine own_st (fun _ kq_ => XS.iloadN X14.here hx rfl (hb hby d4_8) rfl kq_) ?_
  show OwnG _ _ _ _ _ _ _ (T14.setTop (mkF m 9 #[.val (.ref a1), .val (.int y), .val (.int (8 : Int32))] [(.int (8 : Int32))]))
  refine own_st (fun _ kq_ => XS.ifNo X14.here hx rfl (hb hby d4_9) rfl ((if0 _ _).trans (flt (by decide)).1) kq_) ?_
  show OwnG _ _ _ _ _ _ _ (T14.setTop (mkF m 12 #[.val (.ref a1), .val (.int y), .val (.int (8 : Int32))] []))
  refine own_st (fun _ kq_ => XS.aloadN X14.here hx rfl (hb hby d4_12) rfl rfl kq_) ?_
  show OwnG _ _ _ _ _ _ _ (T14.setTop (mkF m 13 #[.val (.ref a1), .val (.int y), .val (.int (8 : Int32))] [(.ref a1)]))
  obtain ⟨T15, X15, e15, st15⟩ := getF X14 hx hZ hown (host := "") (Or.inl (hw _ (List.mem_of_getElem? (i := 10) rfl))) Via.refl e14 by14 (g := (mkF m 13 #[.val (.ref a1), .val (.int y), .val (.int (8 : Int32))] [(.ref a1)])) rfl rfl (hb hby d4_13)
  refine own_st st15 ?_
  show OwnG _ _ _ _ _ _ _ (T15.setTop (mkF m 16 #[.val (.ref a1), .val (.int y), .val (.int (8 : Int32))] [(.ref ab)]))
  refine own_st (fun _ kq_ => XS.aloadN X15.here hx rfl (hb hby d4_16) rfl rfl kq_) ?_
  show OwnG _ _ _ _ _ _ _ (T15.setTop (mkF m 17 #[.val (.ref a1), .val (.int y), .val (.int (8 : Int32))] [(.ref a1), (.ref ab)]))
  refine own_st (fun _ kq_ => XS.dup X15.here hx rfl (hb hby d4_17) rfl rfl kq_) ?_
  show OwnG _ _ _ _ _ _ _ (T15.setTop (mkF m 18 #[.val (.ref a1), .val (.int y), .val (.int (8 : Int32))] [(.ref a1), (.ref a1), (.ref ab)]))
  obtain ⟨T16, X16, e16, st16⟩ := getF X15 hx hZ hown (host := "") (Or.inl (hw _ (List.mem_of_getElem? (i := 26) rfl))) Via.refl e15 sz14 (g := (mkF m 18 #[.val (.ref a1), .val (.int y), .val (.int (8 : Int32))] [(.ref a1), (.ref a1), (.ref ab)])) rfl rfl (hb hby d4_18)
  refine own_st st16 ?_
  show OwnG _ _ _ _ _ _ _ (T16.setTop (mkF m 21 #[.val (.ref a1), .val (.int y), .val (.int (8 : Int32))] [(.int (Int32.ofNat (sz + 2))), (.ref a1), (.ref ab)]))
  refine own_st (fun _ kq_ => XS.dupX1 X16.here hx rfl (hb hby d4_21) rfl rfl rfl kq_) ?_
  show OwnG _ _ _ _ _ _ _ (T16.setTop (mkF m 22 #[.val (.ref a1), .val (.int y), .val (.int (8 : Int32))] [(.int (Int32.ofNat (sz + 2))), (.ref a1), (.int (Int32.ofNat (sz + 2))), (.ref ab)]))
  refine own_st (fun _ kq_ => XS.iconst X16.here hx rfl (hb hby d4_22) kq_) ?_
  show OwnG _ _ _ _ _ _ _ (T16.setTop (mkF m 23 #[.val (.ref a1), .val (.int y), .val (.int (8 : Int32))] [(.int (1 : Int32)), (.int (Int32.ofNat (sz + 2))), (.ref a1), (.int (Int32.ofNat (sz + 2))), (.ref ab)]))
  refine own_st (fun _ kq_ => XS.iadd X16.here hx rfl (hb hby d4_23) rfl kq_) ?_
  show OwnG _ _ _ _ _ _ _ (T16.setTop (mkF m 24 #[.val (.ref a1), .val (.int y), .val (.int (8 : Int32))] [(.int ((Int32.ofNat (sz + 2)) + (1 : Int32))), (.ref a1), (.int (Int32.ofNat (sz + 2))), (.ref ab)]))
  rw [own_one, show sz + 2 + 1 = sz + 3 from rfl]
  show OwnG _ _ _ _ _ _ _ (T16.setTop (mkF m 24 #[.val (.ref a1), .val (.int y), .val (.int (8 : Int32))] [(.int (Int32.ofNat (sz + 3))), (.ref a1), (.int (Int32.ofNat (sz + 2))), (.ref ab)]))
  obtain ⟨T17, h17, X17, e17, W17, st17⟩ := putF X16 hx hZ hown (host := "") (Or.inl (hw _ (List.mem_of_getElem? (i := 26) rfl))) Via.refl e16 sz14 E14_ (Or.inl (hw _ (List.mem_of_getElem? (i := 27) rfl))) (hw _ (List.mem_of_getElem? (i := 1) rfl)) (ty := .int) (by decide) rfl rfl (g := (mkF m 24 #[.val (.ref a1), .val (.int y), .val (.int (8 : Int32))] [(.int (Int32.ofNat (sz + 3))), (.ref a1), (.int (Int32.ofNat (sz + 2))), (.ref ab)])) rfl rfl (hb hby d4_24)
  have N17 := Fr.snoc X17 N14 ga
  refine own_st st17 ?_
  show OwnG _ _ _ _ _ _ _ (T17.setTop (mkF m 27 #[.val (.ref a1), .val (.int y), .val (.int (8 : Int32))] [(.int (Int32.ofNat (sz + 2))), (.ref ab)]))
  have E17_ := E14_.wr W17
  have by17 := by14.other W17 (Or.inr (slot_ne (Or.inl (hw _ (List.mem_of_getElem? (i := 11) rfl))) (Or.inl (hw _ (List.mem_of_getElem? (i := 27) rfl))) (by decide) (t := (.array .byte)) (t' := .int) (by decide) (by decide)))
  have sz17 := sz14.same W17
  have A17 := B14.other W17 (Ne.symm hne)
  refine own_st (fun _ kq_ => XS.iloadN X17.here hx rfl (hb hby d4_27) rfl kq_) ?_
  show OwnG _ _ _ _ _ _ _ (T17.setTop (mkF m 28 #[.val (.ref a1), .val (.int y), .val (.int (8 : Int32))] [(.int y), (.int (Int32.ofNat (sz + 2))), (.ref ab)]))
  refine own_st (fun _ kq_ => XS.iloadN X17.here hx rfl (hb hby d4_28) rfl kq_) ?_
  show OwnG _ _ _ _ _ _ _ (T17.setTop (mkF m 29 #[.val (.ref a1), .val (.int y), .val (.int (8 : Int32))] [(.int (8 : Int32)), (.int y), (.int (Int32.ofNat (sz + 2))), (.ref ab)]))
  refine own_st (fun _ kq_ => XS.iushr X17.here hx rfl (hb hby d4_29) rfl kq_) ?_
  show OwnG _ _ _ _ _ _ _ (T17.setTop (mkF m 30 #[.val (.ref a1), .val (.int y), .val (.int (8 : Int32))] [(.int ((y.toUInt32 >>> ((8 : Int32) &&& 31).toUInt32).toInt32)), (.int (Int32.ofNat (sz + 2))), (.ref ab)]))
  refine own_st (fun _ kq_ => XS.i2b X17.here hx rfl (hb hby d4_30) rfl kq_) ?_
  show OwnG _ _ _ _ _ _ _ (T17.setTop (mkF m 31 #[.val (.ref a1), .val (.int y), .val (.int (8 : Int32))] [(.int (((y.toUInt32 >>> ((8 : Int32) &&& 31).toUInt32).toInt32).toInt8.toInt32)), (.int (Int32.ofNat (sz + 2))), (.ref ab)]))
  obtain ⟨T18, h18, X18, e18, W18, V18, st18⟩ := own_sB X17 hx hZ e17 A17 (sz + 2) (own_to (sz + 2) (by omega)) (by omega) (g := (mkF m 31 #[.val (.ref a1), .val (.int y), .val (.int (8 : Int32))] [(.int (((y.toUInt32 >>> ((8 : Int32) &&& 31).toUInt32).toInt32).toInt8.toInt32)), (.int (Int32.ofNat (sz + 2))), (.ref ab)])) rfl rfl (hb hby d4_31)
  have N18 := Fr.snoc X18 N17 gab
  refine own_st st18 ?_
  show OwnG _ _ _ _ _ _ _ (T18.setTop (mkF m 32 #[.val (.ref a1), .val (.int y), .val (.int (8 : Int32))] []))
  have E18_ := E17_.wr W18
  have by18 := by17.other W18 (Or.inl hne)
  have sz18 := sz17.other W18 (Or.inl hne)
  have B18 : Ary Z h18 ab .byte 4096 (fun j => .int (own_ui g14 (sz + 2) _ j)) := V18.cong fun j _ => own_uu _ _ _ _ rfl j
  generalize own_ui g14 (sz + 2) _ = g18 at B18
  refine own_st (fun _ kq_ => XS.iinc X18.here hx rfl (hb hby d4_32) rfl (l' := #[.val (.ref a1), .val (.int y), .val (.int ((8 : Int32) + (-8 : Int32)))]) rfl kq_) ?_
  show OwnG _ _ _ _ _ _ _ (T18.setTop (mkF m 35 #[.val (.ref a1), .val (.int y), .val (.int ((8 : Int32) + (-8 : Int32)))] []))
  refine own_st (fun _ kq_ => XS.goto X18.here hx rfl (pc0 := 35) (pc' := 8) rfl (hb hby d4_35) (by decide) (by decide) kq_) ?_
  show OwnG _ _ _ _ _ _ _ (T18.setTop (mkF m 8 #[.val (.ref a1), .val (.int y), .val (.int ((8 : Int32) + (-8 : Int32)))] []))
  rw [show (8 : Int32) + (-8 : Int32) = 0 by decide]
  show OwnG _ _ _ _ _ _ _ (T18.setTop (mkF m 8 #[.val (.ref a1), .val (.int y), .val (.int (0 : Int32))] []))
  refine own_st (fun _ kq_ => XS.iloadN X18.here hx rfl (hb hby d4_8) rfl kq_) ?_
  show OwnG _ _ _ _ _ _ _ (T18.setTop (mkF m 9 #[.val (.ref a1), .val (.int y), .val (.int (0 : Int32))] [(.int (0 : Int32))]))
  refine own_st (fun _ kq_ => XS.ifNo X18.here hx rfl (hb hby d4_9) rfl ((if0 _ _).trans (flt (by decide)).1) kq_) ?_
  show OwnG _ _ _ _ _ _ _ (T18.setTop (mkF m 12 #[.val (.ref a1), .val (.int y), .val (.int (0 : Int32))] []))
  refine own_st (fun _ kq_ => XS.aloadN X18.here hx rfl (hb hby d4_12) rfl rfl kq_) ?_
  show OwnG _ _ _ _ _ _ _ (T18.setTop (mkF m 13 #[.val (.ref a1), .val (.int y), .val (.int (0 : Int32))] [(.ref a1)]))
  obtain ⟨T19, X19, e19, st19⟩ := getF X18 hx hZ hown (host := "") (Or.inl (hw _ (List.mem_of_getElem? (i := 10) rfl))) Via.refl e18 by18 (g := (mkF m 13 #[.val (.ref a1), .val (.int y), .val (.int (0 : Int32))] [(.ref a1)])) rfl rfl (hb hby d4_13)
  refine own_st st19 ?_
  show OwnG _ _ _ _ _ _ _ (T19.setTop (mkF m 16 #[.val (.ref a1), .val (.int y), .val (.int (0 : Int32))] [(.ref ab)]))
  refine own_st (fun _ kq_ => XS.aloadN X19.here hx rfl (hb hby d4_16) rfl rfl kq_) ?_
  show OwnG _ _ _ _ _ _ _ (T19.setTop (mkF m 17 #[.val (.ref a1), .val (.int y), .val (.int (0 : Int32))] [(.ref a1), (.ref ab)]))
  refine own_st (fun _ kq_ => XS.dup X19.here hx rfl (hb hby d4_17) rfl rfl kq_) ?_
  show OwnG _ _ _ _ _ _ _ (T19.setTop (mkF m 18 #[.val (.ref a1), .val (.int y), .val (.int (0 : Int32))] [(.ref a1), (.ref a1), (.ref ab)]))
  obtain ⟨T20, X20, e20, st20⟩ := getF X19 hx hZ hown (host := "") (Or.inl (hw _ (List.mem_of_getElem? (i := 26) rfl))) Via.refl e19 sz18 (g := (mkF m 18 #[.val (.ref a1), .val (.int y), .val (.int (0 : Int32))] [(.ref a1), (.ref a1), (.ref ab)])) rfl rfl (hb hby d4_18)
  refine own_st st20 ?_
  show OwnG _ _ _ _ _ _ _ (T20.setTop (mkF m 21 #[.val (.ref a1), .val (.int y), .val (.int (0 : Int32))] [(.int (Int32.ofNat (sz + 3))), (.ref a1), (.ref ab)]))
  refine own_st (fun _ kq_ => XS.dupX1 X20.here hx rfl (hb hby d4_21) rfl rfl rfl kq_) ?_
  show OwnG _ _ _ _ _ _ _ (T20.setTop (mkF m 22 #[.val (.ref a1), .val (.int y), .val (.int (0 : Int32))] [(.int (Int32.ofNat (sz + 3))), (.ref a1), (.int (Int32.ofNat (sz + 3))), (.ref ab)]))
  refine own_st (fun _ kq_ => XS.iconst X20.here hx rfl (hb hby d4_22) kq_) ?_
  show OwnG _ _ _ _ _ _ _ (T20.setTop (mkF m 23 #[.val (.ref a1), .val (.int y), .val (.int (0 : Int32))] [(.int (1 : Int32)), (.int (Int32.ofNat (sz + 3))), (.ref a1), (.int (Int32.ofNat (sz + 3))), (.ref ab)]))
  refine own_st (fun _ kq_ => XS.iadd X20.here hx rfl (hb hby d4_23) rfl kq_) ?_
  show OwnG _ _ _ _ _ _ _ (T20.setTop (mkF m 24 #[.val (.ref a1), .val (.int y), .val (.int (0 : Int32))] [(.int ((Int32.ofNat (sz + 3)) + (1 : Int32))), (.ref a1), (.int (Int32.ofNat (sz + 3))), (.ref ab)]))
  rw [own_one, show sz + 3 + 1 = sz + 4 from rfl]
  show OwnG _ _ _ _ _ _ _ (T20.setTop (mkF m 24 #[.val (.ref a1), .val (.int y), .val (.int (0 : Int32))] [(.int (Int32.ofNat (sz + 4))), (.ref a1), (.int (Int32.ofNat (sz + 3))), (.ref ab)]))
  obtain ⟨T21, h21, X21, e21, W21, st21⟩ := putF X20 hx hZ hown (host := "") (Or.inl (hw _ (List.mem_of_getElem? (i := 26) rfl))) Via.refl e20 sz18 E18_ (Or.inl (hw _ (List.mem_of_getElem? (i := 27) rfl))) (hw _ (List.mem_of_getElem? (i := 1) rfl)) (ty := .int) (by decide) rfl rfl (g := (mkF m 24 #[.val (.ref a1), .val (.int y), .val (.int (0 : Int32))] [(.int (Int32.ofNat (sz + 4))), (.ref a1), (.int (Int32.ofNat (sz + 3))), (.ref ab)])) rfl rfl (hb hby d4_24)
  have N21 := Fr.snoc X21 N18 ga
  refine own_st st21 ?_
  show OwnG _ _ _ _ _ _ _ (T21.setTop (mkF m 27 #[.val (.ref a1), .val (.int y), .val (.int (0 : Int32))] [(.int (Int32.ofNat (sz + 3))), (.ref ab)]))
  have E21_ := E18_.wr W21
  have by21 := by18.other W21 (Or.inr (slot_ne (Or.inl (hw _ (List.mem_of_getElem? (i := 11) rfl))) (Or.inl (hw _ (List.mem_of_getElem? (i := 27) rfl))) (by decide) (t := (.array .byte)) (t' := .int) (by decide) (by decide)))
  have sz21 := sz18.same W21
  have A21 := B18.other W21 (Ne.symm hne)
  refine own_st (fun _ kq_ => XS.iloadN X21.here hx rfl (hb hby d4_27) rfl kq_) ?_
  show OwnG _ _ _ _ _ _ _ (T21.setTop (mkF m 28 #[.val (.ref a1), .val (.int y), .val (.int (0 : Int32))] [(.int y), (.int (Int32.ofNat (sz + 3))), (.ref ab)]))
  refine own_st (fun _ kq_ => XS.iloadN X21.here hx rfl (hb hby d4_28) rfl kq_) ?_
  show OwnG _ _ _ _ _ _ _ (T21.setTop (mkF m 29 #[.val (.ref a1), .val (.int y), .val (.int (0 : Int32))] [(.int (0 : Int32)), (.int y), (.int (Int32.ofNat (sz + 3))), (.ref ab)]))
  refine own_st (fun _ kq_ => XS.iushr X21.here hx rfl (hb hby d4_29) rfl kq_) ?_
  show OwnG _ _ _ _ _ _ _ (T21.setTop (mkF m 30 #[.val (.ref a1), .val (.int y), .val (.int (0 : Int32))] [(.int ((y.toUInt32 >>> ((0 : Int32) &&& 31).toUInt32).toInt32)), (.int (Int32.ofNat (sz + 3))), (.ref ab)]))
  refine own_st (fun _ kq_ => XS.i2b X21.here hx rfl (hb hby d4_30) rfl kq_) ?_
  show OwnG _ _ _ _ _ _ _ (T21.setTop (mkF m 31 #[.val (.ref a1), .val (.int y), .val (.int (0 : Int32))] [(.int (((y.toUInt32 >>> ((0 : Int32) &&& 31).toUInt32).toInt32).toInt8.toInt32)), (.int (Int32.ofNat (sz + 3))), (.ref ab)]))
  obtain ⟨T22, h22, X22, e22, W22, V22, st22⟩ := own_sB X21 hx hZ e21 A21 (sz + 3) (own_to (sz + 3) (by omega)) (by omega) (g := (mkF m 31 #[.val (.ref a1), .val (.int y), .val (.int (0 : Int32))] [(.int (((y.toUInt32 >>> ((0 : Int32) &&& 31).toUInt32).toInt32).toInt8.toInt32)), (.int (Int32.ofNat (sz + 3))), (.ref ab)])) rfl rfl (hb hby d4_31)
  have N22 := Fr.snoc X22 N21 gab
  refine own_st st22 ?_
  show OwnG _ _ _ _ _ _ _ (T22.setTop (mkF m 32 #[.val (.ref a1), .val (.int y), .val (.int (0 : Int32))] []))
  have E22_ := E21_.wr W22
  have by22 := by21.other W22 (Or.inl hne)
  have sz22 := sz21.other W22 (Or.inl hne)
  have B22 : Ary Z h22 ab .byte 4096 (fun j => .int (own_ui g18 (sz + 3) _ j)) := V22.cong fun j _ => own_uu _ _ _ _ rfl j
  generalize own_ui g18 (sz + 3) _ = g22 at B22
  refine own_st (fun _ kq_ => XS.iinc X22.here hx rfl (hb hby d4_32) rfl (l' := #[.val (.ref a1), .val (.int y), .val (.int ((0 : Int32) + (-8 : Int32)))]) rfl kq_) ?_
  show OwnG _ _ _ _ _ _ _ (T22.setTop (mkF m 35 #[.val (.ref a1), .val (.int y), .val (.int ((0 : Int32) + (-8 : Int32)))] []))
  refine own_st (fun _ kq_ => XS.goto X22.here hx rfl (pc0 := 35) (pc' := 8) rfl (hb hby d4_35) (by decide) (by decide) kq_) ?_
  show OwnG _ _ _ _ _ _ _ (T22.setTop (mkF m 8 #[.val (.ref a1), .val (.int y), .val (.int ((0 : Int32) + (-8 : Int32)))] []))
  rw [show (0 : Int32) + (-8 : Int32) = -8 by decide]
  show OwnG _ _ _ _ _ _ _ (T22.setTop (mkF m 8 #[.val (.ref a1), .val (.int y), .val (.int (-8 : Int32))] []))
  refine own_st (fun _ kq_ => XS.iloadN X22.here hx rfl (hb hby d4_8) rfl kq_) ?_
  show OwnG _ _ _ _ _ _ _ (T22.setTop (mkF m 9 #[.val (.ref a1), .val (.int y), .val (.int (-8 : Int32))] [(.int (-8 : Int32))]))
  refine own_st (fun _ kq_ => XS.ifYes X22.here hx rfl (pc0 := 9) (pc' := 38) rfl (hb hby d4_9) rfl ((if0 _ _).trans (tlt (by decide)).1) (by decide) (by decide) kq_) ?_
  show OwnG _ _ _ _ _ _ _ (T22.setTop (mkF m 38 #[.val (.ref a1), .val (.int y), .val (.int (-8 : Int32))] []))
  exact own_retV X22 hx hrt hlk (hb hby d4_38) (by decide) (by decide) (by show _ ∧ _; first | (rw [e22]; exact ⟨rfl, N22, by rw [W22.size, W21.size, W18.size, W17.size, W14.size, W13.size, W10.size, W9.size]; exact Z0, g22, E22_, by22, sz22, B22, hne⟩) | exact ⟨rfl, N22, by rw [W22.size, W21.size, W18.size, W17.size, W14.size, W13.size, W10.size, W9.size]; exact Z0, g22, E22_, by22, sz22, B22, hne⟩)
theorem d3_0 : decode prog_141_method_7_code 0 = .ok (.aload_n 0, 1) := by decide +kernel
theorem d3_1 : decode prog_141_method_7_code 1 = .ok (.lload_n 1, 1) := by decide +kernel
theorem d3_2 : decode prog_141_method_7_code 2 = .ok (.bipush 32, 2) := by decide +kernel
theorem d3_4 : decode prog_141_method_7_code 4 = .ok (.lushr, 1) := by decide +kernel
theorem d3_5 : decode prog_141_method_7_code 5 = .ok (.l2i, 1) := by decide +kernel
theorem d3_6 : decode prog_141_method_7_code 6 = .ok (.invokevirtual 21, 3) := by decide +kernel
theorem d3_9 : decode prog_141_method_7_code 9 = .ok (.aload_n 0, 1) := by decide +kernel
theorem d3_10 : decode prog_141_method_7_code 10 = .ok (.lload_n 1, 1) := by decide +kernel
theorem d3_11 : decode prog_141_method_7_code 11 = .ok (.l2i, 1) := by decide +kernel
theorem d3_12 : decode prog_141_method_7_code 12 = .ok (.invokevirtual 21, 3) := by decide +kernel
theorem d3_15 : decode prog_141_method_7_code 15 = .ok (.return_, 1) := by decide +kernel
theorem pn_4 : plainFor (⟨"com/example/khepri/khepri/ImageWriter", "writeLong", "(J)V"⟩ : MethodName) = true := by first | exact plainFor_of_name (by first | (simp [plainName, overriddenIn]; done) | decide +kernel) | decide +kernel
theorem ef_4 (m : MethodId) (x0 : Addr) (x1 : Int64) : entryFrame m #[(.ref x0), (.long x1)] 3 = mkF m 0 #[.val (.ref x0), .val (.long x1), .second] [] := by first | (simp [entryFrame, mkF, argsToLocals, Value.category]; done) | rfl
def Q4 (Z : State) (a1 : Addr) (ab : Addr) (sz : Nat) (g : Nat → Int32) (x : Int64) (h0 : Heap) (n0 : Nat) (v : Option Value) (h : Heap) (L : List Loc) : Prop := v = none ∧ Fr n0 L ∧ n0 ≤ h.size ∧ ∃ g', IW Z h a1 ab (sz + 8) g'
set_option maxRecDepth 65536 in
set_option maxHeartbeats 40000000 in
theorem rm4 (l : Launch) (Z : State) (a0 : Array Value) (hw : ∀ d ∈ tables_1, d.before a0 Z = true) (ws : List Jvm.Cond) (a1 : Addr) (ab : Addr) (sz : Nat) (g : Nat → Int32) (x : Int64) (h0 : Heap) (n0 : Nat) (Z0 : n0 ≤ h0.size) (hsz : sz + 8 ≤ 4096) (I0 : IW Z h0 a1 ab sz g) (ga : n0 ≤ a1) (gab : n0 ≤ ab) :
    MetFree l (⟨"com/example/khepri/khepri/ImageWriter", "writeLong", "(J)V"⟩ : MethodName) (head1 (Jvm.Cond.code (⟨"com/example/khepri/khepri/ImageWriter", "writeLong", "(J)V"⟩ : MethodName) prog_141_method_7_code 3 none :: ws) ({ frames := 2, cells := 0, slots := 0, locals := 27 } : Room)) (fun a U => a = #[(.ref a1), (.long x)] ∧ Z.Warmed39 U.vm ∧ U.heap = h0) (fun _ _ _ _ _ => True) (fun _ U o U' => ∃ v L, o = .returned v ∧ Q4 Z a1 ab sz g x h0 n0 v U'.heap L ∧ FrameEnd U o U' L ({ frames := 2, cells := 0, slots := 0, locals := 27 } : Room).cells ({ frames := 2, cells := 0, slots := 0, locals := 27 } : Room).slots) := by
  refine MetFree.of_bodySF pn_4 hisR ?_
  intro p e s m args below meth c s₁ Bd hml0 hP hK
  obtain ⟨rfl, hZ, hh⟩ := hP
  have hx := Bd.exec
  have hby := Bd.bytes
  have hml : c.maxLocals = 3 := hml0
  have hown : s.vm.findClass "com/example/khepri/khepri/ImageWriter" = some m.cls := findClass_of_methodNamed Bd.named
  have hnm := (name_of_methodNamed Bd.named Bd.method).1
  have hrt := Bd.returns
  have hlk : meth.locks = false := BodyLoose.notSynchronized Bd
  have X0 : Stand p l e ({ frames := 2, cells := 0, slots := 0, locals := 27 } : Room) s m #[(.ref a1), (.long x)] below meth c s₁ [] 0 0 := Stand.of_body Bd
  have e0 : s₁.heap = h0 := by rw [← hh, Bd.state]; rfl
  have N0 := Fr.nil n0
  show OwnG ({ frames := 2, cells := 0, slots := 0, locals := 27 } : Room).cells ({ frames := 2, cells := 0, slots := 0, locals := 27 } : Room).slots (Q4 Z a1 ab sz g x h0 n0) p e below s (s₁.setTop (entryFrame m #[(.ref a1), (.long x)] 3))
  refine own_st (σ' := s₁.setTop (mkF m 0 #[.val (.ref a1), .val (.long x), .second] [])) (fun _ kq_ => castTop (ef_4 m a1 x) kq_) ?_
  show OwnG _ _ _ _ _ _ _ (s₁.setTop (mkF m 0 #[.val (.ref a1), .val (.long x), .second] []))
  refine own_st (fun _ kq_ => XS.aloadN X0.here hx rfl (hb hby d3_0) rfl rfl kq_) ?_
  show OwnG _ _ _ _ _ _ _ (s₁.setTop (mkF m 1 #[.val (.ref a1), .val (.long x), .second] [(.ref a1)]))
  refine own_st (fun _ kq_ => XS.lloadN X0.here hx rfl (hb hby d3_1) rfl kq_) ?_
  show OwnG _ _ _ _ _ _ _ (s₁.setTop (mkF m 2 #[.val (.ref a1), .val (.long x), .second] [(.long x), (.ref a1)]))
  refine own_st (fun _ kq_ => XS.bipush X0.here hx rfl (hb hby d3_2) kq_) ?_
  show OwnG _ _ _ _ _ _ _ (s₁.setTop (mkF m 4 #[.val (.ref a1), .val (.long x), .second] [(.int (32 : Int32)), (.long x), (.ref a1)]))
  refine own_st (fun _ kq_ => XS.lushr X0.here hx rfl (hb hby d3_4) rfl kq_) ?_
  show OwnG _ _ _ _ _ _ _ (s₁.setTop (mkF m 5 #[.val (.ref a1), .val (.long x), .second] [(.long ((x.toUInt64 >>> ((32 : Int32) &&& 0x3f).toInt64.toUInt64).toInt64)), (.ref a1)]))
  refine own_st (fun _ kq_ => XS.l2i X0.here hx rfl (hb hby d3_5) rfl kq_) ?_
  show OwnG _ _ _ _ _ _ _ (s₁.setTop (mkF m 6 #[.val (.ref a1), .val (.long x), .second] [(.int (((x.toUInt64 >>> ((32 : Int32) &&& 0x3f).toInt64.toUInt64).toInt64).toInt32)), (.ref a1)]))
  obtain ⟨cq23, kq23, q23a, q23b, q23c⟩ := isOf hZ e0 I0.1
  obtain ⟨_, _, ⟨T23, L23, k23, n23⟩, -, X23, ⟨Lc23, hQ23, l23, y23, z23⟩, st23⟩ := X0.virtualBack hx (y := (⟨"com/example/khepri/khepri/ImageWriter", "writeInt", "(I)V"⟩ : MethodName)) (z := (⟨"com/example/khepri/khepri/ImageWriter", "writeInt", "(I)V"⟩ : MethodName)) hown (mvT hZ (hw _ (List.mem_of_getElem? (i := 17) rfl))) (mvT hZ (hw _ (List.mem_of_getElem? (i := 18) rfl))) (notFace_of_selects (args := #[]) (mvT hZ (hw _ (List.mem_of_getElem? (i := 20) rfl)))) (mvT hZ (hw _ (List.mem_of_getElem? (i := 20) rfl))) (mvT hZ (hw _ (List.mem_of_getElem? (i := 19) rfl))) (by decide) (backOf (W := 0) (rm3 l Z a0 hw [] a1 ab sz g (((x.toUInt64 >>> ((32 : Int32) &&& 0x3f).toInt64.toUInt64).toInt64).toInt32) h0 n0 Z0 (by omega) I0 ga gab) hZ (hw _ (List.mem_of_getElem? (i := 21) rfl)) (hw _ (List.mem_of_getElem? (i := 2) rfl)) (by decide) (by decide)) q23a q23c (g := (mkF m 6 #[.val (.ref a1), .val (.long x), .second] [(.int (((x.toUInt64 >>> ((32 : Int32) &&& 0x3f).toInt64.toUInt64).toInt64).toInt32)), (.ref a1)])) rfl (by rw [hml]; rfl) (Steps.refl _) (argsL := [(.int (((x.toUInt64 >>> ((32 : Int32) &&& 0x3f).toInt64.toUInt64).toInt64).toInt32))]) (rest := []) (lenOf (by decide +kernel : parseMethodDescriptor "(I)V" = some ⟨[.int], none⟩) rfl) rfl (by show 2 * 0 + _ ≤ _; exact Nat.le_of_eq rfl) (hb hby d3_6) (fun _ _ => ⟨rfl, e0, (by dsimp only [Pt.cells]; decide), (by dsimp only [Pt.slots]; decide)⟩)
  dsimp only [Pt.U, Pt.locs, Pt.cells, Pt.slots] at X23 l23 y23 z23 st23 hQ23
  subst l23 y23 z23
  obtain ⟨rfl, N23q, S23, g23, I23⟩ := hQ23
  have N23 := Fr.app N0 N23q
  refine own_go st23 ?_
  show OwnG _ _ _ _ _ _ _ (T23.setTop (mkF m 9 #[.val (.ref a1), .val (.long x), .second] []))
  refine own_st (fun _ kq_ => XS.aloadN X23.here hx rfl (hb hby d3_9) rfl rfl kq_) ?_
  show OwnG _ _ _ _ _ _ _ (T23.setTop (mkF m 10 #[.val (.ref a1), .val (.long x), .second] [(.ref a1)]))
  refine own_st (fun _ kq_ => XS.lloadN X23.here hx rfl (hb hby d3_10) rfl kq_) ?_
  show OwnG _ _ _ _ _ _ _ (T23.setTop (mkF m 11 #[.val (.ref a1), .val (.long x), .second] [(.long x), (.ref a1)]))
  refine own_st (fun _ kq_ => XS.l2i X23.here hx rfl (hb hby d3_11) rfl kq_) ?_
  show OwnG _ _ _ _ _ _ _ (T23.setTop (mkF m 12 #[.val (.ref a1), .val (.long x), .second] [(.int (x.toInt32)), (.ref a1)]))
  obtain ⟨cq24, kq24, q24a, q24b, q24c⟩ := isOf hZ rfl I23.1
  obtain ⟨_, _, ⟨T24, L24, k24, n24⟩, -, X24, ⟨Lc24, hQ24, l24, y24, z24⟩, st24⟩ := X23.virtualBack hx (y := (⟨"com/example/khepri/khepri/ImageWriter", "writeInt", "(I)V"⟩ : MethodName)) (z := (⟨"com/example/khepri/khepri/ImageWriter", "writeInt", "(I)V"⟩ : MethodName)) hown (mvT hZ (hw _ (List.mem_of_getElem? (i := 17) rfl))) (mvT hZ (hw _ (List.mem_of_getElem? (i := 18) rfl))) (notFace_of_selects (args := #[]) (mvT hZ (hw _ (List.mem_of_getElem? (i := 20) rfl)))) (mvT hZ (hw _ (List.mem_of_getElem? (i := 20) rfl))) (mvT hZ (hw _ (List.mem_of_getElem? (i := 19) rfl))) (by decide) (backOf (W := 0) (rm3 l Z a0 hw [] a1 ab (sz + 4) g23 (x.toInt32) T23.heap n0 S23 (by omega) I23 ga gab) hZ (hw _ (List.mem_of_getElem? (i := 21) rfl)) (hw _ (List.mem_of_getElem? (i := 2) rfl)) (by decide) (by decide)) q24a q24c (g := (mkF m 12 #[.val (.ref a1), .val (.long x), .second] [(.int (x.toInt32)), (.ref a1)])) rfl (by rw [hml]; rfl) (Steps.refl _) (argsL := [(.int (x.toInt32))]) (rest := []) (lenOf (by decide +kernel : parseMethodDescriptor "(I)V" = some ⟨[.int], none⟩) rfl) rfl (by show 2 * 0 + _ ≤ _; exact Nat.le_of_eq rfl) (hb hby d3_12) (fun _ _ => ⟨rfl, rfl, (by dsimp only [Pt.cells]; decide), (by dsimp only [Pt.slots]; decide)⟩)
  dsimp only [Pt.U, Pt.locs, Pt.cells, Pt.slots] at X24 l24 y24 z24 st24 hQ24
  subst l24 y24 z24
  obtain ⟨rfl, N24q, S24, g24, I24⟩ := hQ24
  have N24 := Fr.app N23 N24q
  refine own_go st24 ?_
  show OwnG _ _ _ _ _ _ _ (T24.setTop (mkF m 15 #[.val (.ref a1), .val (.long x), .second] []))
  exact own_retV X24 hx hrt hlk (hb hby d3_15) (by decide) (by decide) (by show _ ∧ _; exact ⟨rfl, N24, S24, g24, I24⟩)
theorem d8_0 : decode jdk_29_method_69_code 0 = .ok (.iload_n 0, 1) := by decide +kernel
theorem d8_1 : decode jdk_29_method_69_code 1 = .ok (.iload_n 1, 1) := by decide +kernel
theorem d8_2 : decode jdk_29_method_69_code 2 = .ok (.if_icmp .gt 7, 3) := by decide +kernel
theorem d8_5 : decode jdk_29_method_69_code 5 = .ok (.iload_n 0, 1) := by decide +kernel
theorem d8_6 : decode jdk_29_method_69_code 6 = .ok (.goto 4, 3) := by decide +kernel
theorem d8_9 : decode jdk_29_method_69_code 9 = .ok (.iload_n 1, 1) := by decide +kernel
theorem d8_10 : decode jdk_29_method_69_code 10 = .ok (.ireturn, 1) := by decide +kernel
theorem pn_5 : plainFor (⟨"java/lang/Math", "min", "(II)I"⟩ : MethodName) = true := by first | exact plainFor_of_name (by first | (simp [plainName, overriddenIn]; done) | decide +kernel) | decide +kernel
theorem ef_5 (m : MethodId) (x0 : Int32) (x1 : Int32) : entryFrame m #[(.int x0), (.int x1)] 2 = mkF m 0 #[.val (.int x0), .val (.int x1)] [] := by first | (simp [entryFrame, mkF, argsToLocals, Value.category]; done) | rfl
def Q5 (Z : State) (i1 : Int32) (i2 : Int32) (h0 : Heap) (n0 : Nat) (v : Option Value) (h : Heap) (L : List Loc) : Prop := v = some (.int i2) ∧ Fr n0 L ∧ h = h0
set_option maxRecDepth 65536 in
set_option maxHeartbeats 40000000 in
theorem rm5 (l : Launch) (Z : State) (a0 : Array Value) (hw : ∀ d ∈ tables_1, d.before a0 Z = true) (ws : List Jvm.Cond) (i1 : Int32) (i2 : Int32) (h0 : Heap) (n0 : Nat) (Z0 : n0 ≤ h0.size) (hlt : i2 < i1) :
    MetFree l (⟨"java/lang/Math", "min", "(II)I"⟩ : MethodName) (head1 (Jvm.Cond.code (⟨"java/lang/Math", "min", "(II)I"⟩ : MethodName) jdk_29_method_69_code 2 (some .int) :: ws) ({ frames := 0, cells := 0, slots := 0, locals := 0 } : Room)) (fun a U => a = #[(.int i1), (.int i2)] ∧ Z.Warmed39 U.vm ∧ U.heap = h0) (fun _ _ _ _ _ => True) (fun _ U o U' => ∃ v L, o = .returned v ∧ Q5 Z i1 i2 h0 n0 v U'.heap L ∧ FrameEnd U o U' L ({ frames := 0, cells := 0, slots := 0, locals := 0 } : Room).cells ({ frames := 0, cells := 0, slots := 0, locals := 0 } : Room).slots) := by
  refine MetFree.of_bodySF pn_5 hisR ?_
  intro p e s m args below meth c s₁ Bd hml0 hP hK
  obtain ⟨rfl, hZ, hh⟩ := hP
  have hx := Bd.exec
  have hby := Bd.bytes
  have hml : c.maxLocals = 2 := hml0
  have hown : s.vm.findClass "java/lang/Math" = some m.cls := findClass_of_methodNamed Bd.named
  have hnm := (name_of_methodNamed Bd.named Bd.method).1
  have hrt := Bd.returns
  have hlk : meth.locks = false := BodyLoose.notSynchronized Bd
  have X0 : Stand p l e ({ frames := 0, cells := 0, slots := 0, locals := 0 } : Room) s m #[(.int i1), (.int i2)] below meth c s₁ [] 0 0 := Stand.of_body Bd
  have e0 : s₁.heap = h0 := by rw [← hh, Bd.state]; rfl
  have N0 := Fr.nil n0
  show OwnG ({ frames := 0, cells := 0, slots := 0, locals := 0 } : Room).cells ({ frames := 0, cells := 0, slots := 0, locals := 0 } : Room).slots (Q5 Z i1 i2 h0 n0) p e below s (s₁.setTop (entryFrame m #[(.int i1), (.int i2)] 2))
  refine own_st (σ' := s₁.setTop (mkF m 0 #[.val (.int i1), .val (.int i2)] [])) (fun _ kq_ => castTop (ef_5 m i1 i2) kq_) ?_
  show OwnG _ _ _ _ _ _ _ (s₁.setTop (mkF m 0 #[.val (.int i1), .val (.int i2)] []))
  refine own_st (fun _ kq_ => XS.iloadN X0.here hx rfl (hb hby d8_0) rfl kq_) ?_
  show OwnG _ _ _ _ _ _ _ (s₁.setTop (mkF m 1 #[.val (.int i1), .val (.int i2)] [(.int i1)]))
  refine own_st (fun _ kq_ => XS.iloadN X0.here hx rfl (hb hby d8_1) rfl kq_) ?_
  show OwnG _ _ _ _ _ _ _ (s₁.setTop (mkF m 2 #[.val (.int i1), .val (.int i2)] [(.int i2), (.int i1)]))
  refine own_st (fun _ kq_ => XS.icmpYes X0.here hx rfl (pc0 := 2) (pc' := 9) rfl (hb hby d8_2) rfl (tlt hlt).2.2.1 (by decide) (by decide) kq_) ?_
  show OwnG _ _ _ _ _ _ _ (s₁.setTop (mkF m 9 #[.val (.int i1), .val (.int i2)] []))
  refine own_st (fun _ kq_ => XS.iloadN X0.here hx rfl (hb hby d8_9) rfl kq_) ?_
  show OwnG _ _ _ _ _ _ _ (s₁.setTop (mkF m 10 #[.val (.int i1), .val (.int i2)] [(.int i2)]))
  exact own_retI X0 hx hrt hlk (hb hby d8_10) (by decide) (by decide) (by show _ ∧ _; first | (rw [e0]; exact ⟨rfl, N0, rfl⟩) | exact ⟨rfl, N0, rfl⟩)
theorem d7_0 : decode jdk_65_method_121_code 0 = .ok (.iload_n 1, 1) := by decide +kernel
theorem d7_1 : decode jdk_65_method_121_code 1 = .ok (.aload_n 0, 1) := by decide +kernel
theorem d7_2 : decode jdk_65_method_121_code 2 = .ok (.arraylength, 1) := by decide +kernel
theorem d7_3 : decode jdk_65_method_121_code 3 = .ok (.if_icmp .ne 11, 3) := by decide +kernel
theorem d7_6 : decode jdk_65_method_121_code 6 = .ok (.aload_n 0, 1) := by decide +kernel
theorem d7_7 : decode jdk_65_method_121_code 7 = .ok (.invokevirtual 310, 3) := by decide +kernel
theorem d7_10 : decode jdk_65_method_121_code 10 = .ok (.checkcast 311, 3) := by decide +kernel
theorem d7_13 : decode jdk_65_method_121_code 13 = .ok (.areturn, 1) := by decide +kernel
theorem d7_14 : decode jdk_65_method_121_code 14 = .ok (.iload_n 1, 1) := by decide +kernel
theorem d7_15 : decode jdk_65_method_121_code 15 = .ok (.newarray .byte, 2) := by decide +kernel
theorem d7_17 : decode jdk_65_method_121_code 17 = .ok (.astore_n 2, 1) := by decide +kernel
theorem d7_18 : decode jdk_65_method_121_code 18 = .ok (.aload_n 0, 1) := by decide +kernel
theorem d7_19 : decode jdk_65_method_121_code 19 = .ok (.iconst 0, 1) := by decide +kernel
theorem d7_20 : decode jdk_65_method_121_code 20 = .ok (.aload_n 2, 1) := by decide +kernel
theorem d7_21 : decode jdk_65_method_121_code 21 = .ok (.iconst 0, 1) := by decide +kernel
theorem d7_22 : decode jdk_65_method_121_code 22 = .ok (.aload_n 0, 1) := by decide +kernel
theorem d7_23 : decode jdk_65_method_121_code 23 = .ok (.arraylength, 1) := by decide +kernel
theorem d7_24 : decode jdk_65_method_121_code 24 = .ok (.iload_n 1, 1) := by decide +kernel
theorem d7_25 : decode jdk_65_method_121_code 25 = .ok (.invokestatic 304, 3) := by decide +kernel
theorem d7_28 : decode jdk_65_method_121_code 28 = .ok (.invokestatic 150, 3) := by decide +kernel
theorem d7_31 : decode jdk_65_method_121_code 31 = .ok (.aload_n 2, 1) := by decide +kernel
theorem d7_32 : decode jdk_65_method_121_code 32 = .ok (.areturn, 1) := by decide +kernel
theorem pn_6 : plainFor (⟨"java/util/Arrays", "copyOf", "([BI)[B"⟩ : MethodName) = true := by first | exact plainFor_of_name (by first | (simp [plainName, overriddenIn]; done) | decide +kernel) | decide +kernel
theorem ef_6 (m : MethodId) (x0 : Addr) (x1 : Int32) : entryFrame m #[(.ref x0), (.int x1)] 3 = mkF m 0 #[.val (.ref x0), .val (.int x1), .unset] [] := by first | (simp [entryFrame, mkF, argsToLocals, Value.category]; done) | rfl
def Q6 (Z : State) (a1 : Addr) (nl : Int32) (f : Nat → Value) (h0 : Heap) (n0 : Nat) (v : Option Value) (h : Heap) (L : List Loc) : Prop := v = some (.ref h0.size) ∧ Fr n0 L ∧ n0 ≤ h.size ∧ Keep h0 h [] ∧ Ary Z h h0.size .byte 12 f
set_option maxRecDepth 65536 in
set_option maxHeartbeats 40000000 in
theorem rm6 (l : Launch) (Z : State) (a0 : Array Value) (hw : ∀ d ∈ tables_1, d.before a0 Z = true) (ws : List Jvm.Cond) (a1 : Addr) (nl : Int32) (f : Nat → Value) (h0 : Heap) (n0 : Nat) (Z0 : n0 ≤ h0.size) (hnl : nl.toInt = 12) (V0 : Ary Z h0 a1 .byte 4096 f) :
    MetFree l (⟨"java/util/Arrays", "copyOf", "([BI)[B"⟩ : MethodName) (head1 (Jvm.Cond.code (⟨"java/util/Arrays", "copyOf", "([BI)[B"⟩ : MethodName) jdk_65_method_121_code 3 (some (.array .byte)) :: ws) ({ frames := 1, cells := 1, slots := 12, locals := 18 } : Room)) (fun a U => a = #[(.ref a1), (.int nl)] ∧ Z.Warmed39 U.vm ∧ U.heap = h0) (fun _ _ _ _ _ => True) (fun _ U o U' => ∃ v L, o = .returned v ∧ Q6 Z a1 nl f h0 n0 v U'.heap L ∧ FrameEnd U o U' L ({ frames := 1, cells := 1, slots := 12, locals := 18 } : Room).cells ({ frames := 1, cells := 1, slots := 12, locals := 18 } : Room).slots) := by
  refine MetFree.of_bodySF pn_6 hisR ?_
  intro p e s m args below meth c s₁ Bd hml0 hP hK
  obtain ⟨rfl, hZ, hh⟩ := hP
  have hx := Bd.exec
  have hby := Bd.bytes
  have hml : c.maxLocals = 3 := hml0
  have hown : s.vm.findClass "java/util/Arrays" = some m.cls := findClass_of_methodNamed Bd.named
  have hnm := (name_of_methodNamed Bd.named Bd.method).1
  have hrt := Bd.returns
  have hlk : meth.locks = false := BodyLoose.notSynchronized Bd
  have X0 : Stand p l e ({ frames := 1, cells := 1, slots := 12, locals := 18 } : Room) s m #[(.ref a1), (.int nl)] below meth c s₁ [] 0 0 := Stand.of_body Bd
  have e0 : s₁.heap = h0 := by rw [← hh, Bd.state]; rfl
  have N0 := Fr.nil n0
  show OwnG ({ frames := 1, cells := 1, slots := 12, locals := 18 } : Room).cells ({ frames := 1, cells := 1, slots := 12, locals := 18 } : Room).slots (Q6 Z a1 nl f h0 n0) p e below s (s₁.setTop (entryFrame m #[(.ref a1), (.int nl)] 3))
  refine own_st (σ' := s₁.setTop (mkF m 0 #[.val (.ref a1), .val (.int nl), .unset] [])) (fun _ kq_ => castTop (ef_6 m a1 nl) kq_) ?_
  show OwnG _ _ _ _ _ _ _ (s₁.setTop (mkF m 0 #[.val (.ref a1), .val (.int nl), .unset] []))
  refine own_st (fun _ kq_ => XS.iloadN X0.here hx rfl (hb hby d7_0) rfl kq_) ?_
  show OwnG _ _ _ _ _ _ _ (s₁.setTop (mkF m 1 #[.val (.ref a1), .val (.int nl), .unset] [(.int nl)]))
  refine own_st (fun _ kq_ => XS.aloadN X0.here hx rfl (hb hby d7_1) rfl rfl kq_) ?_
  show OwnG _ _ _ _ _ _ _ (s₁.setTop (mkF m 2 #[.val (.ref a1), .val (.int nl), .unset] [(.ref a1), (.int nl)]))
  refine own_st (own_len X0 hx hZ e0 V0 (z := (4096 : Int32)) rfl (g := (mkF m 2 #[.val (.ref a1), .val (.int nl), .unset] [(.ref a1), (.int nl)])) rfl rfl (hb hby d7_2)) ?_
  show OwnG _ _ _ _ _ _ _ (s₁.setTop (mkF m 3 #[.val (.ref a1), .val (.int nl), .unset] [(.int (4096 : Int32)), (.int nl)]))
  refine own_st (fun _ kq_ => XS.icmpYes X0.here hx rfl (pc0 := 3) (pc' := 14) rfl (hb hby d7_3) rfl (feq (fun q => by rw [q] at hnl; exact absurd hnl (by decide))).2 (by decide) (by decide) kq_) ?_
  show OwnG _ _ _ _ _ _ _ (s₁.setTop (mkF m 14 #[.val (.ref a1), .val (.int nl), .unset] []))
  refine own_st (fun _ kq_ => XS.iloadN X0.here hx rfl (hb hby d7_14) rfl kq_) ?_
  show OwnG _ _ _ _ _ _ _ (s₁.setTop (mkF m 15 #[.val (.ref a1), .val (.int nl), .unset] [(.int nl)]))
  obtain ⟨T25, h25, X25, e25, E25, V25, st25⟩ := own_new X0 hx hZ (hw _ (List.mem_of_getElem? (i := 9) rfl)) e0 (g := (mkF m 15 #[.val (.ref a1), .val (.int nl), .unset] [(.int nl)])) rfl (hb hby d7_15) rfl (12) hnl (cap := 12) (Nat.le_refl _) (by decide) (by decide) (by decide)
  obtain ⟨b25, g25⟩ : ∃ z, z = h0.size := ⟨_, rfl⟩
  rw [← g25] at V25 st25
  refine own_st st25 ?_
  show OwnG _ _ _ _ _ _ _ (T25.setTop (mkF m 17 #[.val (.ref a1), .val (.int nl), .unset] [(.ref b25)]))
  have A0 := V0.ext E25
  have S25 : n0 ≤ h25.size := Nat.le_trans Z0 E25.1
  have gb : n0 ≤ b25 := Nat.le_trans Z0 (Nat.le_of_eq g25.symm)
  refine own_st (fun _ kq_ => XS.astoreN X25.here hx rfl (hb hby d7_17) rfl rfl (l' := #[.val (.ref a1), .val (.int nl), .val (.ref b25)]) rfl kq_) ?_
  show OwnG _ _ _ _ _ _ _ (T25.setTop (mkF m 18 #[.val (.ref a1), .val (.int nl), .val (.ref b25)] []))
  refine own_st (fun _ kq_ => XS.aloadN X25.here hx rfl (hb hby d7_18) rfl rfl kq_) ?_
  show OwnG _ _ _ _ _ _ _ (T25.setTop (mkF m 19 #[.val (.ref a1), .val (.int nl), .val (.ref b25)] [(.ref a1)]))
  refine own_st (fun _ kq_ => XS.iconst X25.here hx rfl (hb hby d7_19) kq_) ?_
  show OwnG _ _ _ _ _ _ _ (T25.setTop (mkF m 20 #[.val (.ref a1), .val (.int nl), .val (.ref b25)] [(.int (0 : Int32)), (.ref a1)]))
  refine own_st (fun _ kq_ => XS.aloadN X25.here hx rfl (hb hby d7_20) rfl rfl kq_) ?_
  show OwnG _ _ _ _ _ _ _ (T25.setTop (mkF m 21 #[.val (.ref a1), .val (.int nl), .val (.ref b25)] [(.ref b25), (.int (0 : Int32)), (.ref a1)]))
  refine own_st (fun _ kq_ => XS.iconst X25.here hx rfl (hb hby d7_21) kq_) ?_
  show OwnG _ _ _ _ _ _ _ (T25.setTop (mkF m 22 #[.val (.ref a1), .val (.int nl), .val (.ref b25)] [(.int (0 : Int32)), (.ref b25), (.int (0 : Int32)), (.ref a1)]))
  refine own_st (fun _ kq_ => XS.aloadN X25.here hx rfl (hb hby d7_22) rfl rfl kq_) ?_
  show OwnG _ _ _ _ _ _ _ (T25.setTop (mkF m 23 #[.val (.ref a1), .val (.int nl), .val (.ref b25)] [(.ref a1), (.int (0 : Int32)), (.ref b25), (.int (0 : Int32)), (.ref a1)]))
  refine own_st (own_len X25 hx hZ e25 A0 (z := (4096 : Int32)) rfl (g := (mkF m 23 #[.val (.ref a1), .val (.int nl), .val (.ref b25)] [(.ref a1), (.int (0 : Int32)), (.ref b25), (.int (0 : Int32)), (.ref a1)])) rfl rfl (hb hby d7_23)) ?_
  show OwnG _ _ _ _ _ _ _ (T25.setTop (mkF m 24 #[.val (.ref a1), .val (.int nl), .val (.ref b25)] [(.int (4096 : Int32)), (.int (0 : Int32)), (.ref b25), (.int (0 : Int32)), (.ref a1)]))
  refine own_st (fun _ kq_ => XS.iloadN X25.here hx rfl (hb hby d7_24) rfl kq_) ?_
  show OwnG _ _ _ _ _ _ _ (T25.setTop (mkF m 25 #[.val (.ref a1), .val (.int nl), .val (.ref b25)] [(.int nl), (.int (4096 : Int32)), (.int (0 : Int32)), (.ref b25), (.int (0 : Int32)), (.ref a1)]))
  obtain ⟨_, _, ⟨T26, L26, k26, n26⟩, -, X26, ⟨Lc26, hQ26, l26, y26, z26⟩, st26⟩ := Jvm.LawKit.callS X25 hx (y := (⟨"java/lang/Math", "min", "(II)I"⟩ : MethodName)) hown (mvT hZ (hw _ (List.mem_of_getElem? (i := 39) rfl))) (mvT hZ (hw _ (List.mem_of_getElem? (i := 40) rfl))) (mvT hZ (hw _ (List.mem_of_getElem? (i := 41) rfl))) (mvT hZ (hw _ (List.mem_of_getElem? (i := 42) rfl))) (by decide) (backOf (W := 4) (rm5 l Z a0 hw [] (4096 : Int32) nl h25 n0 S25 (by rw [Int32.lt_iff_toInt_lt, hnl]; decide)) hZ (hw _ (List.mem_of_getElem? (i := 42) rfl)) (hw _ (List.mem_of_getElem? (i := 41) rfl)) (by decide) (by decide)) (g := (mkF m 25 #[.val (.ref a1), .val (.int nl), .val (.ref b25)] [(.int nl), (.int (4096 : Int32)), (.int (0 : Int32)), (.ref b25), (.int (0 : Int32)), (.ref a1)])) rfl (by rw [hml]; rfl) (argsL := [(.int (4096 : Int32)), (.int nl)]) (rest := [(.int (0 : Int32)), (.ref b25), (.int (0 : Int32)), (.ref a1)]) (lenOf (by decide +kernel : parseMethodDescriptor "(II)I" = some ⟨[.int, .int], some .int⟩) rfl) rfl (by show 2 * 0 + _ ≤ _; exact Nat.le_of_eq rfl) (hb hby d7_25) (fun _ _ => ⟨rfl, e25, (by dsimp only [Pt.cells]; decide), (by dsimp only [Pt.slots]; decide)⟩)
  dsimp only [Pt.U, Pt.locs, Pt.cells, Pt.slots] at X26 l26 y26 z26 st26 hQ26
  subst l26 y26 z26
  obtain ⟨rfl, N26q, E26⟩ := hQ26
  have N26 := Fr.app N0 N26q
  refine own_st st26 ?_
  show OwnG _ _ _ _ _ _ _ (T26.setTop (mkF m 28 #[.val (.ref a1), .val (.int nl), .val (.ref b25)] [(.int nl), (.int (0 : Int32)), (.ref b25), (.int (0 : Int32)), (.ref a1)]))
  obtain ⟨T27, h27, L27, X27, e27, N27, K27, V27, st27⟩ := own_cp X26 hx hZ hown (hw _ (List.mem_of_getElem? (i := 43) rfl)) (hw _ (List.mem_of_getElem? (i := 46) rfl)) (hw _ (List.mem_of_getElem? (i := 44) rfl)) (hw _ (List.mem_of_getElem? (i := 45) rfl)) E26 A0 V25 rfl (0) (0) (12) rfl rfl hnl (by decide) (by decide) N26 gb (g := (mkF m 28 #[.val (.ref a1), .val (.int nl), .val (.ref b25)] [(.int nl), (.int (0 : Int32)), (.ref b25), (.int (0 : Int32)), (.ref a1)])) rfl (by rw [hml]; rfl) rfl (hb hby d7_28) (by decide) (W := 0) (by show 2 * 0 + _ ≤ _; exact Nat.le_of_eq rfl) (by decide)
  refine own_st st27 ?_
  show OwnG _ _ _ _ _ _ _ (T27.setTop (mkF m 31 #[.val (.ref a1), .val (.int nl), .val (.ref b25)] []))
  refine own_st (fun _ kq_ => XS.aloadN X27.here hx rfl (hb hby d7_31) rfl rfl kq_) ?_
  show OwnG _ _ _ _ _ _ _ (T27.setTop (mkF m 32 #[.val (.ref a1), .val (.int nl), .val (.ref b25)] [(.ref b25)]))
  have VV : Ary Z h27 b25 .byte 12 f := V27.cong fun j hj => by rw [if_pos (by omega), show 0 + (j - 0) = j by omega]
  have KK : Keep h0 h27 [] := ((Keep.refl h0 []).ext E25).trans K27 (fun z hz => by cases List.mem_singleton.mp hz; exact Or.inr (Nat.le_of_eq g25.symm))
  rw [g25] at VV
  rw [g25]
  show OwnG _ _ _ _ _ _ _ (T27.setTop (mkF m 32 #[.val (.ref a1), .val (.int nl), .val (.ref h0.size)] [(.ref h0.size)]))
  exact own_retA X27 hx hrt hlk rfl (hb hby d7_32) (by decide) (by decide) (by show _ ∧ _; first | (rw [e27]; exact ⟨rfl, N27, Nat.le_trans S25 K27.1, KK, VV⟩) | exact ⟨rfl, N27, Nat.le_trans S25 K27.1, KK, VV⟩)
theorem d6_0 : decode prog_141_method_11_code 0 = .ok (.aload_n 0, 1) := by decide +kernel
theorem d6_1 : decode prog_141_method_11_code 1 = .ok (.getfield 7, 3) := by decide +kernel
theorem d6_4 : decode prog_141_method_11_code 4 = .ok (.aload_n 0, 1) := by decide +kernel
theorem d6_5 : decode prog_141_method_11_code 5 = .ok (.getfield 17, 3) := by decide +kernel
theorem d6_8 : decode prog_141_method_11_code 8 = .ok (.invokestatic 49, 3) := by decide +kernel
theorem d6_11 : decode prog_141_method_11_code 11 = .ok (.areturn, 1) := by decide +kernel
theorem pn_7 : plainFor (⟨"com/example/khepri/khepri/ImageWriter", "toByteArray", "()[B"⟩ : MethodName) = true := by first | exact plainFor_of_name (by first | (simp [plainName, overriddenIn]; done) | decide +kernel) | decide +kernel
theorem ef_7 (m : MethodId) (x0 : Addr) : entryFrame m #[(.ref x0)] 1 = mkF m 0 #[.val (.ref x0)] [] := by first | (simp [entryFrame, mkF, argsToLocals, Value.category]; done) | rfl
def Q7 (Z : State) (a1 : Addr) (ab : Addr) (g : Nat → Int32) (h0 : Heap) (n0 : Nat) (v : Option Value) (h : Heap) (L : List Loc) : Prop := v = some (.ref h0.size) ∧ Fr n0 L ∧ n0 ≤ h.size ∧ Keep h0 h [] ∧ Ary Z h h0.size .byte 12 (fun j => .int (g j))
set_option maxRecDepth 65536 in
set_option maxHeartbeats 40000000 in
theorem rm7 (l : Launch) (Z : State) (a0 : Array Value) (hw : ∀ d ∈ tables_1, d.before a0 Z = true) (ws : List Jvm.Cond) (a1 : Addr) (ab : Addr) (g : Nat → Int32) (h0 : Heap) (n0 : Nat) (Z0 : n0 ≤ h0.size) (I0 : IW Z h0 a1 ab 12 g) :
    MetFree l (⟨"com/example/khepri/khepri/ImageWriter", "toByteArray", "()[B"⟩ : MethodName) (head1 (Jvm.Cond.code (⟨"com/example/khepri/khepri/ImageWriter", "toByteArray", "()[B"⟩ : MethodName) prog_141_method_11_code 1 (some (.array .byte)) :: ws) ({ frames := 2, cells := 1, slots := 12, locals := 32 } : Room)) (fun a U => a = #[(.ref a1)] ∧ Z.Warmed39 U.vm ∧ U.heap = h0) (fun _ _ _ _ _ => True) (fun _ U o U' => ∃ v L, o = .returned v ∧ Q7 Z a1 ab g h0 n0 v U'.heap L ∧ FrameEnd U o U' L ({ frames := 2, cells := 1, slots := 12, locals := 32 } : Room).cells ({ frames := 2, cells := 1, slots := 12, locals := 32 } : Room).slots) := by
  refine MetFree.of_bodySF pn_7 hisR ?_
  intro p e s m args below meth c s₁ Bd hml0 hP hK
  obtain ⟨rfl, hZ, hh⟩ := hP
  have hx := Bd.exec
  have hby := Bd.bytes
  have hml : c.maxLocals = 1 := hml0
  have hown : s.vm.findClass "com/example/khepri/khepri/ImageWriter" = some m.cls := findClass_of_methodNamed Bd.named
  have hnm := (name_of_methodNamed Bd.named Bd.method).1
  have hrt := Bd.returns
  have hlk : meth.locks = false := BodyLoose.notSynchronized Bd
  have X0 : Stand p l e ({ frames := 2, cells := 1, slots := 12, locals := 32 } : Room) s m #[(.ref a1)] below meth c s₁ [] 0 0 := Stand.of_body Bd
  have e0 : s₁.heap = h0 := by rw [← hh, Bd.state]; rfl
  have N0 := Fr.nil n0
  show OwnG ({ frames := 2, cells := 1, slots := 12, locals := 32 } : Room).cells ({ frames := 2, cells := 1, slots := 12, locals := 32 } : Room).slots (Q7 Z a1 ab g h0 n0) p e below s (s₁.setTop (entryFrame m #[(.ref a1)] 1))
  refine own_st (σ' := s₁.setTop (mkF m 0 #[.val (.ref a1)] [])) (fun _ kq_ => castTop (ef_7 m a1) kq_) ?_
  show OwnG _ _ _ _ _ _ _ (s₁.setTop (mkF m 0 #[.val (.ref a1)] []))
  obtain ⟨E_a, F_by, F_sz, V0, hne⟩ := I0
  refine own_st (fun _ kq_ => XS.aloadN X0.here hx rfl (hb hby d6_0) rfl rfl kq_) ?_
  show OwnG _ _ _ _ _ _ _ (s₁.setTop (mkF m 1 #[.val (.ref a1)] [(.ref a1)]))
  obtain ⟨T28, X28, e28, st28⟩ := getF X0 hx hZ hown (host := "") (Or.inl (hw _ (List.mem_of_getElem? (i := 10) rfl))) Via.refl e0 F_by (g := (mkF m 1 #[.val (.ref a1)] [(.ref a1)])) rfl rfl (hb hby d6_1)
  refine own_st st28 ?_
  show OwnG _ _ _ _ _ _ _ (T28.setTop (mkF m 4 #[.val (.ref a1)] [(.ref ab)]))
  refine own_st (fun _ kq_ => XS.aloadN X28.here hx rfl (hb hby d6_4) rfl rfl kq_) ?_
  show OwnG _ _ _ _ _ _ _ (T28.setTop (mkF m 5 #[.val (.ref a1)] [(.ref a1), (.ref ab)]))
  obtain ⟨T29, X29, e29, st29⟩ := getF X28 hx hZ hown (host := "") (Or.inl (hw _ (List.mem_of_getElem? (i := 26) rfl))) Via.refl e28 F_sz (g := (mkF m 5 #[.val (.ref a1)] [(.ref a1), (.ref ab)])) rfl rfl (hb hby d6_5)
  refine own_st st29 ?_
  show OwnG _ _ _ _ _ _ _ (T29.setTop (mkF m 8 #[.val (.ref a1)] [(.int (Int32.ofNat 12)), (.ref ab)]))
  obtain ⟨_, _, ⟨T30, L30, k30, n30⟩, -, X30, ⟨Lc30, hQ30, l30, y30, z30⟩, st30⟩ := Jvm.LawKit.callS X29 hx (y := (⟨"java/util/Arrays", "copyOf", "([BI)[B"⟩ : MethodName)) hown (mvT hZ (hw _ (List.mem_of_getElem? (i := 35) rfl))) (mvT hZ (hw _ (List.mem_of_getElem? (i := 36) rfl))) (mvT hZ (hw _ (List.mem_of_getElem? (i := 37) rfl))) (mvT hZ (hw _ (List.mem_of_getElem? (i := 38) rfl))) (by decide) (backOf (W := 0) (rm6 l Z a0 hw [] ab (Int32.ofNat 12) (fun j => .int (g j)) h0 n0 Z0 (by decide) V0) hZ (hw _ (List.mem_of_getElem? (i := 38) rfl)) (hw _ (List.mem_of_getElem? (i := 37) rfl)) (by decide) (by decide)) (g := (mkF m 8 #[.val (.ref a1)] [(.int (Int32.ofNat 12)), (.ref ab)])) rfl (by rw [hml]; rfl) (argsL := [(.ref ab), (.int (Int32.ofNat 12))]) (rest := []) (lenOf (by decide +kernel : parseMethodDescriptor "([BI)[B" = some ⟨[(.array .byte), .int], some (.array .byte)⟩) rfl) rfl (by show 2 * 0 + _ ≤ _; exact Nat.le_of_eq rfl) (hb hby d6_8) (fun _ _ => ⟨rfl, e29, (by dsimp only [Pt.cells]; decide), (by dsimp only [Pt.slots]; decide)⟩)
  dsimp only [Pt.U, Pt.locs, Pt.cells, Pt.slots] at X30 l30 y30 z30 st30 hQ30
  subst l30 y30 z30
  obtain ⟨rfl, N30q, S30, K30, V30⟩ := hQ30
  have N30 := Fr.app N0 N30q
  refine own_st st30 ?_
  show OwnG _ _ _ _ _ _ _ (T30.setTop (mkF m 11 #[.val (.ref a1)] [(.ref h0.size)]))
  exact own_retA X30 hx hrt hlk rfl (hb hby d6_11) (by decide) (by decide) (by show _ ∧ _; exact ⟨rfl, N30, S30, K30, V30⟩)
theorem d9_0 : decode prog_141_method_6_code 0 = .ok (.iconst 0, 1) := by decide +kernel
theorem d9_1 : decode prog_141_method_6_code 1 = .ok (.istore_n 3, 1) := by decide +kernel
theorem d9_2 : decode prog_141_method_6_code 2 = .ok (.iload_n 3, 1) := by decide +kernel
theorem d9_3 : decode prog_141_method_6_code 3 = .ok (.iconst 4, 1) := by decide +kernel
theorem d9_4 : decode prog_141_method_6_code 4 = .ok (.if_icmp .ge 27, 3) := by decide +kernel
theorem d9_7 : decode prog_141_method_6_code 7 = .ok (.aload_n 0, 1) := by decide +kernel
theorem d9_8 : decode prog_141_method_6_code 8 = .ok (.getfield 7, 3) := by decide +kernel
theorem d9_11 : decode prog_141_method_6_code 11 = .ok (.iload_n 1, 1) := by decide +kernel
theorem d9_12 : decode prog_141_method_6_code 12 = .ok (.iload_n 3, 1) := by decide +kernel
theorem d9_13 : decode prog_141_method_6_code 13 = .ok (.iadd, 1) := by decide +kernel
theorem d9_14 : decode prog_141_method_6_code 14 = .ok (.iload_n 2, 1) := by decide +kernel
theorem d9_15 : decode prog_141_method_6_code 15 = .ok (.bipush 24, 2) := by decide +kernel
theorem d9_17 : decode prog_141_method_6_code 17 = .ok (.bipush 8, 2) := by decide +kernel
theorem d9_19 : decode prog_141_method_6_code 19 = .ok (.iload_n 3, 1) := by decide +kernel
theorem d9_20 : decode prog_141_method_6_code 20 = .ok (.imul, 1) := by decide +kernel
theorem d9_21 : decode prog_141_method_6_code 21 = .ok (.isub, 1) := by decide +kernel
theorem d9_22 : decode prog_141_method_6_code 22 = .ok (.iushr, 1) := by decide +kernel
theorem d9_23 : decode prog_141_method_6_code 23 = .ok (.i2b, 1) := by decide +kernel
theorem d9_24 : decode prog_141_method_6_code 24 = .ok (.bastore, 1) := by decide +kernel
theorem d9_25 : decode prog_141_method_6_code 25 = .ok (.iinc 3 1, 3) := by decide +kernel
theorem d9_28 : decode prog_141_method_6_code 28 = .ok (.goto (-26), 3) := by decide +kernel
theorem d9_31 : decode prog_141_method_6_code 31 = .ok (.return_, 1) := by decide +kernel
theorem pn_8 : plainFor (⟨"com/example/khepri/khepri/ImageWriter", "writeIntAt", "(II)V"⟩ : MethodName) = true := by first | exact plainFor_of_name (by first | (simp [plainName, overriddenIn]; done) | decide +kernel) | decide +kernel
theorem ef_8 (m : MethodId) (x0 : Addr) (x1 : Int32) (x2 : Int32) : entryFrame m #[(.ref x0), (.int x1), (.int x2)] 4 = mkF m 0 #[.val (.ref x0), .val (.int x1), .val (.int x2), .unset] [] := by first | (simp [entryFrame, mkF, argsToLocals, Value.category]; done) | rfl
def Q8 (Z : State) (a1 : Addr) (ab : Addr) (sz : Nat) (g : Nat → Int32) (pp : Int32) (pz : Nat) (y : Int32) (h0 : Heap) (n0 : Nat) (v : Option Value) (h : Heap) (L : List Loc) : Prop := v = none ∧ Fr n0 L ∧ n0 ≤ h.size ∧ Keep h0 h [ab] ∧ IW Z h a1 ab sz (own_w g pz y)
set_option maxRecDepth 65536 in
set_option maxHeartbeats 40000000 in
theorem rm8 (l : Launch) (Z : State) (a0 : Array Value) (hw : ∀ d ∈ tables_1, d.before a0 Z = true) (ws : List Jvm.Cond) (a1 : Addr) (ab : Addr) (sz : Nat) (g : Nat → Int32) (pp : Int32) (pz : Nat) (y : Int32) (h0 : Heap) (n0 : Nat) (Z0 : n0 ≤ h0.size) (hpp : pp.toInt = (pz : Int)) (hp : pz ≤ 8) (I0 : IW Z h0 a1 ab sz g) (gab : n0 ≤ ab) :
    MetFree l (⟨"com/example/khepri/khepri/ImageWriter", "writeIntAt", "(II)V"⟩ : MethodName) (head1 (Jvm.Cond.code (⟨"com/example/khepri/khepri/ImageWriter", "writeIntAt", "(II)V"⟩ : MethodName) prog_141_method_6_code 4 none :: ws) ({ frames := 0, cells := 0, slots := 0, locals := 0 } : Room)) (fun a U => a = #[(.ref a1), (.int pp), (.int y)] ∧ Z.Warmed39 U.vm ∧ U.heap = h0) (fun _ _ _ _ _ => True) (fun _ U o U' => ∃ v L, o = .returned v ∧ Q8 Z a1 ab sz g pp pz y h0 n0 v U'.heap L ∧ FrameEnd U o U' L ({ frames := 0, cells := 0, slots := 0, locals := 0 } : Room).cells ({ frames := 0, cells := 0, slots := 0, locals := 0 } : Room).slots) := by
  refine MetFree.of_bodySF pn_8 hisR ?_
  intro p e s m args below meth c s₁ Bd hml0 hP hK
  obtain ⟨rfl, hZ, hh⟩ := hP
  have hx := Bd.exec
  have hby := Bd.bytes
  have hml : c.maxLocals = 4 := hml0
  have hown : s.vm.findClass "com/example/khepri/khepri/ImageWriter" = some m.cls := findClass_of_methodNamed Bd.named
  have hnm := (name_of_methodNamed Bd.named Bd.method).1
  have hrt := Bd.returns
  have hlk : meth.locks = false := BodyLoose.notSynchronized Bd
  have X0 : Stand p l e ({ frames := 0, cells := 0, slots := 0, locals := 0 } : Room) s m #[(.ref a1), (.int pp), (.int y)] below meth c s₁ [] 0 0 := Stand.of_body Bd
  have e0 : s₁.heap = h0 := by rw [← hh, Bd.state]; rfl
  have N0 := Fr.nil n0
  show OwnG ({ frames := 0, cells := 0, slots := 0, locals := 0 } : Room).cells ({ frames := 0, cells := 0, slots := 0, locals := 0 } : Room).slots (Q8 Z a1 ab sz g pp pz y h0 n0) p e below s (s₁.setTop (entryFrame m #[(.ref a1), (.int pp), (.int y)] 4))
  refine own_st (σ' := s₁.setTop (mkF m 0 #[.val (.ref a1), .val (.int pp), .val (.int y), .unset] [])) (fun _ kq_ => castTop (ef_8 m a1 pp y) kq_) ?_
  show OwnG _ _ _ _ _ _ _ (s₁.setTop (mkF m 0 #[.val (.ref a1), .val (.int pp), .val (.int y), .unset] []))
  obtain ⟨E_a, F_by, F_sz, V0, hne⟩ := I0
  refine own_st (fun _ kq_ => XS.iconst X0.here hx rfl (hb hby d9_0) kq_) ?_
  show OwnG _ _ _ _ _ _ _ (s₁.setTop (mkF m 1 #[.val (.ref a1), .val (.int pp), .val (.int y), .unset] [(.int (0 : Int32))]))
  refine own_st (fun _ kq_ => XS.istoreN X0.here hx rfl (hb hby d9_1) rfl (l' := #[.val (.ref a1), .val (.int pp), .val (.int y), .val (.int (0 : Int32))]) rfl kq_) ?_
  show OwnG _ _ _ _ _ _ _ (s₁.setTop (mkF m 2 #[.val (.ref a1), .val (.int pp), .val (.int y), .val (.int (0 : Int32))] []))
  refine own_st (fun _ kq_ => XS.iloadN X0.here hx rfl (hb hby d9_2) rfl kq_) ?_
  show OwnG _ _ _ _ _ _ _ (s₁.setTop (mkF m 3 #[.val (.ref a1), .val (.int pp), .val (.int y), .val (.int (0 : Int32))] [(.int (0 : Int32))]))
  refine own_st (fun _ kq_ => XS.iconst X0.here hx rfl (hb hby d9_3) kq_) ?_
  show OwnG _ _ _ _ _ _ _ (s₁.setTop (mkF m 4 #[.val (.ref a1), .val (.int pp), .val (.int y), .val (.int (0 : Int32))] [(.int (4 : Int32)), (.int (0 : Int32))]))
  refine own_st (fun _ kq_ => XS.icmpNo X0.here hx rfl (hb hby d9_4) rfl (tlt (by decide)).2.1 kq_) ?_
  show OwnG _ _ _ _ _ _ _ (s₁.setTop (mkF m 7 #[.val (.ref a1), .val (.int pp), .val (.int y), .val (.int (0 : Int32))] []))
  refine own_st (fun _ kq_ => XS.aloadN X0.here hx rfl (hb hby d9_7) rfl rfl kq_) ?_
  show OwnG _ _ _ _ _ _ _ (s₁.setTop (mkF m 8 #[.val (.ref a1), .val (.int pp), .val (.int y), .val (.int (0 : Int32))] [(.ref a1)]))
  obtain ⟨T31, X31, e31, st31⟩ := getF X0 hx hZ hown (host := "") (Or.inl (hw _ (List.mem_of_getElem? (i := 10) rfl))) Via.refl e0 F_by (g := (mkF m 8 #[.val (.ref a1), .val (.int pp), .val (.int y), .val (.int (0 : Int32))] [(.ref a1)])) rfl rfl (hb hby d9_8)
  refine own_st st31 ?_
  show OwnG _ _ _ _ _ _ _ (T31.setTop (mkF m 11 #[.val (.ref a1), .val (.int pp), .val (.int y), .val (.int (0 : Int32))] [(.ref ab)]))
  refine own_st (fun _ kq_ => XS.iloadN X31.here hx rfl (hb hby d9_11) rfl kq_) ?_
  show OwnG _ _ _ _ _ _ _ (T31.setTop (mkF m 12 #[.val (.ref a1), .val (.int pp), .val (.int y), .val (.int (0 : Int32))] [(.int pp), (.ref ab)]))
  refine own_st (fun _ kq_ => XS.iloadN X31.here hx rfl (hb hby d9_12) rfl kq_) ?_
  show OwnG _ _ _ _ _ _ _ (T31.setTop (mkF m 13 #[.val (.ref a1), .val (.int pp), .val (.int y), .val (.int (0 : Int32))] [(.int (0 : Int32)), (.int pp), (.ref ab)]))
  refine own_st (fun _ kq_ => XS.iadd X31.here hx rfl (hb hby d9_13) rfl kq_) ?_
  show OwnG _ _ _ _ _ _ _ (T31.setTop (mkF m 14 #[.val (.ref a1), .val (.int pp), .val (.int y), .val (.int (0 : Int32))] [(.int (pp + (0 : Int32))), (.ref ab)]))
  refine own_st (fun _ kq_ => XS.iloadN X31.here hx rfl (hb hby d9_14) rfl kq_) ?_
  show OwnG _ _ _ _ _ _ _ (T31.setTop (mkF m 15 #[.val (.ref a1), .val (.int pp), .val (.int y), .val (.int (0 : Int32))] [(.int y), (.int (pp + (0 : Int32))), (.ref ab)]))
  refine own_st (fun _ kq_ => XS.bipush X31.here hx rfl (hb hby d9_15) kq_) ?_
  show OwnG _ _ _ _ _ _ _ (T31.setTop (mkF m 17 #[.val (.ref a1), .val (.int pp), .val (.int y), .val (.int (0 : Int32))] [(.int (24 : Int32)), (.int y), (.int (pp + (0 : Int32))), (.ref ab)]))
  refine own_st (fun _ kq_ => XS.bipush X31.here hx rfl (hb hby d9_17) kq_) ?_
  show OwnG _ _ _ _ _ _ _ (T31.setTop (mkF m 19 #[.val (.ref a1), .val (.int pp), .val (.int y), .val (.int (0 : Int32))] [(.int (8 : Int32)), (.int (24 : Int32)), (.int y), (.int (pp + (0 : Int32))), (.ref ab)]))
  refine own_st (fun _ kq_ => XS.iloadN X31.here hx rfl (hb hby d9_19) rfl kq_) ?_
  show OwnG _ _ _ _ _ _ _ (T31.setTop (mkF m 20 #[.val (.ref a1), .val (.int pp), .val (.int y), .val (.int (0 : Int32))] [(.int (0 : Int32)), (.int (8 : Int32)), (.int (24 : Int32)), (.int y), (.int (pp + (0 : Int32))), (.ref ab)]))
  refine own_st (fun _ kq_ => XS.imul X31.here hx rfl (hb hby d9_20) rfl kq_) ?_
  show OwnG _ _ _ _ _ _ _ (T31.setTop (mkF m 21 #[.val (.ref a1), .val (.int pp), .val (.int y), .val (.int (0 : Int32))] [(.int ((8 : Int32) * (0 : Int32))), (.int (24 : Int32)), (.int y), (.int (pp + (0 : Int32))), (.ref ab)]))
  refine own_st (fun _ kq_ => XS.isub X31.here hx rfl (hb hby d9_21) rfl kq_) ?_
  show OwnG _ _ _ _ _ _ _ (T31.setTop (mkF m 22 #[.val (.ref a1), .val (.int pp), .val (.int y), .val (.int (0 : Int32))] [(.int ((24 : Int32) - ((8 : Int32) * (0 : Int32)))), (.int y), (.int (pp + (0 : Int32))), (.ref ab)]))
  refine own_st (fun _ kq_ => XS.iushr X31.here hx rfl (hb hby d9_22) rfl kq_) ?_
  show OwnG _ _ _ _ _ _ _ (T31.setTop (mkF m 23 #[.val (.ref a1), .val (.int pp), .val (.int y), .val (.int (0 : Int32))] [(.int ((y.toUInt32 >>> (((24 : Int32) - ((8 : Int32) * (0 : Int32))) &&& 31).toUInt32).toInt32)), (.int (pp + (0 : Int32))), (.ref ab)]))
  refine own_st (fun _ kq_ => XS.i2b X31.here hx rfl (hb hby d9_23) rfl kq_) ?_
  show OwnG _ _ _ _ _ _ _ (T31.setTop (mkF m 24 #[.val (.ref a1), .val (.int pp), .val (.int y), .val (.int (0 : Int32))] [(.int (((y.toUInt32 >>> (((24 : Int32) - ((8 : Int32) * (0 : Int32))) &&& 31).toUInt32).toInt32).toInt8.toInt32)), (.int (pp + (0 : Int32))), (.ref ab)]))
  obtain ⟨T32, h32, X32, e32, W32, V32, st32⟩ := own_sB X31 hx hZ e31 V0 (pz) (own_add pp (0 : Int32) pz 0 hpp rfl (by omega)) (by omega) (g := (mkF m 24 #[.val (.ref a1), .val (.int pp), .val (.int y), .val (.int (0 : Int32))] [(.int (((y.toUInt32 >>> (((24 : Int32) - ((8 : Int32) * (0 : Int32))) &&& 31).toUInt32).toInt32).toInt8.toInt32)), (.int (pp + (0 : Int32))), (.ref ab)])) rfl rfl (hb hby d9_24)
  have N32 := Fr.snoc X32 N0 gab
  refine own_st st32 ?_
  show OwnG _ _ _ _ _ _ _ (T32.setTop (mkF m 25 #[.val (.ref a1), .val (.int pp), .val (.int y), .val (.int (0 : Int32))] []))
  have E32_ := E_a.wr W32
  have by32 := F_by.other W32 (Or.inl hne)
  have sz32 := F_sz.other W32 (Or.inl hne)
  have K32 := (Keep.refl h0 [ab]).wr W32 (Or.inl (List.mem_of_getElem? (i := 0) rfl))
  have B32 : Ary Z h32 ab .byte 4096 (fun j => .int ((own_ui g (pz) (own_yb y 0)) j)) := V32.cong fun j _ => own_uu _ _ _ _ (own_by _) j
  refine own_st (fun _ kq_ => XS.iinc X32.here hx rfl (hb hby d9_25) rfl (l' := #[.val (.ref a1), .val (.int pp), .val (.int y), .val (.int ((0 : Int32) + (1 : Int32)))]) rfl kq_) ?_
  show OwnG _ _ _ _ _ _ _ (T32.setTop (mkF m 28 #[.val (.ref a1), .val (.int pp), .val (.int y), .val (.int ((0 : Int32) + (1 : Int32)))] []))
  refine own_st (fun _ kq_ => XS.goto X32.here hx rfl (pc0 := 28) (pc' := 2) rfl (hb hby d9_28) (by decide) (by decide) kq_) ?_
  show OwnG _ _ _ _ _ _ _ (T32.setTop (mkF m 2 #[.val (.ref a1), .val (.int pp), .val (.int y), .val (.int ((0 : Int32) + (1 : Int32)))] []))
  rw [show (0 : Int32) + (1 : Int32) = 1 by decide]
  show OwnG _ _ _ _ _ _ _ (T32.setTop (mkF m 2 #[.val (.ref a1), .val (.int pp), .val (.int y), .val (.int (1 : Int32))] []))
  refine own_st (fun _ kq_ => XS.iloadN X32.here hx rfl (hb hby d9_2) rfl kq_) ?_
  show OwnG _ _ _ _ _ _ _ (T32.setTop (mkF m 3 #[.val (.ref a1), .val (.int pp), .val (.int y), .val (.int (1 : Int32))] [(.int (1 : Int32))]))
  refine own_st (fun _ kq_ => XS.iconst X32.here hx rfl (hb hby d9_3) kq_) ?_
  show OwnG _ _ _ _ _ _ _ (T32.setTop (mkF m 4 #[.val (.ref a1), .val (.int pp), .val (.int y), .val (.int (1 : Int32))] [(.int (4 : Int32)), (.int (1 : Int32))]))
  refine own_st (fun _ kq_ => XS.icmpNo X32.here hx rfl (hb hby d9_4) rfl (tlt (by decide)).2.1 kq_) ?_
  show OwnG _ _ _ _ _ _ _ (T32.setTop (mkF m 7 #[.val (.ref a1), .val (.int pp), .val (.int y), .val (.int (1 : Int32))] []))
  refine own_st (fun _ kq_ => XS.aloadN X32.here hx rfl (hb hby d9_7) rfl rfl kq_) ?_
  show OwnG _ _ _ _ _ _ _ (T32.setTop (mkF m 8 #[.val (.ref a1), .val (.int pp), .val (.int y), .val (.int (1 : Int32))] [(.ref a1)]))
  obtain ⟨T33, X33, e33, st33⟩ := getF X32 hx hZ hown (host := "") (Or.inl (hw _ (List.mem_of_getElem? (i := 10) rfl))) Via.refl e32 by32 (g := (mkF m 8 #[.val (.ref a1), .val (.int pp), .val (.int y), .val (.int (1 : Int32))] [(.ref a1)])) rfl rfl (hb hby d9_8)
  refine own_st st33 ?_
  show OwnG _ _ _ _ _ _ _ (T33.setTop (mkF m 11 #[.val (.ref a1), .val (.int pp), .val (.int y), .val (.int (1 : Int32))] [(.ref ab)]))
  refine own_st (fun _ kq_ => XS.iloadN X33.here hx rfl (hb hby d9_11) rfl kq_) ?_
  show OwnG _ _ _ _ _ _ _ (T33.setTop (mkF m 12 #[.val (.ref a1), .val (.int pp), .val (.int y), .val (.int (1 : Int32))] [(.int pp), (.ref ab)]))
  refine own_st (fun _ kq_ => XS.iloadN X33.here hx rfl (hb hby d9_12) rfl kq_) ?_
  show OwnG _ _ _ _ _ _ _ (T33.setTop (mkF m 13 #[.val (.ref a1), .val (.int pp), .val (.int y), .val (.int (1 : Int32))] [(.int (1 : Int32)), (.int pp), (.ref ab)]))
  refine own_st (fun _ kq_ => XS.iadd X33.here hx rfl (hb hby d9_13) rfl kq_) ?_
  show OwnG _ _ _ _ _ _ _ (T33.setTop (mkF m 14 #[.val (.ref a1), .val (.int pp), .val (.int y), .val (.int (1 : Int32))] [(.int (pp + (1 : Int32))), (.ref ab)]))
  refine own_st (fun _ kq_ => XS.iloadN X33.here hx rfl (hb hby d9_14) rfl kq_) ?_
  show OwnG _ _ _ _ _ _ _ (T33.setTop (mkF m 15 #[.val (.ref a1), .val (.int pp), .val (.int y), .val (.int (1 : Int32))] [(.int y), (.int (pp + (1 : Int32))), (.ref ab)]))
  refine own_st (fun _ kq_ => XS.bipush X33.here hx rfl (hb hby d9_15) kq_) ?_
  show OwnG _ _ _ _ _ _ _ (T33.setTop (mkF m 17 #[.val (.ref a1), .val (.int pp), .val (.int y), .val (.int (1 : Int32))] [(.int (24 : Int32)), (.int y), (.int (pp + (1 : Int32))), (.ref ab)]))
  refine own_st (fun _ kq_ => XS.bipush X33.here hx rfl (hb hby d9_17) kq_) ?_
  show OwnG _ _ _ _ _ _ _ (T33.setTop (mkF m 19 #[.val (.ref a1), .val (.int pp), .val (.int y), .val (.int (1 : Int32))] [(.int (8 : Int32)), (.int (24 : Int32)), (.int y), (.int (pp + (1 : Int32))), (.ref ab)]))
  refine own_st (fun _ kq_ => XS.iloadN X33.here hx rfl (hb hby d9_19) rfl kq_) ?_
  show OwnG _ _ _ _ _ _ _ (T33.setTop (mkF m 20 #[.val (.ref a1), .val (.int pp), .val (.int y), .val (.int (1 : Int32))] [(.int (1 : Int32)), (.int (8 : Int32)), (.int (24 : Int32)), (.int y), (.int (pp + (1 : Int32))), (.ref ab)]))
  refine own_st (fun _ kq_ => XS.imul X33.here hx rfl (hb hby d9_20) rfl kq_) ?_
  show OwnG _ _ _ _ _ _ _ (T33.setTop (mkF m 21 #[.val (.ref a1), .val (.int pp), .val (.int y), .val (.int (1 : Int32))] [(.int ((8 : Int32) * (1 : Int32))), (.int (24 : Int32)), (.int y), (.int (pp + (1 : Int32))), (.ref ab)]))
  refine own_st (fun _ kq_ => XS.isub X33.here hx rfl (hb hby d9_21) rfl kq_) ?_
  show OwnG _ _ _ _ _ _ _ (T33.setTop (mkF m 22 #[.val (.ref a1), .val (.int pp), .val (.int y), .val (.int (1 : Int32))] [(.int ((24 : Int32) - ((8 : Int32) * (1 : Int32)))), (.int y), (.int (pp + (1 : Int32))), (.ref ab)]))
  refine own_st (fun _ kq_ => XS.iushr X33.here hx rfl (hb hby d9_22) rfl kq_) ?_
  show OwnG _ _ _ _ _ _ _ (T33.setTop (mkF m 23 #[.val (.ref a1), .val (.int pp), .val (.int y), .val (.int (1 : Int32))] [(.int ((y.toUInt32 >>> (((24 : Int32) - ((8 : Int32) * (1 : Int32))) &&& 31).toUInt32).toInt32)), (.int (pp + (1 : Int32))), (.ref ab)]))
  refine own_st (fun _ kq_ => XS.i2b X33.here hx rfl (hb hby d9_23) rfl kq_) ?_
  show OwnG _ _ _ _ _ _ _ (T33.setTop (mkF m 24 #[.val (.ref a1), .val (.int pp), .val (.int y), .val (.int (1 : Int32))] [(.int (((y.toUInt32 >>> (((24 : Int32) - ((8 : Int32) * (1 : Int32))) &&& 31).toUInt32).toInt32).toInt8.toInt32)), (.int (pp + (1 : Int32))), (.ref ab)]))
  obtain ⟨T34, h34, X34, e34, W34, V34, st34⟩ := own_sB X33 hx hZ e33 B32 (pz + 1) (own_add pp (1 : Int32) pz 1 hpp rfl (by omega)) (by omega) (g := (mkF m 24 #[.val (.ref a1), .val (.int pp), .val (.int y), .val (.int (1 : Int32))] [(.int (((y.toUInt32 >>> (((24 : Int32) - ((8 : Int32) * (1 : Int32))) &&& 31).toUInt32).toInt32).toInt8.toInt32)), (.int (pp + (1 : Int32))), (.ref ab)])) rfl rfl (hb hby d9_24)
  have N34 := Fr.snoc X34 N32 gab
  refine own_st st34 ?_
  show OwnG _ _ _ _ _ _ _ (T34.setTop (mkF m 25 #[.val (.ref a1), .val (.int pp), .val (.int y), .val (.int (1 : Int32))] []))
  have E34_ := E32_.wr W34
  have by34 := by32.other W34 (Or.inl hne)
  have sz34 := sz32.other W34 (Or.inl hne)
  have K34 := K32.wr W34 (Or.inl (List.mem_of_getElem? (i := 0) rfl))
  have B34 : Ary Z h34 ab .byte 4096 (fun j => .int ((own_ui (own_ui g (pz) (own_yb y 0)) (pz + 1) (own_yb y 1)) j)) := V34.cong fun j _ => own_uu _ _ _ _ (own_by _) j
  refine own_st (fun _ kq_ => XS.iinc X34.here hx rfl (hb hby d9_25) rfl (l' := #[.val (.ref a1), .val (.int pp), .val (.int y), .val (.int ((1 : Int32) + (1 : Int32)))]) rfl kq_) ?_
  show OwnG _ _ _ _ _ _ _ (T34.setTop (mkF m 28 #[.val (.ref a1), .val (.int pp), .val (.int y), .val (.int ((1 : Int32) + (1 : Int32)))] []))
  refine own_st (fun _ kq_ => XS.goto X34.here hx rfl (pc0 := 28) (pc' := 2) rfl (hb hby d9_28) (by decide) (by decide) kq_) ?_
  show OwnG _ _ _ _ _ _ _ (T34.setTop (mkF m 2 #[.val (.ref a1), .val (.int pp), .val (.int y), .val (.int ((1 : Int32) + (1 : Int32)))] []))
  rw [show (1 : Int32) + (1 : Int32) = 2 by decide]
  show OwnG _ _ _ _ _ _ _ (T34.setTop (mkF m 2 #[.val (.ref a1), .val (.int pp), .val (.int y), .val (.int (2 : Int32))] []))
  refine own_st (fun _ kq_ => XS.iloadN X34.here hx rfl (hb hby d9_2) rfl kq_) ?_
  show OwnG _ _ _ _ _ _ _ (T34.setTop (mkF m 3 #[.val (.ref a1), .val (.int pp), .val (.int y), .val (.int (2 : Int32))] [(.int (2 : Int32))]))
  refine own_st (fun _ kq_ => XS.iconst X34.here hx rfl (hb hby d9_3) kq_) ?_
  show OwnG _ _ _ _ _ _ _ (T34.setTop (mkF m 4 #[.val (.ref a1), .val (.int pp), .val (.int y), .val (.int (2 : Int32))] [(.int (4 : Int32)), (.int (2 : Int32))]))
  refine own_st (fun _ kq_ => XS.icmpNo X34.here hx rfl (hb hby d9_4) rfl (tlt (by decide)).2.1 kq_) ?_
  show OwnG _ _ _ _ _ _ _ (T34.setTop (mkF m 7 #[.val (.ref a1), .val (.int pp), .val (.int y), .val (.int (2 : Int32))] []))
  refine own_st (fun _ kq_ => XS.aloadN X34.here hx rfl (hb hby d9_7) rfl rfl kq_) ?_
  show OwnG _ _ _ _ _ _ _ (T34.setTop (mkF m 8 #[.val (.ref a1), .val (.int pp), .val (.int y), .val (.int (2 : Int32))] [(.ref a1)]))
  obtain ⟨T35, X35, e35, st35⟩ := getF X34 hx hZ hown (host := "") (Or.inl (hw _ (List.mem_of_getElem? (i := 10) rfl))) Via.refl e34 by34 (g := (mkF m 8 #[.val (.ref a1), .val (.int pp), .val (.int y), .val (.int (2 : Int32))] [(.ref a1)])) rfl rfl (hb hby d9_8)
  refine own_st st35 ?_
  show OwnG _ _ _ _ _ _ _ (T35.setTop (mkF m 11 #[.val (.ref a1), .val (.int pp), .val (.int y), .val (.int (2 : Int32))] [(.ref ab)]))
  refine own_st (fun _ kq_ => XS.iloadN X35.here hx rfl (hb hby d9_11) rfl kq_) ?_
  show OwnG _ _ _ _ _ _ _ (T35.setTop (mkF m 12 #[.val (.ref a1), .val (.int pp), .val (.int y), .val (.int (2 : Int32))] [(.int pp), (.ref ab)]))
  refine own_st (fun _ kq_ => XS.iloadN X35.here hx rfl (hb hby d9_12) rfl kq_) ?_
  show OwnG _ _ _ _ _ _ _ (T35.setTop (mkF m 13 #[.val (.ref a1), .val (.int pp), .val (.int y), .val (.int (2 : Int32))] [(.int (2 : Int32)), (.int pp), (.ref ab)]))
  refine own_st (fun _ kq_ => XS.iadd X35.here hx rfl (hb hby d9_13) rfl kq_) ?_
  show OwnG _ _ _ _ _ _ _ (T35.setTop (mkF m 14 #[.val (.ref a1), .val (.int pp), .val (.int y), .val (.int (2 : Int32))] [(.int (pp + (2 : Int32))), (.ref ab)]))
  refine own_st (fun _ kq_ => XS.iloadN X35.here hx rfl (hb hby d9_14) rfl kq_) ?_
  show OwnG _ _ _ _ _ _ _ (T35.setTop (mkF m 15 #[.val (.ref a1), .val (.int pp), .val (.int y), .val (.int (2 : Int32))] [(.int y), (.int (pp + (2 : Int32))), (.ref ab)]))
  refine own_st (fun _ kq_ => XS.bipush X35.here hx rfl (hb hby d9_15) kq_) ?_
  show OwnG _ _ _ _ _ _ _ (T35.setTop (mkF m 17 #[.val (.ref a1), .val (.int pp), .val (.int y), .val (.int (2 : Int32))] [(.int (24 : Int32)), (.int y), (.int (pp + (2 : Int32))), (.ref ab)]))
  refine own_st (fun _ kq_ => XS.bipush X35.here hx rfl (hb hby d9_17) kq_) ?_
  show OwnG _ _ _ _ _ _ _ (T35.setTop (mkF m 19 #[.val (.ref a1), .val (.int pp), .val (.int y), .val (.int (2 : Int32))] [(.int (8 : Int32)), (.int (24 : Int32)), (.int y), (.int (pp + (2 : Int32))), (.ref ab)]))
  refine own_st (fun _ kq_ => XS.iloadN X35.here hx rfl (hb hby d9_19) rfl kq_) ?_
  show OwnG _ _ _ _ _ _ _ (T35.setTop (mkF m 20 #[.val (.ref a1), .val (.int pp), .val (.int y), .val (.int (2 : Int32))] [(.int (2 : Int32)), (.int (8 : Int32)), (.int (24 : Int32)), (.int y), (.int (pp + (2 : Int32))), (.ref ab)]))
  refine own_st (fun _ kq_ => XS.imul X35.here hx rfl (hb hby d9_20) rfl kq_) ?_
  show OwnG _ _ _ _ _ _ _ (T35.setTop (mkF m 21 #[.val (.ref a1), .val (.int pp), .val (.int y), .val (.int (2 : Int32))] [(.int ((8 : Int32) * (2 : Int32))), (.int (24 : Int32)), (.int y), (.int (pp + (2 : Int32))), (.ref ab)]))
  refine own_st (fun _ kq_ => XS.isub X35.here hx rfl (hb hby d9_21) rfl kq_) ?_
  show OwnG _ _ _ _ _ _ _ (T35.setTop (mkF m 22 #[.val (.ref a1), .val (.int pp), .val (.int y), .val (.int (2 : Int32))] [(.int ((24 : Int32) - ((8 : Int32) * (2 : Int32)))), (.int y), (.int (pp + (2 : Int32))), (.ref ab)]))
  refine own_st (fun _ kq_ => XS.iushr X35.here hx rfl (hb hby d9_22) rfl kq_) ?_
  show OwnG _ _ _ _ _ _ _ (T35.setTop (mkF m 23 #[.val (.ref a1), .val (.int pp), .val (.int y), .val (.int (2 : Int32))] [(.int ((y.toUInt32 >>> (((24 : Int32) - ((8 : Int32) * (2 : Int32))) &&& 31).toUInt32).toInt32)), (.int (pp + (2 : Int32))), (.ref ab)]))
  refine own_st (fun _ kq_ => XS.i2b X35.here hx rfl (hb hby d9_23) rfl kq_) ?_
  show OwnG _ _ _ _ _ _ _ (T35.setTop (mkF m 24 #[.val (.ref a1), .val (.int pp), .val (.int y), .val (.int (2 : Int32))] [(.int (((y.toUInt32 >>> (((24 : Int32) - ((8 : Int32) * (2 : Int32))) &&& 31).toUInt32).toInt32).toInt8.toInt32)), (.int (pp + (2 : Int32))), (.ref ab)]))
  obtain ⟨T36, h36, X36, e36, W36, V36, st36⟩ := own_sB X35 hx hZ e35 B34 (pz + 2) (own_add pp (2 : Int32) pz 2 hpp rfl (by omega)) (by omega) (g := (mkF m 24 #[.val (.ref a1), .val (.int pp), .val (.int y), .val (.int (2 : Int32))] [(.int (((y.toUInt32 >>> (((24 : Int32) - ((8 : Int32) * (2 : Int32))) &&& 31).toUInt32).toInt32).toInt8.toInt32)), (.int (pp + (2 : Int32))), (.ref ab)])) rfl rfl (hb hby d9_24)
  have N36 := Fr.snoc X36 N34 gab
  refine own_st st36 ?_
  show OwnG _ _ _ _ _ _ _ (T36.setTop (mkF m 25 #[.val (.ref a1), .val (.int pp), .val (.int y), .val (.int (2 : Int32))] []))
  have E36_ := E34_.wr W36
  have by36 := by34.other W36 (Or.inl hne)
  have sz36 := sz34.other W36 (Or.inl hne)
  have K36 := K34.wr W36 (Or.inl (List.mem_of_getElem? (i := 0) rfl))
  have B36 : Ary Z h36 ab .byte 4096 (fun j => .int ((own_ui (own_ui (own_ui g (pz) (own_yb y 0)) (pz + 1) (own_yb y 1)) (pz + 2) (own_yb y 2)) j)) := V36.cong fun j _ => own_uu _ _ _ _ (own_by _) j
  refine own_st (fun _ kq_ => XS.iinc X36.here hx rfl (hb hby d9_25) rfl (l' := #[.val (.ref a1), .val (.int pp), .val (.int y), .val (.int ((2 : Int32) + (1 : Int32)))]) rfl kq_) ?_
  show OwnG _ _ _ _ _ _ _ (T36.setTop (mkF m 28 #[.val (.ref a1), .val (.int pp), .val (.int y), .val (.int ((2 : Int32) + (1 : Int32)))] []))
  refine own_st (fun _ kq_ => XS.goto X36.here hx rfl (pc0 := 28) (pc' := 2) rfl (hb hby d9_28) (by decide) (by decide) kq_) ?_
  show OwnG _ _ _ _ _ _ _ (T36.setTop (mkF m 2 #[.val (.ref a1), .val (.int pp), .val (.int y), .val (.int ((2 : Int32) + (1 : Int32)))] []))
  rw [show (2 : Int32) + (1 : Int32) = 3 by decide]
  show OwnG _ _ _ _ _ _ _ (T36.setTop (mkF m 2 #[.val (.ref a1), .val (.int pp), .val (.int y), .val (.int (3 : Int32))] []))
  refine own_st (fun _ kq_ => XS.iloadN X36.here hx rfl (hb hby d9_2) rfl kq_) ?_
  show OwnG _ _ _ _ _ _ _ (T36.setTop (mkF m 3 #[.val (.ref a1), .val (.int pp), .val (.int y), .val (.int (3 : Int32))] [(.int (3 : Int32))]))
  refine own_st (fun _ kq_ => XS.iconst X36.here hx rfl (hb hby d9_3) kq_) ?_
  show OwnG _ _ _ _ _ _ _ (T36.setTop (mkF m 4 #[.val (.ref a1), .val (.int pp), .val (.int y), .val (.int (3 : Int32))] [(.int (4 : Int32)), (.int (3 : Int32))]))
  refine own_st (fun _ kq_ => XS.icmpNo X36.here hx rfl (hb hby d9_4) rfl (tlt (by decide)).2.1 kq_) ?_
  show OwnG _ _ _ _ _ _ _ (T36.setTop (mkF m 7 #[.val (.ref a1), .val (.int pp), .val (.int y), .val (.int (3 : Int32))] []))
  refine own_st (fun _ kq_ => XS.aloadN X36.here hx rfl (hb hby d9_7) rfl rfl kq_) ?_
  show OwnG _ _ _ _ _ _ _ (T36.setTop (mkF m 8 #[.val (.ref a1), .val (.int pp), .val (.int y), .val (.int (3 : Int32))] [(.ref a1)]))
  obtain ⟨T37, X37, e37, st37⟩ := getF X36 hx hZ hown (host := "") (Or.inl (hw _ (List.mem_of_getElem? (i := 10) rfl))) Via.refl e36 by36 (g := (mkF m 8 #[.val (.ref a1), .val (.int pp), .val (.int y), .val (.int (3 : Int32))] [(.ref a1)])) rfl rfl (hb hby d9_8)
  refine own_st st37 ?_
  show OwnG _ _ _ _ _ _ _ (T37.setTop (mkF m 11 #[.val (.ref a1), .val (.int pp), .val (.int y), .val (.int (3 : Int32))] [(.ref ab)]))
  refine own_st (fun _ kq_ => XS.iloadN X37.here hx rfl (hb hby d9_11) rfl kq_) ?_
  show OwnG _ _ _ _ _ _ _ (T37.setTop (mkF m 12 #[.val (.ref a1), .val (.int pp), .val (.int y), .val (.int (3 : Int32))] [(.int pp), (.ref ab)]))
  refine own_st (fun _ kq_ => XS.iloadN X37.here hx rfl (hb hby d9_12) rfl kq_) ?_
  show OwnG _ _ _ _ _ _ _ (T37.setTop (mkF m 13 #[.val (.ref a1), .val (.int pp), .val (.int y), .val (.int (3 : Int32))] [(.int (3 : Int32)), (.int pp), (.ref ab)]))
  refine own_st (fun _ kq_ => XS.iadd X37.here hx rfl (hb hby d9_13) rfl kq_) ?_
  show OwnG _ _ _ _ _ _ _ (T37.setTop (mkF m 14 #[.val (.ref a1), .val (.int pp), .val (.int y), .val (.int (3 : Int32))] [(.int (pp + (3 : Int32))), (.ref ab)]))
  refine own_st (fun _ kq_ => XS.iloadN X37.here hx rfl (hb hby d9_14) rfl kq_) ?_
  show OwnG _ _ _ _ _ _ _ (T37.setTop (mkF m 15 #[.val (.ref a1), .val (.int pp), .val (.int y), .val (.int (3 : Int32))] [(.int y), (.int (pp + (3 : Int32))), (.ref ab)]))
  refine own_st (fun _ kq_ => XS.bipush X37.here hx rfl (hb hby d9_15) kq_) ?_
  show OwnG _ _ _ _ _ _ _ (T37.setTop (mkF m 17 #[.val (.ref a1), .val (.int pp), .val (.int y), .val (.int (3 : Int32))] [(.int (24 : Int32)), (.int y), (.int (pp + (3 : Int32))), (.ref ab)]))
  refine own_st (fun _ kq_ => XS.bipush X37.here hx rfl (hb hby d9_17) kq_) ?_
  show OwnG _ _ _ _ _ _ _ (T37.setTop (mkF m 19 #[.val (.ref a1), .val (.int pp), .val (.int y), .val (.int (3 : Int32))] [(.int (8 : Int32)), (.int (24 : Int32)), (.int y), (.int (pp + (3 : Int32))), (.ref ab)]))
  refine own_st (fun _ kq_ => XS.iloadN X37.here hx rfl (hb hby d9_19) rfl kq_) ?_
  show OwnG _ _ _ _ _ _ _ (T37.setTop (mkF m 20 #[.val (.ref a1), .val (.int pp), .val (.int y), .val (.int (3 : Int32))] [(.int (3 : Int32)), (.int (8 : Int32)), (.int (24 : Int32)), (.int y), (.int (pp + (3 : Int32))), (.ref ab)]))
  refine own_st (fun _ kq_ => XS.imul X37.here hx rfl (hb hby d9_20) rfl kq_) ?_
  show OwnG _ _ _ _ _ _ _ (T37.setTop (mkF m 21 #[.val (.ref a1), .val (.int pp), .val (.int y), .val (.int (3 : Int32))] [(.int ((8 : Int32) * (3 : Int32))), (.int (24 : Int32)), (.int y), (.int (pp + (3 : Int32))), (.ref ab)]))
  refine own_st (fun _ kq_ => XS.isub X37.here hx rfl (hb hby d9_21) rfl kq_) ?_
  show OwnG _ _ _ _ _ _ _ (T37.setTop (mkF m 22 #[.val (.ref a1), .val (.int pp), .val (.int y), .val (.int (3 : Int32))] [(.int ((24 : Int32) - ((8 : Int32) * (3 : Int32)))), (.int y), (.int (pp + (3 : Int32))), (.ref ab)]))
  refine own_st (fun _ kq_ => XS.iushr X37.here hx rfl (hb hby d9_22) rfl kq_) ?_
  show OwnG _ _ _ _ _ _ _ (T37.setTop (mkF m 23 #[.val (.ref a1), .val (.int pp), .val (.int y), .val (.int (3 : Int32))] [(.int ((y.toUInt32 >>> (((24 : Int32) - ((8 : Int32) * (3 : Int32))) &&& 31).toUInt32).toInt32)), (.int (pp + (3 : Int32))), (.ref ab)]))
  refine own_st (fun _ kq_ => XS.i2b X37.here hx rfl (hb hby d9_23) rfl kq_) ?_
  show OwnG _ _ _ _ _ _ _ (T37.setTop (mkF m 24 #[.val (.ref a1), .val (.int pp), .val (.int y), .val (.int (3 : Int32))] [(.int (((y.toUInt32 >>> (((24 : Int32) - ((8 : Int32) * (3 : Int32))) &&& 31).toUInt32).toInt32).toInt8.toInt32)), (.int (pp + (3 : Int32))), (.ref ab)]))
  obtain ⟨T38, h38, X38, e38, W38, V38, st38⟩ := own_sB X37 hx hZ e37 B36 (pz + 3) (own_add pp (3 : Int32) pz 3 hpp rfl (by omega)) (by omega) (g := (mkF m 24 #[.val (.ref a1), .val (.int pp), .val (.int y), .val (.int (3 : Int32))] [(.int (((y.toUInt32 >>> (((24 : Int32) - ((8 : Int32) * (3 : Int32))) &&& 31).toUInt32).toInt32).toInt8.toInt32)), (.int (pp + (3 : Int32))), (.ref ab)])) rfl rfl (hb hby d9_24)
  have N38 := Fr.snoc X38 N36 gab
  refine own_st st38 ?_
  show OwnG _ _ _ _ _ _ _ (T38.setTop (mkF m 25 #[.val (.ref a1), .val (.int pp), .val (.int y), .val (.int (3 : Int32))] []))
  have E38_ := E36_.wr W38
  have by38 := by36.other W38 (Or.inl hne)
  have sz38 := sz36.other W38 (Or.inl hne)
  have K38 := K36.wr W38 (Or.inl (List.mem_of_getElem? (i := 0) rfl))
  have B38 : Ary Z h38 ab .byte 4096 (fun j => .int ((own_ui (own_ui (own_ui (own_ui g (pz) (own_yb y 0)) (pz + 1) (own_yb y 1)) (pz + 2) (own_yb y 2)) (pz + 3) (own_yb y 3)) j)) := V38.cong fun j _ => own_uu _ _ _ _ (own_by _) j
  refine own_st (fun _ kq_ => XS.iinc X38.here hx rfl (hb hby d9_25) rfl (l' := #[.val (.ref a1), .val (.int pp), .val (.int y), .val (.int ((3 : Int32) + (1 : Int32)))]) rfl kq_) ?_
  show OwnG _ _ _ _ _ _ _ (T38.setTop (mkF m 28 #[.val (.ref a1), .val (.int pp), .val (.int y), .val (.int ((3 : Int32) + (1 : Int32)))] []))
  refine own_st (fun _ kq_ => XS.goto X38.here hx rfl (pc0 := 28) (pc' := 2) rfl (hb hby d9_28) (by decide) (by decide) kq_) ?_
  show OwnG _ _ _ _ _ _ _ (T38.setTop (mkF m 2 #[.val (.ref a1), .val (.int pp), .val (.int y), .val (.int ((3 : Int32) + (1 : Int32)))] []))
  rw [show (3 : Int32) + (1 : Int32) = 4 by decide]
  show OwnG _ _ _ _ _ _ _ (T38.setTop (mkF m 2 #[.val (.ref a1), .val (.int pp), .val (.int y), .val (.int (4 : Int32))] []))
  refine own_st (fun _ kq_ => XS.iloadN X38.here hx rfl (hb hby d9_2) rfl kq_) ?_
  show OwnG _ _ _ _ _ _ _ (T38.setTop (mkF m 3 #[.val (.ref a1), .val (.int pp), .val (.int y), .val (.int (4 : Int32))] [(.int (4 : Int32))]))
  refine own_st (fun _ kq_ => XS.iconst X38.here hx rfl (hb hby d9_3) kq_) ?_
  show OwnG _ _ _ _ _ _ _ (T38.setTop (mkF m 4 #[.val (.ref a1), .val (.int pp), .val (.int y), .val (.int (4 : Int32))] [(.int (4 : Int32)), (.int (4 : Int32))]))
  refine own_st (fun _ kq_ => XS.icmpYes X38.here hx rfl (pc0 := 4) (pc' := 31) rfl (hb hby d9_4) rfl (flt (by decide)).2.1 (by decide) (by decide) kq_) ?_
  show OwnG _ _ _ _ _ _ _ (T38.setTop (mkF m 31 #[.val (.ref a1), .val (.int pp), .val (.int y), .val (.int (4 : Int32))] []))
  have VV : Ary Z h38 ab .byte 4096 (fun j => .int (own_w g pz y j)) := B38.cong fun j _ => congrArg Value.int (own_w4 g pz y j)
  exact own_retV X38 hx hrt hlk (hb hby d9_31) (by decide) (by decide) (by show _ ∧ _; first | (rw [e38]; exact ⟨rfl, N38, by rw [W38.size, W36.size, W34.size, W32.size]; exact Z0, K38, E38_, by38, sz38, VV, hne⟩) | exact ⟨rfl, N38, by rw [W38.size, W36.size, W34.size, W32.size]; exact Z0, K38, E38_, by38, sz38, VV, hne⟩)
theorem d10_0 : decode prog_141_method_5_code 0 = .ok (.aload_n 0, 1) := by decide +kernel
theorem d10_1 : decode prog_141_method_5_code 1 = .ok (.getfield 17, 3) := by decide +kernel
theorem d10_4 : decode prog_141_method_5_code 4 = .ok (.ireturn, 1) := by decide +kernel
theorem pn_9 : plainFor (⟨"com/example/khepri/khepri/ImageWriter", "position", "()I"⟩ : MethodName) = true := by first | exact plainFor_of_name (by first | (simp [plainName, overriddenIn]; done) | decide +kernel) | decide +kernel
theorem ef_9 (m : MethodId) (x0 : Addr) : entryFrame m #[(.ref x0)] 1 = mkF m 0 #[.val (.ref x0)] [] := by first | (simp [entryFrame, mkF, argsToLocals, Value.category]; done) | rfl
def Q9 (Z : State) (a1 : Addr) (ab : Addr) (sz : Nat) (g : Nat → Int32) (h0 : Heap) (n0 : Nat) (v : Option Value) (h : Heap) (L : List Loc) : Prop := v = some (.int (Int32.ofNat sz)) ∧ Fr n0 L ∧ h = h0
set_option maxRecDepth 65536 in
set_option maxHeartbeats 40000000 in
theorem rm9 (l : Launch) (Z : State) (a0 : Array Value) (hw : ∀ d ∈ tables_1, d.before a0 Z = true) (ws : List Jvm.Cond) (a1 : Addr) (ab : Addr) (sz : Nat) (g : Nat → Int32) (h0 : Heap) (n0 : Nat) (Z0 : n0 ≤ h0.size) (I0 : IW Z h0 a1 ab sz g) :
    MetFree l (⟨"com/example/khepri/khepri/ImageWriter", "position", "()I"⟩ : MethodName) (head1 (Jvm.Cond.code (⟨"com/example/khepri/khepri/ImageWriter", "position", "()I"⟩ : MethodName) prog_141_method_5_code 1 (some .int) :: ws) ({ frames := 0, cells := 0, slots := 0, locals := 0 } : Room)) (fun a U => a = #[(.ref a1)] ∧ Z.Warmed39 U.vm ∧ U.heap = h0) (fun _ _ _ _ _ => True) (fun _ U o U' => ∃ v L, o = .returned v ∧ Q9 Z a1 ab sz g h0 n0 v U'.heap L ∧ FrameEnd U o U' L ({ frames := 0, cells := 0, slots := 0, locals := 0 } : Room).cells ({ frames := 0, cells := 0, slots := 0, locals := 0 } : Room).slots) := by
  refine MetFree.of_bodySF pn_9 hisR ?_
  intro p e s m args below meth c s₁ Bd hml0 hP hK
  obtain ⟨rfl, hZ, hh⟩ := hP
  have hx := Bd.exec
  have hby := Bd.bytes
  have hml : c.maxLocals = 1 := hml0
  have hown : s.vm.findClass "com/example/khepri/khepri/ImageWriter" = some m.cls := findClass_of_methodNamed Bd.named
  have hnm := (name_of_methodNamed Bd.named Bd.method).1
  have hrt := Bd.returns
  have hlk : meth.locks = false := BodyLoose.notSynchronized Bd
  have X0 : Stand p l e ({ frames := 0, cells := 0, slots := 0, locals := 0 } : Room) s m #[(.ref a1)] below meth c s₁ [] 0 0 := Stand.of_body Bd
  have e0 : s₁.heap = h0 := by rw [← hh, Bd.state]; rfl
  have N0 := Fr.nil n0
  show OwnG ({ frames := 0, cells := 0, slots := 0, locals := 0 } : Room).cells ({ frames := 0, cells := 0, slots := 0, locals := 0 } : Room).slots (Q9 Z a1 ab sz g h0 n0) p e below s (s₁.setTop (entryFrame m #[(.ref a1)] 1))
  refine own_st (σ' := s₁.setTop (mkF m 0 #[.val (.ref a1)] [])) (fun _ kq_ => castTop (ef_9 m a1) kq_) ?_
  show OwnG _ _ _ _ _ _ _ (s₁.setTop (mkF m 0 #[.val (.ref a1)] []))
  obtain ⟨E_a, F_by, F_sz, V0, hne⟩ := I0
  refine own_st (fun _ kq_ => XS.aloadN X0.here hx rfl (hb hby d10_0) rfl rfl kq_) ?_
  show OwnG _ _ _ _ _ _ _ (s₁.setTop (mkF m 1 #[.val (.ref a1)] [(.ref a1)]))
  obtain ⟨T39, X39, e39, st39⟩ := getF X0 hx hZ hown (host := "") (Or.inl (hw _ (List.mem_of_getElem? (i := 26) rfl))) Via.refl e0 F_sz (g := (mkF m 1 #[.val (.ref a1)] [(.ref a1)])) rfl rfl (hb hby d10_1)
  refine own_st st39 ?_
  show OwnG _ _ _ _ _ _ _ (T39.setTop (mkF m 4 #[.val (.ref a1)] [(.int (Int32.ofNat sz))]))
  exact own_retI X39 hx hrt hlk (hb hby d10_4) (by decide) (by decide) (by show _ ∧ _; first | (rw [e39]; exact ⟨rfl, N0, rfl⟩) | exact ⟨rfl, N0, rfl⟩)
theorem d11_0 : decode method_3_code 0 = .ok (.iload_n 3, 1) := by decide +kernel
theorem d11_1 : decode method_3_code 1 = .ok (.iload_n 2, 1) := by decide +kernel
theorem d11_2 : decode method_3_code 2 = .ok (.if_icmp .lt 12, 3) := by decide +kernel
theorem d11_5 : decode method_3_code 5 = .ok (.iload_n 3, 1) := by decide +kernel
theorem d11_6 : decode method_3_code 6 = .ok (.iload_n 2, 1) := by decide +kernel
theorem d11_7 : decode method_3_code 7 = .ok (.iconst 4, 1) := by decide +kernel
theorem d11_8 : decode method_3_code 8 = .ok (.iadd, 1) := by decide +kernel
theorem d11_9 : decode method_3_code 9 = .ok (.if_icmp .ge 5, 3) := by decide +kernel
theorem d11_12 : decode method_3_code 12 = .ok (.iconst 1, 1) := by decide +kernel
theorem d11_13 : decode method_3_code 13 = .ok (.ireturn, 1) := by decide +kernel
theorem d11_14 : decode method_3_code 14 = .ok (.aload_n 1, 1) := by decide +kernel
theorem d11_15 : decode method_3_code 15 = .ok (.iload_n 3, 1) := by decide +kernel
theorem d11_16 : decode method_3_code 16 = .ok (.baload, 1) := by decide +kernel
theorem d11_17 : decode method_3_code 17 = .ok (.aload_n 0, 1) := by decide +kernel
theorem d11_18 : decode method_3_code 18 = .ok (.iload_n 3, 1) := by decide +kernel
theorem d11_19 : decode method_3_code 19 = .ok (.baload, 1) := by decide +kernel
theorem d11_20 : decode method_3_code 20 = .ok (.if_icmp .ne 7, 3) := by decide +kernel
theorem d11_23 : decode method_3_code 23 = .ok (.iconst 1, 1) := by decide +kernel
theorem d11_24 : decode method_3_code 24 = .ok (.goto 4, 3) := by decide +kernel
theorem d11_27 : decode method_3_code 27 = .ok (.iconst 0, 1) := by decide +kernel
theorem d11_28 : decode method_3_code 28 = .ok (.ireturn, 1) := by decide +kernel
theorem pn_10 : plainFor (⟨"com/example/khepri/khepri/ImageWriterWriteIntAtPinLaw", "same", "([B[BII)Z"⟩ : MethodName) = true := by first | exact plainFor_of_name (by first | (simp [plainName, overriddenIn]; done) | decide +kernel) | decide +kernel
theorem ef_10 (m : MethodId) (x0 : Addr) (x1 : Addr) (x2 : Int32) (x3 : Int32) : entryFrame m #[(.ref x0), (.ref x1), (.int x2), (.int x3)] 4 = mkF m 0 #[.val (.ref x0), .val (.ref x1), .val (.int x2), .val (.int x3)] [] := by first | (simp [entryFrame, mkF, argsToLocals, Value.category]; done) | rfl
def Q10 (Z : State) (a1 : Addr) (a2 : Addr) (pp : Int32) (kk : Int32) (pz : Nat) (k : Nat) (g1 : Nat → Int32) (g2 : Nat → Int32) (h0 : Heap) (n0 : Nat) (v : Option Value) (h : Heap) (L : List Loc) : Prop := v = some (.int 1) ∧ Fr n0 L ∧ h = h0
set_option maxRecDepth 65536 in
set_option maxHeartbeats 40000000 in
theorem rm10 (l : Launch) (Z : State) (a0 : Array Value) (hw : ∀ d ∈ tables_1, d.before a0 Z = true) (ws : List Jvm.Cond) (a1 : Addr) (a2 : Addr) (pp : Int32) (kk : Int32) (pz : Nat) (k : Nat) (g1 : Nat → Int32) (g2 : Nat → Int32) (h0 : Heap) (n0 : Nat) (Z0 : n0 ≤ h0.size) (hpp : pp.toInt = (pz : Int)) (hp : pz ≤ 8) (hkk : kk.toInt = (k : Int)) (hk : k < 12) (V1 : Ary Z h0 a1 .byte 12 (fun j => .int (g1 j))) (V2 : Ary Z h0 a2 .byte 12 (fun j => .int (g2 j))) (hg : ¬ (pz ≤ k ∧ k < pz + 4) → g2 k = g1 k) :
    MetFree l (⟨"com/example/khepri/khepri/ImageWriterWriteIntAtPinLaw", "same", "([B[BII)Z"⟩ : MethodName) (head1 (Jvm.Cond.code (⟨"com/example/khepri/khepri/ImageWriterWriteIntAtPinLaw", "same", "([B[BII)Z"⟩ : MethodName) method_3_code 4 (some .boolean) :: ws) ({ frames := 0, cells := 0, slots := 0, locals := 0 } : Room)) (fun a U => a = #[(.ref a1), (.ref a2), (.int pp), (.int kk)] ∧ Z.Warmed39 U.vm ∧ U.heap = h0) (fun _ _ _ _ _ => True) (fun _ U o U' => ∃ v L, o = .returned v ∧ Q10 Z a1 a2 pp kk pz k g1 g2 h0 n0 v U'.heap L ∧ FrameEnd U o U' L ({ frames := 0, cells := 0, slots := 0, locals := 0 } : Room).cells ({ frames := 0, cells := 0, slots := 0, locals := 0 } : Room).slots) := by
  refine MetFree.of_bodySF pn_10 hisR ?_
  intro p e s m args below meth c s₁ Bd hml0 hP hK
  obtain ⟨rfl, hZ, hh⟩ := hP
  have hx := Bd.exec
  have hby := Bd.bytes
  have hml : c.maxLocals = 4 := hml0
  have hown : s.vm.findClass "com/example/khepri/khepri/ImageWriterWriteIntAtPinLaw" = some m.cls := findClass_of_methodNamed Bd.named
  have hnm := (name_of_methodNamed Bd.named Bd.method).1
  have hrt := Bd.returns
  have hlk : meth.locks = false := BodyLoose.notSynchronized Bd
  have X0 : Stand p l e ({ frames := 0, cells := 0, slots := 0, locals := 0 } : Room) s m #[(.ref a1), (.ref a2), (.int pp), (.int kk)] below meth c s₁ [] 0 0 := Stand.of_body Bd
  have e0 : s₁.heap = h0 := by rw [← hh, Bd.state]; rfl
  have N0 := Fr.nil n0
  show OwnG ({ frames := 0, cells := 0, slots := 0, locals := 0 } : Room).cells ({ frames := 0, cells := 0, slots := 0, locals := 0 } : Room).slots (Q10 Z a1 a2 pp kk pz k g1 g2 h0 n0) p e below s (s₁.setTop (entryFrame m #[(.ref a1), (.ref a2), (.int pp), (.int kk)] 4))
  refine own_st (σ' := s₁.setTop (mkF m 0 #[.val (.ref a1), .val (.ref a2), .val (.int pp), .val (.int kk)] [])) (fun _ kq_ => castTop (ef_10 m a1 a2 pp kk) kq_) ?_
  show OwnG _ _ _ _ _ _ _ (s₁.setTop (mkF m 0 #[.val (.ref a1), .val (.ref a2), .val (.int pp), .val (.int kk)] []))
  have h4 := own_add pp 4 pz 4 hpp rfl (by omega)
  refine own_st (fun _ kq_ => XS.iloadN X0.here hx rfl (hb hby d11_0) rfl kq_) ?_
  show OwnG _ _ _ _ _ _ _ (s₁.setTop (mkF m 1 #[.val (.ref a1), .val (.ref a2), .val (.int pp), .val (.int kk)] [(.int kk)]))
  refine own_st (fun _ kq_ => XS.iloadN X0.here hx rfl (hb hby d11_1) rfl kq_) ?_
  show OwnG _ _ _ _ _ _ _ (s₁.setTop (mkF m 2 #[.val (.ref a1), .val (.ref a2), .val (.int pp), .val (.int kk)] [(.int pp), (.int kk)]))
  by_cases h2 : kk < pp
  · skip
    refine own_st (fun _ kq_ => XS.icmpYes X0.here hx rfl (pc0 := 2) (pc' := 14) rfl (hb hby d11_2) rfl (tlt h2).1 (by decide) (by decide) kq_) ?_
    show OwnG _ _ _ _ _ _ _ (s₁.setTop (mkF m 14 #[.val (.ref a1), .val (.ref a2), .val (.int pp), .val (.int kk)] []))
    rw [Int32.lt_iff_toInt_lt] at h2
    refine own_st (fun _ kq_ => XS.aloadN X0.here hx rfl (hb hby d11_14) rfl rfl kq_) ?_
    show OwnG _ _ _ _ _ _ _ (s₁.setTop (mkF m 15 #[.val (.ref a1), .val (.ref a2), .val (.int pp), .val (.int kk)] [(.ref a2)]))
    refine own_st (fun _ kq_ => XS.iloadN X0.here hx rfl (hb hby d11_15) rfl kq_) ?_
    show OwnG _ _ _ _ _ _ _ (s₁.setTop (mkF m 16 #[.val (.ref a1), .val (.ref a2), .val (.int pp), .val (.int kk)] [(.int kk), (.ref a2)]))
    refine own_st (own_bl X0 hx hZ e0 V2 (k) hkk hk rfl (g := (mkF m 16 #[.val (.ref a1), .val (.ref a2), .val (.int pp), .val (.int kk)] [(.int kk), (.ref a2)])) rfl rfl (hb hby d11_16)) ?_
    show OwnG _ _ _ _ _ _ _ (s₁.setTop (mkF m 17 #[.val (.ref a1), .val (.ref a2), .val (.int pp), .val (.int kk)] [(.int (g2 k))]))
    refine own_st (fun _ kq_ => XS.aloadN X0.here hx rfl (hb hby d11_17) rfl rfl kq_) ?_
    show OwnG _ _ _ _ _ _ _ (s₁.setTop (mkF m 18 #[.val (.ref a1), .val (.ref a2), .val (.int pp), .val (.int kk)] [(.ref a1), (.int (g2 k))]))
    refine own_st (fun _ kq_ => XS.iloadN X0.here hx rfl (hb hby d11_18) rfl kq_) ?_
    show OwnG _ _ _ _ _ _ _ (s₁.setTop (mkF m 19 #[.val (.ref a1), .val (.ref a2), .val (.int pp), .val (.int kk)] [(.int kk), (.ref a1), (.int (g2 k))]))
    refine own_st (own_bl X0 hx hZ e0 V1 (k) hkk hk rfl (g := (mkF m 19 #[.val (.ref a1), .val (.ref a2), .val (.int pp), .val (.int kk)] [(.int kk), (.ref a1), (.int (g2 k))])) rfl rfl (hb hby d11_19)) ?_
    show OwnG _ _ _ _ _ _ _ (s₁.setTop (mkF m 20 #[.val (.ref a1), .val (.ref a2), .val (.int pp), .val (.int kk)] [(.int (g1 k)), (.int (g2 k))]))
    refine own_st (fun _ kq_ => XS.icmpNo X0.here hx rfl (hb hby d11_20) rfl (teq (hg (by omega))).2 kq_) ?_
    show OwnG _ _ _ _ _ _ _ (s₁.setTop (mkF m 23 #[.val (.ref a1), .val (.ref a2), .val (.int pp), .val (.int kk)] []))
    refine own_st (fun _ kq_ => XS.iconst X0.here hx rfl (hb hby d11_23) kq_) ?_
    show OwnG _ _ _ _ _ _ _ (s₁.setTop (mkF m 24 #[.val (.ref a1), .val (.ref a2), .val (.int pp), .val (.int kk)] [(.int (1 : Int32))]))
    refine own_st (fun _ kq_ => XS.goto X0.here hx rfl (pc0 := 24) (pc' := 28) rfl (hb hby d11_24) (by decide) (by decide) kq_) ?_
    show OwnG _ _ _ _ _ _ _ (s₁.setTop (mkF m 28 #[.val (.ref a1), .val (.ref a2), .val (.int pp), .val (.int kk)] [(.int (1 : Int32))]))
    exact own_retN X0 hx hrt hlk (t := .boolean) (by simp) (hb hby d11_28) (by decide) (by decide) (by show _ ∧ _; first | (rw [e0]; exact ⟨rfl, N0, rfl⟩) | exact ⟨rfl, N0, rfl⟩)
  · skip
    refine own_st (fun _ kq_ => XS.icmpNo X0.here hx rfl (hb hby d11_2) rfl (flt h2).1 kq_) ?_
    show OwnG _ _ _ _ _ _ _ (s₁.setTop (mkF m 5 #[.val (.ref a1), .val (.ref a2), .val (.int pp), .val (.int kk)] []))
    refine own_st (fun _ kq_ => XS.iloadN X0.here hx rfl (hb hby d11_5) rfl kq_) ?_
    show OwnG _ _ _ _ _ _ _ (s₁.setTop (mkF m 6 #[.val (.ref a1), .val (.ref a2), .val (.int pp), .val (.int kk)] [(.int kk)]))
    refine own_st (fun _ kq_ => XS.iloadN X0.here hx rfl (hb hby d11_6) rfl kq_) ?_
    show OwnG _ _ _ _ _ _ _ (s₁.setTop (mkF m 7 #[.val (.ref a1), .val (.ref a2), .val (.int pp), .val (.int kk)] [(.int pp), (.int kk)]))
    refine own_st (fun _ kq_ => XS.iconst X0.here hx rfl (hb hby d11_7) kq_) ?_
    show OwnG _ _ _ _ _ _ _ (s₁.setTop (mkF m 8 #[.val (.ref a1), .val (.ref a2), .val (.int pp), .val (.int kk)] [(.int (4 : Int32)), (.int pp), (.int kk)]))
    refine own_st (fun _ kq_ => XS.iadd X0.here hx rfl (hb hby d11_8) rfl kq_) ?_
    show OwnG _ _ _ _ _ _ _ (s₁.setTop (mkF m 9 #[.val (.ref a1), .val (.ref a2), .val (.int pp), .val (.int kk)] [(.int (pp + (4 : Int32))), (.int kk)]))
    by_cases h9 : kk < (pp + (4 : Int32))
    · skip
      refine own_st (fun _ kq_ => XS.icmpNo X0.here hx rfl (hb hby d11_9) rfl (tlt h9).2.1 kq_) ?_
      show OwnG _ _ _ _ _ _ _ (s₁.setTop (mkF m 12 #[.val (.ref a1), .val (.ref a2), .val (.int pp), .val (.int kk)] []))
      refine own_st (fun _ kq_ => XS.iconst X0.here hx rfl (hb hby d11_12) kq_) ?_
      show OwnG _ _ _ _ _ _ _ (s₁.setTop (mkF m 13 #[.val (.ref a1), .val (.ref a2), .val (.int pp), .val (.int kk)] [(.int (1 : Int32))]))
      exact own_retN X0 hx hrt hlk (t := .boolean) (by simp) (hb hby d11_13) (by decide) (by decide) (by show _ ∧ _; first | (rw [e0]; exact ⟨rfl, N0, rfl⟩) | exact ⟨rfl, N0, rfl⟩)
    · skip
      refine own_st (fun _ kq_ => XS.icmpYes X0.here hx rfl (pc0 := 9) (pc' := 14) rfl (hb hby d11_9) rfl (flt h9).2.1 (by decide) (by decide) kq_) ?_
      show OwnG _ _ _ _ _ _ _ (s₁.setTop (mkF m 14 #[.val (.ref a1), .val (.ref a2), .val (.int pp), .val (.int kk)] []))
      rw [Int32.lt_iff_toInt_lt] at h9
      refine own_st (fun _ kq_ => XS.aloadN X0.here hx rfl (hb hby d11_14) rfl rfl kq_) ?_
      show OwnG _ _ _ _ _ _ _ (s₁.setTop (mkF m 15 #[.val (.ref a1), .val (.ref a2), .val (.int pp), .val (.int kk)] [(.ref a2)]))
      refine own_st (fun _ kq_ => XS.iloadN X0.here hx rfl (hb hby d11_15) rfl kq_) ?_
      show OwnG _ _ _ _ _ _ _ (s₁.setTop (mkF m 16 #[.val (.ref a1), .val (.ref a2), .val (.int pp), .val (.int kk)] [(.int kk), (.ref a2)]))
      refine own_st (own_bl X0 hx hZ e0 V2 (k) hkk hk rfl (g := (mkF m 16 #[.val (.ref a1), .val (.ref a2), .val (.int pp), .val (.int kk)] [(.int kk), (.ref a2)])) rfl rfl (hb hby d11_16)) ?_
      show OwnG _ _ _ _ _ _ _ (s₁.setTop (mkF m 17 #[.val (.ref a1), .val (.ref a2), .val (.int pp), .val (.int kk)] [(.int (g2 k))]))
      refine own_st (fun _ kq_ => XS.aloadN X0.here hx rfl (hb hby d11_17) rfl rfl kq_) ?_
      show OwnG _ _ _ _ _ _ _ (s₁.setTop (mkF m 18 #[.val (.ref a1), .val (.ref a2), .val (.int pp), .val (.int kk)] [(.ref a1), (.int (g2 k))]))
      refine own_st (fun _ kq_ => XS.iloadN X0.here hx rfl (hb hby d11_18) rfl kq_) ?_
      show OwnG _ _ _ _ _ _ _ (s₁.setTop (mkF m 19 #[.val (.ref a1), .val (.ref a2), .val (.int pp), .val (.int kk)] [(.int kk), (.ref a1), (.int (g2 k))]))
      refine own_st (own_bl X0 hx hZ e0 V1 (k) hkk hk rfl (g := (mkF m 19 #[.val (.ref a1), .val (.ref a2), .val (.int pp), .val (.int kk)] [(.int kk), (.ref a1), (.int (g2 k))])) rfl rfl (hb hby d11_19)) ?_
      show OwnG _ _ _ _ _ _ _ (s₁.setTop (mkF m 20 #[.val (.ref a1), .val (.ref a2), .val (.int pp), .val (.int kk)] [(.int (g1 k)), (.int (g2 k))]))
      refine own_st (fun _ kq_ => XS.icmpNo X0.here hx rfl (hb hby d11_20) rfl (teq (hg (by omega))).2 kq_) ?_
      show OwnG _ _ _ _ _ _ _ (s₁.setTop (mkF m 23 #[.val (.ref a1), .val (.ref a2), .val (.int pp), .val (.int kk)] []))
      refine own_st (fun _ kq_ => XS.iconst X0.here hx rfl (hb hby d11_23) kq_) ?_
      show OwnG _ _ _ _ _ _ _ (s₁.setTop (mkF m 24 #[.val (.ref a1), .val (.ref a2), .val (.int pp), .val (.int kk)] [(.int (1 : Int32))]))
      refine own_st (fun _ kq_ => XS.goto X0.here hx rfl (pc0 := 24) (pc' := 28) rfl (hb hby d11_24) (by decide) (by decide) kq_) ?_
      show OwnG _ _ _ _ _ _ _ (s₁.setTop (mkF m 28 #[.val (.ref a1), .val (.ref a2), .val (.int pp), .val (.int kk)] [(.int (1 : Int32))]))
      exact own_retN X0 hx hrt hlk (t := .boolean) (by simp) (hb hby d11_28) (by decide) (by decide) (by show _ ∧ _; first | (rw [e0]; exact ⟨rfl, N0, rfl⟩) | exact ⟨rfl, N0, rfl⟩)
theorem pn_0 : plainFor x = true := by first | exact plainFor_of_name (by first | (simp [plainName, overriddenIn]; done) | decide +kernel) | decide +kernel
theorem ef_0 (m : MethodId) (x0 : Int64) (x1 : Int32) (x2 : Int32) (x3 : Int32) : entryFrame m #[(.long x0), (.int x1), (.int x2), (.int x3)] maxLocals = mkF m 0 #[.val (.long x0), .second, .val (.int x1), .val (.int x2), .val (.int x3), .unset, .unset, .unset, .unset, .unset, .unset] [] := by first | (simp [entryFrame, mkF, argsToLocals, Value.category, maxLocals]; done) | rfl
def Q0 (Z : State) (xx : Int64) (y : Int32) (p_ : Int32) (vv : Int32) (h0 : Heap) (n0 : Nat) (v : Option Value) (h : Heap) (L : List Loc) : Prop := v = some (.int 1) ∧ Fr n0 L
set_option maxRecDepth 65536 in
set_option maxHeartbeats 40000000 in
theorem rm0 (l : Launch) (Z : State) (a0 : Array Value) (hw : ∀ d ∈ tables_1, d.before a0 Z = true) (ws : List Jvm.Cond) (xx : Int64) (y : Int32) (p_ : Int32) (vv : Int32) (h0 : Heap) (n0 : Nat) (Z0 : n0 ≤ h0.size)  :
    MetFree l x (head1 (Jvm.Cond.code x code maxLocals ret :: ws) room_1) (fun a U => a = #[(.long xx), (.int y), (.int p_), (.int vv)] ∧ Z.Warmed39 U.vm ∧ U.heap = h0) (fun _ _ _ _ _ => True) (fun _ U o U' => ∃ v L, o = .returned v ∧ Q0 Z xx y p_ vv h0 n0 v U'.heap L ∧ FrameEnd U o U' L 4 4122) := by
  refine MetFree.of_bodySF pn_0 hisR ?_
  intro p e s m args below meth c s₁ Bd hml0 hP hK
  obtain ⟨rfl, hZ, hh⟩ := hP
  have hx := Bd.exec
  have hby := Bd.bytes
  have hml : c.maxLocals = 11 := hml0
  have hown : s.vm.findClass "com/example/khepri/khepri/ImageWriterWriteIntAtPinLaw" = some m.cls := findClass_of_methodNamed Bd.named
  have hnm := (name_of_methodNamed Bd.named Bd.method).1
  have hrt := Bd.returns
  have hlk : meth.locks = false := BodyLoose.notSynchronized Bd
  have X0 : Stand p l e room_1 s m #[(.long xx), (.int y), (.int p_), (.int vv)] below meth c s₁ [] 0 0 := Stand.of_body Bd
  have e0 : s₁.heap = h0 := by rw [← hh, Bd.state]; rfl
  have N0 := Fr.nil n0
  show OwnG 4 4122 (Q0 Z xx y p_ vv h0 n0) p e below s (s₁.setTop (entryFrame m #[(.long xx), (.int y), (.int p_), (.int vv)] maxLocals))
  refine own_st (σ' := s₁.setTop (mkF m 0 #[.val (.long xx), .second, .val (.int y), .val (.int p_), .val (.int vv), .unset, .unset, .unset, .unset, .unset, .unset] [])) (fun _ kq_ => castTop (ef_0 m xx y p_ vv) kq_) ?_
  show OwnG _ _ _ _ _ _ _ (s₁.setTop (mkF m 0 #[.val (.long xx), .second, .val (.int y), .val (.int p_), .val (.int vv), .unset, .unset, .unset, .unset, .unset, .unset] []))
  obtain ⟨T40, h40, X40, e40, E40, A40, D40, -, st40⟩ := newO X0 hx hZ hown (hw _ (List.mem_of_getElem? (i := 0) rfl)) (hw _ (List.mem_of_getElem? (i := 1) rfl)) (hw _ (List.mem_of_getElem? (i := 2) rfl)) e0 (g := (mkF m 0 #[.val (.long xx), .second, .val (.int y), .val (.int p_), .val (.int vv), .unset, .unset, .unset, .unset, .unset, .unset] [])) rfl (hb hby at_0) (by decide) (by decide)
  obtain ⟨b40, g40⟩ : ∃ z, z = h0.size := ⟨_, rfl⟩
  rw [← g40] at A40 D40 st40
  refine own_st st40 ?_
  show OwnG _ _ _ _ _ _ _ (T40.setTop (mkF m 3 #[.val (.long xx), .second, .val (.int y), .val (.int p_), .val (.int vv), .unset, .unset, .unset, .unset, .unset, .unset] [(.ref b40)]))
  have F_by : Fld Z h40 b40 "com/example/khepri/khepri/ImageWriter" "bytes" "[B" .null := D40 (Or.inl (hw _ (List.mem_of_getElem? (i := 11) rfl))) (ty := (.array .byte)) (by decide)
  have F_sz : Fld Z h40 b40 "com/example/khepri/khepri/ImageWriter" "size" "I" (.int (0 : Int32)) := D40 (Or.inl (hw _ (List.mem_of_getElem? (i := 27) rfl))) (ty := .int) (by decide)
  have S40 : n0 ≤ h40.size := Nat.le_trans Z0 E40.1
  have ga : n0 ≤ b40 := Nat.le_trans Z0 (Nat.le_of_eq g40.symm)
  refine own_st (fun _ kq_ => XS.dup X40.here hx rfl (hb hby at_3) rfl rfl kq_) ?_
  show OwnG _ _ _ _ _ _ _ (T40.setTop (mkF m 4 #[.val (.long xx), .second, .val (.int y), .val (.int p_), .val (.int vv), .unset, .unset, .unset, .unset, .unset, .unset] [(.ref b40), (.ref b40)]))
  obtain ⟨_, _, ⟨T41, L41, k41, n41⟩, -, X41, ⟨Lc41, hQ41, l41, y41, z41⟩, st41⟩ := X40.specialBack hx (y := (⟨"com/example/khepri/khepri/ImageWriter", "<init>", "()V"⟩ : MethodName)) rfl hown (mvT hZ (hw _ (List.mem_of_getElem? (i := 3) rfl))) (mvT hZ (hw _ (List.mem_of_getElem? (i := 4) rfl))) (mvT hZ (hw _ (List.mem_of_getElem? (i := 5) rfl))) (by decide) (backOf (W := 1) (rm1 l Z a0 hw [] b40 h40 n0 S40 A40 F_by F_sz ga) hZ (hw _ (List.mem_of_getElem? (i := 5) rfl)) (hw _ (List.mem_of_getElem? (i := 2) rfl)) (by decide) (by decide)) (g := (mkF m 4 #[.val (.long xx), .second, .val (.int y), .val (.int p_), .val (.int vv), .unset, .unset, .unset, .unset, .unset, .unset] [(.ref b40), (.ref b40)])) rfl (by rw [hml]; rfl) (Steps.refl _) (a := b40) (argsL := []) (rest := [(.ref b40)]) (lenOf (by decide +kernel : parseMethodDescriptor "()V" = some ⟨[], none⟩) rfl) rfl (by show 2 * 0 + _ ≤ _; exact Nat.le_of_eq rfl) (hb hby at_4) (fun _ _ => ⟨rfl, e40, (by dsimp only [Pt.cells]; decide), (by dsimp only [Pt.slots]; decide)⟩)
  dsimp only [Pt.U, Pt.locs, Pt.cells, Pt.slots] at X41 l41 y41 z41 st41 hQ41
  subst l41 y41 z41
  obtain ⟨rfl, N41q, S41, I41⟩ := hQ41
  have N41 := Fr.app N0 N41q
  refine own_go st41 ?_
  show OwnG _ _ _ _ _ _ _ (T41.setTop (mkF m 7 #[.val (.long xx), .second, .val (.int y), .val (.int p_), .val (.int vv), .unset, .unset, .unset, .unset, .unset, .unset] [(.ref b40)]))
  have gab : n0 ≤ h40.size := S40
  refine own_st (fun _ kq_ => XS.astore X41.here hx rfl (hb hby at_7) rfl rfl (l' := #[.val (.long xx), .second, .val (.int y), .val (.int p_), .val (.int vv), .val (.ref b40), .unset, .unset, .unset, .unset, .unset]) rfl kq_) ?_
  show OwnG _ _ _ _ _ _ _ (T41.setTop (mkF m 9 #[.val (.long xx), .second, .val (.int y), .val (.int p_), .val (.int vv), .val (.ref b40), .unset, .unset, .unset, .unset, .unset] []))
  refine own_st (fun _ kq_ => XS.aload X41.here hx rfl (hb hby at_9) rfl rfl kq_) ?_
  show OwnG _ _ _ _ _ _ _ (T41.setTop (mkF m 11 #[.val (.long xx), .second, .val (.int y), .val (.int p_), .val (.int vv), .val (.ref b40), .unset, .unset, .unset, .unset, .unset] [(.ref b40)]))
  refine own_st (fun _ kq_ => XS.lloadN X41.here hx rfl (hb hby at_11) rfl kq_) ?_
  show OwnG _ _ _ _ _ _ _ (T41.setTop (mkF m 12 #[.val (.long xx), .second, .val (.int y), .val (.int p_), .val (.int vv), .val (.ref b40), .unset, .unset, .unset, .unset, .unset] [(.long xx), (.ref b40)]))
  obtain ⟨cq42, kq42, q42a, q42b, q42c⟩ := isOf hZ rfl I41.1
  obtain ⟨_, _, ⟨T42, L42, k42, n42⟩, -, X42, ⟨Lc42, hQ42, l42, y42, z42⟩, st42⟩ := X41.virtualBack hx (y := (⟨"com/example/khepri/khepri/ImageWriter", "writeLong", "(J)V"⟩ : MethodName)) (z := (⟨"com/example/khepri/khepri/ImageWriter", "writeLong", "(J)V"⟩ : MethodName)) hown (mvT hZ (hw _ (List.mem_of_getElem? (i := 12) rfl))) (mvT hZ (hw _ (List.mem_of_getElem? (i := 13) rfl))) (notFace_of_selects (args := #[]) (mvT hZ (hw _ (List.mem_of_getElem? (i := 15) rfl)))) (mvT hZ (hw _ (List.mem_of_getElem? (i := 15) rfl))) (mvT hZ (hw _ (List.mem_of_getElem? (i := 14) rfl))) (by decide) (backOf (W := 0) (rm4 l Z a0 hw [] b40 h40.size 0 (fun _ => 0) xx T41.heap n0 S41 (by decide) I41 ga gab) hZ (hw _ (List.mem_of_getElem? (i := 16) rfl)) (hw _ (List.mem_of_getElem? (i := 2) rfl)) (by decide) (by decide)) q42a q42c (g := (mkF m 12 #[.val (.long xx), .second, .val (.int y), .val (.int p_), .val (.int vv), .val (.ref b40), .unset, .unset, .unset, .unset, .unset] [(.long xx), (.ref b40)])) rfl (by rw [hml]; rfl) (Steps.refl _) (argsL := [(.long xx)]) (rest := []) (lenOf (by decide +kernel : parseMethodDescriptor "(J)V" = some ⟨[.long], none⟩) rfl) rfl (by show 2 * 0 + _ ≤ _; exact Nat.le_of_eq rfl) (hb hby at_12) (fun _ _ => ⟨rfl, rfl, (by dsimp only [Pt.cells]; decide), (by dsimp only [Pt.slots]; decide)⟩)
  dsimp only [Pt.U, Pt.locs, Pt.cells, Pt.slots] at X42 l42 y42 z42 st42 hQ42
  subst l42 y42 z42
  obtain ⟨rfl, N42q, S42, g42, I42⟩ := hQ42
  have N42 := Fr.app N41 N42q
  refine own_go st42 ?_
  show OwnG _ _ _ _ _ _ _ (T42.setTop (mkF m 15 #[.val (.long xx), .second, .val (.int y), .val (.int p_), .val (.int vv), .val (.ref b40), .unset, .unset, .unset, .unset, .unset] []))
  refine own_st (fun _ kq_ => XS.aload X42.here hx rfl (hb hby at_15) rfl rfl kq_) ?_
  show OwnG _ _ _ _ _ _ _ (T42.setTop (mkF m 17 #[.val (.long xx), .second, .val (.int y), .val (.int p_), .val (.int vv), .val (.ref b40), .unset, .unset, .unset, .unset, .unset] [(.ref b40)]))
  refine own_st (fun _ kq_ => XS.iloadN X42.here hx rfl (hb hby at_17) rfl kq_) ?_
  show OwnG _ _ _ _ _ _ _ (T42.setTop (mkF m 18 #[.val (.long xx), .second, .val (.int y), .val (.int p_), .val (.int vv), .val (.ref b40), .unset, .unset, .unset, .unset, .unset] [(.int y), (.ref b40)]))
  obtain ⟨cq43, kq43, q43a, q43b, q43c⟩ := isOf hZ rfl I42.1
  obtain ⟨_, _, ⟨T43, L43, k43, n43⟩, -, X43, ⟨Lc43, hQ43, l43, y43, z43⟩, st43⟩ := X42.virtualBack hx (y := (⟨"com/example/khepri/khepri/ImageWriter", "writeInt", "(I)V"⟩ : MethodName)) (z := (⟨"com/example/khepri/khepri/ImageWriter", "writeInt", "(I)V"⟩ : MethodName)) hown (mvT hZ (hw _ (List.mem_of_getElem? (i := 28) rfl))) (mvT hZ (hw _ (List.mem_of_getElem? (i := 18) rfl))) (notFace_of_selects (args := #[]) (mvT hZ (hw _ (List.mem_of_getElem? (i := 20) rfl)))) (mvT hZ (hw _ (List.mem_of_getElem? (i := 20) rfl))) (mvT hZ (hw _ (List.mem_of_getElem? (i := 19) rfl))) (by decide) (backOf (W := 0) (rm3 l Z a0 hw [] b40 h40.size (0 + 8) g42 y T42.heap n0 S42 (by decide) I42 ga gab) hZ (hw _ (List.mem_of_getElem? (i := 21) rfl)) (hw _ (List.mem_of_getElem? (i := 2) rfl)) (by decide) (by decide)) q43a q43c (g := (mkF m 18 #[.val (.long xx), .second, .val (.int y), .val (.int p_), .val (.int vv), .val (.ref b40), .unset, .unset, .unset, .unset, .unset] [(.int y), (.ref b40)])) rfl (by rw [hml]; rfl) (Steps.refl _) (argsL := [(.int y)]) (rest := []) (lenOf (by decide +kernel : parseMethodDescriptor "(I)V" = some ⟨[.int], none⟩) rfl) rfl (by show 2 * 0 + _ ≤ _; exact Nat.le_of_eq rfl) (hb hby at_18) (fun _ _ => ⟨rfl, rfl, (by dsimp only [Pt.cells]; decide), (by dsimp only [Pt.slots]; decide)⟩)
  dsimp only [Pt.U, Pt.locs, Pt.cells, Pt.slots] at X43 l43 y43 z43 st43 hQ43
  subst l43 y43 z43
  obtain ⟨rfl, N43q, S43, g43, I43⟩ := hQ43
  have N43 := Fr.app N42 N43q
  refine own_go st43 ?_
  show OwnG _ _ _ _ _ _ _ (T43.setTop (mkF m 21 #[.val (.long xx), .second, .val (.int y), .val (.int p_), .val (.int vv), .val (.ref b40), .unset, .unset, .unset, .unset, .unset] []))
  refine own_st (fun _ kq_ => XS.iloadN X43.here hx rfl (hb hby at_21) rfl kq_) ?_
  show OwnG _ _ _ _ _ _ _ (T43.setTop (mkF m 22 #[.val (.long xx), .second, .val (.int y), .val (.int p_), .val (.int vv), .val (.ref b40), .unset, .unset, .unset, .unset, .unset] [(.int p_)]))
  refine own_st (X43.ldcInt hx hown (mvT hZ (hw _ (List.mem_of_getElem? (i := 29) rfl))) (g := (mkF m 22 #[.val (.long xx), .second, .val (.int y), .val (.int p_), .val (.int vv), .val (.ref b40), .unset, .unset, .unset, .unset, .unset] [(.int p_)])) rfl (hb hby at_22)) ?_
  show OwnG _ _ _ _ _ _ _ (T43.setTop (mkF m 24 #[.val (.long xx), .second, .val (.int y), .val (.int p_), .val (.int vv), .val (.ref b40), .unset, .unset, .unset, .unset, .unset] [(.int (2147483647 : Int32)), (.int p_)]))
  refine own_st (fun _ kq_ => XS.iand X43.here hx rfl (hb hby at_24) rfl kq_) ?_
  show OwnG _ _ _ _ _ _ _ (T43.setTop (mkF m 25 #[.val (.long xx), .second, .val (.int y), .val (.int p_), .val (.int vv), .val (.ref b40), .unset, .unset, .unset, .unset, .unset] [(.int (p_ &&& (2147483647 : Int32)))]))
  refine own_st (fun _ kq_ => XS.bipush X43.here hx rfl (hb hby at_25) kq_) ?_
  show OwnG _ _ _ _ _ _ _ (T43.setTop (mkF m 27 #[.val (.long xx), .second, .val (.int y), .val (.int p_), .val (.int vv), .val (.ref b40), .unset, .unset, .unset, .unset, .unset] [(.int (9 : Int32)), (.int (p_ &&& (2147483647 : Int32)))]))
  refine own_st (fun _ kq_ => iremM X43 hx rfl (hb hby at_27) rfl (by decide) kq_) ?_
  show OwnG _ _ _ _ _ _ _ (T43.setTop (mkF m 28 #[.val (.long xx), .second, .val (.int y), .val (.int p_), .val (.int vv), .val (.ref b40), .unset, .unset, .unset, .unset, .unset] [(.int ((p_ &&& (2147483647 : Int32)) % (9 : Int32)))]))
  refine own_st (fun _ kq_ => XS.istore X43.here hx rfl (hb hby at_28) rfl (l' := #[.val (.long xx), .second, .val (.int y), .val (.int p_), .val (.int vv), .val (.ref b40), .val (.int ((p_ &&& (2147483647 : Int32)) % (9 : Int32))), .unset, .unset, .unset, .unset]) rfl kq_) ?_
  show OwnG _ _ _ _ _ _ _ (T43.setTop (mkF m 30 #[.val (.long xx), .second, .val (.int y), .val (.int p_), .val (.int vv), .val (.ref b40), .val (.int ((p_ &&& (2147483647 : Int32)) % (9 : Int32))), .unset, .unset, .unset, .unset] []))
  obtain ⟨pz, hp, hpp⟩ := own_mod9 p_
  generalize ((p_ &&& (2147483647 : Int32)) % (9 : Int32)) = pp at *
  show OwnG _ _ _ _ _ _ _ (T43.setTop (mkF m 30 #[.val (.long xx), .second, .val (.int y), .val (.int p_), .val (.int vv), .val (.ref b40), .val (.int pp), .unset, .unset, .unset, .unset] []))
  refine own_st (fun _ kq_ => XS.aload X43.here hx rfl (hb hby at_30) rfl rfl kq_) ?_
  show OwnG _ _ _ _ _ _ _ (T43.setTop (mkF m 32 #[.val (.long xx), .second, .val (.int y), .val (.int p_), .val (.int vv), .val (.ref b40), .val (.int pp), .unset, .unset, .unset, .unset] [(.ref b40)]))
  obtain ⟨cq44, kq44, q44a, q44b, q44c⟩ := isOf hZ rfl I43.1
  obtain ⟨_, _, ⟨T44, L44, k44, n44⟩, -, X44, ⟨Lc44, hQ44, l44, y44, z44⟩, st44⟩ := X43.virtualBack hx (y := (⟨"com/example/khepri/khepri/ImageWriter", "toByteArray", "()[B"⟩ : MethodName)) (z := (⟨"com/example/khepri/khepri/ImageWriter", "toByteArray", "()[B"⟩ : MethodName)) hown (mvT hZ (hw _ (List.mem_of_getElem? (i := 30) rfl))) (mvT hZ (hw _ (List.mem_of_getElem? (i := 31) rfl))) (notFace_of_selects (args := #[]) (mvT hZ (hw _ (List.mem_of_getElem? (i := 33) rfl)))) (mvT hZ (hw _ (List.mem_of_getElem? (i := 33) rfl))) (mvT hZ (hw _ (List.mem_of_getElem? (i := 32) rfl))) (by decide) (backOf (W := 0) (rm7 l Z a0 hw [] b40 h40.size g43 T43.heap n0 S43 I43) hZ (hw _ (List.mem_of_getElem? (i := 34) rfl)) (hw _ (List.mem_of_getElem? (i := 2) rfl)) (by decide) (by decide)) q44a q44c (g := (mkF m 32 #[.val (.long xx), .second, .val (.int y), .val (.int p_), .val (.int vv), .val (.ref b40), .val (.int pp), .unset, .unset, .unset, .unset] [(.ref b40)])) rfl (by rw [hml]; rfl) (Steps.refl _) (argsL := []) (rest := []) (lenOf (by decide +kernel : parseMethodDescriptor "()[B" = some ⟨[], some (.array .byte)⟩) rfl) rfl (by show 2 * 0 + _ ≤ _; exact Nat.le_of_eq rfl) (hb hby at_32) (fun _ _ => ⟨rfl, rfl, (by dsimp only [Pt.cells]; decide), (by dsimp only [Pt.slots]; decide)⟩)
  dsimp only [Pt.U, Pt.locs, Pt.cells, Pt.slots] at X44 l44 y44 z44 st44 hQ44
  subst l44 y44 z44
  obtain ⟨rfl, N44q, S44, K44, V44⟩ := hQ44
  have N44 := Fr.app N43 N44q
  refine own_go st44 ?_
  show OwnG _ _ _ _ _ _ _ (T44.setTop (mkF m 35 #[.val (.long xx), .second, .val (.int y), .val (.int p_), .val (.int vv), .val (.ref b40), .val (.int pp), .unset, .unset, .unset, .unset] [(.ref T43.heap.size)]))
  have I44 := I43.keep K44
  have hnb : T43.heap.size ≠ h40.size := Nat.ne_of_gt I43.2.2.2.1.lt
  refine own_st (fun _ kq_ => XS.astore X44.here hx rfl (hb hby at_35) rfl rfl (l' := #[.val (.long xx), .second, .val (.int y), .val (.int p_), .val (.int vv), .val (.ref b40), .val (.int pp), .val (.ref T43.heap.size), .unset, .unset, .unset]) rfl kq_) ?_
  show OwnG _ _ _ _ _ _ _ (T44.setTop (mkF m 37 #[.val (.long xx), .second, .val (.int y), .val (.int p_), .val (.int vv), .val (.ref b40), .val (.int pp), .val (.ref T43.heap.size), .unset, .unset, .unset] []))
  refine own_st (fun _ kq_ => XS.aload X44.here hx rfl (hb hby at_37) rfl rfl kq_) ?_
  show OwnG _ _ _ _ _ _ _ (T44.setTop (mkF m 39 #[.val (.long xx), .second, .val (.int y), .val (.int p_), .val (.int vv), .val (.ref b40), .val (.int pp), .val (.ref T43.heap.size), .unset, .unset, .unset] [(.ref b40)]))
  refine own_st (fun _ kq_ => XS.iload X44.here hx rfl (hb hby at_39) rfl kq_) ?_
  show OwnG _ _ _ _ _ _ _ (T44.setTop (mkF m 41 #[.val (.long xx), .second, .val (.int y), .val (.int p_), .val (.int vv), .val (.ref b40), .val (.int pp), .val (.ref T43.heap.size), .unset, .unset, .unset] [(.int pp), (.ref b40)]))
  refine own_st (fun _ kq_ => XS.iload X44.here hx rfl (hb hby at_41) rfl kq_) ?_
  show OwnG _ _ _ _ _ _ _ (T44.setTop (mkF m 43 #[.val (.long xx), .second, .val (.int y), .val (.int p_), .val (.int vv), .val (.ref b40), .val (.int pp), .val (.ref T43.heap.size), .unset, .unset, .unset] [(.int vv), (.int pp), (.ref b40)]))
  obtain ⟨cq45, kq45, q45a, q45b, q45c⟩ := isOf hZ rfl I44.1
  obtain ⟨_, _, ⟨T45, L45, k45, n45⟩, -, X45, ⟨Lc45, hQ45, l45, y45, z45⟩, st45⟩ := X44.virtualBack hx (y := (⟨"com/example/khepri/khepri/ImageWriter", "writeIntAt", "(II)V"⟩ : MethodName)) (z := (⟨"com/example/khepri/khepri/ImageWriter", "writeIntAt", "(II)V"⟩ : MethodName)) hown (mvT hZ (hw _ (List.mem_of_getElem? (i := 47) rfl))) (mvT hZ (hw _ (List.mem_of_getElem? (i := 48) rfl))) (notFace_of_selects (args := #[]) (mvT hZ (hw _ (List.mem_of_getElem? (i := 50) rfl)))) (mvT hZ (hw _ (List.mem_of_getElem? (i := 50) rfl))) (mvT hZ (hw _ (List.mem_of_getElem? (i := 49) rfl))) (by decide) (backOf (W := 0) (rm8 l Z a0 hw [] b40 h40.size 12 g43 pp pz vv T44.heap n0 S44 hpp hp I44 gab) hZ (hw _ (List.mem_of_getElem? (i := 51) rfl)) (hw _ (List.mem_of_getElem? (i := 2) rfl)) (by decide) (by decide)) q45a q45c (g := (mkF m 43 #[.val (.long xx), .second, .val (.int y), .val (.int p_), .val (.int vv), .val (.ref b40), .val (.int pp), .val (.ref T43.heap.size), .unset, .unset, .unset] [(.int vv), (.int pp), (.ref b40)])) rfl (by rw [hml]; rfl) (Steps.refl _) (argsL := [(.int pp), (.int vv)]) (rest := []) (lenOf (by decide +kernel : parseMethodDescriptor "(II)V" = some ⟨[.int, .int], none⟩) rfl) rfl (by show 2 * 0 + _ ≤ _; exact Nat.le_of_eq rfl) (hb hby at_43) (fun _ _ => ⟨rfl, rfl, (by dsimp only [Pt.cells]; decide), (by dsimp only [Pt.slots]; decide)⟩)
  dsimp only [Pt.U, Pt.locs, Pt.cells, Pt.slots] at X45 l45 y45 z45 st45 hQ45
  subst l45 y45 z45
  obtain ⟨rfl, N45q, S45, K45, I45⟩ := hQ45
  have N45 := Fr.app N44 N45q
  refine own_go st45 ?_
  show OwnG _ _ _ _ _ _ _ (T45.setTop (mkF m 46 #[.val (.long xx), .second, .val (.int y), .val (.int p_), .val (.int vv), .val (.ref b40), .val (.int pp), .val (.ref T43.heap.size), .unset, .unset, .unset] []))
  have V45 := V44.keep K45 (ninS hnb nin0)
  refine own_st (fun _ kq_ => XS.aload X45.here hx rfl (hb hby at_46) rfl rfl kq_) ?_
  show OwnG _ _ _ _ _ _ _ (T45.setTop (mkF m 48 #[.val (.long xx), .second, .val (.int y), .val (.int p_), .val (.int vv), .val (.ref b40), .val (.int pp), .val (.ref T43.heap.size), .unset, .unset, .unset] [(.ref b40)]))
  obtain ⟨cq46, kq46, q46a, q46b, q46c⟩ := isOf hZ rfl I45.1
  obtain ⟨_, _, ⟨T46, L46, k46, n46⟩, -, X46, ⟨Lc46, hQ46, l46, y46, z46⟩, st46⟩ := X45.virtualBack hx (y := (⟨"com/example/khepri/khepri/ImageWriter", "toByteArray", "()[B"⟩ : MethodName)) (z := (⟨"com/example/khepri/khepri/ImageWriter", "toByteArray", "()[B"⟩ : MethodName)) hown (mvT hZ (hw _ (List.mem_of_getElem? (i := 30) rfl))) (mvT hZ (hw _ (List.mem_of_getElem? (i := 31) rfl))) (notFace_of_selects (args := #[]) (mvT hZ (hw _ (List.mem_of_getElem? (i := 33) rfl)))) (mvT hZ (hw _ (List.mem_of_getElem? (i := 33) rfl))) (mvT hZ (hw _ (List.mem_of_getElem? (i := 32) rfl))) (by decide) (backOf (W := 0) (rm7 l Z a0 hw [] b40 h40.size (own_w g43 pz vv) T45.heap n0 S45 I45) hZ (hw _ (List.mem_of_getElem? (i := 34) rfl)) (hw _ (List.mem_of_getElem? (i := 2) rfl)) (by decide) (by decide)) q46a q46c (g := (mkF m 48 #[.val (.long xx), .second, .val (.int y), .val (.int p_), .val (.int vv), .val (.ref b40), .val (.int pp), .val (.ref T43.heap.size), .unset, .unset, .unset] [(.ref b40)])) rfl (by rw [hml]; rfl) (Steps.refl _) (argsL := []) (rest := []) (lenOf (by decide +kernel : parseMethodDescriptor "()[B" = some ⟨[], some (.array .byte)⟩) rfl) rfl (by show 2 * 0 + _ ≤ _; exact Nat.le_of_eq rfl) (hb hby at_48) (fun _ _ => ⟨rfl, rfl, (by dsimp only [Pt.cells]; decide), (by dsimp only [Pt.slots]; decide)⟩)
  dsimp only [Pt.U, Pt.locs, Pt.cells, Pt.slots] at X46 l46 y46 z46 st46 hQ46
  subst l46 y46 z46
  obtain ⟨rfl, N46q, S46, K46, V46⟩ := hQ46
  have N46 := Fr.app N45 N46q
  refine own_go st46 ?_
  show OwnG _ _ _ _ _ _ _ (T46.setTop (mkF m 51 #[.val (.long xx), .second, .val (.int y), .val (.int p_), .val (.int vv), .val (.ref b40), .val (.int pp), .val (.ref T43.heap.size), .unset, .unset, .unset] [(.ref T45.heap.size)]))
  have I46 := I45.keep K46
  have U46 := V45.keep K46 nin0
  refine own_st (fun _ kq_ => XS.astore X46.here hx rfl (hb hby at_51) rfl rfl (l' := #[.val (.long xx), .second, .val (.int y), .val (.int p_), .val (.int vv), .val (.ref b40), .val (.int pp), .val (.ref T43.heap.size), .val (.ref T45.heap.size), .unset, .unset]) rfl kq_) ?_
  show OwnG _ _ _ _ _ _ _ (T46.setTop (mkF m 53 #[.val (.long xx), .second, .val (.int y), .val (.int p_), .val (.int vv), .val (.ref b40), .val (.int pp), .val (.ref T43.heap.size), .val (.ref T45.heap.size), .unset, .unset] []))
  refine own_st (fun _ kq_ => XS.aload X46.here hx rfl (hb hby at_53) rfl rfl kq_) ?_
  show OwnG _ _ _ _ _ _ _ (T46.setTop (mkF m 55 #[.val (.long xx), .second, .val (.int y), .val (.int p_), .val (.int vv), .val (.ref b40), .val (.int pp), .val (.ref T43.heap.size), .val (.ref T45.heap.size), .unset, .unset] [(.ref T43.heap.size)]))
  refine own_st (own_len X46 hx hZ rfl U46 (z := (12 : Int32)) rfl (g := (mkF m 55 #[.val (.long xx), .second, .val (.int y), .val (.int p_), .val (.int vv), .val (.ref b40), .val (.int pp), .val (.ref T43.heap.size), .val (.ref T45.heap.size), .unset, .unset] [(.ref T43.heap.size)])) rfl rfl (hb hby at_55)) ?_
  show OwnG _ _ _ _ _ _ _ (T46.setTop (mkF m 56 #[.val (.long xx), .second, .val (.int y), .val (.int p_), .val (.int vv), .val (.ref b40), .val (.int pp), .val (.ref T43.heap.size), .val (.ref T45.heap.size), .unset, .unset] [(.int (12 : Int32))]))
  refine own_st (fun _ kq_ => XS.bipush X46.here hx rfl (hb hby at_56) kq_) ?_
  show OwnG _ _ _ _ _ _ _ (T46.setTop (mkF m 58 #[.val (.long xx), .second, .val (.int y), .val (.int p_), .val (.int vv), .val (.ref b40), .val (.int pp), .val (.ref T43.heap.size), .val (.ref T45.heap.size), .unset, .unset] [(.int (12 : Int32)), (.int (12 : Int32))]))
  refine own_st (fun _ kq_ => XS.icmpNo X46.here hx rfl (hb hby at_58) rfl (teq rfl).2 kq_) ?_
  show OwnG _ _ _ _ _ _ _ (T46.setTop (mkF m 61 #[.val (.long xx), .second, .val (.int y), .val (.int p_), .val (.int vv), .val (.ref b40), .val (.int pp), .val (.ref T43.heap.size), .val (.ref T45.heap.size), .unset, .unset] []))
  refine own_st (fun _ kq_ => XS.aload X46.here hx rfl (hb hby at_61) rfl rfl kq_) ?_
  show OwnG _ _ _ _ _ _ _ (T46.setTop (mkF m 63 #[.val (.long xx), .second, .val (.int y), .val (.int p_), .val (.int vv), .val (.ref b40), .val (.int pp), .val (.ref T43.heap.size), .val (.ref T45.heap.size), .unset, .unset] [(.ref T45.heap.size)]))
  refine own_st (own_len X46 hx hZ rfl V46 (z := (12 : Int32)) rfl (g := (mkF m 63 #[.val (.long xx), .second, .val (.int y), .val (.int p_), .val (.int vv), .val (.ref b40), .val (.int pp), .val (.ref T43.heap.size), .val (.ref T45.heap.size), .unset, .unset] [(.ref T45.heap.size)])) rfl rfl (hb hby at_63)) ?_
  show OwnG _ _ _ _ _ _ _ (T46.setTop (mkF m 64 #[.val (.long xx), .second, .val (.int y), .val (.int p_), .val (.int vv), .val (.ref b40), .val (.int pp), .val (.ref T43.heap.size), .val (.ref T45.heap.size), .unset, .unset] [(.int (12 : Int32))]))
  refine own_st (fun _ kq_ => XS.bipush X46.here hx rfl (hb hby at_64) kq_) ?_
  show OwnG _ _ _ _ _ _ _ (T46.setTop (mkF m 66 #[.val (.long xx), .second, .val (.int y), .val (.int p_), .val (.int vv), .val (.ref b40), .val (.int pp), .val (.ref T43.heap.size), .val (.ref T45.heap.size), .unset, .unset] [(.int (12 : Int32)), (.int (12 : Int32))]))
  refine own_st (fun _ kq_ => XS.icmpNo X46.here hx rfl (hb hby at_66) rfl (teq rfl).2 kq_) ?_
  show OwnG _ _ _ _ _ _ _ (T46.setTop (mkF m 69 #[.val (.long xx), .second, .val (.int y), .val (.int p_), .val (.int vv), .val (.ref b40), .val (.int pp), .val (.ref T43.heap.size), .val (.ref T45.heap.size), .unset, .unset] []))
  refine own_st (fun _ kq_ => XS.aload X46.here hx rfl (hb hby at_69) rfl rfl kq_) ?_
  show OwnG _ _ _ _ _ _ _ (T46.setTop (mkF m 71 #[.val (.long xx), .second, .val (.int y), .val (.int p_), .val (.int vv), .val (.ref b40), .val (.int pp), .val (.ref T43.heap.size), .val (.ref T45.heap.size), .unset, .unset] [(.ref b40)]))
  obtain ⟨cq47, kq47, q47a, q47b, q47c⟩ := isOf hZ rfl I46.1
  obtain ⟨_, _, ⟨T47, L47, k47, n47⟩, -, X47, ⟨Lc47, hQ47, l47, y47, z47⟩, st47⟩ := X46.virtualBack hx (y := (⟨"com/example/khepri/khepri/ImageWriter", "position", "()I"⟩ : MethodName)) (z := (⟨"com/example/khepri/khepri/ImageWriter", "position", "()I"⟩ : MethodName)) hown (mvT hZ (hw _ (List.mem_of_getElem? (i := 52) rfl))) (mvT hZ (hw _ (List.mem_of_getElem? (i := 53) rfl))) (notFace_of_selects (args := #[]) (mvT hZ (hw _ (List.mem_of_getElem? (i := 55) rfl)))) (mvT hZ (hw _ (List.mem_of_getElem? (i := 55) rfl))) (mvT hZ (hw _ (List.mem_of_getElem? (i := 54) rfl))) (by decide) (backOf (W := 0) (rm9 l Z a0 hw [] b40 h40.size 12 (own_w g43 pz vv) T46.heap n0 S46 I46) hZ (hw _ (List.mem_of_getElem? (i := 56) rfl)) (hw _ (List.mem_of_getElem? (i := 2) rfl)) (by decide) (by decide)) q47a q47c (g := (mkF m 71 #[.val (.long xx), .second, .val (.int y), .val (.int p_), .val (.int vv), .val (.ref b40), .val (.int pp), .val (.ref T43.heap.size), .val (.ref T45.heap.size), .unset, .unset] [(.ref b40)])) rfl (by rw [hml]; rfl) (Steps.refl _) (argsL := []) (rest := []) (lenOf (by decide +kernel : parseMethodDescriptor "()I" = some ⟨[], some .int⟩) rfl) rfl (by show 2 * 0 + _ ≤ _; exact Nat.le_of_eq rfl) (hb hby at_71) (fun _ _ => ⟨rfl, rfl, (by dsimp only [Pt.cells]; decide), (by dsimp only [Pt.slots]; decide)⟩)
  dsimp only [Pt.U, Pt.locs, Pt.cells, Pt.slots] at X47 l47 y47 z47 st47 hQ47
  subst l47 y47 z47
  obtain ⟨rfl, N47q, E47⟩ := hQ47
  have N47 := Fr.app N46 N47q
  refine own_go st47 ?_
  show OwnG _ _ _ _ _ _ _ (T47.setTop (mkF m 74 #[.val (.long xx), .second, .val (.int y), .val (.int p_), .val (.int vv), .val (.ref b40), .val (.int pp), .val (.ref T43.heap.size), .val (.ref T45.heap.size), .unset, .unset] [(.int (Int32.ofNat 12))]))
  refine own_st (fun _ kq_ => XS.bipush X47.here hx rfl (hb hby at_74) kq_) ?_
  show OwnG _ _ _ _ _ _ _ (T47.setTop (mkF m 76 #[.val (.long xx), .second, .val (.int y), .val (.int p_), .val (.int vv), .val (.ref b40), .val (.int pp), .val (.ref T43.heap.size), .val (.ref T45.heap.size), .unset, .unset] [(.int (12 : Int32)), (.int (Int32.ofNat 12))]))
  refine own_st (fun _ kq_ => XS.icmpYes X47.here hx rfl (pc0 := 76) (pc' := 81) rfl (hb hby at_76) rfl (teq (show Int32.ofNat 12 = (12 : Int32) from rfl)).1 (by decide) (by decide) kq_) ?_
  show OwnG _ _ _ _ _ _ _ (T47.setTop (mkF m 81 #[.val (.long xx), .second, .val (.int y), .val (.int p_), .val (.int vv), .val (.ref b40), .val (.int pp), .val (.ref T43.heap.size), .val (.ref T45.heap.size), .unset, .unset] []))
  refine own_st (fun _ kq_ => XS.aload X47.here hx rfl (hb hby at_81) rfl rfl kq_) ?_
  show OwnG _ _ _ _ _ _ _ (T47.setTop (mkF m 83 #[.val (.long xx), .second, .val (.int y), .val (.int p_), .val (.int vv), .val (.ref b40), .val (.int pp), .val (.ref T43.heap.size), .val (.ref T45.heap.size), .unset, .unset] [(.ref T43.heap.size)]))
  refine own_st (fun _ kq_ => XS.aload X47.here hx rfl (hb hby at_83) rfl rfl kq_) ?_
  show OwnG _ _ _ _ _ _ _ (T47.setTop (mkF m 85 #[.val (.long xx), .second, .val (.int y), .val (.int p_), .val (.int vv), .val (.ref b40), .val (.int pp), .val (.ref T43.heap.size), .val (.ref T45.heap.size), .unset, .unset] [(.ref T45.heap.size), (.ref T43.heap.size)]))
  refine own_st (fun _ kq_ => XS.iload X47.here hx rfl (hb hby at_85) rfl kq_) ?_
  show OwnG _ _ _ _ _ _ _ (T47.setTop (mkF m 87 #[.val (.long xx), .second, .val (.int y), .val (.int p_), .val (.int vv), .val (.ref b40), .val (.int pp), .val (.ref T43.heap.size), .val (.ref T45.heap.size), .unset, .unset] [(.int pp), (.ref T45.heap.size), (.ref T43.heap.size)]))
  refine own_st (fun _ kq_ => XS.iconst X47.here hx rfl (hb hby at_87) kq_) ?_
  show OwnG _ _ _ _ _ _ _ (T47.setTop (mkF m 88 #[.val (.long xx), .second, .val (.int y), .val (.int p_), .val (.int vv), .val (.ref b40), .val (.int pp), .val (.ref T43.heap.size), .val (.ref T45.heap.size), .unset, .unset] [(.int (0 : Int32)), (.int pp), (.ref T45.heap.size), (.ref T43.heap.size)]))
  obtain ⟨_, _, ⟨T48, L48, k48, n48⟩, -, X48, ⟨Lc48, hQ48, l48, y48, z48⟩, st48⟩ := Jvm.LawKit.callS X47 hx (y := (⟨"com/example/khepri/khepri/ImageWriterWriteIntAtPinLaw", "same", "([B[BII)Z"⟩ : MethodName)) hown (mvT hZ (hw _ (List.mem_of_getElem? (i := 57) rfl))) (mvT hZ (hw _ (List.mem_of_getElem? (i := 58) rfl))) (mvT hZ (hw _ (List.mem_of_getElem? (i := 59) rfl))) (mvT hZ (hw _ (List.mem_of_getElem? (i := 60) rfl))) (by decide) (backOf (W := 0) (rm10 l Z a0 hw [] (T43.heap.size) (T45.heap.size) pp (0 : Int32) pz 0 g43 (own_w g43 pz vv) T46.heap n0 S46 hpp hp (by decide) (by decide) U46 V46 (fun q => if_neg q)) hZ (hw _ (List.mem_of_getElem? (i := 60) rfl)) (hw _ (List.mem_of_getElem? (i := 59) rfl)) (by decide) (by decide)) (g := (mkF m 88 #[.val (.long xx), .second, .val (.int y), .val (.int p_), .val (.int vv), .val (.ref b40), .val (.int pp), .val (.ref T43.heap.size), .val (.ref T45.heap.size), .unset, .unset] [(.int (0 : Int32)), (.int pp), (.ref T45.heap.size), (.ref T43.heap.size)])) rfl (by rw [hml]; rfl) (argsL := [(.ref T43.heap.size), (.ref T45.heap.size), (.int pp), (.int (0 : Int32))]) (rest := []) (lenOf (by decide +kernel : parseMethodDescriptor "([B[BII)Z" = some ⟨[(.array .byte), (.array .byte), .int, .int], some .boolean⟩) rfl) rfl (by show 2 * 0 + _ ≤ _; exact Nat.le_of_eq rfl) (hb hby at_88) (fun _ _ => ⟨rfl, E47, (by dsimp only [Pt.cells]; decide), (by dsimp only [Pt.slots]; decide)⟩)
  dsimp only [Pt.U, Pt.locs, Pt.cells, Pt.slots] at X48 l48 y48 z48 st48 hQ48
  subst l48 y48 z48
  obtain ⟨rfl, N48q, E48⟩ := hQ48
  have N48 := Fr.app N47 N48q
  refine own_st st48 ?_
  show OwnG _ _ _ _ _ _ _ (T48.setTop (mkF m 91 #[.val (.long xx), .second, .val (.int y), .val (.int p_), .val (.int vv), .val (.ref b40), .val (.int pp), .val (.ref T43.heap.size), .val (.ref T45.heap.size), .unset, .unset] [(.int (1 : Int32))]))
  refine own_st (fun _ kq_ => XS.ifNo X48.here hx rfl (hb hby at_91) rfl ((if0 _ _).trans (feq (by decide : ¬ ((1 : Int32) = (0 : Int32)))).1) kq_) ?_
  show OwnG _ _ _ _ _ _ _ (T48.setTop (mkF m 94 #[.val (.long xx), .second, .val (.int y), .val (.int p_), .val (.int vv), .val (.ref b40), .val (.int pp), .val (.ref T43.heap.size), .val (.ref T45.heap.size), .unset, .unset] []))
  refine own_st (fun _ kq_ => XS.aload X48.here hx rfl (hb hby at_94) rfl rfl kq_) ?_
  show OwnG _ _ _ _ _ _ _ (T48.setTop (mkF m 96 #[.val (.long xx), .second, .val (.int y), .val (.int p_), .val (.int vv), .val (.ref b40), .val (.int pp), .val (.ref T43.heap.size), .val (.ref T45.heap.size), .unset, .unset] [(.ref T43.heap.size)]))
  refine own_st (fun _ kq_ => XS.aload X48.here hx rfl (hb hby at_96) rfl rfl kq_) ?_
  show OwnG _ _ _ _ _ _ _ (T48.setTop (mkF m 98 #[.val (.long xx), .second, .val (.int y), .val (.int p_), .val (.int vv), .val (.ref b40), .val (.int pp), .val (.ref T43.heap.size), .val (.ref T45.heap.size), .unset, .unset] [(.ref T45.heap.size), (.ref T43.heap.size)]))
  refine own_st (fun _ kq_ => XS.iload X48.here hx rfl (hb hby at_98) rfl kq_) ?_
  show OwnG _ _ _ _ _ _ _ (T48.setTop (mkF m 100 #[.val (.long xx), .second, .val (.int y), .val (.int p_), .val (.int vv), .val (.ref b40), .val (.int pp), .val (.ref T43.heap.size), .val (.ref T45.heap.size), .unset, .unset] [(.int pp), (.ref T45.heap.size), (.ref T43.heap.size)]))
  refine own_st (fun _ kq_ => XS.iconst X48.here hx rfl (hb hby at_100) kq_) ?_
  show OwnG _ _ _ _ _ _ _ (T48.setTop (mkF m 101 #[.val (.long xx), .second, .val (.int y), .val (.int p_), .val (.int vv), .val (.ref b40), .val (.int pp), .val (.ref T43.heap.size), .val (.ref T45.heap.size), .unset, .unset] [(.int (1 : Int32)), (.int pp), (.ref T45.heap.size), (.ref T43.heap.size)]))
  obtain ⟨_, _, ⟨T49, L49, k49, n49⟩, -, X49, ⟨Lc49, hQ49, l49, y49, z49⟩, st49⟩ := Jvm.LawKit.callS X48 hx (y := (⟨"com/example/khepri/khepri/ImageWriterWriteIntAtPinLaw", "same", "([B[BII)Z"⟩ : MethodName)) hown (mvT hZ (hw _ (List.mem_of_getElem? (i := 57) rfl))) (mvT hZ (hw _ (List.mem_of_getElem? (i := 58) rfl))) (mvT hZ (hw _ (List.mem_of_getElem? (i := 59) rfl))) (mvT hZ (hw _ (List.mem_of_getElem? (i := 60) rfl))) (by decide) (backOf (W := 0) (rm10 l Z a0 hw [] (T43.heap.size) (T45.heap.size) pp (1 : Int32) pz 1 g43 (own_w g43 pz vv) T46.heap n0 S46 hpp hp (by decide) (by decide) U46 V46 (fun q => if_neg q)) hZ (hw _ (List.mem_of_getElem? (i := 60) rfl)) (hw _ (List.mem_of_getElem? (i := 59) rfl)) (by decide) (by decide)) (g := (mkF m 101 #[.val (.long xx), .second, .val (.int y), .val (.int p_), .val (.int vv), .val (.ref b40), .val (.int pp), .val (.ref T43.heap.size), .val (.ref T45.heap.size), .unset, .unset] [(.int (1 : Int32)), (.int pp), (.ref T45.heap.size), (.ref T43.heap.size)])) rfl (by rw [hml]; rfl) (argsL := [(.ref T43.heap.size), (.ref T45.heap.size), (.int pp), (.int (1 : Int32))]) (rest := []) (lenOf (by decide +kernel : parseMethodDescriptor "([B[BII)Z" = some ⟨[(.array .byte), (.array .byte), .int, .int], some .boolean⟩) rfl) rfl (by show 2 * 0 + _ ≤ _; exact Nat.le_of_eq rfl) (hb hby at_101) (fun _ _ => ⟨rfl, E48, (by dsimp only [Pt.cells]; decide), (by dsimp only [Pt.slots]; decide)⟩)
  dsimp only [Pt.U, Pt.locs, Pt.cells, Pt.slots] at X49 l49 y49 z49 st49 hQ49
  subst l49 y49 z49
  obtain ⟨rfl, N49q, E49⟩ := hQ49
  have N49 := Fr.app N48 N49q
  refine own_st st49 ?_
  show OwnG _ _ _ _ _ _ _ (T49.setTop (mkF m 104 #[.val (.long xx), .second, .val (.int y), .val (.int p_), .val (.int vv), .val (.ref b40), .val (.int pp), .val (.ref T43.heap.size), .val (.ref T45.heap.size), .unset, .unset] [(.int (1 : Int32))]))
  refine own_st (fun _ kq_ => XS.ifNo X49.here hx rfl (hb hby at_104) rfl ((if0 _ _).trans (feq (by decide : ¬ ((1 : Int32) = (0 : Int32)))).1) kq_) ?_
  show OwnG _ _ _ _ _ _ _ (T49.setTop (mkF m 107 #[.val (.long xx), .second, .val (.int y), .val (.int p_), .val (.int vv), .val (.ref b40), .val (.int pp), .val (.ref T43.heap.size), .val (.ref T45.heap.size), .unset, .unset] []))
  refine own_st (fun _ kq_ => XS.aload X49.here hx rfl (hb hby at_107) rfl rfl kq_) ?_
  show OwnG _ _ _ _ _ _ _ (T49.setTop (mkF m 109 #[.val (.long xx), .second, .val (.int y), .val (.int p_), .val (.int vv), .val (.ref b40), .val (.int pp), .val (.ref T43.heap.size), .val (.ref T45.heap.size), .unset, .unset] [(.ref T43.heap.size)]))
  refine own_st (fun _ kq_ => XS.aload X49.here hx rfl (hb hby at_109) rfl rfl kq_) ?_
  show OwnG _ _ _ _ _ _ _ (T49.setTop (mkF m 111 #[.val (.long xx), .second, .val (.int y), .val (.int p_), .val (.int vv), .val (.ref b40), .val (.int pp), .val (.ref T43.heap.size), .val (.ref T45.heap.size), .unset, .unset] [(.ref T45.heap.size), (.ref T43.heap.size)]))
  refine own_st (fun _ kq_ => XS.iload X49.here hx rfl (hb hby at_111) rfl kq_) ?_
  show OwnG _ _ _ _ _ _ _ (T49.setTop (mkF m 113 #[.val (.long xx), .second, .val (.int y), .val (.int p_), .val (.int vv), .val (.ref b40), .val (.int pp), .val (.ref T43.heap.size), .val (.ref T45.heap.size), .unset, .unset] [(.int pp), (.ref T45.heap.size), (.ref T43.heap.size)]))
  refine own_st (fun _ kq_ => XS.iconst X49.here hx rfl (hb hby at_113) kq_) ?_
  show OwnG _ _ _ _ _ _ _ (T49.setTop (mkF m 114 #[.val (.long xx), .second, .val (.int y), .val (.int p_), .val (.int vv), .val (.ref b40), .val (.int pp), .val (.ref T43.heap.size), .val (.ref T45.heap.size), .unset, .unset] [(.int (2 : Int32)), (.int pp), (.ref T45.heap.size), (.ref T43.heap.size)]))
  obtain ⟨_, _, ⟨T50, L50, k50, n50⟩, -, X50, ⟨Lc50, hQ50, l50, y50, z50⟩, st50⟩ := Jvm.LawKit.callS X49 hx (y := (⟨"com/example/khepri/khepri/ImageWriterWriteIntAtPinLaw", "same", "([B[BII)Z"⟩ : MethodName)) hown (mvT hZ (hw _ (List.mem_of_getElem? (i := 57) rfl))) (mvT hZ (hw _ (List.mem_of_getElem? (i := 58) rfl))) (mvT hZ (hw _ (List.mem_of_getElem? (i := 59) rfl))) (mvT hZ (hw _ (List.mem_of_getElem? (i := 60) rfl))) (by decide) (backOf (W := 0) (rm10 l Z a0 hw [] (T43.heap.size) (T45.heap.size) pp (2 : Int32) pz 2 g43 (own_w g43 pz vv) T46.heap n0 S46 hpp hp (by decide) (by decide) U46 V46 (fun q => if_neg q)) hZ (hw _ (List.mem_of_getElem? (i := 60) rfl)) (hw _ (List.mem_of_getElem? (i := 59) rfl)) (by decide) (by decide)) (g := (mkF m 114 #[.val (.long xx), .second, .val (.int y), .val (.int p_), .val (.int vv), .val (.ref b40), .val (.int pp), .val (.ref T43.heap.size), .val (.ref T45.heap.size), .unset, .unset] [(.int (2 : Int32)), (.int pp), (.ref T45.heap.size), (.ref T43.heap.size)])) rfl (by rw [hml]; rfl) (argsL := [(.ref T43.heap.size), (.ref T45.heap.size), (.int pp), (.int (2 : Int32))]) (rest := []) (lenOf (by decide +kernel : parseMethodDescriptor "([B[BII)Z" = some ⟨[(.array .byte), (.array .byte), .int, .int], some .boolean⟩) rfl) rfl (by show 2 * 0 + _ ≤ _; exact Nat.le_of_eq rfl) (hb hby at_114) (fun _ _ => ⟨rfl, E49, (by dsimp only [Pt.cells]; decide), (by dsimp only [Pt.slots]; decide)⟩)
  dsimp only [Pt.U, Pt.locs, Pt.cells, Pt.slots] at X50 l50 y50 z50 st50 hQ50
  subst l50 y50 z50
  obtain ⟨rfl, N50q, E50⟩ := hQ50
  have N50 := Fr.app N49 N50q
  refine own_st st50 ?_
  show OwnG _ _ _ _ _ _ _ (T50.setTop (mkF m 117 #[.val (.long xx), .second, .val (.int y), .val (.int p_), .val (.int vv), .val (.ref b40), .val (.int pp), .val (.ref T43.heap.size), .val (.ref T45.heap.size), .unset, .unset] [(.int (1 : Int32))]))
  refine own_st (fun _ kq_ => XS.ifNo X50.here hx rfl (hb hby at_117) rfl ((if0 _ _).trans (feq (by decide : ¬ ((1 : Int32) = (0 : Int32)))).1) kq_) ?_
  show OwnG _ _ _ _ _ _ _ (T50.setTop (mkF m 120 #[.val (.long xx), .second, .val (.int y), .val (.int p_), .val (.int vv), .val (.ref b40), .val (.int pp), .val (.ref T43.heap.size), .val (.ref T45.heap.size), .unset, .unset] []))
  refine own_st (fun _ kq_ => XS.aload X50.here hx rfl (hb hby at_120) rfl rfl kq_) ?_
  show OwnG _ _ _ _ _ _ _ (T50.setTop (mkF m 122 #[.val (.long xx), .second, .val (.int y), .val (.int p_), .val (.int vv), .val (.ref b40), .val (.int pp), .val (.ref T43.heap.size), .val (.ref T45.heap.size), .unset, .unset] [(.ref T43.heap.size)]))
  refine own_st (fun _ kq_ => XS.aload X50.here hx rfl (hb hby at_122) rfl rfl kq_) ?_
  show OwnG _ _ _ _ _ _ _ (T50.setTop (mkF m 124 #[.val (.long xx), .second, .val (.int y), .val (.int p_), .val (.int vv), .val (.ref b40), .val (.int pp), .val (.ref T43.heap.size), .val (.ref T45.heap.size), .unset, .unset] [(.ref T45.heap.size), (.ref T43.heap.size)]))
  refine own_st (fun _ kq_ => XS.iload X50.here hx rfl (hb hby at_124) rfl kq_) ?_
  show OwnG _ _ _ _ _ _ _ (T50.setTop (mkF m 126 #[.val (.long xx), .second, .val (.int y), .val (.int p_), .val (.int vv), .val (.ref b40), .val (.int pp), .val (.ref T43.heap.size), .val (.ref T45.heap.size), .unset, .unset] [(.int pp), (.ref T45.heap.size), (.ref T43.heap.size)]))
  refine own_st (fun _ kq_ => XS.iconst X50.here hx rfl (hb hby at_126) kq_) ?_
  show OwnG _ _ _ _ _ _ _ (T50.setTop (mkF m 127 #[.val (.long xx), .second, .val (.int y), .val (.int p_), .val (.int vv), .val (.ref b40), .val (.int pp), .val (.ref T43.heap.size), .val (.ref T45.heap.size), .unset, .unset] [(.int (3 : Int32)), (.int pp), (.ref T45.heap.size), (.ref T43.heap.size)]))
  obtain ⟨_, _, ⟨T51, L51, k51, n51⟩, -, X51, ⟨Lc51, hQ51, l51, y51, z51⟩, st51⟩ := Jvm.LawKit.callS X50 hx (y := (⟨"com/example/khepri/khepri/ImageWriterWriteIntAtPinLaw", "same", "([B[BII)Z"⟩ : MethodName)) hown (mvT hZ (hw _ (List.mem_of_getElem? (i := 57) rfl))) (mvT hZ (hw _ (List.mem_of_getElem? (i := 58) rfl))) (mvT hZ (hw _ (List.mem_of_getElem? (i := 59) rfl))) (mvT hZ (hw _ (List.mem_of_getElem? (i := 60) rfl))) (by decide) (backOf (W := 0) (rm10 l Z a0 hw [] (T43.heap.size) (T45.heap.size) pp (3 : Int32) pz 3 g43 (own_w g43 pz vv) T46.heap n0 S46 hpp hp (by decide) (by decide) U46 V46 (fun q => if_neg q)) hZ (hw _ (List.mem_of_getElem? (i := 60) rfl)) (hw _ (List.mem_of_getElem? (i := 59) rfl)) (by decide) (by decide)) (g := (mkF m 127 #[.val (.long xx), .second, .val (.int y), .val (.int p_), .val (.int vv), .val (.ref b40), .val (.int pp), .val (.ref T43.heap.size), .val (.ref T45.heap.size), .unset, .unset] [(.int (3 : Int32)), (.int pp), (.ref T45.heap.size), (.ref T43.heap.size)])) rfl (by rw [hml]; rfl) (argsL := [(.ref T43.heap.size), (.ref T45.heap.size), (.int pp), (.int (3 : Int32))]) (rest := []) (lenOf (by decide +kernel : parseMethodDescriptor "([B[BII)Z" = some ⟨[(.array .byte), (.array .byte), .int, .int], some .boolean⟩) rfl) rfl (by show 2 * 0 + _ ≤ _; exact Nat.le_of_eq rfl) (hb hby at_127) (fun _ _ => ⟨rfl, E50, (by dsimp only [Pt.cells]; decide), (by dsimp only [Pt.slots]; decide)⟩)
  dsimp only [Pt.U, Pt.locs, Pt.cells, Pt.slots] at X51 l51 y51 z51 st51 hQ51
  subst l51 y51 z51
  obtain ⟨rfl, N51q, E51⟩ := hQ51
  have N51 := Fr.app N50 N51q
  refine own_st st51 ?_
  show OwnG _ _ _ _ _ _ _ (T51.setTop (mkF m 130 #[.val (.long xx), .second, .val (.int y), .val (.int p_), .val (.int vv), .val (.ref b40), .val (.int pp), .val (.ref T43.heap.size), .val (.ref T45.heap.size), .unset, .unset] [(.int (1 : Int32))]))
  refine own_st (fun _ kq_ => XS.ifNo X51.here hx rfl (hb hby at_130) rfl ((if0 _ _).trans (feq (by decide : ¬ ((1 : Int32) = (0 : Int32)))).1) kq_) ?_
  show OwnG _ _ _ _ _ _ _ (T51.setTop (mkF m 133 #[.val (.long xx), .second, .val (.int y), .val (.int p_), .val (.int vv), .val (.ref b40), .val (.int pp), .val (.ref T43.heap.size), .val (.ref T45.heap.size), .unset, .unset] []))
  refine own_st (fun _ kq_ => XS.aload X51.here hx rfl (hb hby at_133) rfl rfl kq_) ?_
  show OwnG _ _ _ _ _ _ _ (T51.setTop (mkF m 135 #[.val (.long xx), .second, .val (.int y), .val (.int p_), .val (.int vv), .val (.ref b40), .val (.int pp), .val (.ref T43.heap.size), .val (.ref T45.heap.size), .unset, .unset] [(.ref T43.heap.size)]))
  refine own_st (fun _ kq_ => XS.aload X51.here hx rfl (hb hby at_135) rfl rfl kq_) ?_
  show OwnG _ _ _ _ _ _ _ (T51.setTop (mkF m 137 #[.val (.long xx), .second, .val (.int y), .val (.int p_), .val (.int vv), .val (.ref b40), .val (.int pp), .val (.ref T43.heap.size), .val (.ref T45.heap.size), .unset, .unset] [(.ref T45.heap.size), (.ref T43.heap.size)]))
  refine own_st (fun _ kq_ => XS.iload X51.here hx rfl (hb hby at_137) rfl kq_) ?_
  show OwnG _ _ _ _ _ _ _ (T51.setTop (mkF m 139 #[.val (.long xx), .second, .val (.int y), .val (.int p_), .val (.int vv), .val (.ref b40), .val (.int pp), .val (.ref T43.heap.size), .val (.ref T45.heap.size), .unset, .unset] [(.int pp), (.ref T45.heap.size), (.ref T43.heap.size)]))
  refine own_st (fun _ kq_ => XS.iconst X51.here hx rfl (hb hby at_139) kq_) ?_
  show OwnG _ _ _ _ _ _ _ (T51.setTop (mkF m 140 #[.val (.long xx), .second, .val (.int y), .val (.int p_), .val (.int vv), .val (.ref b40), .val (.int pp), .val (.ref T43.heap.size), .val (.ref T45.heap.size), .unset, .unset] [(.int (4 : Int32)), (.int pp), (.ref T45.heap.size), (.ref T43.heap.size)]))
  obtain ⟨_, _, ⟨T52, L52, k52, n52⟩, -, X52, ⟨Lc52, hQ52, l52, y52, z52⟩, st52⟩ := Jvm.LawKit.callS X51 hx (y := (⟨"com/example/khepri/khepri/ImageWriterWriteIntAtPinLaw", "same", "([B[BII)Z"⟩ : MethodName)) hown (mvT hZ (hw _ (List.mem_of_getElem? (i := 57) rfl))) (mvT hZ (hw _ (List.mem_of_getElem? (i := 58) rfl))) (mvT hZ (hw _ (List.mem_of_getElem? (i := 59) rfl))) (mvT hZ (hw _ (List.mem_of_getElem? (i := 60) rfl))) (by decide) (backOf (W := 0) (rm10 l Z a0 hw [] (T43.heap.size) (T45.heap.size) pp (4 : Int32) pz 4 g43 (own_w g43 pz vv) T46.heap n0 S46 hpp hp (by decide) (by decide) U46 V46 (fun q => if_neg q)) hZ (hw _ (List.mem_of_getElem? (i := 60) rfl)) (hw _ (List.mem_of_getElem? (i := 59) rfl)) (by decide) (by decide)) (g := (mkF m 140 #[.val (.long xx), .second, .val (.int y), .val (.int p_), .val (.int vv), .val (.ref b40), .val (.int pp), .val (.ref T43.heap.size), .val (.ref T45.heap.size), .unset, .unset] [(.int (4 : Int32)), (.int pp), (.ref T45.heap.size), (.ref T43.heap.size)])) rfl (by rw [hml]; rfl) (argsL := [(.ref T43.heap.size), (.ref T45.heap.size), (.int pp), (.int (4 : Int32))]) (rest := []) (lenOf (by decide +kernel : parseMethodDescriptor "([B[BII)Z" = some ⟨[(.array .byte), (.array .byte), .int, .int], some .boolean⟩) rfl) rfl (by show 2 * 0 + _ ≤ _; exact Nat.le_of_eq rfl) (hb hby at_140) (fun _ _ => ⟨rfl, E51, (by dsimp only [Pt.cells]; decide), (by dsimp only [Pt.slots]; decide)⟩)
  dsimp only [Pt.U, Pt.locs, Pt.cells, Pt.slots] at X52 l52 y52 z52 st52 hQ52
  subst l52 y52 z52
  obtain ⟨rfl, N52q, E52⟩ := hQ52
  have N52 := Fr.app N51 N52q
  refine own_st st52 ?_
  show OwnG _ _ _ _ _ _ _ (T52.setTop (mkF m 143 #[.val (.long xx), .second, .val (.int y), .val (.int p_), .val (.int vv), .val (.ref b40), .val (.int pp), .val (.ref T43.heap.size), .val (.ref T45.heap.size), .unset, .unset] [(.int (1 : Int32))]))
  refine own_st (fun _ kq_ => XS.ifNo X52.here hx rfl (hb hby at_143) rfl ((if0 _ _).trans (feq (by decide : ¬ ((1 : Int32) = (0 : Int32)))).1) kq_) ?_
  show OwnG _ _ _ _ _ _ _ (T52.setTop (mkF m 146 #[.val (.long xx), .second, .val (.int y), .val (.int p_), .val (.int vv), .val (.ref b40), .val (.int pp), .val (.ref T43.heap.size), .val (.ref T45.heap.size), .unset, .unset] []))
  refine own_st (fun _ kq_ => XS.aload X52.here hx rfl (hb hby at_146) rfl rfl kq_) ?_
  show OwnG _ _ _ _ _ _ _ (T52.setTop (mkF m 148 #[.val (.long xx), .second, .val (.int y), .val (.int p_), .val (.int vv), .val (.ref b40), .val (.int pp), .val (.ref T43.heap.size), .val (.ref T45.heap.size), .unset, .unset] [(.ref T43.heap.size)]))
  refine own_st (fun _ kq_ => XS.aload X52.here hx rfl (hb hby at_148) rfl rfl kq_) ?_
  show OwnG _ _ _ _ _ _ _ (T52.setTop (mkF m 150 #[.val (.long xx), .second, .val (.int y), .val (.int p_), .val (.int vv), .val (.ref b40), .val (.int pp), .val (.ref T43.heap.size), .val (.ref T45.heap.size), .unset, .unset] [(.ref T45.heap.size), (.ref T43.heap.size)]))
  refine own_st (fun _ kq_ => XS.iload X52.here hx rfl (hb hby at_150) rfl kq_) ?_
  show OwnG _ _ _ _ _ _ _ (T52.setTop (mkF m 152 #[.val (.long xx), .second, .val (.int y), .val (.int p_), .val (.int vv), .val (.ref b40), .val (.int pp), .val (.ref T43.heap.size), .val (.ref T45.heap.size), .unset, .unset] [(.int pp), (.ref T45.heap.size), (.ref T43.heap.size)]))
  refine own_st (fun _ kq_ => XS.iconst X52.here hx rfl (hb hby at_152) kq_) ?_
  show OwnG _ _ _ _ _ _ _ (T52.setTop (mkF m 153 #[.val (.long xx), .second, .val (.int y), .val (.int p_), .val (.int vv), .val (.ref b40), .val (.int pp), .val (.ref T43.heap.size), .val (.ref T45.heap.size), .unset, .unset] [(.int (5 : Int32)), (.int pp), (.ref T45.heap.size), (.ref T43.heap.size)]))
  obtain ⟨_, _, ⟨T53, L53, k53, n53⟩, -, X53, ⟨Lc53, hQ53, l53, y53, z53⟩, st53⟩ := Jvm.LawKit.callS X52 hx (y := (⟨"com/example/khepri/khepri/ImageWriterWriteIntAtPinLaw", "same", "([B[BII)Z"⟩ : MethodName)) hown (mvT hZ (hw _ (List.mem_of_getElem? (i := 57) rfl))) (mvT hZ (hw _ (List.mem_of_getElem? (i := 58) rfl))) (mvT hZ (hw _ (List.mem_of_getElem? (i := 59) rfl))) (mvT hZ (hw _ (List.mem_of_getElem? (i := 60) rfl))) (by decide) (backOf (W := 0) (rm10 l Z a0 hw [] (T43.heap.size) (T45.heap.size) pp (5 : Int32) pz 5 g43 (own_w g43 pz vv) T46.heap n0 S46 hpp hp (by decide) (by decide) U46 V46 (fun q => if_neg q)) hZ (hw _ (List.mem_of_getElem? (i := 60) rfl)) (hw _ (List.mem_of_getElem? (i := 59) rfl)) (by decide) (by decide)) (g := (mkF m 153 #[.val (.long xx), .second, .val (.int y), .val (.int p_), .val (.int vv), .val (.ref b40), .val (.int pp), .val (.ref T43.heap.size), .val (.ref T45.heap.size), .unset, .unset] [(.int (5 : Int32)), (.int pp), (.ref T45.heap.size), (.ref T43.heap.size)])) rfl (by rw [hml]; rfl) (argsL := [(.ref T43.heap.size), (.ref T45.heap.size), (.int pp), (.int (5 : Int32))]) (rest := []) (lenOf (by decide +kernel : parseMethodDescriptor "([B[BII)Z" = some ⟨[(.array .byte), (.array .byte), .int, .int], some .boolean⟩) rfl) rfl (by show 2 * 0 + _ ≤ _; exact Nat.le_of_eq rfl) (hb hby at_153) (fun _ _ => ⟨rfl, E52, (by dsimp only [Pt.cells]; decide), (by dsimp only [Pt.slots]; decide)⟩)
  dsimp only [Pt.U, Pt.locs, Pt.cells, Pt.slots] at X53 l53 y53 z53 st53 hQ53
  subst l53 y53 z53
  obtain ⟨rfl, N53q, E53⟩ := hQ53
  have N53 := Fr.app N52 N53q
  refine own_st st53 ?_
  show OwnG _ _ _ _ _ _ _ (T53.setTop (mkF m 156 #[.val (.long xx), .second, .val (.int y), .val (.int p_), .val (.int vv), .val (.ref b40), .val (.int pp), .val (.ref T43.heap.size), .val (.ref T45.heap.size), .unset, .unset] [(.int (1 : Int32))]))
  refine own_st (fun _ kq_ => XS.ifNo X53.here hx rfl (hb hby at_156) rfl ((if0 _ _).trans (feq (by decide : ¬ ((1 : Int32) = (0 : Int32)))).1) kq_) ?_
  show OwnG _ _ _ _ _ _ _ (T53.setTop (mkF m 159 #[.val (.long xx), .second, .val (.int y), .val (.int p_), .val (.int vv), .val (.ref b40), .val (.int pp), .val (.ref T43.heap.size), .val (.ref T45.heap.size), .unset, .unset] []))
  refine own_st (fun _ kq_ => XS.aload X53.here hx rfl (hb hby at_159) rfl rfl kq_) ?_
  show OwnG _ _ _ _ _ _ _ (T53.setTop (mkF m 161 #[.val (.long xx), .second, .val (.int y), .val (.int p_), .val (.int vv), .val (.ref b40), .val (.int pp), .val (.ref T43.heap.size), .val (.ref T45.heap.size), .unset, .unset] [(.ref T43.heap.size)]))
  refine own_st (fun _ kq_ => XS.aload X53.here hx rfl (hb hby at_161) rfl rfl kq_) ?_
  show OwnG _ _ _ _ _ _ _ (T53.setTop (mkF m 163 #[.val (.long xx), .second, .val (.int y), .val (.int p_), .val (.int vv), .val (.ref b40), .val (.int pp), .val (.ref T43.heap.size), .val (.ref T45.heap.size), .unset, .unset] [(.ref T45.heap.size), (.ref T43.heap.size)]))
  refine own_st (fun _ kq_ => XS.iload X53.here hx rfl (hb hby at_163) rfl kq_) ?_
  show OwnG _ _ _ _ _ _ _ (T53.setTop (mkF m 165 #[.val (.long xx), .second, .val (.int y), .val (.int p_), .val (.int vv), .val (.ref b40), .val (.int pp), .val (.ref T43.heap.size), .val (.ref T45.heap.size), .unset, .unset] [(.int pp), (.ref T45.heap.size), (.ref T43.heap.size)]))
  refine own_st (fun _ kq_ => XS.bipush X53.here hx rfl (hb hby at_165) kq_) ?_
  show OwnG _ _ _ _ _ _ _ (T53.setTop (mkF m 167 #[.val (.long xx), .second, .val (.int y), .val (.int p_), .val (.int vv), .val (.ref b40), .val (.int pp), .val (.ref T43.heap.size), .val (.ref T45.heap.size), .unset, .unset] [(.int (6 : Int32)), (.int pp), (.ref T45.heap.size), (.ref T43.heap.size)]))
  obtain ⟨_, _, ⟨T54, L54, k54, n54⟩, -, X54, ⟨Lc54, hQ54, l54, y54, z54⟩, st54⟩ := Jvm.LawKit.callS X53 hx (y := (⟨"com/example/khepri/khepri/ImageWriterWriteIntAtPinLaw", "same", "([B[BII)Z"⟩ : MethodName)) hown (mvT hZ (hw _ (List.mem_of_getElem? (i := 57) rfl))) (mvT hZ (hw _ (List.mem_of_getElem? (i := 58) rfl))) (mvT hZ (hw _ (List.mem_of_getElem? (i := 59) rfl))) (mvT hZ (hw _ (List.mem_of_getElem? (i := 60) rfl))) (by decide) (backOf (W := 0) (rm10 l Z a0 hw [] (T43.heap.size) (T45.heap.size) pp (6 : Int32) pz 6 g43 (own_w g43 pz vv) T46.heap n0 S46 hpp hp (by decide) (by decide) U46 V46 (fun q => if_neg q)) hZ (hw _ (List.mem_of_getElem? (i := 60) rfl)) (hw _ (List.mem_of_getElem? (i := 59) rfl)) (by decide) (by decide)) (g := (mkF m 167 #[.val (.long xx), .second, .val (.int y), .val (.int p_), .val (.int vv), .val (.ref b40), .val (.int pp), .val (.ref T43.heap.size), .val (.ref T45.heap.size), .unset, .unset] [(.int (6 : Int32)), (.int pp), (.ref T45.heap.size), (.ref T43.heap.size)])) rfl (by rw [hml]; rfl) (argsL := [(.ref T43.heap.size), (.ref T45.heap.size), (.int pp), (.int (6 : Int32))]) (rest := []) (lenOf (by decide +kernel : parseMethodDescriptor "([B[BII)Z" = some ⟨[(.array .byte), (.array .byte), .int, .int], some .boolean⟩) rfl) rfl (by show 2 * 0 + _ ≤ _; exact Nat.le_of_eq rfl) (hb hby at_167) (fun _ _ => ⟨rfl, E53, (by dsimp only [Pt.cells]; decide), (by dsimp only [Pt.slots]; decide)⟩)
  dsimp only [Pt.U, Pt.locs, Pt.cells, Pt.slots] at X54 l54 y54 z54 st54 hQ54
  subst l54 y54 z54
  obtain ⟨rfl, N54q, E54⟩ := hQ54
  have N54 := Fr.app N53 N54q
  refine own_st st54 ?_
  show OwnG _ _ _ _ _ _ _ (T54.setTop (mkF m 170 #[.val (.long xx), .second, .val (.int y), .val (.int p_), .val (.int vv), .val (.ref b40), .val (.int pp), .val (.ref T43.heap.size), .val (.ref T45.heap.size), .unset, .unset] [(.int (1 : Int32))]))
  refine own_st (fun _ kq_ => XS.ifNo X54.here hx rfl (hb hby at_170) rfl ((if0 _ _).trans (feq (by decide : ¬ ((1 : Int32) = (0 : Int32)))).1) kq_) ?_
  show OwnG _ _ _ _ _ _ _ (T54.setTop (mkF m 173 #[.val (.long xx), .second, .val (.int y), .val (.int p_), .val (.int vv), .val (.ref b40), .val (.int pp), .val (.ref T43.heap.size), .val (.ref T45.heap.size), .unset, .unset] []))
  refine own_st (fun _ kq_ => XS.aload X54.here hx rfl (hb hby at_173) rfl rfl kq_) ?_
  show OwnG _ _ _ _ _ _ _ (T54.setTop (mkF m 175 #[.val (.long xx), .second, .val (.int y), .val (.int p_), .val (.int vv), .val (.ref b40), .val (.int pp), .val (.ref T43.heap.size), .val (.ref T45.heap.size), .unset, .unset] [(.ref T43.heap.size)]))
  refine own_st (fun _ kq_ => XS.aload X54.here hx rfl (hb hby at_175) rfl rfl kq_) ?_
  show OwnG _ _ _ _ _ _ _ (T54.setTop (mkF m 177 #[.val (.long xx), .second, .val (.int y), .val (.int p_), .val (.int vv), .val (.ref b40), .val (.int pp), .val (.ref T43.heap.size), .val (.ref T45.heap.size), .unset, .unset] [(.ref T45.heap.size), (.ref T43.heap.size)]))
  refine own_st (fun _ kq_ => XS.iload X54.here hx rfl (hb hby at_177) rfl kq_) ?_
  show OwnG _ _ _ _ _ _ _ (T54.setTop (mkF m 179 #[.val (.long xx), .second, .val (.int y), .val (.int p_), .val (.int vv), .val (.ref b40), .val (.int pp), .val (.ref T43.heap.size), .val (.ref T45.heap.size), .unset, .unset] [(.int pp), (.ref T45.heap.size), (.ref T43.heap.size)]))
  refine own_st (fun _ kq_ => XS.bipush X54.here hx rfl (hb hby at_179) kq_) ?_
  show OwnG _ _ _ _ _ _ _ (T54.setTop (mkF m 181 #[.val (.long xx), .second, .val (.int y), .val (.int p_), .val (.int vv), .val (.ref b40), .val (.int pp), .val (.ref T43.heap.size), .val (.ref T45.heap.size), .unset, .unset] [(.int (7 : Int32)), (.int pp), (.ref T45.heap.size), (.ref T43.heap.size)]))
  obtain ⟨_, _, ⟨T55, L55, k55, n55⟩, -, X55, ⟨Lc55, hQ55, l55, y55, z55⟩, st55⟩ := Jvm.LawKit.callS X54 hx (y := (⟨"com/example/khepri/khepri/ImageWriterWriteIntAtPinLaw", "same", "([B[BII)Z"⟩ : MethodName)) hown (mvT hZ (hw _ (List.mem_of_getElem? (i := 57) rfl))) (mvT hZ (hw _ (List.mem_of_getElem? (i := 58) rfl))) (mvT hZ (hw _ (List.mem_of_getElem? (i := 59) rfl))) (mvT hZ (hw _ (List.mem_of_getElem? (i := 60) rfl))) (by decide) (backOf (W := 0) (rm10 l Z a0 hw [] (T43.heap.size) (T45.heap.size) pp (7 : Int32) pz 7 g43 (own_w g43 pz vv) T46.heap n0 S46 hpp hp (by decide) (by decide) U46 V46 (fun q => if_neg q)) hZ (hw _ (List.mem_of_getElem? (i := 60) rfl)) (hw _ (List.mem_of_getElem? (i := 59) rfl)) (by decide) (by decide)) (g := (mkF m 181 #[.val (.long xx), .second, .val (.int y), .val (.int p_), .val (.int vv), .val (.ref b40), .val (.int pp), .val (.ref T43.heap.size), .val (.ref T45.heap.size), .unset, .unset] [(.int (7 : Int32)), (.int pp), (.ref T45.heap.size), (.ref T43.heap.size)])) rfl (by rw [hml]; rfl) (argsL := [(.ref T43.heap.size), (.ref T45.heap.size), (.int pp), (.int (7 : Int32))]) (rest := []) (lenOf (by decide +kernel : parseMethodDescriptor "([B[BII)Z" = some ⟨[(.array .byte), (.array .byte), .int, .int], some .boolean⟩) rfl) rfl (by show 2 * 0 + _ ≤ _; exact Nat.le_of_eq rfl) (hb hby at_181) (fun _ _ => ⟨rfl, E54, (by dsimp only [Pt.cells]; decide), (by dsimp only [Pt.slots]; decide)⟩)
  dsimp only [Pt.U, Pt.locs, Pt.cells, Pt.slots] at X55 l55 y55 z55 st55 hQ55
  subst l55 y55 z55
  obtain ⟨rfl, N55q, E55⟩ := hQ55
  have N55 := Fr.app N54 N55q
  refine own_st st55 ?_
  show OwnG _ _ _ _ _ _ _ (T55.setTop (mkF m 184 #[.val (.long xx), .second, .val (.int y), .val (.int p_), .val (.int vv), .val (.ref b40), .val (.int pp), .val (.ref T43.heap.size), .val (.ref T45.heap.size), .unset, .unset] [(.int (1 : Int32))]))
  refine own_st (fun _ kq_ => XS.ifNo X55.here hx rfl (hb hby at_184) rfl ((if0 _ _).trans (feq (by decide : ¬ ((1 : Int32) = (0 : Int32)))).1) kq_) ?_
  show OwnG _ _ _ _ _ _ _ (T55.setTop (mkF m 187 #[.val (.long xx), .second, .val (.int y), .val (.int p_), .val (.int vv), .val (.ref b40), .val (.int pp), .val (.ref T43.heap.size), .val (.ref T45.heap.size), .unset, .unset] []))
  refine own_st (fun _ kq_ => XS.aload X55.here hx rfl (hb hby at_187) rfl rfl kq_) ?_
  show OwnG _ _ _ _ _ _ _ (T55.setTop (mkF m 189 #[.val (.long xx), .second, .val (.int y), .val (.int p_), .val (.int vv), .val (.ref b40), .val (.int pp), .val (.ref T43.heap.size), .val (.ref T45.heap.size), .unset, .unset] [(.ref T43.heap.size)]))
  refine own_st (fun _ kq_ => XS.aload X55.here hx rfl (hb hby at_189) rfl rfl kq_) ?_
  show OwnG _ _ _ _ _ _ _ (T55.setTop (mkF m 191 #[.val (.long xx), .second, .val (.int y), .val (.int p_), .val (.int vv), .val (.ref b40), .val (.int pp), .val (.ref T43.heap.size), .val (.ref T45.heap.size), .unset, .unset] [(.ref T45.heap.size), (.ref T43.heap.size)]))
  refine own_st (fun _ kq_ => XS.iload X55.here hx rfl (hb hby at_191) rfl kq_) ?_
  show OwnG _ _ _ _ _ _ _ (T55.setTop (mkF m 193 #[.val (.long xx), .second, .val (.int y), .val (.int p_), .val (.int vv), .val (.ref b40), .val (.int pp), .val (.ref T43.heap.size), .val (.ref T45.heap.size), .unset, .unset] [(.int pp), (.ref T45.heap.size), (.ref T43.heap.size)]))
  refine own_st (fun _ kq_ => XS.bipush X55.here hx rfl (hb hby at_193) kq_) ?_
  show OwnG _ _ _ _ _ _ _ (T55.setTop (mkF m 195 #[.val (.long xx), .second, .val (.int y), .val (.int p_), .val (.int vv), .val (.ref b40), .val (.int pp), .val (.ref T43.heap.size), .val (.ref T45.heap.size), .unset, .unset] [(.int (8 : Int32)), (.int pp), (.ref T45.heap.size), (.ref T43.heap.size)]))
  obtain ⟨_, _, ⟨T56, L56, k56, n56⟩, -, X56, ⟨Lc56, hQ56, l56, y56, z56⟩, st56⟩ := Jvm.LawKit.callS X55 hx (y := (⟨"com/example/khepri/khepri/ImageWriterWriteIntAtPinLaw", "same", "([B[BII)Z"⟩ : MethodName)) hown (mvT hZ (hw _ (List.mem_of_getElem? (i := 57) rfl))) (mvT hZ (hw _ (List.mem_of_getElem? (i := 58) rfl))) (mvT hZ (hw _ (List.mem_of_getElem? (i := 59) rfl))) (mvT hZ (hw _ (List.mem_of_getElem? (i := 60) rfl))) (by decide) (backOf (W := 0) (rm10 l Z a0 hw [] (T43.heap.size) (T45.heap.size) pp (8 : Int32) pz 8 g43 (own_w g43 pz vv) T46.heap n0 S46 hpp hp (by decide) (by decide) U46 V46 (fun q => if_neg q)) hZ (hw _ (List.mem_of_getElem? (i := 60) rfl)) (hw _ (List.mem_of_getElem? (i := 59) rfl)) (by decide) (by decide)) (g := (mkF m 195 #[.val (.long xx), .second, .val (.int y), .val (.int p_), .val (.int vv), .val (.ref b40), .val (.int pp), .val (.ref T43.heap.size), .val (.ref T45.heap.size), .unset, .unset] [(.int (8 : Int32)), (.int pp), (.ref T45.heap.size), (.ref T43.heap.size)])) rfl (by rw [hml]; rfl) (argsL := [(.ref T43.heap.size), (.ref T45.heap.size), (.int pp), (.int (8 : Int32))]) (rest := []) (lenOf (by decide +kernel : parseMethodDescriptor "([B[BII)Z" = some ⟨[(.array .byte), (.array .byte), .int, .int], some .boolean⟩) rfl) rfl (by show 2 * 0 + _ ≤ _; exact Nat.le_of_eq rfl) (hb hby at_195) (fun _ _ => ⟨rfl, E55, (by dsimp only [Pt.cells]; decide), (by dsimp only [Pt.slots]; decide)⟩)
  dsimp only [Pt.U, Pt.locs, Pt.cells, Pt.slots] at X56 l56 y56 z56 st56 hQ56
  subst l56 y56 z56
  obtain ⟨rfl, N56q, E56⟩ := hQ56
  have N56 := Fr.app N55 N56q
  refine own_st st56 ?_
  show OwnG _ _ _ _ _ _ _ (T56.setTop (mkF m 198 #[.val (.long xx), .second, .val (.int y), .val (.int p_), .val (.int vv), .val (.ref b40), .val (.int pp), .val (.ref T43.heap.size), .val (.ref T45.heap.size), .unset, .unset] [(.int (1 : Int32))]))
  refine own_st (fun _ kq_ => XS.ifNo X56.here hx rfl (hb hby at_198) rfl ((if0 _ _).trans (feq (by decide : ¬ ((1 : Int32) = (0 : Int32)))).1) kq_) ?_
  show OwnG _ _ _ _ _ _ _ (T56.setTop (mkF m 201 #[.val (.long xx), .second, .val (.int y), .val (.int p_), .val (.int vv), .val (.ref b40), .val (.int pp), .val (.ref T43.heap.size), .val (.ref T45.heap.size), .unset, .unset] []))
  refine own_st (fun _ kq_ => XS.aload X56.here hx rfl (hb hby at_201) rfl rfl kq_) ?_
  show OwnG _ _ _ _ _ _ _ (T56.setTop (mkF m 203 #[.val (.long xx), .second, .val (.int y), .val (.int p_), .val (.int vv), .val (.ref b40), .val (.int pp), .val (.ref T43.heap.size), .val (.ref T45.heap.size), .unset, .unset] [(.ref T43.heap.size)]))
  refine own_st (fun _ kq_ => XS.aload X56.here hx rfl (hb hby at_203) rfl rfl kq_) ?_
  show OwnG _ _ _ _ _ _ _ (T56.setTop (mkF m 205 #[.val (.long xx), .second, .val (.int y), .val (.int p_), .val (.int vv), .val (.ref b40), .val (.int pp), .val (.ref T43.heap.size), .val (.ref T45.heap.size), .unset, .unset] [(.ref T45.heap.size), (.ref T43.heap.size)]))
  refine own_st (fun _ kq_ => XS.iload X56.here hx rfl (hb hby at_205) rfl kq_) ?_
  show OwnG _ _ _ _ _ _ _ (T56.setTop (mkF m 207 #[.val (.long xx), .second, .val (.int y), .val (.int p_), .val (.int vv), .val (.ref b40), .val (.int pp), .val (.ref T43.heap.size), .val (.ref T45.heap.size), .unset, .unset] [(.int pp), (.ref T45.heap.size), (.ref T43.heap.size)]))
  refine own_st (fun _ kq_ => XS.bipush X56.here hx rfl (hb hby at_207) kq_) ?_
  show OwnG _ _ _ _ _ _ _ (T56.setTop (mkF m 209 #[.val (.long xx), .second, .val (.int y), .val (.int p_), .val (.int vv), .val (.ref b40), .val (.int pp), .val (.ref T43.heap.size), .val (.ref T45.heap.size), .unset, .unset] [(.int (9 : Int32)), (.int pp), (.ref T45.heap.size), (.ref T43.heap.size)]))
  obtain ⟨_, _, ⟨T57, L57, k57, n57⟩, -, X57, ⟨Lc57, hQ57, l57, y57, z57⟩, st57⟩ := Jvm.LawKit.callS X56 hx (y := (⟨"com/example/khepri/khepri/ImageWriterWriteIntAtPinLaw", "same", "([B[BII)Z"⟩ : MethodName)) hown (mvT hZ (hw _ (List.mem_of_getElem? (i := 57) rfl))) (mvT hZ (hw _ (List.mem_of_getElem? (i := 58) rfl))) (mvT hZ (hw _ (List.mem_of_getElem? (i := 59) rfl))) (mvT hZ (hw _ (List.mem_of_getElem? (i := 60) rfl))) (by decide) (backOf (W := 0) (rm10 l Z a0 hw [] (T43.heap.size) (T45.heap.size) pp (9 : Int32) pz 9 g43 (own_w g43 pz vv) T46.heap n0 S46 hpp hp (by decide) (by decide) U46 V46 (fun q => if_neg q)) hZ (hw _ (List.mem_of_getElem? (i := 60) rfl)) (hw _ (List.mem_of_getElem? (i := 59) rfl)) (by decide) (by decide)) (g := (mkF m 209 #[.val (.long xx), .second, .val (.int y), .val (.int p_), .val (.int vv), .val (.ref b40), .val (.int pp), .val (.ref T43.heap.size), .val (.ref T45.heap.size), .unset, .unset] [(.int (9 : Int32)), (.int pp), (.ref T45.heap.size), (.ref T43.heap.size)])) rfl (by rw [hml]; rfl) (argsL := [(.ref T43.heap.size), (.ref T45.heap.size), (.int pp), (.int (9 : Int32))]) (rest := []) (lenOf (by decide +kernel : parseMethodDescriptor "([B[BII)Z" = some ⟨[(.array .byte), (.array .byte), .int, .int], some .boolean⟩) rfl) rfl (by show 2 * 0 + _ ≤ _; exact Nat.le_of_eq rfl) (hb hby at_209) (fun _ _ => ⟨rfl, E56, (by dsimp only [Pt.cells]; decide), (by dsimp only [Pt.slots]; decide)⟩)
  dsimp only [Pt.U, Pt.locs, Pt.cells, Pt.slots] at X57 l57 y57 z57 st57 hQ57
  subst l57 y57 z57
  obtain ⟨rfl, N57q, E57⟩ := hQ57
  have N57 := Fr.app N56 N57q
  refine own_st st57 ?_
  show OwnG _ _ _ _ _ _ _ (T57.setTop (mkF m 212 #[.val (.long xx), .second, .val (.int y), .val (.int p_), .val (.int vv), .val (.ref b40), .val (.int pp), .val (.ref T43.heap.size), .val (.ref T45.heap.size), .unset, .unset] [(.int (1 : Int32))]))
  refine own_st (fun _ kq_ => XS.ifNo X57.here hx rfl (hb hby at_212) rfl ((if0 _ _).trans (feq (by decide : ¬ ((1 : Int32) = (0 : Int32)))).1) kq_) ?_
  show OwnG _ _ _ _ _ _ _ (T57.setTop (mkF m 215 #[.val (.long xx), .second, .val (.int y), .val (.int p_), .val (.int vv), .val (.ref b40), .val (.int pp), .val (.ref T43.heap.size), .val (.ref T45.heap.size), .unset, .unset] []))
  refine own_st (fun _ kq_ => XS.aload X57.here hx rfl (hb hby at_215) rfl rfl kq_) ?_
  show OwnG _ _ _ _ _ _ _ (T57.setTop (mkF m 217 #[.val (.long xx), .second, .val (.int y), .val (.int p_), .val (.int vv), .val (.ref b40), .val (.int pp), .val (.ref T43.heap.size), .val (.ref T45.heap.size), .unset, .unset] [(.ref T43.heap.size)]))
  refine own_st (fun _ kq_ => XS.aload X57.here hx rfl (hb hby at_217) rfl rfl kq_) ?_
  show OwnG _ _ _ _ _ _ _ (T57.setTop (mkF m 219 #[.val (.long xx), .second, .val (.int y), .val (.int p_), .val (.int vv), .val (.ref b40), .val (.int pp), .val (.ref T43.heap.size), .val (.ref T45.heap.size), .unset, .unset] [(.ref T45.heap.size), (.ref T43.heap.size)]))
  refine own_st (fun _ kq_ => XS.iload X57.here hx rfl (hb hby at_219) rfl kq_) ?_
  show OwnG _ _ _ _ _ _ _ (T57.setTop (mkF m 221 #[.val (.long xx), .second, .val (.int y), .val (.int p_), .val (.int vv), .val (.ref b40), .val (.int pp), .val (.ref T43.heap.size), .val (.ref T45.heap.size), .unset, .unset] [(.int pp), (.ref T45.heap.size), (.ref T43.heap.size)]))
  refine own_st (fun _ kq_ => XS.bipush X57.here hx rfl (hb hby at_221) kq_) ?_
  show OwnG _ _ _ _ _ _ _ (T57.setTop (mkF m 223 #[.val (.long xx), .second, .val (.int y), .val (.int p_), .val (.int vv), .val (.ref b40), .val (.int pp), .val (.ref T43.heap.size), .val (.ref T45.heap.size), .unset, .unset] [(.int (10 : Int32)), (.int pp), (.ref T45.heap.size), (.ref T43.heap.size)]))
  obtain ⟨_, _, ⟨T58, L58, k58, n58⟩, -, X58, ⟨Lc58, hQ58, l58, y58, z58⟩, st58⟩ := Jvm.LawKit.callS X57 hx (y := (⟨"com/example/khepri/khepri/ImageWriterWriteIntAtPinLaw", "same", "([B[BII)Z"⟩ : MethodName)) hown (mvT hZ (hw _ (List.mem_of_getElem? (i := 57) rfl))) (mvT hZ (hw _ (List.mem_of_getElem? (i := 58) rfl))) (mvT hZ (hw _ (List.mem_of_getElem? (i := 59) rfl))) (mvT hZ (hw _ (List.mem_of_getElem? (i := 60) rfl))) (by decide) (backOf (W := 0) (rm10 l Z a0 hw [] (T43.heap.size) (T45.heap.size) pp (10 : Int32) pz 10 g43 (own_w g43 pz vv) T46.heap n0 S46 hpp hp (by decide) (by decide) U46 V46 (fun q => if_neg q)) hZ (hw _ (List.mem_of_getElem? (i := 60) rfl)) (hw _ (List.mem_of_getElem? (i := 59) rfl)) (by decide) (by decide)) (g := (mkF m 223 #[.val (.long xx), .second, .val (.int y), .val (.int p_), .val (.int vv), .val (.ref b40), .val (.int pp), .val (.ref T43.heap.size), .val (.ref T45.heap.size), .unset, .unset] [(.int (10 : Int32)), (.int pp), (.ref T45.heap.size), (.ref T43.heap.size)])) rfl (by rw [hml]; rfl) (argsL := [(.ref T43.heap.size), (.ref T45.heap.size), (.int pp), (.int (10 : Int32))]) (rest := []) (lenOf (by decide +kernel : parseMethodDescriptor "([B[BII)Z" = some ⟨[(.array .byte), (.array .byte), .int, .int], some .boolean⟩) rfl) rfl (by show 2 * 0 + _ ≤ _; exact Nat.le_of_eq rfl) (hb hby at_223) (fun _ _ => ⟨rfl, E57, (by dsimp only [Pt.cells]; decide), (by dsimp only [Pt.slots]; decide)⟩)
  dsimp only [Pt.U, Pt.locs, Pt.cells, Pt.slots] at X58 l58 y58 z58 st58 hQ58
  subst l58 y58 z58
  obtain ⟨rfl, N58q, E58⟩ := hQ58
  have N58 := Fr.app N57 N58q
  refine own_st st58 ?_
  show OwnG _ _ _ _ _ _ _ (T58.setTop (mkF m 226 #[.val (.long xx), .second, .val (.int y), .val (.int p_), .val (.int vv), .val (.ref b40), .val (.int pp), .val (.ref T43.heap.size), .val (.ref T45.heap.size), .unset, .unset] [(.int (1 : Int32))]))
  refine own_st (fun _ kq_ => XS.ifNo X58.here hx rfl (hb hby at_226) rfl ((if0 _ _).trans (feq (by decide : ¬ ((1 : Int32) = (0 : Int32)))).1) kq_) ?_
  show OwnG _ _ _ _ _ _ _ (T58.setTop (mkF m 229 #[.val (.long xx), .second, .val (.int y), .val (.int p_), .val (.int vv), .val (.ref b40), .val (.int pp), .val (.ref T43.heap.size), .val (.ref T45.heap.size), .unset, .unset] []))
  refine own_st (fun _ kq_ => XS.aload X58.here hx rfl (hb hby at_229) rfl rfl kq_) ?_
  show OwnG _ _ _ _ _ _ _ (T58.setTop (mkF m 231 #[.val (.long xx), .second, .val (.int y), .val (.int p_), .val (.int vv), .val (.ref b40), .val (.int pp), .val (.ref T43.heap.size), .val (.ref T45.heap.size), .unset, .unset] [(.ref T43.heap.size)]))
  refine own_st (fun _ kq_ => XS.aload X58.here hx rfl (hb hby at_231) rfl rfl kq_) ?_
  show OwnG _ _ _ _ _ _ _ (T58.setTop (mkF m 233 #[.val (.long xx), .second, .val (.int y), .val (.int p_), .val (.int vv), .val (.ref b40), .val (.int pp), .val (.ref T43.heap.size), .val (.ref T45.heap.size), .unset, .unset] [(.ref T45.heap.size), (.ref T43.heap.size)]))
  refine own_st (fun _ kq_ => XS.iload X58.here hx rfl (hb hby at_233) rfl kq_) ?_
  show OwnG _ _ _ _ _ _ _ (T58.setTop (mkF m 235 #[.val (.long xx), .second, .val (.int y), .val (.int p_), .val (.int vv), .val (.ref b40), .val (.int pp), .val (.ref T43.heap.size), .val (.ref T45.heap.size), .unset, .unset] [(.int pp), (.ref T45.heap.size), (.ref T43.heap.size)]))
  refine own_st (fun _ kq_ => XS.bipush X58.here hx rfl (hb hby at_235) kq_) ?_
  show OwnG _ _ _ _ _ _ _ (T58.setTop (mkF m 237 #[.val (.long xx), .second, .val (.int y), .val (.int p_), .val (.int vv), .val (.ref b40), .val (.int pp), .val (.ref T43.heap.size), .val (.ref T45.heap.size), .unset, .unset] [(.int (11 : Int32)), (.int pp), (.ref T45.heap.size), (.ref T43.heap.size)]))
  obtain ⟨_, _, ⟨T59, L59, k59, n59⟩, -, X59, ⟨Lc59, hQ59, l59, y59, z59⟩, st59⟩ := Jvm.LawKit.callS X58 hx (y := (⟨"com/example/khepri/khepri/ImageWriterWriteIntAtPinLaw", "same", "([B[BII)Z"⟩ : MethodName)) hown (mvT hZ (hw _ (List.mem_of_getElem? (i := 57) rfl))) (mvT hZ (hw _ (List.mem_of_getElem? (i := 58) rfl))) (mvT hZ (hw _ (List.mem_of_getElem? (i := 59) rfl))) (mvT hZ (hw _ (List.mem_of_getElem? (i := 60) rfl))) (by decide) (backOf (W := 0) (rm10 l Z a0 hw [] (T43.heap.size) (T45.heap.size) pp (11 : Int32) pz 11 g43 (own_w g43 pz vv) T46.heap n0 S46 hpp hp (by decide) (by decide) U46 V46 (fun q => if_neg q)) hZ (hw _ (List.mem_of_getElem? (i := 60) rfl)) (hw _ (List.mem_of_getElem? (i := 59) rfl)) (by decide) (by decide)) (g := (mkF m 237 #[.val (.long xx), .second, .val (.int y), .val (.int p_), .val (.int vv), .val (.ref b40), .val (.int pp), .val (.ref T43.heap.size), .val (.ref T45.heap.size), .unset, .unset] [(.int (11 : Int32)), (.int pp), (.ref T45.heap.size), (.ref T43.heap.size)])) rfl (by rw [hml]; rfl) (argsL := [(.ref T43.heap.size), (.ref T45.heap.size), (.int pp), (.int (11 : Int32))]) (rest := []) (lenOf (by decide +kernel : parseMethodDescriptor "([B[BII)Z" = some ⟨[(.array .byte), (.array .byte), .int, .int], some .boolean⟩) rfl) rfl (by show 2 * 0 + _ ≤ _; exact Nat.le_of_eq rfl) (hb hby at_237) (fun _ _ => ⟨rfl, E58, (by dsimp only [Pt.cells]; decide), (by dsimp only [Pt.slots]; decide)⟩)
  dsimp only [Pt.U, Pt.locs, Pt.cells, Pt.slots] at X59 l59 y59 z59 st59 hQ59
  subst l59 y59 z59
  obtain ⟨rfl, N59q, E59⟩ := hQ59
  have N59 := Fr.app N58 N59q
  refine own_st st59 ?_
  show OwnG _ _ _ _ _ _ _ (T59.setTop (mkF m 240 #[.val (.long xx), .second, .val (.int y), .val (.int p_), .val (.int vv), .val (.ref b40), .val (.int pp), .val (.ref T43.heap.size), .val (.ref T45.heap.size), .unset, .unset] [(.int (1 : Int32))]))
  refine own_st (fun _ kq_ => XS.ifNo X59.here hx rfl (hb hby at_240) rfl ((if0 _ _).trans (feq (by decide : ¬ ((1 : Int32) = (0 : Int32)))).1) kq_) ?_
  show OwnG _ _ _ _ _ _ _ (T59.setTop (mkF m 243 #[.val (.long xx), .second, .val (.int y), .val (.int p_), .val (.int vv), .val (.ref b40), .val (.int pp), .val (.ref T43.heap.size), .val (.ref T45.heap.size), .unset, .unset] []))
  refine own_st (fun _ kq_ => XS.iconst X59.here hx rfl (hb hby at_243) kq_) ?_
  show OwnG _ _ _ _ _ _ _ (T59.setTop (mkF m 244 #[.val (.long xx), .second, .val (.int y), .val (.int p_), .val (.int vv), .val (.ref b40), .val (.int pp), .val (.ref T43.heap.size), .val (.ref T45.heap.size), .unset, .unset] [(.int (1 : Int32))]))
  refine own_st (fun _ kq_ => XS.goto X59.here hx rfl (pc0 := 244) (pc' := 248) rfl (hb hby at_244) (by decide) (by decide) kq_) ?_
  show OwnG _ _ _ _ _ _ _ (T59.setTop (mkF m 248 #[.val (.long xx), .second, .val (.int y), .val (.int p_), .val (.int vv), .val (.ref b40), .val (.int pp), .val (.ref T43.heap.size), .val (.ref T45.heap.size), .unset, .unset] [(.int (1 : Int32))]))
  refine own_st (fun _ kq_ => XS.istore X59.here hx rfl (hb hby at_248) rfl (l' := #[.val (.long xx), .second, .val (.int y), .val (.int p_), .val (.int vv), .val (.ref b40), .val (.int pp), .val (.ref T43.heap.size), .val (.ref T45.heap.size), .val (.int (1 : Int32)), .unset]) rfl kq_) ?_
  show OwnG _ _ _ _ _ _ _ (T59.setTop (mkF m 250 #[.val (.long xx), .second, .val (.int y), .val (.int p_), .val (.int vv), .val (.ref b40), .val (.int pp), .val (.ref T43.heap.size), .val (.ref T45.heap.size), .val (.int (1 : Int32)), .unset] []))
  refine own_st (fun _ kq_ => XS.aload X59.here hx rfl (hb hby at_250) rfl rfl kq_) ?_
  show OwnG _ _ _ _ _ _ _ (T59.setTop (mkF m 252 #[.val (.long xx), .second, .val (.int y), .val (.int p_), .val (.int vv), .val (.ref b40), .val (.int pp), .val (.ref T43.heap.size), .val (.ref T45.heap.size), .val (.int (1 : Int32)), .unset] [(.ref T45.heap.size)]))
  refine own_st (fun _ kq_ => XS.iload X59.here hx rfl (hb hby at_252) rfl kq_) ?_
  show OwnG _ _ _ _ _ _ _ (T59.setTop (mkF m 254 #[.val (.long xx), .second, .val (.int y), .val (.int p_), .val (.int vv), .val (.ref b40), .val (.int pp), .val (.ref T43.heap.size), .val (.ref T45.heap.size), .val (.int (1 : Int32)), .unset] [(.int pp), (.ref T45.heap.size)]))
  refine own_st (own_bl X59 hx hZ E59 V46 (pz + 0) (by rw [Nat.add_zero]; exact hpp) (by omega) (congrArg Value.int (own_w_at g43 pz vv 0 (by decide))) (g := (mkF m 254 #[.val (.long xx), .second, .val (.int y), .val (.int p_), .val (.int vv), .val (.ref b40), .val (.int pp), .val (.ref T43.heap.size), .val (.ref T45.heap.size), .val (.int (1 : Int32)), .unset] [(.int pp), (.ref T45.heap.size)])) rfl rfl (hb hby at_254)) ?_
  show OwnG _ _ _ _ _ _ _ (T59.setTop (mkF m 255 #[.val (.long xx), .second, .val (.int y), .val (.int p_), .val (.int vv), .val (.ref b40), .val (.int pp), .val (.ref T43.heap.size), .val (.ref T45.heap.size), .val (.int (1 : Int32)), .unset] [(.int (own_yb vv 0))]))
  refine own_st (fun _ kq_ => XS.sipush X59.here hx rfl (hb hby at_255) kq_) ?_
  show OwnG _ _ _ _ _ _ _ (T59.setTop (mkF m 258 #[.val (.long xx), .second, .val (.int y), .val (.int p_), .val (.int vv), .val (.ref b40), .val (.int pp), .val (.ref T43.heap.size), .val (.ref T45.heap.size), .val (.int (1 : Int32)), .unset] [(.int (255 : Int32)), (.int (own_yb vv 0))]))
  refine own_st (fun _ kq_ => XS.iand X59.here hx rfl (hb hby at_258) rfl kq_) ?_
  show OwnG _ _ _ _ _ _ _ (T59.setTop (mkF m 259 #[.val (.long xx), .second, .val (.int y), .val (.int p_), .val (.int vv), .val (.ref b40), .val (.int pp), .val (.ref T43.heap.size), .val (.ref T45.heap.size), .val (.int (1 : Int32)), .unset] [(.int ((own_yb vv 0) &&& (255 : Int32)))]))
  refine own_st (fun _ kq_ => XS.bipush X59.here hx rfl (hb hby at_259) kq_) ?_
  show OwnG _ _ _ _ _ _ _ (T59.setTop (mkF m 261 #[.val (.long xx), .second, .val (.int y), .val (.int p_), .val (.int vv), .val (.ref b40), .val (.int pp), .val (.ref T43.heap.size), .val (.ref T45.heap.size), .val (.int (1 : Int32)), .unset] [(.int (24 : Int32)), (.int ((own_yb vv 0) &&& (255 : Int32)))]))
  refine own_st (fun _ kq_ => XS.ishl X59.here hx rfl (hb hby at_261) rfl kq_) ?_
  show OwnG _ _ _ _ _ _ _ (T59.setTop (mkF m 262 #[.val (.long xx), .second, .val (.int y), .val (.int p_), .val (.int vv), .val (.ref b40), .val (.int pp), .val (.ref T43.heap.size), .val (.ref T45.heap.size), .val (.int (1 : Int32)), .unset] [(.int (((own_yb vv 0) &&& (255 : Int32)) <<< ((24 : Int32) &&& 31)))]))
  refine own_st (fun _ kq_ => XS.aload X59.here hx rfl (hb hby at_262) rfl rfl kq_) ?_
  show OwnG _ _ _ _ _ _ _ (T59.setTop (mkF m 264 #[.val (.long xx), .second, .val (.int y), .val (.int p_), .val (.int vv), .val (.ref b40), .val (.int pp), .val (.ref T43.heap.size), .val (.ref T45.heap.size), .val (.int (1 : Int32)), .unset] [(.ref T45.heap.size), (.int (((own_yb vv 0) &&& (255 : Int32)) <<< ((24 : Int32) &&& 31)))]))
  refine own_st (fun _ kq_ => XS.iload X59.here hx rfl (hb hby at_264) rfl kq_) ?_
  show OwnG _ _ _ _ _ _ _ (T59.setTop (mkF m 266 #[.val (.long xx), .second, .val (.int y), .val (.int p_), .val (.int vv), .val (.ref b40), .val (.int pp), .val (.ref T43.heap.size), .val (.ref T45.heap.size), .val (.int (1 : Int32)), .unset] [(.int pp), (.ref T45.heap.size), (.int (((own_yb vv 0) &&& (255 : Int32)) <<< ((24 : Int32) &&& 31)))]))
  refine own_st (fun _ kq_ => XS.iconst X59.here hx rfl (hb hby at_266) kq_) ?_
  show OwnG _ _ _ _ _ _ _ (T59.setTop (mkF m 267 #[.val (.long xx), .second, .val (.int y), .val (.int p_), .val (.int vv), .val (.ref b40), .val (.int pp), .val (.ref T43.heap.size), .val (.ref T45.heap.size), .val (.int (1 : Int32)), .unset] [(.int (1 : Int32)), (.int pp), (.ref T45.heap.size), (.int (((own_yb vv 0) &&& (255 : Int32)) <<< ((24 : Int32) &&& 31)))]))
  refine own_st (fun _ kq_ => XS.iadd X59.here hx rfl (hb hby at_267) rfl kq_) ?_
  show OwnG _ _ _ _ _ _ _ (T59.setTop (mkF m 268 #[.val (.long xx), .second, .val (.int y), .val (.int p_), .val (.int vv), .val (.ref b40), .val (.int pp), .val (.ref T43.heap.size), .val (.ref T45.heap.size), .val (.int (1 : Int32)), .unset] [(.int (pp + (1 : Int32))), (.ref T45.heap.size), (.int (((own_yb vv 0) &&& (255 : Int32)) <<< ((24 : Int32) &&& 31)))]))
  refine own_st (own_bl X59 hx hZ E59 V46 (pz + 1) (own_add pp (1 : Int32) pz 1 hpp rfl (by omega)) (by omega) (congrArg Value.int (own_w_at g43 pz vv 1 (by decide))) (g := (mkF m 268 #[.val (.long xx), .second, .val (.int y), .val (.int p_), .val (.int vv), .val (.ref b40), .val (.int pp), .val (.ref T43.heap.size), .val (.ref T45.heap.size), .val (.int (1 : Int32)), .unset] [(.int (pp + (1 : Int32))), (.ref T45.heap.size), (.int (((own_yb vv 0) &&& (255 : Int32)) <<< ((24 : Int32) &&& 31)))])) rfl rfl (hb hby at_268)) ?_
  show OwnG _ _ _ _ _ _ _ (T59.setTop (mkF m 269 #[.val (.long xx), .second, .val (.int y), .val (.int p_), .val (.int vv), .val (.ref b40), .val (.int pp), .val (.ref T43.heap.size), .val (.ref T45.heap.size), .val (.int (1 : Int32)), .unset] [(.int (own_yb vv 1)), (.int (((own_yb vv 0) &&& (255 : Int32)) <<< ((24 : Int32) &&& 31)))]))
  refine own_st (fun _ kq_ => XS.sipush X59.here hx rfl (hb hby at_269) kq_) ?_
  show OwnG _ _ _ _ _ _ _ (T59.setTop (mkF m 272 #[.val (.long xx), .second, .val (.int y), .val (.int p_), .val (.int vv), .val (.ref b40), .val (.int pp), .val (.ref T43.heap.size), .val (.ref T45.heap.size), .val (.int (1 : Int32)), .unset] [(.int (255 : Int32)), (.int (own_yb vv 1)), (.int (((own_yb vv 0) &&& (255 : Int32)) <<< ((24 : Int32) &&& 31)))]))
  refine own_st (fun _ kq_ => XS.iand X59.here hx rfl (hb hby at_272) rfl kq_) ?_
  show OwnG _ _ _ _ _ _ _ (T59.setTop (mkF m 273 #[.val (.long xx), .second, .val (.int y), .val (.int p_), .val (.int vv), .val (.ref b40), .val (.int pp), .val (.ref T43.heap.size), .val (.ref T45.heap.size), .val (.int (1 : Int32)), .unset] [(.int ((own_yb vv 1) &&& (255 : Int32))), (.int (((own_yb vv 0) &&& (255 : Int32)) <<< ((24 : Int32) &&& 31)))]))
  refine own_st (fun _ kq_ => XS.bipush X59.here hx rfl (hb hby at_273) kq_) ?_
  show OwnG _ _ _ _ _ _ _ (T59.setTop (mkF m 275 #[.val (.long xx), .second, .val (.int y), .val (.int p_), .val (.int vv), .val (.ref b40), .val (.int pp), .val (.ref T43.heap.size), .val (.ref T45.heap.size), .val (.int (1 : Int32)), .unset] [(.int (16 : Int32)), (.int ((own_yb vv 1) &&& (255 : Int32))), (.int (((own_yb vv 0) &&& (255 : Int32)) <<< ((24 : Int32) &&& 31)))]))
  refine own_st (fun _ kq_ => XS.ishl X59.here hx rfl (hb hby at_275) rfl kq_) ?_
  show OwnG _ _ _ _ _ _ _ (T59.setTop (mkF m 276 #[.val (.long xx), .second, .val (.int y), .val (.int p_), .val (.int vv), .val (.ref b40), .val (.int pp), .val (.ref T43.heap.size), .val (.ref T45.heap.size), .val (.int (1 : Int32)), .unset] [(.int (((own_yb vv 1) &&& (255 : Int32)) <<< ((16 : Int32) &&& 31))), (.int (((own_yb vv 0) &&& (255 : Int32)) <<< ((24 : Int32) &&& 31)))]))
  refine own_st (fun _ kq_ => XS.ior X59.here hx rfl (hb hby at_276) rfl kq_) ?_
  show OwnG _ _ _ _ _ _ _ (T59.setTop (mkF m 277 #[.val (.long xx), .second, .val (.int y), .val (.int p_), .val (.int vv), .val (.ref b40), .val (.int pp), .val (.ref T43.heap.size), .val (.ref T45.heap.size), .val (.int (1 : Int32)), .unset] [(.int ((((own_yb vv 0) &&& (255 : Int32)) <<< ((24 : Int32) &&& 31)) ||| (((own_yb vv 1) &&& (255 : Int32)) <<< ((16 : Int32) &&& 31))))]))
  refine own_st (fun _ kq_ => XS.aload X59.here hx rfl (hb hby at_277) rfl rfl kq_) ?_
  show OwnG _ _ _ _ _ _ _ (T59.setTop (mkF m 279 #[.val (.long xx), .second, .val (.int y), .val (.int p_), .val (.int vv), .val (.ref b40), .val (.int pp), .val (.ref T43.heap.size), .val (.ref T45.heap.size), .val (.int (1 : Int32)), .unset] [(.ref T45.heap.size), (.int ((((own_yb vv 0) &&& (255 : Int32)) <<< ((24 : Int32) &&& 31)) ||| (((own_yb vv 1) &&& (255 : Int32)) <<< ((16 : Int32) &&& 31))))]))
  refine own_st (fun _ kq_ => XS.iload X59.here hx rfl (hb hby at_279) rfl kq_) ?_
  show OwnG _ _ _ _ _ _ _ (T59.setTop (mkF m 281 #[.val (.long xx), .second, .val (.int y), .val (.int p_), .val (.int vv), .val (.ref b40), .val (.int pp), .val (.ref T43.heap.size), .val (.ref T45.heap.size), .val (.int (1 : Int32)), .unset] [(.int pp), (.ref T45.heap.size), (.int ((((own_yb vv 0) &&& (255 : Int32)) <<< ((24 : Int32) &&& 31)) ||| (((own_yb vv 1) &&& (255 : Int32)) <<< ((16 : Int32) &&& 31))))]))
  refine own_st (fun _ kq_ => XS.iconst X59.here hx rfl (hb hby at_281) kq_) ?_
  show OwnG _ _ _ _ _ _ _ (T59.setTop (mkF m 282 #[.val (.long xx), .second, .val (.int y), .val (.int p_), .val (.int vv), .val (.ref b40), .val (.int pp), .val (.ref T43.heap.size), .val (.ref T45.heap.size), .val (.int (1 : Int32)), .unset] [(.int (2 : Int32)), (.int pp), (.ref T45.heap.size), (.int ((((own_yb vv 0) &&& (255 : Int32)) <<< ((24 : Int32) &&& 31)) ||| (((own_yb vv 1) &&& (255 : Int32)) <<< ((16 : Int32) &&& 31))))]))
  refine own_st (fun _ kq_ => XS.iadd X59.here hx rfl (hb hby at_282) rfl kq_) ?_
  show OwnG _ _ _ _ _ _ _ (T59.setTop (mkF m 283 #[.val (.long xx), .second, .val (.int y), .val (.int p_), .val (.int vv), .val (.ref b40), .val (.int pp), .val (.ref T43.heap.size), .val (.ref T45.heap.size), .val (.int (1 : Int32)), .unset] [(.int (pp + (2 : Int32))), (.ref T45.heap.size), (.int ((((own_yb vv 0) &&& (255 : Int32)) <<< ((24 : Int32) &&& 31)) ||| (((own_yb vv 1) &&& (255 : Int32)) <<< ((16 : Int32) &&& 31))))]))
  refine own_st (own_bl X59 hx hZ E59 V46 (pz + 2) (own_add pp (2 : Int32) pz 2 hpp rfl (by omega)) (by omega) (congrArg Value.int (own_w_at g43 pz vv 2 (by decide))) (g := (mkF m 283 #[.val (.long xx), .second, .val (.int y), .val (.int p_), .val (.int vv), .val (.ref b40), .val (.int pp), .val (.ref T43.heap.size), .val (.ref T45.heap.size), .val (.int (1 : Int32)), .unset] [(.int (pp + (2 : Int32))), (.ref T45.heap.size), (.int ((((own_yb vv 0) &&& (255 : Int32)) <<< ((24 : Int32) &&& 31)) ||| (((own_yb vv 1) &&& (255 : Int32)) <<< ((16 : Int32) &&& 31))))])) rfl rfl (hb hby at_283)) ?_
  show OwnG _ _ _ _ _ _ _ (T59.setTop (mkF m 284 #[.val (.long xx), .second, .val (.int y), .val (.int p_), .val (.int vv), .val (.ref b40), .val (.int pp), .val (.ref T43.heap.size), .val (.ref T45.heap.size), .val (.int (1 : Int32)), .unset] [(.int (own_yb vv 2)), (.int ((((own_yb vv 0) &&& (255 : Int32)) <<< ((24 : Int32) &&& 31)) ||| (((own_yb vv 1) &&& (255 : Int32)) <<< ((16 : Int32) &&& 31))))]))
  refine own_st (fun _ kq_ => XS.sipush X59.here hx rfl (hb hby at_284) kq_) ?_
  show OwnG _ _ _ _ _ _ _ (T59.setTop (mkF m 287 #[.val (.long xx), .second, .val (.int y), .val (.int p_), .val (.int vv), .val (.ref b40), .val (.int pp), .val (.ref T43.heap.size), .val (.ref T45.heap.size), .val (.int (1 : Int32)), .unset] [(.int (255 : Int32)), (.int (own_yb vv 2)), (.int ((((own_yb vv 0) &&& (255 : Int32)) <<< ((24 : Int32) &&& 31)) ||| (((own_yb vv 1) &&& (255 : Int32)) <<< ((16 : Int32) &&& 31))))]))
  refine own_st (fun _ kq_ => XS.iand X59.here hx rfl (hb hby at_287) rfl kq_) ?_
  show OwnG _ _ _ _ _ _ _ (T59.setTop (mkF m 288 #[.val (.long xx), .second, .val (.int y), .val (.int p_), .val (.int vv), .val (.ref b40), .val (.int pp), .val (.ref T43.heap.size), .val (.ref T45.heap.size), .val (.int (1 : Int32)), .unset] [(.int ((own_yb vv 2) &&& (255 : Int32))), (.int ((((own_yb vv 0) &&& (255 : Int32)) <<< ((24 : Int32) &&& 31)) ||| (((own_yb vv 1) &&& (255 : Int32)) <<< ((16 : Int32) &&& 31))))]))
  refine own_st (fun _ kq_ => XS.bipush X59.here hx rfl (hb hby at_288) kq_) ?_
  show OwnG _ _ _ _ _ _ _ (T59.setTop (mkF m 290 #[.val (.long xx), .second, .val (.int y), .val (.int p_), .val (.int vv), .val (.ref b40), .val (.int pp), .val (.ref T43.heap.size), .val (.ref T45.heap.size), .val (.int (1 : Int32)), .unset] [(.int (8 : Int32)), (.int ((own_yb vv 2) &&& (255 : Int32))), (.int ((((own_yb vv 0) &&& (255 : Int32)) <<< ((24 : Int32) &&& 31)) ||| (((own_yb vv 1) &&& (255 : Int32)) <<< ((16 : Int32) &&& 31))))]))
  refine own_st (fun _ kq_ => XS.ishl X59.here hx rfl (hb hby at_290) rfl kq_) ?_
  show OwnG _ _ _ _ _ _ _ (T59.setTop (mkF m 291 #[.val (.long xx), .second, .val (.int y), .val (.int p_), .val (.int vv), .val (.ref b40), .val (.int pp), .val (.ref T43.heap.size), .val (.ref T45.heap.size), .val (.int (1 : Int32)), .unset] [(.int (((own_yb vv 2) &&& (255 : Int32)) <<< ((8 : Int32) &&& 31))), (.int ((((own_yb vv 0) &&& (255 : Int32)) <<< ((24 : Int32) &&& 31)) ||| (((own_yb vv 1) &&& (255 : Int32)) <<< ((16 : Int32) &&& 31))))]))
  refine own_st (fun _ kq_ => XS.ior X59.here hx rfl (hb hby at_291) rfl kq_) ?_
  show OwnG _ _ _ _ _ _ _ (T59.setTop (mkF m 292 #[.val (.long xx), .second, .val (.int y), .val (.int p_), .val (.int vv), .val (.ref b40), .val (.int pp), .val (.ref T43.heap.size), .val (.ref T45.heap.size), .val (.int (1 : Int32)), .unset] [(.int (((((own_yb vv 0) &&& (255 : Int32)) <<< ((24 : Int32) &&& 31)) ||| (((own_yb vv 1) &&& (255 : Int32)) <<< ((16 : Int32) &&& 31))) ||| (((own_yb vv 2) &&& (255 : Int32)) <<< ((8 : Int32) &&& 31))))]))
  refine own_st (fun _ kq_ => XS.aload X59.here hx rfl (hb hby at_292) rfl rfl kq_) ?_
  show OwnG _ _ _ _ _ _ _ (T59.setTop (mkF m 294 #[.val (.long xx), .second, .val (.int y), .val (.int p_), .val (.int vv), .val (.ref b40), .val (.int pp), .val (.ref T43.heap.size), .val (.ref T45.heap.size), .val (.int (1 : Int32)), .unset] [(.ref T45.heap.size), (.int (((((own_yb vv 0) &&& (255 : Int32)) <<< ((24 : Int32) &&& 31)) ||| (((own_yb vv 1) &&& (255 : Int32)) <<< ((16 : Int32) &&& 31))) ||| (((own_yb vv 2) &&& (255 : Int32)) <<< ((8 : Int32) &&& 31))))]))
  refine own_st (fun _ kq_ => XS.iload X59.here hx rfl (hb hby at_294) rfl kq_) ?_
  show OwnG _ _ _ _ _ _ _ (T59.setTop (mkF m 296 #[.val (.long xx), .second, .val (.int y), .val (.int p_), .val (.int vv), .val (.ref b40), .val (.int pp), .val (.ref T43.heap.size), .val (.ref T45.heap.size), .val (.int (1 : Int32)), .unset] [(.int pp), (.ref T45.heap.size), (.int (((((own_yb vv 0) &&& (255 : Int32)) <<< ((24 : Int32) &&& 31)) ||| (((own_yb vv 1) &&& (255 : Int32)) <<< ((16 : Int32) &&& 31))) ||| (((own_yb vv 2) &&& (255 : Int32)) <<< ((8 : Int32) &&& 31))))]))
  refine own_st (fun _ kq_ => XS.iconst X59.here hx rfl (hb hby at_296) kq_) ?_
  show OwnG _ _ _ _ _ _ _ (T59.setTop (mkF m 297 #[.val (.long xx), .second, .val (.int y), .val (.int p_), .val (.int vv), .val (.ref b40), .val (.int pp), .val (.ref T43.heap.size), .val (.ref T45.heap.size), .val (.int (1 : Int32)), .unset] [(.int (3 : Int32)), (.int pp), (.ref T45.heap.size), (.int (((((own_yb vv 0) &&& (255 : Int32)) <<< ((24 : Int32) &&& 31)) ||| (((own_yb vv 1) &&& (255 : Int32)) <<< ((16 : Int32) &&& 31))) ||| (((own_yb vv 2) &&& (255 : Int32)) <<< ((8 : Int32) &&& 31))))]))
  refine own_st (fun _ kq_ => XS.iadd X59.here hx rfl (hb hby at_297) rfl kq_) ?_
  show OwnG _ _ _ _ _ _ _ (T59.setTop (mkF m 298 #[.val (.long xx), .second, .val (.int y), .val (.int p_), .val (.int vv), .val (.ref b40), .val (.int pp), .val (.ref T43.heap.size), .val (.ref T45.heap.size), .val (.int (1 : Int32)), .unset] [(.int (pp + (3 : Int32))), (.ref T45.heap.size), (.int (((((own_yb vv 0) &&& (255 : Int32)) <<< ((24 : Int32) &&& 31)) ||| (((own_yb vv 1) &&& (255 : Int32)) <<< ((16 : Int32) &&& 31))) ||| (((own_yb vv 2) &&& (255 : Int32)) <<< ((8 : Int32) &&& 31))))]))
  refine own_st (own_bl X59 hx hZ E59 V46 (pz + 3) (own_add pp (3 : Int32) pz 3 hpp rfl (by omega)) (by omega) (congrArg Value.int (own_w_at g43 pz vv 3 (by decide))) (g := (mkF m 298 #[.val (.long xx), .second, .val (.int y), .val (.int p_), .val (.int vv), .val (.ref b40), .val (.int pp), .val (.ref T43.heap.size), .val (.ref T45.heap.size), .val (.int (1 : Int32)), .unset] [(.int (pp + (3 : Int32))), (.ref T45.heap.size), (.int (((((own_yb vv 0) &&& (255 : Int32)) <<< ((24 : Int32) &&& 31)) ||| (((own_yb vv 1) &&& (255 : Int32)) <<< ((16 : Int32) &&& 31))) ||| (((own_yb vv 2) &&& (255 : Int32)) <<< ((8 : Int32) &&& 31))))])) rfl rfl (hb hby at_298)) ?_
  show OwnG _ _ _ _ _ _ _ (T59.setTop (mkF m 299 #[.val (.long xx), .second, .val (.int y), .val (.int p_), .val (.int vv), .val (.ref b40), .val (.int pp), .val (.ref T43.heap.size), .val (.ref T45.heap.size), .val (.int (1 : Int32)), .unset] [(.int (own_yb vv 3)), (.int (((((own_yb vv 0) &&& (255 : Int32)) <<< ((24 : Int32) &&& 31)) ||| (((own_yb vv 1) &&& (255 : Int32)) <<< ((16 : Int32) &&& 31))) ||| (((own_yb vv 2) &&& (255 : Int32)) <<< ((8 : Int32) &&& 31))))]))
  refine own_st (fun _ kq_ => XS.sipush X59.here hx rfl (hb hby at_299) kq_) ?_
  show OwnG _ _ _ _ _ _ _ (T59.setTop (mkF m 302 #[.val (.long xx), .second, .val (.int y), .val (.int p_), .val (.int vv), .val (.ref b40), .val (.int pp), .val (.ref T43.heap.size), .val (.ref T45.heap.size), .val (.int (1 : Int32)), .unset] [(.int (255 : Int32)), (.int (own_yb vv 3)), (.int (((((own_yb vv 0) &&& (255 : Int32)) <<< ((24 : Int32) &&& 31)) ||| (((own_yb vv 1) &&& (255 : Int32)) <<< ((16 : Int32) &&& 31))) ||| (((own_yb vv 2) &&& (255 : Int32)) <<< ((8 : Int32) &&& 31))))]))
  refine own_st (fun _ kq_ => XS.iand X59.here hx rfl (hb hby at_302) rfl kq_) ?_
  show OwnG _ _ _ _ _ _ _ (T59.setTop (mkF m 303 #[.val (.long xx), .second, .val (.int y), .val (.int p_), .val (.int vv), .val (.ref b40), .val (.int pp), .val (.ref T43.heap.size), .val (.ref T45.heap.size), .val (.int (1 : Int32)), .unset] [(.int ((own_yb vv 3) &&& (255 : Int32))), (.int (((((own_yb vv 0) &&& (255 : Int32)) <<< ((24 : Int32) &&& 31)) ||| (((own_yb vv 1) &&& (255 : Int32)) <<< ((16 : Int32) &&& 31))) ||| (((own_yb vv 2) &&& (255 : Int32)) <<< ((8 : Int32) &&& 31))))]))
  refine own_st (fun _ kq_ => XS.ior X59.here hx rfl (hb hby at_303) rfl kq_) ?_
  show OwnG _ _ _ _ _ _ _ (T59.setTop (mkF m 304 #[.val (.long xx), .second, .val (.int y), .val (.int p_), .val (.int vv), .val (.ref b40), .val (.int pp), .val (.ref T43.heap.size), .val (.ref T45.heap.size), .val (.int (1 : Int32)), .unset] [(.int ((((((own_yb vv 0) &&& (255 : Int32)) <<< ((24 : Int32) &&& 31)) ||| (((own_yb vv 1) &&& (255 : Int32)) <<< ((16 : Int32) &&& 31))) ||| (((own_yb vv 2) &&& (255 : Int32)) <<< ((8 : Int32) &&& 31))) ||| ((own_yb vv 3) &&& (255 : Int32))))]))
  refine own_st (fun _ kq_ => XS.istore X59.here hx rfl (hb hby at_304) rfl (l' := #[.val (.long xx), .second, .val (.int y), .val (.int p_), .val (.int vv), .val (.ref b40), .val (.int pp), .val (.ref T43.heap.size), .val (.ref T45.heap.size), .val (.int (1 : Int32)), .val (.int ((((((own_yb vv 0) &&& (255 : Int32)) <<< ((24 : Int32) &&& 31)) ||| (((own_yb vv 1) &&& (255 : Int32)) <<< ((16 : Int32) &&& 31))) ||| (((own_yb vv 2) &&& (255 : Int32)) <<< ((8 : Int32) &&& 31))) ||| ((own_yb vv 3) &&& (255 : Int32))))]) rfl kq_) ?_
  show OwnG _ _ _ _ _ _ _ (T59.setTop (mkF m 306 #[.val (.long xx), .second, .val (.int y), .val (.int p_), .val (.int vv), .val (.ref b40), .val (.int pp), .val (.ref T43.heap.size), .val (.ref T45.heap.size), .val (.int (1 : Int32)), .val (.int ((((((own_yb vv 0) &&& (255 : Int32)) <<< ((24 : Int32) &&& 31)) ||| (((own_yb vv 1) &&& (255 : Int32)) <<< ((16 : Int32) &&& 31))) ||| (((own_yb vv 2) &&& (255 : Int32)) <<< ((8 : Int32) &&& 31))) ||| ((own_yb vv 3) &&& (255 : Int32))))] []))
  refine own_st (fun _ kq_ => XS.iload X59.here hx rfl (hb hby at_306) rfl kq_) ?_
  show OwnG _ _ _ _ _ _ _ (T59.setTop (mkF m 308 #[.val (.long xx), .second, .val (.int y), .val (.int p_), .val (.int vv), .val (.ref b40), .val (.int pp), .val (.ref T43.heap.size), .val (.ref T45.heap.size), .val (.int (1 : Int32)), .val (.int ((((((own_yb vv 0) &&& (255 : Int32)) <<< ((24 : Int32) &&& 31)) ||| (((own_yb vv 1) &&& (255 : Int32)) <<< ((16 : Int32) &&& 31))) ||| (((own_yb vv 2) &&& (255 : Int32)) <<< ((8 : Int32) &&& 31))) ||| ((own_yb vv 3) &&& (255 : Int32))))] [(.int (1 : Int32))]))
  refine own_st (fun _ kq_ => XS.ifNo X59.here hx rfl (hb hby at_308) rfl ((if0 _ _).trans (feq (by decide : ¬ ((1 : Int32) = (0 : Int32)))).1) kq_) ?_
  show OwnG _ _ _ _ _ _ _ (T59.setTop (mkF m 311 #[.val (.long xx), .second, .val (.int y), .val (.int p_), .val (.int vv), .val (.ref b40), .val (.int pp), .val (.ref T43.heap.size), .val (.ref T45.heap.size), .val (.int (1 : Int32)), .val (.int ((((((own_yb vv 0) &&& (255 : Int32)) <<< ((24 : Int32) &&& 31)) ||| (((own_yb vv 1) &&& (255 : Int32)) <<< ((16 : Int32) &&& 31))) ||| (((own_yb vv 2) &&& (255 : Int32)) <<< ((8 : Int32) &&& 31))) ||| ((own_yb vv 3) &&& (255 : Int32))))] []))
  refine own_st (fun _ kq_ => XS.iload X59.here hx rfl (hb hby at_311) rfl kq_) ?_
  show OwnG _ _ _ _ _ _ _ (T59.setTop (mkF m 313 #[.val (.long xx), .second, .val (.int y), .val (.int p_), .val (.int vv), .val (.ref b40), .val (.int pp), .val (.ref T43.heap.size), .val (.ref T45.heap.size), .val (.int (1 : Int32)), .val (.int ((((((own_yb vv 0) &&& (255 : Int32)) <<< ((24 : Int32) &&& 31)) ||| (((own_yb vv 1) &&& (255 : Int32)) <<< ((16 : Int32) &&& 31))) ||| (((own_yb vv 2) &&& (255 : Int32)) <<< ((8 : Int32) &&& 31))) ||| ((own_yb vv 3) &&& (255 : Int32))))] [(.int ((((((own_yb vv 0) &&& (255 : Int32)) <<< ((24 : Int32) &&& 31)) ||| (((own_yb vv 1) &&& (255 : Int32)) <<< ((16 : Int32) &&& 31))) ||| (((own_yb vv 2) &&& (255 : Int32)) <<< ((8 : Int32) &&& 31))) ||| ((own_yb vv 3) &&& (255 : Int32))))]))
  refine own_st (fun _ kq_ => XS.iload X59.here hx rfl (hb hby at_313) rfl kq_) ?_
  show OwnG _ _ _ _ _ _ _ (T59.setTop (mkF m 315 #[.val (.long xx), .second, .val (.int y), .val (.int p_), .val (.int vv), .val (.ref b40), .val (.int pp), .val (.ref T43.heap.size), .val (.ref T45.heap.size), .val (.int (1 : Int32)), .val (.int ((((((own_yb vv 0) &&& (255 : Int32)) <<< ((24 : Int32) &&& 31)) ||| (((own_yb vv 1) &&& (255 : Int32)) <<< ((16 : Int32) &&& 31))) ||| (((own_yb vv 2) &&& (255 : Int32)) <<< ((8 : Int32) &&& 31))) ||| ((own_yb vv 3) &&& (255 : Int32))))] [(.int vv), (.int ((((((own_yb vv 0) &&& (255 : Int32)) <<< ((24 : Int32) &&& 31)) ||| (((own_yb vv 1) &&& (255 : Int32)) <<< ((16 : Int32) &&& 31))) ||| (((own_yb vv 2) &&& (255 : Int32)) <<< ((8 : Int32) &&& 31))) ||| ((own_yb vv 3) &&& (255 : Int32))))]))
  refine own_st (fun _ kq_ => XS.icmpNo X59.here hx rfl (hb hby at_315) rfl (teq (own_back vv)).2 kq_) ?_
  show OwnG _ _ _ _ _ _ _ (T59.setTop (mkF m 318 #[.val (.long xx), .second, .val (.int y), .val (.int p_), .val (.int vv), .val (.ref b40), .val (.int pp), .val (.ref T43.heap.size), .val (.ref T45.heap.size), .val (.int (1 : Int32)), .val (.int ((((((own_yb vv 0) &&& (255 : Int32)) <<< ((24 : Int32) &&& 31)) ||| (((own_yb vv 1) &&& (255 : Int32)) <<< ((16 : Int32) &&& 31))) ||| (((own_yb vv 2) &&& (255 : Int32)) <<< ((8 : Int32) &&& 31))) ||| ((own_yb vv 3) &&& (255 : Int32))))] []))
  refine own_st (fun _ kq_ => XS.iconst X59.here hx rfl (hb hby at_318) kq_) ?_
  show OwnG _ _ _ _ _ _ _ (T59.setTop (mkF m 319 #[.val (.long xx), .second, .val (.int y), .val (.int p_), .val (.int vv), .val (.ref b40), .val (.int pp), .val (.ref T43.heap.size), .val (.ref T45.heap.size), .val (.int (1 : Int32)), .val (.int ((((((own_yb vv 0) &&& (255 : Int32)) <<< ((24 : Int32) &&& 31)) ||| (((own_yb vv 1) &&& (255 : Int32)) <<< ((16 : Int32) &&& 31))) ||| (((own_yb vv 2) &&& (255 : Int32)) <<< ((8 : Int32) &&& 31))) ||| ((own_yb vv 3) &&& (255 : Int32))))] [(.int (1 : Int32))]))
  refine own_st (fun _ kq_ => XS.goto X59.here hx rfl (pc0 := 319) (pc' := 323) rfl (hb hby at_319) (by decide) (by decide) kq_) ?_
  show OwnG _ _ _ _ _ _ _ (T59.setTop (mkF m 323 #[.val (.long xx), .second, .val (.int y), .val (.int p_), .val (.int vv), .val (.ref b40), .val (.int pp), .val (.ref T43.heap.size), .val (.ref T45.heap.size), .val (.int (1 : Int32)), .val (.int ((((((own_yb vv 0) &&& (255 : Int32)) <<< ((24 : Int32) &&& 31)) ||| (((own_yb vv 1) &&& (255 : Int32)) <<< ((16 : Int32) &&& 31))) ||| (((own_yb vv 2) &&& (255 : Int32)) <<< ((8 : Int32) &&& 31))) ||| ((own_yb vv 3) &&& (255 : Int32))))] [(.int (1 : Int32))]))
  exact own_retN X59 hx hrt hlk (t := .boolean) (by simp) (hb hby at_323) (by decide) (by decide) (by show _ ∧ _; first | (rw [E59]; exact ⟨rfl, N59⟩) | exact ⟨rfl, N59⟩)
set_option maxRecDepth 65536 in
set_option maxHeartbeats 40000000 in
theorem comes_1 {Post : Tables → Env → Array Value → State → Outcome → State → Prop} (hpost : ∀ tb e args s v u, (limb_1_1.after args s (.returned v) u = true ∧ limb_1_2.after args s (.returned v) u = true ∧ True) → FrameEnd s (.returned v) u (Jvm.fieldLocs frame_1_writes args s ++ Jvm.arrayLocs frame_1_arrays args s ++ Jvm.staticLocs frame_1_statics s) 16 8320 → Post tb e args s (.returned v) u) :
    ArmFor flags0 classFile x code maxLocals ret World_1 tables_1 room_1 Calls_1 rest_1 Pre_1 Post := by
  intro l hfl _ _ p e ha hc hk s m args below hf hA hF happ hP
  obtain ⟨hcalls, hrest, hpre⟩ := hP
  obtain ⟨-, -, -, hnamed, -, -, -, hat⟩ := (Spec.applies_iff hf).mp happ
  obtain ⟨hg, hn⟩ := and_e (Cond.before_iff.mp (show (Jvm.Cond.and given_1 narrow_1).before args s = true from hpre))
  obtain ⟨gc, r0⟩ := and_e hg
  obtain ⟨g0, r1⟩ := and_e r0
  obtain ⟨g1, r2⟩ := and_e r1
  obtain ⟨g2, r3⟩ := and_e r2
  obtain ⟨w0, w1, w2, w3, rfl⟩ : ∃ w0 w1 w2 w3 : Value, args = #[w0, w1, w2, w3] := by
    have hs : args.size = 4 := by simpa [Cond.value, given_1] using gc
    obtain ⟨L⟩ := args
    match L, hs with
    | [w0, w1, w2, w3], _ => exact ⟨w0, w1, w2, w3, rfl⟩
  have hw := fun d (hd : d ∈ tables_1) => atoms_spec (ws := Jvm.Cond.code x code maxLocals ret :: tables_1) hat d (List.mem_cons_of_mem _ hd)
  obtain ⟨i0, ei0⟩ := isL_v g0
  obtain rfl : w0 = (.long i0) := Option.some.inj ei0
  obtain ⟨i1, ei1⟩ := is_v g1
  obtain rfl : w1 = (.int i1) := Option.some.inj ei1
  obtain ⟨i2, ei2⟩ := is_v g2
  obtain rfl : w2 = (.int i2) := Option.some.inj ei2
  obtain ⟨i3, ei3⟩ := is_v r3
  obtain rfl : w3 = (.int i3) := Option.some.inj ei3
  obtain ⟨n, o, h1, h2, h3, _, L, rfl, ⟨rfl, N⟩, hq⟩ := rm0 l s _ hw tables_1 i0 i1 i2 i3 s.heap s.heap.size (Nat.le_refl _) p e ha hc hk s m _ below hf ((Spec.applies_iff_loose hf).mp happ).1 ⟨rfl, State.Warmed39.refl s, rfl⟩ trivial
  refine ⟨n, _, h1, h2, h3, hpost _ _ _ _ _ _ ⟨Cond.after_iff.mpr rfl, Cond.after_iff.mpr (eq_i res_at (Term.int_eval (1)) rfl), trivial⟩ ⟨hq.1, hq.2.1, (hq.2.2.sift fun y hy => Or.inr (N y hy)).mono (by decide) (by decide)⟩⟩
theorem main_1_1 : Claimed_1_1 := comes_1 fun _ _ _ _ _ _ h hF => ⟨h.1, hF⟩
theorem main_1_2 : Claimed_1_2 := comes_1 fun _ _ _ _ _ _ h hF => ⟨h.2.1, hF⟩
end Jvm.Pilot.@@N@@
namespace Jvm.Pilot.@@N@@
open Jvm Jvm.ClassFile Sem Op Lib Jvm.Free Jvm.Stand Jvm.Pilot.@@N@@.Jvm.D
/-! MADE BY PROGRAM (witnessworld.py) out of the Statement's table words and the real class files: 12 classes; the members and pool entries that the words name. The judged class is class 1, her method 1. -/
namespace start1
open Jvm.ClassFile
def u (s : String) : CpInfo := .utf8 (stringToUtf16 s)
/-- a pool by its gaps: so many unusable entries, then the entry; so many at the end -/
def gap : Nat → List CpInfo → List CpInfo
  | 0, r => r
  | n + 1, r => .unusable :: gap n r
def poolList (es : List (Nat × CpInfo)) (last : Nat) : List CpInfo := es.foldr (fun e r => gap e.1 (e.2 :: r)) (gap last [])
def pool (es : List (Nat × CpInfo)) (last : Nat) : Array CpInfo := ⟨poolList es last⟩
def fileOf (pool : Array CpInfo) (this : Nat) (attrs : Array Attribute := #[]) (ms : Array MethodInfo := #[]) (fl : Nat := 33) (sup : Nat := 0) (ifs : Array Nat := #[]) (fds : Array FieldInfo := #[]) : ClassFile where
  minorVersion := 0
  majorVersion := 65
  constantPool := pool
  accessFlags := fl
  thisClass := this
  superClass := sup
  interfaces := ifs
  fields := fds
  methods := ms
  attributes := attrs
def plain (name : String) (sup : Option ClassId) : Class where
  name := name
  kind := .ordinary
  loader := none
  accessFlags := 33
  super := sup
  interfaces := #[]
  cf := none
  fields := #[]
  methods := #[]
  instanceTypes := #[]
  staticTypes := #[]
  resolved := #[]
  callSites := []
  init := .initialized
  statics := none
  mirror := none

def pool0 : Array CpInfo := pool [(5, u "<init>"), (0, u "()V"), (1, .class_ 10), (1, u "java/lang/Object")] 113

def k0c0 : Code := { maxStack := 0, maxLocals := 1, code := object_method_1_code, exceptionTable := #[], attributes := #[] }
def k0m0 : Method := { name := "<init>", desc := "()V", sig := { parameters := [], returnType := none }, accessFlags := 1, code := some k0c0 }
/-- java/lang/Object -/
def k0 : Class := { plain "java/lang/Object" none with
  accessFlags := 33
  interfaces := #[]
  cf := some (fileOf pool0 8 #[] #[{ accessFlags := 1, nameIndex := 5, descriptorIndex := 6, attributes := #[] }] 33 0 #[] #[])
  fields := #[]
  methods := #[k0m0]
  instanceTypes := #[]
  staticTypes := #[]
  resolved := Array.replicate 124 none
  statics := none }

def pool1 : Array CpInfo := pool [(2, .class_ 4), (0, .nameAndType 5 6), (0, u "java/lang/Object"), (0, u "<init>"), (0, u "()V"), (0, .class_ 8), (0, u "com/example/khepri/khepri/ImageWriter"), (0, .methodref 7 3), (0, .methodref 7 11), (0, .nameAndType 12 13), (0, u "writeLong"), (0, u "(J)V"), (0, .methodref 7 15), (0, .nameAndType 16 17), (0, u "writeInt"), (0, u "(I)V"), (0, .integer 2147483647), (0, .methodref 7 20), (0, .nameAndType 21 22), (0, u "toByteArray"), (0, u "()[B"), (0, .methodref 7 24), (0, .nameAndType 25 26), (0, u "writeIntAt"), (0, u "(II)V"), (0, .methodref 7 28), (0, .nameAndType 29 30), (0, u "position"), (0, u "()I"), (0, .methodref 32 33), (0, .class_ 34), (0, .nameAndType 35 36), (0, u "com/example/khepri/khepri/ImageWriterWriteIntAtPinLaw"), (0, u "same"), (0, u "([B[BII)Z"), (2, u "law"), (0, u "(JIII)Z")] 5

def k1m0 : Method := { name := "<init>", desc := "()V", sig := { parameters := [], returnType := none }, accessFlags := 1, code := none }
def k1c1 : Code := { maxStack := 4, maxLocals := 11, code := code, exceptionTable := #[], attributes := #[] }
def k1m1 : Method := { name := "law", desc := "(JIII)Z", sig := { parameters := [.long, .int, .int, .int], returnType := some .boolean }, accessFlags := 9, code := some k1c1 }
def k1c2 : Code := { maxStack := 3, maxLocals := 4, code := method_3_code, exceptionTable := #[], attributes := #[] }
def k1m2 : Method := { name := "same", desc := "([B[BII)Z", sig := { parameters := [(.array .byte), (.array .byte), .int, .int], returnType := some .boolean }, accessFlags := 10, code := some k1c2 }
/-- com/example/khepri/khepri/ImageWriterWriteIntAtPinLaw -/
def k1 : Class := { plain "com/example/khepri/khepri/ImageWriterWriteIntAtPinLaw" (some 0) with
  accessFlags := 49
  interfaces := #[]
  cf := some (fileOf pool1 32 #[] #[{ accessFlags := 1, nameIndex := 5, descriptorIndex := 6, attributes := #[] }, { accessFlags := 9, nameIndex := 39, descriptorIndex := 40, attributes := #[] }, { accessFlags := 10, nameIndex := 35, descriptorIndex := 36, attributes := #[] }] 49 2 #[] #[])
  fields := #[]
  methods := #[k1m0, k1m1, k1m2]
  instanceTypes := #[]
  staticTypes := #[]
  resolved := Array.replicate 46 none
  statics := none }

def pool2 : Array CpInfo := pool [(1, .methodref 2 3), (0, .class_ 4), (0, .nameAndType 5 6), (0, u "java/lang/Object"), (0, u "<init>"), (0, u "()V"), (0, .fieldref 8 9), (0, .class_ 10), (0, .nameAndType 11 12), (0, u "com/example/khepri/khepri/ImageWriter"), (0, u "bytes"), (0, u "[B"), (0, .methodref 8 14), (0, .nameAndType 15 16), (0, u "room"), (0, u "(I)V"), (0, .fieldref 8 18), (0, .nameAndType 19 20), (0, u "size"), (0, u "I"), (0, .methodref 8 22), (0, .nameAndType 23 16), (0, u "writeInt"), (25, .methodref 50 51), (0, .class_ 52), (0, .nameAndType 53 54), (0, u "java/util/Arrays"), (0, u "copyOf"), (0, u "([BI)[B"), (10, u "position"), (0, u "()I"), (0, u "writeIntAt"), (0, u "(II)V"), (0, u "writeLong"), (0, u "(J)V"), (4, u "toByteArray"), (0, u "()[B")] 2

def k2c0 : Code := { maxStack := 2, maxLocals := 1, code := prog_141_method_1_code, exceptionTable := #[], attributes := #[] }
def k2m0 : Method := { name := "<init>", desc := "()V", sig := { parameters := [], returnType := none }, accessFlags := 0, code := some k2c0 }
def k2c1 : Code := { maxStack := 5, maxLocals := 3, code := prog_141_method_4_code, exceptionTable := #[], attributes := #[] }
def k2m1 : Method := { name := "writeInt", desc := "(I)V", sig := { parameters := [.int], returnType := none }, accessFlags := 0, code := some k2c1 }
def k2c2 : Code := { maxStack := 1, maxLocals := 1, code := prog_141_method_5_code, exceptionTable := #[], attributes := #[] }
def k2m2 : Method := { name := "position", desc := "()I", sig := { parameters := [], returnType := some .int }, accessFlags := 0, code := some k2c2 }
def k2c3 : Code := { maxStack := 6, maxLocals := 4, code := prog_141_method_6_code, exceptionTable := #[], attributes := #[] }
def k2m3 : Method := { name := "writeIntAt", desc := "(II)V", sig := { parameters := [.int, .int], returnType := none }, accessFlags := 0, code := some k2c3 }
def k2c4 : Code := { maxStack := 4, maxLocals := 3, code := prog_141_method_7_code, exceptionTable := #[], attributes := #[] }
def k2m4 : Method := { name := "writeLong", desc := "(J)V", sig := { parameters := [.long], returnType := none }, accessFlags := 0, code := some k2c4 }
def k2c5 : Code := { maxStack := 2, maxLocals := 1, code := prog_141_method_11_code, exceptionTable := #[], attributes := #[] }
def k2m5 : Method := { name := "toByteArray", desc := "()[B", sig := { parameters := [], returnType := some (.array .byte) }, accessFlags := 0, code := some k2c5 }
def k2c6 : Code := { maxStack := 5, maxLocals := 2, code := prog_141_method_12_code, exceptionTable := #[], attributes := #[] }
def k2m6 : Method := { name := "room", desc := "(I)V", sig := { parameters := [.int], returnType := none }, accessFlags := 2, code := some k2c6 }
/-- com/example/khepri/khepri/ImageWriter -/
def k2 : Class := { plain "com/example/khepri/khepri/ImageWriter" (some 0) with
  accessFlags := 32
  interfaces := #[]
  cf := some (fileOf pool2 8 #[] #[{ accessFlags := 0, nameIndex := 5, descriptorIndex := 6, attributes := #[] }, { accessFlags := 0, nameIndex := 23, descriptorIndex := 16, attributes := #[] }, { accessFlags := 0, nameIndex := 65, descriptorIndex := 66, attributes := #[] }, { accessFlags := 0, nameIndex := 67, descriptorIndex := 68, attributes := #[] }, { accessFlags := 0, nameIndex := 69, descriptorIndex := 70, attributes := #[] }, { accessFlags := 0, nameIndex := 75, descriptorIndex := 76, attributes := #[] }, { accessFlags := 2, nameIndex := 15, descriptorIndex := 16, attributes := #[] }] 32 2 #[] #[{ accessFlags := 2, nameIndex := 11, descriptorIndex := 12, attributes := #[] }, { accessFlags := 2, nameIndex := 19, descriptorIndex := 20, attributes := #[] }])
  fields := #[{ name := "bytes", type := (.array .byte), accessFlags := 2, slot := 0, constantValue := 0 }, { name := "size", type := .int, accessFlags := 2, slot := 1, constantValue := 0 }]
  methods := #[k2m0, k2m1, k2m2, k2m3, k2m4, k2m5, k2m6]
  instanceTypes := #[(.array .byte), .int]
  staticTypes := #[]
  resolved := Array.replicate 79 none
  statics := none }

def pool3 : Array CpInfo := pool [(2, .class_ 4), (1, u "java/lang/Object"), (0, u "<init>"), (0, u "()V"), (7, .class_ 16), (1, u "java/util/Arrays"), (57, .class_ 76), (1, u "java/util/Arrays$NaturalOrder"), (36, .class_ 115), (1, u "java/util/Arrays$LegacyMergeSort"), (1, u "Z"), (32, .methodref 151 152), (0, .class_ 153), (0, .nameAndType 154 155), (0, u "java/lang/System"), (0, u "arraycopy"), (0, u "(Ljava/lang/Object;ILjava/lang/Object;II)V"), (146, u "copyOf"), (1, .methodref 305 306), (0, .class_ 307), (0, .nameAndType 308 309), (0, u "java/lang/Math"), (0, u "min"), (0, u "(II)I"), (65, .class_ 376), (0, u "java/util/Arrays$ArrayList"), (68, u "$assertionsDisabled"), (269, u "MIN_ARRAY_SORT_GRAN"), (0, u "I"), (2, u "INSERTIONSORT_THRESHOLD"), (149, u "([BI)[B"), (105, .class_ 976), (0, u "java/util/Arrays$ArrayItr")] 52

def k3m0 : Method := { name := "<init>", desc := "()V", sig := { parameters := [], returnType := none }, accessFlags := 2, code := none }
def k3c1 : Code := { maxStack := 6, maxLocals := 3, code := jdk_65_method_121_code, exceptionTable := #[], attributes := #[] }
def k3m1 : Method := { name := "copyOf", desc := "([BI)[B", sig := { parameters := [(.array .byte), .int], returnType := some (.array .byte) }, accessFlags := 9, code := some k3c1 }
/-- java/util/Arrays -/
def k3 : Class := { plain "java/util/Arrays" (some 0) with
  accessFlags := 49
  interfaces := #[]
  cf := some (fileOf pool3 14 #[.nestMembers #[975, 375, 113, 74]] #[{ accessFlags := 2, nameIndex := 5, descriptorIndex := 6, attributes := #[] }, { accessFlags := 9, nameIndex := 302, descriptorIndex := 869, attributes := #[] }] 49 2 #[] #[{ accessFlags := 26, nameIndex := 715, descriptorIndex := 716, attributes := #[] }, { accessFlags := 26, nameIndex := 719, descriptorIndex := 716, attributes := #[] }, { accessFlags := 4120, nameIndex := 445, descriptorIndex := 117, attributes := #[] }])
  fields := #[{ name := "MIN_ARRAY_SORT_GRAN", type := .int, accessFlags := 26, slot := 0, constantValue := 0 }, { name := "INSERTIONSORT_THRESHOLD", type := .int, accessFlags := 26, slot := 1, constantValue := 0 }, { name := "$assertionsDisabled", type := .boolean, accessFlags := 4120, slot := 2, constantValue := 0 }]
  methods := #[k3m0, k3m1]
  instanceTypes := #[]
  staticTypes := #[.int, .int, .boolean]
  resolved := Array.replicate 1029 none
  statics := none }

def pool4 : Array CpInfo := pool [(1, .class_ 2), (0, u "java/lang/Math"), (1, .class_ 6), (1, u "java/lang/Object"), (0, u "<init>"), (0, u "()V"), (89, .class_ 100), (1, u "java/lang/Math$RandomNumberGeneratorHolder"), (71, u "negativeZeroFloatBits"), (0, u "J"), (2, u "negativeZeroDoubleBits"), (24, u "min"), (43, u "$assertionsDisabled"), (0, u "Z"), (88, u "(II)I"), (2, u "twoToTheDoubleScaleDown"), (0, u "D"), (4, u "twoToTheDoubleScaleUp"), (9, u "E"), (3, u "PI"), (2, u "TAU"), (2, u "DEGREES_TO_RADIANS"), (0, u "RADIANS_TO_DEGREES")] 94

def k4m0 : Method := { name := "<init>", desc := "()V", sig := { parameters := [], returnType := none }, accessFlags := 2, code := none }
def k4c1 : Code := { maxStack := 2, maxLocals := 2, code := jdk_29_method_69_code, exceptionTable := #[], attributes := #[] }
def k4m1 : Method := { name := "min", desc := "(II)I", sig := { parameters := [.int, .int], returnType := some .int }, accessFlags := 9, code := some k4c1 }
/-- java/lang/Math -/
def k4 : Class := { plain "java/lang/Math" (some 0) with
  accessFlags := 49
  interfaces := #[]
  cf := some (fileOf pool4 1 #[.nestMembers #[98]] #[{ accessFlags := 2, nameIndex := 7, descriptorIndex := 8, attributes := #[] }, { accessFlags := 9, nameIndex := 201, descriptorIndex := 335, attributes := #[] }] 49 4 #[] #[{ accessFlags := 25, nameIndex := 354, descriptorIndex := 339, attributes := #[] }, { accessFlags := 25, nameIndex := 358, descriptorIndex := 339, attributes := #[] }, { accessFlags := 25, nameIndex := 361, descriptorIndex := 339, attributes := #[] }, { accessFlags := 26, nameIndex := 364, descriptorIndex := 339, attributes := #[] }, { accessFlags := 26, nameIndex := 365, descriptorIndex := 339, attributes := #[] }, { accessFlags := 26, nameIndex := 172, descriptorIndex := 173, attributes := #[] }, { accessFlags := 26, nameIndex := 176, descriptorIndex := 173, attributes := #[] }, { accessFlags := 8, nameIndex := 344, descriptorIndex := 339, attributes := #[] }, { accessFlags := 8, nameIndex := 338, descriptorIndex := 339, attributes := #[] }, { accessFlags := 4120, nameIndex := 245, descriptorIndex := 246, attributes := #[] }])
  fields := #[{ name := "E", type := .double, accessFlags := 25, slot := 0, constantValue := 0 }, { name := "PI", type := .double, accessFlags := 25, slot := 1, constantValue := 0 }, { name := "TAU", type := .double, accessFlags := 25, slot := 2, constantValue := 0 }, { name := "DEGREES_TO_RADIANS", type := .double, accessFlags := 26, slot := 3, constantValue := 0 }, { name := "RADIANS_TO_DEGREES", type := .double, accessFlags := 26, slot := 4, constantValue := 0 }, { name := "negativeZeroFloatBits", type := .long, accessFlags := 26, slot := 5, constantValue := 0 }, { name := "negativeZeroDoubleBits", type := .long, accessFlags := 26, slot := 6, constantValue := 0 }, { name := "twoToTheDoubleScaleUp", type := .double, accessFlags := 8, slot := 7, constantValue := 0 }, { name := "twoToTheDoubleScaleDown", type := .double, accessFlags := 8, slot := 8, constantValue := 0 }, { name := "$assertionsDisabled", type := .boolean, accessFlags := 4120, slot := 9, constantValue := 0 }]
  methods := #[k4m0, k4m1]
  instanceTypes := #[]
  staticTypes := #[.double, .double, .double, .double, .double, .long, .long, .double, .double, .boolean]
  resolved := Array.replicate 460 none
  statics := none }

def pool5 : Array CpInfo := pool [(2, .class_ 4), (1, u "java/lang/Object"), (0, u "<init>"), (0, u "()V"), (1, .class_ 10), (1, u "java/lang/System"), (0, u "allowSecurityManager"), (0, u "I"), (16, u "cons"), (0, u "Ljava/io/Console;"), (77, .class_ 110), (1, u "java/lang/System$CallersHolder"), (43, u "initialErrStream"), (0, u "Ljava/io/PrintStream;"), (19, u "security"), (0, u "Ljava/lang/SecurityManager;"), (31, .class_ 209), (0, u "java/lang/System$1"), (7, u "props"), (0, u "Ljava/util/Properties;"), (2, u "lineSeparator"), (0, u "Ljava/lang/String;"), (96, .class_ 321), (1, u "java/lang/System$LoggerFinder"), (5, .class_ 328), (0, u "java/lang/System$Logger"), (67, u "err"), (2, u "out"), (91, u "notSupportedJnuEncoding"), (15, u "in"), (17, u "initialIn"), (0, u "Ljava/io/InputStream;"), (35, u "bootLayer"), (0, u "Ljava/lang/ModuleLayer;"), (99, .class_ 664), (0, u "java/lang/System$2"), (9, u "NEVER"), (2, u "MAYBE"), (49, u "arraycopy"), (0, u "(Ljava/lang/Object;ILjava/lang/Object;II)V"), (72, .class_ 802), (0, u "java/lang/System$Logger$Level")] 31

def k5m0 : Method := { name := "<init>", desc := "()V", sig := { parameters := [], returnType := none }, accessFlags := 2, code := none }
def k5m1 : Method := { name := "arraycopy", desc := "(Ljava/lang/Object;ILjava/lang/Object;II)V", sig := { parameters := [(.object "java/lang/Object"), .int, (.object "java/lang/Object"), .int, .int], returnType := none }, accessFlags := 265, code := none }
/-- java/lang/System -/
def k5 : Class := { plain "java/lang/System" (some 0) with
  accessFlags := 49
  interfaces := #[]
  cf := some (fileOf pool5 8 #[.nestMembers #[319, 327, 801, 108, 663, 208]] #[{ accessFlags := 2, nameIndex := 5, descriptorIndex := 6, attributes := #[] }, { accessFlags := 265, nameIndex := 727, descriptorIndex := 728, attributes := #[] }] 49 2 #[] #[{ accessFlags := 25, nameIndex := 507, descriptorIndex := 526, attributes := #[] }, { accessFlags := 25, nameIndex := 399, descriptorIndex := 155, attributes := #[] }, { accessFlags := 25, nameIndex := 396, descriptorIndex := 155, attributes := #[] }, { accessFlags := 10, nameIndex := 525, descriptorIndex := 526, attributes := #[] }, { accessFlags := 26, nameIndex := 674, descriptorIndex := 12, attributes := #[] }, { accessFlags := 26, nameIndex := 677, descriptorIndex := 12, attributes := #[] }, { accessFlags := 10, nameIndex := 11, descriptorIndex := 12, attributes := #[] }, { accessFlags := 74, nameIndex := 175, descriptorIndex := 176, attributes := #[] }, { accessFlags := 10, nameIndex := 491, descriptorIndex := 222, attributes := #[] }, { accessFlags := 74, nameIndex := 29, descriptorIndex := 30, attributes := #[] }, { accessFlags := 74, nameIndex := 154, descriptorIndex := 155, attributes := #[] }, { accessFlags := 10, nameIndex := 217, descriptorIndex := 218, attributes := #[] }, { accessFlags := 10, nameIndex := 221, descriptorIndex := 222, attributes := #[] }, { accessFlags := 8, nameIndex := 562, descriptorIndex := 563, attributes := #[] }])
  fields := #[{ name := "in", type := (.object "java/io/InputStream"), accessFlags := 25, slot := 0, constantValue := 0 }, { name := "out", type := (.object "java/io/PrintStream"), accessFlags := 25, slot := 1, constantValue := 0 }, { name := "err", type := (.object "java/io/PrintStream"), accessFlags := 25, slot := 2, constantValue := 0 }, { name := "initialIn", type := (.object "java/io/InputStream"), accessFlags := 10, slot := 3, constantValue := 0 }, { name := "NEVER", type := .int, accessFlags := 26, slot := 4, constantValue := 0 }, { name := "MAYBE", type := .int, accessFlags := 26, slot := 5, constantValue := 0 }, { name := "allowSecurityManager", type := .int, accessFlags := 10, slot := 6, constantValue := 0 }, { name := "security", type := (.object "java/lang/SecurityManager"), accessFlags := 74, slot := 7, constantValue := 0 }, { name := "notSupportedJnuEncoding", type := (.object "java/lang/String"), accessFlags := 10, slot := 8, constantValue := 0 }, { name := "cons", type := (.object "java/io/Console"), accessFlags := 74, slot := 9, constantValue := 0 }, { name := "initialErrStream", type := (.object "java/io/PrintStream"), accessFlags := 74, slot := 10, constantValue := 0 }, { name := "props", type := (.object "java/util/Properties"), accessFlags := 10, slot := 11, constantValue := 0 }, { name := "lineSeparator", type := (.object "java/lang/String"), accessFlags := 10, slot := 12, constantValue := 0 }, { name := "bootLayer", type := (.object "java/lang/ModuleLayer"), accessFlags := 8, slot := 13, constantValue := 0 }]
  methods := #[k5m0, k5m1]
  instanceTypes := #[]
  staticTypes := #[(.object "java/io/InputStream"), (.object "java/io/PrintStream"), (.object "java/io/PrintStream"), (.object "java/io/InputStream"), .int, .int, .int, (.object "java/lang/SecurityManager"), (.object "java/lang/String"), (.object "java/io/Console"), (.object "java/io/PrintStream"), (.object "java/util/Properties"), (.object "java/lang/String"), (.object "java/lang/ModuleLayer")]
  resolved := Array.replicate 834 none
  statics := none }

def pool6 : Array CpInfo := pool [(1, u "java/lang/Cloneable"), (0, .class_ 1), (0, u "java/lang/Object"), (0, .class_ 3)] 3

/-- java/lang/Cloneable -/
def k6 : Class := { plain "java/lang/Cloneable" (some 0) with
  accessFlags := 1537
  interfaces := #[]
  cf := some (fileOf pool6 2 #[] #[] 1537 4 #[] #[])
  fields := #[]
  methods := #[]
  instanceTypes := #[]
  staticTypes := #[]
  resolved := Array.replicate 8 none
  statics := none }

def pool7 : Array CpInfo := pool [(1, u "java/io/Serializable"), (0, .class_ 1), (0, u "java/lang/Object"), (0, .class_ 3)] 3

/-- java/io/Serializable -/
def k7 : Class := { plain "java/io/Serializable" (some 0) with
  accessFlags := 1537
  interfaces := #[]
  cf := some (fileOf pool7 2 #[] #[] 1537 4 #[] #[])
  fields := #[]
  methods := #[]
  instanceTypes := #[]
  staticTypes := #[]
  resolved := Array.replicate 8 none
  statics := none }

/-- the primitive byte -/
def k8 : Class := { plain "byte" none with kind := .primitive 'B', accessFlags := 0x411 }
/-- [B -/
def k9 : Class := { plain "[B" (some 0) with kind := .array 8 .byte, interfaces := #[6, 7], accessFlags := 1041 }

/-- the primitive int -/
def k10 : Class := { plain "int" none with kind := .primitive 'I', accessFlags := 0x411 }
/-- [I -/
def k11 : Class := { plain "[I" (some 0) with kind := .array 10 .int, interfaces := #[6, 7], accessFlags := 1041 }

def heap : Heap := #[]
def classes : Array Class := #[k0, k1, k2, k3, k4, k5, k6, k7, k8, k9, k10, k11]
def interned : List (Array UInt16 × Addr) := []
def slotsUsed : Nat := 0
def theMethod : MethodId := ⟨1, 1⟩
def args0 : Array Value := #[.long 3, .int 2, .int 5, .int 77]
def aboutOver (below : List Frame) : State where
  vm := { classes := classes, interned := interned.toArray }
  heap := heap
  slotsUsed := slotsUsed
  threads := #[{ frames := .invoking theMethod args0 :: below }]
def below0 : List Frame := [.native { method := ⟨0, 0⟩, args := #[] }]
def about1 : State := aboutOver below0
def p0 : Program := .bare "" "" ""
def e0 : Env := launch0.env 0 0 0
theorem w_frames : about1.frames = Frame.invoking theMethod args0 :: below0 := rfl
set_option maxRecDepth 65536 in
theorem w_args : argsFit about1.vm theMethod args0 = true := by decide +kernel
set_option maxRecDepth 65536 in
theorem w_heap : heapFits about1 = true := by decide +kernel
set_option maxRecDepth 65536 in
theorem w_runnable : about1.curStatus? = some .runnable := by decide +kernel
set_option maxRecDepth 65536 in
theorem w_alone : about1.alone = true := by decide +kernel
set_option maxRecDepth 65536 in
theorem w_named : about1.methodNamed? x = some theMethod := by decide +kernel
set_option maxRecDepth 65536 in
theorem w_hears : about1.hears theMethod below0 = true := by decide +kernel
set_option maxRecDepth 65536 in
theorem w_ripe : about1.ripe theMethod args0 below0 = true := by decide +kernel
theorem w_running : about1.status = .running := rfl
set_option maxRecDepth 65536 in
theorem w_room : about1.hasRoom e0.platform room_1 = true :=
  launch0.hasRoom_least _ room_1 (by decide +kernel) (by decide +kernel) (by decide +kernel) (by decide +kernel) (by decide +kernel) (by decide +kernel)
theorem allAtoms_all (ts : List Jvm.Cond) (a : Array Jvm.Value) (st : Jvm.State) : (allAtoms ts).before a st = ts.all (fun c => c.before a st) := by
  induction ts with
  | nil => rfl
  | cons c t ih =>
    show (Jvm.Cond.and c (allAtoms t)).before a st = _
    rw [Jvm.Cond.before_and, ih, List.all_cons]
def words1 : List Jvm.Cond := Jvm.Cond.code x code maxLocals ret :: tables_1
/-- a 'code' word, met by the world's own term for the bytes: nothing is compared byte by byte -/
theorem code_word {y : MethodName} {bytes : ByteArray} {mx : Nat} {rt : Option FieldType} {a : Array Value} {s : State} {m : MethodId} {meth : Method} {c : Code} (h1 : s.methodNamed? y = some m) (h2 : s.vm.method? m = some meth) (h3 : meth.code = some c) (h4 : c.code = bytes)
    (h5 : (c.maxLocals == mx && c.exceptionTable.isEmpty && decide (c.maxStack ≤ mostOperands) && decide (meth.sig.returnType = rt) && !meth.locks && decide (parseMethodDescriptor y.desc = some meth.sig)) = true) : (Jvm.Cond.code y bytes mx rt).before a s = true := by
  simp only [Bool.and_eq_true, beq_iff_eq, Bool.not_eq_true', decide_eq_true_eq] at h5
  obtain ⟨⟨⟨⟨⟨g1, g2⟩, g3⟩, g4⟩, g5⟩, g6⟩ := h5
  simp [Cond.before, Cond.holds, Cond.value, h1, h2, h3, h4, g1, g2, g3, g4, g5, g6]
def isCode : Jvm.Cond → Bool
  | .code _ _ _ _ => true
  | _ => false
theorem all_split {L : List Jvm.Cond} {P : Jvm.Cond → Bool} (h1 : L.all (fun c => isCode c || P c) = true) (h2 : ∀ c ∈ L.filter isCode, P c = true) : L.all P = true := by
  refine List.all_eq_true.mpr fun c hc => ?_
  have h := List.all_eq_true.mp h1 c hc
  rcases Bool.eq_false_or_eq_true (isCode c) with hi | hi
  · exact h2 c (List.mem_filter.mpr ⟨hc, hi⟩)
  · simpa [hi] using h
set_option maxRecDepth 65536 in
theorem w_c0 : (Jvm.Cond.code x code maxLocals ret).before args0 about1 = true := code_word (m := ⟨1, 1⟩) (meth := k1m1) (c := k1c1) (by decide +kernel) rfl rfl rfl (by decide +kernel)
set_option maxRecDepth 65536 in
theorem w_c1 : (Jvm.Cond.code ({ cls := "com/example/khepri/khepri/ImageWriter", name := "<init>", desc := "()V" } : Jvm.MethodName) prog_141_method_1_code (1 : Nat) (Option.none : Option Jvm.ClassFile.FieldType)).before args0 about1 = true := code_word (m := ⟨2, 0⟩) (meth := k2m0) (c := k2c0) (by decide +kernel) rfl rfl rfl (by decide +kernel)
set_option maxRecDepth 65536 in
theorem w_c2 : (Jvm.Cond.code ({ cls := "java/lang/Object", name := "<init>", desc := "()V" } : Jvm.MethodName) object_method_1_code (1 : Nat) (Option.none : Option Jvm.ClassFile.FieldType)).before args0 about1 = true := code_word (m := ⟨0, 0⟩) (meth := k0m0) (c := k0c0) (by decide +kernel) rfl rfl rfl (by decide +kernel)
set_option maxRecDepth 65536 in
theorem w_c3 : (Jvm.Cond.code ({ cls := "com/example/khepri/khepri/ImageWriter", name := "writeLong", desc := "(J)V" } : Jvm.MethodName) prog_141_method_7_code (3 : Nat) (Option.none : Option Jvm.ClassFile.FieldType)).before args0 about1 = true := code_word (m := ⟨2, 4⟩) (meth := k2m4) (c := k2c4) (by decide +kernel) rfl rfl rfl (by decide +kernel)
set_option maxRecDepth 65536 in
theorem w_c4 : (Jvm.Cond.code ({ cls := "com/example/khepri/khepri/ImageWriter", name := "writeInt", desc := "(I)V" } : Jvm.MethodName) prog_141_method_4_code (3 : Nat) (Option.none : Option Jvm.ClassFile.FieldType)).before args0 about1 = true := code_word (m := ⟨2, 1⟩) (meth := k2m1) (c := k2c1) (by decide +kernel) rfl rfl rfl (by decide +kernel)
set_option maxRecDepth 65536 in
theorem w_c5 : (Jvm.Cond.code ({ cls := "com/example/khepri/khepri/ImageWriter", name := "room", desc := "(I)V" } : Jvm.MethodName) prog_141_method_12_code (2 : Nat) (Option.none : Option Jvm.ClassFile.FieldType)).before args0 about1 = true := code_word (m := ⟨2, 6⟩) (meth := k2m6) (c := k2c6) (by decide +kernel) rfl rfl rfl (by decide +kernel)
set_option maxRecDepth 65536 in
theorem w_c6 : (Jvm.Cond.code ({ cls := "com/example/khepri/khepri/ImageWriter", name := "toByteArray", desc := "()[B" } : Jvm.MethodName) prog_141_method_11_code (1 : Nat) (Option.some (Jvm.ClassFile.FieldType.array Jvm.ClassFile.FieldType.byte))).before args0 about1 = true := code_word (m := ⟨2, 5⟩) (meth := k2m5) (c := k2c5) (by decide +kernel) rfl rfl rfl (by decide +kernel)
set_option maxRecDepth 65536 in
theorem w_c7 : (Jvm.Cond.code ({ cls := "java/util/Arrays", name := "copyOf", desc := "([BI)[B" } : Jvm.MethodName) jdk_65_method_121_code (3 : Nat) (Option.some (Jvm.ClassFile.FieldType.array Jvm.ClassFile.FieldType.byte))).before args0 about1 = true := code_word (m := ⟨3, 1⟩) (meth := k3m1) (c := k3c1) (by decide +kernel) rfl rfl rfl (by decide +kernel)
set_option maxRecDepth 65536 in
theorem w_c8 : (Jvm.Cond.code ({ cls := "java/lang/Math", name := "min", desc := "(II)I" } : Jvm.MethodName) jdk_29_method_69_code (2 : Nat) (Option.some Jvm.ClassFile.FieldType.int)).before args0 about1 = true := code_word (m := ⟨4, 1⟩) (meth := k4m1) (c := k4c1) (by decide +kernel) rfl rfl rfl (by decide +kernel)
set_option maxRecDepth 65536 in
theorem w_c9 : (Jvm.Cond.code ({ cls := "com/example/khepri/khepri/ImageWriter", name := "writeIntAt", desc := "(II)V" } : Jvm.MethodName) prog_141_method_6_code (4 : Nat) (Option.none : Option Jvm.ClassFile.FieldType)).before args0 about1 = true := code_word (m := ⟨2, 3⟩) (meth := k2m3) (c := k2c3) (by decide +kernel) rfl rfl rfl (by decide +kernel)
set_option maxRecDepth 65536 in
theorem w_c10 : (Jvm.Cond.code ({ cls := "com/example/khepri/khepri/ImageWriter", name := "position", desc := "()I" } : Jvm.MethodName) prog_141_method_5_code (1 : Nat) (Option.some Jvm.ClassFile.FieldType.int)).before args0 about1 = true := code_word (m := ⟨2, 2⟩) (meth := k2m2) (c := k2c2) (by decide +kernel) rfl rfl rfl (by decide +kernel)
set_option maxRecDepth 65536 in
theorem w_c11 : (Jvm.Cond.code ({ cls := "com/example/khepri/khepri/ImageWriterWriteIntAtPinLaw", name := "same", desc := "([B[BII)Z" } : Jvm.MethodName) method_3_code (4 : Nat) (Option.some Jvm.ClassFile.FieldType.boolean)).before args0 about1 = true := code_word (m := ⟨1, 2⟩) (meth := k1m2) (c := k1c2) (by decide +kernel) rfl rfl rfl (by decide +kernel)
def codes1 : List Jvm.Cond := [Jvm.Cond.code x code maxLocals ret, Jvm.Cond.code ({ cls := "com/example/khepri/khepri/ImageWriter", name := "<init>", desc := "()V" } : Jvm.MethodName) prog_141_method_1_code (1 : Nat) (Option.none : Option Jvm.ClassFile.FieldType), Jvm.Cond.code ({ cls := "java/lang/Object", name := "<init>", desc := "()V" } : Jvm.MethodName) object_method_1_code (1 : Nat) (Option.none : Option Jvm.ClassFile.FieldType), Jvm.Cond.code ({ cls := "com/example/khepri/khepri/ImageWriter", name := "writeLong", desc := "(J)V" } : Jvm.MethodName) prog_141_method_7_code (3 : Nat) (Option.none : Option Jvm.ClassFile.FieldType), Jvm.Cond.code ({ cls := "com/example/khepri/khepri/ImageWriter", name := "writeInt", desc := "(I)V" } : Jvm.MethodName) prog_141_method_4_code (3 : Nat) (Option.none : Option Jvm.ClassFile.FieldType), Jvm.Cond.code ({ cls := "com/example/khepri/khepri/ImageWriter", name := "room", desc := "(I)V" } : Jvm.MethodName) prog_141_method_12_code (2 : Nat) (Option.none : Option Jvm.ClassFile.FieldType), Jvm.Cond.code ({ cls := "com/example/khepri/khepri/ImageWriter", name := "toByteArray", desc := "()[B" } : Jvm.MethodName) prog_141_method_11_code (1 : Nat) (Option.some (Jvm.ClassFile.FieldType.array Jvm.ClassFile.FieldType.byte)), Jvm.Cond.code ({ cls := "java/util/Arrays", name := "copyOf", desc := "([BI)[B" } : Jvm.MethodName) jdk_65_method_121_code (3 : Nat) (Option.some (Jvm.ClassFile.FieldType.array Jvm.ClassFile.FieldType.byte)), Jvm.Cond.code ({ cls := "java/lang/Math", name := "min", desc := "(II)I" } : Jvm.MethodName) jdk_29_method_69_code (2 : Nat) (Option.some Jvm.ClassFile.FieldType.int), Jvm.Cond.code ({ cls := "com/example/khepri/khepri/ImageWriter", name := "writeIntAt", desc := "(II)V" } : Jvm.MethodName) prog_141_method_6_code (4 : Nat) (Option.none : Option Jvm.ClassFile.FieldType), Jvm.Cond.code ({ cls := "com/example/khepri/khepri/ImageWriter", name := "position", desc := "()I" } : Jvm.MethodName) prog_141_method_5_code (1 : Nat) (Option.some Jvm.ClassFile.FieldType.int), Jvm.Cond.code ({ cls := "com/example/khepri/khepri/ImageWriterWriteIntAtPinLaw", name := "same", desc := "([B[BII)Z" } : Jvm.MethodName) method_3_code (4 : Nat) (Option.some Jvm.ClassFile.FieldType.boolean)]
set_option maxRecDepth 65536 in
theorem codes_eq : words1.filter isCode = codes1 := rfl
theorem w_codes : ∀ c ∈ words1.filter isCode, c.before args0 about1 = true := by
  rw [codes_eq]
  intro c hc
  simp only [codes1, List.mem_cons, List.not_mem_nil, or_false] at hc
  rcases hc with rfl | rfl | rfl | rfl | rfl | rfl | rfl | rfl | rfl | rfl | rfl | rfl
  · exact w_c0
  · exact w_c1
  · exact w_c2
  · exact w_c3
  · exact w_c4
  · exact w_c5
  · exact w_c6
  · exact w_c7
  · exact w_c8
  · exact w_c9
  · exact w_c10
  · exact w_c11
set_option maxRecDepth 65536 in
theorem w_t1 : (words1.take 24).all (fun c => isCode c || c.before args0 about1) = true := by decide +kernel
set_option maxRecDepth 65536 in
theorem w_t2 : ((words1.drop 24).take 24).all (fun c => isCode c || c.before args0 about1) = true := by decide +kernel
set_option maxRecDepth 65536 in
theorem w_t3 : ((words1.drop 24).drop 24).all (fun c => isCode c || c.before args0 about1) = true := by decide +kernel
theorem w_tables : (allAtoms (Jvm.Cond.code x code maxLocals ret :: tables_1)).before args0 about1 = true := by
  rw [allAtoms_all]
  show words1.all (fun c => c.before args0 about1) = true
  refine all_split ?_ w_codes
  rw [← List.take_append_drop 24 words1, List.all_append, w_t1, ← List.take_append_drop 24 (words1.drop 24), List.all_append, w_t2, w_t3]
  rfl
set_option maxRecDepth 65536 in
theorem w_case : (Jvm.Cond.and given_1 narrow_1).before args0 about1 = true := by decide +kernel
theorem w_applies : (headSpec (Jvm.Cond.code x code maxLocals ret :: tables_1) room_1).applies x e0.platform about1 = true :=
  (Spec.applies_iff w_frames).mpr ⟨w_running, w_runnable, w_alone, w_named, w_hears, w_ripe, w_room, w_tables⟩
theorem atStart : AtStart classFile x code maxLocals ret World_1 tables_1 room_1 Calls_1 rest_1 Pre_1 launch0 p0 e0 about1 theMethod args0 below0 :=
  ⟨lists_1, trivial, launch0.admits_env _ _ _, launch0.least_env, fairChoices_fair.cas, fairChoices_fair.clock, w_frames, w_args, w_heap, w_applies, trivial, trivial, w_case⟩
end start1
theorem witness_1 : WitnessClaimed_1 := ⟨start1.p0, start1.e0, start1.about1, start1.theMethod, start1.args0, start1.below0, start1.atStart⟩
end Jvm.Pilot.@@N@@
